/- A packet that was written reads back: plain. -/
import Derived.Test.YtknfakehijoogaaDoorPkH
namespace Go.Proofs.YtknfakehijoogaaDoor
open Go Go.Vc
set_option maxRecDepth 100000

/-- These bytes stand there. -/
def stands (w : ByteArray) (p : Nat) (L : List UInt8) : Prop := p + L.length ≤ w.size ∧ (w.data.toList.drop p).take L.length = L
theorem wsize (w : ByteArray) : w.data.toList.length = w.size := Array.length_toList
theorem stands_all (w : ByteArray) : stands w 0 w.data.toList := by
  refine ⟨by rw [wsize]; omega, ?_⟩
  rw [List.drop_zero, List.take_length]
theorem stands_append {w : ByteArray} {p : Nat} {L M : List UInt8} (h : stands w p (L ++ M)) : stands w p L ∧ stands w (p + L.length) M := by
  obtain ⟨h1, h2⟩ := h
  rw [List.length_append] at h1 h2
  rw [List.take_add, List.drop_drop] at h2
  have h3 := List.append_inj h2 (by rw [List.length_take, List.length_drop, wsize]; omega)
  exact ⟨⟨by omega, h3.1⟩, ⟨by omega, h3.2⟩⟩
theorem byt_of {w : ByteArray} {p : Nat} {x : UInt8} {L : List UInt8} (h : stands w p (x :: L)) : byt w p = x.toNat := by
  obtain ⟨h1, h2⟩ := h
  have h3 : (w.data.toList.drop p)[0]? = some x := by
    have := congrArg (·[0]?) h2
    simp only [List.getElem?_cons_zero] at this
    rw [List.getElem?_take, if_pos (by rw [List.length_cons]; omega)] at this
    exact this
  rw [List.getElem?_drop] at h3
  unfold byt
  rw [List.getD_eq_getElem?_getD, show p = p + 0 from rfl, h3]
  rfl
theorem byt_ofNat {w : ByteArray} {p n : Nat} {L : List UInt8} (h : stands w p (UInt8.ofNat n :: L)) (hn : n < 256) : byt w p = n := by
  rw [byt_of h, UInt8.toNat_ofNat']
  omega
theorem sub_of {w s : ByteArray} {p : Nat} (h : stands w p s.data.toList) : sub w p (p + s.size) = s := by
  obtain ⟨_, h2⟩ := h
  rw [wsize] at h2
  apply ByteArray.ext
  apply Array.ext'
  unfold sub
  rw [ByteArray.data_extract, Array.toList_extract, List.extract_eq_take_drop, show p + s.size - p = s.size by omega, h2]

/-- A length, in one byte or two. -/
def lenL (n : Nat) : List UInt8 := if n < 252 then [UInt8.ofNat n] else [UInt8.ofNat (252 + n % 4), UInt8.ofNat ((n - (252 + n % 4)) / 4)]
theorem flen_of {w : ByteArray} {p e n : Nat} (h : stands w p (lenL n)) (he : p + (lenL n).length ≤ e) (hn : n ≤ 1275) : flen w e p = some (n, (lenL n).length) := by
  unfold lenL at h he ⊢
  unfold flen
  split at h
  · rename_i c
    rw [if_pos c] at he ⊢
    have he : p + 1 ≤ e := he
    rw [byt_ofNat h (by omega), if_neg (by omega), if_pos c]
    rfl
  · rename_i c
    rw [if_neg c] at he ⊢
    have he : p + 2 ≤ e := he
    have h2 := (stands_append (L := [UInt8.ofNat (252 + n % 4)]) (M := [UInt8.ofNat ((n - (252 + n % 4)) / 4)]) h).2
    rw [byt_ofNat h (by omega), byt_ofNat (p := p + 1) h2 (by omega), if_neg (by omega), if_neg (by omega), if_neg (by omega)]
    show some (252 + n % 4 + 4 * ((n - (252 + n % 4)) / 4), 2) = some (n, 2)
    rw [show 252 + n % 4 + 4 * ((n - (252 + n % 4)) / 4) = n by omega]
theorem flens_cons (w : ByteArray) (e p : Nat) : ∀ k, flens w e p (k + 1) = match flen w e p with
    | none => none
    | some (n, r) => match flens w e (p + r) k with
      | none => none
      | some (l, q) => some (n :: l, q)
  | 0 => by
    rw [flens_succ]
    show (match flen w e p with | none => none | some (n, r) => some ([] ++ [n], p + r)) = _
    cases flen w e p <;> rfl
  | k + 1 => by
    rw [flens_succ, flens_cons w e p k]
    cases flen w e p with
    | none => rfl
    | some x =>
      obtain ⟨n, r⟩ := x
      simp only
      rw [flens_succ w e (p + r) k]
      cases flens w e (p + r) k with
      | none => rfl
      | some y =>
        obtain ⟨l, q⟩ := y
        simp only
        cases flen w e q <;> rfl
theorem flens_of {w : ByteArray} {e : Nat} : ∀ {ns : List Nat} {p : Nat}, stands w p (ns.flatMap lenL) → p + (ns.flatMap lenL).length ≤ e → (∀ n ∈ ns, n ≤ 1275) → flens w e p ns.length = some (ns, p + (ns.flatMap lenL).length)
  | [], p, _, _, _ => rfl
  | n :: ns, p, h, he, hn => by
    rw [List.flatMap_cons] at h he ⊢
    rw [List.length_append] at he ⊢
    obtain ⟨h1, h2⟩ := stands_append h
    rw [List.length_cons, flens_cons, flen_of h1 (by omega) (hn n (List.mem_cons_self ..))]
    simp only
    rw [flens_of h2 (by omega) (fun m hm => hn m (List.mem_cons_of_mem _ hm))]
    simp only
    rw [Nat.add_assoc]
theorem pads_of {w : ByteArray} {r : Nat} (hr : r < 255) : ∀ {q k f : Nat}, q < f → stands w (2 + k) (List.replicate q 255 ++ [UInt8.ofNat r]) → pads w f k = some (k + q)
  | 0, k, f, hf, h => by
    obtain ⟨f, rfl⟩ : ∃ g, f = g + 1 := ⟨f - 1, by omega⟩
    have h : stands w (2 + k) [UInt8.ofNat r] := h
    have h1 : 2 + k + 1 ≤ w.size := h.1
    unfold pads
    rw [if_neg (by omega), byt_ofNat h (by omega), if_neg (by omega)]
    rfl
  | q + 1, k, f, hf, h => by
    obtain ⟨f, rfl⟩ : ∃ g, f = g + 1 := ⟨f - 1, by omega⟩
    rw [List.replicate_succ, List.cons_append] at h
    have h2 := (stands_append (L := [255]) h).2
    have h1 : 2 + k + ([255] ++ (List.replicate q 255 ++ [UInt8.ofNat r])).length ≤ w.size := h.1
    rw [List.length_append, List.length_singleton] at h1
    unfold pads
    rw [if_neg (by omega), byt_of h, if_pos (show UInt8.toNat 255 = 255 from rfl), pads_of hr (q := q) (k := k + 1) (by omega) h2, show k + 1 + q = k + (q + 1) by omega]

def dat (ss : List ByteArray) : List UInt8 := ss.flatMap fun s => s.data.toList
def szs (ss : List ByteArray) : List Nat := ss.map ByteArray.size
theorem dat_len (ss : List ByteArray) : (dat ss).length = total (szs ss) := by
  induction ss with
  | nil => rfl
  | cons s t ih =>
    show (List.flatMap _ (s :: t)).length = total (s.size :: szs t)
    rw [List.flatMap_cons, List.length_append, total_cons, wsize, ← ih]
    rfl
theorem cuts_of {w : ByteArray} : ∀ {ss : List ByteArray} {p : Nat}, stands w p (dat ss) → strsOf w (cuts p (szs ss)) = ss
  | [], p, _ => rfl
  | s :: t, p, h => by
    have h : stands w p (s.data.toList ++ dat t) := h
    obtain ⟨h1, h2⟩ := stands_append h
    rw [wsize] at h2
    show sub w p (p + s.size) :: strsOf w (cuts (p + s.size) (szs t)) = s :: t
    rw [sub_of h1, cuts_of h2]
theorem total_replicate (n : Nat) : ∀ m, total (List.replicate m n) = m * n
  | 0 => by rw [Nat.zero_mul]; rfl
  | m + 1 => by rw [List.replicate_succ, total_cons, total_replicate n m, Nat.succ_mul]; omega
theorem evenly_cuts (p n : Nat) : ∀ m, evenly p n m = cuts p (List.replicate m n)
  | 0 => rfl
  | m + 1 => by rw [evenly_snoc, List.replicate_succ', cuts_snoc, total_replicate, evenly_cuts p n m]

/-! What is written -/
def hdN (cfg code : Nat) (st : Bool) : Nat := cfg * 8 + (if st = true then 4 else 0) + code
def padL (pad : Nat) : List UInt8 := if pad = 0 then [] else List.replicate ((pad - 1) / 254) 255 ++ [UInt8.ofNat (pad - 254 * ((pad - 1) / 254))]
def b1N (pad : Nat) (vbr : Bool) (n : Nat) : Nat := n + (if vbr = true then 128 else 0) + (if pad = 0 then 0 else 64)
def lensL (vbr : Bool) (ss : List ByteArray) : List UInt8 := if vbr = true then (szs ss).dropLast.flatMap lenL else []
def midL (code pad : Nat) (vbr : Bool) (ss : List ByteArray) : List UInt8 :=
  if code = 2 then lenL ((szs ss).getD 0 0) else if code = 3 then UInt8.ofNat (b1N pad vbr ss.length) :: (padL pad ++ lensL vbr ss) else []
def wrL (cfg code : Nat) (st : Bool) (pad : Nat) (vbr : Bool) (ss : List ByteArray) : List UInt8 :=
  UInt8.ofNat (hdN cfg code st) :: (midL code pad vbr ss ++ (dat ss ++ List.replicate pad 0))
structure fineP (cfg code pad : Nat) (vbr : Bool) (ss : List ByteArray) : Prop where
  lcfg : cfg < 32
  lcode : code < 4
  lpad : pad ≤ 5000
  ne : ss ≠ []
  len : ss.length ≤ 48
  most : ∀ s ∈ ss, s.size ≤ 1275
  plain : code < 3 → pad = 0 ∧ vbr = false
  c0 : code = 0 → ss.length = 1
  c1 : code = 1 → ss.length = 2 ∧ ∀ s ∈ ss, s.size = (szs ss).getD 0 0
  c2 : code = 2 → ss.length = 2
  c3 : code = 3 → (vbr = false → ∀ s ∈ ss, s.size = (szs ss).getD 0 0) ∧ ss.length * dura cfg ≤ 5760

theorem b1_facts {pad : Nat} {vbr : Bool} {n : Nat} (h : n < 64) : b1N pad vbr n < 256 ∧ b1N pad vbr n % 64 = n ∧ (b1N pad vbr n / 64 % 2 = 1 ↔ pad ≠ 0) ∧ (b1N pad vbr n / 128 = 0 ↔ vbr = false) := by
  unfold b1N
  cases vbr
  · rw [if_neg (by decide)]
    by_cases c : pad = 0
    · rw [if_pos c]
      exact ⟨by omega, by omega, ⟨fun h => by omega, fun h => absurd c h⟩, ⟨fun _ => rfl, fun _ => by omega⟩⟩
    · rw [if_neg c]
      exact ⟨by omega, by omega, ⟨fun _ => c, fun _ => by omega⟩, ⟨fun _ => rfl, fun _ => by omega⟩⟩
  · rw [if_pos rfl]
    by_cases c : pad = 0
    · rw [if_pos c]
      exact ⟨by omega, by omega, ⟨fun h => by omega, fun h => absurd c h⟩, ⟨fun h => by omega, fun h => by cases h⟩⟩
    · rw [if_neg c]
      exact ⟨by omega, by omega, ⟨fun _ => c, fun _ => by omega⟩, ⟨fun h => by omega, fun h => by cases h⟩⟩
theorem frames_wr {w : ByteArray} {cfg code pad : Nat} {st vbr : Bool} {ss : List ByteArray} (h : w.data.toList = wrL cfg code st pad vbr ss) (hf : fineP cfg code pad vbr ss) :
    byt w 0 / 8 = cfg ∧ decide (byt w 0 / 4 % 2 = 1) = st ∧ frames w = some (cuts (1 + (midL code pad vbr ss).length) (szs ss)) ∧ strsOf w (cuts (1 + (midL code pad vbr ss).length) (szs ss)) = ss := by
  have hs := stands_all w
  have hz := wsize w
  rw [h] at hs hz
  unfold wrL at hs hz
  rw [List.length_cons, List.length_append, List.length_append, List.length_replicate, dat_len] at hz
  have hd := hf.lcfg
  have hc := hf.lcode
  have hhd : hdN cfg code st < 256 ∧ hdN cfg code st / 8 = cfg ∧ hdN cfg code st % 4 = code ∧ decide (hdN cfg code st / 4 % 2 = 1) = st := by
    unfold hdN
    cases st
    · refine ⟨?_, ?_, ?_, decide_eq_false ?_⟩ <;> simp only [Bool.false_eq_true, if_false] <;> omega
    · refine ⟨?_, ?_, ?_, decide_eq_true ?_⟩ <;> simp only [if_true] <;> omega
  obtain ⟨g1, g2, g3, g4⟩ := hhd
  have hb0 := byt_ofNat hs g1
  have hs2 : stands w 1 (midL code pad vbr ss ++ (dat ss ++ List.replicate pad 0)) := (stands_append (L := [UInt8.ofNat (hdN cfg code st)]) hs).2
  obtain ⟨hm, hs3⟩ := stands_append hs2
  obtain ⟨hs4, _⟩ := stands_append hs3
  refine ⟨by rw [hb0, g2], by rw [hb0, g4], ?_, cuts_of hs4⟩
  unfold frames
  rw [if_neg (by omega), hb0, g3, g2]
  rcases (show code = 0 ∨ code = 1 ∨ code = 2 ∨ code = 3 by omega) with rfl | rfl | rfl | rfl
  · have hl := hf.c0 rfl
    obtain ⟨rfl, rfl⟩ := hf.plain (by omega)
    match ss, hl with
    | [s], _ =>
      have hsz := hf.most s (List.mem_singleton.2 rfl)
      have hz : 0 + (s.size + 0) + 1 = w.size := by
        have : total (szs [s]) = s.size := by show total [s.size] = _; rw [total_cons]; show s.size + 0 = _; rfl
        rw [this] at hz
        exact hz
      rw [if_pos rfl, if_neg (by omega), show w.size - 1 = s.size by omega]
      rfl
  · obtain ⟨hl, hsame⟩ := hf.c1 rfl
    obtain ⟨rfl, rfl⟩ := hf.plain (by omega)
    match ss, hl with
    | [s, t], _ =>
      have hsz := hf.most s (List.mem_cons_self ..)
      have ht : t.size = s.size := hsame t (List.mem_cons_of_mem _ (List.mem_cons_self ..))
      have hz : s.size + t.size + 1 = w.size := by
        have : total (szs [s, t]) = s.size + t.size := by show total [s.size, t.size] = _; rw [total_cons, total_cons]; rfl
        rw [this] at hz
        have hz : 0 + (s.size + t.size + 0) + 1 = w.size := hz
        omega
      rw [if_neg (by omega), if_pos rfl, if_neg (by omega), if_neg (by omega), show (w.size - 1) / 2 = s.size by omega]
      show _ = some [(1 + 0, s.size), (1 + 0 + s.size, t.size)]
      rw [ht]
  · have hl := hf.c2 rfl
    obtain ⟨rfl, rfl⟩ := hf.plain (by omega)
    match ss, hl with
    | [s, t], _ =>
      have hsz := hf.most s (List.mem_cons_self ..)
      have hsz2 := hf.most t (List.mem_cons_of_mem _ (List.mem_cons_self ..))
      have hm : stands w 1 (lenL s.size) := hm
      have hz : (lenL s.size).length + (s.size + t.size) + 1 = w.size := by
        have : total (szs [s, t]) = s.size + t.size := by show total [s.size, t.size] = _; rw [total_cons, total_cons]; rfl
        rw [this] at hz
        exact hz
      rw [if_neg (by omega), if_neg (by omega), if_pos rfl, flen_of hm (by omega) hsz]
      simp only
      rw [if_neg (by omega), if_neg (by omega), show w.size - (1 + (lenL s.size).length + s.size) = t.size by omega]
      rfl
  · obtain ⟨hsame, hdur⟩ := hf.c3 rfl
    have hlen := hf.len
    have hpad := hf.lpad
    have hpos := List.length_pos_iff.2 hf.ne
    have hmid : midL 3 pad vbr ss = UInt8.ofNat (b1N pad vbr ss.length) :: (padL pad ++ lensL vbr ss) := rfl
    rw [hmid] at hm hz ⊢
    have hb := b1_facts (pad := pad) (vbr := vbr) (n := ss.length) (by omega)
    obtain ⟨k1, k2, k3, k4⟩ := hb
    have hb1 := byt_ofNat hm k1
    have hm2 : stands w 2 (padL pad ++ lensL vbr ss) := (stands_append (L := [UInt8.ofNat (b1N pad vbr ss.length)]) hm).2
    obtain ⟨hm3, hm4⟩ := stands_append hm2
    rw [List.length_cons, List.length_append] at hz
    have hp1 : part1 w = some (2 + (padL pad).length, w.size - pad) := by
      unfold part1
      rw [hb1]
      by_cases c : pad = 0
      · rw [if_neg (fun h => k3.1 h c)]
        unfold padL
        rw [if_pos c, c]
        rfl
      · rw [if_pos (k3.2 c)]
        unfold padL at hm3 hz ⊢
        rw [if_neg c] at hm3 hz ⊢
        rw [List.length_append, List.length_replicate, List.length_singleton] at hz ⊢
        have hq := pads_of (w := w) (r := pad - 254 * ((pad - 1) / 254)) (by omega) (q := (pad - 1) / 254) (k := 0) (f := w.size) (by omega) hm3
        have hr := (stands_append hm3).2
        rw [List.length_replicate] at hr
        have hr := byt_ofNat hr (by omega)
        unfold padded
        rw [hq]
        simp only
        rw [Nat.zero_add, hr, show 254 * ((pad - 1) / 254) + (pad - 254 * ((pad - 1) / 254)) = pad by omega, if_neg (by omega), show 3 + (pad - 1) / 254 = 2 + ((pad - 1) / 254 + 1) by omega]
    rw [if_neg (by omega), if_neg (by omega), if_neg (by omega), if_neg (by omega), hb1, k2, if_neg (by omega), if_neg (by omega), hp1]
    simp only
    cases vbr with
    | false =>
      rw [if_pos (k4.2 rfl)]
      have hsame := hsame rfl
      have hl0 : (lensL false ss).length = 0 := rfl
      have hrep : szs ss = List.replicate ss.length ((szs ss).getD 0 0) := by
        refine List.eq_replicate_iff.2 ⟨List.length_map _, fun n hn => ?_⟩
        obtain ⟨s, hs, rfl⟩ := List.mem_map.1 hn
        exact hsame s hs
      have hn : (szs ss).getD 0 0 ≤ 1275 := by
        obtain ⟨s, hs⟩ := List.exists_mem_of_ne_nil _ hf.ne
        rw [← hsame s hs]
        exact hf.most s hs
      obtain ⟨n, hnn⟩ : ∃ n, n = (szs ss).getD 0 0 := ⟨_, rfl⟩
      rw [← hnn] at hrep hn
      rw [hrep, total_replicate] at hz
      have hsub : w.size - pad - (2 + (padL pad).length) = ss.length * n := by omega
      rw [hsub, Nat.mul_mod_right, Nat.mul_div_cancel_left _ hpos, if_neg (fun h => h rfl), if_neg (by omega), hrep, evenly_cuts]
      rw [List.length_cons, List.length_append, hl0, show 1 + ((padL pad).length + 0 + 1) = 2 + (padL pad).length by omega]
    | true =>
      rw [if_neg (fun h => by have := k4.1 h; cases this)]
      obtain ⟨i, s, rfl⟩ : ∃ i s, ss = i ++ [s] := ⟨ss.dropLast, ss.getLast hf.ne, (List.dropLast_concat_getLast hf.ne).symm⟩
      have hzs : szs (i ++ [s]) = szs i ++ [s.size] := by unfold szs; rw [List.map_append]; rfl
      have hll : lensL true (i ++ [s]) = (szs i).flatMap lenL := by
        unfold lensL
        rw [if_pos rfl, hzs, List.dropLast_concat]
      have hil : (szs i).length = i.length := List.length_map _
      have hmost := hf.most
      rw [hzs, total_snoc] at hz
      rw [hll] at hm4 hz ⊢
      have hfl := flens_of (e := w.size - pad) hm4 (by omega) (fun n hn => by
        obtain ⟨t, ht, rfl⟩ := List.mem_map.1 hn
        exact hmost t (List.mem_append_left _ ht))
      rw [hil] at hfl
      have hs1275 := hmost s (List.mem_append_right _ (List.mem_singleton.2 rfl))
      rw [List.length_append, List.length_singleton, Nat.add_sub_cancel, hfl]
      simp only
      have hrest : w.size - pad - (2 + (padL pad).length + ((szs i).flatMap lenL).length) = total (szs i) + s.size := by omega
      rw [hrest, if_neg (by omega), show total (szs i) + s.size - total (szs i) = s.size by omega, if_neg (by omega), hzs, List.length_cons, List.length_append]
      rw [show 1 + ((padL pad).length + ((szs i).flatMap lenL).length + 1) = 2 + (padL pad).length + ((szs i).flatMap lenL).length by omega]
end Go.Proofs.YtknfakehijoogaaDoor
