/- The reference takes a packet apart: the packet. -/
import Derived.Test.YtknfakehijoogaaDoorPkI
namespace Go.Proofs.YtknfakehijoogaaDoor
open Go Go.Vc
set_option maxRecDepth 100000
set_option maxHeartbeats 8000000

def pkZ : List CV := [.val (.int .i64 ((0 : Nat) : Int)), .val (.bool false), .val (.int .i64 ((0 : Nat) : Int)), .val (.slice none 0 0), .val (.int .i64 ((0 : Nat) : Int)), .val (.bool false)]
def pkNone : AV := .t [.a pkZ, .c (.val (.bool false)), .c (.val (.int .i64 ((1 : Nat) : Int)))]
def pkV (i : Nat) (l : List (Nat × Nat)) : Bool → CV
  | true => .vec i l.length
  | false => .sli i 1 0 l.length l.length
def pkF (b : ByteArray) (l : List (Nat × Nat)) : Bool → Blk
  | true => strB (strsOf b l)
  | false => .cells 9 ((strsOf b l).map fun s => CV.val (.string s))
def pkA (b : ByteArray) (i : Nat) (l : List (Nat × Nat)) (sh : Bool) (pad : Nat) (v : Bool) : List CV :=
  [.val (.int .i64 (byt b 0 / 8 : Nat)), .val (.bool (decide (byt b 0 / 4 % 2 = 1))), .val (.int .i64 (byt b 0 % 4 : Nat)), pkV i l sh, .val (.int .i64 pad), .val (.bool v)]
def pkR (b : ByteArray) (r : AV) (H : List Blk) : Prop :=
  (frames b = none ∧ r = pkNone ∧ H = []) ∨
  ∃ l sh pad v, frames b = some l ∧ l ≠ [] ∧ (sh = false → l.length ≤ 2) ∧ r = .t [.a (pkA b 0 l sh pad v), .c (.val (.bool true)), .c (.val (.int .i64 ((1 : Nat) : Int)))] ∧ H = [pkF b l sh]
theorem pkR_none {b : ByteArray} (h : frames b = none) (H : List Blk) : Fin 0 (pkR b) pkNone H := Or.inr ⟨[], pkNone, [], ⟨rfl, trivial, rfl⟩, rfl, .inl ⟨h, rfl, rfl⟩⟩

/-- Where the frames are known, but for how long each may be. -/
def midOk (b : ByteArray) (l : List (Nat × Nat)) (sh : Bool) : Prop :=
  l ≠ [] ∧ l.length ≤ 64 ∧ (sh = false → l.length ≤ 2) ∧ (∀ x ∈ l, x.1 + x.2 ≤ b.size) ∧ frames b = if (∀ x ∈ l, x.2 ≤ 1275) then some l else none
def pkSt (b : ByteArray) (l : List (Nat × Nat)) (sh : Bool) (pad : Nat) (v : Bool) : S :=
  ⟨[(2, .o (.c (.ptr 0 0))), (3, .o (.c (.kb false))), (4, .o (.c (.val (.int .i64 ((0 : Nat) : Int))))), (5, .o (.c (.ptr 1 0))), (6, .o (.c (.ptr 2 0)))],
   [.cells 31 pkZ, .cells 31 pkZ, .cells 31 (pkA b 3 l sh pad v), pkF b l sh]⟩

theorem mid_of {b : ByteArray} {l : List (Nat × Nat)} {sh : Bool} (M : Nat) (h1 : l ≠ []) (h2 : l.length ≤ 64) (h3 : sh = false → l.length ≤ 2) (h4 : ∀ x ∈ l, x.1 + x.2 ≤ b.size)
    (h5 : frames b = if 1275 < M then none else some l) (h6 : (∀ x ∈ l, x.2 ≤ 1275) ↔ M ≤ 1275) : midOk b l sh := by
  refine ⟨h1, h2, h3, h4, ?_⟩
  rw [h5]
  by_cases c : M ≤ 1275
  · rw [if_neg (by omega), if_pos (h6.2 c)]
  · rw [if_pos (by omega), if_neg (fun h => c (h6.1 h))]
theorem strs_len (b : ByteArray) (l : List (Nat × Nat)) : (strsOf b l).length = l.length := by
  unfold strsOf
  rw [List.length_map]
theorem strs_get {b : ByteArray} {l : List (Nat × Nat)} {k : Nat} (h : k < l.length) (hl : ∀ x ∈ l, x.1 + x.2 ≤ b.size) : ∃ s x, l[k]? = some x ∧ (strsOf b l)[k]? = some s ∧ s.size = x.2 := by
  refine ⟨sub b l[k].1 (l[k].1 + l[k].2), l[k], List.getElem?_eq_getElem h, ?_, ?_⟩
  · unfold strsOf
    rw [List.getElem?_map, List.getElem?_eq_getElem h]
    rfl
  · rw [sub_size (hl _ (List.getElem_mem h))]
    omega

def cbSt (b : ByteArray) (M fs p e pad : Nat) (v : Bool) (ss : List ByteArray) : Nat → S
  | 0 => ⟨[(0, .o (.c (.val (.string (sub b p e))))), (2, .o (.c (.ptr 0 0))), (3, .o (.c (.kb false))), (4, .o (.c (.val (.int .i64 ((0 : Nat) : Int))))), (5, .o (.c (.ptr 1 0))), (6, .o (.c (.ptr 2 0))), (13, .o (.c (.val (.int .i64 fs)))), (171, .o (.c (.val (.int .i64 M)))), (172, .o (.c (.val (.int .i64 ((0 : Nat) : Int)))))],
    [.cells 31 pkZ, .cells 31 pkZ, .cells 31 [.val (.int .i64 (byt b 0 / 8 : Nat)), .val (.bool (decide (byt b 0 / 4 % 2 = 1))), .val (.int .i64 (byt b 0 % 4 : Nat)), .val (.slice none 0 0), .val (.int .i64 pad), .val (.bool v)]]⟩
  | k + 1 => ⟨[(0, .o (.c (.val (.string (sub b p e))))), (2, .o (.c (.ptr 0 0))), (3, .o (.c (.kb false))), (4, .o (.c (.val (.int .i64 ((0 : Nat) : Int))))), (5, .o (.c (.ptr 1 0))), (6, .o (.c (.ptr 2 0))), (13, .o (.c (.val (.int .i64 fs)))), (171, .o (.c (.val (.int .i64 M)))), (172, .o (.c (.val (.int .i64 ((k + 1 : Nat) : Int)))))],
    [.cells 31 pkZ, .cells 31 pkZ, .cells 31 [.val (.int .i64 (byt b 0 / 8 : Nat)), .val (.bool (decide (byt b 0 / 4 % 2 = 1))), .val (.int .i64 (byt b 0 % 4 : Nat)), .vec 3 (k + 1), .val (.int .i64 pad), .val (.bool v)], strB (ss.take (k + 1))]⟩

def vbSt (b : ByteArray) (e m pad : Nat) (v : Bool) (l : List Nat) (q : Nat) : Nat → S
  | 0 => ⟨[(0, .o (.c (.val (.string (sub b q e))))), (2, .o (.c (.ptr 0 0))), (3, .o (.c (.kb false))), (4, .o (.c (.val (.int .i64 ((0 : Nat) : Int))))), (5, .o (.c (.ptr 1 0))), (6, .o (.c (.ptr 2 0))), (15, .o (.c (.val (.slice none 0 0)))), (16, .o (.c (.val (.int .i64 (total l : Nat))))), (191, .o (.c (.val (.int .i64 m)))), (192, .o (.c (.val (.int .i64 ((0 : Nat) : Int)))))],
    [.cells 31 pkZ, .cells 31 pkZ, .cells 31 [.val (.int .i64 (byt b 0 / 8 : Nat)), .val (.bool (decide (byt b 0 / 4 % 2 = 1))), .val (.int .i64 (byt b 0 % 4 : Nat)), .val (.slice none 0 0), .val (.int .i64 pad), .val (.bool v)]]⟩
  | i + 1 => ⟨[(0, .o (.c (.val (.string (sub b q e))))), (2, .o (.c (.ptr 0 0))), (3, .o (.c (.kb false))), (4, .o (.c (.val (.int .i64 ((0 : Nat) : Int))))), (5, .o (.c (.ptr 1 0))), (6, .o (.c (.ptr 2 0))), (15, .o (.c (.vec 3 (i + 1)))), (16, .o (.c (.val (.int .i64 (total l : Nat))))), (191, .o (.c (.val (.int .i64 m)))), (192, .o (.c (.val (.int .i64 ((i + 1 : Nat) : Int)))))],
    [.cells 31 pkZ, .cells 31 pkZ, .cells 31 [.val (.int .i64 (byt b 0 / 8 : Nat)), .val (.bool (decide (byt b 0 / 4 % 2 = 1))), .val (.int .i64 (byt b 0 % 4 : Nat)), .val (.slice none 0 0), .val (.int .i64 pad), .val (.bool v)], lenB l]⟩
def vcSt (b : ByteArray) (e m pad : Nat) (v : Bool) (l : List Nat) (q : Nat) : Nat → S
  | 0 => ⟨[(0, .o (.c (.val (.string (sub b q e))))), (2, .o (.c (.ptr 0 0))), (3, .o (.c (.kb false))), (4, .o (.c (.val (.int .i64 ((0 : Nat) : Int))))), (5, .o (.c (.ptr 1 0))), (6, .o (.c (.ptr 2 0))), (217, .o (.c (.vec 3 m))), (218, .o (.c (.val (.int .i64 m)))), (219, .o (.c (.val (.int .i64 ((0 : Nat) : Int)))))],
    [.cells 31 pkZ, .cells 31 pkZ, .cells 31 [.val (.int .i64 (byt b 0 / 8 : Nat)), .val (.bool (decide (byt b 0 / 4 % 2 = 1))), .val (.int .i64 (byt b 0 % 4 : Nat)), .val (.slice none 0 0), .val (.int .i64 pad), .val (.bool v)], lenB l]⟩
  | j + 1 => ⟨[(0, .o (.c (.val (.string (sub b (q + total (l.take (j + 1))) e))))), (2, .o (.c (.ptr 0 0))), (3, .o (.c (.kb false))), (4, .o (.c (.val (.int .i64 ((0 : Nat) : Int))))), (5, .o (.c (.ptr 1 0))), (6, .o (.c (.ptr 2 0))), (217, .o (.c (.vec 3 m))), (218, .o (.c (.val (.int .i64 m)))), (219, .o (.c (.val (.int .i64 ((j + 1 : Nat) : Int)))))],
    [.cells 31 pkZ, .cells 31 pkZ, .cells 31 [.val (.int .i64 (byt b 0 / 8 : Nat)), .val (.bool (decide (byt b 0 / 4 % 2 = 1))), .val (.int .i64 (byt b 0 % 4 : Nat)), .vec 4 (j + 1), .val (.int .i64 pad), .val (.bool v)], lenB l, strB (strsOf b (cuts q (l.take (j + 1))))]⟩
theorem total_le {l : List Nat} (h : ∀ n ∈ l, n ≤ 1275) : total l ≤ 1275 * l.length := by
  induction l with
  | nil => exact Nat.le_refl _
  | cons x t ih =>
    rw [total_cons, List.length_cons]
    have := ih fun n hn => h n (List.mem_cons_of_mem _ hn)
    have := h x (List.mem_cons_self ..)
    omega
theorem cuts_mem {x : Nat × Nat} : ∀ {l : List Nat} {q : Nat}, x ∈ cuts q l → x.2 ∈ l ∧ x.1 + x.2 ≤ q + total l
  | [], q, h => by cases h
  | n :: l, q, h => by
    rw [total_cons]
    rcases List.mem_cons.1 h with rfl | h
    · exact ⟨List.mem_cons_self .., by show q + n ≤ q + (n + total l); omega⟩
    · obtain ⟨h1, h2⟩ := cuts_mem h
      exact ⟨List.mem_cons_of_mem _ h1, by omega⟩
theorem total_at {l : List Nat} {j n : Nat} (h : l[j]? = some n) : total (l.take j) + n = total (l.take (j + 1)) := by
  rw [← take_snoc' h, total_snoc]

theorem cuts_at {b : ByteArray} {q : Nat} {l : List Nat} {j n : Nat} (h : l[j]? = some n) :
    strsOf b (cuts q (l.take j)) ++ [sub b (q + total (l.take j)) (q + total (l.take j) + n)] = strsOf b (cuts q (l.take (j + 1))) := by
  rw [← take_snoc' h, cuts_snoc]
  unfold strsOf
  rw [List.map_append]
  rfl
theorem cuts_end {b : ByteArray} {q : Nat} {l : List Nat} {n : Nat} :
    strsOf b (cuts q l) ++ [sub b (q + total l) (q + total l + n)] = strsOf b (cuts q (l ++ [n])) := by
  rw [cuts_snoc]
  unfold strsOf
  rw [List.map_append]
  rfl

theorem packetReadW (w0 : World) {b : ByteArray} (hs : b.size ≤ 100000) :
    CallsA Tryd.prog w0 11 [.c (.val (.string b))] [] (pkR b) := by
  have hb0 := byt_lt b 0
  refine callsA_of_ev c11_ ?_
  conv => whnf
  refine Or.inl ?_
  conv => whnf
  refine ⟨fun h1 => ?_, fun h1 => ?_⟩
  · have h1 := emp_t h1
    conv => whnf
    exact pkR_none (if_pos h1) _
  have h1 := emp_f h1
  obtain ⟨y, hy, hyb⟩ := byt_str (b := b) (i := 0) (by omega)
  obtain ⟨F, hF⟩ : ∃ F, F = frames b := ⟨_, rfl⟩
  have hF1 := hF
  unfold frames at hF
  rw [if_neg h1] at hF
  conv => whnf
  refine ⟨y, hy, ?_⟩
  conv => whnf
  refine ⟨y, hy, ?_⟩
  conv => whnf
  refine ⟨y, hy, ?_⟩
  conv => whnf
  obtain ⟨_, _, a4, _, a3⟩ := and_bit (byt b 0) hb0
  have a8 : ((byt b 0 : Nat) : Int).fdiv (2 ^ min 3 IntKind.u8.bits) = ((byt b 0 / 8 : Nat) : Int) := nshr8 _ 3 (by omega)
  rw [hyb, a3, a4, a8, nwrapi (n := byt b 0 / 8) (by omega), nwrapi (n := byt b 0 % 4) (by omega)]
  refine ⟨trivial, ?_⟩
  conv => whnf
  refine ⟨trivial, ?_⟩
  conv => whnf
  refine ⟨by omega, ?_⟩
  conv => whnf
  have hsz : (sub b 1 b.size).size = b.size - 1 := sub_size (Nat.le_refl _)
  have hss := fun i j (h : 1 + j ≤ b.size) => sub_sub (p := 1) (i := i) (Nat.le_refl _) h
  have hlen := fun k (hk : k ≤ b.size) => lengthReadW w0 hk (Nat.le_refl b.size) hs
  rw [show b.extract ((1 : Nat) : Int).toNat ((b.size : Nat) : Int).toNat = sub b 1 b.size from rfl]
  refine Or.inr ⟨{x : List (Nat × Nat) × Bool × Nat × Bool // midOk b x.1 x.2.1}, fun ⟨⟨l, sh, pad, v⟩, _⟩ => pkSt b l sh pad v, ?_, ?_⟩
  · obtain ⟨t, ht⟩ : ∃ t, t = sub b 1 b.size := ⟨_, rfl⟩
    rw [← ht] at hsz hss ⊢
    conv => whnf
    refine ⟨fun c0 => ?_, fun c0 => ?_⟩
    · have c0 : byt b 0 % 4 = 0 := beq_t c0
      rw [if_pos c0] at hF
      conv => whnf
      refine ⟨⟨([(1, b.size - 1)], false, 0, false), mid_of (b.size - 1) (fun h => by cases h) (by show 1 ≤ 64; omega) (fun _ => by show 1 ≤ 2; omega) (fun x hx => by rw [List.mem_singleton.1 hx]; show 1 + (b.size - 1) ≤ b.size; omega) (hF1.symm.trans hF) ⟨fun h => h _ (List.mem_singleton.2 rfl), fun h x hx => by rw [List.mem_singleton.1 hx]; exact h⟩⟩, [0, 1, 2, 3], ⟨rfl, ⟨rfl, rfl, rfl, rfl, rfl, rfl, ?_, rfl, trivial⟩, rfl⟩, rfl, rfl, rfl, rfl, rfl, trivial⟩
      show some (Blk.cells 9 [.val (.string t)]) = some (Blk.cells 9 [.val (.string (sub b 1 (1 + (b.size - 1))))])
      rw [show 1 + (b.size - 1) = b.size by omega, ht]
    have c0 : byt b 0 % 4 ≠ 0 := beq_f c0
    rw [if_neg c0] at hF
    conv => whnf
    refine ⟨fun c1 => ?_, fun c1 => ?_⟩
    · have c1 : byt b 0 % 4 = 1 := beq_t c1
      rw [if_pos c1] at hF
      conv => whnf
      refine Or.inl ?_
      conv => whnf
      rw [hsz, ntmod]
      refine ⟨fun d1 => ?_, fun d1 => ?_⟩
      · have d1 : (b.size - 1) % 2 ≠ 0 := bne_t d1
        rw [if_pos (by omega)] at hF
        conv => whnf
        exact pkR_none (hF1.symm.trans hF) _
      have d1 : (b.size - 1) % 2 = 0 := bne_f d1
      rw [if_neg (by omega)] at hF
      conv => whnf
      rw [hsz, ntdiv, nwrapi (n := (b.size - 1) / 2) (by omega)]
      refine ⟨by omega, ?_⟩
      conv => whnf
      rw [hsz, ntdiv, nwrapi (n := (b.size - 1) / 2) (by omega)]
      refine ⟨by omega, ?_⟩
      conv => whnf
      refine ⟨trivial, ?_⟩
      conv => whnf
      refine ⟨trivial, ?_⟩
      conv => whnf
      have e1 := hss 0 ((b.size - 1) / 2) (by omega)
      have e2 := hss ((b.size - 1) / 2) (b.size - 1) (by omega)
      refine ⟨⟨([(1, (b.size - 1) / 2), (1 + (b.size - 1) / 2, (b.size - 1) / 2)], false, 0, false), mid_of ((b.size - 1) / 2) (fun h => by cases h) (by show 2 ≤ 64; omega) (fun _ => by show 2 ≤ 2; omega) (fun x hx => ?_) (hF1.symm.trans hF) ⟨fun h => h _ (List.mem_cons_self ..), fun h x hx => ?_⟩⟩, [0, 1, 2, 3], ⟨rfl, ⟨rfl, rfl, rfl, rfl, rfl, rfl, ?_, rfl, trivial⟩, rfl⟩, rfl, rfl, rfl, rfl, rfl, trivial⟩
      · rcases List.mem_cons.1 hx with rfl | hx
        · show 1 + (b.size - 1) / 2 ≤ b.size; omega
        · rw [List.mem_singleton.1 hx]
          show 1 + (b.size - 1) / 2 + (b.size - 1) / 2 ≤ b.size
          omega
      · rcases List.mem_cons.1 hx with rfl | hx
        · exact h
        · rw [List.mem_singleton.1 hx]
          exact h
      · show some (Blk.cells 9 [.val (.string (t.extract 0 ((b.size - 1) / 2))), .val (.string (t.extract ((b.size - 1) / 2) (b.size - 1)))]) = some (Blk.cells 9 [.val (.string (sub b 1 (1 + (b.size - 1) / 2))), .val (.string (sub b (1 + (b.size - 1) / 2) (1 + (b.size - 1) / 2 + (b.size - 1) / 2)))])
        rw [e1, e2, show 1 + (b.size - 1) / 2 + (b.size - 1) / 2 = 1 + (b.size - 1) by omega]
    have c1 : byt b 0 % 4 ≠ 1 := beq_f c1
    rw [if_neg c1] at hF
    conv => whnf
    refine ⟨fun c2 => ?_, fun c2 => ?_⟩
    · have c2 : byt b 0 % 4 = 2 := beq_t c2
      rw [if_pos c2] at hF
      have hl := hlen 1 (by omega)
      rw [← ht] at hl
      conv => whnf
      refine CallsA.lift (H0 := []) [] rfl trivial rfl hl ?_
      cases hfl : flen b b.size 1 with
      | none =>
        rintro _ _ ⟨rfl, rfl⟩
        rw [hfl] at hF
        simp only at hF
        conv => whnf
        refine Or.inl ?_
        conv => whnf
        refine ⟨fun _ => ?_, (fun h => by cases h)⟩
        conv => whnf
        exact pkR_none (hF1.symm.trans hF) _
      | some nk =>
        obtain ⟨n, k⟩ := nk
        rintro _ _ ⟨rfl, rfl⟩
        rw [hfl] at hF
        simp only at hF
        conv => whnf
        refine Or.inl ?_
        conv => whnf
        refine ⟨(fun h => by cases h), fun _ => ?_⟩
        conv => whnf
        obtain ⟨hk1, hk2, hn⟩ := flen_bounds hfl
        have hus : (sub b (1 + k) b.size).size = b.size - (1 + k) := sub_size (Nat.le_refl _)
        have hu := fun i j (h : 1 + k + j ≤ b.size) => sub_sub (p := 1 + k) (i := i) (Nat.le_refl _) h
        obtain ⟨u, hue⟩ : ∃ u, u = sub b (1 + k) b.size := ⟨_, rfl⟩
        rw [← hue] at hus hu ⊢
        refine ⟨fun d1 => ?_, fun d1 => ?_⟩
        · have d1 : u.size < n := gt_t d1
          rw [if_pos (by omega)] at hF
          conv => whnf
          exact pkR_none (hF1.symm.trans hF) _
        have d1 : n ≤ u.size := gt_f d1
        rw [if_neg (by omega)] at hF
        conv => whnf
        refine ⟨by omega, ?_⟩
        conv => whnf
        refine ⟨by omega, ?_⟩
        conv => whnf
        refine ⟨trivial, ?_⟩
        conv => whnf
        refine ⟨trivial, ?_⟩
        conv => whnf
        have e1 := hu 0 n (by omega)
        have e2 := hu n u.size (by omega)
        refine ⟨⟨([(1 + k, n), (1 + k + n, b.size - (1 + k + n))], false, 0, false), mid_of (b.size - (1 + k + n)) (fun h => by cases h) (by show 2 ≤ 64; omega) (fun _ => by show 2 ≤ 2; omega) (fun x hx => ?_) (hF1.symm.trans hF) ⟨fun h => h _ (List.mem_cons_of_mem _ (List.mem_cons_self ..)), fun h x hx => ?_⟩⟩, [0, 1, 2, 3], ⟨rfl, ⟨rfl, rfl, rfl, rfl, rfl, rfl, ?_, rfl, trivial⟩, rfl⟩, rfl, rfl, rfl, rfl, rfl, trivial⟩
        · rcases List.mem_cons.1 hx with rfl | hx
          · show 1 + k + n ≤ b.size; omega
          · rw [List.mem_singleton.1 hx]
            show 1 + k + n + (b.size - (1 + k + n)) ≤ b.size
            omega
        · rcases List.mem_cons.1 hx with rfl | hx
          · exact hn
          · rw [List.mem_singleton.1 hx]
            exact h
        · show some (Blk.cells 9 [.val (.string (u.extract 0 n)), .val (.string (u.extract n u.size))]) = some (Blk.cells 9 [.val (.string (sub b (1 + k) (1 + k + n))), .val (.string (sub b (1 + k + n) (1 + k + n + (b.size - (1 + k + n)))))])
          rw [e1, e2, Nat.add_zero, show 1 + k + n + (b.size - (1 + k + n)) = 1 + k + u.size by omega]
    have c2 : byt b 0 % 4 ≠ 2 := beq_f c2
    rw [if_neg c2] at hF
    conv => whnf
    refine ⟨fun _ => ?_, fun c3 => absurd (show byt b 0 % 4 = 3 by omega) (beq_f c3)⟩
    conv => whnf
    refine Or.inl ?_
    conv => whnf
    refine ⟨fun d1 => ?_, fun d1 => ?_⟩
    · have d1 := emp_t d1
      rw [if_pos (by omega)] at hF
      conv => whnf
      exact pkR_none (hF1.symm.trans hF) _
    have d1 := emp_f d1
    rw [if_neg (by omega)] at hF
    have hb1 := byt_lt b 1
    obtain ⟨z, hz, hzb⟩ := sub_str (b := b) (p := 1) (e := b.size) (i := 0) (Nat.le_refl _) (by omega)
    rw [← ht] at hz
    have hzb : z.toNat = byt b 1 := hzb
    obtain ⟨x128, x64, _, x63, _⟩ := and_bit (byt b 1) hb1
    conv => whnf
    refine ⟨z, hz, ?_⟩
    conv => whnf
    refine ⟨z, hz, ?_⟩
    conv => whnf
    refine ⟨z, hz, ?_⟩
    conv => whnf
    rw [hzb, x128, x64, x63, nwrapi (n := byt b 1 % 64) (by omega)]
    refine ⟨by omega, ?_⟩
    conv => whnf
    have e2 := hss 1 (b.size - 1) (by omega)
    rw [show t.extract ((1 : Nat) : Int).toNat ((t.size : Nat) : Int).toNat = t.extract 1 t.size from rfl, hsz, e2, show 1 + 1 = 2 from rfl, show 1 + (b.size - 1) = b.size by omega]
    refine Or.inl ?_
    conv => whnf
    refine ⟨fun m0 => ?_, fun m0 => ?_⟩
    · have m0 : byt b 1 % 64 = 0 := beq_t m0
      rw [if_pos m0] at hF
      conv => whnf
      exact pkR_none (hF1.symm.trans hF) _
    have m0 : byt b 1 % 64 ≠ 0 := beq_f m0
    rw [if_neg m0] at hF
    obtain ⟨M, hM⟩ : ∃ M, M = byt b 1 % 64 := ⟨_, rfl⟩
    have hM64 : M < 64 := by omega
    rw [← hM] at hF m0 ⊢
    have hcf := (cfg_facts (byt b 0 / 8) (by omega)).2.2
    obtain ⟨D, hD⟩ : ∃ D, D = dura (byt b 0 / 8) := ⟨_, rfl⟩
    have hdw := durationW w0 (byt b 0 / 8) (by omega)
    rw [← hD] at hF hcf hdw
    have hmd : M * D ≤ 64 * 2880 := Nat.mul_le_mul (by omega) hcf
    conv => whnf
    refine CallsA.lift (H0 := []) [] rfl trivial rfl hdw ?_
    rintro _ _ ⟨rfl, rfl⟩
    conv => whnf
    rw [nmul, nwrapi (n := M * D) (by omega)]
    refine ⟨fun g1 => ?_, fun g1 => ?_⟩
    · have g1 : 5760 < M * D := gt_t g1
      rw [if_pos g1] at hF
      conv => whnf
      exact pkR_none (hF1.symm.trans hF) _
    have g1 : M * D ≤ 5760 := gt_f g1
    rw [if_neg (by omega)] at hF
    conv => whnf
    refine Or.inr ⟨{x : Nat × Nat × Nat // part1 b = some (x.1, x.2.1)}, fun ⟨⟨p, e, pad⟩, _⟩ => ⟨[(0, .o (.c (.val (.string (sub b p e))))), (2, .o (.c (.ptr 0 0))), (3, .o (.c (.kb false))), (4, .o (.c (.val (.int .i64 ((0 : Nat) : Int))))), (5, .o (.c (.ptr 1 0))), (6, .o (.c (.ptr 2 0))), (10, .o (.c (.val (.int .i64 M))))],
      [.cells 31 pkZ, .cells 31 pkZ, .cells 31 [.val (.int .i64 (byt b 0 / 8 : Nat)), .val (.bool (decide (byt b 0 / 4 % 2 = 1))), .val (.int .i64 (byt b 0 % 4 : Nat)), .val (.slice none 0 0), .val (.int .i64 pad), .val (.bool (decide (128 ≤ byt b 1)))]]⟩, ?_, ?_⟩
    · conv => whnf
      refine ⟨fun x1 => ?_, fun x1 => ?_⟩
      · have x1 : byt b 1 / 64 % 2 = 1 := of_decide_eq_true x1
        have hpart : part1 b = padded b := if_pos x1
        rw [hpart] at hF
        conv => whnf
        refine Or.inl ?_
        conv => whnf
        refine ⟨{k : Nat // pads b b.size 0 = pads b (b.size - k) k ∧ 2 + k ≤ b.size}, fun ⟨k, _⟩ => ⟨[(0, .o (.c (.val (.string (sub b (2 + k) b.size))))), (2, .o (.c (.ptr 0 0))), (3, .o (.c (.kb false))), (4, .o (.c (.val (.int .i64 ((0 : Nat) : Int))))), (5, .o (.c (.ptr 1 0))), (6, .o (.c (.ptr 2 0))), (10, .o (.c (.val (.int .i64 M))))],
          [.cells 31 pkZ, .cells 31 pkZ, .cells 31 [.val (.int .i64 (byt b 0 / 8 : Nat)), .val (.bool (decide (byt b 0 / 4 % 2 = 1))), .val (.int .i64 (byt b 0 % 4 : Nat)), .val (.slice none 0 0), .val (.int .i64 (254 * k : Nat)), .val (.bool (decide (128 ≤ byt b 1)))]]⟩, fun k => b.size - k.1, ⟨⟨0, rfl, by omega⟩, [0, 1, 2], ⟨rfl, ⟨rfl, rfl, rfl, rfl, rfl, rfl, trivial⟩, rfl⟩, rfl, rfl, rfl, rfl, rfl, rfl, rfl, trivial⟩, fun ⟨k, hk, hkb⟩ => ?_⟩
        have hpd := padded_of hk
        have hge := fun k' => pads_ge (b := b) (f := b.size - k) (k := k) (k' := k')
        have hnone : (∀ k', pads b (b.size - k) k = some k' → b.size - (3 + k') < 254 * k' + byt b (2 + k')) → padded b = none := by
          intro hx
          rw [hpd]
          cases hp : pads b (b.size - k) k with
          | none => rfl
          | some k' => exact if_pos (hx k' hp)
        have hks : (sub b (2 + k) b.size).size = b.size - (2 + k) := sub_size (Nat.le_refl _)
        have hku := fun i j (h : 2 + k + j ≤ b.size) => sub_sub (p := 2 + k) (i := i) (Nat.le_refl _) h
        have hkb1 := fun (h : 2 + k < b.size) => sub_str (b := b) (p := 2 + k) (e := b.size) (i := 0) (Nat.le_refl _) h
        obtain ⟨u, hu⟩ : ∃ u, u = sub b (2 + k) b.size := ⟨_, rfl⟩
        conv => whnf
        refine Or.inl ?_
        conv => whnf
        rw [← hu] at hks hku hkb1 ⊢
        refine ⟨fun g2 => ?_, fun g2 => ?_⟩
        · have g2 := emp_t g2
          conv => whnf
          refine pkR_none (hF1.symm.trans (hF.trans ?_)) _
          rw [hnone fun k' hk' => ?_]
          obtain ⟨q1, _, q3⟩ := hge k' hk'
          omega
        have g2 := emp_f g2
        have hun : pads b (b.size - k) k = if byt b (2 + k) = 255 then pads b (b.size - (k + 1)) (k + 1) else some k := by
          rw [show b.size - k = (b.size - (k + 1)) + 1 by omega]
          show (if b.size ≤ 2 + k then none else _) = _
          rw [if_neg (by omega)]
        have hlt := byt_lt b (2 + k)
        obtain ⟨w, hw, hwb⟩ := hkb1 (by omega)
        have hwb : w.toNat = byt b (2 + k) := hwb
        conv => whnf
        refine ⟨w, hw, ?_⟩
        conv => whnf
        rw [hwb, nwrapi (n := byt b (2 + k)) (by omega)]
        refine ⟨by omega, ?_⟩
        conv => whnf
        have e3 := hku 1 u.size (by omega)
        rw [show u.extract ((1 : Nat) : Int).toNat ((u.size : Nat) : Int).toNat = u.extract 1 u.size from rfl, e3, show 2 + k + 1 = 3 + k by omega, show 2 + k + u.size = b.size by omega]
        refine Or.inl ?_
        conv => whnf
        refine ⟨fun g3 => ?_, fun g3 => ?_⟩
        · have g3 : byt b (2 + k) < 255 := lt_t g3
          rw [if_neg (by omega)] at hun
          rw [hun] at hpd
          simp only at hpd
          have hk3 : (sub b (3 + k) b.size).size = b.size - (3 + k) := sub_size (Nat.le_refl _)
          have hk4 := fun i j (h : 3 + k + j ≤ b.size) => sub_sub (p := 3 + k) (i := i) (Nat.le_refl _) h
          conv => whnf
          refine Or.inl ?_
          conv => whnf
          rw [nadd (254 * k) (byt b (2 + k)), nwrapi (n := 254 * k + byt b (2 + k)) (by omega), hk3]
          refine ⟨fun g4 => ?_, fun g4 => ?_⟩
          · have g4 : b.size - (3 + k) < 254 * k + byt b (2 + k) := gt_t g4
            rw [if_pos g4] at hpd
            rw [hpd] at hF
            conv => whnf
            exact pkR_none (hF1.symm.trans hF) _
          have g4 : 254 * k + byt b (2 + k) ≤ b.size - (3 + k) := gt_f g4
          rw [if_neg (by omega)] at hpd
          conv => whnf
          rw [hk3, nsub (a := b.size - (3 + k)) (b := 254 * k + byt b (2 + k)) g4, nwrapi (n := b.size - (3 + k) - (254 * k + byt b (2 + k))) (by omega)]
          refine ⟨by omega, ?_⟩
          conv => whnf
          refine ⟨⟨(3 + k, b.size - (254 * k + byt b (2 + k)), 254 * k + byt b (2 + k)), hpart.trans hpd⟩, [0, 1, 2], ⟨rfl, ⟨rfl, rfl, rfl, rfl, rfl, rfl, trivial⟩, rfl⟩, ?_, rfl, rfl, rfl, rfl, rfl, rfl, trivial⟩
          show some (AV.o (A1.c (CV.val (.string ((sub b (3 + k) b.size).extract 0 (b.size - (3 + k) - (254 * k + byt b (2 + k)))))))) = some (AV.o (A1.c (CV.val (.string (sub b (3 + k) (b.size - (254 * k + byt b (2 + k))))))))
          rw [hk4 _ _ (by omega), show 3 + k + (b.size - (3 + k) - (254 * k + byt b (2 + k))) = b.size - (254 * k + byt b (2 + k)) by omega, Nat.add_zero]
        · have g3 : 255 ≤ byt b (2 + k) := lt_f g3
          rw [if_pos (by omega)] at hun
          conv => whnf
          rw [nadd (254 * k) 254, nwrapi (n := 254 * k + 254) (by omega), show 254 * k + 254 = 254 * (k + 1) by omega, show 3 + k = 2 + (k + 1) by omega]
          refine ⟨⟨k + 1, hk.trans hun, by omega⟩, ⟨[0, 1, 2], ⟨rfl, ⟨rfl, rfl, rfl, rfl, rfl, rfl, trivial⟩, rfl⟩, rfl, rfl, rfl, rfl, rfl, rfl, rfl, trivial⟩, ?_⟩
          · show b.size - (k + 1) < b.size - k
            omega
      · have x1 : ¬ byt b 1 / 64 % 2 = 1 := of_decide_eq_false x1
        conv => whnf
        exact ⟨⟨(2, b.size, 0), if_neg x1⟩, [0, 1, 2], ⟨rfl, ⟨rfl, rfl, rfl, rfl, rfl, rfl, trivial⟩, rfl⟩, rfl, rfl, rfl, rfl, rfl, rfl, rfl, trivial⟩
    · rintro ⟨⟨p, e, pad⟩, hpe⟩
      simp only at hpe
      obtain ⟨hp2, hpe2, heb⟩ := part1_bounds hpe (by omega)
      rw [hpe] at hF
      simp only at hF
      conv => whnf
      refine Or.inl ?_
      conv => whnf
      have hps : (sub b p e).size = e - p := sub_size heb
      have hpu := fun i j (h : p + j ≤ e) => sub_sub (p := p) (i := i) heb h
      refine ⟨fun v1 => ?_, fun v1 => ?_⟩
      · have v1 : byt b 1 / 128 = 0 := by
          rw [Bool.not_eq_true'] at v1
          have := of_decide_eq_false v1
          omega
        rw [if_pos v1] at hF
        conv => whnf
        refine Or.inl ?_
        conv => whnf
        rw [hps]
        refine ⟨by omega, ?_⟩
        conv => whnf
        rw [ntmod]
        refine ⟨fun d2 => ?_, fun d2 => ?_⟩
        · have d2 : (e - p) % M ≠ 0 := bne_t d2
          rw [if_pos d2] at hF
          conv => whnf
          exact pkR_none (hF1.symm.trans hF) _
        have d2 : (e - p) % M = 0 := bne_f d2
        rw [if_neg (fun h => h d2)] at hF
        have hdm := Nat.div_mul_le_self (e - p) M
        have hdl := Nat.div_le_self (e - p) M
        conv => whnf
        rw [hps]
        refine ⟨by omega, ?_⟩
        conv => whnf
        rw [ntdiv, nwrapi (n := (e - p) / M) (by omega)]
        generalize (e - p) / M = fs at *
        have hel : (evenly p fs M).length = M := by
          unfold evenly
          rw [List.length_map, List.length_range]
        have hsl := strs_len b (evenly p fs M)
        rw [hel] at hsl
        have heg : ∀ j, j < M → (strsOf b (evenly p fs M))[j]? = some (sub b (p + j * fs) (p + j * fs + fs)) := by
          intro j hj
          unfold strsOf evenly
          rw [List.getElem?_map, List.getElem?_map, List.getElem?_range hj]
          rfl
        refine Or.inl ?_
        conv => whnf
        refine ⟨_root_.Fin (M + 1), fun ⟨k, _⟩ => cbSt b M fs p e pad (decide (128 ≤ byt b 1)) (strsOf b (evenly p fs M)) k, fun k => M - k.1, ⟨⟨0, by omega⟩, [0, 1, 2], ⟨rfl, ⟨rfl, rfl, rfl, rfl, rfl, rfl, trivial⟩, rfl⟩, rfl, rfl, rfl, rfl, rfl, rfl, rfl, rfl, rfl, trivial⟩, fun ⟨k, hk⟩ => ?_⟩
        cases k with
        | zero =>
          conv => whnf
          refine ⟨fun h3 => ?_, fun h3 => absurd (lt_f h3) (by omega)⟩
          have h3 : 0 < M := lt_t h3
          have hmul : (0 + 1) * fs ≤ e - p := by
            have := Nat.mul_le_mul_right fs (show 0 + 1 ≤ M by omega)
            rw [Nat.mul_comm M] at this
            omega
          have hsm : (0 + 1) * fs = 0 * fs + fs := Nat.succ_mul _ _
          have hg := heg (0) h3
          have e5 := hpu (0 * fs) (0 * fs + fs) (by omega)
          rw [show p + (0 * fs + fs) = p + 0 * fs + fs by omega] at e5
          conv => whnf
          rw [nmul (0) fs, nwrapi (n := 0 * fs) (by omega), nadd (0) 1, nwrapi (n := 0 + 1) (by omega), nmul (0 + 1) fs, nwrapi (n := (0 + 1) * fs) (by omega), hsm]
          refine ⟨by omega, ?_⟩
          conv => whnf
          rw [show (sub b p e).extract ((0 * fs : Nat) : Int).toNat ((0 * fs + fs : Nat) : Int).toNat = (sub b p e).extract (0 * fs) (0 * fs + fs) from rfl, e5]
          refine ⟨⟨⟨rfl, rfl⟩, trivial⟩, ?_⟩
          conv => whnf
          refine ⟨by omega, ByteArray, encStr, [], [sub b (p + 0 * fs) (p + 0 * fs + fs)], fun _ => rfl, ⟨rfl, rfl, rfl⟩, by simp only [List.length_cons, List.length_nil]; omega, by simp only [List.length_cons, List.length_nil]; omega, ?_⟩
          conv => whnf
          refine ⟨trivial, ?_⟩
          conv => whnf
          refine ⟨trivial, ?_⟩
          conv => whnf
          have ht1 : [sub b (p + 0 * fs) (p + 0 * fs + fs)] = (strsOf b (evenly p fs M)).take (0 + 1) := by
            have := take_snoc' hg
            rw [List.take_zero, List.nil_append] at this
            exact this
          refine ⟨⟨1, by omega⟩, ⟨[0, 1, 2, 4], ⟨rfl, ⟨rfl, rfl, rfl, rfl, rfl, rfl, ?_, rfl, trivial⟩, rfl⟩, rfl, rfl, rfl, rfl, rfl, rfl, rfl, rfl, eq_i64 ?_, trivial⟩, ?_⟩
          · show some (strB [sub b (p + 0 * fs) (p + 0 * fs + fs)]) = some (strB ((strsOf b (evenly p fs M)).take (0 + 1)))
            rw [ht1]
          · rw [nadd, nwrapi (by omega)]
          · show M - 1 < M - 0
            omega
        | succ k =>
          conv => whnf
          refine ⟨fun h3 => ?_, fun h3 => ?_⟩
          · have h3 : k + 1 < M := lt_t h3
            have hmul : ((k + 1) + 1) * fs ≤ e - p := by
              have := Nat.mul_le_mul_right fs (show (k + 1) + 1 ≤ M by omega)
              rw [Nat.mul_comm M] at this
              omega
            have hsm : ((k + 1) + 1) * fs = (k + 1) * fs + fs := Nat.succ_mul _ _
            have hg := heg (k + 1) h3
            have e5 := hpu ((k + 1) * fs) ((k + 1) * fs + fs) (by omega)
            rw [show p + ((k + 1) * fs + fs) = p + (k + 1) * fs + fs by omega] at e5
            conv => whnf
            rw [nmul (k + 1) fs, nwrapi (n := (k + 1) * fs) (by omega), nadd (k + 1) 1, nwrapi (n := (k + 1) + 1) (by omega), nmul ((k + 1) + 1) fs, nwrapi (n := ((k + 1) + 1) * fs) (by omega), hsm]
            refine ⟨by omega, ?_⟩
            conv => whnf
            rw [show (sub b p e).extract (((k + 1) * fs : Nat) : Int).toNat (((k + 1) * fs + fs : Nat) : Int).toNat = (sub b p e).extract ((k + 1) * fs) ((k + 1) * fs + fs) from rfl, e5]
            refine ⟨⟨⟨rfl, rfl⟩, trivial⟩, ?_⟩
            conv => whnf
            have htl : ((strsOf b (evenly p fs M)).take (k + 1)).length = k + 1 := by rw [List.length_take]; omega
            have htl2 : ((strsOf b (evenly p fs M)).take (k + 1) ++ [sub b (p + (k + 1) * fs) (p + (k + 1) * fs + fs)]).length = k + 2 := by rw [List.length_append, htl]; rfl
            refine ⟨htl.symm, [sub b (p + (k + 1) * fs) (p + (k + 1) * fs + fs)], ⟨rfl, rfl, rfl⟩, by rw [htl2]; omega, by rw [htl2]; omega, ?_⟩
            conv => whnf
            refine ⟨trivial, ?_⟩
            conv => whnf
            refine ⟨trivial, ?_⟩
            conv => whnf
            rw [htl2, take_snoc' hg]
            refine ⟨⟨k + 2, by omega⟩, ⟨[0, 1, 2, 5], ⟨rfl, ⟨rfl, rfl, rfl, rfl, rfl, rfl, rfl, rfl, trivial⟩, rfl⟩, rfl, rfl, rfl, rfl, rfl, rfl, rfl, rfl, eq_i64 ?_, trivial⟩, ?_⟩
            · rw [nadd, nwrapi (by omega)]
            · show M - (k + 2) < M - (k + 1)
              omega
          · have h3 : M ≤ k + 1 := lt_f h3
            conv => whnf
            have hkM : k + 1 = M := by omega
            rw [hkM, List.take_of_length_le (by omega)]
            refine ⟨⟨(evenly p fs M, true, pad, decide (128 ≤ byt b 1)), mid_of fs (fun h => ?_) (by rw [hel]; omega) (fun h => by cases h) (fun x hx => ?_) (hF1.symm.trans hF) ⟨fun h => ?_, fun h x hx => ?_⟩⟩, [0, 1, 2, 3], ⟨rfl, ⟨rfl, rfl, rfl, rfl, ?_, rfl, rfl, rfl, trivial⟩, rfl⟩, rfl, rfl, rfl, rfl, rfl, trivial⟩
            · rw [show evenly p fs M = [] from h] at hel
              exact m0 hel.symm
            · unfold evenly at hx
              obtain ⟨j, hj, rfl⟩ := List.mem_map.1 hx
              have hj := List.mem_range.1 hj
              show p + j * fs + fs ≤ b.size
              have := Nat.mul_le_mul_right fs (show j + 1 ≤ M by omega)
              rw [Nat.mul_comm M, Nat.succ_mul] at this
              omega
            · refine h (p + 0 * fs, fs) ?_
              unfold evenly
              exact List.mem_map.2 ⟨0, List.mem_range.2 (by omega), rfl⟩
            · unfold evenly at hx
              obtain ⟨j, hj, rfl⟩ := List.mem_map.1 hx
              exact h
            · show some (Blk.cells 31 [.val (.int .i64 (byt b 0 / 8 : Nat)), .val (.bool (decide (byt b 0 / 4 % 2 = 1))), .val (.int .i64 (byt b 0 % 4 : Nat)), .vec 3 M, .val (.int .i64 pad), .val (.bool (decide (128 ≤ byt b 1)))]) = some (Blk.cells 31 [.val (.int .i64 (byt b 0 / 8 : Nat)), .val (.bool (decide (byt b 0 / 4 % 2 = 1))), .val (.int .i64 (byt b 0 % 4 : Nat)), .vec 3 (evenly p fs M).length, .val (.int .i64 pad), .val (.bool (decide (128 ≤ byt b 1)))])
              rw [hel]
      · have v1 : ¬ byt b 1 / 128 = 0 := by
          rw [Bool.not_eq_false'] at v1
          have := of_decide_eq_true v1
          omega
        rw [if_neg v1] at hF
        conv => whnf
        refine Or.inl ?_
        conv => whnf
        rw [nsub (a := M) (b := 1) (by omega), nwrapi (n := M - 1) (by omega)]
        refine ⟨{x : Nat × List Nat × Nat // x.1 ≤ M - 1 ∧ flens b e p x.1 = some (x.2.1, x.2.2)}, fun ⟨⟨i, l, q⟩, _⟩ => vbSt b e (M - 1) pad (decide (128 ≤ byt b 1)) l q i, fun x => M - 1 - x.1.1, ⟨⟨(0, [], p), Nat.zero_le _, rfl⟩, [0, 1, 2], ⟨rfl, ⟨rfl, rfl, rfl, rfl, rfl, rfl, trivial⟩, rfl⟩, rfl, rfl, rfl, rfl, rfl, rfl, rfl, rfl, rfl, rfl, trivial⟩, fun ⟨⟨i, l, q⟩, hi, hl⟩ => ?_⟩
        simp only at hi hl
        obtain ⟨hll, hq1, hq2, hq3⟩ := flens_bounds hpe2 hl
        have htot : total l ≤ 1275 * i := by
          rw [← hll]
          exact total_le hq3
        have hlw := lengthReadW w0 hq2 heb hs
        have hqs : (sub b q e).size = e - q := sub_size heb
        have hsucc := flens_succ b e p i
        rw [hl] at hsucc
        simp only at hsucc
        cases i with
        | zero =>
          conv => whnf
          refine ⟨fun h3 => ?_, fun h3 => ?_⟩
          · have h3 : 0 < M - 1 := lt_t h3
            conv => whnf
            refine Or.inl ?_
            conv => whnf
            refine CallsA.lift (H0 := []) [] rfl trivial rfl hlw ?_
            cases hfl : flen b e q with
            | none =>
              rintro _ _ ⟨rfl, rfl⟩
              rw [hfl] at hsucc
              rw [flens_none hsucc (M - 1) (by omega)] at hF
              simp only at hF
              conv => whnf
              refine Or.inl ?_
              conv => whnf
              refine ⟨fun _ => ?_, (fun h => by cases h)⟩
              conv => whnf
              exact pkR_none (hF1.symm.trans hF) _
            | some nk =>
              obtain ⟨n, k⟩ := nk
              rintro _ _ ⟨rfl, rfl⟩
              rw [hfl] at hsucc
              simp only at hsucc
              conv => whnf
              refine Or.inl ?_
              conv => whnf
              refine ⟨(fun h => by cases h), fun _ => ?_⟩
              conv => whnf
              obtain ⟨hk1, hk2, hn⟩ := flen_bounds hfl
              refine ⟨by omega, Int, encI .i64, [], [(n : Int)], fun _ => rfl, ⟨rfl, rfl, rfl⟩, by simp only [List.length_cons, List.length_nil]; omega, by simp only [List.length_cons, List.length_nil]; omega, ?_⟩
              conv => whnf
              cases hl
              refine ⟨⟨(1, [n], p + k), by omega, hsucc⟩, ⟨[0, 1, 2, 4], ⟨rfl, ⟨rfl, rfl, rfl, rfl, rfl, rfl, rfl, rfl, trivial⟩, rfl⟩, rfl, rfl, rfl, rfl, rfl, rfl, rfl, eq_i64 ?_, rfl, eq_i64 ?_, trivial⟩, ?_⟩
              · rw [nadd (total []) n, nwrapi (by omega)]
                rfl
              · rw [nadd, nwrapi (by omega)]
              · show M - 1 - 1 < M - 1 - 0
                omega
          · have h3 : M - 1 ≤ 0 := lt_f h3
            conv => whnf
            cases hl
            rw [show M - 1 = 0 by omega, show flens b e p 0 = some ([], p) from rfl] at hF
            simp only at hF
            rw [if_neg (by show ¬ e - p < 0; omega)] at hF
            refine Or.inl ?_
            conv => whnf
            rw [hqs]
            refine ⟨fun g5 => absurd (show e - p < 0 from gt_t g5) (by omega), fun _ => ?_⟩
            conv => whnf
            refine Or.inl ?_
            conv => whnf
            refine ⟨Unit, fun _ => ⟨[(0, .o (.c (.val (.string (sub b p e))))), (2, .o (.c (.ptr 0 0))), (3, .o (.c (.kb false))), (4, .o (.c (.val (.int .i64 ((0 : Nat) : Int))))), (5, .o (.c (.ptr 1 0))), (6, .o (.c (.ptr 2 0))), (218, .o (.c (.val (.int .i64 ((0 : Nat) : Int))))), (219, .o (.c (.val (.int .i64 ((0 : Nat) : Int)))))], [.cells 31 pkZ, .cells 31 pkZ, .cells 31 [.val (.int .i64 (byt b 0 / 8 : Nat)), .val (.bool (decide (byt b 0 / 4 % 2 = 1))), .val (.int .i64 (byt b 0 % 4 : Nat)), .val (.slice none 0 0), .val (.int .i64 pad), .val (.bool (decide (128 ≤ byt b 1)))]]⟩, fun _ => 0, ⟨(), [0, 1, 2], ⟨rfl, ⟨rfl, rfl, rfl, rfl, rfl, rfl, trivial⟩, rfl⟩, rfl, rfl, rfl, rfl, rfl, rfl, rfl, rfl, trivial⟩, fun _ => ?_⟩
            conv => whnf
            refine ⟨fun h => absurd (lt_t h) (by omega), fun _ => ?_⟩
            conv => whnf
            refine ⟨by omega, ByteArray, encStr, [], [sub b p e], fun _ => rfl, ⟨rfl, rfl, rfl⟩, by simp only [List.length_cons, List.length_nil]; omega, by simp only [List.length_cons, List.length_nil]; omega, ?_⟩
            conv => whnf
            refine ⟨⟨([(p, e - p)], true, pad, decide (128 ≤ byt b 1)), mid_of (e - p) (fun h => by cases h) (by show 1 ≤ 64; omega) (fun h => by cases h) (fun x hx => by rw [List.mem_singleton.1 hx]; show p + (e - p) ≤ b.size; omega) (hF1.symm.trans hF) ⟨fun h => h _ (List.mem_singleton.2 rfl), fun h x hx => by rw [List.mem_singleton.1 hx]; exact h⟩⟩, [0, 1, 2, 4], ⟨rfl, ⟨rfl, rfl, rfl, rfl, rfl, rfl, ?_, rfl, trivial⟩, rfl⟩, rfl, rfl, rfl, rfl, rfl, trivial⟩
            show some (strB [sub b p e]) = some (strB [sub b p (p + (e - p))])
            rw [show p + (e - p) = e by omega]
        | succ i =>
          have hml : (l.map fun (n : Nat) => (n : Int)).length = i + 1 := by rw [List.length_map, hll]
          conv => whnf
          refine ⟨fun h3 => ?_, fun h3 => ?_⟩
          · have h3 : i + 1 < M - 1 := lt_t h3
            conv => whnf
            refine Or.inl ?_
            conv => whnf
            refine CallsA.lift (H0 := []) [] rfl trivial rfl hlw ?_
            cases hfl : flen b e q with
            | none =>
              rintro _ _ ⟨rfl, rfl⟩
              rw [hfl] at hsucc
              rw [flens_none hsucc (M - 1) (by omega)] at hF
              simp only at hF
              conv => whnf
              refine Or.inl ?_
              conv => whnf
              refine ⟨fun _ => ?_, (fun h => by cases h)⟩
              conv => whnf
              exact pkR_none (hF1.symm.trans hF) _
            | some nk =>
              obtain ⟨n, k⟩ := nk
              rintro _ _ ⟨rfl, rfl⟩
              rw [hfl] at hsucc
              simp only at hsucc
              conv => whnf
              refine Or.inl ?_
              conv => whnf
              refine ⟨(fun h => by cases h), fun _ => ?_⟩
              conv => whnf
              obtain ⟨hk1, hk2, hn⟩ := flen_bounds hfl
              have hml2 : ((l.map fun (n : Nat) => (n : Int)) ++ [(n : Int)]).length = i + 2 := by rw [List.length_append, hml]; rfl
              refine ⟨hml.symm, [(n : Int)], ⟨rfl, rfl, rfl⟩, by rw [hml2]; omega, by rw [hml2]; omega, ?_⟩
              conv => whnf
              rw [hml2]
              refine ⟨⟨(i + 2, l ++ [n], q + k), by omega, hsucc⟩, ⟨[0, 1, 2, 5], ⟨rfl, ⟨rfl, rfl, rfl, rfl, rfl, rfl, ?_, rfl, trivial⟩, rfl⟩, rfl, rfl, rfl, rfl, rfl, rfl, rfl, eq_i64 ?_, rfl, eq_i64 ?_, trivial⟩, ?_⟩
              · show some (Blk.vec true 3 (encI .i64) [] 1 ((l.map fun (n : Nat) => (n : Int)) ++ [(n : Int)])) = some (lenB (l ++ [n]))
                unfold lenB
                rw [List.map_append]
                rfl
              · rw [nadd (total l) n, nwrapi (by omega), total_snoc]
              · rw [nadd, nwrapi (by omega)]
              · show M - 1 - (i + 2) < M - 1 - (i + 1)
                omega
          · have h3 : M - 1 ≤ i + 1 := lt_f h3
            have hiM : i + 1 = M - 1 := by omega
            rw [← hiM, hl] at hF
            simp only at hF
            conv => whnf
            refine Or.inl ?_
            conv => whnf
            rw [hqs]
            refine ⟨fun g5 => ?_, fun g5 => ?_⟩
            · have g5 : e - q < total l := gt_t g5
              rw [if_pos g5] at hF
              conv => whnf
              exact pkR_none (hF1.symm.trans hF) _
            have g5 : total l ≤ e - q := gt_f g5
            rw [if_neg (by omega)] at hF
            conv => whnf
            refine Or.inl ?_
            conv => whnf
            refine ⟨_root_.Fin (i + 2), fun ⟨j, _⟩ => vcSt b e (i + 1) pad (decide (128 ≤ byt b 1)) l q j, fun j => i + 1 - j.1, ⟨⟨0, by omega⟩, [0, 1, 2, 3], ⟨rfl, ⟨rfl, rfl, rfl, rfl, rfl, rfl, rfl, rfl, trivial⟩, rfl⟩, rfl, rfl, rfl, rfl, rfl, rfl, rfl, rfl, rfl, trivial⟩, fun ⟨j, hj⟩ => ?_⟩
            have htj := total_take (l := l) (j + 1)
            cases j with
            | zero =>
              conv => whnf
              refine ⟨fun h5 => ?_, fun h5 => absurd (lt_f h5) (by omega)⟩
              have hjl : 0 < l.length := by omega
              obtain ⟨n, hn⟩ : ∃ n, l[0]? = some n := ⟨_, List.getElem?_eq_getElem hjl⟩
              have hta := total_at hn
              have hca := cuts_at (b := b) (q := q) hn
              have hmn : (l.map fun (n : Nat) => (n : Int))[0]? = some (n : Int) := by rw [List.getElem?_map, hn]; rfl
              have hqj : (sub b (q + total (l.take (0))) e).size = e - (q + total (l.take (0))) := sub_size heb
              have hqu := fun i' j' (h : q + total (l.take (0)) + j' ≤ e) => sub_sub (p := q + total (l.take (0))) (i := i') heb h
              conv => whnf
              refine ⟨by omega, ?_⟩
              conv => whnf
              refine ⟨_, hmn, ?_⟩
              conv => whnf
              have hz : q + total (l.take 0) = q := rfl
              rw [hz] at hqj hqu hca
              rw [hqj]
              refine ⟨by omega, ?_⟩
              conv => whnf
              refine ⟨⟨⟨rfl, rfl⟩, trivial⟩, ?_⟩
              conv => whnf
              refine ⟨by omega, ByteArray, encStr, [], [(sub b q e).extract 0 n], fun _ => rfl, ⟨rfl, rfl, rfl⟩, by simp only [List.length_cons, List.length_nil]; omega, by simp only [List.length_cons, List.length_nil]; omega, ?_⟩
              conv => whnf
              refine ⟨trivial, ?_⟩
              conv => whnf
              refine ⟨trivial, ?_⟩
              conv => whnf
              rw [hqj]
              refine ⟨by omega, ?_⟩
              conv => whnf
              have e6 := hqu 0 n (by omega)
              have e7 := hqu n (e - q) (by omega)
              rw [show q + (e - q) = e by omega] at e7
              rw [Nat.add_zero] at e6
              refine ⟨⟨1, by omega⟩, ⟨[0, 1, 2, 3, 5], ⟨rfl, ⟨rfl, rfl, rfl, rfl, rfl, rfl, rfl, rfl, ?_, rfl, trivial⟩, rfl⟩, ?_, rfl, rfl, rfl, rfl, rfl, rfl, rfl, eq_i64 ?_, trivial⟩, ?_⟩
              · show some (strB [(sub b q e).extract 0 n]) = some (strB (strsOf b (cuts q (l.take (0 + 1)))))
                rw [e6, ← hca]
                rfl
              · show some (AV.o (A1.c (CV.val (.string ((sub b q e).extract n (e - q)))))) = some (AV.o (A1.c (CV.val (.string (sub b (q + total (l.take (0 + 1))) e)))))
                rw [e7, ← hta, show total (l.take 0) = 0 from rfl, Nat.zero_add]
              · rw [nadd, nwrapi (by omega)]
              · show i + 1 - 1 < i + 1 - 0
                omega
            | succ j =>
              conv => whnf
              refine ⟨fun h5 => ?_, fun h5 => ?_⟩
              · have h5 : j + 1 < i + 1 := lt_t h5
                have hjl : j + 1 < l.length := by omega
                obtain ⟨n, hn⟩ : ∃ n, l[j + 1]? = some n := ⟨_, List.getElem?_eq_getElem hjl⟩
                have hta := total_at hn
                have hca := cuts_at (b := b) (q := q) hn
                have hmn : (l.map fun (n : Nat) => (n : Int))[j + 1]? = some (n : Int) := by rw [List.getElem?_map, hn]; rfl
                have hqj : (sub b (q + total (l.take (j + 1))) e).size = e - (q + total (l.take (j + 1))) := sub_size heb
                have hqu := fun i' j' (h : q + total (l.take (j + 1)) + j' ≤ e) => sub_sub (p := q + total (l.take (j + 1))) (i := i') heb h
                conv => whnf
                refine ⟨by omega, ?_⟩
                conv => whnf
                refine ⟨_, hmn, ?_⟩
                conv => whnf
                rw [hqj]
                refine ⟨by omega, ?_⟩
                conv => whnf
                refine ⟨⟨⟨rfl, rfl⟩, trivial⟩, ?_⟩
                conv => whnf
                have htl : (strsOf b (cuts q (l.take (j + 1)))).length = j + 1 := by rw [strs_len, cuts_len, List.length_take]; omega
                have htl2 : (strsOf b (cuts q (l.take (j + 1))) ++ [(sub b (q + total (l.take (j + 1))) e).extract 0 n]).length = j + 2 := by rw [List.length_append, htl]; rfl
                refine ⟨htl.symm, [(sub b (q + total (l.take (j + 1))) e).extract 0 n], ⟨rfl, rfl, rfl⟩, by rw [htl2]; omega, by rw [htl2]; omega, ?_⟩
                conv => whnf
                refine ⟨trivial, ?_⟩
                conv => whnf
                refine ⟨trivial, ?_⟩
                conv => whnf
                rw [hqj]
                refine ⟨by omega, ?_⟩
                conv => whnf
                have e6 := hqu 0 n (by omega)
                have e7 := hqu n (e - (q + total (l.take (j + 1)))) (by omega)
                rw [show (q + total (l.take (j + 1))) + (e - (q + total (l.take (j + 1)))) = e by omega] at e7
                rw [Nat.add_zero] at e6
                rw [htl2]
                refine ⟨⟨j + 2, by omega⟩, ⟨[0, 1, 2, 3, 6], ⟨rfl, ⟨rfl, rfl, rfl, rfl, rfl, rfl, rfl, rfl, ?_, rfl, trivial⟩, rfl⟩, ?_, rfl, rfl, rfl, rfl, rfl, rfl, rfl, eq_i64 ?_, trivial⟩, ?_⟩
                · show some (strB (strsOf b (cuts q (l.take (j + 1))) ++ [(sub b (q + total (l.take (j + 1))) e).extract 0 n])) = some (strB (strsOf b (cuts q (l.take (j + 1 + 1)))))
                  rw [e6, ← hca]
                  rfl
                · show some (AV.o (A1.c (CV.val (.string ((sub b (q + total (l.take (j + 1))) e).extract n (e - (q + total (l.take (j + 1))))))))) = some (AV.o (A1.c (CV.val (.string (sub b (q + total (l.take (j + 1 + 1))) e)))))
                  rw [e7, ← hta, Nat.add_assoc]
                · rw [nadd, nwrapi (by omega)]
                · show i + 1 - (j + 2) < i + 1 - (j + 1)
                  omega
              · have h5 : i + 1 ≤ j + 1 := lt_f h5
                have hji : j + 1 = l.length := by omega
                have htk : l.take (j + 1) = l := List.take_of_length_le (by omega)
                have hce := cuts_end (b := b) (q := q) (l := l) (n := e - q - total l)
                have htl : (strsOf b (cuts q l)).length = j + 1 := by rw [strs_len, cuts_len]; omega
                have htl2 : (strsOf b (cuts q l) ++ [sub b (q + total l) e]).length = l.length + 1 := by rw [List.length_append, htl, hji]; rfl
                rw [show q + total l + (e - q - total l) = e by omega] at hce
                have hcl := cuts_len q (l ++ [e - q - total l])
                rw [List.length_append, List.length_singleton] at hcl
                conv => whnf
                rw [htk]
                refine ⟨htl.symm, [sub b (q + total l) e], ⟨rfl, rfl, rfl⟩, by rw [htl2]; omega, by rw [htl2]; omega, ?_⟩
                conv => whnf
                rw [htl2]
                refine ⟨⟨(cuts q (l ++ [e - q - total l]), true, pad, decide (128 ≤ byt b 1)), mid_of (e - q - total l) (fun h => ?_) (by rw [hcl]; omega) (fun h => by cases h) (fun x hx => ?_) (hF1.symm.trans hF) ⟨fun h => ?_, fun h x hx => ?_⟩⟩, [0, 1, 2, 6], ⟨rfl, ⟨rfl, rfl, rfl, rfl, ?_, rfl, ?_, rfl, trivial⟩, rfl⟩, rfl, rfl, rfl, rfl, rfl, trivial⟩
                · rw [show cuts q (l ++ [e - q - total l]) = [] from h] at hcl
                  cases hcl
                · have := (cuts_mem hx).2
                  rw [total_snoc] at this
                  omega
                · refine h (q + total l, e - q - total l) ?_
                  rw [show (cuts q (l ++ [e - q - total l]), true, pad, decide (128 ≤ byt b 1)).1 = cuts q (l ++ [e - q - total l]) from rfl, cuts_snoc]
                  exact List.mem_append_right _ (List.mem_singleton.2 rfl)
                · have hm := (cuts_mem hx).1
                  rcases List.mem_append.1 hm with hm | hm
                  · exact hq3 _ hm
                  · rw [List.mem_singleton.1 hm]
                    exact h
                · show some (Blk.cells 31 [.val (.int .i64 (byt b 0 / 8 : Nat)), .val (.bool (decide (byt b 0 / 4 % 2 = 1))), .val (.int .i64 (byt b 0 % 4 : Nat)), .vec 6 (l.length + 1), .val (.int .i64 pad), .val (.bool (decide (128 ≤ byt b 1)))]) = some (Blk.cells 31 [.val (.int .i64 (byt b 0 / 8 : Nat)), .val (.bool (decide (byt b 0 / 4 % 2 = 1))), .val (.int .i64 (byt b 0 % 4 : Nat)), .vec 6 (cuts q (l ++ [e - q - total l])).length, .val (.int .i64 pad), .val (.bool (decide (128 ≤ byt b 1)))])
                  rw [hcl]
                · show some (strB (strsOf b (cuts q l) ++ [sub b (q + total l) e])) = some (strB (strsOf b (cuts q (l ++ [e - q - total l]))))
                  rw [hce]
  · rintro ⟨⟨l, sh, pad, v⟩, hne, hl64, hl2, hin, hfr⟩
    simp only at hne hl64 hl2 hin hfr
    cases sh with
    | true =>
      have hsl := strs_len b l
      conv => whnf
      refine Or.inl ?_
      conv => whnf
      refine ⟨{k : Nat // k ≤ l.length ∧ ∀ i x, i < k → l[i]? = some x → x.2 ≤ 1275}, fun ⟨k, _⟩ => ⟨[(2, .o (.c (.ptr 0 0))), (3, .o (.c (.kb false))), (4, .o (.c (.val (.int .i64 ((0 : Nat) : Int))))), (5, .o (.c (.ptr 1 0))), (6, .o (.c (.ptr 2 0))), (242, .o (.c (pkV 3 l true))), (243, .o (.c (.val (.int .i64 l.length)))), (244, .o (.c (.val (.int .i64 k))))],
        [.cells 31 pkZ, .cells 31 pkZ, .cells 31 (pkA b 3 l true pad v), pkF b l true]⟩, fun k => l.length - k.1, ⟨⟨0, Nat.zero_le _, fun i x h => absurd h (by omega)⟩, [0, 1, 2, 3], ⟨rfl, ⟨rfl, rfl, rfl, rfl, rfl, rfl, rfl, rfl, trivial⟩, rfl⟩, rfl, rfl, rfl, rfl, rfl, rfl, rfl, rfl, trivial⟩, fun ⟨k, hk, hks⟩ => ?_⟩
      conv => whnf
      refine ⟨fun h3 => ?_, fun h3 => ?_⟩
      · have h3 : k < l.length := lt_t h3
        obtain ⟨s, x, hx, hs1, hs2⟩ := strs_get h3 hin
        conv => whnf
        refine Or.inl ?_
        conv => whnf
        refine ⟨by omega, ?_⟩
        conv => whnf
        refine ⟨s, hs1, ?_⟩
        conv => whnf
        refine ⟨fun h4 => ?_, fun h4 => ?_⟩
        · have h4 : 1275 < s.size := gt_t h4
          conv => whnf
          refine pkR_none ?_ _
          rw [hfr]
          refine if_neg fun h => ?_
          have := h x (List.mem_of_getElem? hx)
          omega
        have h4 : s.size ≤ 1275 := gt_f h4
        conv => whnf
        refine ⟨⟨k + 1, h3, fun i z hi hz => ?_⟩, ⟨[0, 1, 2, 3], ⟨rfl, ⟨rfl, rfl, rfl, rfl, rfl, rfl, rfl, rfl, trivial⟩, rfl⟩, rfl, rfl, rfl, rfl, rfl, rfl, rfl, eq_i64 ?_, trivial⟩, ?_⟩
        · by_cases hik : i = k
          · rw [hik] at hz
            rw [hz] at hx
            cases hx
            omega
          · exact hks i z (by omega) hz
        · rw [nadd, nwrapi (by omega)]
        · show l.length - (k + 1) < l.length - k
          omega
      · have h3 : l.length ≤ k := lt_f h3
        conv => whnf
        refine Or.inr ⟨[3], .t [.a (pkA b 0 l true pad v), .c (.val (.bool true)), .c (.val (.int .i64 ((1 : Nat) : Int)))], [pkF b l true], ⟨rfl, ⟨rfl, rfl, trivial⟩, rfl⟩, rfl, .inr ⟨l, true, pad, v, ?_, hne, hl2, rfl, rfl⟩⟩
        rw [hfr]
        refine if_pos fun x hx => ?_
        obtain ⟨i, hi, rfl⟩ := List.getElem_of_mem hx
        exact hks i _ (Nat.lt_of_lt_of_le hi h3) (List.getElem?_eq_getElem hi)
    | false =>
      have hl2 := hl2 rfl
      match l, hne, hl2, hin, hfr with
      | [], h, _, _, _ => exact absurd rfl h
      | [x], _, _, hin, hfr =>
        have hx := hin x (List.mem_cons_self ..)
        have hxs : (sub b x.1 (x.1 + x.2)).size = x.2 := by rw [sub_size hx]; omega
        conv => whnf
        refine Or.inl ?_
        conv => whnf
        refine ⟨{k : _root_.Fin 2 // k.1 = 1 → x.2 ≤ 1275}, fun ⟨⟨k, _⟩, _⟩ => ⟨[(2, .o (.c (.ptr 0 0))), (3, .o (.c (.kb false))), (4, .o (.c (.val (.int .i64 ((0 : Nat) : Int))))), (5, .o (.c (.ptr 1 0))), (6, .o (.c (.ptr 2 0))), (242, .o (.c (pkV 3 [x] false))), (243, .o (.c (.val (.int .i64 ((1 : Nat) : Int))))), (244, .o (.c (.val (.int .i64 k))))],
          [.cells 31 pkZ, .cells 31 pkZ, .cells 31 (pkA b 3 [x] false pad v), pkF b [x] false]⟩, fun k => 1 - k.1.1, ⟨⟨⟨0, by omega⟩, fun h => absurd (show 0 = 1 from h) (by omega)⟩, [0, 1, 2, 3], ⟨rfl, ⟨rfl, rfl, rfl, rfl, rfl, rfl, rfl, rfl, trivial⟩, rfl⟩, rfl, rfl, rfl, rfl, rfl, rfl, rfl, rfl, trivial⟩, fun ⟨⟨k, hk⟩, hks⟩ => ?_⟩
        conv => whnf
        rcases (show k = 0 ∨ k = 1 by omega) with rfl | rfl
        · refine ⟨fun _ => ?_, fun h => absurd (lt_f h) (by omega)⟩
          conv => whnf
          refine Or.inl ?_
          conv => whnf
          refine ⟨by show (0 : Int) ≤ ((0 : Nat) : Int) ∧ ((0 : Nat) : Int) < ((1 : Nat) : Int); omega, ?_⟩
          conv => whnf
          rw [hxs]
          refine ⟨fun h4 => ?_, fun h4 => ?_⟩
          · have h4 : 1275 < x.2 := gt_t h4
            conv => whnf
            refine pkR_none ?_ _
            rw [hfr]
            refine if_neg fun h => ?_
            have := h x (List.mem_cons_self ..)
            omega
          have h4 : x.2 ≤ 1275 := gt_f h4
          conv => whnf
          exact ⟨⟨⟨1, by omega⟩, fun _ => h4⟩, ⟨[0, 1, 2, 3], ⟨rfl, ⟨rfl, rfl, rfl, rfl, rfl, rfl, rfl, rfl, trivial⟩, rfl⟩, rfl, rfl, rfl, rfl, rfl, rfl, rfl, eq_i64 (by rw [nadd, nwrapi (by omega)]), trivial⟩, by show 1 - 1 < 1 - 0; omega⟩
        · refine ⟨fun h => absurd (lt_t h) (by omega), fun _ => ?_⟩
          conv => whnf
          refine Or.inr ⟨[3], .t [.a (pkA b 0 [x] false pad v), .c (.val (.bool true)), .c (.val (.int .i64 ((1 : Nat) : Int)))], [pkF b [x] false], ⟨rfl, ⟨rfl, rfl, trivial⟩, rfl⟩, rfl, .inr ⟨[x], false, pad, v, ?_, fun h => (by cases h), fun _ => (by show 1 ≤ 2; omega), rfl, rfl⟩⟩
          rw [hfr]
          refine if_pos fun z hz => ?_
          rw [List.mem_singleton.1 hz]
          exact hks rfl
      | [x, y], _, _, hin, hfr =>
        have hx := hin x (List.mem_cons_self ..)
        have hy := hin y (List.mem_cons_of_mem _ (List.mem_cons_self ..))
        have hxs : (sub b x.1 (x.1 + x.2)).size = x.2 := by rw [sub_size hx]; omega
        have hys : (sub b y.1 (y.1 + y.2)).size = y.2 := by rw [sub_size hy]; omega
        conv => whnf
        refine Or.inl ?_
        conv => whnf
        refine ⟨{k : _root_.Fin 3 // (1 ≤ k.1 → x.2 ≤ 1275) ∧ (2 ≤ k.1 → y.2 ≤ 1275)}, fun ⟨⟨k, _⟩, _⟩ => ⟨[(2, .o (.c (.ptr 0 0))), (3, .o (.c (.kb false))), (4, .o (.c (.val (.int .i64 ((0 : Nat) : Int))))), (5, .o (.c (.ptr 1 0))), (6, .o (.c (.ptr 2 0))), (242, .o (.c (pkV 3 [x, y] false))), (243, .o (.c (.val (.int .i64 ((2 : Nat) : Int))))), (244, .o (.c (.val (.int .i64 k))))],
          [.cells 31 pkZ, .cells 31 pkZ, .cells 31 (pkA b 3 [x, y] false pad v), pkF b [x, y] false]⟩, fun k => 2 - k.1.1, ⟨⟨⟨0, by omega⟩, fun h => absurd (show 1 ≤ 0 from h) (by omega), fun h => absurd (show 2 ≤ 0 from h) (by omega)⟩, [0, 1, 2, 3], ⟨rfl, ⟨rfl, rfl, rfl, rfl, rfl, rfl, rfl, rfl, trivial⟩, rfl⟩, rfl, rfl, rfl, rfl, rfl, rfl, rfl, rfl, trivial⟩, fun ⟨⟨k, hk⟩, hks, hks2⟩ => ?_⟩
        conv => whnf
        rcases (show k = 0 ∨ k = 1 ∨ k = 2 by omega) with rfl | rfl | rfl
        · refine ⟨fun _ => ?_, fun h => absurd (lt_f h) (by omega)⟩
          conv => whnf
          refine Or.inl ?_
          conv => whnf
          refine ⟨by show (0 : Int) ≤ ((0 : Nat) : Int) ∧ ((0 : Nat) : Int) < ((2 : Nat) : Int); omega, ?_⟩
          conv => whnf
          rw [hxs]
          refine ⟨fun h4 => ?_, fun h4 => ?_⟩
          · have h4 : 1275 < x.2 := gt_t h4
            conv => whnf
            refine pkR_none ?_ _
            rw [hfr]
            refine if_neg fun h => ?_
            have := h x (List.mem_cons_self ..)
            omega
          have h4 : x.2 ≤ 1275 := gt_f h4
          conv => whnf
          exact ⟨⟨⟨1, by omega⟩, fun _ => h4, fun h => absurd (show 2 ≤ 1 from h) (by omega)⟩, ⟨[0, 1, 2, 3], ⟨rfl, ⟨rfl, rfl, rfl, rfl, rfl, rfl, rfl, rfl, trivial⟩, rfl⟩, rfl, rfl, rfl, rfl, rfl, rfl, rfl, eq_i64 (by rw [nadd, nwrapi (by omega)]), trivial⟩, by show 2 - 1 < 2 - 0; omega⟩
        · refine ⟨fun _ => ?_, fun h => absurd (lt_f h) (by omega)⟩
          conv => whnf
          refine Or.inl ?_
          conv => whnf
          refine ⟨by show (0 : Int) ≤ ((1 : Nat) : Int) ∧ ((1 : Nat) : Int) < ((2 : Nat) : Int); omega, ?_⟩
          conv => whnf
          rw [hys]
          refine ⟨fun h4 => ?_, fun h4 => ?_⟩
          · have h4 : 1275 < y.2 := gt_t h4
            conv => whnf
            refine pkR_none ?_ _
            rw [hfr]
            refine if_neg fun h => ?_
            have := h y (List.mem_cons_of_mem _ (List.mem_cons_self ..))
            omega
          have h4 : y.2 ≤ 1275 := gt_f h4
          conv => whnf
          exact ⟨⟨⟨2, by omega⟩, fun _ => hks (Nat.le_refl _), fun _ => h4⟩, ⟨[0, 1, 2, 3], ⟨rfl, ⟨rfl, rfl, rfl, rfl, rfl, rfl, rfl, rfl, trivial⟩, rfl⟩, rfl, rfl, rfl, rfl, rfl, rfl, rfl, eq_i64 (by rw [nadd, nwrapi (by omega)]), trivial⟩, by show 2 - 2 < 2 - 1; omega⟩
        · refine ⟨fun h => absurd (lt_t h) (by omega), fun _ => ?_⟩
          conv => whnf
          refine Or.inr ⟨[3], .t [.a (pkA b 0 [x, y] false pad v), .c (.val (.bool true)), .c (.val (.int .i64 ((1 : Nat) : Int)))], [pkF b [x, y] false], ⟨rfl, ⟨rfl, rfl, trivial⟩, rfl⟩, rfl, .inr ⟨[x, y], false, pad, v, ?_, fun h => (by cases h), fun _ => (by show 2 ≤ 2; omega), rfl, rfl⟩⟩
          rw [hfr]
          refine if_pos fun z hz => ?_
          rcases List.mem_cons.1 hz with rfl | hz
          · exact hks (by show 1 ≤ 2; omega)
          · rw [List.mem_singleton.1 hz]
            exact hks2 (Nat.le_refl _)
      | _ :: _ :: _ :: _, _, h, _, _ => exact absurd h (by simp)
end Go.Proofs.YtknfakehijoogaaDoor
