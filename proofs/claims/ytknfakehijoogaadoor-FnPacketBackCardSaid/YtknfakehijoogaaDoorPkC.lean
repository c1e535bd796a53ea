/- The package takes a packet apart: lengths, codes 0 to 2. -/
import Derived.Test.YtknfakehijoogaaDoorPkB
import Derived.Test.YtknfakehijoogaaDoorIrP
import Derived.Test.YtknfakehijoogaaDoorRmC
namespace Go.Proofs.YtknfakehijoogaaDoor
open Go Go.Vc
set_option maxRecDepth 100000
set_option maxHeartbeats 4000000

def errAt (w0 : World) (g : Nat) : Prop := ∃ t u, w0.cell? ⟨g, 0, none⟩ = some (.iface t u)
def bytB (b : ByteArray) : Blk := .vec false 5 (encI .u8) [] 1 (bytesOf b)
theorem light_bytB (b : ByteArray) : Blk.light (bytB b) := light_bytes
/-- A row that is a piece of the bytes: where it begins, how long it is, what is behind. -/
abbrev Fr := Nat × Nat × Nat
def encFr : Enc (Option Fr) := ⟨fun bs x => match bs, x with
  | b :: _, some (o, n, c) => [.sli b 1 o n c]
  | _, _ => [.val (.slice none 0 0)], fun σ bs bs' x hl h => by
    cases bs with
    | nil =>
      cases bs' with
      | nil => rfl
      | cons b' r' => cases hl
    | cons b r =>
      cases bs' with
      | nil => cases hl
      | cons b' r' =>
        cases x with
        | none => rfl
        | some x =>
          obtain ⟨o, n, c⟩ := x
          have h0 := h 0 (by simp)
          have h0 : σ[b]? = some b' := h0
          show [CV.ren σ (.sli b 1 o n c)] = [.sli b' 1 o n c]
          show [match σ[b]? with | some k => CV.sli k 1 o n c | none => .bad] = _
          rw [h0]⟩
theorem encFr_len (b : Nat) (x : Option Fr) : (encFr.f [b] x).length = 1 := by
  cases x with
  | none => rfl
  | some x => rfl
theorem encFr_light (b : Nat) (x : Option Fr) : ∀ c ∈ encFr.f [b] x, CV.light c := by
  intro c hc
  cases x with
  | none =>
    have hc : c ∈ [CV.val (.slice none 0 0)] := hc
    rw [List.mem_singleton.1 hc]
    exact light_val _
  | some x =>
    have hc : c ∈ [CV.sli b 1 x.1 x.2.1 x.2.2] := hc
    rw [List.mem_singleton.1 hc]
    exact light_sli _ _ _ _ _
/-- The row is the bytes from 'p' on, 'n' of them. -/
def rowIs (b : ByteArray) (x : Option Fr) (p n : Nat) : Prop := ∃ o c, x = some (o, n, c) ∧ o + n ≤ b.size ∧ sub b o (o + n) = sub b p (p + n) ∧ n ≤ c
/-- The rows are these pieces. -/
def rowsAre (b : ByteArray) (xs : List (Option Fr)) (l : List (Nat × Nat)) : Prop := xs.length = l.length ∧ ∀ (i p n : Nat), l[i]? = some (p, n) → ∃ x, xs[i]? = some x ∧ rowIs b x p n
theorem sub_nil {b : ByteArray} {p : Nat} : sub b p p = ByteArray.empty := by
  unfold sub
  apply ByteArray.ext
  apply Array.ext'
  rw [ByteArray.data_extract, Array.toList_extract, List.extract_eq_take_drop, Nat.sub_self, List.take_zero]
  rfl
theorem rowIs_at {b : ByteArray} {p n c : Nat} (h : p + n ≤ b.size) (hc : n ≤ c) : rowIs b (some (p, n, c)) p n := ⟨p, c, rfl, h, rfl, hc⟩
theorem rowIs_nil {b : ByteArray} {p n o : Nat} (hn : n = 0) (ho : o ≤ b.size) : rowIs b (some (o, 0, 0)) p n := by
  subst hn
  exact ⟨o, 0, rfl, ho, by rw [Nat.add_zero, Nat.add_zero, sub_nil, sub_nil], Nat.le_refl _⟩
theorem rowIs_to {b : ByteArray} {p n o m c : Nat} (ho : o = p) (hm : m = n) (h : p + n ≤ b.size) (hc : m ≤ c) : rowIs b (some (o, m, c)) p n := by
  subst ho hm
  exact rowIs_at h hc
def errR (r : AV) (n : List A1) : Prop := ∃ t u, r = .t (n ++ [.c (.val (.iface t u))])

theorem flen_bounds {b : ByteArray} {e p n k : Nat} (h : flen b e p = some (n, k)) : 1 ≤ k ∧ p + k ≤ e ∧ n ≤ 1275 := by
  unfold flen at h
  have h0 := byt_lt b p
  have h1 := byt_lt b (p + 1)
  split at h
  · cases h
  split at h
  · cases h
    omega
  split at h
  · cases h
  · cases h
    omega
theorem pLenW {w0 : World} (he : errAt w0 1) {b : ByteArray} {o m c : Nat} (h : o + m ≤ b.size) :
    CallsA Tryd.prog w0 73 [.c (.sli 0 1 o m c)] [bytB b] fun r H => H = [bytB b] ∧ ((flen b (o + m) o = none ∧ errR r [.c (.val (.int .i64 ((0 : Nat) : Int))), .c (.val (.int .i64 ((0 : Nat) : Int)))]) ∨
      ∃ n k, flen b (o + m) o = some (n, k) ∧ r = .t [.c (.val (.int .i64 n)), .c (.val (.int .i64 k)), .c (.val .nilIface)]) := by
  obtain ⟨te, ue, he⟩ := he
  refine callsA_of_ev c73_ ?_
  conv => whnf
  refine Or.inl ?_
  conv => whnf
  refine ⟨fun c1 => ?_, fun c1 => ?_⟩
  · have c1 : m < 1 := lt_t c1
    conv => whnf
    refine ⟨.iface te ue, he, rfl, ?_⟩
    conv => whnf
    exact Or.inl ⟨rfl, .inl ⟨by unfold flen; rw [if_pos (by omega)], te, ue, rfl⟩⟩
  have c1 : 1 ≤ m := lt_f c1
  have hb0 := byt_vec (b := b) (i := o) (by omega)
  have hlt0 := byt_lt b o
  have hf : flen b (o + m) o = if byt b o < 252 then some (byt b o, 1) else if o + m ≤ o + 1 then none else some (byt b o + 4 * byt b (o + 1), 2) := by
    unfold flen
    rw [if_neg (by omega)]
  conv => whnf
  refine Or.inl ?_
  conv => whnf
  refine ⟨by omega, ?_⟩
  conv => whnf
  refine ⟨_, hb0, ?_⟩
  conv => whnf
  refine ⟨fun c2 => ?_, fun c2 => ?_⟩
  · have c2 : byt b o < 252 := lt_t c2
    rw [if_pos c2] at hf
    conv => whnf
    refine ⟨by omega, ?_⟩
    conv => whnf
    refine ⟨_, hb0, ?_⟩
    conv => whnf
    rw [nwrapi (n := byt b o) (by omega)]
    exact Or.inl ⟨rfl, .inr ⟨_, _, hf, rfl⟩⟩
  have c2 : 252 ≤ byt b o := lt_f c2
  rw [if_neg (by omega)] at hf
  conv => whnf
  refine Or.inl ?_
  conv => whnf
  refine ⟨fun c3 => ?_, fun c3 => ?_⟩
  · have c3 : m < 2 := lt_t c3
    conv => whnf
    refine ⟨.iface te ue, he, rfl, ?_⟩
    conv => whnf
    exact Or.inl ⟨rfl, .inl ⟨by rw [hf, if_pos (by omega)], te, ue, rfl⟩⟩
  have c3 : 2 ≤ m := lt_f c3
  rw [if_neg (by omega)] at hf
  have hb1 := byt_vec (b := b) (i := o + 1) (by omega)
  have hlt1 := byt_lt b (o + 1)
  conv => whnf
  refine ⟨by omega, ?_⟩
  conv => whnf
  refine ⟨_, hb0, ?_⟩
  conv => whnf
  refine ⟨by omega, ?_⟩
  conv => whnf
  refine ⟨_, hb1, ?_⟩
  conv => whnf
  rw [nwrapi (n := byt b o) (by omega), nwrapi (n := byt b (o + 1)) (by omega), nmul, nwrapi (n := 4 * byt b (o + 1)) (by omega), nadd, nwrapi (n := byt b o + 4 * byt b (o + 1)) (by omega)]
  exact Or.inl ⟨rfl, .inr ⟨_, _, hf, rfl⟩⟩

/-! Codes 0 to 2 -/
def okR (b : ByteArray) (F : Option (List (Nat × Nat))) (r : AV) (H : List Blk) : Prop :=
  (F = none ∧ errR r [.c (.val (.slice none 0 0))] ∧ H = [bytB b]) ∨ ∃ xs rest l, F = some l ∧ xs ≠ [] ∧ rowsAre b xs l ∧ rest = [A1.c (.val .nilIface)] ∧ r = .t (.c (.vec 1 xs.length) :: rest) ∧ H = [bytB b, .vec true 43 encFr [0] 1 xs]
theorem okOf {w0 : World} {f : FuncId} {args : List A1} {b : ByteArray} {F : Option (List (Nat × Nat))}
    (h : CallsA Tryd.prog w0 f args [bytB b] fun r H => (F = none ∧ errR r [.c (.val (.slice none 0 0))] ∧ H = [bytB b]) ∨ ∃ xs rest, xs ≠ [] ∧ xs.length ≤ 100000 ∧ ((∃ l, F = some l ∧ rowsAre b xs l) ∧ rest = [A1.c (.val .nilIface)]) ∧ (∀ a ∈ rest, ∃ v, a = A1.c (.val v)) ∧ r = .t (.c (.sli 1 1 0 xs.length xs.length) :: rest) ∧ H = [bytB b] ++ [.cells 43 (flat encFr [0] xs)]) :
    CallsA Tryd.prog w0 f args [bytB b] (okR b F) := by
  refine (asVec (H := [bytB b]) (T := 43) (e := encFr) (bs := [0]) (Q := fun xs rest => (∃ l, F = some l ∧ rowsAre b xs l) ∧ rest = [A1.c (.val .nilIface)]) (R1 := fun r H => F = none ∧ errR r [.c (.val (.slice none 0 0))] ∧ H = [bytB b]) (fun k hk => by rw [List.mem_singleton.1 hk]; exact light_bytB b) (encFr_light 0) (encFr_len 0) h).mono ?_
  rintro r H (h1 | ⟨xs, rest, h1, ⟨⟨l, h2, h3⟩, h4⟩, h5, h6⟩)
  · exact .inl h1
  · exact .inr ⟨xs, rest, l, h2, h1, h3, h4, h5, h6⟩
theorem rows1 {b : ByteArray} {x : Option Fr} {p n : Nat} (h : rowIs b x p n) : rowsAre b [x] [(p, n)] := by
  refine ⟨rfl, fun i p' n' hi => ?_⟩
  cases i with
  | zero => cases hi; exact ⟨x, rfl, h⟩
  | succ i => cases hi
theorem rows2 {b : ByteArray} {x y : Option Fr} {p n q m : Nat} (h : rowIs b x p n) (k : rowIs b y q m) : rowsAre b [x, y] [(p, n), (q, m)] := by
  refine ⟨rfl, fun i p' n' hi => ?_⟩
  match i with
  | 0 => cases hi; exact ⟨x, rfl, h⟩
  | 1 => cases hi; exact ⟨y, rfl, k⟩
  | i + 2 => cases hi
theorem restV : ∀ a ∈ [A1.c (.val .nilIface)], ∃ v, a = A1.c (.val v) := fun a ha => ⟨_, List.mem_singleton.1 ha⟩

theorem pCode0W {w0 : World} (he : errAt w0 1) {b : ByteArray} (h : 1 ≤ b.size) (hs : b.size ≤ 100000) :
    CallsA Tryd.prog w0 53 [.c (.vec 0 b.size)] [bytB b] (okR b (if 1275 < b.size - 1 then none else some [(1, b.size - 1)])) := by
  obtain ⟨te, ue, he⟩ := he
  refine okOf ?_
  have herr : ∀ c : Nat, 1275 < c → c = b.size - 1 → (if 1275 < b.size - 1 then none else some [(1, b.size - 1)]) = (none : Option (List (Nat × Nat))) := fun c h1 h2 => if_pos (by omega)
  refine callsA_of_ev c53_ ?_
  conv => whnf
  refine Or.inl ?_
  conv => whnf
  refine ⟨by omega, Or.inl ⟨fun c' g1 g2 => ?_, fun g1 => ?_, fun g1 g2 => absurd g2 (by omega)⟩⟩
  · conv => whnf
    refine ⟨fun c1 => ?_, fun c1 => ?_⟩
    · have c1 : 1275 < b.size - 1 := gt_t c1
      conv => whnf
      refine ⟨.iface te ue, he, rfl, ?_⟩
      conv => whnf
      exact Or.inl (.inl ⟨if_pos c1, ⟨te, ue, rfl⟩, rfl⟩)
    · have c1 : b.size - 1 ≤ 1275 := gt_f c1
      conv => whnf
      refine ⟨by omega, Or.inl ⟨fun c'' g3 g4 => ?_, fun g3 => ?_, fun g1 g2 => absurd g2 (by omega)⟩⟩
      · conv => whnf
        exact Or.inl (.inr ⟨[some (1, b.size - 1, c'' - 1)], [A1.c (.val .nilIface)], List.cons_ne_nil _ _, by show 1 ≤ 100000; omega, ⟨⟨_, if_neg (by omega), rows1 (rowIs_at (by omega) (by omega))⟩, rfl⟩, restV, rfl, rfl⟩)
      · conv => whnf
        exact Or.inl (.inr ⟨[some (0, 0, 0)], [A1.c (.val .nilIface)], List.cons_ne_nil _ _, by show 1 ≤ 100000; omega, ⟨⟨_, if_neg (by omega), rows1 (rowIs_nil (by omega) (by omega))⟩, rfl⟩, restV, rfl, rfl⟩)
  · conv => whnf
    refine ⟨fun c1 => absurd (gt_t (a := 0) c1) (by omega), fun c1 => ?_⟩
    conv => whnf
    refine ⟨by omega, Or.inl ⟨fun c'' g3 g4 => ?_, fun g3 => ?_, fun g1 g2 => absurd g2 (by omega)⟩⟩
    · conv => whnf
      exact Or.inl (.inr ⟨[some (1, b.size - 1, c'' - 1)], [A1.c (.val .nilIface)], List.cons_ne_nil _ _, by show 1 ≤ 100000; omega, ⟨⟨_, if_neg (by omega), rows1 (rowIs_at (by omega) (by omega))⟩, rfl⟩, restV, rfl, rfl⟩)
    · conv => whnf
      exact Or.inl (.inr ⟨[some (0, 0, 0)], [A1.c (.val .nilIface)], List.cons_ne_nil _ _, by show 1 ≤ 100000; omega, ⟨⟨_, if_neg (by omega), rows1 (rowIs_nil (by omega) (by omega))⟩, rfl⟩, restV, rfl, rfl⟩)

theorem pCode1W {w0 : World} (he : errAt w0 1) {b : ByteArray} (h : 1 ≤ b.size) (hs : b.size ≤ 100000) :
    CallsA Tryd.prog w0 54 [.c (.vec 0 b.size)] [bytB b] (okR b (if (b.size - 1) % 2 = 1 then none else if 1275 < (b.size - 1) / 2 then none else some [(1, (b.size - 1) / 2), (1 + (b.size - 1) / 2, (b.size - 1) / 2)])) := by
  obtain ⟨te, ue, he⟩ := he
  refine okOf ?_
  refine callsA_of_ev c54_ ?_
  conv => whnf
  refine ⟨by omega, Or.inl ⟨fun c' g1 g2 => ?_, fun g1 => ?_, fun g1 g2 => absurd g2 (by omega)⟩⟩
  · conv => whnf
    refine Or.inl ?_
    conv => whnf
    have e1 : (((b.size : Nat) : Int).toNat - ((1 : Nat) : Int).toNat) = b.size - 1 := rfl
    rw [e1, ntmod]
    refine ⟨fun c1 => ?_, fun c1 => ?_⟩
    · have c1 : (b.size - 1) % 2 ≠ 0 := bne_t c1
      conv => whnf
      refine ⟨.iface te ue, he, rfl, ?_⟩
      conv => whnf
      exact Or.inl (.inl ⟨if_pos (by omega), ⟨te, ue, rfl⟩, rfl⟩)
    have c1 : (b.size - 1) % 2 = 0 := bne_f c1
    rw [if_neg (by omega)]
    conv => whnf
    refine Or.inl ?_
    conv => whnf
    rw [ntdiv, nwrapi (n := (b.size - 1) / 2) (by omega)]
    refine ⟨fun c2 => ?_, fun c2 => ?_⟩
    · have c2 : 1275 < (b.size - 1) / 2 := gt_t c2
      conv => whnf
      refine ⟨.iface te ue, he, rfl, ?_⟩
      conv => whnf
      exact Or.inl (.inl ⟨if_pos c2, ⟨te, ue, rfl⟩, rfl⟩)
    have c2 : (b.size - 1) / 2 ≤ 1275 := gt_f c2
    conv => whnf
    refine ⟨⟨by omega, by omega, by omega⟩, fun g3 => ?_, fun g3 g4 => absurd g4 (by omega)⟩
    conv => whnf
    refine ⟨⟨by omega, by omega, by omega⟩, fun g5 => ?_, fun g5 g6 => absurd g6 (by omega)⟩
    conv => whnf
    refine ⟨trivial, ?_⟩
    conv => whnf
    refine ⟨trivial, ?_⟩
    conv => whnf
    exact Or.inl (.inr ⟨[some (1, (b.size - 1) / 2, c' - 1), some (1 + (b.size - 1) / 2, b.size - 1 - (b.size - 1) / 2, c' - 1 - (b.size - 1) / 2)], [A1.c (.val .nilIface)], List.cons_ne_nil _ _, by show 2 ≤ 100000; omega, ⟨⟨_, if_neg (by omega), rows2 (rowIs_at (by omega) (by omega)) (by rw [show b.size - 1 - (b.size - 1) / 2 = (b.size - 1) / 2 by omega]; exact rowIs_at (by omega) (by omega))⟩, rfl⟩, restV, rfl, rfl⟩)
  · conv => whnf
    refine Or.inl ?_
    conv => whnf
    refine ⟨fun c1 => absurd c1 (by decide), fun c1 => ?_⟩
    conv => whnf
    refine Or.inl ?_
    conv => whnf
    refine ⟨fun c1 => absurd c1 (by decide), fun c1 => ?_⟩
    conv => whnf
    refine ⟨⟨by decide, by decide, by decide⟩, fun g3 => absurd g3 (by decide), fun g3 g4 => ?_⟩
    conv => whnf
    refine ⟨⟨by decide, by decide, by decide⟩, fun g5 => absurd g5 (by decide), fun g5 g6 => ?_⟩
    conv => whnf
    refine ⟨trivial, ?_⟩
    conv => whnf
    refine ⟨trivial, ?_⟩
    conv => whnf
    have hb1 : b.size = 1 := by omega
    exact Or.inl (.inr ⟨[some (0, 0, 0), some (0, 0, 0)], [A1.c (.val .nilIface)], List.cons_ne_nil _ _, by show 2 ≤ 100000; omega, ⟨⟨_, by rw [hb1]; rfl, rows2 (rowIs_nil (by omega) (by omega)) (rowIs_nil (by omega) (by omega))⟩, rfl⟩, restV, rfl, rfl⟩)

theorem pCode2W {w0 : World} (he : errAt w0 1) {b : ByteArray} (h : 1 ≤ b.size) (hs : b.size ≤ 100000) :
    CallsA Tryd.prog w0 55 [.c (.vec 0 b.size)] [bytB b] (okR b (match flen b b.size 1 with
      | none => none
      | some (n, r) => if b.size < 1 + r + n then none else if 1275 < b.size - (1 + r + n) then none else some [(1 + r, n), (1 + r + n, b.size - (1 + r + n))])) := by
  have hlen := fun o m c h => pLenW he (b := b) (o := o) (m := m) (c := c) h
  obtain ⟨te, ue, he⟩ := he
  refine okOf ?_
  refine callsA_of_ev c55_ ?_
  conv => whnf
  refine ⟨by omega, Or.inl ⟨fun c' g1 g2 => ?_, fun g1 => ?_, fun g1 g2 => absurd g2 (by omega)⟩⟩
  · conv => whnf
    have hl := hlen 1 (b.size - 1) (c' - 1) (by omega)
    rw [show 1 + (b.size - 1) = b.size by omega] at hl
    refine hl.mono ?_
    rintro _ _ ⟨rfl, ⟨hf, t, u, rfl⟩ | ⟨n, k, hf, rfl⟩⟩
    · rw [hf]
      conv => whnf
      refine Or.inl ?_
      conv => whnf
      refine ⟨fun _ => ?_, (fun h => by cases h)⟩
      conv => whnf
      exact Or.inl (.inl ⟨rfl, ⟨t, u, rfl⟩, rfl⟩)
    rw [hf]
    obtain ⟨hk1, hk2, hn⟩ := flen_bounds hf
    conv => whnf
    refine Or.inl ?_
    conv => whnf
    refine ⟨(fun h => by cases h), fun _ => ?_⟩
    conv => whnf
    refine Or.inl ?_
    conv => whnf
    rw [nadd, nwrapi (n := 1 + k) (by omega), nadd, nwrapi (n := 1 + k + n) (by omega)]
    refine ⟨fun c1 => ?_, fun c1 => ?_⟩
    · have c1 : b.size < 1 + k + n := gt_t c1
      conv => whnf
      refine ⟨.iface te ue, he, rfl, ?_⟩
      conv => whnf
      exact Or.inl (.inl ⟨if_pos c1, ⟨te, ue, rfl⟩, rfl⟩)
    have c1 : 1 + k + n ≤ b.size := gt_f c1
    conv => whnf
    refine Or.inl ?_
    conv => whnf
    rw [nsub (a := b.size) (b := 1 + k + n) (by omega), nwrapi (n := b.size - (1 + k + n)) (by omega)]
    refine ⟨fun c2 => ?_, fun c2 => ?_⟩
    · have c2 : 1275 < b.size - (1 + k + n) := gt_t c2
      conv => whnf
      refine ⟨.iface te ue, he, rfl, ?_⟩
      conv => whnf
      exact Or.inl (.inl ⟨by show (if b.size < 1 + k + n then none else if 1275 < b.size - (1 + k + n) then none else some _) = none; rw [if_neg (by omega), if_pos c2], ⟨te, ue, rfl⟩, rfl⟩)
    have c2 : b.size - (1 + k + n) ≤ 1275 := gt_f c2
    conv => whnf
    refine ⟨⟨by omega, by omega, by omega⟩, Or.inl ⟨fun ca g3 g4 => ?_, fun g3 => ?_, fun g3 g4 => absurd g4 (by omega)⟩⟩
    all_goals
      conv => whnf
      refine ⟨⟨by omega, by omega, by omega⟩, Or.inl ⟨fun cb g5 g6 => ?_, fun g5 => ?_, fun g5 g6 => absurd g6 (by omega)⟩⟩
    all_goals
      conv => whnf
      refine ⟨trivial, ?_⟩
      conv => whnf
      refine Or.inl (.inr ⟨[some (_, _, _), some (_, _, _)], [A1.c (.val .nilIface)], List.cons_ne_nil _ _, ?_, ⟨⟨[(1 + k, n), (1 + k + n, b.size - (1 + k + n))], ?_, rows2 ?_ ?_⟩, rfl⟩, restV, rfl, rfl⟩)
      · show 2 ≤ 100000
        omega
      · show (if b.size < 1 + k + n then none else if 1275 < b.size - (1 + k + n) then none else some _) = _
        rw [if_neg (by omega), if_neg (by omega)]
      · first | exact rowIs_to (by omega) (by omega) (by omega) (by omega) | exact rowIs_nil (by omega) (by omega)
      · first | exact rowIs_to (by omega) (by omega) (by omega) (by omega) | exact rowIs_nil (by omega) (by omega)
  · conv => whnf
    have hb1 : b.size = 1 := by omega
    have hl := hlen 0 0 0 (by omega)
    have hf0 : flen b (0 + 0) 0 = none := if_pos (Nat.le_refl _)
    have hf1 : flen b b.size 1 = none := if_pos (by omega)
    rw [hf0] at hl
    refine hl.mono ?_
    rintro _ _ ⟨rfl, ⟨_, t, u, rfl⟩ | ⟨n, k, hf, _⟩⟩
    · rw [hf1]
      conv => whnf
      refine Or.inl ?_
      conv => whnf
      refine ⟨fun _ => ?_, (fun h => by cases h)⟩
      conv => whnf
      exact Or.inl (.inl ⟨rfl, ⟨t, u, rfl⟩, rfl⟩)
    · cases hf
end Go.Proofs.YtknfakehijoogaaDoor
