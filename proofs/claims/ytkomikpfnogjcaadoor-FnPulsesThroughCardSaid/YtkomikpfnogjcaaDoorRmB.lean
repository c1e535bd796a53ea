/- What a script reads. -/
import Derived.Test.YtkomikpfnogjcaaDoorRmA
import Derived.Test.YtkomikpfnogjcaaDoorIrA
section
namespace Go.Proofs.YtkomikpfnogjcaaDoor
open Go Go.Vc
set_option maxRecDepth 100000

def natI (l : List Nat) : List Int := l.map fun (x : Nat) => (x : Int)
theorem natI_len (l : List Nat) : (natI l).length = l.length := by simp [natI]
def tabSt (sl : Value) (tab : List Nat) : Nat → S
  | 0 => ⟨[(3, .o (.c (.val (.slice none 0 0)))), (6, .o (.c (.val sl))), (7, .o (.c (.val (.int .i64 tab.length)))), (8, .o (.c (.val (.int .i64 ((0 : Nat) : Int)))))], []⟩
  | k + 1 => ⟨[(3, .o (.c (.vec 0 (k + 1)))), (6, .o (.c (.val sl))), (7, .o (.c (.val (.int .i64 tab.length)))), (8, .o (.c (.val (.int .i64 ((k + 1 : Nat) : Int)))))], [.vec true 45 (encI .u64) [] 1 ((natI tab).take (k + 1))]⟩
theorem take_snoc {tab : List Nat} {k x : Nat} (h : tab[k]? = some x) : (natI tab).take k ++ [(x : Int)] = (natI tab).take (k + 1) := by
  have hk := (List.getElem?_eq_some_iff.1 h).1
  rw [List.take_add_one]
  congr 1
  simp [natI, h]

theorem tableW (w0 : World) {a : Addr} {c : Nat} {tab : List Nat} (h1 : 1 ≤ tab.length) (h2 : tab.length ≤ 65536) (hb : ∀ (i x : Nat), tab[i]? = some x → x < 4294967296 ∧ w0.cell? (a.add i) = some (.int .u32 x)) :
    CallsA Tryd.prog w0 53 [.c (.val (.slice (some a) tab.length c))] [] fun r H => r = .o (.c (.vec 0 tab.length)) ∧ H = [.vec true 45 (encI .u64) [] 1 (natI tab)] := by
  refine callsA_of_ev c53_ ?_
  conv => whnf
  refine Or.inl ?_
  conv => whnf
  refine ⟨_root_.Fin (tab.length + 1), fun ⟨i, _⟩ => tabSt (.slice (some a) tab.length c) tab i, fun i => tab.length - i.1, ⟨⟨0, by omega⟩, [], ⟨rfl, trivial, rfl⟩, rfl, rfl, rfl, rfl, trivial⟩, fun ⟨i, hi⟩ => ?_⟩
  rcases i with _ | k
  · conv => whnf
    refine ⟨fun h3 => ?_, fun h3 => ?_⟩
    · obtain ⟨x, hx⟩ : ∃ x, tab[0]? = some x := ⟨_, List.getElem?_eq_getElem (by omega)⟩
      obtain ⟨hx1, hx2⟩ := hb 0 x hx
      conv => whnf
      refine ⟨by omega, ?_⟩
      conv => whnf
      refine ⟨_, hx2, rfl, ?_⟩
      conv => whnf
      refine ⟨by omega, Int, encI .u64, [], [(x : Int)], fun _ => rfl, ⟨rfl, rfl, ?_⟩, by simp only [List.length_cons, List.length_nil]; omega, by simp only [List.length_cons, List.length_nil]; omega, ?_⟩
      · show [CV.val (.int .u64 (x : Int))] = [CV.val (.int .u64 (IntKind.u64.wrap x))]
        rw [nwrap64 (by omega)]
      · conv => whnf
        refine ⟨⟨1, by omega⟩, ⟨[1], ⟨rfl, ⟨?_, rfl, trivial⟩, rfl⟩, rfl, rfl, rfl, ?_, trivial⟩, ?_⟩
        · have := take_snoc hx
          simp only [List.take_zero, List.nil_append] at this
          show some (Blk.vec true 45 (encI .u64) [] 1 [(x : Int)]) = some (Blk.vec true 45 (encI .u64) [] 1 ((natI tab).take (0 + 1)))
          rw [← this]
        · refine eq_i64 ?_
          rw [nadd, nwrapi (by omega)]
        · show tab.length - 1 < tab.length - 0
          omega
    · have := lt_f h3
      omega
  · conv => whnf
    refine ⟨fun h3 => ?_, fun h3 => ?_⟩
    · have h3 : k + 1 < tab.length := lt_t h3
      obtain ⟨x, hx⟩ : ∃ x, tab[k + 1]? = some x := ⟨_, List.getElem?_eq_getElem h3⟩
      obtain ⟨hx1, hx2⟩ := hb (k + 1) x hx
      have hl : ((natI tab).take (k + 1)).length = k + 1 := by
        rw [List.length_take, natI_len]
        omega
      have hl2 : ((natI tab).take (k + 1) ++ [(x : Int)]).length = k + 2 := by
        rw [List.length_append, hl]
        rfl
      conv => whnf
      refine ⟨by omega, ?_⟩
      conv => whnf
      refine ⟨.int .u32 x, ?_, rfl, ?_⟩
      · rw [Int.toNat_natCast, Nat.mul_one]
        exact hx2
      · conv => whnf
        refine ⟨hl.symm, [(x : Int)], ⟨rfl, rfl, ?_⟩, by rw [hl2]; omega, by rw [hl2]; omega, ?_⟩
        · show [CV.val (.int .u64 (x : Int))] = [CV.val (.int .u64 (IntKind.u64.wrap x))]
          rw [nwrap64 (by omega)]
        · conv => whnf
          refine ⟨⟨k + 2, by omega⟩, ⟨[2], ⟨rfl, ⟨?_, rfl, trivial⟩, rfl⟩, ?_, rfl, rfl, ?_, trivial⟩, ?_⟩
          · show some (Blk.vec true 45 (encI .u64) [] 1 ((natI tab).take (k + 1) ++ [(x : Int)])) = some (Blk.vec true 45 (encI .u64) [] 1 ((natI tab).take (k + 1 + 1)))
            rw [take_snoc hx]
          · show some (AV.o (.c (.vec 2 ((natI tab).take (k + 1) ++ [(x : Int)]).length))) = some (AV.o (.c (.vec 2 (k + 1 + 1))))
            rw [hl2]
          · refine eq_i64 ?_
            rw [nadd, nwrapi (by omega)]
          · show tab.length - (k + 2) < tab.length - (k + 1)
            omega
    · have h3 : tab.length ≤ k + 1 := lt_f h3
      have hk : tab.length = k + 1 := by omega
      conv => whnf
      refine Or.inl ⟨?_, ?_⟩
      · rw [hk]
        rfl
      · show [Blk.vec true 45 (encI .u64) [] 1 ((natI tab).take (k + 1))] = _
        rw [List.take_of_length_le (by rw [natI_len]; omega)]
end Go.Proofs.YtkomikpfnogjcaaDoor
end
section
namespace Go.Proofs.YtkomikpfnogjcaaDoor
open Go Go.Vc
set_option maxRecDepth 100000

structure OpV where
  act : Int
  a : Nat
  b : Nat
  c : Nat
  v : Int
  tab : Value
  rows : List Nat
def OpV.cells (o : OpV) : List CV := [.val (.int .i64 o.act), .val (.int .u32 o.a), .val (.int .u32 o.b), .val (.int .u32 o.c), .val (.int .i64 o.v), .val o.tab]
def encOp : Enc OpV := ⟨fun _ o => o.cells, fun _ _ _ _ _ _ => rfl⟩
/-- An operation lies at an address of the caller's. -/
def OpV.lies (w0 : World) (a : Addr) (o : OpV) : Prop := w0.cell? a = some (.int .i64 o.act) ∧ w0.cell? (a.add 1) = some (.int .u32 o.a) ∧ w0.cell? (a.add 2) = some (.int .u32 o.b) ∧ w0.cell? (a.add 3) = some (.int .u32 o.c) ∧ w0.cell? (a.add 4) = some (.int .i64 o.v) ∧ w0.cell? (a.add 5) = some o.tab ∧ o.tab.oneCell' = true
def opsSt (sl : CV) (Hs : List Blk) (n : Nat) (l : List OpV) : Nat → S
  | 0 => ⟨[(3, .o (.c (.val (.slice none 0 0)))), (6, .o (.c sl)), (7, .o (.c (.val (.int .i64 n)))), (8, .o (.c (.val (.int .i64 ((0 : Nat) : Int)))))], Hs⟩
  | k + 1 => ⟨[(3, .o (.c (.vec Hs.length (k + 1)))), (6, .o (.c sl)), (7, .o (.c (.val (.int .i64 n)))), (8, .o (.c (.val (.int .i64 ((k + 1 : Nat) : Int)))))], Hs ++ [.vec true 85 encOp [] 6 (l.take (k + 1))]⟩
theorem take_snoc' {α : Type} {l : List α} {k : Nat} {x : α} (h : l[k]? = some x) : l.take k ++ [x] = l.take (k + 1) := by
  rw [List.take_add_one, h]
  rfl

theorem opsW (w0 : World) {a : Addr} {c : Nat} {l : List OpV} (h2 : l.length ≤ 65536) (hb : ∀ (i : Nat) (x : OpV), l[i]? = some x → x.lies w0 (a.add (i * 6))) :
    CallsA Tryd.prog w0 29 [.c (.val (.slice (some a) l.length c))] [] fun r H => (l = [] ∧ r = .o (.c (.val (.slice none 0 0))) ∧ H = []) ∨ (l ≠ [] ∧ r = .o (.c (.vec 0 l.length)) ∧ H = [.vec true 85 encOp [] 6 l]) := by
  refine callsA_of_ev c29_ ?_
  conv => whnf
  refine Or.inl ?_
  conv => whnf
  refine ⟨_root_.Fin (l.length + 1), fun ⟨i, _⟩ => opsSt (.val (.slice (some a) l.length c)) [] l.length l i, fun i => l.length - i.1, ⟨⟨0, by omega⟩, [], ⟨rfl, trivial, rfl⟩, rfl, rfl, rfl, rfl, trivial⟩, fun ⟨i, hi⟩ => ?_⟩
  rcases i with _ | k
  · conv => whnf
    refine ⟨fun h3 => ?_, fun h3 => ?_⟩
    · have h3 : 0 < l.length := lt_t h3
      obtain ⟨x, hx⟩ : ∃ x, l[0]? = some x := ⟨_, List.getElem?_eq_getElem h3⟩
      obtain ⟨x0, x1, x2, x3, x4, x5, x6⟩ := hb 0 x hx
      have hl1 : (l.take 1).length = 1 := by rw [List.length_take]; omega
      conv => whnf
      refine ⟨by omega, ?_⟩
      conv => whnf
      refine ⟨_, x0, rfl, ?_⟩
      conv => whnf
      refine ⟨_, x1, rfl, ?_⟩
      conv => whnf
      refine ⟨_, x2, rfl, ?_⟩
      conv => whnf
      refine ⟨_, x3, rfl, ?_⟩
      conv => whnf
      refine ⟨_, x4, rfl, ?_⟩
      conv => whnf
      refine ⟨_, x5, x6, ?_⟩
      conv => whnf
      refine ⟨by omega, OpV, encOp, [], [x], fun _ => rfl, ⟨rfl, rfl, rfl⟩, by simp only [List.length_cons, List.length_nil]; omega, by simp only [List.length_cons, List.length_nil]; omega, ?_⟩
      conv => whnf
      refine ⟨⟨1, by omega⟩, ⟨[2], ⟨rfl, ⟨?_, rfl, trivial⟩, rfl⟩, rfl, rfl, rfl, ?_, trivial⟩, ?_⟩
      · have := take_snoc' hx
        simp only [List.take_zero, List.nil_append] at this
        show some (Blk.vec true 85 encOp [] 6 [x]) = some (Blk.vec true 85 encOp [] 6 (l.take (0 + 1)))
        rw [← this]
      · refine eq_i64 ?_
        rw [nadd, nwrapi (by omega)]
      · show l.length - 1 < l.length - 0
        omega
    · have h3 : l.length ≤ 0 := lt_f h3
      have hl : l = [] := List.length_eq_zero_iff.1 (by omega)
      conv => whnf
      exact Or.inl (.inl ⟨hl, rfl, rfl⟩)
  · conv => whnf
    refine ⟨fun h3 => ?_, fun h3 => ?_⟩
    · have h3 : k + 1 < l.length := lt_t h3
      obtain ⟨x, hx⟩ : ∃ x, l[k + 1]? = some x := ⟨_, List.getElem?_eq_getElem h3⟩
      obtain ⟨x0, x1, x2, x3, x4, x5, x6⟩ := hb (k + 1) x hx
      have hl : (l.take (k + 1)).length = k + 1 := by
        rw [List.length_take]
        omega
      have hl2 : (l.take (k + 1) ++ [x]).length = k + 2 := by
        rw [List.length_append, hl]
        rfl
      conv => whnf
      refine ⟨by omega, ?_⟩
      conv => whnf
      refine ⟨_, x0, rfl, ?_⟩
      conv => whnf
      refine ⟨_, x1, rfl, ?_⟩
      conv => whnf
      refine ⟨_, x2, rfl, ?_⟩
      conv => whnf
      refine ⟨_, x3, rfl, ?_⟩
      conv => whnf
      refine ⟨_, x4, rfl, ?_⟩
      conv => whnf
      refine ⟨_, x5, x6, ?_⟩
      conv => whnf
      refine ⟨hl.symm, [x], ⟨rfl, rfl, rfl⟩, by rw [hl2]; omega, by rw [hl2]; omega, ?_⟩
      conv => whnf
      refine ⟨⟨k + 2, by omega⟩, ⟨[3], ⟨rfl, ⟨?_, rfl, trivial⟩, rfl⟩, ?_, rfl, rfl, ?_, trivial⟩, ?_⟩
      · show some (Blk.vec true 85 encOp [] 6 (l.take (k + 1) ++ [x])) = some (Blk.vec true 85 encOp [] 6 (l.take (k + 1 + 1)))
        rw [take_snoc' hx]
      · show some (AV.o (.c (.vec 3 (l.take (k + 1) ++ [x]).length))) = some (AV.o (.c (.vec 3 (k + 1 + 1))))
        rw [hl2]
      · refine eq_i64 ?_
        rw [nadd, nwrapi (by omega)]
      · show l.length - (k + 2) < l.length - (k + 1)
        omega
    · have h3 : l.length ≤ k + 1 := lt_f h3
      have hk : l.length = k + 1 := by omega
      conv => whnf
      refine Or.inl (.inr ⟨fun h0 => ?_, ?_, ?_⟩)
      · rw [h0] at hk
        simp at hk
      · rw [hk]
        rfl
      · show [Blk.vec true 85 encOp [] 6 (l.take (k + 1))] = _
        rw [List.take_of_length_le (by omega)]
end Go.Proofs.YtkomikpfnogjcaaDoor
end
section
namespace Go.Proofs.YtkomikpfnogjcaaDoor
open Go Go.Vc
set_option maxRecDepth 100000

structure SeenV where
  value : Int
  fine : Bool
  rng : Nat
  tell : Nat
  frac : Nat
  left : Int
def SeenV.cells (s : SeenV) : List CV := [.val (.int .i64 s.value), .val (.bool s.fine), .val (.int .u32 s.rng), .val (.int .u32 s.tell), .val (.int .u32 s.frac), .val (.int .i64 s.left)]
def encSeen : Enc SeenV := ⟨fun _ o => o.cells, fun _ _ _ _ _ _ => rfl⟩

/-- What an operation reads, and the decoder behind it. -/
def Dec.act (d : Dec) (o : OpV) : Int × Bool × Dec :=
  if o.act = 0 then ((d.at o.c : Nat), true, if o.a ≤ d.at o.c ∧ d.at o.c < o.b then (d.cut (d.rng / o.c) o.a o.b o.c).norm else d.uni o.c)
  else if o.act = 1 then (((d.logp o.a).1 : Nat), true, (d.logp o.a).2)
  else if o.act = 2 then (((d.icdf (o.rows.getD 0 0) o.rows.tail).1 : Nat), true, (d.icdf (o.rows.getD 0 0) o.rows.tail).2)
  else if o.act = 3 then (((d.whole o.a).1 : Nat), (d.whole o.a).2.1, (d.whole o.a).2.2)
  else if o.act = 4 then ((d.raw o.a : Nat), true, d.rawOn o.a)
  else if o.act = 5 then ((d.lapl o.a o.b).1, true, (d.lapl o.a o.b).2)
  else (0, true, d.size o.a)
def Dec.told (d : Dec) (value : Int) (fine : Bool) : SeenV := ⟨value, fine, d.rng, d.tell % 4294967296, d.frac % 4294967296, ((d.data.length * 8 : Nat) : Int) - (d.br : Int) - (d.rb : Int)⟩
def Dec.tells (d : Dec) (o : OpV) : SeenV := (d.act o).2.2.told (d.act o).1 (d.act o).2.1
def Dec.after (d : Dec) : List OpV → Dec
  | [] => d
  | o :: r => (d.act o).2.2.after r
def Dec.seen (d : Dec) : List OpV → List SeenV
  | [] => []
  | o :: r => d.tells o :: (d.act o).2.2.seen r

/-- An operation can be carried out. -/
structure OpV.good (w0 : World) (o : OpV) : Prop where
  a32 : o.a < 4294967296
  b32 : o.b < 4294967296
  c32 : o.c < 4294967296
  kind : (o.act = 0 ∧ 1 ≤ o.c ∧ o.c ≤ 65535 ∧ o.b ≤ o.c) ∨ (o.act = 1 ∧ 1 ≤ o.a ∧ o.a ≤ 15) ∨
    (o.act = 2 ∧ ∃ total rest ta c, o.rows = total :: rest ∧ TabOk total rest ∧ o.tab = .slice (some ta) o.rows.length c ∧ ∀ (i x : Nat), o.rows[i]? = some x → x < 4294967296 ∧ w0.cell? (ta.add i) = some (.int .u32 x)) ∨
    (o.act = 3 ∧ 2 ≤ o.a) ∨ (o.act = 4 ∧ o.a ≤ 32) ∨ (o.act = 5 ∧ 1 ≤ o.a ∧ o.a ≤ 32000 ∧ o.b ≤ 16000) ∨ o.act = 6

theorem Dec.act_inv {w0 : World} {d : Dec} {N : Nat} (h : d.inv N) (hN : N ≤ 1152921504606846900) {o : OpV} (ho : o.good w0) : (d.act o).2.2.inv (N + 64) := by
  have up : ∀ {e : Dec} {M : Nat}, e.inv M → M ≤ N + 64 → e.inv (N + 64) := fun he hM => ⟨he.bytes, he.len, he.br, Nat.le_trans he.nb hM, Nat.le_trans he.rb hM, he.lo, he.hi, he.val⟩
  unfold Dec.act
  rcases ho.kind with ⟨e, h1, h2, h3⟩ | ⟨e, h1, h2⟩ | ⟨e, total, rest, ta, c, hr, ht, _⟩ | ⟨e, h1⟩ | ⟨e, h1⟩ | ⟨e, h1, h2, h3⟩ | e
  · rw [e, if_pos rfl]
    simp only
    split
    · rename_i hc
      exact up (Dec.cut_inv h (by omega) h1 (by omega) hc.1 hc.2 h3).1 (by omega)
    · exact up (d.uni_inv h (by omega) h1 (by omega)).1 (by omega)
  · rw [e, if_neg (by decide), if_pos rfl]
    exact up (d.logp_inv h (by omega) h1 h2).1 (by omega)
  · rw [e, if_neg (by decide), if_neg (by decide), if_pos rfl, hr]
    exact up (d.icdf_inv h (by omega) ht).1 (by omega)
  · rw [e, if_neg (by decide), if_neg (by decide), if_neg (by decide), if_pos rfl]
    exact up (d.whole_inv h (by omega) (by omega) ho.a32).1 (by omega)
  · rw [e, if_neg (by decide), if_neg (by decide), if_neg (by decide), if_neg (by decide), if_pos rfl]
    exact up (Dec.rawOn_inv h) (by omega)
  · rw [e, if_neg (by decide), if_neg (by decide), if_neg (by decide), if_neg (by decide), if_neg (by decide), if_pos rfl]
    exact up (d.lapl_inv h (by omega) h1).1 (by omega)
  · rw [e, if_neg (by decide), if_neg (by decide), if_neg (by decide), if_neg (by decide), if_neg (by decide), if_neg (by decide)]
    exact up (d.size_inv h) (by omega)
theorem Dec.after_inv {w0 : World} : ∀ {l : List OpV} {d : Dec} {N : Nat}, d.inv N → N + 64 * l.length ≤ 1152921504606846900 → (∀ o ∈ l, o.good w0) → (d.after l).inv (N + 64 * l.length)
  | [], d, N, h, _, _ => h
  | o :: r, d, N, h, hN, hg => by
    simp only [List.length_cons] at hN
    have h1 := Dec.act_inv h (by omega) (hg o (by simp))
    have h2 := Dec.after_inv (l := r) h1 (by omega) fun x hx => hg x (by simp [hx])
    have e : N + 64 * (o :: r).length = N + 64 + 64 * r.length := by simp only [List.length_cons]; omega
    rw [e]
    exact h2
theorem Dec.after_snoc (d : Dec) (l : List OpV) (o : OpV) : d.after (l ++ [o]) = ((d.after l).act o).2.2 := by
  induction l generalizing d with
  | nil => rfl
  | cons x r ih => exact ih _
theorem Dec.seen_snoc (d : Dec) (l : List OpV) (o : OpV) : d.seen (l ++ [o]) = d.seen l ++ [(d.after l).tells o] := by
  induction l generalizing d with
  | nil => rfl
  | cons x r ih =>
    simp only [List.cons_append, Dec.seen, ih, Dec.after]
theorem Dec.seen_len (d : Dec) (l : List OpV) : (d.seen l).length = l.length := by
  induction l generalizing d with
  | nil => rfl
  | cons x r ih => simp [Dec.seen, ih]
end Go.Proofs.YtkomikpfnogjcaaDoor
end
section
namespace Go.Proofs.YtkomikpfnogjcaaDoor
open Go Go.Vc
set_option maxRecDepth 100000
set_option maxHeartbeats 4000000

def decBlks (d : Dec) : List Blk := [.cells 51 [.vec 4 d.data.length, .val (.int .u64 d.br), .val (.int .u64 d.rb), .val (.int .u64 d.nb), .val (.int .u32 d.rng), .val (.int .u32 d.val)], .vec false 5 (encI .u8) [] 1 d.data]
def decEnv (n k : Nat) : Env := [(4, .o (.c (.ptr 1 0))), (5, .o (.c (.ptr 2 0))), (6, .o (.c (.ptr 3 0))), (17, .o (.c (.vec 0 n))), (18, .o (.c (.val (.int .i64 n)))), (19, .o (.c (.val (.int .i64 k))))]
/-- The state behind so many operations. -/
def decSt (l : List OpV) (d0 : Dec) : Nat → S
  | 0 => ⟨decEnv l.length 0, [.vec true 85 encOp [] 6 l, .cells 64 [.val (.slice none 0 0)], .cells 3 [.val (.int .i64 ((0 : Nat) : Int))]] ++ decBlks d0⟩
  | k + 1 => ⟨decEnv l.length (k + 1), [.vec true 85 encOp [] 6 l, .cells 64 [.vec 5 (k + 1)], .cells 3 [.val (.int .i64 ((0 : Nat) : Int))]] ++ decBlks (d0.after (l.take (k + 1))) ++ [.vec true 70 encSeen [] 6 (d0.seen (l.take (k + 1)))]⟩

/-- Behind the reading of an operation: 'T' lies between. -/
def midSt (l : List OpV) (sv : CV) (T : List Blk) (k : Nat) (id : Nat) (p : Int × Bool × Dec) : S :=
  ⟨(9, .o (.c (.ptr id 0))) :: decEnv l.length k, [.vec true 85 encOp [] 6 l, .cells 64 [sv], .cells 3 [.val (.int .i64 ((0 : Nat) : Int))]] ++ decBlks p.2.2 ++ T ++ [.cells 70 [.val (.int .i64 p.1), .val (.bool p.2.1), .val (.int .u32 ((0 : Nat) : Int)), .val (.int .u32 ((0 : Nat) : Int)), .val (.int .u32 ((0 : Nat) : Int)), .val (.int .i64 ((0 : Nat) : Int))]]⟩
theorem seen_eq {x y : Int} {f g : Bool} (h : x = y) (hf : f = g) : some (Blk.cells 70 [.val (.int .i64 x), .val (.bool f), .val (.int .u32 ((0 : Nat) : Int)), .val (.int .u32 ((0 : Nat) : Int)), .val (.int .u32 ((0 : Nat) : Int)), .val (.int .i64 ((0 : Nat) : Int))]) = some (Blk.cells 70 [.val (.int .i64 y), .val (.bool g), .val (.int .u32 ((0 : Nat) : Int)), .val (.int .u32 ((0 : Nat) : Int)), .val (.int .u32 ((0 : Nat) : Int)), .val (.int .i64 ((0 : Nat) : Int))]) := by
  rw [h, hf]
theorem logp_le (d : Dec) (k : Nat) : (d.logp k).1 ≤ 1 := by
  unfold Dec.logp
  split <;> simp
theorem whole_lt (d : Dec) {n : Nat} (h : 1 ≤ n) : (d.whole n).1 ≤ n := by
  unfold Dec.whole
  split
  · exact Nat.sub_le _ _
  · simp only
    split <;> omega
theorem seen_cells {d : Dec} {v : Int} {f : Bool} {t c lf : Int} (ht : t = (d.tell % 4294967296 : Nat)) (hc : c = (d.frac % 4294967296 : Nat)) (hl : lf = ((d.data.length * 8 : Nat) : Int) - (d.br : Int) - (d.rb : Int)) :
    flat encSeen [] [d.told v f] = [.val (.int .i64 v), .val (.bool f), .val (.int .u32 d.rng), .val (.int .u32 t), .val (.int .u32 c), .val (.int .i64 lf)] := by
  subst ht hc hl
  rfl
theorem wrap_mod (n : Nat) : IntKind.u32.wrap (n : Int) = ((n % 4294967296 : Nat) : Int) := by
  rw [IntKind.wrap_u32]
  omega
theorem decSt_succ {l : List OpV} {d0 d1 : Dec} {k : Nat} {ss : List SeenV} (h1 : d0.after (l.take (k + 1)) = d1) (h2 : d0.seen (l.take (k + 1)) = ss) :
    decSt l d0 (k + 1) = ⟨decEnv l.length (k + 1), [.vec true 85 encOp [] 6 l, .cells 64 [.vec 5 (k + 1)], .cells 3 [.val (.int .i64 ((0 : Nat) : Int))]] ++ decBlks d1 ++ [.vec true 70 encSeen [] 6 ss]⟩ := by
  subst h1 h2
  rfl
theorem decodeW (w0 : World) {b : ByteArray} {l : List OpV} (hb : b.size ≤ 1099511627776) (hl : l ≠ []) (hl2 : l.length ≤ 65536) (hg : ∀ o ∈ l, o.good w0 ∧ o.tab.oneCell' = true) :
    CallsA Tryd.prog w0 31 [.c (.val (.string b)), .c (.vec 0 l.length)] [.vec true 85 encOp [] 6 l] fun r H => r = .t [.c (.vec 1 l.length), .c (.val (.int .i64 0))] ∧ H = [.vec true 85 encOp [] 6 l, .vec true 70 encSeen [] 6 ((Dec.init (bytesOf b)).seen l)] := by
  have hbl : (bytesOf b).length = b.size := by
    unfold bytesOf
    rw [List.length_map]
    rfl
  have hbb : ∀ x ∈ bytesOf b, 0 ≤ x ∧ x < 256 := by
    intro x hx
    unfold bytesOf at hx
    obtain ⟨y, _, rfl⟩ := List.mem_map.1 hx
    have := y.toNat_lt
    omega
  refine callsA_of_evD c31_ ?_
  conv => whnf
  refine ⟨by omega, ?_⟩
  conv => whnf
  refine CallsA.lift (H0 := [.cells 51 [.val (.slice none 0 0), .val (.int .u64 0), .val (.int .u64 0), .val (.int .u64 0), .val (.int .u32 0), .val (.int .u32 0)], .vec false 5 (encI .u8) [] 1 (bytesOf b)]) [3, 4] rfl ⟨rfl, rfl, rfl, rfl, trivial⟩ rfl (decInit w0 (xs := bytesOf b) hbb (by omega)) ?_
  rintro _ _ ⟨rfl, rfl⟩
  obtain ⟨hinv, hdata, hrb⟩ := Dec.init_inv hbb (by omega)
  conv => whnf
  refine Or.inl ?_
  conv => whnf
  refine ⟨_root_.Fin (l.length + 1), fun ⟨k, _⟩ => decSt l (Dec.init (bytesOf b)) k, fun k => l.length - k.1, ⟨⟨0, by omega⟩, [0, 1, 2, 3, 4], ⟨rfl, ⟨rfl, rfl, rfl, rfl, rfl, rfl, by rfl, rfl, by rfl, rfl, trivial⟩, rfl⟩, rfl, rfl, rfl, rfl, rfl, rfl, trivial⟩, fun ⟨k, hk⟩ => ?_⟩
  · generalize Dec.init (bytesOf b) = d0 at *
    rcases k with _ | k
    · conv => whnf
      refine ⟨fun h1 => ?_, fun h1 => ?_⟩
      · have h1 : 0 < l.length := lt_t h1
        obtain ⟨o, ho⟩ : ∃ o, l[0]? = some o := ⟨_, List.getElem?_eq_getElem h1⟩
        obtain ⟨hgo, hgt⟩ := hg o (List.mem_of_getElem? ho)
        conv => whnf
        refine Or.inl ?_
        conv => whnf
        refine ⟨by omega, ?_⟩
        conv => whnf
        refine ⟨o, ho, ?_⟩
        conv => whnf
        refine Or.inr ⟨Unit, fun _ => midSt l (.val (.slice none 0 0)) [] 0 5 (d0.act o), ?_, fun _ => ?_⟩
        · obtain ⟨act, oa, ob, oc, ov, otab, rows⟩ := o
          obtain ⟨a32, b32, c32, kind⟩ := hgo
          simp only at a32 b32 c32 kind
          rcases kind with ⟨rfl, h2, h3, h4⟩ | ⟨rfl, h2, h3⟩ | ⟨rfl, total, rest, ta, c, hr, ht, htab, hcell⟩ | ⟨rfl, h2⟩ | ⟨rfl, h2⟩ | ⟨rfl, h2, h3, h4⟩ | rfl
          · have hlo := hinv.lo
            have hat := (d0.at_spec hinv h2 (by omega)).1
            have hact : d0.act ⟨0, oa, ob, oc, ov, otab, rows⟩ = (((d0.at oc : Nat) : Int), true, if oa ≤ d0.at oc ∧ d0.at oc < ob then (d0.cut (d0.rng / oc) oa ob oc).norm else d0.uni oc) := rfl
            conv => whnf
            refine ⟨fun _ => ?_, (fun h => by cases h)⟩
            conv => whnf
            refine CallsA.lift (H0 := d0.H) [3, 4] rfl ⟨rfl, rfl, rfl, rfl, trivial⟩ rfl (cumulative w0 hinv (n := oc) h2 (by omega)) ?_
            rintro _ _ ⟨rfl, rfl⟩
            conv => whnf
            refine Or.inl ?_
            conv => whnf
            have hno : ¬ (oa ≤ d0.at oc ∧ d0.at oc < ob) → CallsA Tryd.prog w0 60 [.c (.ptr 0 0), .c (.val (.int .u32 (d0.at oc : Nat))), .c (.val (.int .u32 (IntKind.u32.wrap ((d0.at oc : Int) + ((1 : Nat) : Int))))), .c (.val (.int .u32 oc))] d0.H fun r H => r = .t [] ∧ H = (d0.act ⟨0, oa, ob, oc, ov, otab, rows⟩).2.2.H := by
              intro hc
              rw [hact, if_neg hc, nadd, nwrap32 (by omega)]
              exact updCumulative w0 hinv (by omega) h2 (by omega) (Nat.le_refl _) (Nat.lt_succ_self _) hat
            have hyes : (oa ≤ d0.at oc ∧ d0.at oc < ob) → CallsA Tryd.prog w0 60 [.c (.ptr 0 0), .c (.val (.int .u32 oa)), .c (.val (.int .u32 ob)), .c (.val (.int .u32 oc))] d0.H fun r H => r = .t [] ∧ H = (d0.act ⟨0, oa, ob, oc, ov, otab, rows⟩).2.2.H := by
              intro hc
              rw [hact, if_pos hc]
              exact updCumulative w0 hinv (by omega) h2 (by omega) hc.1 hc.2 h4
            have hval : (d0.act ⟨0, oa, ob, oc, ov, otab, rows⟩).1 = (d0.at oc : Nat) := rfl
            have hfine : (d0.act ⟨0, oa, ob, oc, ov, otab, rows⟩).2.1 = true := rfl
            generalize d0.act ⟨0, oa, ob, oc, ov, otab, rows⟩ = res at *
            refine ⟨fun h5 => ?_, fun h5 => ?_⟩
            · have h5 : oa ≤ d0.at oc := le_t h5
              conv => whnf
              refine ⟨fun h6 => ?_, fun h6 => ?_⟩
              · have h6 : d0.at oc < ob := lt_t h6
                conv => whnf
                refine CallsA.lift (H0 := d0.H) [3, 4] rfl ⟨rfl, rfl, rfl, rfl, trivial⟩ rfl (hyes ⟨h5, h6⟩) ?_
                rintro _ _ ⟨rfl, rfl⟩
                conv => whnf
                refine ⟨(), [0, 1, 2, 3, 4, 6], ⟨rfl, ⟨rfl, rfl, rfl, rfl, rfl, rfl, by rfl, rfl, by rfl, rfl, seen_eq ?_ hfine.symm, rfl, trivial⟩, rfl⟩, rfl, rfl, rfl, rfl, rfl, rfl, rfl, trivial⟩
                rw [hval]
                exact nwrapi (by omega)
              · have h6 : ob ≤ d0.at oc := lt_f h6
                conv => whnf
                refine CallsA.lift (H0 := d0.H) [3, 4] rfl ⟨rfl, rfl, rfl, rfl, trivial⟩ rfl (hno (by omega)) ?_
                rintro _ _ ⟨rfl, rfl⟩
                conv => whnf
                refine ⟨(), [0, 1, 2, 3, 4, 6], ⟨rfl, ⟨rfl, rfl, rfl, rfl, rfl, rfl, by rfl, rfl, by rfl, rfl, seen_eq ?_ hfine.symm, rfl, trivial⟩, rfl⟩, rfl, rfl, rfl, rfl, rfl, rfl, rfl, trivial⟩
                rw [hval]
                exact nwrapi (by omega)
            · have h5 : d0.at oc < oa := le_f h5
              conv => whnf
              refine CallsA.lift (H0 := d0.H) [3, 4] rfl ⟨rfl, rfl, rfl, rfl, trivial⟩ rfl (hno (by omega)) ?_
              rintro _ _ ⟨rfl, rfl⟩
              conv => whnf
              refine ⟨(), [0, 1, 2, 3, 4, 6], ⟨rfl, ⟨rfl, rfl, rfl, rfl, rfl, rfl, by rfl, rfl, by rfl, rfl, seen_eq ?_ hfine.symm, rfl, trivial⟩, rfl⟩, rfl, rfl, rfl, rfl, rfl, rfl, rfl, trivial⟩
              rw [hval]
              exact nwrapi (by omega)
          · conv => whnf
            refine ⟨(fun h => by cases h), fun _ => ?_⟩
            conv => whnf
            refine ⟨fun _ => ?_, (fun h => by cases h)⟩
            conv => whnf
            rw [nwrap64 (n := oa) (by omega)]
            refine CallsA.lift (H0 := d0.H) [3, 4] rfl ⟨rfl, rfl, rfl, rfl, trivial⟩ rfl (logP w0 hinv (by omega) (k := oa) h2 h3) ?_
            rintro _ _ ⟨rfl, rfl⟩
            have := logp_le d0 oa
            conv => whnf
            refine ⟨(), [0, 1, 2, 3, 4, 6], ⟨rfl, ⟨rfl, rfl, rfl, rfl, rfl, rfl, by rfl, rfl, by rfl, rfl, seen_eq ?_ rfl, rfl, trivial⟩, rfl⟩, rfl, rfl, rfl, rfl, rfl, rfl, rfl, trivial⟩
            exact nwrapi (by omega)
          · subst hr htab
            have hact : d0.act ⟨2, oa, ob, oc, ov, .slice (some ta) (total :: rest).length c, total :: rest⟩ = ((((d0.icdf total rest).1 : Nat) : Int), true, (d0.icdf total rest).2) := rfl
            have hk2 := (tabK_spec ht (d0.at_spec hinv ht.lo ht.hi).1).1
            have hk3 : (d0.icdf total rest).1 < rest.length := hk2
            have hrl := ht.len
            generalize d0.act ⟨2, oa, ob, oc, ov, .slice (some ta) (total :: rest).length c, total :: rest⟩ = res at *
            subst hact
            conv => whnf
            refine ⟨(fun h => by cases h), fun _ => ?_⟩
            conv => whnf
            refine ⟨(fun h => by cases h), fun _ => ?_⟩
            conv => whnf
            refine ⟨fun _ => ?_, (fun h => by cases h)⟩
            conv => whnf
            refine CallsA.lift (H0 := []) [] rfl trivial rfl (tableW w0 (a := ta) (c := c) (tab := total :: rest) (by simp) (by simp only [List.length_cons]; omega) hcell) ?_
            rintro _ _ ⟨rfl, rfl⟩
            conv => whnf
            refine CallsA.lift (H0 := d0.H ++ [tabBlk total rest]) [3, 4, 7] rfl ⟨rfl, rfl, rfl, rfl, rfl, rfl, trivial⟩ rfl (symIcdf w0 hinv (by omega) ht) ?_
            rintro _ _ ⟨rfl, rfl⟩
            conv => whnf
            refine ⟨(), [0, 1, 2, 3, 4, 6], ⟨rfl, ⟨rfl, rfl, rfl, rfl, rfl, rfl, by rfl, rfl, by rfl, rfl, seen_eq ?_ rfl, rfl, trivial⟩, rfl⟩, rfl, rfl, rfl, rfl, rfl, rfl, rfl, trivial⟩
            exact nwrapi (by omega)
          · conv => whnf
            refine ⟨(fun h => by cases h), fun _ => ?_⟩
            conv => whnf
            refine ⟨(fun h => by cases h), fun _ => ?_⟩
            conv => whnf
            refine ⟨(fun h => by cases h), fun _ => ?_⟩
            conv => whnf
            refine ⟨fun _ => ?_, (fun h => by cases h)⟩
            conv => whnf
            refine CallsA.lift (H0 := d0.H) [3, 4] rfl ⟨rfl, rfl, rfl, rfl, trivial⟩ rfl (uniform w0 hinv (by omega) (n := oa) h2 a32) ?_
            rintro _ _ ⟨rfl, rfl⟩
            conv => whnf
            refine ⟨(), [0, 1, 2, 3, 4, 6], ⟨rfl, ⟨rfl, rfl, rfl, rfl, rfl, rfl, by rfl, rfl, by rfl, rfl, seen_eq ?_ rfl, rfl, trivial⟩, rfl⟩, rfl, rfl, rfl, rfl, rfl, rfl, rfl, trivial⟩
            have := whole_lt d0 (n := oa) (by omega)
            exact nwrapi (by omega)
          · conv => whnf
            refine ⟨(fun h => by cases h), fun _ => ?_⟩
            conv => whnf
            refine ⟨(fun h => by cases h), fun _ => ?_⟩
            conv => whnf
            refine ⟨(fun h => by cases h), fun _ => ?_⟩
            conv => whnf
            refine ⟨(fun h => by cases h), fun _ => ?_⟩
            conv => whnf
            refine ⟨fun _ => ?_, (fun h => by cases h)⟩
            conv => whnf
            rw [nwrap64 (n := oa) (by omega)]
            refine CallsA.lift (H0 := d0.H) [3, 4] rfl ⟨rfl, rfl, rfl, rfl, trivial⟩ rfl (rawBits w0 hinv (by omega) (n := oa) h2) ?_
            rintro _ _ ⟨rfl, rfl⟩
            have := d0.raw_lt oa
            have : 2 ^ oa ≤ 2 ^ 32 := Nat.pow_le_pow_right (by omega) h2
            conv => whnf
            refine ⟨(), [0, 1, 2, 3, 4, 6], ⟨rfl, ⟨rfl, rfl, rfl, rfl, rfl, rfl, by rfl, rfl, by rfl, rfl, seen_eq ?_ rfl, rfl, trivial⟩, rfl⟩, rfl, rfl, rfl, rfl, rfl, rfl, rfl, trivial⟩
            exact nwrapi (by omega)
          · conv => whnf
            refine ⟨(fun h => by cases h), fun _ => ?_⟩
            conv => whnf
            refine ⟨(fun h => by cases h), fun _ => ?_⟩
            conv => whnf
            refine ⟨(fun h => by cases h), fun _ => ?_⟩
            conv => whnf
            refine ⟨(fun h => by cases h), fun _ => ?_⟩
            conv => whnf
            refine ⟨(fun h => by cases h), fun _ => ?_⟩
            conv => whnf
            refine ⟨fun _ => ?_, (fun h => by cases h)⟩
            conv => whnf
            refine CallsA.lift (H0 := d0.H) [3, 4] rfl ⟨rfl, rfl, rfl, rfl, trivial⟩ rfl (laplace w0 hinv (by omega) h2 h3 h4) ?_
            rintro _ _ ⟨rfl, rfl⟩
            conv => whnf
            refine ⟨(), [0, 1, 2, 3, 4, 6], ⟨rfl, ⟨rfl, rfl, rfl, rfl, rfl, rfl, by rfl, rfl, by rfl, rfl, seen_eq ?_ rfl, rfl, trivial⟩, rfl⟩, rfl, rfl, rfl, rfl, rfl, rfl, rfl, trivial⟩
            rfl
          · conv => whnf
            refine ⟨(fun h => by cases h), fun _ => ?_⟩
            conv => whnf
            refine ⟨(fun h => by cases h), fun _ => ?_⟩
            conv => whnf
            refine ⟨(fun h => by cases h), fun _ => ?_⟩
            conv => whnf
            refine ⟨(fun h => by cases h), fun _ => ?_⟩
            conv => whnf
            refine ⟨(fun h => by cases h), fun _ => ?_⟩
            conv => whnf
            refine ⟨(fun h => by cases h), fun _ => ?_⟩
            conv => whnf
            refine ⟨fun _ => ?_, (fun h => by cases h)⟩
            conv => whnf
            rw [nwrapi (n := oa) (by omega)]
            refine CallsA.lift (H0 := d0.H) [3, 4] rfl ⟨rfl, rfl, rfl, rfl, trivial⟩ rfl (setSize w0 d0 (n := oa) a32) ?_
            rintro _ _ ⟨rfl, hH⟩
            have hdd : d0.data.length ≤ oa → d0.size oa = d0 := fun hs => by
              unfold Dec.size
              rw [List.take_of_length_le hs]
            have hres : (d0.act ⟨6, oa, ob, oc, ov, otab, rows⟩) = (0, true, d0.size oa) := rfl
            generalize d0.act ⟨6, oa, ob, oc, ov, otab, rows⟩ = res at *
            subst hres
            rcases hH with ⟨hs, rfl⟩ | ⟨hs, rfl⟩
            · rw [hdd hs]
              conv => whnf
              exact ⟨(), [0, 1, 2, 3, 4, 6], ⟨rfl, ⟨rfl, rfl, rfl, rfl, rfl, rfl, by rfl, rfl, by rfl, rfl, rfl, rfl, trivial⟩, rfl⟩, rfl, rfl, rfl, rfl, rfl, rfl, rfl, trivial⟩
            · conv => whnf
              exact ⟨(), [0, 1, 2, 3, 7, 6], ⟨rfl, ⟨rfl, rfl, rfl, rfl, rfl, rfl, by rfl, rfl, by rfl, rfl, rfl, rfl, trivial⟩, rfl⟩, rfl, rfl, rfl, rfl, rfl, rfl, rfl, trivial⟩
        · have hi2 := Dec.act_inv hinv (by omega) hgo
          have hone := take_snoc' ho
          simp only [List.take_zero, List.nil_append] at hone
          have hseen : d0.seen (l.take 1) = [d0.tells o] := by rw [← hone]; rfl
          have hafter : d0.after (l.take 1) = (d0.act o).2.2 := by rw [← hone]; rfl
          have htells : d0.tells o = (d0.act o).2.2.told (d0.act o).1 (d0.act o).2.1 := rfl
          have h97 := hi2.nb
          have hlo := hi2.lo; have hhi := hi2.hi
          have hok := (hi2.pre (by omega)).ok
          generalize d0.tells o = ts at *
          generalize d0.act o = res at *
          obtain ⟨v, fine, d1⟩ := res
          simp only at hi2 hafter htells h97 hlo hhi hok
          conv => whnf
          refine CallsA.lift (H0 := d1.H) [3, 4] rfl ⟨rfl, rfl, rfl, rfl, trivial⟩ rfl (finalRange w0 d1) ?_
          rintro _ _ ⟨rfl, rfl⟩
          conv => whnf
          refine CallsA.lift (H0 := d1.H) [3, 4] rfl ⟨rfl, rfl, rfl, rfl, trivial⟩ rfl (tell w0 d1 hok (by omega) (by omega)) ?_
          rintro _ _ ⟨rfl, rfl⟩
          conv => whnf
          refine CallsA.lift (H0 := d1.H) [3, 4] rfl ⟨rfl, rfl, rfl, rfl, trivial⟩ rfl (tellFrac w0 d1 (by omega) (by omega) (by omega)) ?_
          rintro _ _ ⟨rfl, rfl⟩
          conv => whnf
          refine CallsA.lift (H0 := d1.H) [3, 4] rfl ⟨rfl, rfl, rfl, rfl, trivial⟩ rfl (remaining w0 d1 hok) ?_
          rintro _ _ ⟨rfl, rfl⟩
          conv => whnf
          refine ⟨by omega, SeenV, encSeen, [], [ts], fun _ => rfl, ⟨rfl, rfl, ?_⟩, by simp only [List.length_cons, List.length_nil]; omega, by simp only [List.length_cons, List.length_nil]; omega, ?_⟩
          · subst htells
            conv => whnf
            exact seen_cells (wrap_mod _) (wrap_mod _) rfl
          · subst htells
            conv => whnf
            refine ⟨⟨1, by omega⟩, ?_, ?_⟩
            · show EmbS 1 (decSt l d0 (0 + 1)) _
              rw [decSt_succ hafter hseen]
              refine ⟨[0, 1, 2, 3, 4, 7], ⟨rfl, ⟨rfl, rfl, rfl, rfl, rfl, rfl, by rfl, rfl, by rfl, rfl, by rfl, rfl, trivial⟩, rfl⟩, rfl, rfl, rfl, rfl, rfl, ?_, trivial⟩
              refine eq_i64 ?_
              rw [nadd, nwrapi (by omega)]
            · show l.length - 1 < l.length - 0
              omega
      · have := lt_f h1
        exact absurd (List.length_eq_zero_iff.1 (by omega)) hl
    · conv => whnf
      refine ⟨fun h1 => ?_, fun h1 => ?_⟩
      · have h1 : k + 1 < l.length := lt_t h1
        obtain ⟨o, ho⟩ : ∃ o, l[k + 1]? = some o := ⟨_, List.getElem?_eq_getElem h1⟩
        have hink : (d0.after (l.take (k + 1))).inv (33 + 64 * (k + 1)) := by
          have hlk : (l.take (k + 1)).length = k + 1 := by rw [List.length_take]; omega
          have := Dec.after_inv (w0 := w0) (l := l.take (k + 1)) hinv (by rw [hlk]; omega) (fun x hx => (hg x (List.mem_of_mem_take hx)).1)
          rwa [hlk] at this
        have hssl : (d0.seen (l.take (k + 1))).length = k + 1 := by rw [Dec.seen_len, List.length_take]; omega
        generalize hdk : d0.after (l.take (k + 1)) = dk at *
        generalize hss : d0.seen (l.take (k + 1)) = ss at *
        obtain ⟨hgo, hgt⟩ := hg o (List.mem_of_getElem? ho)
        conv => whnf
        refine Or.inl ?_
        conv => whnf
        refine ⟨by omega, ?_⟩
        conv => whnf
        refine ⟨o, ho, ?_⟩
        conv => whnf
        refine Or.inr ⟨Unit, fun _ => midSt l (.vec 5 (k + 1)) [.vec true 70 encSeen [] 6 ss] (k + 1) 6 (dk.act o), ?_, fun _ => ?_⟩
        · obtain ⟨act, oa, ob, oc, ov, otab, rows⟩ := o
          obtain ⟨a32, b32, c32, kind⟩ := hgo
          simp only at a32 b32 c32 kind
          rcases kind with ⟨rfl, h2, h3, h4⟩ | ⟨rfl, h2, h3⟩ | ⟨rfl, total, rest, ta, c, hr, ht, htab, hcell⟩ | ⟨rfl, h2⟩ | ⟨rfl, h2⟩ | ⟨rfl, h2, h3, h4⟩ | rfl
          · have hlo := hink.lo
            have hat := (dk.at_spec hink h2 (by omega)).1
            have hact : dk.act ⟨0, oa, ob, oc, ov, otab, rows⟩ = (((dk.at oc : Nat) : Int), true, if oa ≤ dk.at oc ∧ dk.at oc < ob then (dk.cut (dk.rng / oc) oa ob oc).norm else dk.uni oc) := rfl
            conv => whnf
            refine ⟨fun _ => ?_, (fun h => by cases h)⟩
            conv => whnf
            refine CallsA.lift (H0 := dk.H) [3, 4] rfl ⟨rfl, rfl, rfl, rfl, trivial⟩ rfl (cumulative w0 hink (n := oc) h2 (by omega)) ?_
            rintro _ _ ⟨rfl, rfl⟩
            conv => whnf
            refine Or.inl ?_
            conv => whnf
            have hno : ¬ (oa ≤ dk.at oc ∧ dk.at oc < ob) → CallsA Tryd.prog w0 60 [.c (.ptr 0 0), .c (.val (.int .u32 (dk.at oc : Nat))), .c (.val (.int .u32 (IntKind.u32.wrap ((dk.at oc : Int) + ((1 : Nat) : Int))))), .c (.val (.int .u32 oc))] dk.H fun r H => r = .t [] ∧ H = (dk.act ⟨0, oa, ob, oc, ov, otab, rows⟩).2.2.H := by
              intro hc
              rw [hact, if_neg hc, nadd, nwrap32 (by omega)]
              exact updCumulative w0 hink (by omega) h2 (by omega) (Nat.le_refl _) (Nat.lt_succ_self _) hat
            have hyes : (oa ≤ dk.at oc ∧ dk.at oc < ob) → CallsA Tryd.prog w0 60 [.c (.ptr 0 0), .c (.val (.int .u32 oa)), .c (.val (.int .u32 ob)), .c (.val (.int .u32 oc))] dk.H fun r H => r = .t [] ∧ H = (dk.act ⟨0, oa, ob, oc, ov, otab, rows⟩).2.2.H := by
              intro hc
              rw [hact, if_pos hc]
              exact updCumulative w0 hink (by omega) h2 (by omega) hc.1 hc.2 h4
            have hval : (dk.act ⟨0, oa, ob, oc, ov, otab, rows⟩).1 = (dk.at oc : Nat) := rfl
            have hfine : (dk.act ⟨0, oa, ob, oc, ov, otab, rows⟩).2.1 = true := rfl
            generalize dk.act ⟨0, oa, ob, oc, ov, otab, rows⟩ = res at *
            refine ⟨fun h5 => ?_, fun h5 => ?_⟩
            · have h5 : oa ≤ dk.at oc := le_t h5
              conv => whnf
              refine ⟨fun h6 => ?_, fun h6 => ?_⟩
              · have h6 : dk.at oc < ob := lt_t h6
                conv => whnf
                refine CallsA.lift (H0 := dk.H) [3, 4] rfl ⟨rfl, rfl, rfl, rfl, trivial⟩ rfl (hyes ⟨h5, h6⟩) ?_
                rintro _ _ ⟨rfl, rfl⟩
                conv => whnf
                refine ⟨(), [0, 1, 2, 3, 4, 5, 7], ⟨rfl, ⟨rfl, rfl, rfl, rfl, rfl, rfl, by rfl, rfl, by rfl, rfl, rfl, rfl, seen_eq ?_ hfine.symm, rfl, trivial⟩, rfl⟩, rfl, rfl, rfl, rfl, rfl, rfl, rfl, trivial⟩
                rw [hval]
                exact nwrapi (by omega)
              · have h6 : ob ≤ dk.at oc := lt_f h6
                conv => whnf
                refine CallsA.lift (H0 := dk.H) [3, 4] rfl ⟨rfl, rfl, rfl, rfl, trivial⟩ rfl (hno (by omega)) ?_
                rintro _ _ ⟨rfl, rfl⟩
                conv => whnf
                refine ⟨(), [0, 1, 2, 3, 4, 5, 7], ⟨rfl, ⟨rfl, rfl, rfl, rfl, rfl, rfl, by rfl, rfl, by rfl, rfl, rfl, rfl, seen_eq ?_ hfine.symm, rfl, trivial⟩, rfl⟩, rfl, rfl, rfl, rfl, rfl, rfl, rfl, trivial⟩
                rw [hval]
                exact nwrapi (by omega)
            · have h5 : dk.at oc < oa := le_f h5
              conv => whnf
              refine CallsA.lift (H0 := dk.H) [3, 4] rfl ⟨rfl, rfl, rfl, rfl, trivial⟩ rfl (hno (by omega)) ?_
              rintro _ _ ⟨rfl, rfl⟩
              conv => whnf
              refine ⟨(), [0, 1, 2, 3, 4, 5, 7], ⟨rfl, ⟨rfl, rfl, rfl, rfl, rfl, rfl, by rfl, rfl, by rfl, rfl, rfl, rfl, seen_eq ?_ hfine.symm, rfl, trivial⟩, rfl⟩, rfl, rfl, rfl, rfl, rfl, rfl, rfl, trivial⟩
              rw [hval]
              exact nwrapi (by omega)
          · conv => whnf
            refine ⟨(fun h => by cases h), fun _ => ?_⟩
            conv => whnf
            refine ⟨fun _ => ?_, (fun h => by cases h)⟩
            conv => whnf
            rw [nwrap64 (n := oa) (by omega)]
            refine CallsA.lift (H0 := dk.H) [3, 4] rfl ⟨rfl, rfl, rfl, rfl, trivial⟩ rfl (logP w0 hink (by omega) (k := oa) h2 h3) ?_
            rintro _ _ ⟨rfl, rfl⟩
            have := logp_le dk oa
            conv => whnf
            refine ⟨(), [0, 1, 2, 3, 4, 5, 7], ⟨rfl, ⟨rfl, rfl, rfl, rfl, rfl, rfl, by rfl, rfl, by rfl, rfl, rfl, rfl, seen_eq ?_ rfl, rfl, trivial⟩, rfl⟩, rfl, rfl, rfl, rfl, rfl, rfl, rfl, trivial⟩
            exact nwrapi (by omega)
          · subst hr htab
            have hact : dk.act ⟨2, oa, ob, oc, ov, .slice (some ta) (total :: rest).length c, total :: rest⟩ = ((((dk.icdf total rest).1 : Nat) : Int), true, (dk.icdf total rest).2) := rfl
            have hk2 := (tabK_spec ht (dk.at_spec hink ht.lo ht.hi).1).1
            have hk3 : (dk.icdf total rest).1 < rest.length := hk2
            have hrl := ht.len
            generalize dk.act ⟨2, oa, ob, oc, ov, .slice (some ta) (total :: rest).length c, total :: rest⟩ = res at *
            subst hact
            conv => whnf
            refine ⟨(fun h => by cases h), fun _ => ?_⟩
            conv => whnf
            refine ⟨(fun h => by cases h), fun _ => ?_⟩
            conv => whnf
            refine ⟨fun _ => ?_, (fun h => by cases h)⟩
            conv => whnf
            refine CallsA.lift (H0 := []) [] rfl trivial rfl (tableW w0 (a := ta) (c := c) (tab := total :: rest) (by simp) (by simp only [List.length_cons]; omega) hcell) ?_
            rintro _ _ ⟨rfl, rfl⟩
            conv => whnf
            refine CallsA.lift (H0 := dk.H ++ [tabBlk total rest]) [3, 4, 8] rfl ⟨rfl, rfl, rfl, rfl, rfl, rfl, trivial⟩ rfl (symIcdf w0 hink (by omega) ht) ?_
            rintro _ _ ⟨rfl, rfl⟩
            conv => whnf
            refine ⟨(), [0, 1, 2, 3, 4, 5, 7], ⟨rfl, ⟨rfl, rfl, rfl, rfl, rfl, rfl, by rfl, rfl, by rfl, rfl, rfl, rfl, seen_eq ?_ rfl, rfl, trivial⟩, rfl⟩, rfl, rfl, rfl, rfl, rfl, rfl, rfl, trivial⟩
            exact nwrapi (by omega)
          · conv => whnf
            refine ⟨(fun h => by cases h), fun _ => ?_⟩
            conv => whnf
            refine ⟨(fun h => by cases h), fun _ => ?_⟩
            conv => whnf
            refine ⟨(fun h => by cases h), fun _ => ?_⟩
            conv => whnf
            refine ⟨fun _ => ?_, (fun h => by cases h)⟩
            conv => whnf
            refine CallsA.lift (H0 := dk.H) [3, 4] rfl ⟨rfl, rfl, rfl, rfl, trivial⟩ rfl (uniform w0 hink (by omega) (n := oa) h2 a32) ?_
            rintro _ _ ⟨rfl, rfl⟩
            conv => whnf
            refine ⟨(), [0, 1, 2, 3, 4, 5, 7], ⟨rfl, ⟨rfl, rfl, rfl, rfl, rfl, rfl, by rfl, rfl, by rfl, rfl, rfl, rfl, seen_eq ?_ rfl, rfl, trivial⟩, rfl⟩, rfl, rfl, rfl, rfl, rfl, rfl, rfl, trivial⟩
            have := whole_lt dk (n := oa) (by omega)
            exact nwrapi (by omega)
          · conv => whnf
            refine ⟨(fun h => by cases h), fun _ => ?_⟩
            conv => whnf
            refine ⟨(fun h => by cases h), fun _ => ?_⟩
            conv => whnf
            refine ⟨(fun h => by cases h), fun _ => ?_⟩
            conv => whnf
            refine ⟨(fun h => by cases h), fun _ => ?_⟩
            conv => whnf
            refine ⟨fun _ => ?_, (fun h => by cases h)⟩
            conv => whnf
            rw [nwrap64 (n := oa) (by omega)]
            refine CallsA.lift (H0 := dk.H) [3, 4] rfl ⟨rfl, rfl, rfl, rfl, trivial⟩ rfl (rawBits w0 hink (by omega) (n := oa) h2) ?_
            rintro _ _ ⟨rfl, rfl⟩
            have := dk.raw_lt oa
            have : 2 ^ oa ≤ 2 ^ 32 := Nat.pow_le_pow_right (by omega) h2
            conv => whnf
            refine ⟨(), [0, 1, 2, 3, 4, 5, 7], ⟨rfl, ⟨rfl, rfl, rfl, rfl, rfl, rfl, by rfl, rfl, by rfl, rfl, rfl, rfl, seen_eq ?_ rfl, rfl, trivial⟩, rfl⟩, rfl, rfl, rfl, rfl, rfl, rfl, rfl, trivial⟩
            exact nwrapi (by omega)
          · conv => whnf
            refine ⟨(fun h => by cases h), fun _ => ?_⟩
            conv => whnf
            refine ⟨(fun h => by cases h), fun _ => ?_⟩
            conv => whnf
            refine ⟨(fun h => by cases h), fun _ => ?_⟩
            conv => whnf
            refine ⟨(fun h => by cases h), fun _ => ?_⟩
            conv => whnf
            refine ⟨(fun h => by cases h), fun _ => ?_⟩
            conv => whnf
            refine ⟨fun _ => ?_, (fun h => by cases h)⟩
            conv => whnf
            refine CallsA.lift (H0 := dk.H) [3, 4] rfl ⟨rfl, rfl, rfl, rfl, trivial⟩ rfl (laplace w0 hink (by omega) h2 h3 h4) ?_
            rintro _ _ ⟨rfl, rfl⟩
            conv => whnf
            refine ⟨(), [0, 1, 2, 3, 4, 5, 7], ⟨rfl, ⟨rfl, rfl, rfl, rfl, rfl, rfl, by rfl, rfl, by rfl, rfl, rfl, rfl, seen_eq ?_ rfl, rfl, trivial⟩, rfl⟩, rfl, rfl, rfl, rfl, rfl, rfl, rfl, trivial⟩
            rfl
          · conv => whnf
            refine ⟨(fun h => by cases h), fun _ => ?_⟩
            conv => whnf
            refine ⟨(fun h => by cases h), fun _ => ?_⟩
            conv => whnf
            refine ⟨(fun h => by cases h), fun _ => ?_⟩
            conv => whnf
            refine ⟨(fun h => by cases h), fun _ => ?_⟩
            conv => whnf
            refine ⟨(fun h => by cases h), fun _ => ?_⟩
            conv => whnf
            refine ⟨(fun h => by cases h), fun _ => ?_⟩
            conv => whnf
            refine ⟨fun _ => ?_, (fun h => by cases h)⟩
            conv => whnf
            rw [nwrapi (n := oa) (by omega)]
            refine CallsA.lift (H0 := dk.H) [3, 4] rfl ⟨rfl, rfl, rfl, rfl, trivial⟩ rfl (setSize w0 dk (n := oa) a32) ?_
            rintro _ _ ⟨rfl, hH⟩
            have hdd : dk.data.length ≤ oa → dk.size oa = dk := fun hs => by
              unfold Dec.size
              rw [List.take_of_length_le hs]
            have hres : (dk.act ⟨6, oa, ob, oc, ov, otab, rows⟩) = (0, true, dk.size oa) := rfl
            generalize dk.act ⟨6, oa, ob, oc, ov, otab, rows⟩ = res at *
            subst hres
            rcases hH with ⟨hs, rfl⟩ | ⟨hs, rfl⟩
            · rw [hdd hs]
              conv => whnf
              exact ⟨(), [0, 1, 2, 3, 4, 5, 7], ⟨rfl, ⟨rfl, rfl, rfl, rfl, rfl, rfl, by rfl, rfl, by rfl, rfl, rfl, rfl, rfl, rfl, trivial⟩, rfl⟩, rfl, rfl, rfl, rfl, rfl, rfl, rfl, trivial⟩
            · conv => whnf
              exact ⟨(), [0, 1, 2, 3, 8, 5, 7], ⟨rfl, ⟨rfl, rfl, rfl, rfl, rfl, rfl, by rfl, rfl, by rfl, rfl, rfl, rfl, rfl, rfl, trivial⟩, rfl⟩, rfl, rfl, rfl, rfl, rfl, rfl, rfl, trivial⟩
        · have hi2 := Dec.act_inv hink (by omega) hgo
          have hone := take_snoc' ho
          have hseen : d0.seen (l.take (k + 1 + 1)) = ss ++ [dk.tells o] := by rw [← hone, Dec.seen_snoc, hss, hdk]
          have hafter : d0.after (l.take (k + 1 + 1)) = (dk.act o).2.2 := by rw [← hone, Dec.after_snoc, hdk]
          have htells : dk.tells o = (dk.act o).2.2.told (dk.act o).1 (dk.act o).2.1 := rfl
          have h97 := hi2.nb
          have hlo := hi2.lo; have hhi := hi2.hi
          have hok := (hi2.pre (by omega)).ok
          generalize dk.tells o = ts at *
          generalize dk.act o = res at *
          obtain ⟨v, fine, d1⟩ := res
          simp only at hi2 hafter htells h97 hlo hhi hok
          have hlen2 : (ss ++ [ts]).length = k + 1 + 1 := by rw [List.length_append, hssl]; rfl
          conv => whnf
          refine CallsA.lift (H0 := d1.H) [3, 4] rfl ⟨rfl, rfl, rfl, rfl, trivial⟩ rfl (finalRange w0 d1) ?_
          rintro _ _ ⟨rfl, rfl⟩
          conv => whnf
          refine CallsA.lift (H0 := d1.H) [3, 4] rfl ⟨rfl, rfl, rfl, rfl, trivial⟩ rfl (tell w0 d1 hok (by omega) (by omega)) ?_
          rintro _ _ ⟨rfl, rfl⟩
          conv => whnf
          refine CallsA.lift (H0 := d1.H) [3, 4] rfl ⟨rfl, rfl, rfl, rfl, trivial⟩ rfl (tellFrac w0 d1 (by omega) (by omega) (by omega)) ?_
          rintro _ _ ⟨rfl, rfl⟩
          conv => whnf
          refine CallsA.lift (H0 := d1.H) [3, 4] rfl ⟨rfl, rfl, rfl, rfl, trivial⟩ rfl (remaining w0 d1 hok) ?_
          rintro _ _ ⟨rfl, rfl⟩
          conv => whnf
          refine ⟨hssl.symm, [ts], ⟨rfl, rfl, ?_⟩, by rw [hlen2]; omega, by rw [hlen2]; omega, ?_⟩
          · subst htells
            conv => whnf
            exact seen_cells (wrap_mod _) (wrap_mod _) rfl
          · conv => whnf
            refine ⟨⟨k + 2, by omega⟩, ?_, ?_⟩
            · show EmbS 1 (decSt l d0 (k + 1 + 1)) _
              rw [decSt_succ hafter hseen]
              refine ⟨[0, 1, 2, 3, 4, 8], ⟨rfl, ⟨rfl, rfl, ?_, rfl, rfl, rfl, by rfl, rfl, by rfl, rfl, by rfl, rfl, trivial⟩, rfl⟩, rfl, rfl, rfl, rfl, rfl, ?_, trivial⟩
              · show some (Blk.cells 64 [.vec 8 (ss ++ [ts]).length]) = some (Blk.cells 64 [.vec 8 (k + 1 + 1)])
                rw [hlen2]
              · refine eq_i64 ?_
                rw [nadd, nwrapi (by omega)]
            · show l.length - (k + 2) < l.length - (k + 1)
              omega
      · have h1 : l.length ≤ k + 1 := lt_f h1
        have hlk : l.length = k + 1 := by omega
        conv => whnf
        refine Or.inr ⟨[0, 5], .t [.c (.vec 1 l.length), .c (.val (.int .i64 0))], [.vec true 85 encOp [] 6 l, .vec true 70 encSeen [] 6 (d0.seen l)], ⟨rfl, ⟨rfl, rfl, ?_, rfl, trivial⟩, rfl⟩, ?_, rfl, rfl⟩
        · have : l.take (k + 1) = l := List.take_of_length_le (by omega)
          show some (Blk.vec true 70 encSeen [] 6 (d0.seen (l.take (k + 1)))) = some (Blk.vec true 70 encSeen [] 6 (d0.seen l))
          rw [this]
        · rw [hlk]
          rfl
end Go.Proofs.YtkomikpfnogjcaaDoor
end
section
namespace Go.Proofs.YtkomikpfnogjcaaDoor
open Go Go.Vc
set_option maxRecDepth 100000
set_option maxHeartbeats 4000000

theorem bytesOf_len (b : ByteArray) : (bytesOf b).length = b.size := by
  unfold bytesOf
  rw [List.length_map]
  rfl
theorem bytesOf_lt (b : ByteArray) : ∀ x ∈ bytesOf b, 0 ≤ x ∧ x < 256 := by
  intro x hx
  unfold bytesOf at hx
  obtain ⟨y, _, rfl⟩ := List.mem_map.1 hx
  have := y.toNat_lt
  omega
theorem decodeW0 (w0 : World) {b : ByteArray} (hb : b.size ≤ 1099511627776) :
    CallsA Tryd.prog w0 31 [.c (.val (.string b)), .c (.val (.slice none 0 0))] [] fun r H => r = .t [.c (.val (.slice none 0 0)), .c (.val (.int .i64 0))] ∧ H = [] := by
  have hbl := bytesOf_len b
  have hbb := bytesOf_lt b
  refine callsA_of_evD c31_ ?_
  conv => whnf
  refine ⟨by omega, ?_⟩
  conv => whnf
  refine CallsA.lift (H0 := [.cells 51 [.val (.slice none 0 0), .val (.int .u64 0), .val (.int .u64 0), .val (.int .u64 0), .val (.int .u32 0), .val (.int .u32 0)], .vec false 5 (encI .u8) [] 1 (bytesOf b)]) [2, 3] rfl ⟨rfl, rfl, rfl, rfl, trivial⟩ rfl (decInit w0 (xs := bytesOf b) hbb (by omega)) ?_
  rintro _ _ ⟨rfl, rfl⟩
  conv => whnf
  refine Or.inl ?_
  conv => whnf
  refine ⟨Unit, fun _ => ⟨[(4, .o (.c (.ptr 0 0))), (5, .o (.c (.ptr 1 0))), (18, .o (.c (.val (.int .i64 ((0 : Nat) : Int))))), (19, .o (.c (.val (.int .i64 ((0 : Nat) : Int)))))], [.cells 64 [.val (.slice none 0 0)], .cells 3 [.val (.int .i64 ((0 : Nat) : Int))]]⟩, fun _ => 0, ⟨(), [0, 1], ⟨rfl, ⟨rfl, rfl, rfl, rfl, trivial⟩, rfl⟩, rfl, rfl, rfl, rfl, trivial⟩, fun _ => ?_⟩
  conv => whnf
  refine ⟨fun h => absurd (lt_t h) (by omega), fun _ => ?_⟩
  conv => whnf
  exact Or.inr ⟨[], .t [.c (.val (.slice none 0 0)), .c (.val (.int .i64 0))], [], ⟨rfl, trivial, rfl⟩, rfl, rfl, rfl⟩
end Go.Proofs.YtkomikpfnogjcaaDoor
end
