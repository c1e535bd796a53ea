/- Operations, copied. -/
import Derived.Test.YtkomikpfnogjcaaRcM
import Derived.Test.YtkomikpfnogjcaaIrImpl
namespace Go.Proofs.Ytkomikpfnogjcaa
open Go Go.Vc
set_option maxRecDepth 100000

structure OpV where
  act : Int
  a : Nat
  b : Nat
  c : Nat
  v : Int
  tab : Value
  rows : List Nat
def OpV.cells (o : OpV) : List CV := [.val (.int .i64 o.act), .val (.int .u32 o.a), .val (.int .u32 o.b), .val (.int .u32 o.c), .val (.int .i64 o.v), .val o.tab]
def encOp : Enc OpV := ⟨fun _ o => o.cells, fun _ _ _ _ _ _ => rfl⟩
/-- An operation lies at an address of the caller's. -/
def OpV.lies (w0 : World) (a : Addr) (o : OpV) : Prop := w0.cell? a = some (.int .i64 o.act) ∧ w0.cell? (a.add 1) = some (.int .u32 o.a) ∧ w0.cell? (a.add 2) = some (.int .u32 o.b) ∧ w0.cell? (a.add 3) = some (.int .u32 o.c) ∧ w0.cell? (a.add 4) = some (.int .i64 o.v) ∧ w0.cell? (a.add 5) = some o.tab ∧ o.tab.oneCell' = true
def opsSt (sl : CV) (Hs : List Blk) (n : Nat) (l : List OpV) : Nat → S
  | 0 => ⟨[(3, .o (.c (.val (.slice none 0 0)))), (6, .o (.c sl)), (7, .o (.c (.val (.int .i64 n)))), (8, .o (.c (.val (.int .i64 ((0 : Nat) : Int)))))], Hs⟩
  | k + 1 => ⟨[(3, .o (.c (.vec Hs.length (k + 1)))), (6, .o (.c sl)), (7, .o (.c (.val (.int .i64 n)))), (8, .o (.c (.val (.int .i64 ((k + 1 : Nat) : Int)))))], Hs ++ [.vec true 80 encOp [] 6 (l.take (k + 1))]⟩
theorem take_snoc' {α : Type} {l : List α} {k : Nat} {x : α} (h : l[k]? = some x) : l.take k ++ [x] = l.take (k + 1) := by
  rw [List.take_add_one, h]
  rfl

theorem opsW (w0 : World) {a : Addr} {c : Nat} {l : List OpV} (h2 : l.length ≤ 65536) (hb : ∀ (i : Nat) (x : OpV), l[i]? = some x → x.lies w0 (a.add (i * 6))) :
    CallsA Try.prog w0 15 [.c (.val (.slice (some a) l.length c))] [] fun r H => (l = [] ∧ r = .o (.c (.val (.slice none 0 0))) ∧ H = []) ∨ (l ≠ [] ∧ r = .o (.c (.vec 0 l.length)) ∧ H = [.vec true 80 encOp [] 6 l]) := by
  refine callsA_of_ev c15_ ?_
  conv => whnf
  refine Or.inl ?_
  conv => whnf
  refine ⟨_root_.Fin (l.length + 1), fun ⟨i, _⟩ => opsSt (.val (.slice (some a) l.length c)) [] l.length l i, fun i => l.length - i.1, ⟨⟨0, by omega⟩, [], ⟨rfl, trivial, rfl⟩, rfl, rfl, rfl, rfl, trivial⟩, fun ⟨i, hi⟩ => ?_⟩
  rcases i with _ | k
  · conv => whnf
    refine ⟨fun h3 => ?_, fun h3 => ?_⟩
    · have h3 : 0 < l.length := lt_t h3
      obtain ⟨x, hx⟩ : ∃ x, l[0]? = some x := ⟨_, List.getElem?_eq_getElem h3⟩
      obtain ⟨x0, x1, x2, x3, x4, x5, x6⟩ := hb 0 x hx
      have hl1 : (l.take 1).length = 1 := by rw [List.length_take]; omega
      conv => whnf
      refine ⟨by omega, ?_⟩
      conv => whnf
      refine ⟨_, x0, rfl, ?_⟩
      conv => whnf
      refine ⟨_, x1, rfl, ?_⟩
      conv => whnf
      refine ⟨_, x2, rfl, ?_⟩
      conv => whnf
      refine ⟨_, x3, rfl, ?_⟩
      conv => whnf
      refine ⟨_, x4, rfl, ?_⟩
      conv => whnf
      refine ⟨_, x5, x6, ?_⟩
      conv => whnf
      refine ⟨by omega, OpV, encOp, [], [x], fun _ => rfl, ⟨rfl, rfl, rfl⟩, by simp only [List.length_cons, List.length_nil]; omega, by simp only [List.length_cons, List.length_nil]; omega, ?_⟩
      conv => whnf
      refine ⟨⟨1, by omega⟩, ⟨[2], ⟨rfl, ⟨?_, rfl, trivial⟩, rfl⟩, rfl, rfl, rfl, ?_, trivial⟩, ?_⟩
      · have := take_snoc' hx
        simp only [List.take_zero, List.nil_append] at this
        show some (Blk.vec true 80 encOp [] 6 [x]) = some (Blk.vec true 80 encOp [] 6 (l.take (0 + 1)))
        rw [← this]
      · refine eq_i64 ?_
        rw [nadd, nwrapi (by omega)]
      · show l.length - 1 < l.length - 0
        omega
    · have h3 : l.length ≤ 0 := lt_f h3
      have hl : l = [] := List.length_eq_zero_iff.1 (by omega)
      conv => whnf
      exact Or.inl (.inl ⟨hl, rfl, rfl⟩)
  · conv => whnf
    refine ⟨fun h3 => ?_, fun h3 => ?_⟩
    · have h3 : k + 1 < l.length := lt_t h3
      obtain ⟨x, hx⟩ : ∃ x, l[k + 1]? = some x := ⟨_, List.getElem?_eq_getElem h3⟩
      obtain ⟨x0, x1, x2, x3, x4, x5, x6⟩ := hb (k + 1) x hx
      have hl : (l.take (k + 1)).length = k + 1 := by
        rw [List.length_take]
        omega
      have hl2 : (l.take (k + 1) ++ [x]).length = k + 2 := by
        rw [List.length_append, hl]
        rfl
      conv => whnf
      refine ⟨by omega, ?_⟩
      conv => whnf
      refine ⟨_, x0, rfl, ?_⟩
      conv => whnf
      refine ⟨_, x1, rfl, ?_⟩
      conv => whnf
      refine ⟨_, x2, rfl, ?_⟩
      conv => whnf
      refine ⟨_, x3, rfl, ?_⟩
      conv => whnf
      refine ⟨_, x4, rfl, ?_⟩
      conv => whnf
      refine ⟨_, x5, x6, ?_⟩
      conv => whnf
      refine ⟨hl.symm, [x], ⟨rfl, rfl, rfl⟩, by rw [hl2]; omega, by rw [hl2]; omega, ?_⟩
      conv => whnf
      refine ⟨⟨k + 2, by omega⟩, ⟨[3], ⟨rfl, ⟨?_, rfl, trivial⟩, rfl⟩, ?_, rfl, rfl, ?_, trivial⟩, ?_⟩
      · show some (Blk.vec true 80 encOp [] 6 (l.take (k + 1) ++ [x])) = some (Blk.vec true 80 encOp [] 6 (l.take (k + 1 + 1)))
        rw [take_snoc' hx]
      · show some (AV.o (.c (.vec 3 (l.take (k + 1) ++ [x]).length))) = some (AV.o (.c (.vec 3 (k + 1 + 1))))
        rw [hl2]
      · refine eq_i64 ?_
        rw [nadd, nwrapi (by omega)]
      · show l.length - (k + 2) < l.length - (k + 1)
        omega
    · have h3 : l.length ≤ k + 1 := lt_f h3
      have hk : l.length = k + 1 := by omega
      conv => whnf
      refine Or.inl (.inr ⟨fun h0 => ?_, ?_, ?_⟩)
      · rw [h0] at hk
        simp at hk
      · rw [hk]
        rfl
      · show [Blk.vec true 80 encOp [] 6 (l.take (k + 1))] = _
        rw [List.take_of_length_le (by omega)]
end Go.Proofs.Ytkomikpfnogjcaa
