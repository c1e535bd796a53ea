/- A table, copied. -/
import Derived.Test.YtkomikpfnogjcaaRcL
namespace Go.Proofs.Ytkomikpfnogjcaa
open Go Go.Vc
set_option maxRecDepth 100000

def natI (l : List Nat) : List Int := l.map fun (x : Nat) => (x : Int)
theorem natI_len (l : List Nat) : (natI l).length = l.length := by simp [natI]
def tabSt (sl : Value) (tab : List Nat) : Nat → S
  | 0 => ⟨[(3, .o (.c (.val (.slice none 0 0)))), (6, .o (.c (.val sl))), (7, .o (.c (.val (.int .i64 tab.length)))), (8, .o (.c (.val (.int .i64 ((0 : Nat) : Int)))))], []⟩
  | k + 1 => ⟨[(3, .o (.c (.vec 0 (k + 1)))), (6, .o (.c (.val sl))), (7, .o (.c (.val (.int .i64 tab.length)))), (8, .o (.c (.val (.int .i64 ((k + 1 : Nat) : Int)))))], [.vec true 76 (encI .u64) [] 1 ((natI tab).take (k + 1))]⟩
theorem take_snoc {tab : List Nat} {k x : Nat} (h : tab[k]? = some x) : (natI tab).take k ++ [(x : Int)] = (natI tab).take (k + 1) := by
  have hk := (List.getElem?_eq_some_iff.1 h).1
  rw [List.take_add_one]
  congr 1
  simp [natI, h]

theorem tableW (w0 : World) {a : Addr} {c : Nat} {tab : List Nat} (h1 : 1 ≤ tab.length) (h2 : tab.length ≤ 65536) (hb : ∀ (i x : Nat), tab[i]? = some x → x < 4294967296 ∧ w0.cell? (a.add i) = some (.int .u32 x)) :
    CallsA Try.prog w0 43 [.c (.val (.slice (some a) tab.length c))] [] fun r H => r = .o (.c (.vec 0 tab.length)) ∧ H = [.vec true 76 (encI .u64) [] 1 (natI tab)] := by
  refine callsA_of_ev c43_ ?_
  conv => whnf
  refine Or.inl ?_
  conv => whnf
  refine ⟨_root_.Fin (tab.length + 1), fun ⟨i, _⟩ => tabSt (.slice (some a) tab.length c) tab i, fun i => tab.length - i.1, ⟨⟨0, by omega⟩, [], ⟨rfl, trivial, rfl⟩, rfl, rfl, rfl, rfl, trivial⟩, fun ⟨i, hi⟩ => ?_⟩
  rcases i with _ | k
  · conv => whnf
    refine ⟨fun h3 => ?_, fun h3 => ?_⟩
    · obtain ⟨x, hx⟩ : ∃ x, tab[0]? = some x := ⟨_, List.getElem?_eq_getElem (by omega)⟩
      obtain ⟨hx1, hx2⟩ := hb 0 x hx
      conv => whnf
      refine ⟨by omega, ?_⟩
      conv => whnf
      refine ⟨_, hx2, rfl, ?_⟩
      conv => whnf
      refine ⟨by omega, Int, encI .u64, [], [(x : Int)], fun _ => rfl, ⟨rfl, rfl, ?_⟩, by simp only [List.length_cons, List.length_nil]; omega, by simp only [List.length_cons, List.length_nil]; omega, ?_⟩
      · show [CV.val (.int .u64 (x : Int))] = [CV.val (.int .u64 (IntKind.u64.wrap x))]
        rw [nwrap64 (by omega)]
      · conv => whnf
        refine ⟨⟨1, by omega⟩, ⟨[1], ⟨rfl, ⟨?_, rfl, trivial⟩, rfl⟩, rfl, rfl, rfl, ?_, trivial⟩, ?_⟩
        · have := take_snoc hx
          simp only [List.take_zero, List.nil_append] at this
          show some (Blk.vec true 76 (encI .u64) [] 1 [(x : Int)]) = some (Blk.vec true 76 (encI .u64) [] 1 ((natI tab).take (0 + 1)))
          rw [← this]
        · refine eq_i64 ?_
          rw [nadd, nwrapi (by omega)]
        · show tab.length - 1 < tab.length - 0
          omega
    · have := lt_f h3
      omega
  · conv => whnf
    refine ⟨fun h3 => ?_, fun h3 => ?_⟩
    · have h3 : k + 1 < tab.length := lt_t h3
      obtain ⟨x, hx⟩ : ∃ x, tab[k + 1]? = some x := ⟨_, List.getElem?_eq_getElem h3⟩
      obtain ⟨hx1, hx2⟩ := hb (k + 1) x hx
      have hl : ((natI tab).take (k + 1)).length = k + 1 := by
        rw [List.length_take, natI_len]
        omega
      have hl2 : ((natI tab).take (k + 1) ++ [(x : Int)]).length = k + 2 := by
        rw [List.length_append, hl]
        rfl
      conv => whnf
      refine ⟨by omega, ?_⟩
      conv => whnf
      refine ⟨.int .u32 x, ?_, rfl, ?_⟩
      · rw [Int.toNat_natCast, Nat.mul_one]
        exact hx2
      · conv => whnf
        refine ⟨hl.symm, [(x : Int)], ⟨rfl, rfl, ?_⟩, by rw [hl2]; omega, by rw [hl2]; omega, ?_⟩
        · show [CV.val (.int .u64 (x : Int))] = [CV.val (.int .u64 (IntKind.u64.wrap x))]
          rw [nwrap64 (by omega)]
        · conv => whnf
          refine ⟨⟨k + 2, by omega⟩, ⟨[2], ⟨rfl, ⟨?_, rfl, trivial⟩, rfl⟩, ?_, rfl, rfl, ?_, trivial⟩, ?_⟩
          · show some (Blk.vec true 76 (encI .u64) [] 1 ((natI tab).take (k + 1) ++ [(x : Int)])) = some (Blk.vec true 76 (encI .u64) [] 1 ((natI tab).take (k + 1 + 1)))
            rw [take_snoc hx]
          · show some (AV.o (.c (.vec 2 ((natI tab).take (k + 1) ++ [(x : Int)]).length))) = some (AV.o (.c (.vec 2 (k + 1 + 1))))
            rw [hl2]
          · refine eq_i64 ?_
            rw [nadd, nwrapi (by omega)]
          · show tab.length - (k + 2) < tab.length - (k + 1)
            omega
    · have h3 : tab.length ≤ k + 1 := lt_f h3
      have hk : tab.length = k + 1 := by omega
      conv => whnf
      refine Or.inl ⟨?_, ?_⟩
      · rw [hk]
        rfl
      · show [Blk.vec true 76 (encI .u64) [] 1 ((natI tab).take (k + 1))] = _
        rw [List.take_of_length_le (by rw [natI_len]; omega)]
end Go.Proofs.Ytkomikpfnogjcaa
