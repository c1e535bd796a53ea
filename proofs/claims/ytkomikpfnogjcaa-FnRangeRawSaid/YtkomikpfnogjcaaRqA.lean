/- Symbols as parts of a total: the plain law. -/
import Derived.Test.YtkomikpfnogjcaaRpE
import Derived.Test.YtkomikpfnogjcaaRnI
namespace Go.Proofs.Ytkomikpfnogjcaa
open Go Go.Vc
set_option maxRecDepth 100000

/-- The part of a total that an operation is. -/
def OpV.part (o : OpV) : OpV :=
  if o.act = 2 then ⟨0, lowOf o.rows o.a, o.rows.getD (o.a + 1) 0, o.rows.getD 0 0, 0, .slice none 0 0, []⟩
  else if o.act = 1 then (if o.b = 0 then ⟨0, 0, 2 ^ o.a - 1, 2 ^ o.a, 0, .slice none 0 0, []⟩ else ⟨0, 2 ^ o.a - 1, 2 ^ o.a, 2 ^ o.a, 0, .slice none 0 0, []⟩)
  else if o.act = 3 ∧ o.a ≤ 256 then ⟨0, o.b, o.b + 1, o.a, 0, .slice none 0 0, []⟩
  else o
theorem EncS.act0 (e : EncS) (a b c : Nat) (v : Int) (t : Value) (r : List Nat) : e.act ⟨0, a, b, c, v, t, r⟩ = e.cum a b c := rfl
theorem part_act {w0 : World} {e : EncS} {o : OpV} (ho : o.wr w0) : e.act o.part = e.act o := by
  have ha := ho.a32
  rcases ho.kind with ⟨k, _⟩ | ⟨k, h2, h3, h4⟩ | ⟨k, total, rest, ta, c, hr, ht1, ht2, hl, hx, hal, hlt, htab, hcell⟩ | ⟨k, h2, h3⟩ | ⟨k, _⟩ | ⟨k, _⟩
  · have : o.part = o := by unfold OpV.part; rw [if_neg (by omega), if_neg (by omega), if_neg (by omega)]
    rw [this]
  · have hp : 2 ^ 1 ≤ 2 ^ o.a := Nat.pow_le_pow_right (by omega) h2
    rw [show e.act o = (e.bit o.a o.b).norm by unfold EncS.act; rw [k]; rfl, EncS.bit_sym h2]
    unfold OpV.part
    rw [if_neg (by omega), if_pos k]
    by_cases hb : o.b = 0
    · rw [if_pos hb, if_pos hb, EncS.act0]
      unfold EncS.cum
      rw [if_neg (by omega)]
    · rw [if_neg hb, if_neg hb, EncS.act0]
      unfold EncS.cum
      rw [if_neg (by omega)]
  · obtain ⟨f1, f2, f3⟩ := tab_facts hx hal
    rw [show e.act o = e.tab total rest o.a by unfold EncS.act; rw [k, hr]; rfl]
    unfold OpV.part
    rw [if_pos k, EncS.act0, hr, f1, f2]
    rfl
  · rw [show e.act o = e.whole o.a o.b by unfold EncS.act; rw [k]; rfl]
    unfold OpV.part
    rw [if_neg (by omega), if_neg (by omega)]
    by_cases hn : o.a ≤ 256
    · rw [if_pos ⟨k, hn⟩, EncS.act0]
      unfold EncS.whole
      rw [if_pos (len_le (by omega))]
    · rw [if_neg (fun h => hn h.2)]
      unfold EncS.act
      rw [k]
      rfl
  · have : o.part = o := by unfold OpV.part; rw [if_neg (by omega), if_neg (by omega), if_neg (by omega)]
    rw [this]
  · have : o.part = o := by unfold OpV.part; rw [if_neg (by omega), if_neg (by omega), if_neg (by omega)]
    rw [this]
theorem part_puts {w0 : World} {o : OpV} (ho : o.wr w0) (h1 : o.tab.oneCell' = true) : o.part.puts w0 ∧ o.part.tab.oneCell' = true := by
  have ha := ho.a32
  have hb := ho.b32
  rcases ho.kind with ⟨k, _⟩ | ⟨k, h2, h3, h4⟩ | ⟨k, total, rest, ta, c, hr, ht1, ht2, hl, hx, hal, hlt, htab, hcell⟩ | ⟨k, h2, h3⟩ | ⟨k, _⟩ | ⟨k, _⟩
  · have : o.part = o := by unfold OpV.part; rw [if_neg (by omega), if_neg (by omega), if_neg (by omega)]
    rw [this]
    exact ⟨ho.puts, h1⟩
  · have hp : 2 ^ 1 ≤ 2 ^ o.a := Nat.pow_le_pow_right (by omega) h2
    have hp2 : 2 ^ o.a ≤ 2 ^ 15 := Nat.pow_le_pow_right (by omega) h3
    unfold OpV.part
    rw [if_neg (by omega), if_pos k]
    split
    · exact ⟨⟨by show 0 < 4294967296; omega, by show 2 ^ o.a - 1 < 4294967296; omega, by show 2 ^ o.a < 4294967296; omega, .inl ⟨rfl, by show 2 ^ o.a ≤ 65535; omega⟩⟩, rfl⟩
    · exact ⟨⟨by show 2 ^ o.a - 1 < 4294967296; omega, by show 2 ^ o.a < 4294967296; omega, by show 2 ^ o.a < 4294967296; omega, .inl ⟨rfl, by show 2 ^ o.a ≤ 65535; omega⟩⟩, rfl⟩
  · obtain ⟨f1, f2, f3⟩ := tab_facts hx hal
    rw [hr, f1, f2] at hlt
    unfold OpV.part
    rw [if_pos k, hr, f1, f2]
    exact ⟨⟨by show tabLow rest o.a < 4294967296; omega, by show rest.getD o.a 0 < 4294967296; omega, by show total < 4294967296; omega, .inl ⟨rfl, by show total ≤ 65535; omega⟩⟩, rfl⟩
  · unfold OpV.part
    rw [if_neg (by omega), if_neg (by omega)]
    split
    · rename_i h
      exact ⟨⟨by show o.b < 4294967296; omega, by show o.b + 1 < 4294967296; omega, by show o.a < 4294967296; omega, .inl ⟨rfl, by show o.a ≤ 65535; omega⟩⟩, rfl⟩
    · exact ⟨ho.puts, h1⟩
  · have : o.part = o := by unfold OpV.part; rw [if_neg (by omega), if_neg (by omega), if_neg (by omega)]
    rw [this]
    exact ⟨ho.puts, h1⟩
  · have : o.part = o := by unfold OpV.part; rw [if_neg (by omega), if_neg (by omega), if_neg (by omega)]
    rw [this]
    exact ⟨ho.puts, h1⟩
theorem part_after {w0 : World} {l : List OpV} : ∀ {e : EncS}, (∀ o ∈ l, o.wr w0) → e.after (l.map OpV.part) = e.after l := by
  induction l with
  | nil => intros; rfl
  | cons o r ih =>
    intro e h
    show (e.act o.part).after _ = (e.act o).after r
    rw [part_act (h o (List.mem_cons_self ..)), ih fun x hx => h x (List.mem_cons_of_mem _ hx)]
theorem part_seen {w0 : World} {l : List OpV} : ∀ {e : EncS}, (∀ o ∈ l, o.wr w0) → e.seen (l.map OpV.part) = e.seen l := by
  induction l with
  | nil => intros; rfl
  | cons o r ih =>
    intro e h
    show (e.act o.part).tells :: (e.act o.part).seen _ = (e.act o).tells :: (e.act o).seen r
    rw [part_act (h o (List.mem_cons_self ..)), ih fun x hx => h x (List.mem_cons_of_mem _ hx)]

/-! Operations copied out of a block of one's own. -/
def sopB (l : List OpV) : Blk := .vec true 47 encOp [] 6 l
theorem opsB (w0 : World) {l : List OpV} {n : Nat} (hn : l.length = n) (h1 : l ≠ []) (h2 : l.length ≤ 65536) (hone : ∀ o ∈ l, o.tab.oneCell' = true) :
    CallsA Try.prog w0 15 [.c (.vec 0 n)] [sopB l] fun r H => r = .o (.c (.vec 1 n)) ∧ H = [sopB l, .vec true 80 encOp [] 6 l] := by
  subst hn
  have h0 : 0 < l.length := List.length_pos_iff.2 h1
  refine callsA_of_ev c15_ ?_
  conv => whnf
  refine Or.inl ?_
  conv => whnf
  refine ⟨_root_.Fin (l.length + 1), fun ⟨i, _⟩ => opsSt (.vec 0 l.length) [sopB l] l.length l i, fun i => l.length - i.1, ⟨⟨0, by omega⟩, [0], ⟨rfl, ⟨rfl, rfl, trivial⟩, rfl⟩, rfl, rfl, rfl, rfl, trivial⟩, fun ⟨i, hi⟩ => ?_⟩
  rcases i with _ | k
  · conv => whnf
    refine ⟨fun h3 => ?_, fun h3 => absurd (lt_f h3) (by omega)⟩
    obtain ⟨x, hx⟩ : ∃ x, l[0]? = some x := ⟨_, List.getElem?_eq_getElem h0⟩
    have hx1 := hone x (List.mem_of_getElem? hx)
    conv => whnf
    refine ⟨by omega, ?_⟩
    conv => whnf
    refine ⟨x, hx, ?_⟩
    conv => whnf
    refine ⟨by omega, OpV, encOp, [], [x], fun _ => rfl, ⟨rfl, rfl, rfl⟩, by simp only [List.length_cons, List.length_nil]; omega, by simp only [List.length_cons, List.length_nil]; omega, ?_⟩
    conv => whnf
    refine ⟨⟨1, by omega⟩, ⟨[0, 3], ⟨rfl, ⟨rfl, rfl, ?_, rfl, trivial⟩, rfl⟩, rfl, rfl, rfl, ?_, trivial⟩, ?_⟩
    · have := take_snoc' hx
      simp only [List.take_zero, List.nil_append] at this
      show some (Blk.vec true 80 encOp [] 6 [x]) = some (Blk.vec true 80 encOp [] 6 (l.take (0 + 1)))
      rw [← this]
    · refine eq_i64 ?_
      rw [nadd, nwrapi (by omega)]
    · show l.length - 1 < l.length - 0
      omega
  · conv => whnf
    refine ⟨fun h3 => ?_, fun h3 => ?_⟩
    · have h3 : k + 1 < l.length := lt_t h3
      obtain ⟨x, hx⟩ : ∃ x, l[k + 1]? = some x := ⟨_, List.getElem?_eq_getElem h3⟩
      have hl : (l.take (k + 1)).length = k + 1 := by
        rw [List.length_take]
        omega
      have hl2 : (l.take (k + 1) ++ [x]).length = k + 2 := by
        rw [List.length_append, hl]
        rfl
      conv => whnf
      refine ⟨by omega, ?_⟩
      conv => whnf
      refine ⟨x, hx, ?_⟩
      conv => whnf
      refine ⟨hl.symm, [x], ⟨rfl, rfl, rfl⟩, by rw [hl2]; omega, by rw [hl2]; omega, ?_⟩
      conv => whnf
      refine ⟨⟨k + 2, by omega⟩, ⟨[0, 4], ⟨rfl, ⟨rfl, rfl, ?_, rfl, trivial⟩, rfl⟩, ?_, rfl, rfl, ?_, trivial⟩, ?_⟩
      · show some (Blk.vec true 80 encOp [] 6 (l.take (k + 1) ++ [x])) = some (Blk.vec true 80 encOp [] 6 (l.take (k + 1 + 1)))
        rw [take_snoc' hx]
      · show some (AV.o (.c (.vec 4 (l.take (k + 1) ++ [x]).length))) = some (AV.o (.c (.vec 4 (k + 1 + 1))))
        rw [hl2]
      · refine eq_i64 ?_
        rw [nadd, nwrapi (by omega)]
      · show l.length - (k + 2) < l.length - (k + 1)
        omega
    · have h3 : l.length ≤ k + 1 := lt_f h3
      have hk : l.length = k + 1 := by omega
      conv => whnf
      refine Or.inl ⟨?_, ?_⟩
      · rw [hk]
        rfl
      · show [sopB l, Blk.vec true 80 encOp [] 6 (l.take (k + 1))] = _
        rw [List.take_of_length_le (by omega)]
end Go.Proofs.Ytkomikpfnogjcaa
