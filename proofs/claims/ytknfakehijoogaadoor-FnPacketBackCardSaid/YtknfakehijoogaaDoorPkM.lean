/- A packet that is to be written: whether it fits, whether it can be. -/
import Derived.Test.YtknfakehijoogaaDoorPkL
namespace Go.Proofs.YtknfakehijoogaaDoor
open Go Go.Vc
set_option maxRecDepth 100000
set_option maxHeartbeats 8000000

/-- Strings of the caller's. -/
def strsAt (w0 : World) (v : Value) (ss : List ByteArray) : Prop :=
  (v = .slice none 0 0 ∧ ss = []) ∨ ∃ a c, v = .slice (some a) ss.length c ∧ ss.length ≤ c ∧ ∀ (i : Nat) s, ss[i]? = some s → w0.cell? (a.add (i * 1)) = some (.string s)

theorem zzFits6W (w0 : World) {v : Value} {ss : List ByteArray} (h : strsAt w0 v ss) (hl : ss.length ≤ 9223372036854775807) :
    CallsA Tryd.prog w0 17 [.c (.val v)] [] fun r H => (∃ t, r = .o (.c (.val (.bool t)))) ∧ H = [] := by
  rcases h with ⟨rfl, rfl⟩ | ⟨a, c, rfl, hc, hb⟩
  · refine callsA_of_ev c17_ ?_
    conv => whnf
    refine Or.inl ?_
    conv => whnf
    refine ⟨fun _ => ?_, fun _ => ?_⟩
    · conv => whnf
      exact Or.inl ⟨⟨false, rfl⟩, rfl⟩
    conv => whnf
    refine Or.inl ?_
    conv => whnf
    refine ⟨Unit, fun _ => ⟨[(9, .o (.c (.val (.int .i64 ((0 : Nat) : Int))))), (10, .o (.c (.val (.int .i64 ((0 : Nat) : Int)))))], []⟩, fun _ => 0, ⟨(), [], ⟨rfl, trivial, rfl⟩, rfl, rfl, trivial⟩, fun _ => ?_⟩
    conv => whnf
    refine ⟨fun h => absurd (lt_t h) (by omega), fun _ => ?_⟩
    conv => whnf
    exact Or.inl ⟨⟨true, rfl⟩, rfl⟩
  · refine callsA_of_ev c17_ ?_
    conv => whnf
    refine Or.inl ?_
    conv => whnf
    refine ⟨fun _ => ?_, fun _ => ?_⟩
    · conv => whnf
      exact Or.inl ⟨⟨false, rfl⟩, rfl⟩
    conv => whnf
    refine Or.inl ?_
    conv => whnf
    refine ⟨_root_.Fin (ss.length + 1), fun ⟨k, _⟩ => ⟨[(8, .o (.c (.val (.slice (some a) ss.length c)))), (9, .o (.c (.val (.int .i64 ss.length)))), (10, .o (.c (.val (.int .i64 k))))], []⟩, fun k => ss.length - k.1, ⟨⟨0, by omega⟩, [], ⟨rfl, trivial, rfl⟩, rfl, rfl, rfl, trivial⟩, fun ⟨k, hk⟩ => ?_⟩
    conv => whnf
    refine ⟨fun h3 => ?_, fun h3 => ?_⟩
    · have h3 : k < ss.length := lt_t h3
      obtain ⟨s, hs⟩ : ∃ s, ss[k]? = some s := ⟨_, List.getElem?_eq_getElem h3⟩
      conv => whnf
      refine Or.inl ?_
      conv => whnf
      refine ⟨by omega, ?_⟩
      conv => whnf
      refine ⟨_, hb k s hs, rfl, ?_⟩
      conv => whnf
      refine ⟨fun _ => ?_, fun _ => ?_⟩
      · conv => whnf
        exact Or.inl ⟨⟨false, rfl⟩, rfl⟩
      conv => whnf
      refine ⟨⟨k + 1, by omega⟩, ⟨[], ⟨rfl, trivial, rfl⟩, rfl, rfl, eq_i64 ?_, trivial⟩, ?_⟩
      · rw [nadd, nwrapi (by omega)]
      · show ss.length - (k + 1) < ss.length - k
        omega
    · conv => whnf
      exact Or.inl ⟨⟨true, rfl⟩, rfl⟩

def pkArg (cfg code pad : Int) (st vbr : Bool) (v : Value) : List CV := [.val (.int .i64 cfg), .val (.bool st), .val (.int .i64 code), .val v, .val (.int .i64 pad), .val (.bool vbr)]
theorem zzFits5W (w0 : World) {v : Value} {ss : List ByteArray} (h : strsAt w0 v ss) (hl : ss.length ≤ 9223372036854775807) {cfg code pad : Int} {st vbr : Bool} :
    CallsA Tryd.prog w0 9 [.a (pkArg cfg code pad st vbr v)] [] fun r H => (∃ t, r = .o (.c (.val (.bool t)))) ∧ H = [] := by
  refine callsA_of_ev c9_ ?_
  conv => whnf
  refine Or.inl ?_
  conv => whnf
  refine CallsA.lift (H0 := []) [] rfl trivial rfl (zzFits6W w0 h hl) ?_
  rintro _ _ ⟨⟨t, rfl⟩, rfl⟩
  conv => whnf
  refine ⟨fun _ => ?_, fun _ => ?_⟩
  · conv => whnf
    exact Or.inr ⟨[], .o (.c (.val (.bool false))), [], ⟨rfl, trivial, rfl⟩, rfl, ⟨_, rfl⟩, rfl⟩
  · conv => whnf
    exact Or.inr ⟨[], .o (.c (.val (.bool true))), [], ⟨rfl, trivial, rfl⟩, rfl, ⟨_, rfl⟩, rfl⟩

theorem sameV (w0 : World) {v : Value} {ss : List ByteArray} (h : strsAt w0 v ss) (hn : ss ≠ []) (hl : ss.length ≤ 100000) :
    CallsA Tryd.prog w0 8 [.c (.vec 0 ss.length), .c (.val v)] [strB ss] fun r H => r = .o (.c (.val (.bool true))) ∧ H = [strB ss] := by
  rcases h with ⟨rfl, h⟩ | ⟨a, c, rfl, hc, hb⟩
  · exact absurd h hn
  refine callsA_of_ev c8_ ?_
  conv => whnf
  refine Or.inl ?_
  conv => whnf
  refine ⟨fun h => absurd rfl (bne_t h), fun _ => ?_⟩
  conv => whnf
  refine Or.inl ?_
  conv => whnf
  refine ⟨_root_.Fin (ss.length + 1), fun ⟨k, _⟩ => ⟨[(0, .o (.c (.vec 0 ss.length))), (1, .o (.c (.val (.slice (some a) ss.length c)))), (12, .o (.c (.val (.int .i64 ss.length)))), (13, .o (.c (.val (.int .i64 k))))], [strB ss]⟩, fun k => ss.length - k.1, ⟨⟨0, by omega⟩, [0], ⟨rfl, ⟨rfl, rfl, trivial⟩, rfl⟩, rfl, rfl, rfl, rfl, trivial⟩, fun ⟨k, hk⟩ => ?_⟩
  conv => whnf
  refine ⟨fun h3 => ?_, fun h3 => ?_⟩
  · have h3 : k < ss.length := lt_t h3
    obtain ⟨s, hsk⟩ : ∃ s, ss[k]? = some s := ⟨_, List.getElem?_eq_getElem h3⟩
    conv => whnf
    refine Or.inl ?_
    conv => whnf
    refine ⟨by omega, ?_⟩
    conv => whnf
    refine ⟨s, hsk, ?_⟩
    conv => whnf
    refine ⟨by omega, ?_⟩
    conv => whnf
    refine ⟨_, hb k s hsk, rfl, ?_⟩
    conv => whnf
    refine ⟨fun h => ?_, fun _ => ?_⟩
    · rw [show (s.toList == s.toList) = true from beq_self_eq_true _] at h
      cases h
    conv => whnf
    refine ⟨⟨k + 1, by omega⟩, ⟨[0], ⟨rfl, ⟨rfl, rfl, trivial⟩, rfl⟩, rfl, rfl, rfl, eq_i64 ?_, trivial⟩, ?_⟩
    · rw [nadd, nwrapi (by omega)]
    · show ss.length - (k + 1) < ss.length - k
      omega
  · conv => whnf
    exact Or.inl ⟨rfl, rfl⟩

def fineR (cfg code pad : Int) (vbr : Bool) (ss : List ByteArray) (r : AV) (H : List Blk) : Prop :=
  H = [] ∧ ∃ t, r = .o (.c (.val (.bool t))) ∧ (t = true → ∃ cN codeN padN : Nat, cfg = cN ∧ code = codeN ∧ pad = padN ∧ fineP cN codeN padN vbr ss)
theorem fine_no {cfg code pad : Int} {vbr : Bool} {ss : List ByteArray} (H : List Blk) : Fin 0 (fineR cfg code pad vbr ss) (.o (.c (.val (.bool false)))) H :=
  Or.inr ⟨[], .o (.c (.val (.bool false))), [], ⟨rfl, trivial, rfl⟩, rfl, rfl, false, rfl, (fun h => by cases h)⟩
theorem fine_yes {cfg code pad : Int} {vbr : Bool} {ss : List ByteArray} (H : List Blk) (t : Bool) (h : t = true → ∃ cN codeN padN : Nat, cfg = cN ∧ code = codeN ∧ pad = padN ∧ fineP cN codeN padN vbr ss) : Fin 0 (fineR cfg code pad vbr ss) (.o (.c (.val (.bool t)))) H :=
  Or.inr ⟨[], .o (.c (.val (.bool t))), [], ⟨rfl, trivial, rfl⟩, rfl, rfl, t, rfl, h⟩
def sameTo (ss : List ByteArray) (k : Nat) : Prop := ∀ i s, i < k → ss[i]? = some s → s.size = (szs ss).getD 0 0
def okC (ss : List ByteArray) (c : CV) (k : Nat) : Prop := (c = .kb true ∧ k = 0) ∨ (∃ sb, c = .val (.bool sb) ∧ (sb = true → sameTo ss k)) ∨ c = .kb false
theorem ilt_t {a b : Int} (h : decide (a < b) = true) : a < b := of_decide_eq_true h
theorem ilt_f {a b : Int} (h : decide (a < b) = false) : b ≤ a := by have := of_decide_eq_false h; omega
theorem igt_t {a b : Int} (h : decide (a > b) = true) : b < a := of_decide_eq_true h
theorem igt_f {a b : Int} (h : decide (a > b) = false) : a ≤ b := by have := of_decide_eq_false h; omega

theorem packetFineW (w0 : World) {v : Value} {ss : List ByteArray} (h : strsAt w0 v ss) (hl : ss.length ≤ 9223372036854775807) {cfg code pad : Int} {st vbr : Bool} :
    CallsA Tryd.prog w0 18 [.a (pkArg cfg code pad st vbr v)] [] (fineR cfg code pad vbr ss) := by
  rcases h with ⟨rfl, rfl⟩ | ⟨a, c, rfl, hc, hb⟩
  · refine callsA_of_ev c18_ ?_
    conv => whnf
    refine Or.inl ?_
    conv => whnf
    refine ⟨fun _ => ?_, fun q1 => ?_⟩
    · conv => whnf
      exact fine_no _
    have q1 := ilt_f q1
    conv => whnf
    refine ⟨fun _ => ?_, fun q2 => ?_⟩
    · conv => whnf
      exact fine_no _
    have q2 := igt_f q2
    conv => whnf
    refine ⟨fun _ => ?_, fun q3 => ?_⟩
    · conv => whnf
      exact fine_no _
    have q3 := ilt_f q3
    conv => whnf
    refine ⟨fun _ => ?_, fun q4 => ?_⟩
    · conv => whnf
      exact fine_no _
    have q4 := igt_f q4
    conv => whnf
    refine ⟨fun _ => ?_, fun q5 => ?_⟩
    · conv => whnf
      exact fine_no _
    have q5 := ilt_f q5
    conv => whnf
    refine ⟨fun _ => ?_, fun q6 => ?_⟩
    · conv => whnf
      exact fine_no _
    have q6 := igt_f q6
    conv => whnf
    refine ⟨fun _ => ?_, fun q => absurd rfl (beq_f q)⟩
    conv => whnf
    exact fine_no _
  · refine callsA_of_ev c18_ ?_
    conv => whnf
    refine Or.inl ?_
    conv => whnf
    refine ⟨fun _ => ?_, fun q1 => ?_⟩
    · conv => whnf
      exact fine_no _
    have q1 := ilt_f q1
    conv => whnf
    refine ⟨fun _ => ?_, fun q2 => ?_⟩
    · conv => whnf
      exact fine_no _
    have q2 := igt_f q2
    conv => whnf
    refine ⟨fun _ => ?_, fun q3 => ?_⟩
    · conv => whnf
      exact fine_no _
    have q3 := ilt_f q3
    conv => whnf
    refine ⟨fun _ => ?_, fun q4 => ?_⟩
    · conv => whnf
      exact fine_no _
    have q4 := igt_f q4
    conv => whnf
    refine ⟨fun _ => ?_, fun q5 => ?_⟩
    · conv => whnf
      exact fine_no _
    have q5 := ilt_f q5
    conv => whnf
    refine ⟨fun _ => ?_, fun q6 => ?_⟩
    · conv => whnf
      exact fine_no _
    have q6 := igt_f q6
    conv => whnf
    refine ⟨fun _ => ?_, fun q7 => ?_⟩
    · conv => whnf
      exact fine_no _
    have q7 := beq_f q7
    conv => whnf
    refine ⟨fun _ => ?_, fun q8 => ?_⟩
    · conv => whnf
      exact fine_no _
    have q8 := gt_f q8
    conv => whnf
    obtain ⟨cN, rfl⟩ : ∃ n : Nat, cfg = n := ⟨cfg.toNat, by omega⟩
    obtain ⟨codeN, rfl⟩ : ∃ n : Nat, code = n := ⟨code.toNat, by omega⟩
    obtain ⟨padN, rfl⟩ : ∃ n : Nat, pad = n := ⟨pad.toNat, by omega⟩
    have q7 : ss.length ≠ 0 := q7
    have q8 : ss.length ≤ 48 := q8
    obtain ⟨s0, hs0⟩ : ∃ s, ss[0]? = some s := ⟨_, List.getElem?_eq_getElem (by omega)⟩
    have hs00 : (szs ss).getD 0 0 = s0.size := by
      unfold szs
      rw [List.getD_eq_getElem?_getD, List.getElem?_map, hs0]
      rfl
    refine Or.inl ?_
    conv => whnf
    refine ⟨{x : Nat × CV // x.1 ≤ ss.length ∧ (∀ i s, i < x.1 → ss[i]? = some s → s.size ≤ 1275) ∧ okC ss x.2 x.1}, fun ⟨⟨k, c3⟩, _⟩ => ⟨[(1, .o (.c (.ptr 0 0))), (3, .o (.c c3)), (47, .o (.c (.val (.slice (some a) ss.length c)))), (48, .o (.c (.val (.int .i64 ss.length)))), (49, .o (.c (.val (.int .i64 k))))], [.cells 31 (pkArg cN codeN padN st vbr (.slice (some a) ss.length c))]⟩, fun x => ss.length - x.1.1, ⟨⟨(0, .kb true), Nat.zero_le _, fun i s hi => absurd hi (by omega), .inl ⟨rfl, rfl⟩⟩, [0], ⟨rfl, ⟨rfl, rfl, trivial⟩, rfl⟩, rfl, rfl, rfl, rfl, rfl, trivial⟩, fun ⟨⟨k, c3⟩, hk, hks, hc3⟩ => ?_⟩
    simp only at hk hks hc3
    conv => whnf
    refine ⟨fun h3 => ?_, fun h3 => ?_⟩
    · have h3 : k < ss.length := lt_t h3
      obtain ⟨s, hs⟩ : ∃ s, ss[k]? = some s := ⟨_, List.getElem?_eq_getElem h3⟩
      conv => whnf
      refine Or.inl ?_
      conv => whnf
      refine ⟨by omega, ?_⟩
      conv => whnf
      refine ⟨_, hb k s hs, rfl, ?_⟩
      conv => whnf
      refine Or.inl ?_
      conv => whnf
      refine ⟨fun _ => ?_, fun h4 => ?_⟩
      · conv => whnf
        exact fine_no _
      have h4 : s.size ≤ 1275 := gt_f h4
      have hks' : ∀ i z, i < k + 1 → ss[i]? = some z → z.size ≤ 1275 := by
        intro i z hi hz
        by_cases hik : i = k
        · rw [hik, hs] at hz
          cases hz
          exact h4
        · exact hks i z (by omega) hz
      have hst : sameTo ss k → (((s.size : Nat) : Int) == ((s0.size : Nat) : Int)) = true → sameTo ss (k + 1) := by
        intro h1 h2 i z hi hz
        by_cases hik : i = k
        · rw [hik, hs] at hz
          cases hz
          rw [hs00]
          exact beq_t h2
        · exact h1 i z (by omega) hz
      rcases hc3 with ⟨rfl, rfl⟩ | ⟨sb, rfl, hsb⟩ | rfl
      · conv => whnf
        refine ⟨by omega, ?_⟩
        conv => whnf
        refine ⟨_, hb 0 s0 hs0, rfl, ?_⟩
        conv => whnf
        refine ⟨⟨(1, .val (.bool (((s.size : Nat) : Int) == ((s0.size : Nat) : Int)))), h3, hks', .inr (.inl ⟨_, rfl, hst fun i z hi => absurd hi (by omega)⟩)⟩, ⟨[0], ⟨rfl, ⟨rfl, rfl, trivial⟩, rfl⟩, rfl, rfl, rfl, rfl, eq_i64 ?_, trivial⟩, ?_⟩
        · rw [nadd, nwrapi (by omega)]
        · show ss.length - (0 + 1) < ss.length - 0
          omega
      · conv => whnf
        refine ⟨fun g => ?_, fun g => ?_⟩
        · conv => whnf
          refine ⟨by omega, ?_⟩
          conv => whnf
          refine ⟨_, hb 0 s0 hs0, rfl, ?_⟩
          conv => whnf
          refine ⟨⟨(k + 1, .val (.bool (((s.size : Nat) : Int) == ((s0.size : Nat) : Int)))), h3, hks', .inr (.inl ⟨_, rfl, hst (hsb g)⟩)⟩, ⟨[0], ⟨rfl, ⟨rfl, rfl, trivial⟩, rfl⟩, rfl, rfl, rfl, rfl, eq_i64 ?_, trivial⟩, ?_⟩
          · rw [nadd, nwrapi (by omega)]
          · show ss.length - (k + 1) < ss.length - k
            omega
        · conv => whnf
          refine ⟨⟨(k + 1, .kb false), h3, hks', .inr (.inr rfl)⟩, ⟨[0], ⟨rfl, ⟨rfl, rfl, trivial⟩, rfl⟩, rfl, rfl, rfl, rfl, eq_i64 ?_, trivial⟩, ?_⟩
          · rw [nadd, nwrapi (by omega)]
          · show ss.length - (k + 1) < ss.length - k
            omega
      · conv => whnf
        refine ⟨⟨(k + 1, .kb false), h3, hks', .inr (.inr rfl)⟩, ⟨[0], ⟨rfl, ⟨rfl, rfl, trivial⟩, rfl⟩, rfl, rfl, rfl, rfl, eq_i64 ?_, trivial⟩, ?_⟩
        · rw [nadd, nwrapi (by omega)]
        · show ss.length - (k + 1) < ss.length - k
          omega
    · have h3 : ss.length ≤ k := lt_f h3
      obtain rfl : k = ss.length := by omega
      have hmost : ∀ s ∈ ss, s.size ≤ 1275 := by
        intro s hs
        obtain ⟨i, hi, rfl⟩ := List.getElem_of_mem hs
        exact hks i _ hi (List.getElem?_eq_getElem hi)
      have hsame : sameTo ss ss.length → ∀ s ∈ ss, s.size = (szs ss).getD 0 0 := by
        intro h s hs
        obtain ⟨i, hi, rfl⟩ := List.getElem_of_mem hs
        exact h i _ hi (List.getElem?_eq_getElem hi)
      have hne : ss ≠ [] := fun h => q7 (by rw [h]; rfl)
      conv => whnf
      refine Or.inl ?_
      conv => whnf
      have hcfg : cN < 32 := by omega
      refine ⟨fun g1 => ?_, fun g1 => ?_⟩
      · have g1 : codeN < 3 := lt_t g1
        conv => whnf
        refine ⟨fun _ => ?_, fun p1 => ?_⟩
        · conv => whnf
          exact fine_no _
        have p1 : padN ≤ 0 := gt_f p1
        obtain rfl : padN = 0 := by omega
        conv => whnf
        refine ⟨fun _ => ?_, fun v1 => ?_⟩
        · conv => whnf
          exact fine_no _
        subst v1
        conv => whnf
        refine Or.inl ?_
        conv => whnf
        refine ⟨fun e0 => ?_, fun e0 => ?_⟩
        · have e0 : codeN = 0 := beq_t e0
          subst e0
          conv => whnf
          exact fine_yes _ _ fun h => ⟨cN, 0, 0, rfl, rfl, rfl, ⟨hcfg, by omega, by omega, hne, q8, hmost, fun _ => ⟨rfl, rfl⟩, fun _ => beq_t h, fun h => absurd h (by omega), fun h => absurd h (by omega), fun h => absurd h (by omega)⟩⟩
        have e0 : codeN ≠ 0 := beq_f e0
        conv => whnf
        refine ⟨fun e1 => ?_, fun e1 => ?_⟩
        · have e1 : codeN = 1 := beq_t e1
          subst e1
          conv => whnf
          refine ⟨fun n2 => ?_, fun n2 => ?_⟩
          · have n2 : ss.length = 2 := beq_t n2
            rcases hc3 with ⟨rfl, h⟩ | ⟨sb, rfl, hsb⟩ | rfl
            · exact absurd h q7
            · conv => whnf
              exact fine_yes _ _ fun h => ⟨cN, 1, 0, rfl, rfl, rfl, ⟨hcfg, by omega, by omega, hne, q8, hmost, fun _ => ⟨rfl, rfl⟩, fun h => absurd h (by omega), fun _ => ⟨n2, hsame (hsb h)⟩, fun h => absurd h (by omega), fun h => absurd h (by omega)⟩⟩
            · conv => whnf
              exact fine_no _
          · conv => whnf
            exact fine_no _
        have e1 : codeN ≠ 1 := beq_f e1
        conv => whnf
        refine ⟨fun e2 => ?_, fun e2 => absurd (show codeN = 2 by omega) (beq_f e2)⟩
        have e2 : codeN = 2 := beq_t e2
        subst e2
        conv => whnf
        exact fine_yes _ _ fun h => ⟨cN, 2, 0, rfl, rfl, rfl, ⟨hcfg, by omega, by omega, hne, q8, hmost, fun _ => ⟨rfl, rfl⟩, fun h => absurd h (by omega), fun h => absurd h (by omega), fun _ => beq_t h, fun h => absurd h (by omega)⟩⟩
      · have g1 : 3 ≤ codeN := lt_f g1
        obtain rfl : codeN = 3 := by omega
        have hdw := durationW w0 cN hcfg
        have hcf := (cfg_facts cN hcfg).2.2
        have hmd : ss.length * dura cN ≤ 48 * 2880 := Nat.mul_le_mul q8 hcf
        conv => whnf
        refine Or.inl ?_
        conv => whnf
        refine ⟨fun h => absurd (beq_t h) (by omega), fun _ => ?_⟩
        conv => whnf
        refine ⟨fun h => absurd (beq_t h) (by omega), fun _ => ?_⟩
        conv => whnf
        refine ⟨fun h => absurd (beq_t h) (by omega), fun _ => ?_⟩
        conv => whnf
        refine ⟨fun v1 => ?_, fun v1 => ?_⟩
        · subst v1
          conv => whnf
          refine CallsA.lift (H0 := []) [] rfl trivial rfl hdw ?_
          rintro _ _ ⟨rfl, rfl⟩
          conv => whnf
          refine ⟨⟨⟨rfl, rfl⟩, trivial⟩, ?_⟩
          conv => whnf
          rw [nmul, nwrapi (n := ss.length * dura cN) (by omega)]
          exact fine_yes _ _ fun h => ⟨cN, 3, padN, rfl, rfl, rfl, ⟨hcfg, by omega, by omega, hne, q8, hmost, fun h => absurd h (by omega), fun h => absurd h (by omega), fun h => absurd h (by omega), fun h => absurd h (by omega), fun _ => ⟨fun h => (by cases h), le_t h⟩⟩⟩
        · subst v1
          rcases hc3 with ⟨rfl, h⟩ | ⟨sb, rfl, hsb⟩ | rfl
          · exact absurd h q7
          · conv => whnf
            refine ⟨fun g => ?_, fun _ => ?_⟩
            · conv => whnf
              refine CallsA.lift (H0 := []) [] rfl trivial rfl hdw ?_
              rintro _ _ ⟨rfl, rfl⟩
              conv => whnf
              refine ⟨⟨⟨rfl, rfl⟩, trivial⟩, ?_⟩
              conv => whnf
              rw [nmul, nwrapi (n := ss.length * dura cN) (by omega)]
              exact fine_yes _ _ fun h => ⟨cN, 3, padN, rfl, rfl, rfl, ⟨hcfg, by omega, by omega, hne, q8, hmost, fun h => absurd h (by omega), fun h => absurd h (by omega), fun h => absurd h (by omega), fun h => absurd h (by omega), fun _ => ⟨fun _ => hsame (hsb g), le_t h⟩⟩⟩
            · conv => whnf
              refine ⟨⟨trivial, trivial⟩, ?_⟩
              conv => whnf
              exact fine_no _
          · conv => whnf
            refine ⟨⟨trivial, trivial⟩, ?_⟩
            conv => whnf
            exact fine_no _
end Go.Proofs.YtknfakehijoogaaDoor
