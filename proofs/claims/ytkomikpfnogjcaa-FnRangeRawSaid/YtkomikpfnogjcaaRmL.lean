/- The laws' bounds on what came in. -/
import Derived.Test.YtkomikpfnogjcaaRmB
import Derived.Deep.Slices
section
namespace Go.Proofs.Ytkomikpfnogjcaa
open Go Go.Vc
set_option maxRecDepth 100000
set_option maxHeartbeats 4000000

/-- An operation's numbers fit, and its table lies in memory. -/
structure OpV.fits (w0 : World) (o : OpV) : Prop where
  act1 : -9223372036854775808 ≤ o.act
  act2 : o.act < 9223372036854775808
  a32 : o.a < 4294967296
  b32 : o.b < 4294967296
  c32 : o.c < 4294967296
  v1 : -9223372036854775808 ≤ o.v
  v2 : o.v < 9223372036854775808
  tab : (o.tab = .slice none 0 0 ∧ o.rows = []) ∨ ∃ ta c, o.tab = .slice (some ta) o.rows.length c ∧ o.rows.length ≤ c ∧ c ≤ 9223372036854775807 ∧ ∀ (i x : Nat), o.rows[i]? = some x → x < 4294967296 ∧ w0.cell? (ta.add i) = some (.int .u32 x)
/-- A slice of operations that came in. -/
def opsAt (w0 : World) (v : Value) (l : List OpV) : Prop := (v = .slice none 0 0 ∧ l = []) ∨ ∃ a c, v = .slice (some a) l.length c ∧ l.length ≤ c ∧ c ≤ 9223372036854775807 ∧ ∀ (i : Nat) (x : OpV), l[i]? = some x → x.lies w0 (a.add (i * 6)) ∧ x.fits w0

theorem OpV.fits.one {w0 : World} {o : OpV} (h : o.fits w0) : o.tab.oneCell' = true := by
  rcases h.tab with ⟨h1, _⟩ | ⟨ta, c, h1, _⟩ <;> rw [h1] <;> rfl
theorem OpV.fits.len {w0 : World} {o : OpV} (h : o.fits w0) : o.rows.length ≤ 9223372036854775807 := by
  rcases h.tab with ⟨_, h1⟩ | ⟨ta, c, _, h1, h2, _⟩
  · rw [h1]; simp
  · omega

theorem zzFits3W (w0 : World) {o : OpV} (h : o.fits w0) : CallsA Try.prog w0 25 [.a o.cells] [] fun r H' => ∃ b : Bool, r = .o (.c (.val (.bool b))) ∧ H' = [] := by
  have hlen := h.len
  obtain ⟨act, oa, ob, oc, ov, otab, rows⟩ := o
  have ht := h.tab
  simp only at ht hlen
  refine callsA_of_ev c25_ ?_
  rcases ht with ⟨rfl, rfl⟩ | ⟨ta, c, rfl, _⟩
  · conv => whnf
    refine Or.inl ?_
    conv => whnf
    refine ⟨fun _ => ?_, fun _ => ?_⟩
    · conv => whnf
      exact Or.inr ⟨[], .o (.c (.val (.bool false))), [], ⟨rfl, trivial, rfl⟩, rfl, false, rfl, rfl⟩
    · conv => whnf
      exact Or.inr ⟨[], .o (.c (.val (.bool true))), [], ⟨rfl, trivial, rfl⟩, rfl, true, rfl, rfl⟩
  · conv => whnf
    refine Or.inl ?_
    conv => whnf
    refine ⟨fun _ => ?_, fun _ => ?_⟩
    · conv => whnf
      exact Or.inr ⟨[], .o (.c (.val (.bool false))), [], ⟨rfl, trivial, rfl⟩, rfl, false, rfl, rfl⟩
    · conv => whnf
      exact Or.inr ⟨[], .o (.c (.val (.bool true))), [], ⟨rfl, trivial, rfl⟩, rfl, true, rfl, rfl⟩
theorem boolT (b : Bool) : AV.ren [] (.o (.c (.val (.bool b)))) = .o (.c (.val (.bool b))) := rfl

theorem zzFits2W (w0 : World) {v : Value} {l : List OpV} (hv : opsAt w0 v l) (hl : l.length ≤ 9223372036854775807) : CallsA Try.prog w0 11 [.c (.val v)] [] fun r H' => ∃ b : Bool, r = .o (.c (.val (.bool b))) ∧ H' = [] ∧ (b = true → l.length ≤ 2147483647) := by
  refine callsA_of_ev c11_ ?_
  rcases hv with ⟨rfl, rfl⟩ | ⟨a, c, rfl, h1, h2, hb⟩
  · conv => whnf
    refine Or.inl ?_
    conv => whnf
    refine ⟨fun h => absurd (of_decide_eq_true h) (by decide), fun _ => ?_⟩
    conv => whnf
    refine Or.inl ?_
    conv => whnf
    refine ⟨Unit, fun _ => ⟨[(8, .o (.c (.val (.slice none 0 0)))), (9, .o (.c (.val (.int .i64 ((0 : Nat) : Int))))), (10, .o (.c (.val (.int .i64 ((0 : Nat) : Int)))))], []⟩, fun _ => 0, ⟨(), [], ⟨rfl, trivial, rfl⟩, rfl, rfl, rfl, trivial⟩, fun _ => ?_⟩
    conv => whnf
    refine ⟨fun h => absurd (lt_t h) (by omega), fun _ => ?_⟩
    conv => whnf
    exact Or.inl ⟨true, rfl, rfl, fun _ => by decide⟩
  · conv => whnf
    refine Or.inl ?_
    conv => whnf
    refine ⟨fun h => ?_, fun hz => ?_⟩
    · conv => whnf
      exact Or.inl ⟨false, rfl, rfl, (fun h => by cases h)⟩
    · have hz : l.length ≤ 2147483647 := gt_f hz
      conv => whnf
      refine Or.inl ?_
      conv => whnf
      refine ⟨_root_.Fin (l.length + 1), fun ⟨i, _⟩ => ⟨[(8, .o (.c (.val (.slice (some a) l.length c)))), (9, .o (.c (.val (.int .i64 l.length)))), (10, .o (.c (.val (.int .i64 i))))], []⟩, fun i => l.length - i.1, ⟨⟨0, by omega⟩, [], ⟨rfl, trivial, rfl⟩, rfl, rfl, rfl, trivial⟩, fun ⟨i, hi⟩ => ?_⟩
      conv => whnf
      refine ⟨fun h3 => ?_, fun h3 => ?_⟩
      · have h3 : i < l.length := lt_t h3
        obtain ⟨x, hx⟩ : ∃ x, l[i]? = some x := ⟨_, List.getElem?_eq_getElem h3⟩
        obtain ⟨⟨x0, x1, x2, x3, x4, x5, x6⟩, hfit⟩ := hb i x hx
        conv => whnf
        refine Or.inl ?_
        conv => whnf
        refine ⟨by omega, ?_⟩
        conv => whnf
        refine ⟨_, x0, rfl, ?_⟩
        conv => whnf
        refine ⟨_, x1, rfl, ?_⟩
        conv => whnf
        refine ⟨_, x2, rfl, ?_⟩
        conv => whnf
        refine ⟨_, x3, rfl, ?_⟩
        conv => whnf
        refine ⟨_, x4, rfl, ?_⟩
        conv => whnf
        refine ⟨_, x5, x6, ?_⟩
        conv => whnf
        refine CallsA.lift (H0 := []) [] rfl trivial rfl (zzFits3W w0 hfit) ?_
        rintro _ _ ⟨b, rfl, rfl⟩
        conv => whnf
        refine ⟨fun _ => ?_, fun _ => ?_⟩
        · conv => whnf
          exact Or.inr ⟨[], .o (.c (.val (.bool false))), [], ⟨rfl, trivial, rfl⟩, rfl, false, rfl, rfl, (fun h => by cases h)⟩
        · conv => whnf
          refine ⟨⟨i + 1, by omega⟩, ⟨[], ⟨rfl, trivial, rfl⟩, rfl, rfl, eq_i64 ?_, trivial⟩, ?_⟩
          · rw [nadd, nwrapi (by omega)]
          · show l.length - (i + 1) < l.length - i
            omega
      · conv => whnf
        exact Or.inl ⟨true, rfl, rfl, fun _ => hz⟩
end Go.Proofs.Ytkomikpfnogjcaa
end
section
namespace Go.Proofs.Ytkomikpfnogjcaa
open Go Go.Vc
set_option maxRecDepth 100000
set_option maxHeartbeats 4000000

/-- Sums that never fall. -/
def rising (rest : List Nat) (i : Nat) : Prop := ∀ j, j + 1 < i → rest.getD j 0 ≤ rest.getD (j + 1) 0
/-- What 'tabled' lets in. -/
structure TabFine (rows : List Nat) (total : Nat) (rest : List Nat) : Prop where
  cons : rows = total :: rest
  ok : TabOk total rest
  t2 : 2 ≤ total
  t256 : total ≤ 256
  len : rest.length ≤ 63
  rise : rising rest rest.length
  last : tabLow rest rest.length = total

theorem tabFine_of {total : Nat} {rest : List Nat} (h1 : 1 ≤ rest.length) (h2 : rest.length ≤ 63) (t2 : 2 ≤ total) (t256 : total ≤ 256) (hr : rising rest rest.length) (hl : tabLow rest rest.length = total) : TabFine (total :: rest) total rest := by
  have hl' : rest.getD (rest.length - 1) 0 = total := by
    unfold tabLow at hl
    rw [if_neg (by omega)] at hl
    exact hl
  have up : ∀ k j, j + k < rest.length → rest.getD j 0 ≤ rest.getD (j + k) 0 := by
    intro k
    induction k with
    | zero => intro j _; exact Nat.le_refl _
    | succ k ih =>
      intro j hj
      exact Nat.le_trans (ih j (by omega)) (hr (j + k) (by omega))
  refine ⟨rfl, ⟨by omega, by omega, ?_, ?_, by omega⟩, t2, t256, h2, hr, hl⟩
  · intro x hx
    obtain ⟨j, hj, rfl⟩ := List.getElem_of_mem hx
    have := up (rest.length - 1 - j) j (by omega)
    rw [show j + (rest.length - 1 - j) = rest.length - 1 by omega, hl'] at this
    rw [List.getD_eq_getElem?_getD, List.getElem?_eq_getElem hj] at this
    exact this
  · have hm : rest.length - 1 < rest.length := by omega
    rw [List.getD_eq_getElem?_getD, List.getElem?_eq_getElem hm] at hl'
    have : rest[rest.length - 1] = total := hl'
    rw [← this]
    exact List.getElem_mem hm

theorem tabledW (w0 : World) {o : OpV} (h : o.fits w0) : CallsA Try.prog w0 76 [.c (.val o.tab)] [] fun r H' => ∃ b : Bool, r = .o (.c (.val (.bool b))) ∧ H' = [] ∧ (b = true → ∃ total rest, TabFine o.rows total rest) := by
  obtain ⟨act, oa, ob, oc, ov, otab, rows⟩ := o
  have ht := h.tab
  simp only at ht
  refine callsA_of_ev c76_ ?_
  rcases ht with ⟨rfl, rfl⟩ | ⟨ta, c, rfl, hc1, hc2, hcell⟩
  · conv => whnf
    refine Or.inl ?_
    conv => whnf
    refine ⟨fun _ => ?_, fun h => absurd (lt_f h) (by omega)⟩
    conv => whnf
    exact Or.inl ⟨false, rfl, rfl, (fun h => by cases h)⟩
  · conv => whnf
    refine Or.inl ?_
    conv => whnf
    refine ⟨fun h1 => ?_, fun h1 => ?_⟩
    · conv => whnf
      exact Or.inl ⟨false, rfl, rfl, (fun h => by cases h)⟩
    · have h1 : 2 ≤ rows.length := lt_f h1
      obtain ⟨total, rest, rfl⟩ : ∃ t r, rows = t :: r := by
        cases rows with
        | nil => simp only [List.length_nil] at h1; omega
        | cons t r => exact ⟨t, r, rfl⟩
      simp only [List.length_cons] at h1 hc1
      obtain ⟨ht32, hct⟩ := hcell 0 total rfl
      have hrest : ∀ (i x : Nat), rest[i]? = some x → x < 4294967296 ∧ w0.cell? ((if c = 1 then ta else ta.add (1 * 1)).add i) = some (Value.int IntKind.u32 ↑x) := by
        intro i x hx
        rw [if_neg (by omega), Deep.add_add, Nat.add_comm]
        exact hcell (i + 1) x hx
      conv => whnf
      refine ⟨fun h2 => ?_, fun h2 => ?_⟩
      · conv => whnf
        exact Or.inl ⟨false, rfl, rfl, (fun h => by cases h)⟩
      · have h2 : (total :: rest).length ≤ 64 := gt_f h2
        simp only [List.length_cons] at h2
        conv => whnf
        refine ⟨by simp only [List.length_cons]; omega, ?_⟩
        conv => whnf
        refine ⟨_, hct, rfl, ?_⟩
        conv => whnf
        refine Or.inl ?_
        conv => whnf
        refine ⟨⟨by omega, by simp only [List.length_cons]; omega, by simp only [List.length_cons]; omega⟩, ?_⟩
        conv => whnf
        refine ⟨{i : Nat // i ≤ rest.length ∧ rising rest i}, fun ⟨i, _⟩ => ⟨[(3, .o (.c (.val (.int .u32 total)))), (4, .o (.c (.val (.int .u32 (tabLow rest i : Nat))))), (19, .o (.c (.val (.slice (some (if c = 1 then ta else ta.add (1 * 1))) rest.length (c - 1))))), (20, .o (.c (.val (.int .i64 rest.length)))), (21, .o (.c (.val (.int .i64 i))))], []⟩, fun i => rest.length - i.1, ⟨⟨0, by omega, (fun j hj => by omega)⟩, [], ⟨rfl, trivial, rfl⟩, rfl, rfl, rfl, rfl, rfl, trivial⟩, fun ⟨i, hi, hri⟩ => ?_⟩
        conv => whnf
        refine ⟨fun h3 => ?_, fun h3 => ?_⟩
        · have h3 : i < rest.length := lt_t h3
          obtain ⟨x, hx⟩ : ∃ x, rest[i]? = some x := ⟨_, List.getElem?_eq_getElem h3⟩
          obtain ⟨x32, x0⟩ := hrest i x hx
          have x0' : w0.cell? (((if c = 1 then ta else ta.add (1 * 1)).add (i * 1)).add 0) = some (Value.int IntKind.u32 ↑x) := by
            rw [Deep.add_add, show i * 1 + 0 = i by omega]
            exact x0
          conv => whnf
          refine Or.inl ?_
          conv => whnf
          refine ⟨by omega, ?_⟩
          conv => whnf
          refine ⟨_, x0', rfl, ?_⟩
          conv => whnf
          refine Or.inl ?_
          conv => whnf
          refine ⟨fun h4 => ?_, fun h4 => ?_⟩
          · conv => whnf
            exact Or.inl ⟨false, rfl, rfl, (fun h => by cases h)⟩
          · have h4 : tabLow rest i ≤ x := lt_f h4
            have hx' : rest.getD i 0 = x := by rw [List.getD_eq_getElem?_getD, hx]; rfl
            have ri : rising rest (i + 1) := by
              intro j hj
              rcases Nat.lt_or_ge (j + 1) i with h | h
              · exact hri j h
              · obtain rfl : i = j + 1 := by omega
                unfold tabLow at h4
                rw [if_neg (by omega)] at h4
                rw [hx']
                exact h4
            conv => whnf
            refine ⟨⟨i + 1, by omega, ri⟩, ⟨[], ⟨rfl, trivial, rfl⟩, rfl, eq_u32 ?_, rfl, rfl, eq_i64 ?_, trivial⟩, ?_⟩
            · show (x : Int) = (tabLow rest (i + 1) : Nat)
              unfold tabLow
              rw [if_neg (by omega), Nat.add_sub_cancel, hx']
            · rw [nadd, nwrapi (by omega)]
            · show rest.length - (i + 1) < rest.length - i
              omega
        · have h3 : rest.length ≤ i := lt_f h3
          obtain rfl : i = rest.length := by omega
          conv => whnf
          refine ⟨fun h4 => ?_, fun h4 => ?_⟩
          · have h4 : 2 ≤ total := ge_t h4
            conv => whnf
            refine ⟨fun h5 => ?_, fun h5 => ?_⟩
            · have h5 : total ≤ 256 := le_t h5
              conv => whnf
              refine ⟨fun h6 => ?_, fun h6 => ?_⟩
              · conv => whnf
                exact Or.inl ⟨_, rfl, rfl, fun h7 => ⟨total, rest, tabFine_of (by omega) (by omega) h4 h5 hri (beq_t h7)⟩⟩
              · conv => whnf
                exact Or.inl ⟨false, rfl, rfl, (fun h => by cases h)⟩
            · conv => whnf
              exact Or.inl ⟨false, rfl, rfl, (fun h => by cases h)⟩
          · conv => whnf
            exact Or.inl ⟨false, rfl, rfl, (fun h => by cases h)⟩
end Go.Proofs.Ytkomikpfnogjcaa
end
section
namespace Go.Proofs.Ytkomikpfnogjcaa
open Go Go.Vc
set_option maxRecDepth 100000
set_option maxHeartbeats 4000000


/-- Parts of a total, and Laplace's, as 'valid' lets them in. -/
theorem validW (w0 : World) {o : OpV} (_h : o.fits w0) (hk : o.act ≠ 1 ∧ o.act ≠ 2 ∧ o.act ≠ 3 ∧ o.act ≠ 4) : CallsA Try.prog w0 52 [.a o.cells] [] fun r H' => ∃ b : Bool, r = .o (.c (.val (.bool b))) ∧ H' = [] ∧ (b = true → (o.act = 0 ∧ o.a < o.b ∧ o.b ≤ o.c ∧ 2 ≤ o.c ∧ o.c ≤ 65535) ∨ (o.act = 5 ∧ 1 ≤ o.a ∧ o.a < 32000 ∧ o.b < 16000 ∧ -60 < o.v ∧ o.v < 60)) := by
  obtain ⟨act, oa, ob, oc, ov, otab, rows⟩ := o
  obtain ⟨k1, k2, k3, k4⟩ := hk
  simp only at k1 k2 k3 k4
  refine callsA_of_ev c52_ ?_
  conv => whnf
  refine Or.inl ?_
  conv => whnf
  refine ⟨fun h0 => ?_, fun h0 => ?_⟩
  · have h0 : act = 0 := ieq_t h0
    conv => whnf
    refine ⟨fun h1 => ?_, fun _ => ?_⟩
    · have h1 : oa < ob := lt_t h1
      conv => whnf
      refine ⟨fun h2 => ?_, fun _ => ?_⟩
      · have h2 : ob ≤ oc := le_t h2
        conv => whnf
        refine ⟨fun h3 => ?_, fun _ => ?_⟩
        · have h3 : 2 ≤ oc := ge_t h3
          conv => whnf
          exact Or.inr ⟨[], .o (.c (.val (.bool _))), [], ⟨rfl, trivial, rfl⟩, rfl, _, rfl, rfl, fun h4 => Or.inl ⟨h0, h1, h2, h3, le_t h4⟩⟩
        · conv => whnf
          exact Or.inr ⟨[], .o (.c (.val (.bool false))), [], ⟨rfl, trivial, rfl⟩, rfl, false, rfl, rfl, (fun h => by cases h)⟩
      · conv => whnf
        exact Or.inr ⟨[], .o (.c (.val (.bool false))), [], ⟨rfl, trivial, rfl⟩, rfl, false, rfl, rfl, (fun h => by cases h)⟩
    · conv => whnf
      exact Or.inr ⟨[], .o (.c (.val (.bool false))), [], ⟨rfl, trivial, rfl⟩, rfl, false, rfl, rfl, (fun h => by cases h)⟩
  · conv => whnf
    refine ⟨fun h => absurd (ieq_t h) k1, fun _ => ?_⟩
    conv => whnf
    refine ⟨fun h => absurd (ieq_t h) k2, fun _ => ?_⟩
    conv => whnf
    refine ⟨fun h => absurd (ieq_t h) k3, fun _ => ?_⟩
    conv => whnf
    refine ⟨fun h => absurd (ieq_t h) k4, fun _ => ?_⟩
    conv => whnf
    refine ⟨fun h5 => ?_, fun _ => ?_⟩
    · have h5 : act = 5 := ieq_t h5
      conv => whnf
      refine ⟨fun h1 => ?_, fun _ => ?_⟩
      · have h1 : 1 ≤ oa := ge_t h1
        conv => whnf
        refine ⟨fun h2 => ?_, fun _ => ?_⟩
        · have h2 : oa < 32000 := lt_t h2
          conv => whnf
          refine ⟨fun h3 => ?_, fun _ => ?_⟩
          · have h3 : ob < 16000 := lt_t h3
            conv => whnf
            refine ⟨fun h4 => ?_, fun _ => ?_⟩
            · have h4 : -60 < ov := of_decide_eq_true h4
              conv => whnf
              exact Or.inr ⟨[], .o (.c (.val (.bool _))), [], ⟨rfl, trivial, rfl⟩, rfl, _, rfl, rfl, fun h6 => Or.inr ⟨h5, h1, h2, h3, h4, of_decide_eq_true h6⟩⟩
            · conv => whnf
              exact Or.inr ⟨[], .o (.c (.val (.bool false))), [], ⟨rfl, trivial, rfl⟩, rfl, false, rfl, rfl, (fun h => by cases h)⟩
          · conv => whnf
            exact Or.inr ⟨[], .o (.c (.val (.bool false))), [], ⟨rfl, trivial, rfl⟩, rfl, false, rfl, rfl, (fun h => by cases h)⟩
        · conv => whnf
          exact Or.inr ⟨[], .o (.c (.val (.bool false))), [], ⟨rfl, trivial, rfl⟩, rfl, false, rfl, rfl, (fun h => by cases h)⟩
      · conv => whnf
        exact Or.inr ⟨[], .o (.c (.val (.bool false))), [], ⟨rfl, trivial, rfl⟩, rfl, false, rfl, rfl, (fun h => by cases h)⟩
    · conv => whnf
      exact Or.inr ⟨[], .o (.c (.val (.bool false))), [], ⟨rfl, trivial, rfl⟩, rfl, false, rfl, rfl, (fun h => by cases h)⟩
/-- What 'readable' lets in. -/
def OpV.reads (o : OpV) : Prop := (o.act = 0 ∧ o.a < o.b ∧ o.b ≤ o.c ∧ 2 ≤ o.c ∧ o.c ≤ 65535) ∨ (o.act = 1 ∧ 1 ≤ o.a ∧ o.a ≤ 15) ∨ (o.act = 2 ∧ ∃ total rest, TabFine o.rows total rest) ∨ (o.act = 3 ∧ 2 ≤ o.a) ∨ (o.act = 4 ∧ o.a ≤ 25) ∨
  (o.act = 5 ∧ 1 ≤ o.a ∧ o.a < 32000 ∧ o.b < 16000 ∧ -60 < o.v ∧ o.v < 60) ∨ (o.act = 6 ∧ o.a < 1048576)
theorem OpV.reads.good {w0 : World} {o : OpV} (h : o.reads) (hf : o.fits w0) : o.good w0 := by
  refine ⟨hf.a32, hf.b32, hf.c32, ?_⟩
  rcases h with ⟨e, h1, h2, h3, h4⟩ | ⟨e, h1, h2⟩ | ⟨e, total, rest, h1⟩ | ⟨e, h1⟩ | ⟨e, h1⟩ | ⟨e, h1, h2, h3, _⟩ | ⟨e, h1⟩
  · exact Or.inl ⟨e, by omega, by omega, by omega⟩
  · exact Or.inr (Or.inl ⟨e, h1, h2⟩)
  · refine Or.inr (Or.inr (Or.inl ⟨e, total, rest, ?_⟩))
    rcases hf.tab with ⟨_, h2⟩ | ⟨ta, c, h2, _, _, h3⟩
    · have := h1.cons
      rw [h2] at this
      cases this
    · exact ⟨ta, c, h1.cons, h1.ok, h2, h3⟩
  · exact Or.inr (Or.inr (Or.inr (Or.inl ⟨e, h1⟩)))
  · exact Or.inr (Or.inr (Or.inr (Or.inr (Or.inl ⟨e, by omega⟩))))
  · exact Or.inr (Or.inr (Or.inr (Or.inr (Or.inr (Or.inl ⟨e, by omega, by omega, by omega⟩)))))
  · exact Or.inr (Or.inr (Or.inr (Or.inr (Or.inr (Or.inr e)))))
theorem readableW (w0 : World) {o : OpV} (h : o.fits w0) (n : Int) : CallsA Try.prog w0 26 [.a o.cells, .c (.val (.int .i64 n))] [] fun r H' => ∃ b : Bool, r = .o (.c (.val (.bool b))) ∧ H' = [] ∧ (b = true → o.reads ∧ (o.act = 6 → (o.a : Int) ≤ n)) := by
  obtain ⟨act, oa, ob, oc, ov, otab, rows⟩ := o
  have a32 := h.a32
  simp only at a32
  refine callsA_of_ev c26_ ?_
  conv => whnf
  refine Or.inl ?_
  conv => whnf
  refine ⟨fun h0 => ?_, fun h0 => ?_⟩
  · have h0 : act = 3 := ieq_t h0
    conv => whnf
    exact Or.inr ⟨[], .o (.c (.val (.bool _))), [], ⟨rfl, trivial, rfl⟩, rfl, _, rfl, rfl, fun h1 => ⟨Or.inr (Or.inr (Or.inr (Or.inl ⟨h0, ge_t h1⟩))), fun h => by subst h0; cases h⟩⟩
  · have h0 : act ≠ 3 := ieq_f h0
    conv => whnf
    refine ⟨fun h1 => ?_, fun h1 => ?_⟩
    · have h1 : act = 4 := ieq_t h1
      conv => whnf
      exact Or.inr ⟨[], .o (.c (.val (.bool _))), [], ⟨rfl, trivial, rfl⟩, rfl, _, rfl, rfl, fun h2 => ⟨Or.inr (Or.inr (Or.inr (Or.inr (Or.inl ⟨h1, le_t h2⟩)))), fun h => by subst h1; cases h⟩⟩
    · have h1 : act ≠ 4 := ieq_f h1
      conv => whnf
      refine ⟨fun h2 => ?_, fun h2 => ?_⟩
      · have h2 : act = 6 := ieq_t h2
        conv => whnf
        refine ⟨fun h3 => ?_, fun h3 => ?_⟩
        · have h3 : IntKind.i64.wrap (oa : Int) ≤ n := of_decide_eq_true h3
          rw [nwrapi (by omega)] at h3
          conv => whnf
          exact Or.inr ⟨[], .o (.c (.val (.bool _))), [], ⟨rfl, trivial, rfl⟩, rfl, _, rfl, rfl, fun h4 => ⟨Or.inr (Or.inr (Or.inr (Or.inr (Or.inr (Or.inr ⟨h2, lt_t h4⟩))))), fun _ => h3⟩⟩
        · conv => whnf
          exact Or.inr ⟨[], .o (.c (.val (.bool false))), [], ⟨rfl, trivial, rfl⟩, rfl, false, rfl, rfl, (fun h => by cases h)⟩
      · have h2 : act ≠ 6 := ieq_f h2
        conv => whnf
        refine ⟨fun h3 => ?_, fun h3 => ?_⟩
        · have h3 : act = 2 := ieq_t h3
          conv => whnf
          refine CallsA.lift (H0 := []) [] rfl trivial rfl (tabledW w0 h) ?_
          rintro _ _ ⟨b, rfl, rfl, hb⟩
          conv => whnf
          exact Or.inr ⟨[], .o (.c (.val (.bool _))), [], ⟨rfl, trivial, rfl⟩, rfl, _, rfl, rfl, fun h4 => ⟨Or.inr (Or.inr (Or.inl ⟨h3, hb h4⟩)), fun h => by subst h3; cases h⟩⟩
        · have h3 : act ≠ 2 := ieq_f h3
          conv => whnf
          refine ⟨fun h4 => ?_, fun h4 => ?_⟩
          · have h4 : act = 1 := ieq_t h4
            conv => whnf
            refine ⟨fun h5 => ?_, fun h5 => ?_⟩
            · have h5 : 1 ≤ oa := ge_t h5
              conv => whnf
              exact Or.inr ⟨[], .o (.c (.val (.bool _))), [], ⟨rfl, trivial, rfl⟩, rfl, _, rfl, rfl, fun h6 => ⟨Or.inr (Or.inl ⟨h4, h5, le_t h6⟩), fun h => by subst h4; cases h⟩⟩
            · conv => whnf
              exact Or.inr ⟨[], .o (.c (.val (.bool false))), [], ⟨rfl, trivial, rfl⟩, rfl, false, rfl, rfl, (fun h => by cases h)⟩
          · have h4 : act ≠ 1 := ieq_f h4
            conv => whnf
            refine CallsA.lift (H0 := []) [] rfl trivial rfl (validW w0 h ⟨h4, h3, h0, h1⟩) ?_
            rintro _ _ ⟨b, rfl, rfl, hb⟩
            conv => whnf
            refine Or.inr ⟨[], .o (.c (.val (.bool _))), [], ⟨rfl, trivial, rfl⟩, rfl, _, rfl, rfl, fun h5 => ⟨?_, fun h => absurd h h2⟩⟩
            rcases hb h5 with h6 | h6
            · exact Or.inl h6
            · exact Or.inr (Or.inr (Or.inr (Or.inr (Or.inr (Or.inl h6)))))
end Go.Proofs.Ytkomikpfnogjcaa
end
section
namespace Go.Proofs.Ytkomikpfnogjcaa
open Go Go.Vc
set_option maxRecDepth 100000
set_option maxHeartbeats 4000000

theorem readW (w0 : World) {v : Value} {l : List OpV} (hv : opsAt w0 v l) (n most : Nat) (hl : l.length ≤ 9223372036854775807) : CallsA Try.prog w0 12 [.c (.val v), .c (.val (.int .i64 n)), .c (.val (.int .i64 most))] [] fun r H' => ∃ b : Bool, r = .o (.c (.val (.bool b))) ∧ H' = [] ∧ (b = true → l.length ≤ most ∧ ∀ o ∈ l, o.reads) := by
  refine callsA_of_ev c12_ ?_
  rcases hv with ⟨rfl, rfl⟩ | ⟨a, c, rfl, hc1, hc2, hb⟩
  · conv => whnf
    refine Or.inl ?_
    conv => whnf
    refine ⟨Unit, fun _ => ⟨[(0, .o (.c (.val (.slice none 0 0)))), (2, .o (.c (.val (.int .i64 most)))), (9, .o (.c (.val (.slice none 0 0)))), (10, .o (.c (.val (.int .i64 ((0 : Nat) : Int))))), (11, .o (.c (.val (.int .i64 ((0 : Nat) : Int)))))], []⟩, fun _ => 0, ⟨(), [], ⟨rfl, trivial, rfl⟩, rfl, rfl, rfl, rfl, rfl, trivial⟩, fun _ => ?_⟩
    conv => whnf
    refine ⟨fun h => absurd (lt_t h) (by omega), fun _ => ?_⟩
    conv => whnf
    exact Or.inl ⟨_, rfl, rfl, fun _ => ⟨Nat.zero_le _, fun o ho => absurd ho (by simp)⟩⟩
  · conv => whnf
    refine Or.inl ?_
    conv => whnf
    refine ⟨{p : Nat × Int // p.1 ≤ l.length ∧ ∀ j o, j < p.1 → l[j]? = some o → o.reads}, fun ⟨(i, m), _⟩ => ⟨[(0, .o (.c (.val (.slice (some a) l.length c)))), (1, .o (.c (.val (.int .i64 m)))), (2, .o (.c (.val (.int .i64 most)))), (9, .o (.c (.val (.slice (some a) l.length c)))), (10, .o (.c (.val (.int .i64 l.length)))), (11, .o (.c (.val (.int .i64 i))))], []⟩, fun p => l.length - p.1.1, ⟨⟨(0, n), by simp, (fun j o hj => by cases hj)⟩, [], ⟨rfl, trivial, rfl⟩, rfl, rfl, rfl, rfl, rfl, rfl, trivial⟩, fun ⟨(i, m), hi, hri⟩ => ?_⟩
    simp only at hi hri
    conv => whnf
    refine ⟨fun h3 => ?_, fun h3 => ?_⟩
    · have h3 : i < l.length := lt_t h3
      obtain ⟨x, hx⟩ : ∃ x, l[i]? = some x := ⟨_, List.getElem?_eq_getElem h3⟩
      obtain ⟨⟨x0, x1, x2, x3, x4, x5, x6⟩, hfit⟩ := hb i x hx
      have a32 := hfit.a32
      conv => whnf
      refine Or.inl ?_
      conv => whnf
      refine ⟨by omega, ?_⟩
      conv => whnf
      refine ⟨_, x0, rfl, ?_⟩
      conv => whnf
      refine ⟨_, x1, rfl, ?_⟩
      conv => whnf
      refine ⟨_, x2, rfl, ?_⟩
      conv => whnf
      refine ⟨_, x3, rfl, ?_⟩
      conv => whnf
      refine ⟨_, x4, rfl, ?_⟩
      conv => whnf
      refine ⟨_, x5, x6, ?_⟩
      conv => whnf
      refine Or.inl ?_
      conv => whnf
      refine CallsA.lift (H0 := []) [] rfl trivial rfl (readableW w0 hfit m) ?_
      rintro _ _ ⟨b, rfl, rfl, hr⟩
      conv => whnf
      refine ⟨fun _ => ?_, fun h4 => ?_⟩
      · conv => whnf
        exact Or.inr ⟨[], .o (.c (.val (.bool false))), [], ⟨rfl, trivial, rfl⟩, rfl, false, rfl, rfl, (fun h => by cases h)⟩
      · obtain ⟨hr1, _⟩ := hr (by cases b <;> first | rfl | cases h4)
        have hrs : ∀ j o, j < i + 1 → l[j]? = some o → o.reads := by
          intro j o hj ho
          rcases Nat.lt_or_ge j i with h | h
          · exact hri j o h ho
          · obtain rfl : j = i := by omega
            rw [hx] at ho
            cases ho
            exact hr1
        conv => whnf
        refine ⟨fun h5 => ?_, fun h5 => ?_⟩
        · conv => whnf
          refine ⟨⟨(i + 1, (x.a : Int)), by show i + 1 ≤ l.length; omega, hrs⟩, ⟨[], ⟨rfl, trivial, rfl⟩, rfl, eq_i64 (nwrapi (by omega)), rfl, rfl, rfl, eq_i64 ?_, trivial⟩, ?_⟩
          · rw [nadd, nwrapi (by omega)]
          · show l.length - (i + 1) < l.length - i
            omega
        · conv => whnf
          refine ⟨⟨(i + 1, m), by show i + 1 ≤ l.length; omega, hrs⟩, ⟨[], ⟨rfl, trivial, rfl⟩, rfl, rfl, rfl, rfl, rfl, eq_i64 ?_, trivial⟩, ?_⟩
          · rw [nadd, nwrapi (by omega)]
          · show l.length - (i + 1) < l.length - i
            omega
    · have h3 : l.length ≤ i := lt_f h3
      conv => whnf
      refine Or.inl ⟨_, rfl, rfl, fun h4 => ⟨le_t h4, fun o ho => ?_⟩⟩
      obtain ⟨j, hj, rfl⟩ := List.getElem_of_mem ho
      exact hri j _ (by omega) (List.getElem?_eq_getElem hj)
end Go.Proofs.Ytkomikpfnogjcaa
end
