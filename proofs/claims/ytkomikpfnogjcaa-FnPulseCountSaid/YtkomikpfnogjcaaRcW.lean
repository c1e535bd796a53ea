/- The laws' bounds on what came in. -/
import Derived.Test.YtkomikpfnogjcaaRcR
namespace Go.Proofs.Ytkomikpfnogjcaa
open Go Go.Vc
set_option maxRecDepth 100000
set_option maxHeartbeats 4000000

/-- An operation's numbers fit, and its table lies in memory. -/
structure OpV.fits (w0 : World) (o : OpV) : Prop where
  act1 : -9223372036854775808 ≤ o.act
  act2 : o.act < 9223372036854775808
  a32 : o.a < 4294967296
  b32 : o.b < 4294967296
  c32 : o.c < 4294967296
  v1 : -9223372036854775808 ≤ o.v
  v2 : o.v < 9223372036854775808
  tab : (o.tab = .slice none 0 0 ∧ o.rows = []) ∨ ∃ ta c, o.tab = .slice (some ta) o.rows.length c ∧ o.rows.length ≤ c ∧ c ≤ 9223372036854775807 ∧ ∀ (i x : Nat), o.rows[i]? = some x → x < 4294967296 ∧ w0.cell? (ta.add i) = some (.int .u32 x)
/-- A slice of operations that came in. -/
def opsAt (w0 : World) (v : Value) (l : List OpV) : Prop := (v = .slice none 0 0 ∧ l = []) ∨ ∃ a c, v = .slice (some a) l.length c ∧ l.length ≤ c ∧ c ≤ 9223372036854775807 ∧ ∀ (i : Nat) (x : OpV), l[i]? = some x → x.lies w0 (a.add (i * 6)) ∧ x.fits w0

theorem OpV.fits.one {w0 : World} {o : OpV} (h : o.fits w0) : o.tab.oneCell' = true := by
  rcases h.tab with ⟨h1, _⟩ | ⟨ta, c, h1, _⟩ <;> rw [h1] <;> rfl
theorem OpV.fits.len {w0 : World} {o : OpV} (h : o.fits w0) : o.rows.length ≤ 9223372036854775807 := by
  rcases h.tab with ⟨_, h1⟩ | ⟨ta, c, _, h1, h2, _⟩
  · rw [h1]; simp
  · omega

theorem zzFits3W (w0 : World) {o : OpV} (h : o.fits w0) : CallsA Try.prog w0 25 [.a o.cells] [] fun r H' => ∃ b : Bool, r = .o (.c (.val (.bool b))) ∧ H' = [] := by
  have hlen := h.len
  obtain ⟨act, oa, ob, oc, ov, otab, rows⟩ := o
  have ht := h.tab
  simp only at ht hlen
  refine callsA_of_ev c25_ ?_
  rcases ht with ⟨rfl, rfl⟩ | ⟨ta, c, rfl, _⟩
  · conv => whnf
    refine Or.inl ?_
    conv => whnf
    refine ⟨fun _ => ?_, fun _ => ?_⟩
    · conv => whnf
      exact Or.inr ⟨[], .o (.c (.val (.bool false))), [], ⟨rfl, trivial, rfl⟩, rfl, false, rfl, rfl⟩
    · conv => whnf
      exact Or.inr ⟨[], .o (.c (.val (.bool true))), [], ⟨rfl, trivial, rfl⟩, rfl, true, rfl, rfl⟩
  · conv => whnf
    refine Or.inl ?_
    conv => whnf
    refine ⟨fun _ => ?_, fun _ => ?_⟩
    · conv => whnf
      exact Or.inr ⟨[], .o (.c (.val (.bool false))), [], ⟨rfl, trivial, rfl⟩, rfl, false, rfl, rfl⟩
    · conv => whnf
      exact Or.inr ⟨[], .o (.c (.val (.bool true))), [], ⟨rfl, trivial, rfl⟩, rfl, true, rfl, rfl⟩
theorem boolT (b : Bool) : AV.ren [] (.o (.c (.val (.bool b)))) = .o (.c (.val (.bool b))) := rfl

theorem zzFits2W (w0 : World) {v : Value} {l : List OpV} (hv : opsAt w0 v l) (hl : l.length ≤ 9223372036854775807) : CallsA Try.prog w0 11 [.c (.val v)] [] fun r H' => ∃ b : Bool, r = .o (.c (.val (.bool b))) ∧ H' = [] ∧ (b = true → l.length ≤ 2147483647) := by
  refine callsA_of_ev c11_ ?_
  rcases hv with ⟨rfl, rfl⟩ | ⟨a, c, rfl, h1, h2, hb⟩
  · conv => whnf
    refine Or.inl ?_
    conv => whnf
    refine ⟨fun h => absurd (of_decide_eq_true h) (by decide), fun _ => ?_⟩
    conv => whnf
    refine Or.inl ?_
    conv => whnf
    refine ⟨Unit, fun _ => ⟨[(8, .o (.c (.val (.slice none 0 0)))), (9, .o (.c (.val (.int .i64 ((0 : Nat) : Int))))), (10, .o (.c (.val (.int .i64 ((0 : Nat) : Int)))))], []⟩, fun _ => 0, ⟨(), [], ⟨rfl, trivial, rfl⟩, rfl, rfl, rfl, trivial⟩, fun _ => ?_⟩
    conv => whnf
    refine ⟨fun h => absurd (lt_t h) (by omega), fun _ => ?_⟩
    conv => whnf
    exact Or.inl ⟨true, rfl, rfl, fun _ => by decide⟩
  · conv => whnf
    refine Or.inl ?_
    conv => whnf
    refine ⟨fun h => ?_, fun hz => ?_⟩
    · conv => whnf
      exact Or.inl ⟨false, rfl, rfl, (fun h => by cases h)⟩
    · have hz : l.length ≤ 2147483647 := gt_f hz
      conv => whnf
      refine Or.inl ?_
      conv => whnf
      refine ⟨_root_.Fin (l.length + 1), fun ⟨i, _⟩ => ⟨[(8, .o (.c (.val (.slice (some a) l.length c)))), (9, .o (.c (.val (.int .i64 l.length)))), (10, .o (.c (.val (.int .i64 i))))], []⟩, fun i => l.length - i.1, ⟨⟨0, by omega⟩, [], ⟨rfl, trivial, rfl⟩, rfl, rfl, rfl, trivial⟩, fun ⟨i, hi⟩ => ?_⟩
      conv => whnf
      refine ⟨fun h3 => ?_, fun h3 => ?_⟩
      · have h3 : i < l.length := lt_t h3
        obtain ⟨x, hx⟩ : ∃ x, l[i]? = some x := ⟨_, List.getElem?_eq_getElem h3⟩
        obtain ⟨⟨x0, x1, x2, x3, x4, x5, x6⟩, hfit⟩ := hb i x hx
        conv => whnf
        refine Or.inl ?_
        conv => whnf
        refine ⟨by omega, ?_⟩
        conv => whnf
        refine ⟨_, x0, rfl, ?_⟩
        conv => whnf
        refine ⟨_, x1, rfl, ?_⟩
        conv => whnf
        refine ⟨_, x2, rfl, ?_⟩
        conv => whnf
        refine ⟨_, x3, rfl, ?_⟩
        conv => whnf
        refine ⟨_, x4, rfl, ?_⟩
        conv => whnf
        refine ⟨_, x5, x6, ?_⟩
        conv => whnf
        refine CallsA.lift (H0 := []) [] rfl trivial rfl (zzFits3W w0 hfit) ?_
        rintro _ _ ⟨b, rfl, rfl⟩
        conv => whnf
        refine ⟨fun _ => ?_, fun _ => ?_⟩
        · conv => whnf
          exact Or.inr ⟨[], .o (.c (.val (.bool false))), [], ⟨rfl, trivial, rfl⟩, rfl, false, rfl, rfl, (fun h => by cases h)⟩
        · conv => whnf
          refine ⟨⟨i + 1, by omega⟩, ⟨[], ⟨rfl, trivial, rfl⟩, rfl, rfl, eq_i64 ?_, trivial⟩, ?_⟩
          · rw [nadd, nwrapi (by omega)]
          · show l.length - (i + 1) < l.length - i
            omega
      · conv => whnf
        exact Or.inl ⟨true, rfl, rfl, fun _ => hz⟩
end Go.Proofs.Ytkomikpfnogjcaa
