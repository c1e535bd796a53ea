/- Reading by a script: what it does. -/
import Derived.Test.YtkomikpfnogjcaaRcO
namespace Go.Proofs.Ytkomikpfnogjcaa
open Go Go.Vc
set_option maxRecDepth 100000

structure SeenV where
  value : Int
  fine : Bool
  rng : Nat
  tell : Nat
  frac : Nat
  left : Int
def SeenV.cells (s : SeenV) : List CV := [.val (.int .i64 s.value), .val (.bool s.fine), .val (.int .u32 s.rng), .val (.int .u32 s.tell), .val (.int .u32 s.frac), .val (.int .i64 s.left)]
def encSeen : Enc SeenV := ⟨fun _ o => o.cells, fun _ _ _ _ _ _ => rfl⟩

/-- What an operation reads, and the decoder behind it. -/
def Dec.act (d : Dec) (o : OpV) : Int × Bool × Dec :=
  if o.act = 0 then ((d.at o.c : Nat), true, if o.a ≤ d.at o.c ∧ d.at o.c < o.b then (d.cut (d.rng / o.c) o.a o.b o.c).norm else d.uni o.c)
  else if o.act = 1 then (((d.logp o.a).1 : Nat), true, (d.logp o.a).2)
  else if o.act = 2 then (((d.icdf (o.rows.getD 0 0) o.rows.tail).1 : Nat), true, (d.icdf (o.rows.getD 0 0) o.rows.tail).2)
  else if o.act = 3 then (((d.whole o.a).1 : Nat), (d.whole o.a).2.1, (d.whole o.a).2.2)
  else if o.act = 4 then ((d.raw o.a : Nat), true, d.rawOn o.a)
  else if o.act = 5 then ((d.lapl o.a o.b).1, true, (d.lapl o.a o.b).2)
  else (0, true, d.size o.a)
def Dec.told (d : Dec) (value : Int) (fine : Bool) : SeenV := ⟨value, fine, d.rng, d.tell % 4294967296, d.frac % 4294967296, ((d.data.length * 8 : Nat) : Int) - (d.br : Int) - (d.rb : Int)⟩
def Dec.tells (d : Dec) (o : OpV) : SeenV := (d.act o).2.2.told (d.act o).1 (d.act o).2.1
def Dec.after (d : Dec) : List OpV → Dec
  | [] => d
  | o :: r => (d.act o).2.2.after r
def Dec.seen (d : Dec) : List OpV → List SeenV
  | [] => []
  | o :: r => d.tells o :: (d.act o).2.2.seen r

/-- An operation can be carried out. -/
structure OpV.good (w0 : World) (o : OpV) : Prop where
  a32 : o.a < 4294967296
  b32 : o.b < 4294967296
  c32 : o.c < 4294967296
  kind : (o.act = 0 ∧ 1 ≤ o.c ∧ o.c ≤ 65535 ∧ o.b ≤ o.c) ∨ (o.act = 1 ∧ 1 ≤ o.a ∧ o.a ≤ 15) ∨
    (o.act = 2 ∧ ∃ total rest ta c, o.rows = total :: rest ∧ TabOk total rest ∧ o.tab = .slice (some ta) o.rows.length c ∧ ∀ (i x : Nat), o.rows[i]? = some x → x < 4294967296 ∧ w0.cell? (ta.add i) = some (.int .u32 x)) ∨
    (o.act = 3 ∧ 2 ≤ o.a) ∨ (o.act = 4 ∧ o.a ≤ 32) ∨ (o.act = 5 ∧ 1 ≤ o.a ∧ o.a ≤ 32000 ∧ o.b ≤ 16000) ∨ o.act = 6

theorem Dec.act_inv {w0 : World} {d : Dec} {N : Nat} (h : d.inv N) (hN : N ≤ 1152921504606846900) {o : OpV} (ho : o.good w0) : (d.act o).2.2.inv (N + 64) := by
  have up : ∀ {e : Dec} {M : Nat}, e.inv M → M ≤ N + 64 → e.inv (N + 64) := fun he hM => ⟨he.bytes, he.len, he.br, Nat.le_trans he.nb hM, Nat.le_trans he.rb hM, he.lo, he.hi, he.val⟩
  unfold Dec.act
  rcases ho.kind with ⟨e, h1, h2, h3⟩ | ⟨e, h1, h2⟩ | ⟨e, total, rest, ta, c, hr, ht, _⟩ | ⟨e, h1⟩ | ⟨e, h1⟩ | ⟨e, h1, h2, h3⟩ | e
  · rw [e, if_pos rfl]
    simp only
    split
    · rename_i hc
      exact up (Dec.cut_inv h (by omega) h1 (by omega) hc.1 hc.2 h3).1 (by omega)
    · exact up (d.uni_inv h (by omega) h1 (by omega)).1 (by omega)
  · rw [e, if_neg (by decide), if_pos rfl]
    exact up (d.logp_inv h (by omega) h1 h2).1 (by omega)
  · rw [e, if_neg (by decide), if_neg (by decide), if_pos rfl, hr]
    exact up (d.icdf_inv h (by omega) ht).1 (by omega)
  · rw [e, if_neg (by decide), if_neg (by decide), if_neg (by decide), if_pos rfl]
    exact up (d.whole_inv h (by omega) (by omega) ho.a32).1 (by omega)
  · rw [e, if_neg (by decide), if_neg (by decide), if_neg (by decide), if_neg (by decide), if_pos rfl]
    exact up (Dec.rawOn_inv h) (by omega)
  · rw [e, if_neg (by decide), if_neg (by decide), if_neg (by decide), if_neg (by decide), if_neg (by decide), if_pos rfl]
    exact up (d.lapl_inv h (by omega) h1).1 (by omega)
  · rw [e, if_neg (by decide), if_neg (by decide), if_neg (by decide), if_neg (by decide), if_neg (by decide), if_neg (by decide)]
    exact up (d.size_inv h) (by omega)
theorem Dec.after_inv {w0 : World} : ∀ {l : List OpV} {d : Dec} {N : Nat}, d.inv N → N + 64 * l.length ≤ 1152921504606846900 → (∀ o ∈ l, o.good w0) → (d.after l).inv (N + 64 * l.length)
  | [], d, N, h, _, _ => h
  | o :: r, d, N, h, hN, hg => by
    simp only [List.length_cons] at hN
    have h1 := Dec.act_inv h (by omega) (hg o (by simp))
    have h2 := Dec.after_inv (l := r) h1 (by omega) fun x hx => hg x (by simp [hx])
    have e : N + 64 * (o :: r).length = N + 64 + 64 * r.length := by simp only [List.length_cons]; omega
    rw [e]
    exact h2
theorem Dec.after_snoc (d : Dec) (l : List OpV) (o : OpV) : d.after (l ++ [o]) = ((d.after l).act o).2.2 := by
  induction l generalizing d with
  | nil => rfl
  | cons x r ih => exact ih _
theorem Dec.seen_snoc (d : Dec) (l : List OpV) (o : OpV) : d.seen (l ++ [o]) = d.seen l ++ [(d.after l).tells o] := by
  induction l generalizing d with
  | nil => rfl
  | cons x r ih =>
    simp only [List.cons_append, Dec.seen, ih, Dec.after]
theorem Dec.seen_len (d : Dec) (l : List OpV) : (d.seen l).length = l.length := by
  induction l generalizing d with
  | nil => rfl
  | cons x r ih => simp [Dec.seen, ih]
end Go.Proofs.Ytkomikpfnogjcaa
