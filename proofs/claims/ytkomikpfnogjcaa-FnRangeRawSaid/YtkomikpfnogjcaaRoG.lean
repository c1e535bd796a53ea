/- The reference's writer: what a script writes. -/
import Derived.Test.YtkomikpfnogjcaaRoF
import Derived.Test.YtkomikpfnogjcaaRnH
namespace Go.Proofs.Ytkomikpfnogjcaa
open Go Go.Vc
set_option maxRecDepth 100000

def EncS.rbit (e : EncS) (k b : Nat) : EncS := if b = 1 then { e with low := (e.low + (e.rng - e.rng / 2 ^ k)) % 4294967296, rng := e.rng / 2 ^ k } else { e with rng := e.rng - e.rng / 2 ^ k }
def EncS.rwhole (e : EncS) (n v : Nat) : EncS :=
  if len (n - 1) ≤ 8 then (e.rsym v (v + 1) n).norm
  else ((e.rsym (v / 2 ^ (len (n - 1) - 8)) (v / 2 ^ (len (n - 1) - 8) + 1) ((n - 1) / 2 ^ (len (n - 1) - 8) + 1)).norm).raw (len (n - 1) - 8) (v % 2 ^ (len (n - 1) - 8))
def EncS.rlap (e : EncS) (fs decay : Nat) (v : Int) : EncS := (e.rsym (rlapP fs decay v).1 ((rlapP fs decay v).1 + (rlapP fs decay v).2.1) 32768).norm
def EncS.ract (e : EncS) (o : OpV) : EncS :=
  if o.act = 0 then (e.rsym o.a o.b o.c).norm
  else if o.act = 1 then (e.rbit o.a o.b).norm
  else if o.act = 2 then (e.rsym (lowOf o.rows o.a) (o.rows.getD (o.a + 1) 0) (o.rows.getD 0 0)).norm
  else if o.act = 3 then e.rwhole o.a o.b
  else if o.act = 4 then e.raw o.a o.b
  else e.rlap o.a o.b o.v
/-- The number that Laplace's shares reach is the one that was meant. -/
def OpV.met (o : OpV) : Prop := o.act = 5 → (rlapP o.a o.b o.v).2.2 = o.v
/-- An operation that a script may hold. -/
structure OpV.wr (w0 : World) (o : OpV) : Prop where
  a32 : o.a < 4294967296
  b32 : o.b < 4294967296
  c32 : o.c < 4294967296
  kind : (o.act = 0 ∧ o.a < o.b ∧ o.b ≤ o.c ∧ o.c ≤ 65535) ∨ (o.act = 1 ∧ 1 ≤ o.a ∧ o.a ≤ 15 ∧ o.b ≤ 1) ∨
    (o.act = 2 ∧ ∃ total rest ta c, o.rows = total :: rest ∧ 1 ≤ total ∧ total ≤ 256 ∧ rest.length ≤ 65535 ∧ (∀ x ∈ rest, x ≤ total) ∧ o.a < rest.length ∧ lowOf o.rows o.a < o.rows.getD (o.a + 1) 0 ∧ o.tab = .slice (some ta) o.rows.length c ∧ ∀ (i x : Nat), o.rows[i]? = some x → x < 4294967296 ∧ w0.cell? (ta.add i) = some (.int .u32 x)) ∨
    (o.act = 3 ∧ 2 ≤ o.a ∧ o.b < o.a) ∨ (o.act = 4 ∧ o.a ≤ 25 ∧ o.b < 2 ^ o.a) ∨ (o.act = 5 ∧ 1 ≤ o.a ∧ o.a ≤ 32000 ∧ o.b ≤ 16000 ∧ -10000 < o.v ∧ o.v < 10000)
theorem OpV.wr.puts {w0 : World} {o : OpV} (h : o.wr w0) : o.puts w0 := by
  refine ⟨h.a32, h.b32, h.c32, ?_⟩
  rcases h.kind with ⟨k, _, _, h2⟩ | ⟨k, h2, h3, _⟩ | ⟨k, total, rest, ta, c, hr, ht1, ht2, hl, hx, ha, _, htab, hcell⟩ | ⟨k, h2, h3⟩ | ⟨k, h2, _⟩ | ⟨k, _, h2, h3, h4, h5⟩
  · exact .inl ⟨k, h2⟩
  · exact .inr (.inl ⟨k, h2, h3⟩)
  · exact .inr (.inr (.inl ⟨k, total, rest, ta, c, hr, ht2, hl, hx, ha, htab, hcell⟩))
  · exact .inr (.inr (.inr (.inl ⟨k, h2, h3⟩)))
  · exact .inr (.inr (.inr (.inr (.inl ⟨k, h2⟩))))
  · exact .inr (.inr (.inr (.inr (.inr ⟨k, h2, h3, h4, h5⟩))))
theorem EncS.rbit_rok {e : EncS} {N k b : Nat} (h : e.rinv N) (hk : 1 ≤ k) (hk2 : k ≤ 15) : (e.rbit k b).rok N := by
  have hb := h.big
  have hh := h.ok.hi
  have hp2 : 2 ^ k ≤ 2 ^ 15 := Nat.pow_le_pow_right (by omega) hk2
  have hp : 2 ^ 1 ≤ 2 ^ k := Nat.pow_le_pow_right (by omega) hk
  have h1 : 1 ≤ e.rng / 2 ^ k := (Nat.le_div_iff_mul_le (by omega)).2 (by omega)
  have h2 : e.rng / 2 ^ k ≤ e.rng / 2 := Nat.div_le_div_left (by omega) (by omega)
  unfold EncS.rbit
  split
  · exact ⟨h.ok.plain, h1, by show e.rng / 2 ^ k ≤ _; omega, by show _ % 4294967296 < _; omega, h.ok.total, h.ok.win, h.ok.nend, h.ok.tail, h.ok.tlo⟩
  · exact ⟨h.ok.plain, by show 1 ≤ e.rng - e.rng / 2 ^ k; omega, by show e.rng - e.rng / 2 ^ k ≤ _; omega, h.ok.low, h.ok.total, h.ok.win, h.ok.nend, h.ok.tail, h.ok.tlo⟩
theorem tab_facts {total : Nat} {rest : List Nat} {a : Nat} (hx : ∀ x ∈ rest, x ≤ total) (ha : a < rest.length) : lowOf (total :: rest) a = tabLow rest a ∧ (total :: rest).getD (a + 1) 0 = rest.getD a 0 ∧ rest.getD a 0 ≤ total := by
  refine ⟨?_, rfl, ?_⟩
  · unfold lowOf tabLow
    cases a with
    | zero => rfl
    | succ a => rfl
  · rw [List.getD_eq_getElem?_getD, List.getElem?_eq_getElem ha]
    exact hx _ (List.getElem_mem ha)
theorem EncS.rwhole_rinv {e : EncS} {N n v : Nat} (h : e.rinv N) (hn : 2 ≤ n) (hn2 : n < 4294967296) (hv : v < n) : (e.rwhole n v).rinv (N + 4) := by
  unfold EncS.rwhole
  have h3 := len_le (n := n - 1) (k := 32) (by omega)
  split
  · rename_i hl
    have := small_of_len hl
    exact (EncS.norm_rinv (EncS.rsym_rok h (by omega) (by omega) (by omega) (by omega))).mono (by omega)
  · rename_i hl
    obtain ⟨h1, h2⟩ := top_small (n := n - 1) (by omega)
    have hv2 : v / 2 ^ (len (n - 1) - 8) ≤ (n - 1) / 2 ^ (len (n - 1) - 8) := Nat.div_le_div_right (by omega)
    exact EncS.raw_rinv (EncS.norm_rinv (EncS.rsym_rok h (by omega) (by omega) (by omega) (by omega))) (by omega)
theorem rlapP_facts {fs decay : Nat} {v : Int} (h0 : 1 ≤ fs) (h1 : fs ≤ 32000) (h2 : decay ≤ 16000) (h3 : -10000 < v) (h4 : v < 10000) : 1 ≤ (rlapP fs decay v).2.1 ∧ (rlapP fs decay v).2.1 ≤ 32000 ∧ (rlapP fs decay v).1 < 400000000 := by
  have hlf := lapFirst_lt (fs := fs) (decay := decay)
  unfold rlapP
  split
  · exact ⟨h0, h1, by show 0 < _; omega⟩
  · obtain ⟨a, b, c, d, f, g, _⟩ := lapE_facts decay (by omega) (v.natAbs - 1) 1 fs (lapFirst fs decay + 1) (by omega) (by omega)
    generalize lapE decay (v.natAbs - 1) (1, fs, lapFirst fs decay + 1) = p at *
    obtain ⟨m, l, f'⟩ := p
    simp only at a b c d f g
    obtain ⟨q1, q2, q3, q4⟩ := rlapT_facts (v := v) (m := m) (l := l) (f := f') (N := 32000 + 32770 * 9999) a b (by omega) (by omega) (by omega)
    omega
theorem EncS.ract_rinv {w0 : World} {e : EncS} {N : Nat} (h : e.rinv N) {o : OpV} (ho : o.wr w0) : (e.ract o).rinv (N + 4) := by
  have ha := ho.a32
  rcases ho.kind with ⟨k, h1, h2, h3⟩ | ⟨k, h2, h3, _⟩ | ⟨k, total, rest, ta, c, hr, ht1, ht2, hl, hx, hal, hlt, htab, hcell⟩ | ⟨k, h2, h3⟩ | ⟨k, h2, h3⟩ | ⟨k, h1, h2, h3, h4, h5⟩
  · rw [show e.ract o = (e.rsym o.a o.b o.c).norm by unfold EncS.ract; rw [k]; rfl]
    exact (EncS.norm_rinv (EncS.rsym_rok h h1 (by omega) (by omega) h3)).mono (by omega)
  · rw [show e.ract o = (e.rbit o.a o.b).norm by unfold EncS.ract; rw [k]; rfl]
    exact (EncS.norm_rinv (EncS.rbit_rok h h2 h3)).mono (by omega)
  · rw [show e.ract o = (e.rsym (lowOf o.rows o.a) (o.rows.getD (o.a + 1) 0) (o.rows.getD 0 0)).norm by unfold EncS.ract; rw [k]; rfl]
    obtain ⟨f1, f2, f3⟩ := tab_facts hx hal
    rw [hr] at hlt ⊢
    have hg0 : (total :: rest).getD 0 0 = total := rfl
    exact (EncS.norm_rinv (EncS.rsym_rok h hlt (by omega) (by omega) (by omega))).mono (by omega)
  · rw [show e.ract o = e.rwhole o.a o.b by unfold EncS.ract; rw [k]; rfl]
    exact EncS.rwhole_rinv h h2 ha h3
  · rw [show e.ract o = e.raw o.a o.b by unfold EncS.ract; rw [k]; rfl]
    exact (EncS.raw_rinv h h2).mono (by omega)
  · rw [show e.ract o = e.rlap o.a o.b o.v by unfold EncS.ract; rw [k]; rfl]
    obtain ⟨q1, q2, q3⟩ := rlapP_facts (fs := o.a) (decay := o.b) (v := o.v) h1 h2 h3 h4 h5
    exact (EncS.norm_rinv (EncS.rsym_rok h (by omega) (by omega) (by omega) (by omega))).mono (by omega)
def EncS.rafter (e : EncS) : List OpV → EncS
  | [] => e
  | o :: r => (e.ract o).rafter r
theorem EncS.rafter_snoc (e : EncS) (l : List OpV) (o : OpV) : e.rafter (l ++ [o]) = (e.rafter l).ract o := by
  induction l generalizing e with
  | nil => rfl
  | cons x r ih => exact ih _
theorem EncS.rafter_rinv {w0 : World} : ∀ {l : List OpV} {e : EncS} {N : Nat}, e.rinv N → (∀ o ∈ l, o.wr w0) → (e.rafter l).rinv (N + 4 * l.length)
  | [], _, _, h, _ => h
  | o :: r, e, N, h, hl => by
    have := EncS.rafter_rinv (EncS.ract_rinv h (hl o (List.mem_cons_self ..))) (fun x hx => hl x (List.mem_cons_of_mem _ hx))
    exact this.mono (by rw [List.length_cons]; omega)
theorem EncS.init_rinv : EncS.init.rinv 0 := ⟨⟨⟨by decide, by decide, by decide⟩, by decide, by decide, by decide, by decide, by decide, by decide, by decide, by decide⟩, by decide⟩
end Go.Proofs.Ytkomikpfnogjcaa
