/- Laplace's shares lie within their total: a table of all decays, reckoned. -/
import Derived.KernelRfl
namespace Go.Proofs.Ytkomikpfnogjcaa
set_option maxRecDepth 100000

/-- The next share. -/
def phi (g x : Nat) : Nat := Nat.div (Nat.mul x (Nat.sub 16384 g)) 16384
def phiN (g n x : Nat) : Nat := Nat.rec (motive := fun _ => Nat → Nat) (fun x => x) (fun _ ih x => ih (phi g x)) n x
/-- All shares from here on. -/
def tot (g n x : Nat) : Nat := Nat.rec (motive := fun _ => Nat → Nat) (fun _ => 0) (fun _ ih x => cond (Nat.beq x 0) 0 (Nat.add (Nat.succ x) (ih (phi g x)))) n x
def cntT (g t n x : Nat) : Nat := Nat.rec (motive := fun _ => Nat → Nat) (fun _ => 1000000) (fun _ ih x => cond (Nat.ble x t) 0 (Nat.succ (ih (phi g x)))) n x
def entT (g N b k : Nat) : Bool := Nat.rec (motive := fun _ => Bool) true (fun k ih => and ih (Nat.ble (Nat.add (Nat.mul g (tot g 16 (Nat.add b k))) (Nat.mul N g)) (Nat.add (Nat.mul 16384 (Nat.add b k)) (Nat.mul 16 g)))) k
def topX (g : Nat) : Nat := Nat.div (Nat.mul 32735 g) 32768
def okT (g t : Nat) : Bool := and (Nat.beq (phiN g 16 t) 0) (and (Nat.ble (cntT g t 200 (topX g)) 500) (entT g (cntT g t 200 (topX g)) (phi g (Nat.succ t)) (Nat.succ (Nat.sub t (phi g (Nat.succ t))))))
def okG (g : Nat) : Bool := or (Nat.beq (phiN g 16 (topX g)) 0) (or (okT g 16) (or (okT g 12) (or (okT g 10) (or (okT g 18) (or (okT g 8) (or (okT g 6) (or (okT g 20) (or (okT g 14) (or (okT g 4) (okT g 30))))))))))
def allG (b n : Nat) : Bool := Nat.rec (motive := fun _ => Bool) true (fun k ih => and ih (okG (Nat.add b k))) n

theorem phi_eq (g x : Nat) : phi g x = x * (16384 - g) / 16384 := rfl
theorem phiN_zero (g x : Nat) : phiN g 0 x = x := rfl
theorem phiN_succ (g n x : Nat) : phiN g (n + 1) x = phiN g n (phi g x) := rfl
theorem tot_zero (g x : Nat) : tot g 0 x = 0 := rfl
theorem tot_succ (g n x : Nat) : tot g (n + 1) x = if x = 0 then 0 else x + 1 + tot g n (phi g x) := by
  show cond (Nat.beq x 0) 0 (x.succ + tot g n (phi g x)) = _
  by_cases h : x = 0
  · subst h
    rfl
  · have : Nat.beq x 0 = false := by
      cases x with
      | zero => exact absurd rfl h
      | succ x => rfl
    rw [this, if_neg h]
    rfl
theorem phi_mono {g x y : Nat} (h : x ≤ y) : phi g x ≤ phi g y := by
  rw [phi_eq, phi_eq]
  exact Nat.div_le_div_right (Nat.mul_le_mul_right _ h)
theorem phiN_mono {g : Nat} : ∀ {n x y : Nat}, x ≤ y → phiN g n x ≤ phiN g n y
  | 0, _, _, h => h
  | n + 1, _, _, h => phiN_mono (n := n) (phi_mono h)
theorem phi_le {g x : Nat} (hg : g ≤ 16384) : g * x + 16384 * phi g x ≤ 16384 * x := by
  rw [phi_eq]
  have h1 := Nat.div_mul_le_self (x * (16384 - g)) 16384
  have h2 : x * (16384 - g) + x * g = x * 16384 := by rw [← Nat.mul_add, Nat.sub_add_cancel hg]
  rw [Nat.mul_comm x g] at h2
  omega
theorem tot_nil (g n : Nat) : tot g n 0 = 0 := by
  cases n with
  | zero => rfl
  | succ n => rw [tot_succ, if_pos rfl]
theorem tot_step {g x a b : Nat} (hg : g ≤ 16384) (h : ∀ n, g * tot g n (phi g x) + a ≤ 16384 * phi g x + b) : ∀ n, g * tot g n x + a ≤ 16384 * x + b + g := by
  have hp := phi_le (x := x) hg
  intro n
  cases n with
  | zero =>
    have := h 0
    rw [tot_zero] at this ⊢
    omega
  | succ n =>
    rw [tot_succ]
    split
    · have := h 0
      rw [tot_zero] at this
      omega
    · have := h n
      rw [Nat.mul_add, Nat.mul_add, Nat.mul_one]
      omega
theorem tot_small {g : Nat} (hg : g ≤ 16384) : ∀ {k x : Nat}, phiN g k x = 0 → ∀ n, g * tot g n x + 0 ≤ 16384 * x + k * g
  | 0, x, h, n => by
    have : x = 0 := h
    subst this
    rw [tot_nil]
    omega
  | k + 1, x, h, n => by
    have := tot_step hg (a := 0) (b := k * g) (tot_small hg (k := k) (x := phi g x) h) n
    rw [Nat.add_mul, Nat.one_mul]
    omega
theorem tot_le {g : Nat} : ∀ {k x : Nat}, phiN g k x = 0 → ∀ n, tot g n x ≤ tot g k x
  | 0, x, h, n => by
    have : x = 0 := h
    subst this
    rw [tot_nil]
    omega
  | k + 1, x, h, n => by
    cases n with
    | zero => rw [tot_zero]; omega
    | succ n =>
      rw [tot_succ, tot_succ]
      split
      · omega
      · have := tot_le (k := k) (x := phi g x) h n
        omega
theorem cntT_spec {g t : Nat} : ∀ {n x : Nat}, cntT g t n x ≤ 500 → phiN g (cntT g t n x) x ≤ t
  | 0, x, h => by
    have : (1000000 : Nat) ≤ 500 := h
    omega
  | n + 1, x, h => by
    have e : cntT g t (n + 1) x = cond (Nat.ble x t) 0 (cntT g t n (phi g x) + 1) := rfl
    cases hb : Nat.ble x t with
    | true =>
      rw [e, hb]
      exact Nat.le_of_ble_eq_true hb
    | false =>
      rw [e, hb] at h ⊢
      have h : cntT g t n (phi g x) + 1 ≤ 500 := h
      show phiN g (cntT g t n (phi g x) + 1) x ≤ t
      rw [phiN_succ]
      exact cntT_spec (by omega)
theorem entT_spec {g N b : Nat} : ∀ {k : Nat}, entT g N b k = true → ∀ j, j < k → g * tot g 16 (b + j) + N * g ≤ 16384 * (b + j) + 16 * g
  | 0, _, j, hj => by cases hj
  | k + 1, h, j, hj => by
    have h : (entT g N b k && Nat.ble (g * tot g 16 (b + k) + N * g) (16384 * (b + k) + 16 * g)) = true := h
    rw [Bool.and_eq_true] at h
    rcases Nat.lt_or_ge j k with c | c
    · exact entT_spec h.1 j c
    · obtain rfl : j = k := by omega
      exact Nat.le_of_ble_eq_true h.2
theorem far {g t N : Nat} (hg : g ≤ 16384) (he : ∀ y, phi g (t + 1) ≤ y → y ≤ t → ∀ n, g * tot g n y + N * g ≤ 16384 * y + 16 * g) :
    ∀ k x, t < x → phiN g k x ≤ t → k ≤ N → ∀ n, g * tot g n x + (N - k) * g ≤ 16384 * x + 16 * g
  | 0, x, h1, h2, _, _ => by
    have : x ≤ t := h2
    omega
  | k + 1, x, h1, h2, h3, n => by
    rcases Nat.lt_or_ge t (phi g x) with c | c
    · have := tot_step hg (far hg he k (phi g x) c h2 (by omega)) n
      have e : (N - k) * g = (N - (k + 1)) * g + g := by
        rw [show N - k = N - (k + 1) + 1 by omega, Nat.add_mul, Nat.one_mul]
      omega
    · have := tot_step hg (he (phi g x) (phi_mono h1) c) n
      have e : N * g = (N - (k + 1)) * g + (k + 1) * g := by rw [← Nat.add_mul]; congr 1; omega
      have e2 : g ≤ (k + 1) * g := Nat.le_mul_of_pos_left _ (by omega)
      omega
theorem okT_spec {g t : Nat} (hg : g ≤ 16384) (h : okT g t = true) {x : Nat} (hx : x ≤ topX g) (n : Nat) : g * tot g n x ≤ 16384 * x + 16 * g := by
  unfold okT at h
  rw [Bool.and_eq_true, Bool.and_eq_true] at h
  obtain ⟨h1, h2, h3⟩ := h
  have h1 : phiN g 16 t = 0 := Nat.eq_of_beq_eq_true h1
  have h2 := Nat.le_of_ble_eq_true h2
  have hn := cntT_spec h2
  have he := entT_spec h3
  rcases Nat.lt_or_ge t x with c | c
  · have := far hg (t := t) (N := cntT g t 200 (topX g)) (fun y y1 y2 n => ?_) _ x c (Nat.le_trans (phiN_mono hx) hn) (Nat.le_refl _) n
    · rw [Nat.sub_self, Nat.zero_mul] at this
      exact this
    · have hy0 : phiN g 16 y = 0 := by
        have := phiN_mono (g := g) (n := 16) y2
        omega
      have a := tot_le hy0 n
      have y1 : phi g (Nat.succ t) ≤ y := y1
      have b := he (y - phi g (Nat.succ t)) (by show _ < (t - phi g (Nat.succ t)) + 1; omega)
      rw [show phi g (Nat.succ t) + (y - phi g (Nat.succ t)) = y by omega] at b
      have := Nat.mul_le_mul_left g a
      omega
  · have := tot_small hg (k := 16) (x := x) (by have := phiN_mono (g := g) (n := 16) c; omega) n
    omega
theorem okG_spec {g : Nat} (hg : g ≤ 16384) (h : okG g = true) {x : Nat} (hx : x ≤ topX g) (n : Nat) : g * tot g n x ≤ 16384 * x + 16 * g := by
  unfold okG at h
  simp only [Bool.or_eq_true] at h
  rcases h with h | h | h | h | h | h | h | h | h | h | h
  · have h : phiN g 16 (topX g) = 0 := Nat.eq_of_beq_eq_true h
    have := tot_small hg (k := 16) (x := x) (by have := phiN_mono (g := g) (n := 16) hx; omega) n
    omega
  all_goals exact okT_spec hg h hx n
theorem allG_spec {b : Nat} : ∀ {n : Nat}, allG b n = true → ∀ j, j < n → okG (b + j) = true
  | 0, _, j, hj => by cases hj
  | n + 1, h, j, hj => by
    have h : (allG b n && okG (b + n)) = true := h
    rw [Bool.and_eq_true] at h
    rcases Nat.lt_or_ge j n with c | c
    · exact allG_spec h.1 j c
    · obtain rfl : j = n := by omega
      exact h.2
end Go.Proofs.Ytkomikpfnogjcaa
