/- Laplace's shares lie within their total: the table, reckoned. -/
import Derived.Test.YtkomikpfnogjcaaRtA
namespace Go.Proofs.Ytkomikpfnogjcaa
set_option maxRecDepth 100000
theorem lapG0 : allG 384 500 = true := by decide +kernel
theorem lapG1 : allG 884 500 = true := by decide +kernel
theorem lapG2 : allG 1384 500 = true := by decide +kernel
theorem lapG3 : allG 1884 500 = true := by decide +kernel
theorem lapG4 : allG 2384 500 = true := by decide +kernel
theorem lapG5 : allG 2884 500 = true := by decide +kernel
theorem lapG6 : allG 3384 500 = true := by decide +kernel
theorem lapG7 : allG 3884 500 = true := by decide +kernel
theorem lapG8 : allG 4384 500 = true := by decide +kernel
theorem lapG9 : allG 4884 500 = true := by decide +kernel
theorem lapG10 : allG 5384 500 = true := by decide +kernel
theorem lapG11 : allG 5884 500 = true := by decide +kernel
theorem lapG12 : allG 6384 500 = true := by decide +kernel
theorem lapG13 : allG 6884 500 = true := by decide +kernel
theorem lapG14 : allG 7384 500 = true := by decide +kernel
theorem lapG15 : allG 7884 500 = true := by decide +kernel
theorem lapG16 : allG 8384 500 = true := by decide +kernel
theorem lapG17 : allG 8884 500 = true := by decide +kernel
theorem lapG18 : allG 9384 500 = true := by decide +kernel
theorem lapG19 : allG 9884 500 = true := by decide +kernel
theorem lapG20 : allG 10384 500 = true := by decide +kernel
theorem lapG21 : allG 10884 500 = true := by decide +kernel
theorem lapG22 : allG 11384 500 = true := by decide +kernel
theorem lapG23 : allG 11884 500 = true := by decide +kernel
theorem lapG24 : allG 12384 500 = true := by decide +kernel
theorem lapG25 : allG 12884 500 = true := by decide +kernel
theorem lapG26 : allG 13384 500 = true := by decide +kernel
theorem lapG27 : allG 13884 500 = true := by decide +kernel
theorem lapG28 : allG 14384 500 = true := by decide +kernel
theorem lapG29 : allG 14884 500 = true := by decide +kernel
theorem lapG30 : allG 15384 500 = true := by decide +kernel
theorem lapG31 : allG 15884 500 = true := by decide +kernel
theorem lapG32 : allG 16384 1 = true := by decide +kernel
/-- For each decay, from any first share. -/
theorem okG_all {g : Nat} (h1 : 384 ≤ g) (h2 : g ≤ 16384) : okG g = true := by
  rcases Nat.lt_or_ge g 884 with h | h
  · have := allG_spec lapG0 (g - 384) (by omega)
    rwa [show 384 + (g - 384) = g by omega] at this
  rcases Nat.lt_or_ge g 1384 with h | h
  · have := allG_spec lapG1 (g - 884) (by omega)
    rwa [show 884 + (g - 884) = g by omega] at this
  rcases Nat.lt_or_ge g 1884 with h | h
  · have := allG_spec lapG2 (g - 1384) (by omega)
    rwa [show 1384 + (g - 1384) = g by omega] at this
  rcases Nat.lt_or_ge g 2384 with h | h
  · have := allG_spec lapG3 (g - 1884) (by omega)
    rwa [show 1884 + (g - 1884) = g by omega] at this
  rcases Nat.lt_or_ge g 2884 with h | h
  · have := allG_spec lapG4 (g - 2384) (by omega)
    rwa [show 2384 + (g - 2384) = g by omega] at this
  rcases Nat.lt_or_ge g 3384 with h | h
  · have := allG_spec lapG5 (g - 2884) (by omega)
    rwa [show 2884 + (g - 2884) = g by omega] at this
  rcases Nat.lt_or_ge g 3884 with h | h
  · have := allG_spec lapG6 (g - 3384) (by omega)
    rwa [show 3384 + (g - 3384) = g by omega] at this
  rcases Nat.lt_or_ge g 4384 with h | h
  · have := allG_spec lapG7 (g - 3884) (by omega)
    rwa [show 3884 + (g - 3884) = g by omega] at this
  rcases Nat.lt_or_ge g 4884 with h | h
  · have := allG_spec lapG8 (g - 4384) (by omega)
    rwa [show 4384 + (g - 4384) = g by omega] at this
  rcases Nat.lt_or_ge g 5384 with h | h
  · have := allG_spec lapG9 (g - 4884) (by omega)
    rwa [show 4884 + (g - 4884) = g by omega] at this
  rcases Nat.lt_or_ge g 5884 with h | h
  · have := allG_spec lapG10 (g - 5384) (by omega)
    rwa [show 5384 + (g - 5384) = g by omega] at this
  rcases Nat.lt_or_ge g 6384 with h | h
  · have := allG_spec lapG11 (g - 5884) (by omega)
    rwa [show 5884 + (g - 5884) = g by omega] at this
  rcases Nat.lt_or_ge g 6884 with h | h
  · have := allG_spec lapG12 (g - 6384) (by omega)
    rwa [show 6384 + (g - 6384) = g by omega] at this
  rcases Nat.lt_or_ge g 7384 with h | h
  · have := allG_spec lapG13 (g - 6884) (by omega)
    rwa [show 6884 + (g - 6884) = g by omega] at this
  rcases Nat.lt_or_ge g 7884 with h | h
  · have := allG_spec lapG14 (g - 7384) (by omega)
    rwa [show 7384 + (g - 7384) = g by omega] at this
  rcases Nat.lt_or_ge g 8384 with h | h
  · have := allG_spec lapG15 (g - 7884) (by omega)
    rwa [show 7884 + (g - 7884) = g by omega] at this
  rcases Nat.lt_or_ge g 8884 with h | h
  · have := allG_spec lapG16 (g - 8384) (by omega)
    rwa [show 8384 + (g - 8384) = g by omega] at this
  rcases Nat.lt_or_ge g 9384 with h | h
  · have := allG_spec lapG17 (g - 8884) (by omega)
    rwa [show 8884 + (g - 8884) = g by omega] at this
  rcases Nat.lt_or_ge g 9884 with h | h
  · have := allG_spec lapG18 (g - 9384) (by omega)
    rwa [show 9384 + (g - 9384) = g by omega] at this
  rcases Nat.lt_or_ge g 10384 with h | h
  · have := allG_spec lapG19 (g - 9884) (by omega)
    rwa [show 9884 + (g - 9884) = g by omega] at this
  rcases Nat.lt_or_ge g 10884 with h | h
  · have := allG_spec lapG20 (g - 10384) (by omega)
    rwa [show 10384 + (g - 10384) = g by omega] at this
  rcases Nat.lt_or_ge g 11384 with h | h
  · have := allG_spec lapG21 (g - 10884) (by omega)
    rwa [show 10884 + (g - 10884) = g by omega] at this
  rcases Nat.lt_or_ge g 11884 with h | h
  · have := allG_spec lapG22 (g - 11384) (by omega)
    rwa [show 11384 + (g - 11384) = g by omega] at this
  rcases Nat.lt_or_ge g 12384 with h | h
  · have := allG_spec lapG23 (g - 11884) (by omega)
    rwa [show 11884 + (g - 11884) = g by omega] at this
  rcases Nat.lt_or_ge g 12884 with h | h
  · have := allG_spec lapG24 (g - 12384) (by omega)
    rwa [show 12384 + (g - 12384) = g by omega] at this
  rcases Nat.lt_or_ge g 13384 with h | h
  · have := allG_spec lapG25 (g - 12884) (by omega)
    rwa [show 12884 + (g - 12884) = g by omega] at this
  rcases Nat.lt_or_ge g 13884 with h | h
  · have := allG_spec lapG26 (g - 13384) (by omega)
    rwa [show 13384 + (g - 13384) = g by omega] at this
  rcases Nat.lt_or_ge g 14384 with h | h
  · have := allG_spec lapG27 (g - 13884) (by omega)
    rwa [show 13884 + (g - 13884) = g by omega] at this
  rcases Nat.lt_or_ge g 14884 with h | h
  · have := allG_spec lapG28 (g - 14384) (by omega)
    rwa [show 14384 + (g - 14384) = g by omega] at this
  rcases Nat.lt_or_ge g 15384 with h | h
  · have := allG_spec lapG29 (g - 14884) (by omega)
    rwa [show 14884 + (g - 14884) = g by omega] at this
  rcases Nat.lt_or_ge g 15884 with h | h
  · have := allG_spec lapG30 (g - 15384) (by omega)
    rwa [show 15384 + (g - 15384) = g by omega] at this
  rcases Nat.lt_or_ge g 16384 with h | h
  · have := allG_spec lapG31 (g - 15884) (by omega)
    rwa [show 15884 + (g - 15884) = g by omega] at this
  rcases Nat.lt_or_ge g 16385 with h | h
  · have := allG_spec lapG32 (g - 16384) (by omega)
    rwa [show 16384 + (g - 16384) = g by omega] at this
  omega
theorem lapAll {g x : Nat} (h1 : 384 ≤ g) (h2 : g ≤ 16384) (hx : x ≤ 32735 * g / 32768) (n : Nat) : g * tot g n x ≤ 16384 * x + 16 * g := okG_spec h2 (okG_all h1 h2) hx n
end Go.Proofs.Ytkomikpfnogjcaa
