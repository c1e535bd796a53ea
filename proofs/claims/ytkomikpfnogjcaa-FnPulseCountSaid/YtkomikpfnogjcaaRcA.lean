/- The decoder's state, and how it reads bits. -/
import Derived.Test.YtkomikpfnogjcaaRcN
import Derived.Test.YtkomikpfnogjcaaIrDec
namespace Go.Proofs.Ytkomikpfnogjcaa
open Go Go.Vc
set_option maxRecDepth 100000

structure Dec where
  data : List Int
  br : Nat
  rb : Nat
  nb : Nat
  rng : Nat
  val : Nat
def Dec.H (d : Dec) : List Blk := [.cells 78 [.vec 1 d.data.length, .val (.int .u64 d.br), .val (.int .u64 d.rb), .val (.int .u64 d.nb), .val (.int .u32 d.rng), .val (.int .u32 d.val)], .vec false 5 (encI .u8) [] 1 d.data]
structure Dec.ok (d : Dec) : Prop where
  bytes : ∀ x ∈ d.data, 0 ≤ x ∧ x < 256
  len : d.data.length ≤ 1099511627776
  br : d.br ≤ 8796093022208
  rb : d.rb ≤ 4611686018427387904
  nb : d.nb ≤ 4611686018427387904
theorem Dec.H_of {d : Dec} {br rb nb rng val : Int} (h1 : br = d.br) (h2 : rb = d.rb) (h3 : nb = d.nb) (h4 : rng = d.rng) (h5 : val = d.val) :
    [Blk.cells 78 [.vec 1 d.data.length, .val (.int .u64 br), .val (.int .u64 rb), .val (.int .u64 nb), .val (.int .u32 rng), .val (.int .u32 val)], .vec false 5 (encI .u8) [] 1 d.data] = d.H := by
  subst h1 h2 h3 h4 h5
  rfl
/-- A byte; behind the end 0. -/
def Dec.byte (d : Dec) (i : Nat) : Nat := (d.data.getD i 0).toNat
theorem Dec.byte_get {d : Dec} (h : d.ok) {i : Nat} (hi : i < d.data.length) : d.data[i]? = some (d.byte i : Int) ∧ d.byte i < 256 := by
  have hm := h.bytes _ (List.getElem_mem hi)
  unfold Dec.byte
  rw [List.getD_eq_getElem?_getD, List.getElem?_eq_getElem hi, Option.getD_some]
  exact ⟨by congr 1; omega, by omega⟩
theorem Dec.byte_out {d : Dec} {i : Nat} (hi : d.data.length ≤ i) : d.byte i = 0 := by
  unfold Dec.byte
  rw [List.getD_eq_getElem?_getD, List.getElem?_eq_none hi]
  rfl
theorem Dec.byte_lt {d : Dec} (h : d.ok) (i : Nat) : d.byte i < 256 := by
  rcases Nat.lt_or_ge i d.data.length with hi | hi
  · exact (d.byte_get h hi).2
  · rw [d.byte_out hi]
    omega

def Dec.bit (d : Dec) : Nat := d.byte (d.br / 8) / 2 ^ (7 - d.br % 8) % 2
def Dec.bitOn (d : Dec) : Dec := { d with br := if d.br / 8 < d.data.length then d.br + 1 else d.br }

theorem getBit (w0 : World) (d : Dec) (h : d.ok) : CallsA Try.prog w0 98 [.c (.ptr 0 0)] d.H fun r H => r = u32 d.bit ∧ H = d.bitOn.H := by
  have := h.br
  have := h.len
  refine callsA_of_ev c98_ ?_
  conv => whnf
  refine Or.inl ?_
  conv => whnf
  refine ⟨fun h1 => ?_, fun h1 => ?_⟩
  · simp only [decide_eq_true_eq, IntKind.wrap_u64] at h1
    rw [ntdiv] at h1
    have h2 : ¬ d.br / 8 < d.data.length := by omega
    conv => whnf
    refine Or.inl ⟨?_, ?_⟩
    · unfold Dec.bit
      rw [d.byte_out (by omega), Nat.zero_div]
      rfl
    · exact Dec.H_of (d := d.bitOn) (by simp [Dec.bitOn, h2]) rfl rfl rfl rfl
  · simp only [decide_eq_false_iff_not, IntKind.wrap_u64] at h1
    rw [ntdiv] at h1
    have h2 : d.br / 8 < d.data.length := by omega
    obtain ⟨hb, hb2⟩ := d.byte_get h h2
    conv => whnf
    rw [ntdiv, nwrap64 (by omega)]
    refine ⟨by omega, ?_⟩
    conv => whnf
    refine ⟨_, hb, ?_⟩
    conv => whnf
    rw [ntmod, nsub (by omega), nwrap64 (by omega)]
    refine ⟨by omega, ?_⟩
    conv => whnf
    refine Or.inl ⟨u32_of ?_, Dec.H_of (d := d.bitOn) ?_ rfl rfl rfl rfl⟩
    · have h3 : d.byte (d.br / 8) / 2 ^ (7 - d.br % 8) < 256 := Nat.lt_of_le_of_lt (Nat.div_le_self _ _) hb2
      rw [nshrv _ _ _ (by show 7 - d.br % 8 ≤ 8; omega), nand8 h3 (by omega), Nat.and_one_is_mod, nwrap32 (by omega)]
      rfl
    · rw [nadd, nwrap64 (by omega)]
      simp [Dec.bitOn, h2]
end Go.Proofs.Ytkomikpfnogjcaa
