/- The decoder's beginning and its size. -/
import Derived.Test.YtkomikpfnogjcaaRcJ
namespace Go.Proofs.Ytkomikpfnogjcaa
open Go Go.Vc
set_option maxRecDepth 100000

def Dec.raw0 (xs : List Int) : Dec := ⟨xs, 0, 0, 9, 128, 0⟩
def Dec.init0 (xs : List Int) : Dec := { (Dec.raw0 xs).bitsOn 7 with val := 127 - (Dec.raw0 xs).bits 7 }
def Dec.init (xs : List Int) : Dec := (Dec.init0 xs).norm
theorem Dec.raw0_ok {xs : List Int} (hb : ∀ x ∈ xs, 0 ≤ x ∧ x < 256) (hl : xs.length ≤ 1099511627776) : (Dec.raw0 xs).ok := ⟨hb, hl, by show 0 ≤ _; omega, by show 0 ≤ _; omega, by show 9 ≤ _; omega⟩
theorem Dec.init_inv {xs : List Int} (hb : ∀ x ∈ xs, 0 ≤ x ∧ x < 256) (hl : xs.length ≤ 1099511627776) : (Dec.init xs).inv 33 ∧ (Dec.init xs).data = xs ∧ (Dec.init xs).rb = 0 := by
  have h7 := (Dec.raw0 xs).bits_lt 7
  have hok := Dec.bitsOn_ok (Dec.raw0_ok hb hl) 7
  exact Dec.norm_inv (d := Dec.init0 xs) (N := 9) (by omega) hok.bytes hok.len hok.br (Nat.le_refl _) (by show 0 ≤ _; omega) (by show 1 ≤ 128; omega) (by show 128 ≤ _; omega) (by show 127 - _ < 128; omega)

theorem decInit (w0 : World) {xs : List Int} (hb : ∀ x ∈ xs, 0 ≤ x ∧ x < 256) (hl : xs.length ≤ 1099511627776) :
    CallsA Try.prog w0 38 [.c (.ptr 0 0), .c (.vec 1 xs.length)] [.cells 78 [.val (.slice none 0 0), .val (.int .u64 0), .val (.int .u64 0), .val (.int .u64 0), .val (.int .u32 0), .val (.int .u32 0)], .vec false 5 (encI .u8) [] 1 xs] fun r H => r = .t [] ∧ H = (Dec.init xs).H := by
  have h7 := (Dec.raw0 xs).bits_lt 7
  have h7 : (Dec.raw0 xs).bits 7 < 128 := h7
  have hok := Dec.bitsOn_ok (Dec.raw0_ok hb hl) 7
  refine callsA_of_ev c38_ ?_
  conv => whnf
  refine (getBits w0 (Dec.raw0 xs) (Dec.raw0_ok hb hl) (n := 7) (by omega) (by omega)).mono ?_
  rintro _ _ ⟨rfl, rfl⟩
  conv => whnf
  simp (disch := omega) only [nsub, nwrap32]
  refine (normalize w0 (Dec.init0 xs) ⟨⟨hok.bytes, hok.len, hok.br, hok.rb, hok.nb⟩, by show 9 ≤ _; omega, by show 1 ≤ 128; omega, by show 128 ≤ _; omega, by show 127 - _ < _; omega⟩).mono ?_
  rintro _ _ ⟨rfl, rfl⟩
  conv => whnf
  exact Or.inl ⟨rfl, rfl⟩

def Dec.size (d : Dec) (n : Nat) : Dec := { d with data := d.data.take n }
theorem Dec.size_inv {d : Dec} {N n : Nat} (h : d.inv N) : (d.size n).inv N :=
  ⟨fun x hx => h.bytes x (List.mem_of_mem_take hx), by show (d.data.take n).length ≤ _; rw [List.length_take]; have := h.len; omega, h.br, h.nb, h.rb, h.lo, h.hi, h.val⟩
/-- The state with its bytes in another block. -/
def Dec.H2 (d : Dec) : List Blk := [.cells 78 [.vec 2 d.data.length, .val (.int .u64 d.br), .val (.int .u64 d.rb), .val (.int .u64 d.nb), .val (.int .u32 d.rng), .val (.int .u32 d.val)], .dead, .vec false 5 (encI .u8) [] 1 d.data]
theorem setSize (w0 : World) (d : Dec) {n : Nat} (hn : n < 4294967296) :
    CallsA Try.prog w0 47 [.c (.ptr 0 0), .c (.val (.int .i64 n))] d.H fun r H => r = .t [] ∧ ((d.data.length ≤ n ∧ H = d.H) ∨ (n < d.data.length ∧ H = (d.size n).H2)) := by
  refine callsA_of_ev c47_ ?_
  conv => whnf
  refine Or.inl ?_
  conv => whnf
  refine ⟨fun h1 => absurd (lt_t h1) (by omega), fun h1 => ?_⟩
  conv => whnf
  refine ⟨fun h2 => ?_, fun h2 => ?_⟩
  · have h2 := lt_t h2
    conv => whnf
    refine ⟨by omega, Or.inr ⟨rfl, ?_⟩⟩
    conv => whnf
    refine Or.inl ⟨rfl, .inr ⟨h2, ?_⟩⟩
    have e : (d.data.take n).length = n := by rw [List.length_take]; omega
    unfold Dec.H2 Dec.size
    simp only [e]
    rfl
  · have h2 := lt_f h2
    conv => whnf
    exact Or.inl ⟨rfl, .inl ⟨h2, rfl⟩⟩
end Go.Proofs.Ytkomikpfnogjcaa
