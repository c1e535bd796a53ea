/- Reading by an empty script. -/
import Derived.Test.YtkomikpfnogjcaaRcQ
namespace Go.Proofs.Ytkomikpfnogjcaa
open Go Go.Vc
set_option maxRecDepth 100000
set_option maxHeartbeats 4000000

theorem bytesOf_len (b : ByteArray) : (bytesOf b).length = b.size := by
  unfold bytesOf
  rw [List.length_map]
  rfl
theorem bytesOf_lt (b : ByteArray) : ∀ x ∈ bytesOf b, 0 ≤ x ∧ x < 256 := by
  intro x hx
  unfold bytesOf at hx
  obtain ⟨y, _, rfl⟩ := List.mem_map.1 hx
  have := y.toNat_lt
  omega
theorem decodeW0 (w0 : World) {b : ByteArray} (hb : b.size ≤ 1099511627776) :
    CallsA Try.prog w0 14 [.c (.val (.string b)), .c (.val (.slice none 0 0))] [] fun r H => r = .t [.c (.val (.slice none 0 0)), .c (.val (.int .i64 0))] ∧ H = [] := by
  have hbl := bytesOf_len b
  have hbb := bytesOf_lt b
  refine callsA_of_evD c14_ ?_
  conv => whnf
  refine ⟨by omega, ?_⟩
  conv => whnf
  refine CallsA.lift (H0 := [.cells 78 [.val (.slice none 0 0), .val (.int .u64 0), .val (.int .u64 0), .val (.int .u64 0), .val (.int .u32 0), .val (.int .u32 0)], .vec false 5 (encI .u8) [] 1 (bytesOf b)]) [2, 3] rfl ⟨rfl, rfl, rfl, rfl, trivial⟩ rfl (decInit w0 (xs := bytesOf b) hbb (by omega)) ?_
  rintro _ _ ⟨rfl, rfl⟩
  conv => whnf
  refine Or.inl ?_
  conv => whnf
  refine ⟨Unit, fun _ => ⟨[(4, .o (.c (.ptr 0 0))), (5, .o (.c (.ptr 1 0))), (18, .o (.c (.val (.int .i64 ((0 : Nat) : Int))))), (19, .o (.c (.val (.int .i64 ((0 : Nat) : Int)))))], [.cells 28 [.val (.slice none 0 0)], .cells 3 [.val (.int .i64 ((0 : Nat) : Int))]]⟩, fun _ => 0, ⟨(), [0, 1], ⟨rfl, ⟨rfl, rfl, rfl, rfl, trivial⟩, rfl⟩, rfl, rfl, rfl, rfl, trivial⟩, fun _ => ?_⟩
  conv => whnf
  refine ⟨fun h => absurd (lt_t h) (by omega), fun _ => ?_⟩
  conv => whnf
  exact Or.inr ⟨[], .t [.c (.val (.slice none 0 0)), .c (.val (.int .i64 0))], [], ⟨rfl, trivial, rfl⟩, rfl, rfl, rfl⟩
end Go.Proofs.Ytkomikpfnogjcaa
