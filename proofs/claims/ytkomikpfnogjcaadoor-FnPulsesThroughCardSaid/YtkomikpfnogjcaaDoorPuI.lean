/- The vector of a number, through the writer and the reader; the number of a vector. -/
import Derived.Test.YtkomikpfnogjcaaDoorPuH
namespace Go.Proofs.YtkomikpfnogjcaaDoor
open Go Go.Vc
set_option maxRecDepth 100000
set_option maxHeartbeats 8000000

theorem vv_two {n k : Nat} (hn : 2 ≤ n) (hk : 1 ≤ k) : 2 ≤ vv n k := by
  obtain ⟨m, rfl⟩ : ∃ m, n = m + 1 := ⟨n - 1, by omega⟩
  rw [vv_uu]
  have h1 := uu_mono m (show 1 ≤ k by omega)
  have h2 := uu_mono m (show 1 ≤ k + 1 by omega)
  rw [uu_one] at h1 h2
  omega
theorem iPulseVectorW (w0 : World) {n k i : Nat} (hn : 2 ≤ n) (hn2 : n ≤ 20) (hk : 1 ≤ k) (hk2 : k ≤ 20) (hv : vv n k < 4294967296) (hi : i < vv n k) :
    CallsA Tryd.prog w0 9 [.c (.val (.int .i64 n)), .c (.val (.int .i64 k)), .c (.val (.int .u32 i))] [] fun r H => r = .t [.c (.vec 0 n), .c (.val (.int .i64 ((0 : Nat) : Int)))] ∧ H = [intB (vecOf n k i)] := by
  have hv2 := vv_two hn hk
  have hok : wholeOk [(vv n k, i)] := fun x hx => by rw [List.mem_singleton.1 hx]; exact ⟨hv2, hv, hi⟩
  obtain ⟨hB, hrb⟩ := wholes_back hok
  have hinv := wholes_inv EncS.init_inv hok
  obtain ⟨e, he⟩ : ∃ e, e = EncS.init.whole (vv n k) i := ⟨_, rfl⟩
  have hB : ∀ x ∈ e.done, 0 ≤ x ∧ x < 256 := by rw [he]; exact hB
  have hrb : ((Dec.init e.done).whole (vv n k)).1 = i := by rw [he]; exact hrb.1
  have hinv : e.inv 4 := by rw [he]; exact hinv
  have hdl := done_len hinv
  obtain ⟨hdi, _, _⟩ := Dec.init_inv hB (by omega)
  have hpv := cPulseVectorW w0 hdi (by omega) hn hn2 hk hk2 hv hv2 (by rw [hrb]; exact hi)
  rw [hrb] at hpv
  have heu := encUniform w0 EncS.init (N := 0) (by omega) EncS.init_inv hv2 hv hi
  rw [← he] at heu
  refine callsA_of_evD c9_ ?_
  conv => whnf
  refine CallsA.lift (H0 := [.cells 47 [.val (.slice none 0 0), .val (.slice none 0 0), .val (.int .u64 0), .val (.int .u64 0), .val (.int .u32 0), .val (.int .u32 0), .val (.int .i64 0), .val (.int .i64 0), .val (.int .u64 0)]]) [2] rfl ⟨rfl, rfl, trivial⟩ rfl (encInit w0) ?_
  rintro _ _ ⟨rfl, rfl⟩
  conv => whnf
  refine CallsA.lift (H0 := []) [] rfl trivial rfl (cCountW w0 (n := n) (k := k) (by omega) (by omega) hk (by omega)) ?_
  rintro _ _ ⟨rfl, rfl⟩
  rw [Nat.mod_eq_of_lt hv]
  conv => whnf
  refine CallsA.lift (H0 := EncS.init.H) [2, 3, 4] rfl ⟨rfl, rfl, rfl, rfl, rfl, rfl, trivial⟩ rfl heu ?_
  rintro _ _ ⟨rfl, rfl⟩
  conv => whnf
  refine CallsA.lift (H0 := e.H) [2, 5, 6] rfl ⟨rfl, rfl, rfl, rfl, rfl, rfl, trivial⟩ rfl (doneW w0 e (N := 4) (by omega) hinv) ?_
  rintro _ _ ⟨rfl, rfl⟩
  conv => whnf
  refine CallsA.lift (H0 := [.cells 51 [.val (.slice none 0 0), .val (.int .u64 0), .val (.int .u64 0), .val (.int .u64 0), .val (.int .u32 0), .val (.int .u32 0)], byteBlk e.done]) [7, 8] rfl ⟨rfl, rfl, rfl, rfl, trivial⟩ rfl (decInitT w0 hB (by omega)) ?_
  rintro _ _ ⟨rfl, rfl⟩
  conv => whnf
  refine CallsA.lift (H0 := (Dec.init e.done).H) [7, 8] rfl ⟨rfl, rfl, rfl, rfl, trivial⟩ rfl hpv ?_
  rintro _ _ ⟨rfl, rfl⟩
  conv => whnf
  exact Or.inr ⟨[9], .t [.c (.vec 0 n), .c (.val (.int .i64 ((0 : Nat) : Int)))], [intB (vecOf n k i)], ⟨rfl, ⟨rfl, rfl, trivial⟩, rfl⟩, rfl, rfl, rfl⟩
end Go.Proofs.YtkomikpfnogjcaaDoor
