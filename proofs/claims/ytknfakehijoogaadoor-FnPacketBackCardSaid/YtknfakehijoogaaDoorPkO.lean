/- The law of packets that are written. -/
import Derived.Test.YtknfakehijoogaaDoorPkN
namespace Go.Proofs.YtknfakehijoogaaDoor
open Go Go.Vc
set_option maxRecDepth 100000
set_option maxHeartbeats 8000000

theorem wr_small {cfg code pad : Nat} {st vbr : Bool} {ss : List ByteArray} (hf : fineP cfg code pad vbr ss) : (wrL cfg code st pad vbr ss).length ≤ 100000 := by
  have h1 := hf.lpad
  have h2 := hf.len
  have h3 := dat_take hf.most ss.length
  rw [List.take_length] at h3
  unfold wrL
  rw [List.length_cons, List.length_append, List.length_append, List.length_replicate]
  have h4 : (midL code pad vbr ss).length ≤ 10000 := by
    unfold midL
    split
    · have := lenL_len ((szs ss).getD 0 0)
      omega
    split
    · rw [List.length_cons, List.length_append]
      have h1 : (padL pad).length ≤ 5001 := by
        unfold padL
        split
        · exact Nat.zero_le _
        · rw [List.length_append, List.length_replicate, List.length_singleton]
          omega
      have h2 : (lensL vbr ss).length ≤ 200 := by
        unfold lensL
        split
        · have h3 := lens_len (szs ss).dropLast
          rw [List.length_dropLast] at h3
          have : (szs ss).length = ss.length := List.length_map _
          omega
        · exact Nat.zero_le _
      omega
    · exact Nat.zero_le _
  omega

theorem packetBackW (w0 : World) (he0 : errAt w0 0) (he : errAt w0 1) {v : Value} {ss : List ByteArray} (h : strsAt w0 v ss) (hl : ss.length ≤ 9223372036854775807) {cfg code pad : Int} {st vbr : Bool} :
    CallsA Tryd.prog w0 4 [.a (pkArg cfg code pad st vbr v)] [] fun r H => r = .o (.c (.val (.bool true))) ∧ H = [] := by
  have yes : ∀ H, Fin 0 (fun r H => r = AV.o (.c (.val (.bool true))) ∧ H = []) (.o (.c (.val (.bool true)))) H := fun H => Or.inr ⟨[], .o (.c (.val (.bool true))), [], ⟨rfl, trivial, rfl⟩, rfl, rfl, rfl⟩
  refine callsA_of_ev c4_ ?_
  conv => whnf
  refine Or.inl ?_
  conv => whnf
  refine CallsA.lift (H0 := []) [] rfl trivial rfl (zzFits5W w0 h hl) ?_
  rintro _ _ ⟨⟨t, rfl⟩, rfl⟩
  conv => whnf
  refine ⟨fun _ => ?_, fun _ => ?_⟩
  · conv => whnf
    exact yes _
  conv => whnf
  refine CallsA.lift (H0 := []) [] rfl trivial rfl (packetWriteW w0 h hl) ?_
  rintro _ _ ⟨rfl, rfl | ⟨w, cN, dN, pN, rfl, rfl, rfl, hf, hw, rfl⟩⟩
  · conv => whnf
    refine Or.inl ?_
    conv => whnf
    refine ⟨fun _ => ?_, fun h => absurd (bne_f h) (by omega)⟩
    conv => whnf
    exact yes _
  obtain ⟨k1, k2, k3, k4⟩ := frames_wr hw hf
  have hws : w.size ≤ 100000 := by rw [szOf hw]; exact wr_small hf
  obtain ⟨l, hl4⟩ : ∃ l, l = cuts (1 + (midL dN pN vbr ss).length) (szs ss) := ⟨_, rfl⟩
  rw [← hl4] at k3 k4
  conv => whnf
  refine Or.inl ?_
  conv => whnf
  refine ⟨fun h => absurd rfl (bne_t h), fun _ => ?_⟩
  conv => whnf
  refine CallsA.lift (H0 := []) [] rfl trivial rfl (iPacketReadW he0 he hws) ?_
  rintro _ _ (⟨hn, _⟩ | ⟨l2, hn2, _, rfl, rfl⟩)
  · rw [k3] at hn
    cases hn
  obtain rfl : l2 = l := Option.some.inj (hn2.symm.trans k3)
  rw [k4]
  have hll : l2.length = ss.length := by rw [← strs_len w l2, k4]
  have hsv := sameV w0 h hf.ne (by have := hf.len; omega)
  rw [hll, k1, k2]
  conv => whnf
  refine ⟨fun _ => ?_, fun h => absurd rfl (beq_f h)⟩
  conv => whnf
  refine CallsA.lift (H0 := [strB ss]) [1] rfl ⟨rfl, rfl, trivial⟩ rfl hsv ?_
  rintro _ _ ⟨rfl, rfl⟩
  conv => whnf
  refine ⟨fun _ => ?_, (fun h => by cases h)⟩
  conv => whnf
  refine ⟨fun _ => ?_, fun h => absurd rfl (beq_f h)⟩
  conv => whnf
  refine ⟨fun _ => ?_, fun h => ?_⟩
  rotate_left
  · have h : (st == st) = false := h
    rw [beq_self_eq_true] at h
    cases h
  conv => whnf
  refine CallsA.lift (H0 := []) [] rfl trivial rfl (aliveW w0) ?_
  rintro _ _ ⟨rfl, rfl⟩
  conv => whnf
  exact yes _
end Go.Proofs.YtknfakehijoogaaDoor
