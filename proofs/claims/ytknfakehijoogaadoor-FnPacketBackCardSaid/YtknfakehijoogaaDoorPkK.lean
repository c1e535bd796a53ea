/- The law of packets that are read. -/
import Derived.Test.YtknfakehijoogaaDoorPkJ
namespace Go.Proofs.YtknfakehijoogaaDoor
open Go Go.Vc
set_option maxRecDepth 100000
set_option maxHeartbeats 8000000

theorem flat_strs (ss : List ByteArray) : ss.map (fun s => CV.val (.string s)) = flat encStr [] ss := by
  unfold flat
  induction ss with
  | nil => rfl
  | cons x t ih => rw [List.map_cons, List.flatMap_cons, ih]; rfl
theorem pkF_ren (b : ByteArray) (l : List (Nat × Nat)) (σ : List Nat) : (pkF b l false).ren σ = pkF b l false := by
  show Blk.cells _ (((strsOf b l).map fun s => CV.val (.string s)).map (CV.ren σ)) = _
  rw [List.map_map]
  rfl
def rdNone : AV := .t [.c (.val (.slice none 0 0)), .c (.val (.int .i64 ((0 : Nat) : Int))), .c (.val (.bool false)), .c (.val (.bool false)), .c (.val (.int .i64 ((1 : Nat) : Int)))]
theorem sPacketReadW (w0 : World) {b : ByteArray} (hs : b.size ≤ 100000) :
    CallsA Tryd.prog w0 5 [.c (.val (.string b))] [] fun r H =>
      (frames b = none ∧ r = rdNone ∧ H = []) ∨
      ∃ l, frames b = some l ∧ l ≠ [] ∧ r = .t [.c (.vec 0 l.length), .c (.val (.int .i64 (byt b 0 / 8 : Nat))), .c (.val (.bool (decide (byt b 0 / 4 % 2 = 1)))), .c (.val (.bool true)), .c (.val (.int .i64 ((1 : Nat) : Int)))] ∧ H = [strB (strsOf b l)] := by
  refine (asVec (T := 9) (e := encStr) (bs := []) (Q := fun ss rest => ∃ l, frames b = some l ∧ l ≠ [] ∧ ss = strsOf b l ∧ rest = [.c (.val (.int .i64 (byt b 0 / 8 : Nat))), .c (.val (.bool (decide (byt b 0 / 4 % 2 = 1)))), .c (.val (.bool true)), .c (.val (.int .i64 ((1 : Nat) : Int)))])
    (R1 := fun r H => (frames b = none ∧ r = rdNone ∧ H = []) ∨
      ∃ l, frames b = some l ∧ l ≠ [] ∧ r = .t [.c (.vec 0 l.length), .c (.val (.int .i64 (byt b 0 / 8 : Nat))), .c (.val (.bool (decide (byt b 0 / 4 % 2 = 1)))), .c (.val (.bool true)), .c (.val (.int .i64 ((1 : Nat) : Int)))] ∧ H = [strB (strsOf b l)])
    (fun k hk => by cases hk) (fun x c hc => ?_) (fun x => rfl) ?_).mono ?_
  · rw [List.mem_singleton.1 hc]
    exact light_val _
  · refine callsA_of_ev c5_ ?_
    conv => whnf
    refine (packetReadW w0 hs).mono ?_
    rintro _ _ (⟨hn, rfl, rfl⟩ | ⟨l, sh, pad, v, hn, hne, hl2, rfl, rfl⟩)
    · conv => whnf
      exact Or.inr ⟨[], rdNone, [], ⟨rfl, trivial, rfl⟩, rfl, .inl (.inl ⟨hn, rfl, rfl⟩)⟩
    · cases sh with
      | true =>
        conv => whnf
        exact Or.inr ⟨[0], .t [.c (.vec 0 l.length), .c (.val (.int .i64 (byt b 0 / 8 : Nat))), .c (.val (.bool (decide (byt b 0 / 4 % 2 = 1)))), .c (.val (.bool true)), .c (.val (.int .i64 ((1 : Nat) : Int)))], [strB (strsOf b l)], ⟨rfl, ⟨rfl, rfl, trivial⟩, rfl⟩, rfl, .inl (.inr ⟨l, hn, hne, rfl, rfl⟩)⟩
      | false =>
        conv => whnf
        have hl2 := hl2 rfl
        have hsl := strs_len b l
        exact Or.inr ⟨[0], .t [.c (.sli 0 1 0 l.length l.length), .c (.val (.int .i64 (byt b 0 / 8 : Nat))), .c (.val (.bool (decide (byt b 0 / 4 % 2 = 1)))), .c (.val (.bool true)), .c (.val (.int .i64 ((1 : Nat) : Int)))], [pkF b l false], ⟨rfl, ⟨congrArg some (pkF_ren b l [0]).symm, rfl, trivial⟩, rfl⟩, rfl, .inr ⟨strsOf b l, _, fun h => by rw [h] at hsl; exact hne (List.length_eq_zero_iff.1 hsl.symm), by omega, ⟨l, hn, hne, rfl, rfl⟩, fun a ha => by
          rcases List.mem_cons.1 ha with rfl | ha
          · exact ⟨_, rfl⟩
          rcases List.mem_cons.1 ha with rfl | ha
          · exact ⟨_, rfl⟩
          rcases List.mem_cons.1 ha with rfl | ha
          · exact ⟨_, rfl⟩
          rw [List.mem_singleton.1 ha]
          exact ⟨_, rfl⟩, by rw [hsl]; rfl, by rw [← flat_strs]; rfl⟩⟩
  · rintro _ _ (h | ⟨ss, rest, _, ⟨l, hn, hne, rfl, rfl⟩, rfl, rfl⟩)
    · exact h
    · exact .inr ⟨l, hn, hne, by rw [strs_len]; rfl, rfl⟩

theorem sameW (w0 : World) {ss : List ByteArray} (hs : ss.length ≤ 100000) :
    CallsA Tryd.prog w0 8 [.c (.vec 0 ss.length), .c (.vec 1 ss.length)] [strB ss, strB ss] fun r H => r = .o (.c (.val (.bool true))) ∧ H = [strB ss, strB ss] := by
  refine callsA_of_ev c8_ ?_
  conv => whnf
  refine Or.inl ?_
  conv => whnf
  refine ⟨fun h => absurd rfl (bne_t h), fun _ => ?_⟩
  conv => whnf
  refine Or.inl ?_
  conv => whnf
  refine ⟨_root_.Fin (ss.length + 1), fun ⟨k, _⟩ => ⟨[(0, .o (.c (.vec 0 ss.length))), (1, .o (.c (.vec 1 ss.length))), (12, .o (.c (.val (.int .i64 ss.length)))), (13, .o (.c (.val (.int .i64 k))))], [strB ss, strB ss]⟩, fun k => ss.length - k.1, ⟨⟨0, by omega⟩, [0, 1], ⟨rfl, ⟨rfl, rfl, rfl, rfl, trivial⟩, rfl⟩, rfl, rfl, rfl, rfl, trivial⟩, fun ⟨k, hk⟩ => ?_⟩
  conv => whnf
  refine ⟨fun h3 => ?_, fun h3 => ?_⟩
  · have h3 : k < ss.length := lt_t h3
    obtain ⟨s, hsk⟩ : ∃ s, ss[k]? = some s := ⟨_, List.getElem?_eq_getElem h3⟩
    conv => whnf
    refine Or.inl ?_
    conv => whnf
    refine ⟨by omega, ?_⟩
    conv => whnf
    refine ⟨s, hsk, ?_⟩
    conv => whnf
    refine ⟨by omega, ?_⟩
    conv => whnf
    refine ⟨s, hsk, ?_⟩
    conv => whnf
    refine ⟨fun h => ?_, fun _ => ?_⟩
    · rw [show (s.toList == s.toList) = true from beq_self_eq_true _] at h
      cases h
    conv => whnf
    refine ⟨⟨k + 1, by omega⟩, ⟨[0, 1], ⟨rfl, ⟨rfl, rfl, rfl, rfl, trivial⟩, rfl⟩, rfl, rfl, rfl, eq_i64 ?_, trivial⟩, ?_⟩
    · rw [nadd, nwrapi (by omega)]
    · show ss.length - (k + 1) < ss.length - k
      omega
  · conv => whnf
    exact Or.inl ⟨rfl, rfl⟩

theorem packetAnyW (w0 : World) (he0 : errAt w0 0) (he : errAt w0 1) {b : ByteArray} :
    CallsA Tryd.prog w0 3 [.c (.val (.string b))] [] fun r H => r = .o (.c (.val (.bool true))) ∧ H = [] := by
  refine callsA_of_ev c3_ ?_
  conv => whnf
  refine Or.inl ?_
  conv => whnf
  refine ⟨fun _ => ?_, fun h1 => ?_⟩
  · conv => whnf
    exact Or.inl ⟨rfl, rfl⟩
  conv => whnf
  refine Or.inl ?_
  conv => whnf
  refine ⟨fun _ => ?_, fun h2 => ?_⟩
  · conv => whnf
    exact Or.inl ⟨rfl, rfl⟩
  have h2 : b.size ≤ 3000 := gt_f h2
  conv => whnf
  refine (sPacketReadW w0 (by omega)).mono ?_
  rintro _ _ (⟨hn, rfl, rfl⟩ | ⟨l, hn, hne, rfl, rfl⟩)
  · conv => whnf
    refine Or.inl ?_
    conv => whnf
    refine ⟨fun h => absurd rfl (bne_t h), fun _ => ?_⟩
    conv => whnf
    refine (iPacketReadW he0 he (by omega)).mono ?_
    rintro _ _ (⟨_, rfl, rfl⟩ | ⟨l, hn2, _⟩)
    · conv => whnf
      refine Or.inl ?_
      conv => whnf
      refine ⟨fun _ => ?_, (fun h => by cases h)⟩
      conv => whnf
      refine ⟨fun _ => ?_, fun h => absurd rfl (beq_f h)⟩
      conv => whnf
      refine (aliveW w0).mono ?_
      rintro _ _ ⟨rfl, rfl⟩
      conv => whnf
      exact Or.inl ⟨rfl, rfl⟩
    · rw [hn] at hn2
      cases hn2
  · conv => whnf
    refine Or.inl ?_
    conv => whnf
    refine ⟨fun h => absurd rfl (bne_t h), fun _ => ?_⟩
    conv => whnf
    refine CallsA.lift (H0 := []) [] rfl trivial rfl (iPacketReadW he0 he (by omega)) ?_
    rintro _ _ (⟨hn2, _⟩ | ⟨l2, hn2, _, rfl, rfl⟩)
    · rw [hn] at hn2
      cases hn2
    · obtain rfl : l2 = l := Option.some.inj (hn2.symm.trans hn)
      have hsw := sameW w0 (ss := strsOf b l2) (by rw [strs_len]; have := frames_len hn; omega)
      rw [strs_len] at hsw
      conv => whnf
      refine Or.inl ?_
      conv => whnf
      refine ⟨(fun h => by cases h), fun _ => ?_⟩
      conv => whnf
      refine ⟨fun _ => ?_, fun h => absurd rfl (beq_f h)⟩
      conv => whnf
      refine CallsA.lift (H0 := [strB (strsOf b l2), strB (strsOf b l2)]) [1, 0] rfl ⟨rfl, rfl, rfl, rfl, trivial⟩ rfl hsw ?_
      rintro _ _ ⟨rfl, rfl⟩
      conv => whnf
      refine ⟨fun _ => ?_, (fun h => by cases h)⟩
      conv => whnf
      refine ⟨fun _ => ?_, fun h => absurd rfl (beq_f h)⟩
      conv => whnf
      refine ⟨fun _ => ?_, fun h => ?_⟩
      rotate_left
      · have h : (decide (byt b 0 / 4 % 2 = 1) == decide (byt b 0 / 4 % 2 = 1)) = false := h
        rw [beq_self_eq_true] at h
        cases h
      conv => whnf
      refine CallsA.lift (H0 := []) [] rfl trivial rfl (aliveW w0) ?_
      rintro _ _ ⟨rfl, rfl⟩
      conv => whnf
      exact Or.inr ⟨[], .o (.c (.val (.bool true))), [], ⟨rfl, trivial, rfl⟩, rfl, rfl, rfl⟩
end Go.Proofs.YtknfakehijoogaaDoor
