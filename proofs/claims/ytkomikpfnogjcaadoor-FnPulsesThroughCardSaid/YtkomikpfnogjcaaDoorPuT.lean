/- Vectors that are read from a frame. -/
import Derived.Test.YtkomikpfnogjcaaDoorPuS
namespace Go.Proofs.YtkomikpfnogjcaaDoor
open Go Go.Vc
set_option maxRecDepth 100000
set_option maxHeartbeats 8000000

def Dec.blk (d : Dec) (i : Nat) : Blk := .cells 51 [.vec i d.data.length, .val (.int .u64 d.br), .val (.int .u64 d.rb), .val (.int .u64 d.nb), .val (.int .u32 d.rng), .val (.int .u32 d.val)]
def Dec.dat (d : Dec) : Blk := .vec false 5 (encI .u8) [] 1 d.data
def lenB (yss : List (List Int)) : Blk := intB (yss.map fun y => (y.length : Int))
def amtB (yss : List (List Int)) : Blk := intB (yss.map fun y => (amt y : Int))
def famI (yss : List (List Int)) : Blk := .fam 3 (encI .i64) 1 yss
def outB (f : Nat) (yss : List (List Int)) : Blk := .vec true 22 encF [f] 1 (turns (yss.map List.length))
def readSt (yss : List (List Int)) (d : Dec) : Nat → S
  | 0 => ⟨[(1, .o (.c (.vec 0 yss.length))), (2, .o (.c (.vec 1 yss.length))), (6, .o (.c (.ptr 2 0))), (7, .o (.c (.ptr 3 0))), (8, .o (.c (.ptr 4 0))), (15, .o (.c (.vec 0 yss.length))), (16, .o (.c (.val (.int .i64 yss.length)))), (17, .o (.c (.val (.int .i64 ((0 : Nat) : Int)))))],
      [lenB yss, amtB yss, .cells 33 [.val (.slice none 0 0)], .cells 3 [.val (.int .i64 ((0 : Nat) : Int))], d.blk 5, d.dat]⟩
  | j + 1 => ⟨[(1, .o (.c (.vec 0 yss.length))), (2, .o (.c (.vec 1 yss.length))), (6, .o (.c (.ptr 2 0))), (7, .o (.c (.ptr 3 0))), (8, .o (.c (.ptr 4 0))), (15, .o (.c (.vec 0 yss.length))), (16, .o (.c (.val (.int .i64 yss.length)))), (17, .o (.c (.val (.int .i64 ((j + 1 : Nat) : Int)))))],
      [lenB yss, amtB yss, .cells 33 [.vec 6 (j + 1)], .cells 3 [.val (.int .i64 ((0 : Nat) : Int))], d.blk 5, d.dat, outB 7 (yss.take (j + 1)), famI (yss.take (j + 1))]⟩

theorem iPulseReadW (w0 : World) {b : ByteArray} {yss : List (List Int)} (hb : b.size ≤ 1099511627776) (hl : yss.length ≤ 20) (hg : ∀ y ∈ yss, goodV y) (hr : readsBack (Dec.init (bytesOf b)) (yss.map symV)) (hpos : 1 ≤ yss.length) :
    CallsA Tryd.prog w0 15 [.c (.val (.string b)), .c (.vec 0 yss.length), .c (.vec 1 yss.length)] [lenB yss, amtB yss] fun r H => r = .t [.c (.vec 3 yss.length), .c (.val (.int .i64 ((0 : Nat) : Int)))] ∧ H = [lenB yss, amtB yss, famI yss, outB 2 yss] := by
  have hbl := bytesOf_len b
  have hbb : ∀ x ∈ bytesOf b, 0 ≤ x ∧ x < 256 := bytesOf_lt b
  obtain ⟨hinv0, hdata, hrb⟩ := Dec.init_inv hbb (by omega)
  have hdi := decInit w0 hbb (by omega)
  obtain ⟨d0, hd0⟩ : ∃ d0, d0 = Dec.init (bytesOf b) := ⟨_, rfl⟩
  rw [← hd0] at hdi hinv0 hr hdata
  clear hd0
  refine callsA_of_evD c15_ ?_
  conv => whnf
  refine ⟨by omega, ?_⟩
  conv => whnf
  refine CallsA.lift (H0 := [.cells 51 [.val (.slice none 0 0), .val (.int .u64 0), .val (.int .u64 0), .val (.int .u64 0), .val (.int .u32 0), .val (.int .u32 0)], .vec false 5 (encI .u8) [] 1 (bytesOf b)]) [4, 5] rfl ⟨rfl, rfl, rfl, rfl, trivial⟩ rfl hdi ?_
  rintro _ _ ⟨rfl, rfl⟩
  conv => whnf
  refine Or.inl ?_
  conv => whnf
  refine ⟨{x : Nat × Dec // x.1 ≤ yss.length ∧ x.2.inv (33 + 48 * x.1) ∧ readsBack x.2 ((yss.drop x.1).map symV)}, fun ⟨⟨j, d⟩, _⟩ => readSt yss d j, fun x => yss.length - x.1.1,
    ⟨⟨(0, d0), Nat.zero_le _, hinv0, hr⟩, [0, 1, 2, 3, 4, 5], ⟨rfl, ⟨rfl, rfl, rfl, rfl, rfl, rfl, rfl, rfl, rfl, rfl, rfl, rfl, trivial⟩, rfl⟩, rfl, rfl, rfl, rfl, rfl, rfl, rfl, rfl, trivial⟩, fun ⟨⟨j, d⟩, hj, hinv, hrd⟩ => ?_⟩
  simp only at hj hinv hrd
  cases j with
  | zero =>
    have h3 : 0 < yss.length := hpos
    conv => whnf
    refine ⟨fun _ => ?_, fun g => absurd (lt_f g) (by omega)⟩
    obtain ⟨y, hy⟩ : ∃ y, yss[0]? = some y := ⟨_, List.getElem?_eq_getElem h3⟩
    have hgy := hg y (List.mem_of_getElem? hy)
    have hn2 := hgy.n2
    have hn16 := hgy.n16
    have hk1 := hgy.k1
    have hk20 := hgy.k20
    obtain ⟨hcv, hback⟩ := code_back (v := y) (k := amt y) rfl
    have hdr : yss.drop (0) = y :: yss.drop (0 + 1) := by
      rw [List.drop_eq_getElem_cons h3]
      rw [List.getElem?_eq_getElem h3] at hy
      rw [Option.some.inj hy]
    rw [hdr] at hrd
    obtain ⟨hr1, hr2⟩ : (d.whole (vv y.length (amt y))).1 = codeOf y (amt y) ∧ readsBack (d.whole (vv y.length (amt y))).2.2 ((yss.drop (0 + 1)).map symV) := hrd
    obtain ⟨hwi, hwd⟩ := Dec.whole_inv (n := vv y.length (amt y)) hinv (by omega) (by have := vv_two hn2 hk1; omega) hgy.vl
    have hpv := cPulseVectorW w0 hinv (by omega) hn2 (by omega) hk1 hk20 hgy.vl (vv_two hn2 hk1) (by rw [hr1]; exact hcv)
    rw [hr1, hback] at hpv
    obtain ⟨d2, hd2⟩ : ∃ d2, d2 = (d.whole (vv y.length (amt y))).2.2 := ⟨_, rfl⟩
    rw [← hd2] at hpv hr2 hwi hwd
    have hl0 : (yss.map fun y => (y.length : Int))[0]? = some (y.length : Int) := by rw [List.getElem?_map, hy]; rfl
    have hk0 : (yss.map fun y => (amt y : Int))[0]? = some (amt y : Int) := by rw [List.getElem?_map, hy]; rfl
    have htk : yss.take (0 + 1) = yss.take 0 ++ [y] := by rw [List.take_add_one, hy]; rfl
    have hlt : (yss.take 0).length = 0 := by rw [List.length_take]; omega
    conv => whnf
    refine Or.inl ?_
    conv => whnf
    refine ⟨by omega, ?_⟩
    conv => whnf
    refine ⟨_, hl0, ?_⟩
    conv => whnf
    refine Or.inl ?_
    conv => whnf
    refine ⟨fun g => absurd (ge_t g) (by omega), fun _ => ?_⟩
    conv => whnf
    refine ⟨by omega, ?_⟩
    conv => whnf
    refine ⟨_, hk0, ?_⟩
    conv => whnf
    refine CallsA.lift (H0 := d.H) [4, 5] rfl ⟨rfl, rfl, rfl, rfl, trivial⟩ rfl hpv ?_
    rintro _ _ ⟨rfl, rfl⟩
    conv => whnf
    refine ⟨⟨⟨rfl, rfl⟩, trivial⟩, ?_⟩
    conv => whnf
    refine ⟨⟨⟨rfl, rfl⟩, trivial⟩, ?_⟩
    conv => whnf
    refine ⟨[lenB yss, amtB yss, .cells 33 [.val (.slice none 0 0)], .cells 3 [.val (.int .i64 ((0 : Nat) : Int))], d2.blk 5, d2.dat, .dead, .cells 22 [.mem 9 0 y.length], .dead] ++ [famI ([] ++ [y])],
      (Ghost.fam0 w0 _ 3 (encI .i64) 1 (by omega) (fun _ => rfl)).trans (Ghost.joinL 8 6 (xss := []) (zs := y) (wr := true) rfl rfl ⟨.keep (by decide) (by decide), .keep (by decide) (by decide), .keep (by decide) (by decide), .keep (by decide) (by decide), .keep (by decide) (by decide), .keep (by decide) (by decide), .dead, .cells (by decide) (by decide) rfl, .dead, trivial⟩), ?_⟩
    conv => whnf
    refine ⟨by omega, Nat × Nat, encF, [9], [(0, y.length)], fun x => encF_len _ x, ⟨rfl, rfl, rfl⟩, by show 1 * 24 ≤ _; omega, by show 1 ≤ _; omega, ?_⟩
    conv => whnf
    refine ⟨trivial, ?_⟩
    conv => whnf
    refine ⟨trivial, ?_⟩
    conv => whnf
    refine ⟨⟨(1, d2), h3, hwi, hr2⟩, ⟨[0, 1, 2, 3, 4, 5, 10, 9], ⟨rfl, ⟨rfl, rfl, rfl, rfl, rfl, rfl, rfl, rfl, rfl, rfl, rfl, rfl, ?_, rfl, ?_, rfl, trivial⟩, rfl⟩, rfl, rfl, rfl, rfl, rfl, rfl, rfl, eq_i64 ?_, trivial⟩, ?_⟩
    · show some (Blk.vec true 22 encF [9] 1 [(0, y.length)]) = some (Blk.vec true 22 encF [9] 1 (turns ((yss.take (0 + 1)).map List.length)))
      rw [htk]
      rfl
    · show some (famI ([] ++ [y])) = some (famI (yss.take (0 + 1)))
      rw [htk]
      rfl
    · rw [nadd, nwrapi (by omega)]
    · show yss.length - 1 < yss.length - 0
      omega
  | succ j =>
    conv => whnf
    refine ⟨fun h3 => ?_, fun h3 => ?_⟩
    · have h3 : j + 1 < yss.length := lt_t h3
      obtain ⟨y, hy⟩ : ∃ y, yss[(j + 1)]? = some y := ⟨_, List.getElem?_eq_getElem h3⟩
      have hgy := hg y (List.mem_of_getElem? hy)
      have hn2 := hgy.n2
      have hn16 := hgy.n16
      have hk1 := hgy.k1
      have hk20 := hgy.k20
      obtain ⟨hcv, hback⟩ := code_back (v := y) (k := amt y) rfl
      have hdr : yss.drop ((j + 1)) = y :: yss.drop ((j + 1) + 1) := by
        rw [List.drop_eq_getElem_cons h3]
        rw [List.getElem?_eq_getElem h3] at hy
        rw [Option.some.inj hy]
      rw [hdr] at hrd
      obtain ⟨hr1, hr2⟩ : (d.whole (vv y.length (amt y))).1 = codeOf y (amt y) ∧ readsBack (d.whole (vv y.length (amt y))).2.2 ((yss.drop ((j + 1) + 1)).map symV) := hrd
      obtain ⟨hwi, hwd⟩ := Dec.whole_inv (n := vv y.length (amt y)) hinv (by omega) (by have := vv_two hn2 hk1; omega) hgy.vl
      have hpv := cPulseVectorW w0 hinv (by omega) hn2 (by omega) hk1 hk20 hgy.vl (vv_two hn2 hk1) (by rw [hr1]; exact hcv)
      rw [hr1, hback] at hpv
      obtain ⟨d2, hd2⟩ : ∃ d2, d2 = (d.whole (vv y.length (amt y))).2.2 := ⟨_, rfl⟩
      rw [← hd2] at hpv hr2 hwi hwd
      have hl0 : (yss.map fun y => (y.length : Int))[(j + 1)]? = some (y.length : Int) := by rw [List.getElem?_map, hy]; rfl
      have hk0 : (yss.map fun y => (amt y : Int))[(j + 1)]? = some (amt y : Int) := by rw [List.getElem?_map, hy]; rfl
      have htk : yss.take ((j + 1) + 1) = yss.take (j + 1) ++ [y] := by rw [List.take_add_one, hy]; rfl
      have hlt : (yss.take (j + 1)).length = (j + 1) := by rw [List.length_take]; omega
      conv => whnf
      refine Or.inl ?_
      conv => whnf
      refine ⟨by omega, ?_⟩
      conv => whnf
      refine ⟨_, hl0, ?_⟩
      conv => whnf
      refine Or.inl ?_
      conv => whnf
      refine ⟨fun g => absurd (ge_t g) (by omega), fun _ => ?_⟩
      conv => whnf
      refine ⟨by omega, ?_⟩
      conv => whnf
      refine ⟨_, hk0, ?_⟩
      conv => whnf
      refine CallsA.lift (H0 := d.H) [4, 5] rfl ⟨rfl, rfl, rfl, rfl, trivial⟩ rfl hpv ?_
      rintro _ _ ⟨rfl, rfl⟩
      conv => whnf
      refine ⟨⟨⟨rfl, rfl⟩, trivial⟩, ?_⟩
      conv => whnf
      refine ⟨⟨⟨rfl, rfl⟩, trivial⟩, ?_⟩
      conv => whnf
      refine ⟨[lenB yss, amtB yss, .cells 33 [.vec 6 (j + 1)], .cells 3 [.val (.int .i64 ((0 : Nat) : Int))], d2.blk 5, d2.dat, outB 10 (yss.take (j + 1)), .dead, .dead, .cells 22 [.mem 10 (yss.take (j + 1)).length y.length]] ++ [famI (yss.take (j + 1) ++ [y])],
        Ghost.joinL 7 8 (xss := yss.take (j + 1)) (zs := y) (wr := true) rfl rfl ⟨.keep (by decide) (by decide), .keep (by decide) (by decide), .keep (by decide) (by decide), .keep (by decide) (by decide), .keep (by decide) (by decide), .keep (by decide) (by decide), .vec (by decide) (by decide) rfl (fun x => encF_len _ x) (flat_tau _ _ _ _ _).symm, .dead, .dead, .cells (by decide) (by decide) rfl, trivial⟩, ?_⟩
      conv => whnf
      refine ⟨?_, [((yss.take (j + 1)).length, y.length)], ⟨rfl, rfl, rfl⟩, ?_, ?_, ?_⟩
      · rw [turns_len, List.length_map, hlt]
      · rw [List.length_append, turns_len, List.length_map, hlt]
        show (j + 1 + 1) * 24 ≤ _
        omega
      · rw [List.length_append, turns_len, List.length_map, hlt]
        show j + 1 + 1 ≤ _
        omega
      conv => whnf
      refine ⟨trivial, ?_⟩
      conv => whnf
      refine ⟨trivial, ?_⟩
      conv => whnf
      have hlen2 : (turns ((yss.take (j + 1)).map List.length) ++ [((yss.take (j + 1)).length, y.length)]) = turns ((yss.take (j + 1 + 1)).map List.length) := by
        rw [htk, List.map_append]
        show _ = turns (_ ++ [y.length])
        rw [turns_snoc, List.length_map]
      have hlen3 : (turns ((yss.take (j + 1)).map List.length) ++ [((yss.take (j + 1)).length, y.length)]).length = j + 1 + 1 := by
        rw [List.length_append, turns_len, List.length_map, hlt]
        rfl
      refine ⟨⟨(j + 1 + 1, d2), h3, hwi, hr2⟩, ⟨[0, 1, 2, 3, 4, 5, 11, 10], ⟨rfl, ⟨rfl, rfl, rfl, rfl, ?_, rfl, rfl, rfl, rfl, rfl, rfl, rfl, ?_, rfl, ?_, rfl, trivial⟩, rfl⟩, rfl, rfl, rfl, rfl, rfl, rfl, rfl, eq_i64 ?_, trivial⟩, ?_⟩
      · show some (Blk.cells 33 [CV.vec 11 (turns ((yss.take (j + 1)).map List.length) ++ [((yss.take (j + 1)).length, y.length)]).length]) = some (Blk.cells 33 [CV.vec 11 (j + 1 + 1)])
        rw [hlen3]
      · show some (Blk.vec true 22 encF [10] 1 (turns ((yss.take (j + 1)).map List.length) ++ [((yss.take (j + 1)).length, y.length)])) = some (Blk.vec true 22 encF [10] 1 (turns ((yss.take (j + 1 + 1)).map List.length)))
        rw [hlen2]
      · show some (famI (yss.take (j + 1) ++ [y])) = some (famI (yss.take (j + 1 + 1)))
        rw [htk]
      · rw [nadd, nwrapi (by omega)]
      · show yss.length - (j + 1 + 1) < yss.length - (j + 1)
        omega
    · have h3 : yss.length ≤ j + 1 := lt_f h3
      have hjl : yss.length = j + 1 := by omega
      conv => whnf
      refine Or.inr ⟨[0, 1, 7, 6], .t [.c (.vec 3 (j + 1)), .c (.val (.int .i64 ((0 : Nat) : Int)))], [lenB yss, amtB yss, famI (yss.take (j + 1)), outB 2 (yss.take (j + 1))], ⟨rfl, ⟨rfl, rfl, rfl, rfl, rfl, rfl, rfl, rfl, trivial⟩, rfl⟩, rfl, ?_, ?_⟩
      · rw [hjl]
      · rw [List.take_of_length_le (by omega)]
end Go.Proofs.YtkomikpfnogjcaaDoor
