/- Vectors that are written to a frame, one behind the other, are read from it as they were. -/
import Derived.Test.YtkomikpfnogjcaaDoorPuT
namespace Go.Proofs.YtkomikpfnogjcaaDoor
open Go Go.Vc
set_option maxRecDepth 100000
set_option maxHeartbeats 8000000

theorem numsAt (w0 : World) (hp : pows w0) {v : Value} {ys : List Int} (hv : intsAt w0 v ys) (hl : ys.length ≤ 1099511627776) : CallsA Tryd.prog w0 10 [.c (.val v)] [] fun r H => r = .o (.c (.val (.string (strOf (numsL ys))))) ∧ H = [] := by
  rcases hv with ⟨rfl, rfl⟩ | ⟨a, c, rfl, h1, h2, h3⟩
  · refine callsA_of_ev c10_ ?_
    conv => whnf
    refine Or.inl ?_
    conv => whnf
    refine ⟨Unit, fun _ => ⟨[(3, .o (.c (.val (.string (ByteArray.mk #[91]))))), (6, .o (.c (.val (.slice none 0 0)))), (7, .o (.c (.val (.int .i64 ((0 : Nat) : Int))))), (8, .o (.c (.val (.int .i64 ((0 : Nat) : Int)))))], []⟩, fun _ => 0, ⟨(), [], ⟨rfl, trivial, rfl⟩, rfl, rfl, rfl, rfl, trivial⟩, fun _ => ?_⟩
    conv => whnf
    refine ⟨fun g => absurd g (by decide), fun _ => ?_⟩
    conv => whnf
    refine ⟨by decide, ?_⟩
    conv => whnf
    exact Or.inl ⟨rfl, rfl⟩
  · exact numsM w0 hp (fun i x hx => (h3 i x hx).2) hl (fun x hx => by
      obtain ⟨i, hi⟩ := List.mem_iff_getElem?.1 hx
      exact (h3 i x hi).1)
def rowsL (yss : List (List Int)) : List Int := 91 :: yss.flatMap numsL ++ [93]
theorem numsL_len {l : List Int} (h : ∀ x ∈ l, x.natAbs < 18446744073709551616) : (numsL l).length ≤ 22 * l.length + 2 := by
  have := numL_len h
  unfold numsL
  rw [List.length_append, List.length_cons]
  show _ + 1 + 1 ≤ _
  omega
theorem rowsL_len : ∀ {l : List (List Int)} {n : Nat}, (∀ y ∈ l, y.length ≤ n ∧ ∀ x ∈ y, x.natAbs < 18446744073709551616) → (l.flatMap numsL).length ≤ l.length * (22 * n + 2)
  | [], _, _ => Nat.zero_le _
  | y :: r, n, h => by
    have h1 := rowsL_len (l := r) (n := n) fun z hz => h z (List.mem_cons_of_mem _ hz)
    obtain ⟨h2, h3⟩ := h y (List.mem_cons_self ..)
    have h4 := numsL_len h3
    rw [List.flatMap_cons, List.length_append, List.length_cons, Nat.succ_mul]
    omega
theorem rowsW (w0 : World) (hp : pows w0) {A : Option Addr} {ys : List (Value × List Int)} {c : Nat} (hv : rowsAt w0 A ys) (hl : ys.length ≤ 1000) (hin : ∀ x ∈ ys, x.2.length ≤ 1000000) :
    CallsA Tryd.prog w0 16 [.c (.val (.slice A ys.length c))] [] fun r H => r = .o (.c (.val (.string (strOf (rowsL (ys.map (·.2))))))) ∧ H = [] := by
  have hb64 : ∀ x ∈ ys, ∀ z ∈ x.2, z.natAbs < 18446744073709551616 := by
    intro x hx z hz
    obtain ⟨i, hi⟩ := List.mem_iff_getElem?.1 hx
    obtain ⟨a, _, _, hii⟩ := hv.at_ i x hi
    rcases hii with ⟨_, h⟩ | ⟨_, _, _, _, _, h⟩
    · rw [h] at hz; cases hz
    · obtain ⟨k, hk⟩ := List.mem_iff_getElem?.1 hz
      have := (h k z hk).1
      omega
  have hsz : ∀ j, j ≤ ys.length → (((ys.take j).map (·.2)).flatMap numsL).length ≤ 1000 * (22 * 1000000 + 2) := by
    intro j hj
    have := rowsL_len (l := (ys.take j).map (·.2)) (n := 1000000) (by
      intro y hy
      obtain ⟨x, hx, rfl⟩ := List.mem_map.1 hy
      have hx := List.mem_of_mem_take hx
      exact ⟨hin x hx, hb64 x hx⟩)
    rw [List.length_map, List.length_take] at this
    have h2 : min j ys.length ≤ 1000 := by omega
    exact Nat.le_trans this (Nat.mul_le_mul_right _ h2)
  refine callsA_of_ev c16_ ?_
  conv => whnf
  refine Or.inl ?_
  conv => whnf
  refine ⟨_root_.Fin (ys.length + 1), fun ⟨j, _⟩ => ⟨[(3, .o (.c (.val (.string (strOf (91 :: ((ys.take j).map (·.2)).flatMap numsL)))))), (6, .o (.c (.val (.slice A ys.length c)))), (7, .o (.c (.val (.int .i64 ys.length)))), (8, .o (.c (.val (.int .i64 j))))], []⟩, fun j => ys.length - j.1, ⟨⟨0, by omega⟩, [], ⟨rfl, trivial, rfl⟩, rfl, rfl, rfl, rfl, trivial⟩, fun ⟨j, hj⟩ => ?_⟩
  have hszj := hsz j (by omega)
  conv => whnf
  refine ⟨fun h3 => ?_, fun h3 => ?_⟩
  · have h3 : j < ys.length := lt_t h3
    obtain ⟨⟨z, zs⟩, hxj⟩ : ∃ x, ys[j]? = some x := ⟨_, List.getElem?_eq_getElem h3⟩
    obtain ⟨a, rfl, hxc, hzs⟩ := hv.at_ j _ hxj
    have hzl := hin _ (List.mem_of_getElem? hxj)
    have hzb := hb64 _ (List.mem_of_getElem? hxj)
    simp only at hxc hzs hzl hzb
    have hz1 : z.oneCell' = true := by rcases hzs with ⟨rfl, _⟩ | ⟨_, _, rfl, _⟩ <;> rfl
    have hnl := numsL_len hzb
    conv => whnf
    refine ⟨by omega, ?_⟩
    conv => whnf
    refine ⟨_, hxc, hz1, ?_⟩
    conv => whnf
    refine (numsAt w0 hp hzs (by omega)).mono ?_
    rintro _ _ ⟨rfl, rfl⟩
    conv => whnf
    refine ⟨?_, ?_⟩
    · show (strOf (91 :: ((ys.take j).map (·.2)).flatMap numsL)).size + (strOf (numsL zs)).size ≤ 9223372036854775807
      rw [strOf_size', strOf_size', List.length_cons]
      omega
    conv => whnf
    refine ⟨⟨j + 1, by omega⟩, ⟨[], ⟨rfl, trivial, rfl⟩, ?_, rfl, rfl, eq_i64 ?_, trivial⟩, ?_⟩
    · show some (AV.o (.c (.val (.string (strOf (91 :: ((ys.take j).map (·.2)).flatMap numsL) ++ strOf (numsL zs)))))) = some (AV.o (.c (.val (.string (strOf (91 :: ((ys.take (j + 1)).map (·.2)).flatMap numsL))))))
      rw [← strOf_append', List.cons_append, List.take_add_one, hxj]
      rw [Option.toList_some, List.map_append, List.flatMap_append, List.map_cons, List.map_nil, List.flatMap_singleton]
    · rw [nadd, nwrapi (by omega)]
    · show ys.length - (j + 1) < ys.length - j
      omega
  · have h3 : ys.length ≤ j := lt_f h3
    rw [List.take_of_length_le h3] at hszj ⊢
    conv => whnf
    refine ⟨?_, ?_⟩
    · show (strOf (91 :: (ys.map (·.2)).flatMap numsL)).size + 1 ≤ 9223372036854775807
      rw [strOf_size', List.length_cons]
      omega
    conv => whnf
    refine Or.inl ⟨?_, rfl⟩
    show AV.o (.c (.val (.string (strOf (91 :: (ys.map (·.2)).flatMap numsL) ++ strOf [93])))) = _
    rw [← strOf_append']
    rfl
theorem zzFits4W (w0 : World) {A : Option Addr} {ys : List (Value × List Int)} {c : Nat} (hv : rowsAt w0 A ys) :
    CallsA Tryd.prog w0 13 [.c (.val (.slice A ys.length c))] [] fun r H => (∃ b : Bool, r = .o (.c (.val (.bool b))) ∧ (b = true → ∀ x ∈ ys, x.2.length ≤ 2147483647)) ∧ H = [] := by
  refine callsA_of_ev c13_ ?_
  conv => whnf
  refine Or.inl ?_
  conv => whnf
  refine ⟨fun _ => ?_, fun g => ?_⟩
  · conv => whnf
    exact Or.inl ⟨⟨_, rfl, fun h => by cases h⟩, rfl⟩
  have g : ys.length ≤ 2147483647 := gt_f g
  conv => whnf
  refine Or.inl ?_
  conv => whnf
  refine ⟨{j : Nat // j ≤ ys.length ∧ ∀ x ∈ ys.take j, x.2.length ≤ 2147483647}, fun ⟨j, _⟩ => ⟨[(8, .o (.c (.val (.slice A ys.length c)))), (9, .o (.c (.val (.int .i64 ys.length)))), (10, .o (.c (.val (.int .i64 j))))], []⟩, fun j => ys.length - j.1, ⟨⟨0, by omega, fun x hx => by cases hx⟩, [], ⟨rfl, trivial, rfl⟩, rfl, rfl, rfl, trivial⟩, fun ⟨j, hj, hjx⟩ => ?_⟩
  conv => whnf
  refine ⟨fun h3 => ?_, fun h3 => ?_⟩
  · have h3 : j < ys.length := lt_t h3
    obtain ⟨⟨z, zs⟩, hxj⟩ : ∃ x, ys[j]? = some x := ⟨_, List.getElem?_eq_getElem h3⟩
    obtain ⟨a, rfl, hxc, hzs⟩ := hv.at_ j _ hxj
    simp only at hxc hzs
    obtain ⟨Az, cz, rfl⟩ : ∃ A c, z = .slice A zs.length c := by
      rcases hzs with ⟨rfl, rfl⟩ | ⟨a, c, rfl, _⟩
      · exact ⟨none, 0, rfl⟩
      · exact ⟨_, _, rfl⟩
    conv => whnf
    refine Or.inl ?_
    conv => whnf
    refine ⟨by omega, ?_⟩
    conv => whnf
    refine ⟨_, hxc, rfl, ?_⟩
    conv => whnf
    refine ⟨fun _ => ?_, fun g2 => ?_⟩
    · conv => whnf
      exact Or.inl ⟨⟨_, rfl, fun h => by cases h⟩, rfl⟩
    have g2 : zs.length ≤ 2147483647 := gt_f g2
    conv => whnf
    refine ⟨⟨j + 1, by omega, fun x hx => ?_⟩, ⟨[], ⟨rfl, trivial, rfl⟩, rfl, rfl, eq_i64 ?_, trivial⟩, ?_⟩
    · rw [List.take_add_one, hxj] at hx
      rcases List.mem_append.1 hx with hx | hx
      · exact hjx x hx
      · have : x = (.slice Az zs.length cz, zs) := by simpa using hx
        rw [this]
        exact g2
    · rw [nadd, nwrapi (by omega)]
    · show ys.length - (j + 1) < ys.length - j
      omega
  · have h3 : ys.length ≤ j := lt_f h3
    rw [List.take_of_length_le h3] at hjx
    conv => whnf
    exact Or.inl ⟨⟨_, rfl, fun _ => hjx⟩, rfl⟩
theorem iPulseRead0 (w0 : World) {b : ByteArray} (hb : b.size ≤ 1099511627776) :
    CallsA Tryd.prog w0 15 [.c (.val (.string b)), .c (.val (.slice none 0 0)), .c (.val (.slice none 0 0))] [] fun r H => r = .t [.c (.val (.slice none 0 0)), .c (.val (.int .i64 ((0 : Nat) : Int)))] ∧ H = [] := by
  have hbl := bytesOf_len b
  have hbb : ∀ x ∈ bytesOf b, 0 ≤ x ∧ x < 256 := bytesOf_lt b
  have hdi := decInit w0 hbb (by omega)
  obtain ⟨d0, hd0⟩ : ∃ d0, d0 = Dec.init (bytesOf b) := ⟨_, rfl⟩
  rw [← hd0] at hdi
  refine callsA_of_evD c15_ ?_
  conv => whnf
  refine ⟨by omega, ?_⟩
  conv => whnf
  refine CallsA.lift (H0 := [.cells 51 [.val (.slice none 0 0), .val (.int .u64 0), .val (.int .u64 0), .val (.int .u64 0), .val (.int .u32 0), .val (.int .u32 0)], .vec false 5 (encI .u8) [] 1 (bytesOf b)]) [2, 3] rfl ⟨rfl, rfl, rfl, rfl, trivial⟩ rfl hdi ?_
  rintro _ _ ⟨rfl, rfl⟩
  conv => whnf
  refine Or.inl ?_
  conv => whnf
  refine ⟨Unit, fun _ => ⟨[(6, .o (.c (.ptr 0 0))), (7, .o (.c (.ptr 1 0))), (16, .o (.c (.val (.int .i64 ((0 : Nat) : Int))))), (17, .o (.c (.val (.int .i64 ((0 : Nat) : Int)))))], [.cells 33 [.val (.slice none 0 0)], .cells 3 [.val (.int .i64 ((0 : Nat) : Int))]]⟩, fun _ => 0, ⟨(), [0, 1], ⟨rfl, ⟨rfl, rfl, rfl, rfl, trivial⟩, rfl⟩, rfl, rfl, rfl, rfl, trivial⟩, fun _ => ?_⟩
  conv => whnf
  refine ⟨fun g => absurd g (by decide), fun _ => ?_⟩
  conv => whnf
  exact Or.inr ⟨[], .t [.c (.val (.slice none 0 0)), .c (.val (.int .i64 ((0 : Nat) : Int)))], [], ⟨rfl, trivial, rfl⟩, rfl, rfl, rfl⟩
end Go.Proofs.YtkomikpfnogjcaaDoor
