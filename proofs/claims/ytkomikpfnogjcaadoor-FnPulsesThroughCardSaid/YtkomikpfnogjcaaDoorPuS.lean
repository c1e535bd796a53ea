/- Vectors that are written to a frame. -/
import Derived.Test.YtkomikpfnogjcaaDoorPuQ
namespace Go.Proofs.YtkomikpfnogjcaaDoor
open Go Go.Vc
set_option maxRecDepth 100000
set_option maxHeartbeats 8000000

theorem encodePulsesM (w0 : World) {ys : List Int} {a : Addr} {c k : Nat} (hb : ∀ (i : Nat) x, ys[i]? = some x → w0.cell? (a.add (i * 1)) = some (.int .i64 x)) (hn : 2 ≤ ys.length) (hn2 : ys.length ≤ 20) (hk : 1 ≤ k) (hk2 : k ≤ 20) (ha : amt ys = k) (hv : vv ys.length k < 4294967296) {e : EncS} {N : Nat} (hN : N ≤ 1048400) (h : e.inv N) :
    CallsA Tryd.prog w0 71 [.c (.val (.slice (some a) ys.length c)), .c (.val (.int .i64 ys.length)), .c (.val (.int .i64 k)), .c (.ptr 0 0)] e.H fun r H => r = .t [] ∧ H = (e.whole (vv ys.length k) (codeOf ys k)).M := by
  obtain ⟨hcv, _⟩ := code_back ha
  have hv2 := vv_two hn hk
  have heu := encUniform w0 e hN h hv2 hv hcv
  obtain ⟨e', he'⟩ : ∃ e', e' = e.whole (vv ys.length k) (codeOf ys k) := ⟨_, rfl⟩
  rw [← he'] at heu ⊢
  have g1 : (tabl (k + 2) (um (ys.length - 1)))[k]? = some ((um (ys.length - 1) k : Nat) : Int) := tabl_get (by omega)
  have g2 : (tabl (k + 2) (um (ys.length - 1)))[k + 1]? = some ((um (ys.length - 1) (k + 1) : Nat) : Int) := tabl_get (by omega)
  refine callsA_of_ev c71_ ?_
  conv => whnf
  refine Or.inl ?_
  conv => whnf
  refine ⟨fun g => absurd (show k ≤ 0 from le_t g) (by omega), fun _ => ?_⟩
  conv => whnf
  refine CallsA.lift (H0 := []) [] rfl trivial rfl (cwrsEncodeM w0 (c := c) hb (by omega) hn2 hk hk2 ha hv) ?_
  rintro _ _ ⟨rfl, rfl⟩
  conv => whnf
  refine CallsA.lift (H0 := []) [] rfl trivial rfl (urowW w0 (n := ys.length) (k := k) (by omega) (by omega) hk (by omega)) ?_
  rintro _ _ ⟨rfl, rfl⟩
  conv => whnf
  refine ⟨by omega, ?_⟩
  conv => whnf
  refine ⟨_, g1, ?_⟩
  conv => whnf
  rw [nadd k 1, nwrapi (n := k + 1) (by omega)]
  refine ⟨by omega, ?_⟩
  conv => whnf
  refine ⟨_, g2, ?_⟩
  conv => whnf
  have hsum : IntKind.u32.wrap (((um (ys.length - 1) k : Nat) : Int) + ((um (ys.length - 1) (k + 1) : Nat) : Int)) = ((vv ys.length k : Nat) : Int) := by
    rw [nadd, nwrapm]
    obtain ⟨x, hx⟩ : ∃ x, ys.length = x + 1 := ⟨ys.length - 1, by omega⟩
    rw [hx] at hv ⊢
    rw [Nat.add_sub_cancel]
    rw [vv_uu] at hv ⊢
    unfold um
    omega
  rw [hsum]
  refine CallsA.lift (H0 := e.H) [0, 1, 2] rfl ⟨rfl, rfl, rfl, rfl, rfl, rfl, trivial⟩ rfl heu ?_
  rintro _ _ ⟨rfl, rfl⟩
  conv => whnf
  exact EncS.finM 4 5 rfl rfl rfl (Nat.le_of_ble_eq_true rfl) rfl
theorem cPulseWriteM (w0 : World) {ys : List Int} {a : Addr} {c k : Nat} (hb : ∀ (i : Nat) x, ys[i]? = some x → w0.cell? (a.add (i * 1)) = some (.int .i64 x)) (hn : 2 ≤ ys.length) (hn2 : ys.length ≤ 20) (hk : 1 ≤ k) (hk2 : k ≤ 20) (ha : amt ys = k) (hv : vv ys.length k < 4294967296) {e : EncS} {N : Nat} (hN : N ≤ 1048400) (h : e.inv N) :
    CallsA Tryd.prog w0 33 [.c (.val (.slice (some a) ys.length c)), .c (.val (.int .i64 ys.length)), .c (.val (.int .i64 k)), .c (.ptr 0 0)] e.H fun r H => r = .t [] ∧ H = (e.whole (vv ys.length k) (codeOf ys k)).M := by
  refine callsA_of_ev c33_ ?_
  conv => whnf
  refine (encodePulsesM w0 hb hn hn2 hk hk2 ha hv hN h).mono ?_
  rintro _ _ ⟨rfl, rfl⟩
  conv => whnf
  exact Or.inl ⟨rfl, rfl⟩
/-- Vectors as FnPulseIndex asks them. -/
structure goodV (ys : List Int) : Prop where
  n2 : 2 ≤ ys.length
  n16 : ys.length ≤ 16
  k1 : 1 ≤ amt ys
  k20 : amt ys ≤ 20
  vl : vv ys.length (amt ys) < 4294967296
def symV (ys : List Int) : Nat × Nat := (vv ys.length (amt ys), codeOf ys (amt ys))
theorem goodV.le {ys : List Int} (h : goodV ys) : ∀ x ∈ ys, x.natAbs ≤ 20 := fun x hx => Nat.le_trans (amt_mem hx) h.k20
theorem goodV.ok {l : List (List Int)} (h : ∀ ys ∈ l, goodV ys) : wholeOk (l.map symV) := by
  intro x hx
  obtain ⟨ys, hy, rfl⟩ := List.mem_map.1 hx
  have g := h ys hy
  obtain ⟨hcv, _⟩ := code_back (v := ys) rfl
  exact ⟨vv_two g.n2 g.k1, g.vl, hcv⟩
theorem wholes_snoc : ∀ (l : List (Nat × Nat)) (e : EncS) (x : Nat × Nat), e.wholes (l ++ [x]) = (e.wholes l).whole x.1 x.2
  | [], _, _ => rfl
  | y :: r, e, x => wholes_snoc r (e.whole y.1 y.2) x
/-- A slice of slices of whole numbers that came in. -/
def intssAt (w0 : World) (v : Value) (ys : List (Value × List Int)) : Prop := (v = .slice none 0 0 ∧ ys = []) ∨ ∃ a c, v = .slice (some a) ys.length c ∧ ys.length ≤ c ∧ c ≤ 9223372036854775807 ∧ ∀ (i : Nat) x, ys[i]? = some x → w0.cell? (a.add (i * 1)) = some x.1 ∧ intsAt w0 x.1 x.2
theorem intssAt.lens {w0 : World} {v : Value} {ys : List (Value × List Int)} (h : intssAt w0 v ys) : ys.length ≤ 9223372036854775807 := by
  rcases h with ⟨_, rfl⟩ | ⟨a, c, _, h1, h2, _⟩
  · exact Nat.zero_le _
  · omega
/-- The same, however the outer slice is empty. -/
structure rowsAt (w0 : World) (A : Option Addr) (ys : List (Value × List Int)) : Prop where
  len : ys.length ≤ 9223372036854775807
  at_ : ∀ (i : Nat) x, ys[i]? = some x → ∃ a, A = some a ∧ w0.cell? (a.add (i * 1)) = some x.1 ∧ intsAt w0 x.1 x.2
theorem intssAt.rows {w0 : World} {v : Value} {ys : List (Value × List Int)} (h : intssAt w0 v ys) : ∃ A c, v = .slice A ys.length c ∧ rowsAt w0 A ys := by
  rcases h with ⟨rfl, rfl⟩ | ⟨a, c, rfl, h1, h2, h3⟩
  · exact ⟨none, 0, rfl, Nat.zero_le _, fun i x hx => by simp at hx⟩
  · exact ⟨some a, c, rfl, by omega, fun i x hx => ⟨a, rfl, h3 i x hx⟩⟩

theorem iPulseWriteW (w0 : World) {A : Option Addr} {ys : List (Value × List Int)} {c : Nat} (hv : rowsAt w0 A ys) (hl : ys.length ≤ 20) (hg : ∀ x ∈ ys, goodV x.2) :
    CallsA Tryd.prog w0 14 [.c (.val (.slice A ys.length c))] [] fun r H => r = .t [.c (.val (.string (strOf (EncS.init.wholes (ys.map fun x => symV x.2)).done))), .c (.val (.int .i64 ((0 : Nat) : Int)))] ∧ H = [] := by
  have hok : wholeOk (ys.map fun x => symV x.2) := by
    have := goodV.ok (l := ys.map (·.2)) (by
      intro y hy
      obtain ⟨x, hx, rfl⟩ := List.mem_map.1 hy
      exact hg x hx)
    rw [List.map_map] at this
    exact this
  refine callsA_of_evD c14_ ?_
  conv => whnf
  refine CallsA.lift (H0 := [.cells 47 [.val (.slice none 0 0), .val (.slice none 0 0), .val (.int .u64 0), .val (.int .u64 0), .val (.int .u32 0), .val (.int .u32 0), .val (.int .i64 0), .val (.int .i64 0), .val (.int .u64 0)]]) [2] rfl ⟨rfl, rfl, trivial⟩ rfl (encInit w0) ?_
  rintro _ _ ⟨rfl, rfl⟩
  conv => whnf
  refine Or.inl ?_
  conv => whnf
  refine ⟨_root_.Fin (ys.length + 1), fun ⟨j, _⟩ => ⟨[(2, .o (.c (.ptr 0 0))), (3, .o (.c (.ptr 1 0))), (4, .o (.c (.ptr 2 0))), (12, .o (.c (.val (.slice A ys.length c)))), (13, .o (.c (.val (.int .i64 ys.length)))), (14, .o (.c (.val (.int .i64 j))))],
      [.cells 9 [.val (.string (ByteArray.mk #[]))], .cells 3 [.val (.int .i64 ((0 : Nat) : Int))], (EncS.init.wholes ((ys.take j).map fun x => symV x.2)).blk 3 4, byteBlk (EncS.init.wholes ((ys.take j).map fun x => symV x.2)).buf, byteBlk (EncS.init.wholes ((ys.take j).map fun x => symV x.2)).tail]⟩, fun j => ys.length - j.1,
    ⟨⟨0, by omega⟩, [0, 1, 2, 3, 4], ⟨rfl, ⟨rfl, rfl, rfl, rfl, rfl, rfl, rfl, rfl, rfl, rfl, trivial⟩, rfl⟩, rfl, rfl, rfl, rfl, rfl, rfl, trivial⟩, fun ⟨j, hj⟩ => ?_⟩
  have hinv := wholes_inv (l := (ys.take j).map fun x => symV x.2) EncS.init_inv (fun y hy => hok y (by
    obtain ⟨x, hx, rfl⟩ := List.mem_map.1 hy
    exact List.mem_map.2 ⟨x, List.mem_of_mem_take hx, rfl⟩))
  rw [List.length_map, List.length_take] at hinv
  obtain ⟨e, he⟩ : ∃ e, e = EncS.init.wholes ((ys.take j).map fun x => symV x.2) := ⟨_, rfl⟩
  rw [← he] at hinv
  conv => whnf
  rw [← he]
  refine ⟨fun h3 => ?_, fun h3 => ?_⟩
  · have h3 : j < ys.length := lt_t h3
    obtain ⟨⟨z, zs⟩, hxj⟩ : ∃ x, ys[j]? = some x := ⟨_, List.getElem?_eq_getElem h3⟩
    obtain ⟨a, rfl, hxc, hzs⟩ := hv.at_ j _ hxj
    have hgz := hg _ (List.mem_of_getElem? hxj)
    simp only at hxc hzs hgz
    obtain ⟨az, cz, rfl, hz1, hz2, hzc⟩ : ∃ a c, z = .slice (some a) zs.length c ∧ zs.length ≤ c ∧ c ≤ 9223372036854775807 ∧ ∀ (i : Nat) x, zs[i]? = some x → (-9223372036854775808 ≤ x ∧ x < 9223372036854775808) ∧ w0.cell? (a.add (i * 1)) = some (.int .i64 x) := by
      rcases hzs with ⟨_, rfl⟩ | h
      · exact absurd hgz.n2 (by simp)
      · exact h
    have hn2 := hgz.n2
    have hn16 := hgz.n16
    have hk1 := hgz.k1
    have hk20 := hgz.k20
    conv => whnf
    refine Or.inl ?_
    conv => whnf
    refine ⟨by omega, ?_⟩
    conv => whnf
    refine ⟨_, hxc, rfl, ?_⟩
    conv => whnf
    refine Or.inl ?_
    conv => whnf
    refine ⟨_root_.Fin (zs.length + 1), fun ⟨i, _⟩ => ⟨[(2, .o (.c (.ptr 0 0))), (3, .o (.c (.ptr 1 0))), (4, .o (.c (.ptr 2 0))), (6, .o (.c (.val (.slice (some az) zs.length cz)))), (7, .o (.c (.val (.int .i64 (amt (zs.take i) : Nat))))), (12, .o (.c (.val (.slice (some a) ys.length c)))), (13, .o (.c (.val (.int .i64 ys.length)))), (14, .o (.c (.val (.int .i64 j)))), (18, .o (.c (.val (.slice (some az) zs.length cz)))), (19, .o (.c (.val (.int .i64 zs.length)))), (20, .o (.c (.val (.int .i64 i))))],
        [.cells 9 [.val (.string (ByteArray.mk #[]))], .cells 3 [.val (.int .i64 ((0 : Nat) : Int))], e.blk 3 4, byteBlk e.buf, byteBlk e.tail]⟩, fun i => zs.length - i.1,
      ⟨⟨0, by omega⟩, [0, 1, 2, 3, 4], ⟨rfl, ⟨rfl, rfl, rfl, rfl, rfl, rfl, rfl, rfl, rfl, rfl, trivial⟩, rfl⟩, rfl, rfl, rfl, rfl, rfl, rfl, rfl, rfl, rfl, rfl, rfl, trivial⟩, fun ⟨i, hi⟩ => ?_⟩
    have htk := amt_take zs i
    conv => whnf
    refine ⟨fun h4 => ?_, fun h4 => ?_⟩
    · have h4 : i < zs.length := lt_t h4
      obtain ⟨x, hxi⟩ : ∃ x, zs[i]? = some x := ⟨_, List.getElem?_eq_getElem h4⟩
      have hxs := hgz.le x (List.mem_of_getElem? hxi)
      have hsn := amt_snoc hxi
      have htk1 := amt_take zs (i + 1)
      conv => whnf
      refine ⟨by omega, ?_⟩
      conv => whnf
      refine ⟨_, (hzc i x hxi).2, rfl, ?_⟩
      conv => whnf
      have hw : IntKind.i64.wrap (0 - x) = -x := by rw [IntKind.wrap_i64]; omega
      rw [hw]
      refine ⟨⟨i + 1, by omega⟩, ⟨[0, 1, 2, 3, 4], ⟨rfl, ⟨rfl, rfl, rfl, rfl, rfl, rfl, rfl, rfl, rfl, rfl, trivial⟩, rfl⟩, rfl, rfl, rfl, rfl, eq_i64 ?_, rfl, rfl, rfl, rfl, rfl, eq_i64 ?_, trivial⟩, ?_⟩
      · rw [← hsn]
        rw [show (bif false then if -x < x then -x else x else if -x > x then -x else x) = ((x.natAbs : Nat) : Int) by show (if -x > x then -x else x) = _; split <;> omega, nadd, nwrapi (by omega)]
      · rw [nadd, nwrapi (by omega)]
      · show zs.length - (i + 1) < zs.length - i
        omega
    · have h4 : zs.length ≤ i := lt_f h4
      have hpw := cPulseWriteM w0 (ys := zs) (a := az) (c := cz) (k := amt zs) (fun i x hx => (hzc i x hx).2) hn2 (by omega) hk1 hk20 rfl hgz.vl (e := e) (N := 0 + 4 * min j ys.length) (by omega) hinv
      have hnx : (ys.take (j + 1)).map (fun x => symV x.2) = (ys.take j).map (fun x => symV x.2) ++ [symV zs] := by
        rw [List.take_add_one, hxj, List.map_append]
        rfl
      have he2 : EncS.init.wholes ((ys.take (j + 1)).map fun x => symV x.2) = e.whole (vv zs.length (amt zs)) (codeOf zs (amt zs)) := by
        rw [hnx, wholes_snoc, ← he]
        rfl
      obtain ⟨e2, he2'⟩ : ∃ e2, e2 = e.whole (vv zs.length (amt zs)) (codeOf zs (amt zs)) := ⟨_, rfl⟩
      rw [← he2'] at hpw he2
      have htz : amt (zs.take i) = amt zs := by rw [List.take_of_length_le h4]
      conv => whnf
      rw [htz]
      refine CallsA.lift (H0 := e.H) [2, 3, 4] rfl ⟨rfl, rfl, rfl, rfl, rfl, rfl, trivial⟩ rfl hpw ?_
      rintro _ _ ⟨rfl, rfl⟩
      conv => whnf
      refine ⟨⟨j + 1, by omega⟩, ⟨[0, 1, 2, 5, 6], ⟨rfl, ⟨rfl, rfl, rfl, rfl, ?_, rfl, ?_, rfl, ?_, rfl, trivial⟩, rfl⟩, rfl, rfl, rfl, rfl, rfl, eq_i64 ?_, trivial⟩, ?_⟩
      · show some (e2.blk 5 6) = some ((EncS.init.wholes ((ys.take (j + 1)).map fun x => symV x.2)).blk 5 6)
        rw [he2]
      · show some (byteBlk e2.buf) = some (byteBlk (EncS.init.wholes ((ys.take (j + 1)).map fun x => symV x.2)).buf)
        rw [he2]
      · show some (byteBlk e2.tail) = some (byteBlk (EncS.init.wholes ((ys.take (j + 1)).map fun x => symV x.2)).tail)
        rw [he2]
      · rw [nadd, nwrapi (by omega)]
      · show ys.length - (j + 1) < ys.length - j
        omega
  · have h3 : ys.length ≤ j := lt_f h3
    have hey : EncS.init.wholes (ys.map fun x => symV x.2) = e := by rw [he, List.take_of_length_le h3]
    rw [hey]
    conv => whnf
    refine CallsA.lift (H0 := e.H) [2, 3, 4] rfl ⟨rfl, rfl, rfl, rfl, rfl, rfl, trivial⟩ rfl (doneW w0 e (N := 0 + 4 * min j ys.length) (by omega) hinv) ?_
    rintro _ _ ⟨rfl, rfl⟩
    conv => whnf
    refine ⟨trivial, e.done, ⟨rfl, Nat.le_refl _, rfl, ?_⟩, ?_⟩
    · rw [List.take_length]
    conv => whnf
    exact Or.inr ⟨[], .t [.c (.val (.string (strOf e.done))), .c (.val (.int .i64 ((0 : Nat) : Int)))], [], ⟨rfl, trivial, rfl⟩, rfl, rfl, rfl⟩
end Go.Proofs.YtkomikpfnogjcaaDoor
