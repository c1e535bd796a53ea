/- Vectors that are written to a frame, one behind the other, are read from it as they were: the law. -/
import Derived.Test.YtkomikpfnogjcaaDoorPuU
namespace Go.Proofs.YtkomikpfnogjcaaDoor
open Go Go.Vc
set_option maxRecDepth 100000
set_option maxHeartbeats 8000000

theorem all2_get {α β : Type} {R : α → β → Prop} : ∀ {l : List α} {m : List β}, All2 R l m → ∀ {i : Nat} {x : α}, l[i]? = some x → ∃ y, m[i]? = some y ∧ R x y
  | _, _, .nil, i, x, h => by simp at h
  | _, _, .cons h r, 0, x, hx => by simp at hx; subst hx; exact ⟨_, rfl, h⟩
  | _, _, .cons h r, i + 1, x, hx => by simpa using all2_get r (by simpa using hx)
theorem flat_ints (k : IntKind) (ys : List Int) (i : Nat) : (flat (encI k) [] ys)[i]? = ys[i]?.map fun x => CV.val (.int k x) := by
  have : flat (encI k) [] ys = ys.map fun x => CV.val (.int k x) := by
    unfold flat
    induction ys with
    | nil => rfl
    | cons x r ih => rw [List.flatMap_cons, ih]; rfl
  rw [this, List.getElem?_map]
/-- Members of a family, as memory. -/
theorem fam_rows {w0 : World} {ρ : Ren} {H : List Blk} {w : World} (hR : RH w0 ρ H w) {o f : Nat} {T TF : TypeId} {yss : List (List Int)} (ho : H[o]? = some (.vec true T encF [f] 1 (turns (yss.map List.length)))) (hf : H[f]? = some (.fam TF (encI .i64) 1 yss))
    {v : Value} (hv : (CV.vec o yss.length).R ρ v) (hb : ∀ y ∈ yss, ∀ x ∈ y, -9223372036854775808 ≤ x ∧ x < 9223372036854775808) (hl : yss.length ≤ 9223372036854775807) :
    ∃ A c ys, v = .slice A ys.length c ∧ rowsAt w A ys ∧ ys.map (·.2) = yss := by
  obtain ⟨e1, hρ, h0, hlen, h2⟩ := hR.get ho
  obtain ⟨ef, hρf, g0, g1, g2, ms, g3, g4, g5, g6⟩ := hR.get hf
  obtain ⟨e1', he1, hv⟩ := hv
  rw [hρ] at he1
  cases he1
  rcases hv with ⟨g, hg, rfl, hcap⟩ | ⟨hg, hn, rfl⟩
  · rcases h2 with ⟨h2, _⟩ | ⟨g', arr, fz, k2, k3, k4, k5, k6, ⟨sp, k7, k8⟩, k9⟩
    · rw [hg] at h2; cases h2
    · rw [hg] at k2
      cases k2
      have hcell : ∀ (i : Nat) y, yss[i]? = some y → ∃ u, arr.toList[i]? = some u ∧ (CV.mem f i y.length).R ρ u := by
        intro i y hy
        refine all2_get k7 ?_
        have hi : i < yss.length := (List.getElem?_eq_some_iff.1 hy).1
        rw [List.getElem?_append_left (by rw [flat_turns, List.length_map, turns_len, List.length_map]; exact hi), flat_turns, List.getElem?_map, turns_get, List.getElem?_map, hy]
        rfl
      have hal : yss.length ≤ arr.toList.length := by
        rw [← k7.length, List.length_append, flat_turns, List.length_map, turns_len, List.length_map]
        omega
      have hzl : (List.zip arr.toList yss).length = yss.length := by rw [List.length_zip]; omega
      refine ⟨some ⟨g, 0, none⟩, e1.2, List.zip arr.toList yss, by rw [hzl], ⟨by omega, fun i x hx => ?_⟩, List.map_snd_zip hal⟩
      obtain ⟨u, y⟩ := x
      obtain ⟨hu, hy⟩ := List.getElem?_zip_eq_some.1 hx
      obtain ⟨u', hu', hm⟩ := hcell i y hy
      rw [hu] at hu'
      cases hu'
      refine ⟨_, rfl, ?_, ?_⟩
      · rw [Nat.mul_one, addr_add, cell_at k3, Nat.zero_add, ← Array.getElem?_toList]
        exact hu
      · obtain ⟨ef', ms', m, q1, q2, q3, q4⟩ := hm
        rw [hρf] at q1
        cases q1
        have := encM_inj (q2.trans g3.symm)
        subst this
        rcases g6 i m y q3 hy with ⟨r1, r2, _⟩ | ⟨gm, arrm, fzm, r1, r2, r3, r4, r5, spm, r6, r7⟩
        · rcases q4 with ⟨gm, q5, _⟩ | ⟨_, _, rfl⟩
          · rw [r1] at q5; cases q5
          · exact .inl ⟨rfl, r2⟩
        · rcases q4 with ⟨gm', q5, rfl, q6⟩ | ⟨q5, _⟩
          · rw [r1] at q5
            cases q5
            refine .inr ⟨_, _, rfl, q6, r5, fun j z hz => ⟨hb y (List.mem_of_getElem? hy) z (List.mem_of_getElem? hz), ?_⟩⟩
            obtain ⟨cz, hcz, hR2⟩ := all2_get (i := j) (x := CV.val (.int .i64 z)) r6 (by
              have hj : j < y.length := (List.getElem?_eq_some_iff.1 hz).1
              have hfl : (flat (encI .i64) [] y).length = y.length := by rw [flat_length (wd := 1) (fun _ => rfl), Nat.mul_one]
              rw [List.getElem?_append_left (by rw [hfl]; exact hj), flat_ints, hz]
              rfl)
            rw [Nat.mul_one, addr_add, cell_at r2, Nat.zero_add, ← Array.getElem?_toList, hcz, hR2.1]
          · rw [r1] at q5; cases q5
  · have : yss = [] := List.length_eq_zero_iff.1 hn
    subst this
    exact ⟨none, 0, [], rfl, ⟨Nat.zero_le _, fun i x hx => by simp at hx⟩, rfl⟩
theorem pows.below {w0 w : World} (hp : pows w0) (hb : Go.RowKit.Below w0.heap.size w0 w) : pows w := fun i hi => by
  have h := hp i hi
  have hlt := World.block_lt_of_cell? w0 _ h
  rw [hb.cell hlt]
  exact h
theorem rowsV (w0 : World) (hp : pows w0) {H : List Blk} {o f : Nat} {T TF : TypeId} {yss : List (List Int)} (ho : H[o]? = some (.vec true T encF [f] 1 (turns (yss.map List.length)))) (hf : H[f]? = some (.fam TF (encI .i64) 1 yss))
    (hb : ∀ y ∈ yss, ∀ x ∈ y, -9223372036854775808 ≤ x ∧ x < 9223372036854775808) (hl : yss.length ≤ 1000) (hin : ∀ y ∈ yss, y.length ≤ 1000000) :
    CallsA Tryd.prog w0 16 [.c (.vec o yss.length)] H fun r H' => r = .o (.c (.val (.string (strOf (rowsL yss))))) ∧ H' = H := by
  refine callsA_base (rowsW w0 hp (A := none) (ys := []) (c := 0) ⟨Nat.zero_le _, fun i x hx => by simp at hx⟩ (by simp) (by simp)).cal fun ρ w vs hR hA => ?_
  cases hA with
  | cons h1 h2 =>
    cases h2
    have h1 : (CV.vec o yss.length).R ρ _ := h1
    obtain ⟨A, c, ys, rfl, hra, hys⟩ := fam_rows hR ho hf h1 hb (by omega)
    refine ⟨[.c (.val (.slice A ys.length c))], .cons ⟨rfl, rfl⟩ .nil, ?_⟩
    have hlen : ys.length = yss.length := by rw [← hys, List.length_map]
    have := rowsW w (hp.below hR.base) hra (by omega) (c := c) (fun x hx => hin x.2 (by rw [← hys]; exact List.mem_map.2 ⟨x, hx, rfl⟩))
    rw [hys] at this
    exact this

/-- What the law has gathered. -/
def gathSt (v : CV) (ys : List (Value × List Int)) : Nat → S
  | 0 => ⟨[(0, .o (.c v)), (3, .o (.c (.val (.slice none 0 0)))), (4, .o (.c (.val (.slice none 0 0)))), (22, .o (.c v)), (23, .o (.c (.val (.int .i64 ys.length)))), (24, .o (.c (.val (.int .i64 ((0 : Nat) : Int)))))], []⟩
  | j + 1 => ⟨[(0, .o (.c v)), (3, .o (.c (.vec 0 (j + 1)))), (4, .o (.c (.vec 1 (j + 1)))), (22, .o (.c v)), (23, .o (.c (.val (.int .i64 ys.length)))), (24, .o (.c (.val (.int .i64 ((j + 1 : Nat) : Int)))))], [lenB ((ys.take (j + 1)).map (·.2)), amtB ((ys.take (j + 1)).map (·.2))]⟩
def midV (v : CV) (ys : List (Value × List Int)) (z : Value) (k : Nat) : Nat → S
  | 0 => ⟨[(0, .o (.c v)), (3, .o (.c (.val (.slice none 0 0)))), (4, .o (.c (.val (.slice none 0 0)))), (6, .o (.c (.val z))), (7, .o (.c (.val (.int .i64 k)))), (22, .o (.c v)), (23, .o (.c (.val (.int .i64 ys.length)))), (24, .o (.c (.val (.int .i64 ((0 : Nat) : Int)))))], []⟩
  | j + 1 => ⟨[(0, .o (.c v)), (3, .o (.c (.vec 0 (j + 1)))), (4, .o (.c (.vec 1 (j + 1)))), (6, .o (.c (.val z))), (7, .o (.c (.val (.int .i64 k)))), (22, .o (.c v)), (23, .o (.c (.val (.int .i64 ys.length)))), (24, .o (.c (.val (.int .i64 ((j + 1 : Nat) : Int)))))], [lenB ((ys.take (j + 1)).map (·.2)), amtB ((ys.take (j + 1)).map (·.2))]⟩
def sumV (v : CV) (ys : List (Value × List Int)) (A : Option Addr) (c : Nat) (zs : List Int) (i : Nat) : Nat → S
  | 0 => ⟨[(0, .o (.c v)), (3, .o (.c (.val (.slice none 0 0)))), (4, .o (.c (.val (.slice none 0 0)))), (6, .o (.c (.val (.slice A zs.length c)))), (7, .o (.c (.val (.int .i64 (amt (zs.take i) : Nat))))), (22, .o (.c v)), (23, .o (.c (.val (.int .i64 ys.length)))), (24, .o (.c (.val (.int .i64 ((0 : Nat) : Int))))), (28, .o (.c (.val (.slice A zs.length c)))), (29, .o (.c (.val (.int .i64 zs.length)))), (30, .o (.c (.val (.int .i64 i))))], []⟩
  | j + 1 => ⟨[(0, .o (.c v)), (3, .o (.c (.vec 0 (j + 1)))), (4, .o (.c (.vec 1 (j + 1)))), (6, .o (.c (.val (.slice A zs.length c)))), (7, .o (.c (.val (.int .i64 (amt (zs.take i) : Nat))))), (22, .o (.c v)), (23, .o (.c (.val (.int .i64 ys.length)))), (24, .o (.c (.val (.int .i64 ((j + 1 : Nat) : Int))))), (28, .o (.c (.val (.slice A zs.length c)))), (29, .o (.c (.val (.int .i64 zs.length)))), (30, .o (.c (.val (.int .i64 i))))], [lenB ((ys.take (j + 1)).map (·.2)), amtB ((ys.take (j + 1)).map (·.2))]⟩
theorem lPulsesThroughW (w0 : World) (hp : pows w0) {v : Value} {ys : List (Value × List Int)} (hv0 : intssAt w0 v ys) : CallsA Tryd.prog w0 5 [.c (.val v)] [] fun r _ => r = .o (.c (.val (.bool true))) := by
  obtain ⟨A, c, rfl, hv⟩ := hv0.rows
  refine callsA_of_ev c5_ ?_
  conv => whnf
  refine Or.inl ?_
  conv => whnf
  refine (zzFits4W w0 hv).mono ?_
  rintro _ _ ⟨⟨bb, rfl, hbb⟩, rfl⟩
  conv => whnf
  refine ⟨fun _ => ?_, fun gb => ?_⟩
  · conv => whnf
    exact Or.inl rfl
  conv => whnf
  refine Or.inl ?_
  conv => whnf
  refine ⟨fun _ => ?_, fun g => ?_⟩
  · conv => whnf
    exact Or.inl rfl
  have hl20 : ys.length ≤ 20 := gt_f g
  have hlen31 := hbb (by revert gb; cases bb <;> decide)
  conv => whnf
  refine Or.inl ?_
  conv => whnf
  refine ⟨{j : Nat // j ≤ ys.length ∧ ∀ x ∈ ys.take j, goodV x.2}, fun ⟨j, _⟩ => gathSt (.val (.slice A ys.length c)) ys j, fun j => ys.length - j.1, ⟨⟨0, by omega, fun x hx => by cases hx⟩, [], ⟨rfl, trivial, rfl⟩, rfl, rfl, rfl, rfl, rfl, rfl, trivial⟩, fun ⟨j, hj, hgd⟩ => ?_⟩
  have hend : ys.length ≤ j → (∀ x ∈ ys, goodV x.2) ∧ (EncS.init.wholes (ys.map fun x => symV x.2)).done.length ≤ 1099511627776 ∧ bytesOf (strOf (EncS.init.wholes (ys.map fun x => symV x.2)).done) = (EncS.init.wholes (ys.map fun x => symV x.2)).done ∧ readsBack (Dec.init (EncS.init.wholes (ys.map fun x => symV x.2)).done) ((ys.map (·.2)).map symV) := by
    intro h3
    rw [List.take_of_length_le h3] at hgd
    have hok := goodV.ok (l := ys.map (·.2)) (by
      intro y hy
      obtain ⟨x, hx, rfl⟩ := List.mem_map.1 hy
      exact hgd x hx)
    have hmm : (ys.map (·.2)).map symV = ys.map fun x => symV x.2 := by rw [List.map_map]; rfl
    rw [hmm] at hok ⊢
    obtain ⟨w1, w2⟩ := wholes_back hok
    have hdl := done_len (wholes_inv EncS.init_inv hok)
    rw [List.length_map] at hdl
    exact ⟨hgd, by omega, bytes_str w1, w2⟩
  cases j with
  | zero =>
    conv => whnf
    refine ⟨fun h3 => ?_, fun h3 => ?_⟩
    · have h3 : 0 < ys.length := lt_t h3
      obtain ⟨⟨z, zs⟩, hxj⟩ : ∃ x, ys[0]? = some x := ⟨_, List.getElem?_eq_getElem h3⟩
      obtain ⟨a, rfl, hxc, hzs⟩ := hv.at_ _ _ hxj
      simp only at hxc hzs
      have htk : ys.take (0 + 1) = ys.take 0 ++ [(z, zs)] := by rw [List.take_add_one, hxj]; rfl
      have hlt : (ys.take 0).length = 0 := by rw [List.length_take]; omega
      have hlj : 0 = (((ys.take 0).map (·.2)).map fun y => (y.length : Int)).length := by rw [List.length_map, List.length_map, hlt]
      have hlj2 : 0 = (((ys.take 0).map (·.2)).map fun y => (amt y : Int)).length := by rw [List.length_map, List.length_map, hlt]
      obtain ⟨Az, cz, rfl, hzc, hzl⟩ : ∃ A c, z = .slice A zs.length c ∧ (∀ (i : Nat) x, zs[i]? = some x → ∃ a, A = some a ∧ (-9223372036854775808 ≤ x ∧ x < 9223372036854775808) ∧ w0.cell? (a.add (i * 1)) = some (.int .i64 x)) ∧ zs.length ≤ 9223372036854775807 := by
        rcases hzs with ⟨rfl, rfl⟩ | ⟨a, c, rfl, q1, q2, q3⟩
        · exact ⟨none, 0, rfl, fun i x hx => by simp at hx, Nat.zero_le _⟩
        · exact ⟨some a, c, rfl, fun i x hx => ⟨a, rfl, q3 i x hx⟩, by omega⟩
      conv => whnf
      refine Or.inl ?_
      conv => whnf
      refine ⟨by omega, ?_⟩
      conv => whnf
      refine ⟨_, hxc, rfl, ?_⟩
      conv => whnf
      refine Or.inr ⟨{_q : Unit // ∀ x ∈ zs, x.natAbs ≤ 20}, fun _ => midV (.val (.slice (some a) ys.length c)) ys (.slice Az zs.length cz) (amt zs) 0, ?_, ?_⟩
      · conv => whnf
        refine ⟨{i : Nat // i ≤ zs.length ∧ ∀ x ∈ zs.take i, x.natAbs ≤ 20}, fun ⟨i, _⟩ => sumV (.val (.slice (some a) ys.length c)) ys Az cz zs i 0, fun i => zs.length - i.1, ⟨⟨0, by omega, fun x hx => by cases hx⟩, [], ⟨rfl, trivial, rfl⟩, rfl, rfl, rfl, rfl, rfl, rfl, rfl, rfl, rfl, rfl, rfl, trivial⟩, fun ⟨i, hi, hix⟩ => ?_⟩
        conv => whnf
        refine ⟨fun h4 => ?_, fun h4 => ?_⟩
        · have h4 : i < zs.length := lt_t h4
          obtain ⟨x, hxi⟩ : ∃ x, zs[i]? = some x := ⟨_, List.getElem?_eq_getElem h4⟩
          obtain ⟨az, rfl, hxb, hxcc⟩ := hzc i x hxi
          have hsn := amt_snoc hxi
          have hab : amt (zs.take i) ≤ 20 * (zs.take i).length := amt_most hix
          have hzl2 : zs.length ≤ 2147483647 := hlen31 _ (List.mem_of_getElem? hxj)
          rw [List.length_take] at hab
          conv => whnf
          refine Or.inl ?_
          conv => whnf
          refine ⟨by omega, ?_⟩
          conv => whnf
          refine ⟨_, hxcc, rfl, ?_⟩
          conv => whnf
          refine Or.inl ?_
          conv => whnf
          refine ⟨fun _ => ?_, fun g1 => ?_⟩
          · conv => whnf
            exact Or.inl rfl
          have g1 : ¬ x > 20 := of_decide_eq_false g1
          conv => whnf
          refine ⟨fun _ => ?_, fun g2 => ?_⟩
          · conv => whnf
            exact Or.inl rfl
          have g2 : ¬ x < -20 := of_decide_eq_false g2
          conv => whnf
          have hw : IntKind.i64.wrap (0 - x) = -x := by rw [IntKind.wrap_i64]; omega
          rw [hw]
          refine ⟨⟨i + 1, by omega, ?_⟩, ⟨[], ⟨rfl, trivial, rfl⟩, rfl, rfl, rfl, rfl, eq_i64 ?_, rfl, rfl, rfl, rfl, rfl, eq_i64 ?_, trivial⟩, ?_⟩
          · rw [List.take_add_one, hxi]
            intro y hy
            rcases List.mem_append.1 hy with hy | hy
            · exact hix y hy
            · have : y = x := by simpa using hy
              omega
          · rw [← hsn]
            rw [show (bif false then if -x < x then -x else x else if -x > x then -x else x) = ((x.natAbs : Nat) : Int) by show (if -x > x then -x else x) = _; split <;> omega, nadd, nwrapi (by omega)]
          · rw [nadd, nwrapi (by omega)]
          · show zs.length - (i + 1) < zs.length - i
            omega
        · have h4 : zs.length ≤ i := lt_f h4
          rw [List.take_of_length_le h4] at hix
          conv => whnf
          exact ⟨⟨(), hix⟩, [], ⟨rfl, trivial, rfl⟩, rfl, rfl, rfl, rfl, eq_i64 (by rw [List.take_of_length_le h4]), rfl, rfl, rfl, trivial⟩
      rintro ⟨⟨⟩, hx20⟩
      conv => whnf
      refine Or.inr ⟨{q : Unit // 2 ≤ zs.length ∧ zs.length ≤ 16 ∧ 1 ≤ amt zs ∧ amt zs ≤ 20}, fun _ => midV (.val (.slice (some a) ys.length c)) ys (.slice Az zs.length cz) (amt zs) 0, ?_, ?_⟩
      · conv => whnf
        refine ⟨fun _ => ?_, fun g1 => ?_⟩
        · conv => whnf
          exact Or.inl rfl
        have g1 : 2 ≤ zs.length := lt_f g1
        conv => whnf
        refine ⟨fun _ => ?_, fun g2 => ?_⟩
        · conv => whnf
          exact Or.inl rfl
        have g2 : zs.length ≤ 16 := gt_f g2
        conv => whnf
        refine ⟨fun _ => ?_, fun g3 => ?_⟩
        · conv => whnf
          exact Or.inl rfl
        have g3 : 1 ≤ amt zs := lt_f g3
        conv => whnf
        refine ⟨fun _ => ?_, fun g4 => ?_⟩
        · conv => whnf
          exact Or.inl rfl
        have g4 : amt zs ≤ 20 := gt_f g4
        conv => whnf
        exact ⟨⟨(), g1, g2, g3, g4⟩, [], ⟨rfl, trivial, rfl⟩, rfl, rfl, rfl, rfl, rfl, rfl, rfl, rfl, trivial⟩
      rintro ⟨⟨⟩, h1, h2, h3a, h4⟩
      conv => whnf
      refine Or.inr ⟨{q : Unit // vv zs.length (amt zs) < 4294967296}, fun _ => midV (.val (.slice (some a) ys.length c)) ys (.slice Az zs.length cz) (amt zs) 0, ?_, ?_⟩
      · conv => whnf
        refine CallsA.lift (H0 := []) [] rfl trivial rfl (sCountW w0 (n := zs.length) (k := amt zs) (by omega) (by omega) (by omega)) ?_
        rintro _ _ ⟨rfl, hr1⟩
        rcases hr1 with ⟨hc, rfl⟩ | ⟨hc, rfl⟩
        · conv => whnf
          refine ⟨fun _ => ?_, fun h => absurd h (by decide)⟩
          conv => whnf
          exact Or.inl rfl
        have hvl : vv zs.length (amt zs) < 4294967296 := by
          unfold vcap at hc
          omega
        have hv2 := vv_two h1 h3a
        rw [vcap_vv hvl]
        conv => whnf
        refine ⟨fun h => absurd h (by decide), fun _ => ?_⟩
        conv => whnf
        refine ⟨fun h => absurd (lt_t h) (by omega), fun _ => ?_⟩
        conv => whnf
        exact ⟨⟨(), hvl⟩, [], ⟨rfl, trivial, rfl⟩, rfl, rfl, rfl, rfl, rfl, rfl, rfl, rfl, trivial⟩
      rintro ⟨⟨⟩, hvl⟩
      have hgz : goodV zs := ⟨h1, h2, h3a, h4, hvl⟩
      conv => whnf
      refine ⟨by omega, Int, encI .i64, [], [(zs.length : Int)], fun _ => rfl, ⟨rfl, rfl, rfl⟩, by show 1 * 8 ≤ _; omega, by show 1 ≤ _; omega, ?_⟩
      conv => whnf
      refine ⟨by omega, Int, encI .i64, [], [(amt zs : Int)], fun _ => rfl, ⟨rfl, rfl, rfl⟩, by show 1 * 8 ≤ _; omega, by show 1 ≤ _; omega, ?_⟩
      conv => whnf
      refine ⟨⟨1, h3, fun x hx => ?_⟩, ⟨[1, 3], ⟨rfl, ⟨?_, rfl, ?_, rfl, trivial⟩, rfl⟩, rfl, rfl, rfl, rfl, rfl, eq_i64 ?_, trivial⟩, ?_⟩
      · rw [htk] at hx
        rcases List.mem_append.1 hx with hx | hx
        · exact hgd x hx
        · have : x = (.slice Az zs.length cz, zs) := by simpa using hx
          rw [this]
          exact hgz
      · show some (intB [(zs.length : Int)]) = some (lenB ((ys.take (0 + 1)).map (·.2)))
        rw [htk]
        rfl
      · show some (intB [(amt zs : Int)]) = some (amtB ((ys.take (0 + 1)).map (·.2)))
        rw [htk]
        rfl
      · rw [nadd, nwrapi (by omega)]
      · show ys.length - 1 < ys.length - 0
        omega
    · have h3 : ys.length ≤ 0 := lt_f h3
      obtain ⟨hga, hdl, hbs, hrb⟩ := hend h3
      have hy0 : ys = [] := List.length_eq_zero_iff.1 (by omega)
      have hrw := rowsW w0 hp hv (c := c) (by omega) (fun x hx => by rw [hy0] at hx; cases hx)
      have hbsz : (strOf (EncS.init.wholes (ys.map fun x => symV x.2)).done).size ≤ 1099511627776 := by rw [strOf_size']; exact hdl
      conv => whnf
      refine (iPulseWriteW w0 hv hl20 hga).mono ?_
      rintro _ _ ⟨rfl, rfl⟩
      conv => whnf
      refine (iPulseRead0 w0 hbsz).mono ?_
      rintro _ _ ⟨rfl, rfl⟩
      conv => whnf
      refine ⟨fun _ => ?_, fun h => absurd h (by decide)⟩
      conv => whnf
      refine ⟨fun _ => ?_, fun h => absurd h (by decide)⟩
      conv => whnf
      refine (rowsW w0 hp (A := none) (ys := []) (c := 0) ⟨Nat.zero_le _, fun i x hx => by simp at hx⟩ (by simp) (by simp)).mono ?_
      rintro _ _ ⟨rfl, rfl⟩
      conv => whnf
      refine hrw.mono ?_
      rintro _ _ ⟨rfl, rfl⟩
      rw [hy0]
      conv => whnf
      refine ⟨fun _ => ?_, fun h => absurd h (by rw [BEq.rfl]; decide)⟩
      conv => whnf
      refine (aliveW w0).mono ?_
      rintro _ _ ⟨rfl, rfl⟩
      conv => whnf
      exact Or.inl rfl
  | succ j =>
    conv => whnf
    refine ⟨fun h3 => ?_, fun h3 => ?_⟩
    · have h3 : j + 1 < ys.length := lt_t h3
      obtain ⟨⟨z, zs⟩, hxj⟩ : ∃ x, ys[(j + 1)]? = some x := ⟨_, List.getElem?_eq_getElem h3⟩
      obtain ⟨a, rfl, hxc, hzs⟩ := hv.at_ _ _ hxj
      simp only at hxc hzs
      have htk : ys.take ((j + 1) + 1) = ys.take (j + 1) ++ [(z, zs)] := by rw [List.take_add_one, hxj]; rfl
      have hlt : (ys.take (j + 1)).length = (j + 1) := by rw [List.length_take]; omega
      have hlj : (j + 1) = (((ys.take (j + 1)).map (·.2)).map fun y => (y.length : Int)).length := by rw [List.length_map, List.length_map, hlt]
      have hlj2 : (j + 1) = (((ys.take (j + 1)).map (·.2)).map fun y => (amt y : Int)).length := by rw [List.length_map, List.length_map, hlt]
      obtain ⟨Az, cz, rfl, hzc, hzl⟩ : ∃ A c, z = .slice A zs.length c ∧ (∀ (i : Nat) x, zs[i]? = some x → ∃ a, A = some a ∧ (-9223372036854775808 ≤ x ∧ x < 9223372036854775808) ∧ w0.cell? (a.add (i * 1)) = some (.int .i64 x)) ∧ zs.length ≤ 9223372036854775807 := by
        rcases hzs with ⟨rfl, rfl⟩ | ⟨a, c, rfl, q1, q2, q3⟩
        · exact ⟨none, 0, rfl, fun i x hx => by simp at hx, Nat.zero_le _⟩
        · exact ⟨some a, c, rfl, fun i x hx => ⟨a, rfl, q3 i x hx⟩, by omega⟩
      conv => whnf
      refine Or.inl ?_
      conv => whnf
      refine ⟨by omega, ?_⟩
      conv => whnf
      refine ⟨_, hxc, rfl, ?_⟩
      conv => whnf
      refine Or.inr ⟨{_q : Unit // ∀ x ∈ zs, x.natAbs ≤ 20}, fun _ => midV (.val (.slice (some a) ys.length c)) ys (.slice Az zs.length cz) (amt zs) (j + 1), ?_, ?_⟩
      · conv => whnf
        refine ⟨{i : Nat // i ≤ zs.length ∧ ∀ x ∈ zs.take i, x.natAbs ≤ 20}, fun ⟨i, _⟩ => sumV (.val (.slice (some a) ys.length c)) ys Az cz zs i (j + 1), fun i => zs.length - i.1, ⟨⟨0, by omega, fun x hx => by cases hx⟩, [0, 1], ⟨rfl, ⟨rfl, rfl, rfl, rfl, trivial⟩, rfl⟩, rfl, rfl, rfl, rfl, rfl, rfl, rfl, rfl, rfl, rfl, rfl, trivial⟩, fun ⟨i, hi, hix⟩ => ?_⟩
        conv => whnf
        refine ⟨fun h4 => ?_, fun h4 => ?_⟩
        · have h4 : i < zs.length := lt_t h4
          obtain ⟨x, hxi⟩ : ∃ x, zs[i]? = some x := ⟨_, List.getElem?_eq_getElem h4⟩
          obtain ⟨az, rfl, hxb, hxcc⟩ := hzc i x hxi
          have hsn := amt_snoc hxi
          have hab : amt (zs.take i) ≤ 20 * (zs.take i).length := amt_most hix
          have hzl2 : zs.length ≤ 2147483647 := hlen31 _ (List.mem_of_getElem? hxj)
          rw [List.length_take] at hab
          conv => whnf
          refine Or.inl ?_
          conv => whnf
          refine ⟨by omega, ?_⟩
          conv => whnf
          refine ⟨_, hxcc, rfl, ?_⟩
          conv => whnf
          refine Or.inl ?_
          conv => whnf
          refine ⟨fun _ => ?_, fun g1 => ?_⟩
          · conv => whnf
            exact Or.inl rfl
          have g1 : ¬ x > 20 := of_decide_eq_false g1
          conv => whnf
          refine ⟨fun _ => ?_, fun g2 => ?_⟩
          · conv => whnf
            exact Or.inl rfl
          have g2 : ¬ x < -20 := of_decide_eq_false g2
          conv => whnf
          have hw : IntKind.i64.wrap (0 - x) = -x := by rw [IntKind.wrap_i64]; omega
          rw [hw]
          refine ⟨⟨i + 1, by omega, ?_⟩, ⟨[0, 1], ⟨rfl, ⟨rfl, rfl, rfl, rfl, trivial⟩, rfl⟩, rfl, rfl, rfl, rfl, eq_i64 ?_, rfl, rfl, rfl, rfl, rfl, eq_i64 ?_, trivial⟩, ?_⟩
          · rw [List.take_add_one, hxi]
            intro y hy
            rcases List.mem_append.1 hy with hy | hy
            · exact hix y hy
            · have : y = x := by simpa using hy
              omega
          · rw [← hsn]
            rw [show (bif false then if -x < x then -x else x else if -x > x then -x else x) = ((x.natAbs : Nat) : Int) by show (if -x > x then -x else x) = _; split <;> omega, nadd, nwrapi (by omega)]
          · rw [nadd, nwrapi (by omega)]
          · show zs.length - (i + 1) < zs.length - i
            omega
        · have h4 : zs.length ≤ i := lt_f h4
          rw [List.take_of_length_le h4] at hix
          conv => whnf
          exact ⟨⟨(), hix⟩, [0, 1], ⟨rfl, ⟨rfl, rfl, rfl, rfl, trivial⟩, rfl⟩, rfl, rfl, rfl, rfl, eq_i64 (by rw [List.take_of_length_le h4]), rfl, rfl, rfl, trivial⟩
      rintro ⟨⟨⟩, hx20⟩
      conv => whnf
      refine Or.inr ⟨{q : Unit // 2 ≤ zs.length ∧ zs.length ≤ 16 ∧ 1 ≤ amt zs ∧ amt zs ≤ 20}, fun _ => midV (.val (.slice (some a) ys.length c)) ys (.slice Az zs.length cz) (amt zs) (j + 1), ?_, ?_⟩
      · conv => whnf
        refine ⟨fun _ => ?_, fun g1 => ?_⟩
        · conv => whnf
          exact Or.inl rfl
        have g1 : 2 ≤ zs.length := lt_f g1
        conv => whnf
        refine ⟨fun _ => ?_, fun g2 => ?_⟩
        · conv => whnf
          exact Or.inl rfl
        have g2 : zs.length ≤ 16 := gt_f g2
        conv => whnf
        refine ⟨fun _ => ?_, fun g3 => ?_⟩
        · conv => whnf
          exact Or.inl rfl
        have g3 : 1 ≤ amt zs := lt_f g3
        conv => whnf
        refine ⟨fun _ => ?_, fun g4 => ?_⟩
        · conv => whnf
          exact Or.inl rfl
        have g4 : amt zs ≤ 20 := gt_f g4
        conv => whnf
        exact ⟨⟨(), g1, g2, g3, g4⟩, [0, 1], ⟨rfl, ⟨rfl, rfl, rfl, rfl, trivial⟩, rfl⟩, rfl, rfl, rfl, rfl, rfl, rfl, rfl, rfl, trivial⟩
      rintro ⟨⟨⟩, h1, h2, h3a, h4⟩
      conv => whnf
      refine Or.inr ⟨{q : Unit // vv zs.length (amt zs) < 4294967296}, fun _ => midV (.val (.slice (some a) ys.length c)) ys (.slice Az zs.length cz) (amt zs) (j + 1), ?_, ?_⟩
      · conv => whnf
        refine CallsA.lift (H0 := []) [] rfl trivial rfl (sCountW w0 (n := zs.length) (k := amt zs) (by omega) (by omega) (by omega)) ?_
        rintro _ _ ⟨rfl, hr1⟩
        rcases hr1 with ⟨hc, rfl⟩ | ⟨hc, rfl⟩
        · conv => whnf
          refine ⟨fun _ => ?_, fun h => absurd h (by decide)⟩
          conv => whnf
          exact Or.inl rfl
        have hvl : vv zs.length (amt zs) < 4294967296 := by
          unfold vcap at hc
          omega
        have hv2 := vv_two h1 h3a
        rw [vcap_vv hvl]
        conv => whnf
        refine ⟨fun h => absurd h (by decide), fun _ => ?_⟩
        conv => whnf
        refine ⟨fun h => absurd (lt_t h) (by omega), fun _ => ?_⟩
        conv => whnf
        exact ⟨⟨(), hvl⟩, [0, 1], ⟨rfl, ⟨rfl, rfl, rfl, rfl, trivial⟩, rfl⟩, rfl, rfl, rfl, rfl, rfl, rfl, rfl, rfl, trivial⟩
      rintro ⟨⟨⟩, hvl⟩
      have hgz : goodV zs := ⟨h1, h2, h3a, h4, hvl⟩
      conv => whnf
      refine ⟨hlj, [(zs.length : Int)], ⟨rfl, rfl, rfl⟩, ?_, ?_, ?_⟩
      · rw [List.length_append, ← hlj]
        show (j + 1 + 1) * 8 ≤ _
        omega
      · rw [List.length_append, ← hlj]
        show j + 1 + 1 ≤ _
        omega
      conv => whnf
      refine ⟨hlj2, [(amt zs : Int)], ⟨rfl, rfl, rfl⟩, ?_, ?_, ?_⟩
      · rw [List.length_append, ← hlj2]
        show (j + 1 + 1) * 8 ≤ _
        omega
      · rw [List.length_append, ← hlj2]
        show j + 1 + 1 ≤ _
        omega
      conv => whnf
      refine ⟨⟨j + 1 + 1, h3, fun x hx => ?_⟩, ⟨[3, 5], ⟨rfl, ⟨?_, rfl, ?_, rfl, trivial⟩, rfl⟩, rfl, ?_, ?_, rfl, rfl, eq_i64 ?_, trivial⟩, ?_⟩
      · rw [htk] at hx
        rcases List.mem_append.1 hx with hx | hx
        · exact hgd x hx
        · have : x = (.slice Az zs.length cz, zs) := by simpa using hx
          rw [this]
          exact hgz
      · show some (intB (((ys.take (j + 1)).map (·.2)).map (fun y => (y.length : Int)) ++ [(zs.length : Int)])) = some (lenB ((ys.take (j + 1 + 1)).map (·.2)))
        rw [htk, List.map_append]
        show _ = some (intB (((ys.take (j + 1)).map (·.2) ++ [zs]).map fun y => (y.length : Int)))
        rw [List.map_append]
        rfl
      · show some (intB (((ys.take (j + 1)).map (·.2)).map (fun y => (amt y : Int)) ++ [(amt zs : Int)])) = some (amtB ((ys.take (j + 1 + 1)).map (·.2)))
        rw [htk, List.map_append]
        show _ = some (intB (((ys.take (j + 1)).map (·.2) ++ [zs]).map fun y => (amt y : Int)))
        rw [List.map_append]
        rfl
      · show some (AV.o (.c (.vec 3 (((ys.take (j + 1)).map (·.2)).map (fun y => (y.length : Int)) ++ [(zs.length : Int)]).length))) = some (AV.o (.c (.vec 3 (j + 1 + 1))))
        rw [List.length_append, ← hlj]
        rfl
      · show some (AV.o (.c (.vec 5 (((ys.take (j + 1)).map (·.2)).map (fun y => (amt y : Int)) ++ [(amt zs : Int)]).length))) = some (AV.o (.c (.vec 5 (j + 1 + 1))))
        rw [List.length_append, ← hlj2]
        rfl
      · rw [nadd, nwrapi (by omega)]
      · show ys.length - (j + 1 + 1) < ys.length - (j + 1)
        omega
    · have h3 : ys.length ≤ j + 1 := lt_f h3
      have hjl : ys.length = j + 1 := by omega
      obtain ⟨hga, hdl, hbs, hrb⟩ := hend h3
      have hbsz : (strOf (EncS.init.wholes (ys.map fun x => symV x.2)).done).size ≤ 1099511627776 := by rw [strOf_size']; exact hdl
      have hyl : (ys.map (·.2)).length = j + 1 := by rw [List.length_map, hjl]
      have hgy : ∀ y ∈ ys.map (·.2), goodV y := by
        intro y hy
        obtain ⟨x, hx, rfl⟩ := List.mem_map.1 hy
        exact hga x hx
      have hin : ∀ x ∈ ys, x.2.length ≤ 1000000 := fun x hx => by have := (hga x hx).n16; omega
      have hin2 : ∀ y ∈ ys.map (·.2), y.length ≤ 1000000 := fun y hy => by have := (hgy y hy).n16; omega
      have hbn : ∀ y ∈ ys.map (·.2), ∀ x ∈ y, -9223372036854775808 ≤ x ∧ x < 9223372036854775808 := fun y hy x hx => by
        have := (hgy y hy).le x hx
        omega
      have hrd := iPulseReadW w0 (b := strOf (EncS.init.wholes (ys.map fun x => symV x.2)).done) (yss := ys.map (·.2)) hbsz (by omega) hgy (by rw [hbs]; exact hrb) (by omega)
      rw [hyl] at hrd
      conv => whnf
      rw [List.take_of_length_le h3]
      refine CallsA.lift (H0 := []) [] rfl trivial rfl (iPulseWriteW w0 (c := c) hv hl20 hga) ?_
      rintro _ _ ⟨rfl, rfl⟩
      conv => whnf
      refine hrd.mono ?_
      rintro _ _ ⟨rfl, rfl⟩
      have hrv := rowsV w0 hp (H := [lenB (ys.map (·.2)), amtB (ys.map (·.2)), famI (ys.map (·.2)), outB 2 (ys.map (·.2))]) (o := 3) (f := 2) (yss := ys.map (·.2)) rfl rfl hbn (by omega) hin2
      rw [hyl] at hrv
      conv => whnf
      refine ⟨fun _ => ?_, fun h => absurd h (by decide)⟩
      conv => whnf
      refine ⟨fun _ => ?_, fun h => absurd h (by decide)⟩
      conv => whnf
      refine hrv.mono ?_
      rintro _ _ ⟨rfl, rfl⟩
      conv => whnf
      refine CallsA.lift (H0 := []) [] rfl trivial rfl (rowsW w0 hp hv (c := c) (by omega) hin) ?_
      rintro _ _ ⟨rfl, rfl⟩
      conv => whnf
      refine ⟨fun _ => ?_, fun h => absurd h (by rw [BEq.rfl]; decide)⟩
      conv => whnf
      refine CallsA.lift (H0 := []) [] rfl trivial rfl (aliveW w0) ?_
      rintro _ _ ⟨rfl, rfl⟩
      conv => whnf
      exact Or.inl rfl
end Go.Proofs.YtkomikpfnogjcaaDoor
