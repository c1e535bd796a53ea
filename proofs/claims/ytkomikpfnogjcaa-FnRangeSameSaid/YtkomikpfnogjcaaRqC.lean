/- Symbols as parts of a total: the law's walk. -/
import Derived.Test.YtkomikpfnogjcaaRqB
namespace Go.Proofs.Ytkomikpfnogjcaa
open Go Go.Vc
set_option maxRecDepth 100000
set_option maxHeartbeats 8000000

def smSt (v : Value) (n : Nat) (l : List OpV) : Nat → S
  | 0 => ⟨[(0, .o (.c (.val v))), (3, .o (.c (.val (.slice none 0 0)))), (25, .o (.c (.val v))), (26, .o (.c (.val (.int .i64 n)))), (27, .o (.c (.val (.int .i64 ((0 : Nat) : Int)))))], []⟩
  | k + 1 => ⟨[(0, .o (.c (.val v))), (3, .o (.c (.vec 0 (k + 1)))), (25, .o (.c (.val v))), (26, .o (.c (.val (.int .i64 n)))), (27, .o (.c (.val (.int .i64 ((k + 1 : Nat) : Int)))))], [sopB ((l.take (k + 1)).map OpV.part)]⟩

theorem sop_cells {σ : List Nat} {x y z : Int} {a b c : Nat} (h1 : x = a) (h2 : y = b) (h3 : z = c) : some (Blk.cells 47 [.val (.int .i64 ((0 : Nat) : Int)), .val (.int .u32 x), .val (.int .u32 y), .val (.int .u32 z), .val (.int .i64 ((0 : Nat) : Int)), .val (.slice none 0 0)]) = some (Blk.ren σ (.cells 47 (OpV.cells ⟨0, a, b, c, 0, .slice none 0 0, []⟩))) := by
  subst h1 h2 h3
  rfl

theorem sameW (w0 : World) {v : Value} {l : List OpV} (hv : opsAt w0 v l) (hl : l.length ≤ 9223372036854775807) : CallsA Try.prog w0 7 [.c (.val v)] [] fun r _ => r = .o (.c (.val (.bool true))) := by
  refine callsA_of_ev c7_ ?_
  conv => whnf
  refine Or.inl ?_
  conv => whnf
  refine (zzFits2W w0 hv hl).mono ?_
  rintro _ _ ⟨b1, rfl, rfl, hl2⟩
  conv => whnf
  refine ⟨fun _ => ?_, fun h1 => ?_⟩
  · conv => whnf
    exact Or.inl rfl
  have hl2 : l.length ≤ 2147483647 := hl2 (by cases b1 <;> first | rfl | cases h1)
  conv => whnf
  refine Or.inl ?_
  conv => whnf
  refine (scriptV w0 hv 200 hl).mono ?_
  rintro _ _ ⟨b2, rfl, rfl, hs⟩
  conv => whnf
  refine ⟨fun _ => ?_, fun h2 => ?_⟩
  · conv => whnf
    exact Or.inl rfl
  obtain ⟨hl4, hg⟩ := hs (by cases b2 <;> first | rfl | cases h2)
  have hg : ∀ o ∈ l, o.wr w0 := fun o ho => (hg o ho).1
  conv => whnf
  rcases hv.cases with ⟨rfl, rfl⟩ | ⟨a, c, rfl, hb⟩
  · refine Or.inl ?_
    conv => whnf
    refine ⟨Unit, fun _ => smSt (.slice none 0 0) 0 [] 0, fun _ => 0, ⟨(), [], ⟨rfl, trivial, rfl⟩, rfl, rfl, rfl, rfl, rfl, trivial⟩, fun _ => ?_⟩
    conv => whnf
    refine ⟨fun h => absurd (lt_t h) (by omega), fun _ => ?_⟩
    conv => whnf
    refine Or.inl ?_
    conv => whnf
    refine CallsA.lift (H0 := []) [] rfl trivial rfl (sEncode0 w0 hv) ?_
    rintro _ _ ⟨rfl, rfl⟩
    conv => whnf
    refine ⟨fun h => absurd h (by decide), fun _ => ?_⟩
    conv => whnf
    refine CallsA.lift (H0 := []) [] rfl trivial rfl (opsV w0 hv (by decide)) ?_
    rintro _ _ (⟨_, rfl, rfl⟩ | ⟨h, _⟩)
    · conv => whnf
      refine CallsA.lift (H0 := []) [] rfl trivial rfl (encodeW0 w0) ?_
      rintro _ _ ⟨rfl, rfl⟩
      conv => whnf
      refine CallsA.lift (H0 := []) [] rfl trivial rfl (opsV w0 (v := .slice none 0 0) (l := []) (.inl ⟨rfl, rfl⟩) (by decide)) ?_
      rintro _ _ (⟨_, rfl, rfl⟩ | ⟨h, _⟩)
      · conv => whnf
        refine CallsA.lift (H0 := []) [] rfl trivial rfl (encodeW0 w0) ?_
        rintro _ _ ⟨rfl, rfl⟩
        generalize strOf EncS.init.done = str at *
        conv => whnf
        refine Or.inl ?_
        conv => whnf
        refine ⟨fun h => absurd h (by decide), fun _ => ?_⟩
        conv => whnf
        refine ⟨fun h => absurd h (by decide), fun _ => ?_⟩
        conv => whnf
        refine ⟨fun h => absurd h (by rw [beq_self_eq_true]; decide), fun _ => ?_⟩
        conv => whnf
        refine ⟨fun h => absurd rfl (bne_t h), fun _ => ?_⟩
        conv => whnf
        refine Or.inl ?_
        conv => whnf
        refine ⟨Unit, fun _ => ⟨[(142, .o (.c (.val (.slice none 0 0)))), (143, .o (.c (.val (.int .i64 ((0 : Nat) : Int))))), (144, .o (.c (.val (.int .i64 ((0 : Nat) : Int)))))], []⟩, fun _ => 0, ⟨(), [], ⟨rfl, trivial, rfl⟩, rfl, rfl, rfl, trivial⟩, fun _ => ?_⟩
        conv => whnf
        refine ⟨fun h => absurd (lt_t h) (by omega), fun _ => ?_⟩
        conv => whnf
        refine CallsA.lift (H0 := []) [] rfl trivial rfl (aliveW w0) ?_
        rintro _ _ ⟨rfl, rfl⟩
        conv => whnf
        exact Or.inl rfl
      · exact absurd rfl h
    · exact absurd rfl h
  have hn5 : l.length ≤ 200 := hl4
  refine Or.inl ?_
  conv => whnf
  refine ⟨_root_.Fin (l.length + 1), fun ⟨k, _⟩ => smSt (.slice (some a) l.length c) l.length l k, fun k => l.length - k.1, ⟨⟨0, by omega⟩, [], ⟨rfl, trivial, rfl⟩, rfl, rfl, rfl, rfl, rfl, trivial⟩, fun ⟨k, hk⟩ => ?_⟩
  cases k with
  | zero =>
    conv => whnf
    refine ⟨fun h3 => ?_, fun h3 => ?_⟩
    · conv => whnf
      have h3 : 0 < l.length := lt_t h3
      obtain ⟨o, ho⟩ : ∃ o, l[0]? = some o := ⟨_, List.getElem?_eq_getElem h3⟩
      obtain ⟨⟨x0, x1, x2, x3, x4, x5, x6⟩, hfit⟩ := hb 0 o ho
      have hwr := hg o (List.mem_of_getElem? ho)
      have hpt := (part_puts hwr x6).2
      have hbd : o.act = 2 → CallsA Try.prog w0 22 [.a o.cells] [] fun r H => r = .t [.c (.val (.int .u32 (lowOf o.rows o.a))), .c (.val (.int .u32 (o.rows.getD (o.a + 1) 0)))] ∧ H = [] := by
        intro h
        obtain ⟨q1, q2⟩ := hwr.tab2 h
        rcases hfit.tab with ⟨_, hr⟩ | ⟨ta, c, t1, t2, t3, t4⟩
        · rw [hr] at q1; simp at q1
        · exact boundsW w0 t1 q1 q2 t4
      have htf : o.act = 2 → ∃ ta c, o.tab = .slice (some ta) o.rows.length c ∧ 0 < o.rows.length ∧ w0.cell? (ta.add 0) = some (.int .u32 (o.rows.getD 0 0)) := by
        intro h
        obtain ⟨q1, q2⟩ := hwr.tab2 h
        rcases hfit.tab with ⟨_, hr⟩ | ⟨ta, c, t1, t2, t3, t4⟩
        · rw [hr] at q1; simp at q1
        · refine ⟨ta, c, t1, by omega, (t4 0 _ ?_).2⟩
          rw [List.getD_eq_getElem?_getD, List.getElem?_eq_getElem (by omega)]
          rfl
      have hk1 : o.act = 1 → 1 ≤ o.a ∧ o.a ≤ 15 := by
        intro h
        rcases hwr.kind with ⟨k, _⟩ | ⟨k, h2, h3, _⟩ | ⟨k, _⟩ | ⟨k, _⟩ | ⟨k, _⟩ | ⟨k, _⟩ <;> omega
      have hk3 : o.act = 3 → o.b < o.a := by
        intro h
        rcases hwr.kind with ⟨k, _⟩ | ⟨k, _⟩ | ⟨k, _⟩ | ⟨k, h2, h3⟩ | ⟨k, _⟩ | ⟨k, _⟩ <;> omega
      have hsn : (l.take (0 + 1)).map OpV.part = (l.take 0).map OpV.part ++ [o.part] := by
        rw [← take_snoc' ho, List.map_append]
        rfl
      have hpo : o.part = o.part := rfl
      refine Or.inl ?_
      conv => whnf
      refine ⟨by omega, ?_⟩
      conv => whnf
      refine ⟨_, x0, rfl, ?_⟩
      conv => whnf
      refine ⟨_, x1, rfl, ?_⟩
      conv => whnf
      refine ⟨_, x2, rfl, ?_⟩
      conv => whnf
      refine ⟨_, x3, rfl, ?_⟩
      conv => whnf
      refine ⟨_, x4, rfl, ?_⟩
      conv => whnf
      refine ⟨_, x5, x6, ?_⟩
      conv => whnf
      obtain ⟨act, oa, ob, oc, ov, otab, rows⟩ := o
      simp only at hk1 hk3 htf x6
      have hpd : OpV.part ⟨act, oa, ob, oc, ov, otab, rows⟩ = if act = 2 then ⟨0, lowOf rows oa, rows.getD (oa + 1) 0, rows.getD 0 0, 0, .slice none 0 0, []⟩ else if act = 1 then (if ob = 0 then ⟨0, 0, 2 ^ oa - 1, 2 ^ oa, 0, .slice none 0 0, []⟩ else ⟨0, 2 ^ oa - 1, 2 ^ oa, 2 ^ oa, 0, .slice none 0 0, []⟩) else if act = 3 ∧ oa ≤ 256 then ⟨0, ob, ob + 1, oa, 0, .slice none 0 0, []⟩ else ⟨act, oa, ob, oc, ov, otab, rows⟩ := rfl
      have h32 := hwr.a32
      have h32b := hwr.b32
      simp only at h32 h32b
      have hbd : act = 2 → CallsA Try.prog w0 22 [.a [.val (.int .i64 act), .val (.int .u32 oa), .val (.int .u32 ob), .val (.int .u32 oc), .val (.int .i64 ov), .val otab]] [] fun r H => r = .t [.c (.val (.int .u32 (lowOf rows oa))), .c (.val (.int .u32 (rows.getD (oa + 1) 0)))] ∧ H = [] := hbd
      clear hwr hfit x0 x1 x2 x3 x4 x5 ho
      generalize OpV.part ⟨act, oa, ob, oc, ov, otab, rows⟩ = p at *
      refine Or.inr ⟨Unit, fun _ => ⟨[(0, .o (.c (.val (.slice (some a) l.length c)))), (3, .o (.c (.val (.slice none 0 0)))), (6, .o (.c (.ptr 1 0))), (25, .o (.c (.val (.slice (some a) l.length c)))), (26, .o (.c (.val (.int .i64 l.length)))), (27, .o (.c (.val (.int .i64 ((0 : Nat) : Int)))))], [.dead, .cells 47 p.cells]⟩, ?_, fun _ => ?_⟩
      · conv => whnf
        refine ⟨fun c1 => ?_, fun c1 => ?_⟩
        · have c1 : act = 2 := ieq_t c1
          subst c1
          rw [if_pos rfl] at hpd
          obtain ⟨ta, c, rfl, t1, t2⟩ := htf rfl
          conv => whnf
          refine CallsA.lift (H0 := []) [] rfl trivial rfl (hbd rfl) ?_
          rintro _ _ ⟨rfl, rfl⟩
          conv => whnf
          refine ⟨by omega, ?_⟩
          conv => whnf
          refine ⟨_, t2, rfl, ?_⟩
          conv => whnf
          refine ⟨(), [0, 1], ⟨rfl, ⟨Nat.lt_of_succ_le (Nat.le_of_ble_eq_true rfl), ?_, rfl, trivial⟩, rfl⟩, rfl, rfl, rfl, rfl, rfl, rfl, trivial⟩
          rw [hpd]
          rfl
        · have c1 : act ≠ 2 := ieq_f c1
          rw [if_neg c1] at hpd
          conv => whnf
          refine ⟨fun c2 => ?_, fun c2 => ?_⟩
          · have c2 : act = 1 := ieq_t c2
            subst c2
            rw [if_pos rfl] at hpd
            obtain ⟨t1, t2⟩ := hk1 rfl
            have hp : 2 ^ 1 ≤ 2 ^ oa := Nat.pow_le_pow_right (by omega) t1
            have hp2 : 2 ^ oa ≤ 2 ^ 15 := Nat.pow_le_pow_right (by omega) t2
            have hsh : IntKind.u32.wrap (((1 : Nat) : Int) * 2 ^ (min (((oa : Nat) : Int)).toNat IntKind.u32.bits)) = ((2 ^ oa : Nat) : Int) := by
              rw [nshlv32 _ _ (by omega), Nat.one_mul, nwrap32 (by omega)]
            have hs1 : IntKind.u32.wrap (((2 ^ oa : Nat) : Int) - ((1 : Nat) : Int)) = ((2 ^ oa - 1 : Nat) : Int) := by
              rw [nsub (by omega), nwrap32 (by omega)]
            conv => whnf
            refine ⟨fun c3 => ?_, fun c3 => ?_⟩
            · have c3 : ob = 0 := beq_t c3
              subst c3
              rw [if_pos rfl] at hpd
              conv => whnf
              refine ⟨by omega, ?_⟩
              conv => whnf
              rw [hsh, hs1]
              refine ⟨by omega, ?_⟩
              conv => whnf
              refine ⟨(), [0, 1], ⟨rfl, ⟨Nat.lt_of_succ_le (Nat.le_of_ble_eq_true rfl), ?_, rfl, trivial⟩, rfl⟩, rfl, rfl, rfl, rfl, rfl, rfl, trivial⟩
              rw [hpd]
              rfl
            · have c3 : ob ≠ 0 := beq_f c3
              rw [if_neg c3] at hpd
              conv => whnf
              refine ⟨fun _ => ?_, fun h => absurd rfl (ieq_f h)⟩
              conv => whnf
              refine ⟨by omega, ?_⟩
              conv => whnf
              rw [hsh, hs1]
              refine ⟨by omega, ?_⟩
              conv => whnf
              refine ⟨by omega, ?_⟩
              conv => whnf
              refine ⟨(), [0, 1], ⟨rfl, ⟨Nat.lt_of_succ_le (Nat.le_of_ble_eq_true rfl), ?_, rfl, trivial⟩, rfl⟩, rfl, rfl, rfl, rfl, rfl, rfl, trivial⟩
              rw [hpd]
              exact sop_cells rfl rfl hsh
          · have c2 : act ≠ 1 := ieq_f c2
            rw [if_neg c2] at hpd
            conv => whnf
            refine ⟨fun h => absurd (ieq_t h) c2, fun _ => ?_⟩
            conv => whnf
            refine ⟨fun c3 => ?_, fun c3 => ?_⟩
            · have c3 : act = 3 := ieq_t c3
              subst c3
              have t1 := hk3 rfl
              conv => whnf
              refine ⟨fun c4 => ?_, fun c4 => ?_⟩
              · have c4 : oa ≤ 256 := le_t c4
                rw [if_pos ⟨rfl, c4⟩] at hpd
                have ha1 : IntKind.u32.wrap (((ob : Nat) : Int) + ((1 : Nat) : Int)) = ((ob + 1 : Nat) : Int) := by rw [nadd, nwrap32 (by omega)]
                conv => whnf
                rw [ha1]
                refine ⟨(), [0, 1], ⟨rfl, ⟨Nat.lt_of_succ_le (Nat.le_of_ble_eq_true rfl), ?_, rfl, trivial⟩, rfl⟩, rfl, rfl, rfl, rfl, rfl, rfl, trivial⟩
                rw [hpd]
                rfl
              · have c4 : 256 < oa := le_f c4
                rw [if_neg (fun h => by omega)] at hpd
                conv => whnf
                refine ⟨(), [0, 1], ⟨rfl, ⟨Nat.lt_of_succ_le (Nat.le_of_ble_eq_true rfl), ?_, rfl, trivial⟩, rfl⟩, rfl, rfl, rfl, rfl, rfl, rfl, trivial⟩
                rw [hpd]
                rfl
            · have c3 : act ≠ 3 := ieq_f c3
              rw [if_neg (fun h => c3 h.1)] at hpd
              conv => whnf
              refine ⟨(), [0, 1], ⟨rfl, ⟨Nat.lt_of_succ_le (Nat.le_of_ble_eq_true rfl), ?_, rfl, trivial⟩, rfl⟩, rfl, rfl, rfl, rfl, rfl, rfl, trivial⟩
              rw [hpd]
              rfl
      · clear hpd
        conv => whnf
        refine ⟨by omega, OpV, encOp, [], [p], fun _ => rfl, ⟨rfl, rfl, rfl⟩, by simp only [List.length_cons, List.length_nil]; omega, by simp only [List.length_cons, List.length_nil]; omega, ?_⟩
        conv => whnf
        refine ⟨⟨1, by omega⟩, ⟨[3], ⟨rfl, ⟨?_, rfl, trivial⟩, rfl⟩, rfl, rfl, rfl, rfl, ?_, trivial⟩, ?_⟩
        · show some (sopB [p]) = some (sopB ((l.take (0 + 1)).map OpV.part))
          rw [hsn]
          rfl
        · refine eq_i64 ?_
          rw [nadd, nwrapi (by omega)]
        · show l.length - 1 < l.length - 0
          omega
    · have h3 : l.length ≤ 0 := lt_f h3
      obtain rfl : l = [] := List.length_eq_zero_iff.1 (by omega)
      conv => whnf
      refine Or.inl ?_
      conv => whnf
      refine CallsA.lift (H0 := []) [] rfl trivial rfl (sEncode0 w0 hv) ?_
      rintro _ _ ⟨rfl, rfl⟩
      conv => whnf
      refine ⟨fun h => absurd h (by decide), fun _ => ?_⟩
      conv => whnf
      refine CallsA.lift (H0 := []) [] rfl trivial rfl (opsV w0 hv (by decide)) ?_
      rintro _ _ (⟨_, rfl, rfl⟩ | ⟨h, _⟩)
      · conv => whnf
        refine CallsA.lift (H0 := []) [] rfl trivial rfl (encodeW0 w0) ?_
        rintro _ _ ⟨rfl, rfl⟩
        conv => whnf
        refine CallsA.lift (H0 := []) [] rfl trivial rfl (opsV w0 (v := .slice none 0 0) (l := []) (.inl ⟨rfl, rfl⟩) (by decide)) ?_
        rintro _ _ (⟨_, rfl, rfl⟩ | ⟨h, _⟩)
        · conv => whnf
          refine CallsA.lift (H0 := []) [] rfl trivial rfl (encodeW0 w0) ?_
          rintro _ _ ⟨rfl, rfl⟩
          generalize strOf EncS.init.done = str at *
          conv => whnf
          refine Or.inl ?_
          conv => whnf
          refine ⟨fun h => absurd h (by decide), fun _ => ?_⟩
          conv => whnf
          refine ⟨fun h => absurd h (by decide), fun _ => ?_⟩
          conv => whnf
          refine ⟨fun h => absurd h (by rw [beq_self_eq_true]; decide), fun _ => ?_⟩
          conv => whnf
          refine ⟨fun h => absurd rfl (bne_t h), fun _ => ?_⟩
          conv => whnf
          refine Or.inl ?_
          conv => whnf
          refine ⟨Unit, fun _ => ⟨[(142, .o (.c (.val (.slice none 0 0)))), (143, .o (.c (.val (.int .i64 ((0 : Nat) : Int))))), (144, .o (.c (.val (.int .i64 ((0 : Nat) : Int)))))], []⟩, fun _ => 0, ⟨(), [], ⟨rfl, trivial, rfl⟩, rfl, rfl, rfl, trivial⟩, fun _ => ?_⟩
          conv => whnf
          refine ⟨fun h => absurd (lt_t h) (by omega), fun _ => ?_⟩
          conv => whnf
          refine CallsA.lift (H0 := []) [] rfl trivial rfl (aliveW w0) ?_
          rintro _ _ ⟨rfl, rfl⟩
          conv => whnf
          exact Or.inl rfl
        · exact absurd rfl h
      · exact absurd rfl h
  | succ k =>
    conv => whnf
    refine ⟨fun h3 => ?_, fun h3 => ?_⟩
    · conv => whnf
      have h3 : k + 1 < l.length := lt_t h3
      obtain ⟨o, ho⟩ : ∃ o, l[k + 1]? = some o := ⟨_, List.getElem?_eq_getElem h3⟩
      obtain ⟨⟨x0, x1, x2, x3, x4, x5, x6⟩, hfit⟩ := hb (k + 1) o ho
      have hwr := hg o (List.mem_of_getElem? ho)
      have hpt := (part_puts hwr x6).2
      have hbd : o.act = 2 → CallsA Try.prog w0 22 [.a o.cells] [] fun r H => r = .t [.c (.val (.int .u32 (lowOf o.rows o.a))), .c (.val (.int .u32 (o.rows.getD (o.a + 1) 0)))] ∧ H = [] := by
        intro h
        obtain ⟨q1, q2⟩ := hwr.tab2 h
        rcases hfit.tab with ⟨_, hr⟩ | ⟨ta, c, t1, t2, t3, t4⟩
        · rw [hr] at q1; simp at q1
        · exact boundsW w0 t1 q1 q2 t4
      have htf : o.act = 2 → ∃ ta c, o.tab = .slice (some ta) o.rows.length c ∧ 0 < o.rows.length ∧ w0.cell? (ta.add 0) = some (.int .u32 (o.rows.getD 0 0)) := by
        intro h
        obtain ⟨q1, q2⟩ := hwr.tab2 h
        rcases hfit.tab with ⟨_, hr⟩ | ⟨ta, c, t1, t2, t3, t4⟩
        · rw [hr] at q1; simp at q1
        · refine ⟨ta, c, t1, by omega, (t4 0 _ ?_).2⟩
          rw [List.getD_eq_getElem?_getD, List.getElem?_eq_getElem (by omega)]
          rfl
      have hk1 : o.act = 1 → 1 ≤ o.a ∧ o.a ≤ 15 := by
        intro h
        rcases hwr.kind with ⟨k, _⟩ | ⟨k, h2, h3, _⟩ | ⟨k, _⟩ | ⟨k, _⟩ | ⟨k, _⟩ | ⟨k, _⟩ <;> omega
      have hk3 : o.act = 3 → o.b < o.a := by
        intro h
        rcases hwr.kind with ⟨k, _⟩ | ⟨k, _⟩ | ⟨k, _⟩ | ⟨k, h2, h3⟩ | ⟨k, _⟩ | ⟨k, _⟩ <;> omega
      have hsn : (l.take (k + 1 + 1)).map OpV.part = (l.take (k + 1)).map OpV.part ++ [o.part] := by
        rw [← take_snoc' ho, List.map_append]
        rfl
      have hpo : o.part = o.part := rfl
      refine Or.inl ?_
      conv => whnf
      refine ⟨by omega, ?_⟩
      conv => whnf
      refine ⟨_, x0, rfl, ?_⟩
      conv => whnf
      refine ⟨_, x1, rfl, ?_⟩
      conv => whnf
      refine ⟨_, x2, rfl, ?_⟩
      conv => whnf
      refine ⟨_, x3, rfl, ?_⟩
      conv => whnf
      refine ⟨_, x4, rfl, ?_⟩
      conv => whnf
      refine ⟨_, x5, x6, ?_⟩
      conv => whnf
      obtain ⟨act, oa, ob, oc, ov, otab, rows⟩ := o
      simp only at hk1 hk3 htf x6
      have hpd : OpV.part ⟨act, oa, ob, oc, ov, otab, rows⟩ = if act = 2 then ⟨0, lowOf rows oa, rows.getD (oa + 1) 0, rows.getD 0 0, 0, .slice none 0 0, []⟩ else if act = 1 then (if ob = 0 then ⟨0, 0, 2 ^ oa - 1, 2 ^ oa, 0, .slice none 0 0, []⟩ else ⟨0, 2 ^ oa - 1, 2 ^ oa, 2 ^ oa, 0, .slice none 0 0, []⟩) else if act = 3 ∧ oa ≤ 256 then ⟨0, ob, ob + 1, oa, 0, .slice none 0 0, []⟩ else ⟨act, oa, ob, oc, ov, otab, rows⟩ := rfl
      have h32 := hwr.a32
      have h32b := hwr.b32
      simp only at h32 h32b
      have hbd : act = 2 → CallsA Try.prog w0 22 [.a [.val (.int .i64 act), .val (.int .u32 oa), .val (.int .u32 ob), .val (.int .u32 oc), .val (.int .i64 ov), .val otab]] [] fun r H => r = .t [.c (.val (.int .u32 (lowOf rows oa))), .c (.val (.int .u32 (rows.getD (oa + 1) 0)))] ∧ H = [] := hbd
      clear hwr hfit x0 x1 x2 x3 x4 x5 ho
      generalize OpV.part ⟨act, oa, ob, oc, ov, otab, rows⟩ = p at *
      refine Or.inr ⟨Unit, fun _ => ⟨[(0, .o (.c (.val (.slice (some a) l.length c)))), (3, .o (.c (.vec 0 (k + 1)))), (6, .o (.c (.ptr 2 0))), (25, .o (.c (.val (.slice (some a) l.length c)))), (26, .o (.c (.val (.int .i64 l.length)))), (27, .o (.c (.val (.int .i64 ((k + 1 : Nat) : Int)))))], [sopB ((l.take (k + 1)).map OpV.part), .dead, .cells 47 p.cells]⟩, ?_, fun _ => ?_⟩
      · conv => whnf
        refine ⟨fun c1 => ?_, fun c1 => ?_⟩
        · have c1 : act = 2 := ieq_t c1
          subst c1
          rw [if_pos rfl] at hpd
          obtain ⟨ta, c, rfl, t1, t2⟩ := htf rfl
          conv => whnf
          refine CallsA.lift (H0 := []) [] rfl trivial rfl (hbd rfl) ?_
          rintro _ _ ⟨rfl, rfl⟩
          conv => whnf
          refine ⟨by omega, ?_⟩
          conv => whnf
          refine ⟨_, t2, rfl, ?_⟩
          conv => whnf
          refine ⟨(), [0, 1, 2], ⟨rfl, ⟨rfl, rfl, Nat.lt_of_succ_le (Nat.le_of_ble_eq_true rfl), ?_, rfl, trivial⟩, rfl⟩, rfl, rfl, rfl, rfl, rfl, rfl, trivial⟩
          rw [hpd]
          rfl
        · have c1 : act ≠ 2 := ieq_f c1
          rw [if_neg c1] at hpd
          conv => whnf
          refine ⟨fun c2 => ?_, fun c2 => ?_⟩
          · have c2 : act = 1 := ieq_t c2
            subst c2
            rw [if_pos rfl] at hpd
            obtain ⟨t1, t2⟩ := hk1 rfl
            have hp : 2 ^ 1 ≤ 2 ^ oa := Nat.pow_le_pow_right (by omega) t1
            have hp2 : 2 ^ oa ≤ 2 ^ 15 := Nat.pow_le_pow_right (by omega) t2
            have hsh : IntKind.u32.wrap (((1 : Nat) : Int) * 2 ^ (min (((oa : Nat) : Int)).toNat IntKind.u32.bits)) = ((2 ^ oa : Nat) : Int) := by
              rw [nshlv32 _ _ (by omega), Nat.one_mul, nwrap32 (by omega)]
            have hs1 : IntKind.u32.wrap (((2 ^ oa : Nat) : Int) - ((1 : Nat) : Int)) = ((2 ^ oa - 1 : Nat) : Int) := by
              rw [nsub (by omega), nwrap32 (by omega)]
            conv => whnf
            refine ⟨fun c3 => ?_, fun c3 => ?_⟩
            · have c3 : ob = 0 := beq_t c3
              subst c3
              rw [if_pos rfl] at hpd
              conv => whnf
              refine ⟨by omega, ?_⟩
              conv => whnf
              rw [hsh, hs1]
              refine ⟨by omega, ?_⟩
              conv => whnf
              refine ⟨(), [0, 1, 2], ⟨rfl, ⟨rfl, rfl, Nat.lt_of_succ_le (Nat.le_of_ble_eq_true rfl), ?_, rfl, trivial⟩, rfl⟩, rfl, rfl, rfl, rfl, rfl, rfl, trivial⟩
              rw [hpd]
              rfl
            · have c3 : ob ≠ 0 := beq_f c3
              rw [if_neg c3] at hpd
              conv => whnf
              refine ⟨fun _ => ?_, fun h => absurd rfl (ieq_f h)⟩
              conv => whnf
              refine ⟨by omega, ?_⟩
              conv => whnf
              rw [hsh, hs1]
              refine ⟨by omega, ?_⟩
              conv => whnf
              refine ⟨by omega, ?_⟩
              conv => whnf
              refine ⟨(), [0, 1, 2], ⟨rfl, ⟨rfl, rfl, Nat.lt_of_succ_le (Nat.le_of_ble_eq_true rfl), ?_, rfl, trivial⟩, rfl⟩, rfl, rfl, rfl, rfl, rfl, rfl, trivial⟩
              rw [hpd]
              exact sop_cells rfl rfl hsh
          · have c2 : act ≠ 1 := ieq_f c2
            rw [if_neg c2] at hpd
            conv => whnf
            refine ⟨fun h => absurd (ieq_t h) c2, fun _ => ?_⟩
            conv => whnf
            refine ⟨fun c3 => ?_, fun c3 => ?_⟩
            · have c3 : act = 3 := ieq_t c3
              subst c3
              have t1 := hk3 rfl
              conv => whnf
              refine ⟨fun c4 => ?_, fun c4 => ?_⟩
              · have c4 : oa ≤ 256 := le_t c4
                rw [if_pos ⟨rfl, c4⟩] at hpd
                have ha1 : IntKind.u32.wrap (((ob : Nat) : Int) + ((1 : Nat) : Int)) = ((ob + 1 : Nat) : Int) := by rw [nadd, nwrap32 (by omega)]
                conv => whnf
                rw [ha1]
                refine ⟨(), [0, 1, 2], ⟨rfl, ⟨rfl, rfl, Nat.lt_of_succ_le (Nat.le_of_ble_eq_true rfl), ?_, rfl, trivial⟩, rfl⟩, rfl, rfl, rfl, rfl, rfl, rfl, trivial⟩
                rw [hpd]
                rfl
              · have c4 : 256 < oa := le_f c4
                rw [if_neg (fun h => by omega)] at hpd
                conv => whnf
                refine ⟨(), [0, 1, 2], ⟨rfl, ⟨rfl, rfl, Nat.lt_of_succ_le (Nat.le_of_ble_eq_true rfl), ?_, rfl, trivial⟩, rfl⟩, rfl, rfl, rfl, rfl, rfl, rfl, trivial⟩
                rw [hpd]
                rfl
            · have c3 : act ≠ 3 := ieq_f c3
              rw [if_neg (fun h => c3 h.1)] at hpd
              conv => whnf
              refine ⟨(), [0, 1, 2], ⟨rfl, ⟨rfl, rfl, Nat.lt_of_succ_le (Nat.le_of_ble_eq_true rfl), ?_, rfl, trivial⟩, rfl⟩, rfl, rfl, rfl, rfl, rfl, rfl, trivial⟩
              rw [hpd]
              rfl
      · clear hpd
        conv => whnf
        have hpl : ((l.take (k + 1)).map OpV.part).length = k + 1 := by rw [List.length_map, List.length_take]; omega
        have hpl2 : ((l.take (k + 1)).map OpV.part ++ [p]).length = k + 2 := by rw [List.length_append, hpl]; rfl
        refine ⟨hpl.symm, [p], ⟨rfl, rfl, rfl⟩, by rw [hpl2]; omega, by rw [hpl2]; omega, ?_⟩
        conv => whnf
        refine ⟨⟨k + 2, by omega⟩, ⟨[4], ⟨rfl, ⟨?_, rfl, trivial⟩, rfl⟩, rfl, ?_, rfl, rfl, ?_, trivial⟩, ?_⟩
        · show some (sopB ((l.take (k + 1)).map OpV.part ++ [p])) = some (sopB ((l.take (k + 1 + 1)).map OpV.part))
          rw [hsn]
        · show some (AV.o (.c (.vec 4 ((l.take (k + 1)).map OpV.part ++ [p]).length))) = some (AV.o (.c (.vec 4 (k + 1 + 1))))
          rw [hpl2]
        · refine eq_i64 ?_
          rw [nadd, nwrapi (by omega)]
        · show l.length - (k + 2) < l.length - (k + 1)
          omega
    · have h3 : l.length ≤ k + 1 := lt_f h3
      have hkn : l.length = k + 1 := by omega
      have hne : l ≠ [] := by
        intro h
        rw [h] at hkn
        cases hkn
      have htk : l.take (k + 1) = l := List.take_of_length_le (by omega)
      rw [htk]
      conv => whnf
      refine Or.inl ?_
      conv => whnf
      refine CallsA.lift (H0 := []) [] rfl trivial rfl (sEncodeW w0 hv (by omega) hne hg) ?_
      rintro _ _ (⟨rfl, rfl⟩ | ⟨ss, hw, rfl, rfl⟩)
      · conv => whnf
        refine ⟨fun _ => ?_, fun h => absurd h (by decide)⟩
        conv => whnf
        exact Or.inl rfl
      conv => whnf
      refine ⟨fun h => absurd h (by decide), fun _ => ?_⟩
      conv => whnf
      refine CallsA.lift (H0 := []) [] rfl trivial rfl (opsV w0 hv (by omega)) ?_
      rintro _ _ (⟨h, _⟩ | ⟨_, rfl, rfl⟩)
      · exact absurd h hne
      conv => whnf
      refine CallsA.lift (H0 := [.vec true 80 encOp [] 6 l]) [2] rfl ⟨rfl, rfl, trivial⟩ rfl (encodeN w0 (l := l) rfl hne (by omega) fun o ho => ⟨(hg o ho).puts, (hv.fits o ho).one⟩) ?_
      rintro _ _ ⟨rfl, rfl⟩
      conv => whnf
      have hpne : l.map OpV.part ≠ [] := fun h => hne (List.map_eq_nil_iff.1 h)
      have hpp : ∀ o ∈ l.map OpV.part, o.puts w0 ∧ o.tab.oneCell' = true := by
        intro o ho
        obtain ⟨x, hx, rfl⟩ := List.mem_map.1 ho
        exact part_puts (hg x hx) (hv.fits x hx).one
      refine CallsA.lift (H0 := [sopB (l.map OpV.part)]) [0] rfl ⟨rfl, rfl, trivial⟩ rfl (opsB w0 (l := l.map OpV.part) (n := k + 1) (by rw [List.length_map]; omega) hpne (by rw [List.length_map]; omega) fun o ho => (hpp o ho).2) ?_
      rintro _ _ ⟨rfl, rfl⟩
      conv => whnf
      refine CallsA.lift (H0 := [.vec true 80 encOp [] 6 (l.map OpV.part)]) [4] rfl ⟨rfl, rfl, trivial⟩ rfl (encodeN w0 (l := l.map OpV.part) (n := k + 1) (by rw [List.length_map]; omega) hpne (by rw [List.length_map]; omega) hpp) ?_
      rintro _ _ ⟨rfl, rfl⟩
      rw [part_after hg, part_seen hg]
      have hsl : (EncS.init.seen l).length = l.length := EncS.seen_len _ _
      generalize EncS.init.seen l = sn at *
      generalize strOf (EncS.init.after l).done = str at *
      conv => whnf
      refine Or.inl ?_
      conv => whnf
      refine ⟨fun h => absurd h (by decide), fun _ => ?_⟩
      conv => whnf
      refine ⟨fun h => absurd h (by decide), fun _ => ?_⟩
      conv => whnf
      refine ⟨fun h => absurd h (by rw [beq_self_eq_true]; decide), fun _ => ?_⟩
      conv => whnf
      refine ⟨fun h => absurd hkn (bne_t h), fun _ => ?_⟩
      conv => whnf
      refine Or.inl ?_
      conv => whnf
      refine ⟨_root_.Fin (k + 1 + 1), fun ⟨i, _⟩ => ⟨[(13, .o (.c (.vec 0 l.length))), (16, .o (.c (.vec 1 (k + 1)))), (142, .o (.c (.vec 0 l.length))), (143, .o (.c (.val (.int .i64 l.length)))), (144, .o (.c (.val (.int .i64 i))))], [seenBlk sn, seenBlk sn]⟩, fun i => k + 1 - i.1, ⟨⟨0, by omega⟩, [3, 5], ⟨rfl, ⟨rfl, rfl, rfl, rfl, trivial⟩, rfl⟩, rfl, rfl, rfl, rfl, rfl, trivial⟩, fun ⟨i, hi⟩ => ?_⟩
      conv => whnf
      refine ⟨fun h3 => ?_, fun h3 => ?_⟩
      · have h3 : i < l.length := lt_t h3
        obtain ⟨x, hx⟩ : ∃ x, sn[i]? = some x := ⟨_, List.getElem?_eq_getElem (by omega)⟩
        conv => whnf
        refine Or.inl ?_
        conv => whnf
        refine ⟨by omega, ?_⟩
        conv => whnf
        refine ⟨x, hx, ?_⟩
        conv => whnf
        refine ⟨by omega, ?_⟩
        conv => whnf
        refine ⟨x, hx, ?_⟩
        conv => whnf
        refine ⟨fun h => absurd rfl (bne_t h), fun _ => ?_⟩
        conv => whnf
        refine ⟨⟨i + 1, by omega⟩, ⟨[0, 1], ⟨rfl, ⟨rfl, rfl, rfl, rfl, trivial⟩, rfl⟩, rfl, rfl, rfl, rfl, eq_i64 ?_, trivial⟩, ?_⟩
        · rw [nadd, nwrapi (by omega)]
        · show k + 1 - (i + 1) < k + 1 - i
          omega
      · conv => whnf
        refine CallsA.lift (H0 := []) [] rfl trivial rfl (aliveW w0) ?_
        rintro _ _ ⟨rfl, rfl⟩
        conv => whnf
        exact Or.inl rfl
end Go.Proofs.Ytkomikpfnogjcaa
