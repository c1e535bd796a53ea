/- Frames that are put into a packet in any of its ways are taken out of it as they were. -/
import Derived.Test.YtknfakehijoogaaDoorRows
import Derived.Test.YtknfakehijoogaaDoorCards
import Derived.Test.YtknfakehijoogaaDoorTie
import Derived.Test.YtknfakehijoogaaDoorRwLaid
import Derived.Test.YtknfakehijoogaaDoorPkO
import Derived.WalkKit
import Derived.ProofKit
import Derived.OpenShut
import Derived.ShutString
import Derived.SliceStrings
import Derived.ChangeOld
import Derived.Below
import Derived.SizedLaws
import Derived.SevenTiedAt
namespace Go.Proofs.YtknfakehijoogaaDoor.fnPacketBack
open Go Go.Vc
open Go.ChangeShapes Go.WideShapes Go.ChangeAt Go.RowKit
open Go.ChangeMaps (open_string shut_string)
set_option linter.unusedVariables false

theorem list6 {α : Type} {l : List α} (h : l.length = 6) : ∃ a b c d e f, l = [a, b, c, d, e, f] := by
  match l, h with
  | [a, b, c, d, e, f], _ => exact ⟨a, b, c, d, e, f, rfl⟩
section
variable {H : Type} {enc : TypeId × Value → H} {w : World} {base : Nat} {spare : Nat → Bool} {held : Bool}
theorem opened_packet {n : Nat} {cs : List Value} {x : DataW H × List MemPlace} (h : DataW.trod enc Tryd.prog w base spare held n 31 cs = some x) :
    ∃ (cfg code pad : Int) (st vbr : Bool) (v : Value) (ss : List ByteArray), cs = [.int .i64 cfg, .bool st, .int .i64 code, v, .int .i64 pad, .bool vbr] ∧ strsAt w v ss ∧ ss.length ≤ 9223372036854775807 ∧ v.oneCell' = true := by
  obtain ⟨xs, m, rfl, rfl, hl, hlen, hf⟩ := DataW.trod_struct Tryd.underlying31 h
  have hcl : Tryd.prog.cellsOf 31 = 6 := by kernel_rfl
  rw [hcl] at hl
  obtain ⟨c0, c1, c2, c3, c4, c5, rfl⟩ := list6 hl
  obtain ⟨y0, y1, y2, y3, y4, y5, rfl⟩ := list6 (l := xs) hlen
  have e3 : Tryd.prog.cellsOf 3 = 1 := by kernel_rfl
  have e4 : Tryd.prog.cellsOf 4 = 1 := by kernel_rfl
  have e22 : Tryd.prog.cellsOf 22 = 1 := by kernel_rfl
  have e9 : Tryd.prog.cellsOf 9 = 1 := by kernel_rfl
  have h0 : DataW.trod enc Tryd.prog w base spare held m 3 (([c0, c1, c2, c3, c4, c5].drop 0).take (Tryd.prog.cellsOf 3)) = [y0, y1, y2, y3, y4, y5][0]? := hf 0 _ rfl
  have h1 : DataW.trod enc Tryd.prog w base spare held m 4 (([c0, c1, c2, c3, c4, c5].drop 1).take (Tryd.prog.cellsOf 4)) = [y0, y1, y2, y3, y4, y5][1]? := hf 1 _ rfl
  have h2 : DataW.trod enc Tryd.prog w base spare held m 3 (([c0, c1, c2, c3, c4, c5].drop 2).take (Tryd.prog.cellsOf 3)) = [y0, y1, y2, y3, y4, y5][2]? := hf 2 _ rfl
  have h3 : DataW.trod enc Tryd.prog w base spare held m 22 (([c0, c1, c2, c3, c4, c5].drop 3).take (Tryd.prog.cellsOf 22)) = [y0, y1, y2, y3, y4, y5][3]? := hf 3 _ rfl
  have h4 : DataW.trod enc Tryd.prog w base spare held m 3 (([c0, c1, c2, c3, c4, c5].drop 4).take (Tryd.prog.cellsOf 3)) = [y0, y1, y2, y3, y4, y5][4]? := hf 4 _ rfl
  have h5 : DataW.trod enc Tryd.prog w base spare held m 4 (([c0, c1, c2, c3, c4, c5].drop 5).take (Tryd.prog.cellsOf 4)) = [y0, y1, y2, y3, y4, y5][5]? := hf 5 _ rfl
  rw [e3] at h0 h2 h4
  rw [e4] at h1 h5
  rw [e22] at h3
  obtain ⟨n0, q0, _, w0⟩ := DataW.trod_int Tryd.underlying3 h0
  obtain ⟨n1, q1, _⟩ := DataW.trod_bool Tryd.underlying4 h1
  obtain ⟨n2, q2, _, w2⟩ := DataW.trod_int Tryd.underlying3 h2
  obtain ⟨n4, q4, _, w4⟩ := DataW.trod_int Tryd.underlying3 h4
  obtain ⟨n5, q5, _⟩ := DataW.trod_bool Tryd.underlying4 h5
  obtain rfl : c0 = _ := (List.cons.inj q0).1
  obtain rfl : c1 = _ := (List.cons.inj q1).1
  obtain rfl : c2 = _ := (List.cons.inj q2).1
  obtain rfl : c4 = _ := (List.cons.inj q4).1
  obtain rfl : c5 = _ := (List.cons.inj q5).1
  rcases Go.ChangeShapes.open_strings Tryd.underlying22 Tryd.underlying9 e9 h3 with ⟨hcs, _⟩ | ⟨a, len, cap, ss, hcs, _, hlc, hm, hz, _, hcell, _⟩
  · obtain rfl : c3 = _ := (List.cons.inj hcs).1
    exact ⟨n0, n2, n4, n1, n5, _, [], rfl, Or.inl ⟨rfl, rfl⟩, by show 0 ≤ _; omega, rfl⟩
  · obtain rfl : c3 = _ := (List.cons.inj hcs).1
    have hln : len ≤ ss.length := by rw [hz]; split <;> omega
    have hml : maxLen ≤ 9223372036854775807 := by decide
    have htl : (ss.take len).length = len := by rw [List.length_take]; omega
    refine ⟨n0, n2, n4, n1, n5, _, ss.take len, rfl, Or.inr ⟨a, cap, by rw [htl], by omega, fun i s hi => ?_⟩, by omega, rfl⟩
    have hil : i < len := by
      have := (List.getElem?_eq_some_iff.1 hi).1
      omega
    rw [List.getElem?_take, if_pos hil] at hi
    rw [Nat.mul_one, hcell i (by omega), List.getD_eq_getElem?_getD, hi]
    rfl
end

theorem walk {v : Value} {ss : List ByteArray} {cfg code pad : Int} {st vbr : Bool} (W : World) (h0 : errAt W 0) (h1 : errAt W 1) (hv : strsAt W v ss) (hl : ss.length ≤ 9223372036854775807) (ho : v.oneCell' = true) :
    Calls Tryd.prog 4 #[.agg #[.int .i64 cfg, .bool st, .int .i64 code, v, .int .i64 pad, .bool vbr]] W fun e W' => e = .returned (.bool true) ∧ Below W.heap.size W W' := by
  have h := (packetBackW W h0 h1 hv hl (cfg := cfg) (code := code) (pad := pad) (st := st) (vbr := vbr)).out [] W [.agg #[.int .i64 cfg, .bool st, .int .i64 code, v, .int .i64 pad, .bool vbr]] ⟨rfl, (fun b k e h => by cases h), (fun b b' k k' g h => by cases h), (fun g h => by obtain ⟨b, k, h, _⟩ := h; cases h), Below.refl _ _⟩
    (.cons ⟨_, rfl, .cons ⟨rfl, rfl⟩ (.cons ⟨rfl, rfl⟩ (.cons ⟨rfl, rfl⟩ (.cons ⟨rfl, ho⟩ (.cons ⟨rfl, rfl⟩ (.cons ⟨rfl, rfl⟩ .nil)))))⟩ .nil)
  refine h.mono ?_
  rintro e W' ⟨r, H', ρ', x, ⟨rfl, rfl⟩, rfl, hx, hr, _, _, _⟩
  have : x = .bool true := hx.1
  subst this
  exact ⟨rfl, hr.base⟩

set_option maxRecDepth 100000 in
theorem lifted (os : Os) (started : os.Started) (H : Type) (enc : TypeId × Value → H) :
    ReturnsInHanded {} Tryd.checked os 4 .any (fun w args => (Rows.fnPacketBackSpec.pre enc Tryd.prog Tryd.f4 [] false w args ∧ laidMetH Tryd.prog laid3 w) ∧ sizedMet enc Tryd.prog Tryd.f4 (OpenSpec.ofChange Rows.fnPacketBackSpec) false w args)
      (Rows.fnPacketBackSpec.post enc Tryd.prog Tryd.f4 false true false false) := by
  refine returnsInHanded_of_change_and (C := Tryd.checked) (X := fun w _ => laidMetH Tryd.prog laid3 w) (fun _ _ _ hh h => h.of_heap hh) own started (by kernel_rfl) Tryd.func4
    (ChangeSpec.witness_shaped (enc := enc) (C := Tryd.checked) (os := os) (X := fun w _ => laidMetH Tryd.prog laid3 w) false (World.doorLaid Tryd.prog 400 os) #[.agg #[.int .i64 0, .bool false, .int .i64 0, .slice none 0 0, .int .i64 0, .bool false]] 8 rfl (World.shaped_of_RefB (by kernel_rfl) (by kernel_rfl)) (by kernel_rfl) (by kernel_rfl) (by kernel_rfl) (door_met os _)) ?_
  intro W base args ds gs before hval0 hW _ _ hL _
  have hval : ∀ (j : Nat) t v, Tryd.f4.params[j]? = some t → args[j]? = some v → Value.okWide Tryd.prog W .any base t v := hval0
  have hW' := hW
  obtain ⟨p, q, hA0, hV, rfl, hfz, hnd⟩ := hW
  have hA : DataW.TrodAll enc Tryd.prog W 0 (fun _ => true) true Tryd.f4.params.toList args.toList ds p := hA0
  rw [Tryd.params4] at hA hval
  obtain ⟨v1, vs1, d1, ds1, p1, q1, hargs, rfl, rfl, h1, r1⟩ := trodAll_cons hA
  obtain ⟨rfl, rfl, rfl⟩ := trodAll_nil r1
  obtain rfl : args = #[v1] := by cases args; simp_all
  obtain ⟨rfl, rfl⟩ := trodVars_none hV
  obtain ⟨cs, rfl, hsz⟩ := okWide_struct Tryd.underlying31 (hval 0 31 v1 rfl rfl)
  have k1 := h1
  have lt1 : ∀ x ∈ p1, x.block < W.heap.size := by obtain ⟨m, hm⟩ := k1; exact DataW.trod_lt m _ _ _ hm
  obtain ⟨cfg, code, pad, st, vbr, v, ss, hcs, hv, hl, ho⟩ : ∃ (cfg code pad : Int) (st vbr : Bool) (v : Value) (ss : List ByteArray), cs.toList = [.int .i64 cfg, .bool st, .int .i64 code, v, .int .i64 pad, .bool vbr] ∧ strsAt W v ss ∧ ss.length ≤ 9223372036854775807 ∧ v.oneCell' = true := by
    obtain ⟨fuel, hf⟩ := h1
    exact opened_packet hf
  obtain rfl : cs = #[.int .i64 cfg, .bool st, .int .i64 code, v, .int .i64 pad, .bool vbr] := Array.ext' hcs
  obtain ⟨e0, e1⟩ := errs_of_laid hL
  clear hA0 hval0
  refine (walk W e0 e1 hv hl ho).mono fun e W' ⟨he, bel⟩ => ?_
  subst he
  exact ⟨_, rfl, _, _, _, [], _, [], hW', trodAll_mk1 (shut_bool Tryd.underlying4 _), (trodAll_cons_mk (Below.trod laidOut (by kernel_rfl) (of_decide_eq_true (by kernel_rfl)) k1 bel lt1) trodAll_mk0), rfl, bel.frame _, fun h => by cases h⟩
theorem said : Rows.FnPacketBackSaid :=
  OpenClaim.holds_of_wide 4 Tryd.f4 rfl rfl rfl rfl rfl rfl rfl ⟨rfl, rfl, rfl, rfl, rfl⟩ rfl rfl rfl rfl rfl (by kernel_rfl) Tryd.func4 (by kernel_rfl)
    (of_decide_eq_true (by kernel_rfl)) (by unfold Func.isWrapper; first | (rw [if_pos (by decide +kernel)]; kernel_rfl) | (rw [if_neg (by decide +kernel)]; exact ⟨rfl, rfl⟩))
    (fun os started H enc _ => lifted os started H enc)
theorem proved : Rows.FnPacketBackCardSaid :=
  Claim7.holds_tied_plain_at .later [] [.sentinel, .sentinel, .sentinel] true (true, "c54b90c47f41801e1c591dfcae4aa49e18f099bbd23bf7f9248210434ed18560") false
    said (fun _ h => by cases h) (by kernel_rfl) (fun _ h => by cases h) fnPacketBack_row_tie rfl ⟨rfl, rfl⟩ (by kernel_rfl) rfl
    (fun f fn hf hfn => by
      obtain rfl : f = 4 := Option.some.inj ((show Tryd.prog.funcNamed "pub-carronade/laws.FnPacketBack" = some 4 by kernel_rfl).symm.trans hf) |>.symm
      obtain rfl : fn = Tryd.f4 := (Option.some.inj (Tryd.func4.symm.trans hfn)).symm
      exact ⟨by kernel_rfl, fun j t ht => by
        rw [Tryd.params4] at ht
        have hm : t ∈ [31] := by simpa using Array.mem_of_getElem? ht
        have hall : ([31].all fun u => !Tryd.prog.wantsStandIn u) = true := by kernel_rfl
        exact (show Tryd.prog.wantsStandIn t = false by simpa using List.all_eq_true.1 hall t hm)⟩)
    (by kernel_rfl)
end Go.Proofs.YtknfakehijoogaaDoor.fnPacketBack
namespace Go.Proofs.YtknfakehijoogaaDoor
/-- The statement, under a short name. -/
theorem packet_back_holds : Rows.FnPacketBackCardSaid := fnPacketBack.proved
#print axioms packet_back_holds
end Go.Proofs.YtknfakehijoogaaDoor
