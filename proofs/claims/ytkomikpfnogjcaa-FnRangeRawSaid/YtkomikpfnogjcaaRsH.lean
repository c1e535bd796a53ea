/- The coder's round trip: a whole script. -/
import Derived.Test.YtkomikpfnogjcaaRsE
import Derived.Test.YtkomikpfnogjcaaRsG
namespace Go.Proofs.Ytkomikpfnogjcaa
open Go Go.Vc
set_option maxRecDepth 100000
set_option linter.unusedVariables false

/-- Tables can be read. -/
def OpV.rd (o : OpV) : Prop := o.act = 2 → ∃ total rest, o.rows = total :: rest ∧ TabOk total rest ∧ rising rest rest.length
/-- The number that an operation means. -/
def OpV.means (o : OpV) : Int := if o.act = 1 ∨ o.act = 3 ∨ o.act = 4 then o.b else if o.act = 5 then o.v else o.a
def OpV.back (o : OpV) (x : Int) : Prop := (o.act = 0 → (o.a : Int) ≤ x ∧ x < o.b) ∧ (o.act ≠ 0 → x = o.means)
theorem OpV.wr.good {w0 : World} {o : OpV} (h : o.wr w0) (hd : o.rd) : o.good w0 := by
  refine ⟨h.a32, h.b32, h.c32, ?_⟩
  rcases h.kind with ⟨k, h1, h2, h3⟩ | ⟨k, h2, h3, _⟩ | ⟨k, total, rest, ta, c, hr, ht1, ht2, hl, hx, ha, _, htab, hcell⟩ | ⟨k, h2, h3⟩ | ⟨k, h2, _⟩ | ⟨k, h1, h2, h3, h4, h5⟩
  · exact .inl ⟨k, by omega, h3, h2⟩
  · exact .inr (.inl ⟨k, h2, h3⟩)
  · obtain ⟨t, r, e, q, _⟩ := hd k
    rw [hr] at e
    cases e
    exact .inr (.inr (.inl ⟨k, total, rest, ta, c, hr, q, htab, hcell⟩))
  · exact .inr (.inr (.inr (.inl ⟨k, h2⟩)))
  · exact .inr (.inr (.inr (.inr (.inl ⟨k, by omega⟩))))
  · exact .inr (.inr (.inr (.inr (.inr (.inl ⟨k, h1, h2, h3⟩)))))

theorem act_rt {w0 : World} {e : EncS} {N : Nat} {o : OpV} (h : e.inv N) (hr : e.roomy) (ho : o.wr w0) (hd : o.rd) (hm : o.met) :
    (e.act o).roomy ∧ (∀ B, rawOk B (e.act o) → rawOk B e) ∧ (∀ B, holds B (e.act o) → holds B e) ∧
      ∀ B d, (∀ x ∈ B, 0 ≤ x ∧ x < 256) → Rt B e d → rawOk B (e.act o) → holds B (e.act o) → (d.act o).2.1 = true ∧ Rt B (e.act o) (d.act o).2.2 ∧ o.back (d.act o).1 := by
  have ha := ho.a32
  rcases ho.kind with ⟨k, h1, h2, h3⟩ | ⟨k, h2, h3, h4⟩ | ⟨k, total, rest, ta, c, hrw, ht1, ht2, hl, hx, hal, hlt, htab, hcell⟩ | ⟨k, h2, h3⟩ | ⟨k, h2, h3⟩ | ⟨k, h1, h2, h3, h4, h5⟩
  · have he : e.act o = e.cum o.a o.b o.c := by unfold EncS.act; rw [k]; rfl
    obtain ⟨a, b, c, f⟩ := cum_rt h hr h1 h2 h3
    rw [he]
    refine ⟨a, b, c, fun B d hB ht _ hh => ?_⟩
    obtain ⟨q1, q2, q3⟩ := f B d hB ht hh
    have hdd : d.act o = (((d.at o.c : Nat) : Int), true, (d.cut (d.rng / o.c) o.a o.b o.c).norm) := by
      unfold Dec.act
      rw [if_pos k, if_pos ⟨q1, q2⟩]
    rw [hdd]
    exact ⟨rfl, q3, fun _ => ⟨Int.ofNat_le.2 q1, Int.ofNat_lt.2 q2⟩, fun hn => absurd k hn⟩
  · have he : e.act o = (e.bit o.a o.b).norm := by unfold EncS.act; rw [k]; rfl
    obtain ⟨a, b, c, f⟩ := bit_rt h hr h2 h3 h4
    rw [he]
    refine ⟨a, b, c, fun B d hB ht _ hh => ?_⟩
    obtain ⟨q1, q2⟩ := f B d hB ht hh
    have hdd : d.act o = ((((d.logp o.a).1 : Nat) : Int), true, (d.logp o.a).2) := by
      unfold Dec.act
      rw [k]
      rfl
    rw [hdd]
    refine ⟨rfl, q2, fun hn => by omega, fun _ => ?_⟩
    unfold OpV.means
    rw [if_pos (.inl k)]
    show (((d.logp o.a).1 : Nat) : Int) = _
    rw [q1]
  · obtain ⟨f1, f2, f3⟩ := tab_facts hx hal
    rw [hrw, f1, f2] at hlt
    obtain ⟨t, r, e1, tk, rs⟩ := hd k
    rw [hrw] at e1
    cases e1
    have he : e.act o = e.cum (tabLow rest o.a) (rest.getD o.a 0) total := by unfold EncS.act; rw [k, hrw]; rfl
    obtain ⟨a, b, c, f⟩ := cum_rt h hr (lo := tabLow rest o.a) (hi := rest.getD o.a 0) (n := total) hlt f3 (by omega)
    rw [he]
    refine ⟨a, b, c, fun B d hB ht _ hh => ?_⟩
    obtain ⟨q1, q2, q3⟩ := f B d hB ht hh
    have hk := tabK_of tk rs hal q1 q2
    have hdd : d.act o = ((((d.icdf total rest).1 : Nat) : Int), true, (d.icdf total rest).2) := by
      unfold Dec.act
      rw [k, hrw]
      rfl
    have hic : d.icdf total rest = (o.a, (d.cut (d.rng / total) (tabLow rest o.a) (rest.getD o.a 0) total).norm) := by
      unfold Dec.icdf
      rw [hk]
    rw [hdd, hic]
    refine ⟨rfl, q3, fun hn => by omega, fun _ => ?_⟩
    unfold OpV.means
    rw [if_neg (by omega), if_neg (by omega)]
  · have he : e.act o = e.whole o.a o.b := by unfold EncS.act; rw [k]; rfl
    obtain ⟨a, b, c, f⟩ := whole_rt h hr h2 ha h3
    rw [he]
    refine ⟨a, b, c, fun B d hB ht hb hh => ?_⟩
    obtain ⟨q1, q2, q3⟩ := f B d hB ht hb hh
    have hdd : d.act o = ((((d.whole o.a).1 : Nat) : Int), (d.whole o.a).2.1, (d.whole o.a).2.2) := by
      unfold Dec.act
      rw [k]
      rfl
    rw [hdd]
    refine ⟨q2, q3, fun hn => by omega, fun _ => ?_⟩
    unfold OpV.means
    rw [if_pos (.inr (.inl k))]
    show (((d.whole o.a).1 : Nat) : Int) = _
    rw [q1]
  · have he : e.act o = e.raw o.a o.b := by unfold EncS.act; rw [k]; rfl
    obtain ⟨a, b, c, f⟩ := raw_rt (n := o.a) (v := o.b) h.ok
    rw [he]
    refine ⟨a hr, fun B hB => (c B hB).1, fun B hB => (b B).1 hB, fun B d hB ht hb hh => ?_⟩
    obtain ⟨q1, q2⟩ := f B d hB ht hb
    have hdd : d.act o = (((d.raw o.a : Nat) : Int), true, d.rawOn o.a) := by
      unfold Dec.act
      rw [k]
      rfl
    rw [hdd]
    refine ⟨rfl, q2, fun hn => by omega, fun _ => ?_⟩
    unfold OpV.means
    rw [if_pos (.inr (.inr k))]
    show ((d.raw o.a : Nat) : Int) = _
    rw [q1, Nat.mod_eq_of_lt h3]
  · obtain ⟨_, _, s3, s4⟩ := lap_same h1 h2 h3 h4 h5 (hm k)
    have he : e.act o = e.cum (lapInt o.a o.b o.v).1 (lapInt o.a o.b o.v).2 32768 := by unfold EncS.act; rw [k]; rfl
    obtain ⟨a, b, c, f⟩ := cum_rt h hr s3 s4 (by omega)
    rw [he]
    refine ⟨a, b, c, fun B d hB ht _ hh => ?_⟩
    obtain ⟨q1, q2, q3⟩ := f B d hB ht hh
    have hl := lap_dec h1 h2 h3 h4 h5 (hm k) q1 q2
    have hdd : d.act o = ((d.lapl o.a o.b).1, true, (d.lapl o.a o.b).2) := by
      unfold Dec.act
      rw [k]
      rfl
    have hll : d.lapl o.a o.b = (o.v, (d.cut (d.rng / 32768) (lapInt o.a o.b o.v).1 (lapInt o.a o.b o.v).2 32768).norm) := by
      unfold Dec.lapl
      rw [hl]
    rw [hdd, hll]
    refine ⟨rfl, q3, fun hn => by omega, fun _ => ?_⟩
    unfold OpV.means
    rw [if_neg (by omega), if_pos k]

/-- What the laws ask of an operation that is written. -/
structure OpV.fine (w0 : World) (o : OpV) : Prop where
  wr : o.wr w0
  rd : o.rd
  met : o.met
theorem EncS.after_nil (e : EncS) : e.after [] = e := rfl
theorem EncS.after_cons (e : EncS) (o : OpV) (r : List OpV) : e.after (o :: r) = (e.act o).after r := rfl
theorem ends_back {w0 : World} {B : List Int} {l : List OpV} : ∀ {e : EncS} {N : Nat}, e.inv N → e.roomy → (∀ o ∈ l, o.fine w0) → holds B (e.after l) → rawOk B (e.after l) → holds B e ∧ rawOk B e := by
  induction l with
  | nil =>
    intro e N _ _ _ h1 h2
    rw [EncS.after_nil] at h1 h2
    exact ⟨h1, h2⟩
  | cons o r ih =>
    intro e N h hr hl h1 h2
    rw [EncS.after_cons] at h1 h2
    have ho := hl o (List.mem_cons_self ..)
    obtain ⟨a, b, c, _⟩ := act_rt h hr ho.wr ho.rd ho.met
    obtain ⟨q1, q2⟩ := ih (EncS.act_inv h ho.wr.puts) a (fun x hx => hl x (List.mem_cons_of_mem _ hx)) h1 h2
    exact ⟨c B q1, b B q2⟩
theorem after_roomy {w0 : World} : ∀ {l : List OpV} {e : EncS} {N : Nat}, e.inv N → e.roomy → (∀ o ∈ l, o.fine w0) → (e.after l).roomy
  | [], _, _, _, h, _ => h
  | o :: r, e, N, h, hr, hl => by
    have ho := hl o (List.mem_cons_self ..)
    exact after_roomy (l := r) (EncS.act_inv h ho.wr.puts) (act_rt h hr ho.wr ho.rd ho.met).1 fun x hx => hl x (List.mem_cons_of_mem _ hx)
theorem seen_rt {w0 : World} {B : List Int} (hB : ∀ x ∈ B, 0 ≤ x ∧ x < 256) {l : List OpV} : ∀ {e : EncS} {d : Dec} {N : Nat}, e.inv N → e.roomy → (∀ o ∈ l, o.fine w0) → holds B (e.after l) → rawOk B (e.after l) → Rt B e d →
    ∀ (i : Nat) (o : OpV), l[i]? = some o → ∃ s t : SeenV, (d.seen l)[i]? = some s ∧ (e.seen l)[i]? = some t ∧ s.rng = t.rng ∧ s.fine = true ∧ o.back s.value := by
  induction l with
  | nil =>
    intro e d N _ _ _ _ _ _ i o hi
    cases i <;> cases hi
  | cons o r ih =>
    intro e d N h hr hl h1 h2 ht i o' hi
    rw [EncS.after_cons] at h1 h2
    have ho := hl o (List.mem_cons_self ..)
    obtain ⟨a, b, c, f⟩ := act_rt h hr ho.wr ho.rd ho.met
    have hi2 := EncS.act_inv h ho.wr.puts
    have hl2 : ∀ x ∈ r, x.fine w0 := fun x hx => hl x (List.mem_cons_of_mem _ hx)
    obtain ⟨q1, q2⟩ := ends_back hi2 a hl2 h1 h2
    obtain ⟨g1, g2, g3⟩ := f B d hB ht q2 q1
    cases i with
    | zero =>
      cases hi
      exact ⟨_, _, rfl, rfl, g2.rng, g1, g3⟩
    | succ i => exact ih hi2 a hl2 h1 h2 g2 i o' hi

/-! The beginning -/
theorem init_iter {B : List Int} (hB : ∀ x ∈ B, 0 ≤ x ∧ x < 256) : ∀ j, j ≤ 3 → ((Dec.init0 B).iter j).data = B ∧ ((Dec.init0 B).iter j).br = min (7 + 8 * j) (8 * B.length) ∧ ((Dec.init0 B).iter j).rng = 128 * 256 ^ j ∧ ((Dec.init0 B).iter j).val + 1 + cod B (7 + 8 * j) = 128 * 256 ^ j ∧ ((Dec.init0 B).iter j).rb = 0
  | 0, _ => by
    have h7 : (Dec.raw0 B).bits 7 = cod B (0 + 7) % 2 ^ 7 := Dec.bits_num (d := Dec.raw0 B) (p := 0) hB (by omega) (by show 0 = min 0 _; omega)
    have hc := cod_lt hB 7
    rw [Nat.zero_add, Nat.mod_eq_of_lt hc] at h7
    refine ⟨rfl, ?_, rfl, ?_, rfl⟩
    · show (if 0 + 7 ≤ 8 * B.length then 0 + 7 else max 0 (8 * B.length)) = _
      split <;> omega
    · show 127 - (Dec.raw0 B).bits 7 + 1 + cod B 7 = 128
      rw [h7]
      omega
  | j + 1, hj => by
    obtain ⟨t1, t2, t3, t4, t5⟩ := init_iter hB j (by omega)
    have hb : ((Dec.init0 B).iter j).bits 8 = cod B (7 + 8 * j + 8) % 256 := by
      have := Dec.bits_num (d := (Dec.init0 B).iter j) (p := 7 + 8 * j) (n := 8) (by rw [t1]; exact hB) (by omega) (by rw [t1]; exact t2)
      rw [t1] at this
      exact this
    have hcs := cod_step B (7 + 8 * j) 8
    have hp : 256 ^ j ≤ 256 ^ 2 := Nat.pow_le_pow_right (by omega) (by omega)
    refine ⟨t1, ?_, ?_, ?_, t5⟩
    · show (if ((Dec.init0 B).iter j).br + 8 ≤ 8 * ((Dec.init0 B).iter j).data.length then ((Dec.init0 B).iter j).br + 8 else max ((Dec.init0 B).iter j).br (8 * ((Dec.init0 B).iter j).data.length)) = _
      rw [t1, t2]
      split <;> omega
    · show ((Dec.init0 B).iter j).rng * 256 = _
      rw [t3, Nat.pow_succ, Nat.mul_assoc]
    · show (((Dec.init0 B).iter j).val * 256 + (255 - ((Dec.init0 B).iter j).bits 8)) % 2147483648 + 1 + cod B (7 + 8 * j + 8) = _
      rw [hb, Nat.pow_succ]
      omega
theorem init_rt {B : List Int} (hB : ∀ x ∈ B, 0 ≤ x ∧ x < 256) : Rt B EncS.init (Dec.init B) := by
  have hi := init_iter hB
  have e : Dec.init B = (Dec.init0 B).iter 3 := by
    unfold Dec.init
    refine Dec.norm_iter (Nat.le_refl _) (fun i hi' => ?_) ?_
    · rw [(hi i (by omega)).2.2.1]
      obtain rfl | rfl | rfl : i = 0 ∨ i = 1 ∨ i = 2 := by omega
      all_goals decide
    · rw [(hi 3 (by omega)).2.2.1]
      decide
  obtain ⟨t1, t2, t3, t4, t5⟩ := hi 3 (by omega)
  rw [e]
  exact ⟨t1, t2, t3, t4, t5⟩
theorem init_roomy : EncS.init.roomy := fun _ => by decide
/-- A script that was written is read as it was meant. -/
theorem back_all {w0 : World} {l : List OpV} (hl : ∀ o ∈ l, o.fine w0) : (∀ x ∈ (EncS.init.after l).done, 0 ≤ x ∧ x < 256) ∧
    ∀ (i : Nat) (o : OpV), l[i]? = some o → ∃ s t : SeenV, ((Dec.init (EncS.init.after l).done).seen l)[i]? = some s ∧ (EncS.init.seen l)[i]? = some t ∧ s.rng = t.rng ∧ s.fine = true ∧ o.back s.value := by
  have hinv := EncS.after_inv (l := l) EncS.init_inv fun o ho => (hl o ho).wr.puts
  have hr := after_roomy EncS.init_inv init_roomy hl
  obtain ⟨hB, h1, h2⟩ := done_ends hinv hr
  exact ⟨hB, seen_rt hB EncS.init_inv init_roomy hl h1 h2 (init_rt hB)⟩
theorem done_len {e : EncS} {N : Nat} (h : e.inv N) : e.done.length ≤ 5 * N + 8 := by
  obtain ⟨a, b, _⟩ := EncS.last_facts h
  have ht := h.ok.tail
  have h3 := a.2.2
  have hb : e.base.length ≤ 5 * N + 8 := by
    unfold EncS.base
    rw [List.length_append, List.length_append, List.length_reverse, List.length_replicate, b]
    cases e.last.more e.free
    · show _ + 0 + _ ≤ _
      omega
    · show _ + 1 + _ ≤ _
      omega
  unfold EncS.done
  split
  · exact hb
  · cases e.last.more e.free
    · show (e.base.set _ _).length ≤ _
      rw [List.length_set]
      exact hb
    · show (e.base.set _ _).length ≤ _
      rw [List.length_set]
      exact hb
theorem bytes_str {l : List Int} (h : ∀ x ∈ l, 0 ≤ x ∧ x < 256) : bytesOf (strOf l) = l := by
  have key : ∀ (l : List Int) (r : ByteArray), (l.foldl (fun r n => r.push (UInt8.ofNat n.toNat)) r).data.toList = r.data.toList ++ l.map fun n => UInt8.ofNat n.toNat := by
    intro l
    induction l with
    | nil => intro r; simp
    | cons x t ih =>
      intro r
      rw [List.foldl_cons, ih, ByteArray.data_push, Array.toList_push, List.append_assoc]
      rfl
  unfold bytesOf strOf
  rw [key]
  show (([] : List UInt8) ++ _).map _ = _
  rw [List.nil_append, List.map_map]
  refine (List.map_congr_left (g := id) fun x hx => ?_).trans (List.map_id _)
  obtain ⟨h1, h2⟩ := h x hx
  show ((UInt8.ofNat x.toNat).toNat : Int) = x
  rw [UInt8.toNat_ofNat']
  omega
end Go.Proofs.Ytkomikpfnogjcaa
