/- Writing by a script: the walk. -/
import Derived.Test.YtkomikpfnogjcaaRnH
namespace Go.Proofs.Ytkomikpfnogjcaa
open Go Go.Vc
set_option maxRecDepth 100000
set_option maxHeartbeats 4000000

def svR : Nat → CV
  | 0 => .val (.slice none 0 0)
  | k + 1 => .vec 1 (k + 1)
def tR : Nat → List SeenV → List Blk
  | 0, _ => []
  | _ + 1, ss => [seenBlk ss]
theorem enc_cells {e : EncS} {t c : Int} (ht : t = (e.tell % 4294967296 : Nat)) (hc : c = (e.frac % 4294967296 : Nat)) :
    flat encSeen [] [e.tells] = [.val (.int .i64 ((0 : Nat) : Int)), .val (.bool true), .val (.int .u32 e.rng), .val (.int .u32 t), .val (.int .u32 c), .val (.int .i64 ((0 : Nat) : Int))] := by
  subst ht hc
  rfl
theorem encodeW (w0 : World) {l : List OpV} (hl2 : l.length ≤ 65536) (hg : ∀ o ∈ l, o.puts w0 ∧ o.tab.oneCell' = true) :
    CallsA Try.prog w0 20 [.c (.vec 0 l.length)] [.vec true 80 encOp [] 6 l] fun r H => r = .t [.c (.val (.string (strOf (EncS.init.after l).done))), .c (svR l.length), .c (.val (.int .i64 ((0 : Nat) : Int)))] ∧ H = .vec true 80 encOp [] 6 l :: tR l.length (EncS.init.seen l) := by
  obtain ⟨n, hn⟩ : ∃ n, n = l.length := ⟨_, rfl⟩
  rw [← hn]
  refine callsA_of_evD c20_ ?_
  conv => whnf
  refine CallsA.lift (H0 := [.cells 101 [.val (.slice none 0 0), .val (.slice none 0 0), .val (.int .u64 0), .val (.int .u64 0), .val (.int .u32 0), .val (.int .u32 0), .val (.int .i64 0), .val (.int .i64 0), .val (.int .u64 0)]]) [4] rfl ⟨rfl, rfl, trivial⟩ rfl (encInit w0) ?_
  rintro _ _ ⟨rfl, rfl⟩
  conv => whnf
  refine Or.inl ?_
  conv => whnf
  refine ⟨_root_.Fin (n + 1), fun ⟨k, _⟩ => encSt l n k, fun k => n - k.1, ⟨⟨0, by omega⟩, shEmb0 5 6 rfl rfl rfl rfl rfl rfl rfl (Nat.le_of_ble_eq_true rfl) rfl ⟨rfl, rfl, rfl, rfl, rfl, rfl, rfl, trivial⟩⟩, fun ⟨k, hk⟩ => ?_⟩
  have hinv : (EncS.init.after (l.take k)).inv (4 * k) := by
    have := EncS.after_inv (w0 := w0) (l := l.take k) EncS.init_inv (fun x hx => (hg x (List.mem_of_mem_take hx)).1)
    rw [List.length_take, Nat.min_eq_left (by omega)] at this
    exact this.mono (by omega)
  have hssl : (EncS.init.seen (l.take k)).length = k := by rw [EncS.seen_len, List.length_take]; omega
  have haf : ∀ o, l[k]? = some o → EncS.init.after (l.take (k + 1)) = (EncS.init.after (l.take k)).act o := fun o ho => by rw [← take_snoc' ho, EncS.after_snoc]
  have hsf : ∀ o, l[k]? = some o → EncS.init.seen (l.take (k + 1)) = EncS.init.seen (l.take k) ++ [((EncS.init.after (l.take k)).act o).tells] := fun o ho => by rw [← take_snoc' ho, EncS.seen_snoc]
  have hst : encSt l n (k + 1) = ⟨encEnv n (k + 1), encSh l (.vec 7 (k + 1)) (EncS.init.after (l.take (k + 1))) (seenBlk (EncS.init.seen (l.take (k + 1))))⟩ := rfl
  have hend : k = n → EncS.init.after (l.take k) = EncS.init.after l ∧ EncS.init.seen (l.take k) = EncS.init.seen l := by
    intro hk
    rw [hk, hn, List.take_length]
    exact ⟨rfl, rfl⟩
  conv => whnf
  generalize hek : EncS.init.after (l.take k) = e at *
  generalize hsk : EncS.init.seen (l.take k) = ss at *
  refine ⟨fun h1 => ?_, fun h1 => ?_⟩
  · have h1 : k < n := lt_t h1
    obtain ⟨o, ho⟩ : ∃ o, l[k]? = some o := ⟨_, List.getElem?_eq_getElem (by omega)⟩
    obtain ⟨hgo, hgt⟩ := hg o (List.mem_of_getElem? ho)
    have haf := haf o ho
    have hsf := hsf o ho
    conv => whnf
    refine Or.inl ?_
    conv => whnf
    refine ⟨by omega, ?_⟩
    conv => whnf
    refine ⟨o, ho, ?_⟩
    conv => whnf
    refine Or.inr ⟨Unit, fun _ => ⟨encEnv n k, encSh l (svOf k) (e.act o) (tOf k ss)⟩, ?_, fun _ => ?_⟩
    · obtain ⟨act, oa, ob, oc, ov, otab, rows⟩ := o
      obtain ⟨a32, b32, c32, kind⟩ := hgo
      simp only at a32 b32 c32 kind
      clear haf hsf ho
      rcases kind with ⟨rfl, h2⟩ | ⟨rfl, h2, h3⟩ | ⟨rfl, total, rest, ta, c, hr, ht, hrl, hrx, hrk, htab, hcell⟩ | ⟨rfl, h2, h3⟩ | ⟨rfl, h2⟩ | ⟨rfl, h2, h3, h4, h5⟩
      · have hact : e.act ⟨0, oa, ob, oc, ov, otab, rows⟩ = e.cum oa ob oc := rfl
        generalize e.act ⟨0, oa, ob, oc, ov, otab, rows⟩ = res at *
        subst hact
        conv => whnf
        refine ⟨fun _ => ?_, (fun h => by cases h)⟩
        conv => whnf
        refine CallsA.lift (H0 := e.H) [4, 5, 6] rfl ⟨rfl, rfl, rfl, rfl, rfl, rfl, trivial⟩ rfl (cumW w0 e (by omega) hinv (lo := oa) (hi := ob) (n := oc) a32 b32 h2) ?_
        rintro _ _ ⟨rfl, rfl⟩
        conv => whnf
        exact ⟨(), shEmb 9 10 rfl rfl rfl rfl rfl rfl rfl rfl (Nat.le_of_ble_eq_true rfl) rfl rfl (fun t => ⟨rfl, rfl, rfl, rfl, rfl, rfl, rfl, trivial⟩)⟩
      · have hact : e.act ⟨1, oa, ob, oc, ov, otab, rows⟩ = (e.bit oa ob).norm := rfl
        generalize e.act ⟨1, oa, ob, oc, ov, otab, rows⟩ = res at *
        subst hact
        conv => whnf
        refine ⟨(fun h => by cases h), fun _ => ?_⟩
        conv => whnf
        refine ⟨fun _ => ?_, (fun h => by cases h)⟩
        conv => whnf
        rw [nwrap64 (n := oa) (by omega)]
        refine CallsA.lift (H0 := e.H) [4, 5, 6] rfl ⟨rfl, rfl, rfl, rfl, rfl, rfl, trivial⟩ rfl (logpW w0 e (by omega) hinv (k := oa) (b := ob) h2 h3) ?_
        rintro _ _ ⟨rfl, rfl⟩
        conv => whnf
        exact ⟨(), shEmb 9 10 rfl rfl rfl rfl rfl rfl rfl rfl (Nat.le_of_ble_eq_true rfl) rfl rfl (fun t => ⟨rfl, rfl, rfl, rfl, rfl, rfl, rfl, trivial⟩)⟩
      · subst hr htab
        have hact : e.act ⟨2, oa, ob, oc, ov, .slice (some ta) (total :: rest).length c, total :: rest⟩ = e.tab total rest oa := rfl
        generalize e.act ⟨2, oa, ob, oc, ov, .slice (some ta) (total :: rest).length c, total :: rest⟩ = res at *
        subst hact
        conv => whnf
        refine ⟨(fun h => by cases h), fun _ => ?_⟩
        conv => whnf
        refine ⟨(fun h => by cases h), fun _ => ?_⟩
        conv => whnf
        refine ⟨fun _ => ?_, (fun h => by cases h)⟩
        conv => whnf
        refine CallsA.lift (H0 := []) [] rfl trivial rfl (tableW w0 (a := ta) (c := c) (tab := total :: rest) (by simp) (by simp only [List.length_cons]; omega) hcell) ?_
        rintro _ _ ⟨rfl, rfl⟩
        conv => whnf
        refine ⟨⟨⟨rfl, rfl⟩, trivial⟩, ?_⟩
        conv => whnf
        refine CallsA.lift (H0 := e.H ++ [tabBlk total rest]) [4, 5, 6, 9] rfl ?_ rfl (encIcdf w0 e (by omega) hinv ht (by omega) hrx hrk) ?_
        · exact ⟨rfl, rfl, rfl, rfl, rfl, rfl, rfl, rfl, trivial⟩
        rintro _ _ ⟨rfl, rfl⟩
        conv => whnf
        refine ⟨trivial, ?_⟩
        conv => whnf
        exact ⟨(), shEmb 10 11 rfl rfl rfl rfl rfl rfl rfl rfl (Nat.le_of_ble_eq_true rfl) rfl rfl (fun t => ⟨rfl, rfl, rfl, rfl, rfl, rfl, rfl, trivial⟩)⟩
      · have hact : e.act ⟨3, oa, ob, oc, ov, otab, rows⟩ = e.whole oa ob := rfl
        generalize e.act ⟨3, oa, ob, oc, ov, otab, rows⟩ = res at *
        subst hact
        conv => whnf
        refine ⟨(fun h => by cases h), fun _ => ?_⟩
        conv => whnf
        refine ⟨(fun h => by cases h), fun _ => ?_⟩
        conv => whnf
        refine ⟨(fun h => by cases h), fun _ => ?_⟩
        conv => whnf
        refine ⟨fun _ => ?_, (fun h => by cases h)⟩
        conv => whnf
        refine CallsA.lift (H0 := e.H) [4, 5, 6] rfl ⟨rfl, rfl, rfl, rfl, rfl, rfl, trivial⟩ rfl (encUniform w0 e (by omega) hinv (n := oa) (v := ob) h2 a32 h3) ?_
        rintro _ _ ⟨rfl, rfl⟩
        conv => whnf
        exact ⟨(), shEmb 9 10 rfl rfl rfl rfl rfl rfl rfl rfl (Nat.le_of_ble_eq_true rfl) rfl rfl (fun t => ⟨rfl, rfl, rfl, rfl, rfl, rfl, rfl, trivial⟩)⟩
      · have hact : e.act ⟨4, oa, ob, oc, ov, otab, rows⟩ = e.raw oa ob := rfl
        generalize e.act ⟨4, oa, ob, oc, ov, otab, rows⟩ = res at *
        subst hact
        conv => whnf
        refine ⟨(fun h => by cases h), fun _ => ?_⟩
        conv => whnf
        refine ⟨(fun h => by cases h), fun _ => ?_⟩
        conv => whnf
        refine ⟨(fun h => by cases h), fun _ => ?_⟩
        conv => whnf
        refine ⟨(fun h => by cases h), fun _ => ?_⟩
        conv => whnf
        refine ⟨fun _ => ?_, (fun h => by cases h)⟩
        conv => whnf
        rw [nwrap64 (n := oa) (by omega)]
        refine CallsA.lift (H0 := e.H) [4, 5, 6] rfl ⟨rfl, rfl, rfl, rfl, rfl, rfl, trivial⟩ rfl (rawW w0 e (by omega) hinv (n := oa) (v := ob) h2 b32) ?_
        rintro _ _ ⟨rfl, rfl⟩
        conv => whnf
        exact ⟨(), shEmb 9 10 rfl rfl rfl rfl rfl rfl rfl rfl (Nat.le_of_ble_eq_true rfl) rfl rfl (fun t => ⟨rfl, rfl, rfl, rfl, rfl, rfl, rfl, trivial⟩)⟩
      · have hact : e.act ⟨5, oa, ob, oc, ov, otab, rows⟩ = e.lap oa ob ov := rfl
        generalize e.act ⟨5, oa, ob, oc, ov, otab, rows⟩ = res at *
        subst hact
        conv => whnf
        refine ⟨(fun h => by cases h), fun _ => ?_⟩
        conv => whnf
        refine ⟨(fun h => by cases h), fun _ => ?_⟩
        conv => whnf
        refine ⟨(fun h => by cases h), fun _ => ?_⟩
        conv => whnf
        refine ⟨(fun h => by cases h), fun _ => ?_⟩
        conv => whnf
        refine ⟨(fun h => by cases h), fun _ => ?_⟩
        conv => whnf
        refine ⟨fun _ => ?_, (fun h => by cases h)⟩
        conv => whnf
        refine CallsA.lift (H0 := e.H) [4, 5, 6] rfl ⟨rfl, rfl, rfl, rfl, rfl, rfl, trivial⟩ rfl (encLaplace w0 e (by omega) hinv (fs := oa) (decay := ob) (v := ov) h2 h3 h4 h5) ?_
        rintro _ _ ⟨rfl, rfl⟩
        conv => whnf
        exact ⟨(), shEmb 9 10 rfl rfl rfl rfl rfl rfl rfl rfl (Nat.le_of_ble_eq_true rfl) rfl rfl (fun t => ⟨rfl, rfl, rfl, rfl, rfl, rfl, rfl, trivial⟩)⟩
    · have hi2 := EncS.act_inv hinv hgo
      generalize e.act o = f at *
      have hb := hi2.big
      have hh := hi2.ok.hi
      have htt := hi2.ok.total
      cases k with
      | zero =>
        conv => whnf
        refine CallsA.lift (H0 := f.H) [4, 5, 6] rfl ⟨rfl, rfl, rfl, rfl, rfl, rfl, trivial⟩ rfl (encFinal w0 f) ?_
        rintro _ _ ⟨rfl, rfl⟩
        conv => whnf
        refine ⟨⟨⟨rfl, rfl⟩, trivial⟩, ?_⟩
        conv => whnf
        refine CallsA.lift (H0 := f.H) [4, 5, 6] rfl ⟨rfl, rfl, rfl, rfl, rfl, rfl, trivial⟩ rfl (encTell w0 f (by omega) (by omega) (by omega)) ?_
        rintro _ _ ⟨rfl, rfl⟩
        conv => whnf
        refine ⟨⟨⟨rfl, rfl⟩, trivial⟩, ?_⟩
        conv => whnf
        refine CallsA.lift (H0 := f.H) [4, 5, 6] rfl ⟨rfl, rfl, rfl, rfl, rfl, rfl, trivial⟩ rfl (encTellFrac w0 f (by omega) (by omega) (by omega)) ?_
        rintro _ _ ⟨rfl, rfl⟩
        conv => whnf
        refine ⟨⟨⟨rfl, rfl⟩, trivial⟩, ?_⟩
        conv => whnf
        refine ⟨⟨⟨rfl, rfl⟩, trivial⟩, ?_⟩
        conv => whnf
        refine ⟨by omega, SeenV, encSeen, [], [f.tells], fun _ => rfl, ⟨rfl, rfl, enc_cells (wrap_mod _) (wrap_mod _)⟩, by simp only [List.length_cons, List.length_nil]; omega, by simp only [List.length_cons, List.length_nil]; omega, ?_⟩
        conv => whnf
        refine ⟨trivial, ?_⟩
        conv => whnf
        refine ⟨trivial, ?_⟩
        conv => whnf
        rw [List.length_eq_zero_iff.1 hssl, List.nil_append] at hsf
        refine ⟨⟨1, by omega⟩, ?_, ?_⟩
        · show EmbS 1 (encSt l n (0 + 1)) _
          rw [hst, haf, hsf]
          refine shEmb1 5 6 9 rfl rfl rfl rfl rfl rfl rfl rfl rfl ⟨rfl, rfl, rfl, rfl, rfl, rfl, eq_i64 ?_, trivial⟩
          rw [nadd, nwrapi (by omega)]
        · show n - 1 < n - 0
          omega
      | succ k =>
        conv => whnf
        refine CallsA.lift (H0 := f.H) [4, 5, 6] rfl ⟨rfl, rfl, rfl, rfl, rfl, rfl, trivial⟩ rfl (encFinal w0 f) ?_
        rintro _ _ ⟨rfl, rfl⟩
        conv => whnf
        refine ⟨⟨⟨rfl, rfl⟩, trivial⟩, ?_⟩
        conv => whnf
        refine CallsA.lift (H0 := f.H) [4, 5, 6] rfl ⟨rfl, rfl, rfl, rfl, rfl, rfl, trivial⟩ rfl (encTell w0 f (by omega) (by omega) (by omega)) ?_
        rintro _ _ ⟨rfl, rfl⟩
        conv => whnf
        refine ⟨⟨⟨rfl, rfl⟩, trivial⟩, ?_⟩
        conv => whnf
        refine CallsA.lift (H0 := f.H) [4, 5, 6] rfl ⟨rfl, rfl, rfl, rfl, rfl, rfl, trivial⟩ rfl (encTellFrac w0 f (by omega) (by omega) (by omega)) ?_
        rintro _ _ ⟨rfl, rfl⟩
        conv => whnf
        refine ⟨⟨⟨rfl, rfl⟩, trivial⟩, ?_⟩
        conv => whnf
        refine ⟨⟨⟨rfl, rfl⟩, trivial⟩, ?_⟩
        conv => whnf
        refine ⟨hssl.symm, [f.tells], ⟨rfl, rfl, enc_cells (wrap_mod _) (wrap_mod _)⟩, by rw [List.length_append, List.length_singleton]; omega, by rw [List.length_append, List.length_singleton]; omega, ?_⟩
        conv => whnf
        refine ⟨trivial, ?_⟩
        conv => whnf
        refine ⟨trivial, ?_⟩
        conv => whnf
        refine ⟨⟨k + 1 + 1, by omega⟩, ?_, ?_⟩
        · show EmbS 1 (encSt l n (k + 1 + 1)) _
          rw [hst, haf, hsf]
          refine shEmb1 5 6 9 rfl rfl ?_ rfl rfl rfl rfl rfl rfl ⟨rfl, rfl, rfl, rfl, rfl, rfl, eq_i64 ?_, trivial⟩
          · show some (Blk.cells _ [CV.vec 9 (ss ++ [f.tells]).length]) = _
            rw [List.length_append, List.length_singleton, hssl]
          · rw [nadd, nwrapi (by omega)]
        · show n - (k + 1 + 1) < n - (k + 1)
          omega
  · have h1 : n ≤ k := lt_f h1
    obtain rfl : k = n := by omega
    obtain ⟨g1, g2⟩ := hend rfl
    rw [← g1, ← g2]
    clear hst haf hsf hek hsk hend g1 g2 hg
    cases k with
    | zero =>
      conv => whnf
      refine CallsA.lift (H0 := e.H) [4, 5, 6] rfl ⟨rfl, rfl, rfl, rfl, rfl, rfl, trivial⟩ rfl (doneW w0 e (by omega) hinv) ?_
      rintro _ _ ⟨rfl, rfl⟩
      conv => whnf
      refine ⟨⟨⟨rfl, rfl⟩, trivial⟩, ?_⟩
      conv => whnf
      refine ⟨trivial, e.done, ⟨rfl, Nat.le_refl _, rfl, by rw [List.take_length]⟩, ?_⟩
      conv => whnf
      refine ⟨⟨⟨rfl, rfl⟩, trivial⟩, ?_⟩
      conv => whnf
      refine ⟨⟨⟨rfl, rfl⟩, trivial⟩, ?_⟩
      conv => whnf
      refine ⟨trivial, ?_⟩
      conv => whnf
      refine ⟨trivial, ?_⟩
      conv => whnf
      exact Or.inr ⟨[0], .t [.c (.val (.string (strOf e.done))), .c (svR 0), .c (.val (.int .i64 ((0 : Nat) : Int)))], .vec true 80 encOp [] 6 l :: tR 0 ss, ⟨rfl, ⟨rfl, rfl, trivial⟩, rfl⟩, rfl, rfl, rfl⟩
    | succ n =>
      conv => whnf
      refine CallsA.lift (H0 := e.H) [4, 5, 6] rfl ⟨rfl, rfl, rfl, rfl, rfl, rfl, trivial⟩ rfl (doneW w0 e (by omega) hinv) ?_
      rintro _ _ ⟨rfl, rfl⟩
      conv => whnf
      refine ⟨⟨⟨rfl, rfl⟩, trivial⟩, ?_⟩
      conv => whnf
      refine ⟨trivial, e.done, ⟨rfl, Nat.le_refl _, rfl, by rw [List.take_length]⟩, ?_⟩
      conv => whnf
      refine ⟨⟨⟨rfl, rfl⟩, trivial⟩, ?_⟩
      conv => whnf
      refine ⟨⟨⟨rfl, rfl⟩, trivial⟩, ?_⟩
      conv => whnf
      refine ⟨trivial, ?_⟩
      conv => whnf
      refine ⟨trivial, ?_⟩
      conv => whnf
      exact Or.inr ⟨[0, 7], .t [.c (.val (.string (strOf e.done))), .c (svR (n + 1)), .c (.val (.int .i64 ((0 : Nat) : Int)))], .vec true 80 encOp [] 6 l :: tR (n + 1) ss, ⟨rfl, ⟨rfl, rfl, rfl, rfl, trivial⟩, rfl⟩, rfl, rfl, rfl⟩
end Go.Proofs.Ytkomikpfnogjcaa
