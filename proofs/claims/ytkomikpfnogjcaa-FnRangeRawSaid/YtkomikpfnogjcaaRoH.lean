/- The reference writes a script: the walk. -/
import Derived.Test.YtkomikpfnogjcaaRoG
namespace Go.Proofs.Ytkomikpfnogjcaa
open Go Go.Vc
set_option maxRecDepth 100000
set_option maxHeartbeats 4000000

def EncS.rnil (e : EncS) : Blk := .cells 95 [.val (.slice none 0 0), .val (.slice none 0 0), .val (.int .u32 e.rng), .val (.int .u32 e.low), .val (.int .i64 e.rem), .val (.int .i64 e.ext), .val (.int .i64 e.total), .val (.int .u64 e.win), .val (.int .i64 e.nend)]
theorem EncS.rnil_of {e : EncS} {w b r l x t k : Int} (h5 : r = e.rng) (h6 : l = e.low) (h7 : x = e.rem) (h8 : k = e.ext) (h9 : t = e.total) (h3 : w = e.win) (h4 : b = e.nend) : some (Blk.cells 95 [.val (.slice none 0 0), .val (.slice none 0 0), .val (.int .u32 r), .val (.int .u32 l), .val (.int .i64 x), .val (.int .i64 k), .val (.int .i64 t), .val (.int .u64 w), .val (.int .i64 b)]) = some e.rnil := by
  subst h3 h4 h5 h6 h7 h8 h9
  rfl
theorem w_cells {x t c : Int} {r t' c' : Nat} (ht : t = t') (hc : c = c') : flat encSeen [] [(⟨x, true, r, t', c', 0⟩ : SeenV)] = [.val (.int .i64 x), .val (.bool true), .val (.int .u32 r), .val (.int .u32 t), .val (.int .u32 c), .val (.int .i64 ((0 : Nat) : Int))] := by
  subst ht hc
  rfl
def EncS.rend (e : EncS) (k : Nat) : Nat := (e.low + (2 ^ k - 1)) % 4294967296 / 2 ^ k * 2 ^ k
def EncS.rcutK (e : EncS) : Nat := if (e.low + e.rng) % 4294967296 ≤ e.rend (len e.rng - 1) + (2 ^ (len e.rng - 1) - 1) then len e.rng - 2 else len e.rng - 1
def EncS.routs (e : EncS) : Nat := (31 - e.rcutK + 7) / 8
def EncS.rflush (e : EncS) : EncS := (e.outIter (e.rend e.rcutK) e.routs).1
def EncS.rleft (e : EncS) : Int := ((31 - e.rcutK : Nat) : Int) - ((8 * e.routs : Nat) : Int)
def EncS.rlast (e : EncS) : EncS := if 0 ≤ e.rflush.rem ∨ 0 < e.rflush.ext then e.rflush.carry 0 else e.rflush
def orB (y : Int) (w : Nat) : Int := IntKind.u8.wrap ((BitVec.ofInt IntKind.u8.bits y ||| BitVec.ofInt IntKind.u8.bits (IntKind.u8.wrap w)).toNat : Nat)
def EncS.rmerge (f : EncS) (n : Int) : EncS := if f.nend = 0 then f else if 0 < f.buf.length ∧ (f.nend : Int) ≤ -n then { f with buf := f.buf.set (f.buf.length - 1) (orB (f.buf.getD (f.buf.length - 1) 0) f.win) } else { f with tail := f.tail ++ [IntKind.u8.wrap f.win] }
def rstr (f : ByteArray) (t : List Int) : Nat → ByteArray
  | 0 => f
  | j + 1 => rstr f t j ++ strOf [t.getD (t.length - 1 - j) 0]
/-- All bytes that the reference writes. -/
def EncS.rdone (e : EncS) : ByteArray := rstr (strOf (e.rlast.rmerge e.rleft).buf) (e.rlast.rmerge e.rleft).tail (e.rlast.rmerge e.rleft).tail.length
theorem strOf_size (l : List Int) : (strOf l).size = l.length := by
  have h : ∀ (l : List Int) (r : ByteArray), (l.foldl (fun r n => r.push (UInt8.ofNat n.toNat)) r).size = r.size + l.length := by
    intro l
    induction l with
    | nil => intro r; rfl
    | cons x t ih =>
      intro r
      rw [List.foldl_cons, ih, ByteArray.size_push, List.length_cons]
      omega
  have := h l ByteArray.empty
  unfold strOf
  rw [this]
  show 0 + _ = _
  omega
theorem rstr_size (f : ByteArray) (t : List Int) : ∀ j, (rstr f t j).size = f.size + j
  | 0 => rfl
  | j + 1 => by
    show (rstr f t j ++ strOf _).size = _
    rw [ByteArray.size_append, rstr_size f t j, strOf_size]
    rfl
theorem nilC {w0 : World} {f : FuncId} {args : List A1} {e : EncS} {R : AV → List Blk → Prop} (hb : e.buf = []) (ht : e.tail = []) (h : CallsA Try.prog w0 f args e.RH R) : CallsA Try.prog w0 f args [e.rnil] R := by
  refine nil2 (en := encI .u8) (Tb := 5) (fun _ => rfl) ?_
  have : e.RH = [.cells 95 (.vec 1 0 :: .vec 2 0 :: [.val (.int .u32 e.rng), .val (.int .u32 e.low), .val (.int .i64 e.rem), .val (.int .i64 e.ext), .val (.int .i64 e.total), .val (.int .u64 e.win), .val (.int .i64 e.nend)]), .vec true 5 (encI .u8) [] 1 ([] : List Int), .vec true 5 (encI .u8) [] 1 ([] : List Int)] := by
    unfold EncS.RH EncS.rblk byteBlk
    rw [hb, ht]
    rfl
  rw [← this]
  exact h
def EncS.rrng (e : EncS) : List OpV → List Nat
  | [] => []
  | o :: r => (e.ract o).rng :: (e.ract o).rrng r
theorem EncS.rrng_snoc (e : EncS) (l : List OpV) (o : OpV) : e.rrng (l ++ [o]) = e.rrng l ++ [((e.rafter l).ract o).rng] := by
  induction l generalizing e with
  | nil => rfl
  | cons x r ih => exact congrArg (_ :: ·) (ih _)
def wEnv (v : Value) (n k : Nat) (sv : CV) : Env := [(3, .o (.c sv)), (5, .o (.c (.ptr 0 0))), (24, .o (.c (.val v))), (25, .o (.c (.val (.int .i64 n)))), (26, .o (.c (.val (.int .i64 k))))]
def wSt (v : Value) (n : Nat) (e : EncS) (ss : List SeenV) : Nat → S
  | 0 => ⟨wEnv v n 0 (.val (.slice none 0 0)), [e.rnil]⟩
  | k + 1 => ⟨wEnv v n (k + 1) (.vec 3 (k + 1)), e.RH ++ [seenB ss]⟩
structure wInv (l : List OpV) (k : Nat) (ss : List SeenV) : Prop where
  len : ss.length = k
  rng : ss.map SeenV.rng = EncS.init.rrng (l.take k)
  met : ∀ o ∈ l.take k, o.met
  le : k ≤ l.length
theorem OpV.wr.tab2 {w0 : World} {o : OpV} (h : o.wr w0) (ha : o.act = 2) : o.a + 1 < o.rows.length ∧ o.rows.length ≤ 65536 := by
  rcases h.kind with ⟨k, _⟩ | ⟨k, _⟩ | ⟨k, total, rest, ta, c, hr, _, _, hl, _, hal, _⟩ | ⟨k, _⟩ | ⟨k, _⟩ | ⟨k, _⟩
  · omega
  · omega
  · rw [hr, List.length_cons]
    omega
  · omega
  · omega
  · omega
theorem sEncodeW (w0 : World) {a : Addr} {c : Nat} {l : List OpV} (hv : opsAt w0 (.slice (some a) l.length c) l) (hl : l.length ≤ 400) (hne : l ≠ []) (hg : ∀ o ∈ l, o.wr w0) : CallsA Try.prog w0 19 [.c (.val (.slice (some a) l.length c))] [] fun r H =>
    (r = .t [.c (.val (.string (ByteArray.mk #[]))), .c (.val (.slice none 0 0)), .c (.val (.int .i64 ((2 : Nat) : Int)))] ∧ H = []) ∨
    (∃ ss, wInv l l.length ss ∧ r = .t [.c (.val (.string (EncS.init.rafter l).rdone)), .c (.vec 0 l.length), .c (.val (.int .i64 ((1 : Nat) : Int)))] ∧ H = [seenB ss]) := by
  have hbb : ∀ (i : Nat) (x : OpV), l[i]? = some x → x.lies w0 (a.add (i * 6)) ∧ x.fits w0 := by
    rcases hv with ⟨h, _⟩ | ⟨a', c', h, _, _, hbb⟩
    · cases h
    · cases h
      exact hbb
  refine callsA_of_ev c19_ ?_
  conv => whnf
  refine Or.inl ?_
  conv => whnf
  refine ⟨fun h => absurd (gt_t h) (by omega), fun _ => ?_⟩
  conv => whnf
  refine Or.inl ?_
  conv => whnf
  refine ⟨{p : Nat × List SeenV // wInv l p.1 p.2}, fun ⟨(k, ss), _⟩ => wSt (.slice (some a) l.length c) l.length (EncS.init.rafter (l.take k)) ss k, fun p => l.length - p.1.1, ⟨⟨(0, []), rfl, rfl, (fun o ho => by cases ho), Nat.zero_le _⟩, [0], ⟨rfl, ⟨rfl, rfl, trivial⟩, rfl⟩, rfl, rfl, rfl, rfl, rfl, trivial⟩, fun ⟨(k, ss), hw⟩ => ?_⟩
  have hle := hw.le
  simp only at hle
  have hinv : (EncS.init.rafter (l.take k)).rinv (4 * k) := by
    have := EncS.rafter_rinv (w0 := w0) (l := l.take k) EncS.init_rinv (fun x hx => hg x (List.mem_of_mem_take hx))
    rw [List.length_take, Nat.min_eq_left hle] at this
    exact this.mono (by omega)
  have hnext : ∀ o s, l[k]? = some o → o.met → s.rng = ((EncS.init.rafter (l.take k)).ract o).rng → wInv l (k + 1) (ss ++ [s]) := by
    intro o s ho hm hs
    have ht := take_snoc' ho
    have hk := (List.getElem?_eq_some_iff.1 ho).1
    refine ⟨by rw [List.length_append, List.length_singleton, hw.len], ?_, ?_, hk⟩
    · rw [List.map_append, hw.rng, ← ht, EncS.rrng_snoc]
      show _ ++ [s.rng] = _
      rw [hs]
    · intro x hx
      rw [← ht] at hx
      rcases List.mem_append.1 hx with hx | hx
      · exact hw.met x hx
      · rw [List.mem_singleton.1 hx]
        exact hm
  have haf : ∀ o, l[k]? = some o → EncS.init.rafter (l.take (k + 1)) = (EncS.init.rafter (l.take k)).ract o := fun o ho => by rw [← take_snoc' ho, EncS.rafter_snoc]
  cases k with
  | zero =>
    conv => whnf
    have hb0 : (EncS.init.rafter (l.take 0)).buf = [] := rfl
    have ht0 : (EncS.init.rafter (l.take 0)).tail = [] := rfl
    generalize hek : EncS.init.rafter (l.take 0) = e at *
    refine ⟨fun h1 => ?_, fun h1 => ?_⟩
    · have h1 : 0 < l.length := lt_t h1
      obtain ⟨o, ho⟩ : ∃ o, l[0]? = some o := ⟨_, List.getElem?_eq_getElem h1⟩
      obtain ⟨⟨x0, x1, x2, x3, x4, x5, x6⟩, hfit⟩ := hbb 0 o ho
      have hwr := hg o (List.mem_of_getElem? ho)
      have haf := haf o ho
      have hnext := fun s => hnext o s ho
      have hf2 : o.act = 2 → o.a + 1 < o.rows.length ∧ o.rows.length ≤ 65536 := fun ha => hwr.tab2 ha
      conv => whnf
      refine Or.inl ?_
      conv => whnf
      refine ⟨by omega, ?_⟩
      conv => whnf
      refine ⟨_, x0, rfl, ?_⟩
      conv => whnf
      refine ⟨_, x1, rfl, ?_⟩
      conv => whnf
      refine ⟨_, x2, rfl, ?_⟩
      conv => whnf
      refine ⟨_, x3, rfl, ?_⟩
      conv => whnf
      refine ⟨_, x4, rfl, ?_⟩
      conv => whnf
      refine ⟨_, x5, x6, ?_⟩
      conv => whnf
      refine Or.inl ?_
      conv => whnf
      refine CallsA.lift (H0 := []) [] rfl trivial rfl (opFineT w0 hfit hf2) ?_
      rintro _ _ ⟨b1, rfl, rfl⟩
      conv => whnf
      refine ⟨fun _ => ?_, fun _ => ?_⟩
      · conv => whnf
        exact Or.inr ⟨[], .t [.c (.val (.string (ByteArray.mk #[]))), .c (.val (.slice none 0 0)), .c (.val (.int .i64 ((2 : Nat) : Int)))], [], ⟨rfl, trivial, rfl⟩, rfl, Or.inl ⟨rfl, rfl⟩⟩
      · conv => whnf
        refine Or.inr ⟨{x : Int // o.met}, fun ⟨x, _⟩ => ⟨[(3, .o (.c (.val (.slice none 0 0)))), (5, .o (.c (.ptr 0 0))), (8, .o (.c (.val (.int .i64 x)))), (24, .o (.c (.val (.slice (some a) l.length c)))), (25, .o (.c (.val (.int .i64 l.length)))), (26, .o (.c (.val (.int .i64 (0 : Nat)))))], (e.ract o).RH⟩, ?_, fun ⟨x, hmet⟩ => ?_⟩
        · obtain ⟨act, oa, ob, oc, ov, otab, rows⟩ := o
          obtain ⟨a32, b32, c32, kind⟩ := hwr
          simp only at a32 b32 c32 kind
          clear haf hnext ho x0 x1 x2 x3 x4 x5 x6
          rcases kind with ⟨rfl, h1, h2, h3⟩ | ⟨rfl, h1, h2, h3⟩ | ⟨rfl, total, rest, ta, tc, hr, ht1, ht2, hrl, hrx, hal, hlt, htab, hcell⟩ | ⟨rfl, h1, h2⟩ | ⟨rfl, h2, h3⟩ | ⟨rfl, h1, h2, h3, h4, h5⟩
          · have hact : e.ract ⟨0, oa, ob, oc, ov, otab, rows⟩ = (e.rsym oa ob oc).norm := rfl
            generalize hres : e.ract ⟨0, oa, ob, oc, ov, otab, rows⟩ = res at *
            subst hact
            clear hres
            conv => whnf
            refine ⟨fun _ => ?_, (fun h => by cases h)⟩
            conv => whnf
            refine CallsA.lift (H0 := [EncS.rnil (e)]) [0] rfl ⟨rfl, rfl, trivial⟩ rfl (nilC hb0 ht0 (rsymW w0 e (by omega) hinv (lo := oa) (hi := ob) (n := oc) h1 (by omega) (by omega) h3 (by omega))) ?_
            rintro _ _ ⟨rfl, rfl⟩
            conv => whnf
            exact ⟨⟨_, (fun h => by cases h)⟩, [0, 4, 5], ⟨rfl, ⟨rfl, rfl, rfl, rfl, rfl, rfl, trivial⟩, rfl⟩, rfl, rfl, rfl, rfl, rfl, rfl, trivial⟩
          · have hact : e.ract ⟨1, oa, ob, oc, ov, otab, rows⟩ = (e.rbit oa ob).norm := rfl
            generalize hres : e.ract ⟨1, oa, ob, oc, ov, otab, rows⟩ = res at *
            subst hact
            clear hres
            conv => whnf
            refine ⟨(fun h => by cases h), fun _ => ?_⟩
            conv => whnf
            refine ⟨fun _ => ?_, (fun h => by cases h)⟩
            conv => whnf
            have hhi := hinv.ok.hi
            have hq : e.rng / 2 ^ oa ≤ e.rng := Nat.div_le_self _ _
            have hsc : ((e.rng : Nat) : Int).fdiv (2 ^ min ((oa : Nat) : Int).toNat IntKind.u32.bits) = ((e.rng / 2 ^ oa : Nat) : Int) := by rw [nshrv32 _ _ (by omega)]
            refine ⟨by omega, ?_⟩
            conv => whnf
            refine Or.inl ?_
            conv => whnf
            refine ⟨fun c1 => ?_, fun c1 => ?_⟩
            · have c1 : ob = 1 := beq_t c1
              have hs : e.rbit oa ob = { e with low := (e.low + (e.rng - e.rng / 2 ^ oa)) % 4294967296, rng := e.rng / 2 ^ oa } := if_pos c1
              have hok := EncS.rbit_rok (b := ob) hinv h1 h2
              rw [hs] at hok ⊢
              conv => whnf
              refine ⟨trivial, ?_⟩
              conv => whnf
              refine CallsA.lift (H0 := [EncS.rnil ({ e with low := (e.low + (e.rng - e.rng / 2 ^ oa)) % 4294967296, rng := e.rng / 2 ^ oa })]) [0] rfl ⟨EncS.rnil_of (e := { e with low := (e.low + (e.rng - e.rng / 2 ^ oa)) % 4294967296, rng := e.rng / 2 ^ oa }) ?_ ?_ rfl rfl rfl rfl rfl, rfl, trivial⟩ rfl (nilC hb0 ht0 (rnormW w0 _ (by omega) hok)) ?_
              · show _ = ((_ : Nat) : Int)
                rw [hsc]
              · show _ = (((e.low + (e.rng - e.rng / 2 ^ oa)) % 4294967296 : Nat) : Int)
                rw [hsc, nsub hq, nwrap32 (n := e.rng - e.rng / 2 ^ oa) (Nat.lt_of_le_of_lt (Nat.sub_le _ _) (by omega)), nadd, wrap_mod]
              rintro _ _ ⟨rfl, rfl⟩
              conv => whnf
              exact ⟨⟨_, (fun h => by cases h)⟩, [0, 4, 5], ⟨rfl, ⟨rfl, rfl, rfl, rfl, rfl, rfl, trivial⟩, rfl⟩, rfl, rfl, rfl, rfl, rfl, rfl, trivial⟩
            · have c1 : ¬ ob = 1 := beq_f c1
              have hs : e.rbit oa ob = { e with rng := e.rng - e.rng / 2 ^ oa } := if_neg c1
              have hok := EncS.rbit_rok (b := ob) hinv h1 h2
              rw [hs] at hok ⊢
              conv => whnf
              refine CallsA.lift (H0 := [EncS.rnil ({ e with rng := e.rng - e.rng / 2 ^ oa })]) [0] rfl ⟨EncS.rnil_of (e := { e with rng := e.rng - e.rng / 2 ^ oa }) ?_ rfl rfl rfl rfl rfl rfl, rfl, trivial⟩ rfl (nilC hb0 ht0 (rnormW w0 _ (by omega) hok)) ?_
              · show _ = ((_ : Nat) : Int)
                rw [hsc, nsub hq, nwrap32 (Nat.lt_of_le_of_lt (Nat.sub_le _ _) (by omega))]
              rintro _ _ ⟨rfl, rfl⟩
              conv => whnf
              exact ⟨⟨_, (fun h => by cases h)⟩, [0, 4, 5], ⟨rfl, ⟨rfl, rfl, rfl, rfl, rfl, rfl, trivial⟩, rfl⟩, rfl, rfl, rfl, rfl, rfl, rfl, trivial⟩
          · subst hr htab
            obtain ⟨f1, f2, f3⟩ := tab_facts hrx hal
            have ha1 : IntKind.u32.wrap (((oa : Nat) : Int) + ((1 : Nat) : Int)) = ((oa + 1 : Nat) : Int) := by rw [nadd, nwrap32 (by omega)]
            have hln : (total :: rest).length = rest.length + 1 := rfl
            have hg1 : (total :: rest)[oa + 1]? = some ((total :: rest).getD (oa + 1) 0) := by
              rw [List.getD_eq_getElem?_getD, List.getElem?_eq_getElem (by omega)]
              rfl
            have hc1 := (hcell (oa + 1) _ hg1).2
            have hc0 := (hcell 0 total rfl).2
            have hact : e.ract ⟨2, oa, ob, oc, ov, .slice (some ta) (total :: rest).length tc, total :: rest⟩ = (e.rsym (lowOf (total :: rest) oa) ((total :: rest).getD (oa + 1) 0) total).norm := rfl
            generalize hres : e.ract ⟨2, oa, ob, oc, ov, .slice (some ta) (total :: rest).length tc, total :: rest⟩ = res at *
            subst hact
            clear hres
            have hlt : lowOf (total :: rest) oa < (total :: rest).getD (oa + 1) 0 := hlt
            have hhi : (total :: rest).getD (oa + 1) 0 ≤ total := by omega
            generalize (total :: rest).getD (oa + 1) 0 = hi at *
            conv => whnf
            refine ⟨(fun h => by cases h), fun _ => ?_⟩
            conv => whnf
            refine ⟨(fun h => by cases h), fun _ => ?_⟩
            conv => whnf
            refine ⟨fun _ => ?_, (fun h => by cases h)⟩
            conv => whnf
            rw [ha1]
            refine ⟨⟨by omega, by omega⟩, ?_⟩
            conv => whnf
            refine ⟨_, by rw [Int.toNat_natCast, Nat.mul_one]; exact hc1, rfl, ?_⟩
            conv => whnf
            refine ⟨⟨by omega, by omega⟩, ?_⟩
            conv => whnf
            refine ⟨_, hc0, rfl, ?_⟩
            conv => whnf
            refine CallsA.lift (H0 := []) [] rfl trivial rfl (belowW w0 (ta := ta) (c := tc) (k := oa) (rows := total :: rest) (by omega) hcell) ?_
            rintro _ _ ⟨rfl, rfl⟩
            generalize lowOf (total :: rest) oa = lo at *
            conv => whnf
            refine ⟨⟨trivial, ⟨rfl, rfl⟩, trivial, ⟨rfl, rfl⟩, ⟨rfl, rfl⟩, trivial⟩, ?_⟩
            conv => whnf
            refine CallsA.lift (H0 := [EncS.rnil (e)]) [0] rfl ⟨rfl, rfl, trivial⟩ rfl (nilC hb0 ht0 (rsymW w0 e (by omega) hinv (lo := lo) (hi := hi) (n := total) hlt (by omega) (by omega) (by omega) (by omega))) ?_
            rintro _ _ ⟨rfl, rfl⟩
            conv => whnf
            refine ⟨trivial, ?_⟩
            conv => whnf
            exact ⟨⟨_, (fun h => by cases h)⟩, [0, 4, 5], ⟨rfl, ⟨rfl, rfl, rfl, rfl, rfl, rfl, trivial⟩, rfl⟩, rfl, rfl, rfl, rfl, rfl, rfl, trivial⟩
          · have hact : e.ract ⟨3, oa, ob, oc, ov, otab, rows⟩ = e.rwhole oa ob := rfl
            generalize hres : e.ract ⟨3, oa, ob, oc, ov, otab, rows⟩ = res at *
            subst hact
            clear hres
            have hwh : e.rwhole oa ob = if len (oa - 1) ≤ 8 then (e.rsym ob (ob + 1) oa).norm else ((e.rsym (ob / 2 ^ (len (oa - 1) - 8)) (ob / 2 ^ (len (oa - 1) - 8) + 1) ((oa - 1) / 2 ^ (len (oa - 1) - 8) + 1)).norm).raw (len (oa - 1) - 8) (ob % 2 ^ (len (oa - 1) - 8)) := rfl
            have h32 := len_le (n := oa - 1) (k := 32) (by omega)
            generalize e.rwhole oa ob = res at *
            conv => whnf
            refine ⟨(fun h => by cases h), fun _ => ?_⟩
            conv => whnf
            refine ⟨(fun h => by cases h), fun _ => ?_⟩
            conv => whnf
            refine ⟨(fun h => by cases h), fun _ => ?_⟩
            conv => whnf
            refine ⟨fun _ => ?_, (fun h => by cases h)⟩
            conv => whnf
            refine Or.inl ?_
            conv => whnf
            rw [nsub (a := oa) (b := 1) (by omega), nwrap32 (n := oa - 1) (by omega)]
            refine CallsA.lift (H0 := []) [] rfl trivial rfl (ilogW w0 (n := oa - 1) (by omega)) ?_
            rintro _ _ ⟨rfl, rfl⟩
            conv => whnf
            refine ⟨fun c1 => ?_, fun c1 => ?_⟩
            · have c1 : 8 < len (oa - 1) := gt_t c1
              rw [if_neg (by omega)] at hwh
              obtain ⟨t1, t2⟩ := top_small c1
              have hv2 : ob / 2 ^ (len (oa - 1) - 8) ≤ (oa - 1) / 2 ^ (len (oa - 1) - 8) := Nat.div_le_div_right (by omega)
              have hrk : (e.rsym (ob / 2 ^ (len (oa - 1) - 8)) (ob / 2 ^ (len (oa - 1) - 8) + 1) ((oa - 1) / 2 ^ (len (oa - 1) - 8) + 1)).norm.rinv (4 * 0 + 3) := EncS.norm_rinv (EncS.rsym_rok hinv (by omega) (by omega) (by omega) (by omega))
              have hk : len (oa - 1) - 8 ≤ 24 := by omega
              have hnk : ((len (oa - 1) : Nat) : Int) - ((8 : Nat) : Int) = ((len (oa - 1) - 8 : Nat) : Int) := nsub (by omega)
              conv => whnf
              rw [hnk]
              clear hnk
              generalize len (oa - 1) - 8 = q at *
              rw [nwrapi (n := q) (by omega)]
              refine ⟨by omega, ?_⟩
              conv => whnf
              refine ⟨by omega, ?_⟩
              conv => whnf
              have e1 : ((ob : Nat) : Int).fdiv (2 ^ min ((q : Nat) : Int).toNat IntKind.u32.bits) = ((ob / 2 ^ q : Nat) : Int) := by rw [nshrv32 _ _ (by omega)]
              have e2 : IntKind.u32.wrap (((ob / 2 ^ q : Nat) : Int) + ((1 : Nat) : Int)) = ((ob / 2 ^ q + 1 : Nat) : Int) := by rw [nadd, nwrap32 (by omega)]
              have e3 : IntKind.u32.wrap ((((oa - 1 : Nat) : Int).fdiv (2 ^ min ((q : Nat) : Int).toNat IntKind.u32.bits)) + ((1 : Nat) : Int)) = (((oa - 1) / 2 ^ q + 1 : Nat) : Int) := by rw [nshrv32 _ _ (by omega), nadd, nwrap32 (by omega)]
              rw [e1, e2, e3]
              clear e1 e2 e3
              refine CallsA.lift (H0 := [EncS.rnil (e)]) [0] rfl ⟨rfl, rfl, trivial⟩ rfl (nilC hb0 ht0 (rsymW w0 e (by omega) hinv (lo := ob / 2 ^ q) (hi := ob / 2 ^ q + 1) (n := (oa - 1) / 2 ^ q + 1) (by omega) (by omega) (by omega) (by omega) (by omega))) ?_
              rintro _ _ ⟨rfl, rfl⟩
              generalize (e.rsym (ob / 2 ^ q) (ob / 2 ^ q + 1) ((oa - 1) / 2 ^ q + 1)).norm = f at *
              conv => whnf
              refine ⟨by omega, ?_⟩
              conv => whnf
              have hp : 2 ^ q ≤ 2 ^ 24 := Nat.pow_le_pow_right (by omega) hk
              have hp0 : 1 ≤ 2 ^ q := Nat.one_le_two_pow
              have hmask : IntKind.u32.wrap ((BitVec.ofInt IntKind.u32.bits (ob : Int) &&& BitVec.ofInt IntKind.u32.bits (IntKind.u32.wrap (IntKind.u32.wrap (((1 : Nat) : Int) * 2 ^ min ((q : Nat) : Int).toNat IntKind.u32.bits) - ((1 : Nat) : Int)))).toNat : Nat) = ((ob % 2 ^ q : Nat) : Int) := by
                rw [nshlv32 _ _ (by omega), nwrap32 (n := 1 * 2 ^ q) (by omega), nsub (by omega), nwrap32 (n := 1 * 2 ^ q - 1) (by omega), Nat.one_mul, nand32 (by omega) (by omega), nand_mask]
              rw [hmask]
              clear hmask
              subst hwh
              refine CallsA.lift (H0 := EncS.RH (f)) [0, 4, 5] rfl ⟨rfl, rfl, rfl, rfl, rfl, rfl, trivial⟩ rfl (rrawW w0 f (by omega) hrk (n := q) (v := ob % 2 ^ q) (by omega) (Nat.mod_lt _ (by omega))) ?_
              rintro _ _ ⟨rfl, rfl⟩
              conv => whnf
              refine ⟨trivial, ?_⟩
              conv => whnf
              exact ⟨⟨_, (fun h => by cases h)⟩, [0, 6, 7], ⟨rfl, ⟨rfl, rfl, rfl, rfl, rfl, rfl, trivial⟩, rfl⟩, rfl, rfl, rfl, rfl, rfl, rfl, trivial⟩
            · have c1 : len (oa - 1) ≤ 8 := gt_f c1
              rw [if_pos c1] at hwh
              have hsm := small_of_len c1
              subst hwh
              conv => whnf
              rw [nadd ob 1, nwrap32 (n := ob + 1) (by omega)]
              refine CallsA.lift (H0 := [EncS.rnil (e)]) [0] rfl ⟨rfl, rfl, trivial⟩ rfl (nilC hb0 ht0 (rsymW w0 e (by omega) hinv (lo := ob) (hi := ob + 1) (n := oa) (by omega) (by omega) (by omega) (by omega) (by omega))) ?_
              rintro _ _ ⟨rfl, rfl⟩
              conv => whnf
              exact ⟨⟨_, (fun h => by cases h)⟩, [0, 4, 5], ⟨rfl, ⟨rfl, rfl, rfl, rfl, rfl, rfl, trivial⟩, rfl⟩, rfl, rfl, rfl, rfl, rfl, rfl, trivial⟩
          · have hact : e.ract ⟨4, oa, ob, oc, ov, otab, rows⟩ = e.raw oa ob := rfl
            generalize hres : e.ract ⟨4, oa, ob, oc, ov, otab, rows⟩ = res at *
            subst hact
            clear hres
            conv => whnf
            refine ⟨(fun h => by cases h), fun _ => ?_⟩
            conv => whnf
            refine ⟨(fun h => by cases h), fun _ => ?_⟩
            conv => whnf
            refine ⟨(fun h => by cases h), fun _ => ?_⟩
            conv => whnf
            refine ⟨(fun h => by cases h), fun _ => ?_⟩
            conv => whnf
            refine ⟨fun _ => ?_, (fun h => by cases h)⟩
            conv => whnf
            rw [nwrapi (n := oa) (by omega)]
            refine CallsA.lift (H0 := [EncS.rnil (e)]) [0] rfl ⟨rfl, rfl, trivial⟩ rfl (nilC hb0 ht0 (rrawW w0 e (by omega) hinv (n := oa) (v := ob) h2 h3)) ?_
            rintro _ _ ⟨rfl, rfl⟩
            conv => whnf
            exact ⟨⟨_, (fun h => by cases h)⟩, [0, 4, 5], ⟨rfl, ⟨rfl, rfl, rfl, rfl, rfl, rfl, trivial⟩, rfl⟩, rfl, rfl, rfl, rfl, rfl, rfl, trivial⟩
          · have hact : e.ract ⟨5, oa, ob, oc, ov, otab, rows⟩ = e.rlap oa ob ov := rfl
            generalize hres : e.ract ⟨5, oa, ob, oc, ov, otab, rows⟩ = res at *
            subst hact
            clear hres
            conv => whnf
            refine ⟨(fun h => by cases h), fun _ => ?_⟩
            conv => whnf
            refine ⟨(fun h => by cases h), fun _ => ?_⟩
            conv => whnf
            refine ⟨(fun h => by cases h), fun _ => ?_⟩
            conv => whnf
            refine ⟨(fun h => by cases h), fun _ => ?_⟩
            conv => whnf
            refine ⟨(fun h => by cases h), fun _ => ?_⟩
            conv => whnf
            refine ⟨fun _ => ?_, (fun h => by cases h)⟩
            conv => whnf
            refine CallsA.lift (H0 := [EncS.rnil (e)]) [0] rfl ⟨rfl, rfl, trivial⟩ rfl (nilC hb0 ht0 (rlapW w0 e (by omega) hinv (fs := oa) (decay := ob) (v := ov) h1 h2 h3 h4 h5)) ?_
            rintro _ _ ⟨rfl, rfl⟩
            conv => whnf
            refine ⟨fun _ => ?_, fun c5 => ?_⟩
            · conv => whnf
              exact Or.inr ⟨[], .t [.c (.val (.string (ByteArray.mk #[]))), .c (.val (.slice none 0 0)), .c (.val (.int .i64 ((2 : Nat) : Int)))], [], ⟨rfl, trivial, rfl⟩, rfl, Or.inl ⟨rfl, rfl⟩⟩
            · have c5 : (rlapP oa ob ov).2.2 = ov := by simpa using c5
              conv => whnf
              exact ⟨⟨_, (fun _ => c5)⟩, [0, 4, 5], ⟨rfl, ⟨rfl, rfl, rfl, rfl, rfl, rfl, trivial⟩, rfl⟩, rfl, rfl, rfl, rfl, rfl, rfl, trivial⟩
        · have hi2 := EncS.ract_rinv hinv hwr
          have hnx := hnext ⟨x, true, (e.ract o).rng, ((e.ract o).total - len (e.ract o).rng) % 4294967296, ((e.ract o).total * 8 - lf (e.ract o).rng) % 4294967296, 0⟩ hmet rfl
          generalize hfe : e.ract o = f at *
          have hbg := hi2.big
          have hih := hi2.ok.hi
          have htt := hi2.ok.total
          have htl := hi2.ok.tlo
          have hlb := lf_bounds (r := f.rng) (by omega)
          have hln := len_le (n := f.rng) (k := 32) (by omega)
          conv => whnf
          refine CallsA.lift (H0 := []) [] rfl trivial rfl (ilogW w0 (n := f.rng) (by omega)) ?_
          rintro _ _ ⟨rfl, rfl⟩
          conv => whnf
          refine ⟨⟨⟨rfl, rfl⟩, ⟨rfl, rfl⟩, ⟨rfl, rfl⟩, ⟨rfl, rfl⟩, trivial⟩, ?_⟩
          conv => whnf
          refine CallsA.lift (H0 := []) [] rfl trivial rfl (eighthsW w0 (t := f.total) (n := f.rng) (by omega) (by omega) (by omega) (by omega)) ?_
          rintro _ _ ⟨rfl, rfl⟩
          conv => whnf
          refine ⟨⟨⟨rfl, rfl⟩, ⟨rfl, rfl⟩, trivial⟩, ?_⟩
          conv => whnf
          refine ⟨trivial, ?_⟩
          conv => whnf
          have htw : IntKind.u32.wrap (IntKind.i64.wrap (((f.total : Nat) : Int) - ((len f.rng : Nat) : Int))) = (((f.total - len f.rng) % 4294967296 : Nat) : Int) := by rw [nsub (by omega), nwrapi (by omega), wrap_mod]
          refine ⟨by omega, SeenV, encSeen, [], [⟨x, true, f.rng, (f.total - len f.rng) % 4294967296, (f.total * 8 - lf f.rng) % 4294967296, 0⟩], fun _ => rfl, ⟨rfl, rfl, w_cells htw (wrap_mod _)⟩, by simp only [List.length_cons, List.length_nil]; omega, by simp only [List.length_cons, List.length_nil]; omega, ?_⟩
          conv => whnf
          refine ⟨trivial, ?_⟩
          conv => whnf
          refine ⟨⟨(0 + 1, ss ++ [⟨x, true, f.rng, (f.total - len f.rng) % 4294967296, (f.total * 8 - lf f.rng) % 4294967296, 0⟩]), hnx⟩, ?_, ?_⟩
          · show EmbS 0 (wSt (.slice (some a) l.length c) l.length (EncS.init.rafter (l.take (0 + 1))) (ss ++ [⟨x, true, f.rng, (f.total - len f.rng) % 4294967296, (f.total * 8 - lf f.rng) % 4294967296, 0⟩]) (0 + 1)) _
            rw [haf]
            rw [show ss = [] from List.length_eq_zero_iff.1 hw.len, List.nil_append]
            refine ⟨[0, 1, 2, 4], ⟨rfl, ⟨rfl, rfl, rfl, rfl, rfl, rfl, rfl, rfl, trivial⟩, rfl⟩, rfl, rfl, rfl, rfl, eq_i64 ?_, trivial⟩
            · rw [nadd, nwrapi (by omega)]
          · show l.length - (0 + 1) < l.length - (0)
            omega
    · have h1 := lt_f h1
      exact absurd (List.length_eq_zero_iff.1 (by omega)) hne
  | succ k =>
    conv => whnf
    generalize hek : EncS.init.rafter (l.take (k + 1)) = e at *
    refine ⟨fun h1 => ?_, fun h1 => ?_⟩
    · have h1 : k + 1 < l.length := lt_t h1
      obtain ⟨o, ho⟩ : ∃ o, l[k + 1]? = some o := ⟨_, List.getElem?_eq_getElem h1⟩
      obtain ⟨⟨x0, x1, x2, x3, x4, x5, x6⟩, hfit⟩ := hbb (k + 1) o ho
      have hwr := hg o (List.mem_of_getElem? ho)
      have haf := haf o ho
      have hnext := fun s => hnext o s ho
      have hf2 : o.act = 2 → o.a + 1 < o.rows.length ∧ o.rows.length ≤ 65536 := fun ha => hwr.tab2 ha
      conv => whnf
      refine Or.inl ?_
      conv => whnf
      refine ⟨by omega, ?_⟩
      conv => whnf
      refine ⟨_, x0, rfl, ?_⟩
      conv => whnf
      refine ⟨_, x1, rfl, ?_⟩
      conv => whnf
      refine ⟨_, x2, rfl, ?_⟩
      conv => whnf
      refine ⟨_, x3, rfl, ?_⟩
      conv => whnf
      refine ⟨_, x4, rfl, ?_⟩
      conv => whnf
      refine ⟨_, x5, x6, ?_⟩
      conv => whnf
      refine Or.inl ?_
      conv => whnf
      refine CallsA.lift (H0 := []) [] rfl trivial rfl (opFineT w0 hfit hf2) ?_
      rintro _ _ ⟨b1, rfl, rfl⟩
      conv => whnf
      refine ⟨fun _ => ?_, fun _ => ?_⟩
      · conv => whnf
        exact Or.inr ⟨[], .t [.c (.val (.string (ByteArray.mk #[]))), .c (.val (.slice none 0 0)), .c (.val (.int .i64 ((2 : Nat) : Int)))], [], ⟨rfl, trivial, rfl⟩, rfl, Or.inl ⟨rfl, rfl⟩⟩
      · conv => whnf
        refine Or.inr ⟨{x : Int // o.met}, fun ⟨x, _⟩ => ⟨[(3, .o (.c (.vec 3 (k + 1)))), (5, .o (.c (.ptr 0 0))), (8, .o (.c (.val (.int .i64 x)))), (24, .o (.c (.val (.slice (some a) l.length c)))), (25, .o (.c (.val (.int .i64 l.length)))), (26, .o (.c (.val (.int .i64 (k + 1 : Nat)))))], (e.ract o).RH ++ [seenB ss]⟩, ?_, fun ⟨x, hmet⟩ => ?_⟩
        · obtain ⟨act, oa, ob, oc, ov, otab, rows⟩ := o
          obtain ⟨a32, b32, c32, kind⟩ := hwr
          simp only at a32 b32 c32 kind
          clear haf hnext ho x0 x1 x2 x3 x4 x5 x6
          rcases kind with ⟨rfl, h1, h2, h3⟩ | ⟨rfl, h1, h2, h3⟩ | ⟨rfl, total, rest, ta, tc, hr, ht1, ht2, hrl, hrx, hal, hlt, htab, hcell⟩ | ⟨rfl, h1, h2⟩ | ⟨rfl, h2, h3⟩ | ⟨rfl, h1, h2, h3, h4, h5⟩
          · have hact : e.ract ⟨0, oa, ob, oc, ov, otab, rows⟩ = (e.rsym oa ob oc).norm := rfl
            generalize hres : e.ract ⟨0, oa, ob, oc, ov, otab, rows⟩ = res at *
            subst hact
            clear hres
            conv => whnf
            refine ⟨fun _ => ?_, (fun h => by cases h)⟩
            conv => whnf
            refine CallsA.lift (H0 := EncS.RH (e)) [0, 1, 2] rfl ⟨rfl, rfl, rfl, rfl, rfl, rfl, trivial⟩ rfl (rsymW w0 e (by omega) hinv (lo := oa) (hi := ob) (n := oc) h1 (by omega) (by omega) h3 (by omega)) ?_
            rintro _ _ ⟨rfl, rfl⟩
            conv => whnf
            exact ⟨⟨_, (fun h => by cases h)⟩, [0, 5, 6, 3], ⟨rfl, ⟨rfl, rfl, rfl, rfl, rfl, rfl, rfl, rfl, trivial⟩, rfl⟩, rfl, rfl, rfl, rfl, rfl, rfl, trivial⟩
          · have hact : e.ract ⟨1, oa, ob, oc, ov, otab, rows⟩ = (e.rbit oa ob).norm := rfl
            generalize hres : e.ract ⟨1, oa, ob, oc, ov, otab, rows⟩ = res at *
            subst hact
            clear hres
            conv => whnf
            refine ⟨(fun h => by cases h), fun _ => ?_⟩
            conv => whnf
            refine ⟨fun _ => ?_, (fun h => by cases h)⟩
            conv => whnf
            have hhi := hinv.ok.hi
            have hq : e.rng / 2 ^ oa ≤ e.rng := Nat.div_le_self _ _
            have hsc : ((e.rng : Nat) : Int).fdiv (2 ^ min ((oa : Nat) : Int).toNat IntKind.u32.bits) = ((e.rng / 2 ^ oa : Nat) : Int) := by rw [nshrv32 _ _ (by omega)]
            refine ⟨by omega, ?_⟩
            conv => whnf
            refine Or.inl ?_
            conv => whnf
            refine ⟨fun c1 => ?_, fun c1 => ?_⟩
            · have c1 : ob = 1 := beq_t c1
              have hs : e.rbit oa ob = { e with low := (e.low + (e.rng - e.rng / 2 ^ oa)) % 4294967296, rng := e.rng / 2 ^ oa } := if_pos c1
              have hok := EncS.rbit_rok (b := ob) hinv h1 h2
              rw [hs] at hok ⊢
              conv => whnf
              refine ⟨trivial, ?_⟩
              conv => whnf
              refine CallsA.lift (H0 := EncS.RH ({ e with low := (e.low + (e.rng - e.rng / 2 ^ oa)) % 4294967296, rng := e.rng / 2 ^ oa })) [0, 1, 2] rfl ⟨EncS.rblk_of (e := { e with low := (e.low + (e.rng - e.rng / 2 ^ oa)) % 4294967296, rng := e.rng / 2 ^ oa }) rfl rfl ?_ ?_ rfl rfl rfl rfl rfl, rfl, rfl, rfl, rfl, rfl, trivial⟩ rfl (rnormW w0 _ (by omega) hok) ?_
              · show _ = ((_ : Nat) : Int)
                rw [hsc]
              · show _ = (((e.low + (e.rng - e.rng / 2 ^ oa)) % 4294967296 : Nat) : Int)
                rw [hsc, nsub hq, nwrap32 (n := e.rng - e.rng / 2 ^ oa) (Nat.lt_of_le_of_lt (Nat.sub_le _ _) (by omega)), nadd, wrap_mod]
              rintro _ _ ⟨rfl, rfl⟩
              conv => whnf
              exact ⟨⟨_, (fun h => by cases h)⟩, [0, 5, 6, 3], ⟨rfl, ⟨rfl, rfl, rfl, rfl, rfl, rfl, rfl, rfl, trivial⟩, rfl⟩, rfl, rfl, rfl, rfl, rfl, rfl, trivial⟩
            · have c1 : ¬ ob = 1 := beq_f c1
              have hs : e.rbit oa ob = { e with rng := e.rng - e.rng / 2 ^ oa } := if_neg c1
              have hok := EncS.rbit_rok (b := ob) hinv h1 h2
              rw [hs] at hok ⊢
              conv => whnf
              refine CallsA.lift (H0 := EncS.RH ({ e with rng := e.rng - e.rng / 2 ^ oa })) [0, 1, 2] rfl ⟨EncS.rblk_of (e := { e with rng := e.rng - e.rng / 2 ^ oa }) rfl rfl ?_ rfl rfl rfl rfl rfl rfl, rfl, rfl, rfl, rfl, rfl, trivial⟩ rfl (rnormW w0 _ (by omega) hok) ?_
              · show _ = ((_ : Nat) : Int)
                rw [hsc, nsub hq, nwrap32 (Nat.lt_of_le_of_lt (Nat.sub_le _ _) (by omega))]
              rintro _ _ ⟨rfl, rfl⟩
              conv => whnf
              exact ⟨⟨_, (fun h => by cases h)⟩, [0, 5, 6, 3], ⟨rfl, ⟨rfl, rfl, rfl, rfl, rfl, rfl, rfl, rfl, trivial⟩, rfl⟩, rfl, rfl, rfl, rfl, rfl, rfl, trivial⟩
          · subst hr htab
            obtain ⟨f1, f2, f3⟩ := tab_facts hrx hal
            have ha1 : IntKind.u32.wrap (((oa : Nat) : Int) + ((1 : Nat) : Int)) = ((oa + 1 : Nat) : Int) := by rw [nadd, nwrap32 (by omega)]
            have hln : (total :: rest).length = rest.length + 1 := rfl
            have hg1 : (total :: rest)[oa + 1]? = some ((total :: rest).getD (oa + 1) 0) := by
              rw [List.getD_eq_getElem?_getD, List.getElem?_eq_getElem (by omega)]
              rfl
            have hc1 := (hcell (oa + 1) _ hg1).2
            have hc0 := (hcell 0 total rfl).2
            have hact : e.ract ⟨2, oa, ob, oc, ov, .slice (some ta) (total :: rest).length tc, total :: rest⟩ = (e.rsym (lowOf (total :: rest) oa) ((total :: rest).getD (oa + 1) 0) total).norm := rfl
            generalize hres : e.ract ⟨2, oa, ob, oc, ov, .slice (some ta) (total :: rest).length tc, total :: rest⟩ = res at *
            subst hact
            clear hres
            have hlt : lowOf (total :: rest) oa < (total :: rest).getD (oa + 1) 0 := hlt
            have hhi : (total :: rest).getD (oa + 1) 0 ≤ total := by omega
            generalize (total :: rest).getD (oa + 1) 0 = hi at *
            conv => whnf
            refine ⟨(fun h => by cases h), fun _ => ?_⟩
            conv => whnf
            refine ⟨(fun h => by cases h), fun _ => ?_⟩
            conv => whnf
            refine ⟨fun _ => ?_, (fun h => by cases h)⟩
            conv => whnf
            rw [ha1]
            refine ⟨⟨by omega, by omega⟩, ?_⟩
            conv => whnf
            refine ⟨_, by rw [Int.toNat_natCast, Nat.mul_one]; exact hc1, rfl, ?_⟩
            conv => whnf
            refine ⟨⟨by omega, by omega⟩, ?_⟩
            conv => whnf
            refine ⟨_, hc0, rfl, ?_⟩
            conv => whnf
            refine CallsA.lift (H0 := []) [] rfl trivial rfl (belowW w0 (ta := ta) (c := tc) (k := oa) (rows := total :: rest) (by omega) hcell) ?_
            rintro _ _ ⟨rfl, rfl⟩
            generalize lowOf (total :: rest) oa = lo at *
            conv => whnf
            refine ⟨⟨trivial, ⟨rfl, rfl⟩, trivial, ⟨rfl, rfl⟩, ⟨rfl, rfl⟩, trivial⟩, ?_⟩
            conv => whnf
            refine CallsA.lift (H0 := EncS.RH (e)) [0, 1, 2] rfl ⟨rfl, rfl, rfl, rfl, rfl, rfl, trivial⟩ rfl (rsymW w0 e (by omega) hinv (lo := lo) (hi := hi) (n := total) hlt (by omega) (by omega) (by omega) (by omega)) ?_
            rintro _ _ ⟨rfl, rfl⟩
            conv => whnf
            refine ⟨trivial, ?_⟩
            conv => whnf
            exact ⟨⟨_, (fun h => by cases h)⟩, [0, 5, 6, 3], ⟨rfl, ⟨rfl, rfl, rfl, rfl, rfl, rfl, rfl, rfl, trivial⟩, rfl⟩, rfl, rfl, rfl, rfl, rfl, rfl, trivial⟩
          · have hact : e.ract ⟨3, oa, ob, oc, ov, otab, rows⟩ = e.rwhole oa ob := rfl
            generalize hres : e.ract ⟨3, oa, ob, oc, ov, otab, rows⟩ = res at *
            subst hact
            clear hres
            have hwh : e.rwhole oa ob = if len (oa - 1) ≤ 8 then (e.rsym ob (ob + 1) oa).norm else ((e.rsym (ob / 2 ^ (len (oa - 1) - 8)) (ob / 2 ^ (len (oa - 1) - 8) + 1) ((oa - 1) / 2 ^ (len (oa - 1) - 8) + 1)).norm).raw (len (oa - 1) - 8) (ob % 2 ^ (len (oa - 1) - 8)) := rfl
            have h32 := len_le (n := oa - 1) (k := 32) (by omega)
            generalize e.rwhole oa ob = res at *
            conv => whnf
            refine ⟨(fun h => by cases h), fun _ => ?_⟩
            conv => whnf
            refine ⟨(fun h => by cases h), fun _ => ?_⟩
            conv => whnf
            refine ⟨(fun h => by cases h), fun _ => ?_⟩
            conv => whnf
            refine ⟨fun _ => ?_, (fun h => by cases h)⟩
            conv => whnf
            refine Or.inl ?_
            conv => whnf
            rw [nsub (a := oa) (b := 1) (by omega), nwrap32 (n := oa - 1) (by omega)]
            refine CallsA.lift (H0 := []) [] rfl trivial rfl (ilogW w0 (n := oa - 1) (by omega)) ?_
            rintro _ _ ⟨rfl, rfl⟩
            conv => whnf
            refine ⟨fun c1 => ?_, fun c1 => ?_⟩
            · have c1 : 8 < len (oa - 1) := gt_t c1
              rw [if_neg (by omega)] at hwh
              obtain ⟨t1, t2⟩ := top_small c1
              have hv2 : ob / 2 ^ (len (oa - 1) - 8) ≤ (oa - 1) / 2 ^ (len (oa - 1) - 8) := Nat.div_le_div_right (by omega)
              have hrk : (e.rsym (ob / 2 ^ (len (oa - 1) - 8)) (ob / 2 ^ (len (oa - 1) - 8) + 1) ((oa - 1) / 2 ^ (len (oa - 1) - 8) + 1)).norm.rinv (4 * (k + 1) + 3) := EncS.norm_rinv (EncS.rsym_rok hinv (by omega) (by omega) (by omega) (by omega))
              have hk : len (oa - 1) - 8 ≤ 24 := by omega
              have hnk : ((len (oa - 1) : Nat) : Int) - ((8 : Nat) : Int) = ((len (oa - 1) - 8 : Nat) : Int) := nsub (by omega)
              conv => whnf
              rw [hnk]
              clear hnk
              generalize len (oa - 1) - 8 = q at *
              rw [nwrapi (n := q) (by omega)]
              refine ⟨by omega, ?_⟩
              conv => whnf
              refine ⟨by omega, ?_⟩
              conv => whnf
              have e1 : ((ob : Nat) : Int).fdiv (2 ^ min ((q : Nat) : Int).toNat IntKind.u32.bits) = ((ob / 2 ^ q : Nat) : Int) := by rw [nshrv32 _ _ (by omega)]
              have e2 : IntKind.u32.wrap (((ob / 2 ^ q : Nat) : Int) + ((1 : Nat) : Int)) = ((ob / 2 ^ q + 1 : Nat) : Int) := by rw [nadd, nwrap32 (by omega)]
              have e3 : IntKind.u32.wrap ((((oa - 1 : Nat) : Int).fdiv (2 ^ min ((q : Nat) : Int).toNat IntKind.u32.bits)) + ((1 : Nat) : Int)) = (((oa - 1) / 2 ^ q + 1 : Nat) : Int) := by rw [nshrv32 _ _ (by omega), nadd, nwrap32 (by omega)]
              rw [e1, e2, e3]
              clear e1 e2 e3
              refine CallsA.lift (H0 := EncS.RH (e)) [0, 1, 2] rfl ⟨rfl, rfl, rfl, rfl, rfl, rfl, trivial⟩ rfl (rsymW w0 e (by omega) hinv (lo := ob / 2 ^ q) (hi := ob / 2 ^ q + 1) (n := (oa - 1) / 2 ^ q + 1) (by omega) (by omega) (by omega) (by omega) (by omega)) ?_
              rintro _ _ ⟨rfl, rfl⟩
              generalize (e.rsym (ob / 2 ^ q) (ob / 2 ^ q + 1) ((oa - 1) / 2 ^ q + 1)).norm = f at *
              conv => whnf
              refine ⟨by omega, ?_⟩
              conv => whnf
              have hp : 2 ^ q ≤ 2 ^ 24 := Nat.pow_le_pow_right (by omega) hk
              have hp0 : 1 ≤ 2 ^ q := Nat.one_le_two_pow
              have hmask : IntKind.u32.wrap ((BitVec.ofInt IntKind.u32.bits (ob : Int) &&& BitVec.ofInt IntKind.u32.bits (IntKind.u32.wrap (IntKind.u32.wrap (((1 : Nat) : Int) * 2 ^ min ((q : Nat) : Int).toNat IntKind.u32.bits) - ((1 : Nat) : Int)))).toNat : Nat) = ((ob % 2 ^ q : Nat) : Int) := by
                rw [nshlv32 _ _ (by omega), nwrap32 (n := 1 * 2 ^ q) (by omega), nsub (by omega), nwrap32 (n := 1 * 2 ^ q - 1) (by omega), Nat.one_mul, nand32 (by omega) (by omega), nand_mask]
              rw [hmask]
              clear hmask
              subst hwh
              refine CallsA.lift (H0 := EncS.RH (f)) [0, 5, 6] rfl ⟨rfl, rfl, rfl, rfl, rfl, rfl, trivial⟩ rfl (rrawW w0 f (by omega) hrk (n := q) (v := ob % 2 ^ q) (by omega) (Nat.mod_lt _ (by omega))) ?_
              rintro _ _ ⟨rfl, rfl⟩
              conv => whnf
              refine ⟨trivial, ?_⟩
              conv => whnf
              exact ⟨⟨_, (fun h => by cases h)⟩, [0, 7, 8, 3], ⟨rfl, ⟨rfl, rfl, rfl, rfl, rfl, rfl, rfl, rfl, trivial⟩, rfl⟩, rfl, rfl, rfl, rfl, rfl, rfl, trivial⟩
            · have c1 : len (oa - 1) ≤ 8 := gt_f c1
              rw [if_pos c1] at hwh
              have hsm := small_of_len c1
              subst hwh
              conv => whnf
              rw [nadd ob 1, nwrap32 (n := ob + 1) (by omega)]
              refine CallsA.lift (H0 := EncS.RH (e)) [0, 1, 2] rfl ⟨rfl, rfl, rfl, rfl, rfl, rfl, trivial⟩ rfl (rsymW w0 e (by omega) hinv (lo := ob) (hi := ob + 1) (n := oa) (by omega) (by omega) (by omega) (by omega) (by omega)) ?_
              rintro _ _ ⟨rfl, rfl⟩
              conv => whnf
              exact ⟨⟨_, (fun h => by cases h)⟩, [0, 5, 6, 3], ⟨rfl, ⟨rfl, rfl, rfl, rfl, rfl, rfl, rfl, rfl, trivial⟩, rfl⟩, rfl, rfl, rfl, rfl, rfl, rfl, trivial⟩
          · have hact : e.ract ⟨4, oa, ob, oc, ov, otab, rows⟩ = e.raw oa ob := rfl
            generalize hres : e.ract ⟨4, oa, ob, oc, ov, otab, rows⟩ = res at *
            subst hact
            clear hres
            conv => whnf
            refine ⟨(fun h => by cases h), fun _ => ?_⟩
            conv => whnf
            refine ⟨(fun h => by cases h), fun _ => ?_⟩
            conv => whnf
            refine ⟨(fun h => by cases h), fun _ => ?_⟩
            conv => whnf
            refine ⟨(fun h => by cases h), fun _ => ?_⟩
            conv => whnf
            refine ⟨fun _ => ?_, (fun h => by cases h)⟩
            conv => whnf
            rw [nwrapi (n := oa) (by omega)]
            refine CallsA.lift (H0 := EncS.RH (e)) [0, 1, 2] rfl ⟨rfl, rfl, rfl, rfl, rfl, rfl, trivial⟩ rfl (rrawW w0 e (by omega) hinv (n := oa) (v := ob) h2 h3) ?_
            rintro _ _ ⟨rfl, rfl⟩
            conv => whnf
            exact ⟨⟨_, (fun h => by cases h)⟩, [0, 5, 6, 3], ⟨rfl, ⟨rfl, rfl, rfl, rfl, rfl, rfl, rfl, rfl, trivial⟩, rfl⟩, rfl, rfl, rfl, rfl, rfl, rfl, trivial⟩
          · have hact : e.ract ⟨5, oa, ob, oc, ov, otab, rows⟩ = e.rlap oa ob ov := rfl
            generalize hres : e.ract ⟨5, oa, ob, oc, ov, otab, rows⟩ = res at *
            subst hact
            clear hres
            conv => whnf
            refine ⟨(fun h => by cases h), fun _ => ?_⟩
            conv => whnf
            refine ⟨(fun h => by cases h), fun _ => ?_⟩
            conv => whnf
            refine ⟨(fun h => by cases h), fun _ => ?_⟩
            conv => whnf
            refine ⟨(fun h => by cases h), fun _ => ?_⟩
            conv => whnf
            refine ⟨(fun h => by cases h), fun _ => ?_⟩
            conv => whnf
            refine ⟨fun _ => ?_, (fun h => by cases h)⟩
            conv => whnf
            refine CallsA.lift (H0 := EncS.RH (e)) [0, 1, 2] rfl ⟨rfl, rfl, rfl, rfl, rfl, rfl, trivial⟩ rfl (rlapW w0 e (by omega) hinv (fs := oa) (decay := ob) (v := ov) h1 h2 h3 h4 h5) ?_
            rintro _ _ ⟨rfl, rfl⟩
            conv => whnf
            refine ⟨fun _ => ?_, fun c5 => ?_⟩
            · conv => whnf
              exact Or.inr ⟨[], .t [.c (.val (.string (ByteArray.mk #[]))), .c (.val (.slice none 0 0)), .c (.val (.int .i64 ((2 : Nat) : Int)))], [], ⟨rfl, trivial, rfl⟩, rfl, Or.inl ⟨rfl, rfl⟩⟩
            · have c5 : (rlapP oa ob ov).2.2 = ov := by simpa using c5
              conv => whnf
              exact ⟨⟨_, (fun _ => c5)⟩, [0, 5, 6, 3], ⟨rfl, ⟨rfl, rfl, rfl, rfl, rfl, rfl, rfl, rfl, trivial⟩, rfl⟩, rfl, rfl, rfl, rfl, rfl, rfl, trivial⟩
        · have hi2 := EncS.ract_rinv hinv hwr
          have hnx := hnext ⟨x, true, (e.ract o).rng, ((e.ract o).total - len (e.ract o).rng) % 4294967296, ((e.ract o).total * 8 - lf (e.ract o).rng) % 4294967296, 0⟩ hmet rfl
          generalize hfe : e.ract o = f at *
          have hbg := hi2.big
          have hih := hi2.ok.hi
          have htt := hi2.ok.total
          have htl := hi2.ok.tlo
          have hlb := lf_bounds (r := f.rng) (by omega)
          have hln := len_le (n := f.rng) (k := 32) (by omega)
          conv => whnf
          refine CallsA.lift (H0 := []) [] rfl trivial rfl (ilogW w0 (n := f.rng) (by omega)) ?_
          rintro _ _ ⟨rfl, rfl⟩
          conv => whnf
          refine ⟨⟨⟨rfl, rfl⟩, ⟨rfl, rfl⟩, ⟨rfl, rfl⟩, ⟨rfl, rfl⟩, trivial⟩, ?_⟩
          conv => whnf
          refine CallsA.lift (H0 := []) [] rfl trivial rfl (eighthsW w0 (t := f.total) (n := f.rng) (by omega) (by omega) (by omega) (by omega)) ?_
          rintro _ _ ⟨rfl, rfl⟩
          conv => whnf
          refine ⟨⟨⟨rfl, rfl⟩, ⟨rfl, rfl⟩, trivial⟩, ?_⟩
          conv => whnf
          refine ⟨trivial, ?_⟩
          conv => whnf
          have htw : IntKind.u32.wrap (IntKind.i64.wrap (((f.total : Nat) : Int) - ((len f.rng : Nat) : Int))) = (((f.total - len f.rng) % 4294967296 : Nat) : Int) := by rw [nsub (by omega), nwrapi (by omega), wrap_mod]
          refine ⟨hw.len.symm, [⟨x, true, f.rng, (f.total - len f.rng) % 4294967296, (f.total * 8 - lf f.rng) % 4294967296, 0⟩], ⟨rfl, rfl, w_cells htw (wrap_mod _)⟩, by rw [List.length_append, List.length_singleton, hw.len]; simp only; omega, by rw [List.length_append, List.length_singleton, hw.len]; simp only; omega, ?_⟩
          conv => whnf
          refine ⟨trivial, ?_⟩
          conv => whnf
          refine ⟨⟨(k + 1 + 1, ss ++ [⟨x, true, f.rng, (f.total - len f.rng) % 4294967296, (f.total * 8 - lf f.rng) % 4294967296, 0⟩]), hnx⟩, ?_, ?_⟩
          · show EmbS 0 (wSt (.slice (some a) l.length c) l.length (EncS.init.rafter (l.take (k + 1 + 1))) (ss ++ [⟨x, true, f.rng, (f.total - len f.rng) % 4294967296, (f.total * 8 - lf f.rng) % 4294967296, 0⟩]) (k + 1 + 1)) _
            rw [haf]
            refine ⟨[0, 1, 2, 5], ⟨rfl, ⟨rfl, rfl, rfl, rfl, rfl, rfl, rfl, rfl, trivial⟩, rfl⟩, ?_, rfl, rfl, rfl, eq_i64 ?_, trivial⟩
            · show some (AV.o (A1.c (CV.vec 5 (ss ++ [_]).length))) = _
              rw [List.length_append, hw.len]
              rfl
            · rw [nadd, nwrapi (by omega)]
          · show l.length - (k + 1 + 1) < l.length - (k + 1)
            omega
    · have h1 : l.length ≤ k + 1 := lt_f h1
      have hkl : k + 1 = l.length := by omega
      have hdn : (EncS.init.rafter l).rdone = rstr (strOf (e.rlast.rmerge e.rleft).buf) (e.rlast.rmerge e.rleft).tail (e.rlast.rmerge e.rleft).tail.length := by
        rw [← hek, hkl, List.take_length]
        rfl
      have hbg := hinv.big
      have hih := hinv.ok.hi
      have hl1 := le_len (n := e.rng) (k := 23) (by omega)
      have hl2 := len_le (n := e.rng) (k := 32) (by omega)
      obtain ⟨q, k1, k2, k3⟩ := len_spec (n := e.rng) (by omega)
      have hK : e.rcutK = if (e.low + e.rng) % 4294967296 ≤ e.rend q + (2 ^ q - 1) then q - 1 else q := by
        unfold EncS.rcutK
        rw [k1]
        rfl
      have hkk : 23 ≤ q ∧ q ≤ 31 := by omega
      have hpk : 2 ^ q = 2 * 2 ^ (q - 1) := by
        rw [← Nat.pow_succ']
        congr 1
        omega
      have hp0 : 1 ≤ 2 ^ (q - 1) := Nat.one_le_two_pow
      have hmk : 2147483647 / 2 ^ (31 - q) = 2 ^ q - 1 := maskK ⟨q, by omega⟩ hkk.1
      have hpq : 2 ^ q ≤ 2 ^ 31 := Nat.pow_le_pow_right (by omega) hkk.2
      conv => whnf
      refine CallsA.lift (H0 := []) [] rfl trivial rfl (ilogW w0 (n := e.rng) (by omega)) ?_
      rintro _ _ ⟨rfl, rfl⟩
      rw [k1]
      conv => whnf
      have e1 : IntKind.i64.wrap (((32 : Nat) : Int) - ((q + 1 : Nat) : Int)) = ((31 - q : Nat) : Int) := by rw [nsub (by omega), nwrapi (by omega)]; omega
      rw [e1]
      clear e1
      refine ⟨by omega, ?_⟩
      conv => whnf
      have e2 : (((2147483647 : Nat) : Int)).fdiv (2 ^ min (((31 - q : Nat) : Int)).toNat IntKind.u32.bits) = ((2 ^ q - 1 : Nat) : Int) := by rw [nshrv32 _ _ (by omega), hmk]
      rw [e2]
      clear e2
      have e3 : IntKind.u32.wrap (((e.low : Nat) : Int) + ((2 ^ q - 1 : Nat) : Int)) = (((e.low + (2 ^ q - 1)) % 4294967296 : Nat) : Int) := by rw [nadd, wrap_mod]
      have hrq : e.rend q = (e.low + (2 ^ q - 1)) % 4294967296 / 2 ^ q * 2 ^ q := rfl
      have hle : e.rend q ≤ 4294967295 := by
        have := Nat.div_mul_le_self ((e.low + (2 ^ q - 1)) % 4294967296) (2 ^ q)
        omega
      have hor : e.rend q ||| (2 ^ q - 1) = e.rend q + (2 ^ q - 1) := by
        rw [hrq]
        exact nor_add (by omega)
      have hr1 : e.rend (q - 1) = (e.low + (2 ^ (q - 1) - 1)) % 4294967296 / 2 ^ (q - 1) * 2 ^ (q - 1) := rfl
      refine Or.inr ⟨Unit, fun _ => ⟨[(3, .o (.c (.vec 3 (k + 1)))), (5, .o (.c (.ptr 0 0))), (13, .o (.c (.val (.int .i64 (31 - e.rcutK : Nat))))), (15, .o (.c (.val (.int .u32 (e.rend e.rcutK : Nat)))))], e.RH ++ [seenB ss]⟩, ?_, fun _ => ?_⟩
      · conv => whnf
        rw [e3, nandnot (by omega) (by omega), ← hrq, nor32 (by omega) (by omega), hor, nadd e.low e.rng, wrap_mod]
        refine ⟨fun c1 => ?_, fun c1 => ?_⟩
        · have c1 := ge_t c1
          rw [if_pos c1] at hK
          conv => whnf
          rw [hK]
          refine ⟨(), [0, 1, 2, 3], ⟨rfl, ⟨rfl, rfl, rfl, rfl, rfl, rfl, rfl, rfl, trivial⟩, rfl⟩, rfl, rfl, eq_i64 ?_, eq_u32 ?_, trivial⟩
          · rw [nadd, nwrapi (by omega)]
            omega
          · have e4 : ((2 ^ q - 1 : Nat) : Int).fdiv (2 ^ min 1 IntKind.u32.bits) = ((2 ^ (q - 1) - 1 : Nat) : Int) := by
              rw [nshr32 _ _ (by omega)]
              omega
            have e5 : IntKind.u32.wrap ((e.low + (2 ^ (q - 1) - 1) : Nat) : Int) = (((e.low + (2 ^ (q - 1) - 1)) % 4294967296 : Nat) : Int) := wrap_mod _
            rw [e4, nadd, e5, nandnot (by omega) (by omega), hr1]
        · have c1 := ge_f c1
          rw [if_neg (by omega)] at hK
          conv => whnf
          rw [hK]
          exact ⟨(), [0, 1, 2, 3], ⟨rfl, ⟨rfl, rfl, rfl, rfl, rfl, rfl, rfl, rfl, trivial⟩, rfl⟩, rfl, rfl, rfl, rfl, trivial⟩
      · have hKb : 22 ≤ e.rcutK ∧ e.rcutK ≤ 31 := by
          rw [hK]
          split <;> omega
        have hEb : e.rend e.rcutK < 4294967296 := by
          have hx := Nat.div_mul_le_self ((e.low + (2 ^ e.rcutK - 1)) % 4294967296) (2 ^ e.rcutK)
          show (e.low + (2 ^ e.rcutK - 1)) % 4294967296 / 2 ^ e.rcutK * 2 ^ e.rcutK < _
          omega
        have hO : e.routs = (31 - e.rcutK + 7) / 8 := rfl
        have hFl : e.rflush = (e.outIter (e.rend e.rcutK) e.routs).1 := rfl
        have hLf : e.rleft = ((31 - e.rcutK : Nat) : Int) - ((8 * e.routs : Nat) : Int) := rfl
        have hpl := EncS.outIter_facts hinv.ok.plain hEb
        have hit : ∀ j, e.outIter (e.rend e.rcutK) (j + 1) = ((e.outIter (e.rend e.rcutK) j).1.carry ((e.outIter (e.rend e.rcutK) j).2 / 8388608), (e.outIter (e.rend e.rcutK) j).2 * 256 % 2147483648) := fun j => rfl
        have h00 : e.outIter (e.rend e.rcutK) 0 = (e, e.rend e.rcutK) := rfl
        have hrest := e.outIter_rest (e.rend e.rcutK)
        have hRL : e.rlast = if 0 ≤ e.rflush.rem ∨ 0 < e.rflush.ext then e.rflush.carry 0 else e.rflush := rfl
        clear hK hmk hpk hp0 hpq hrq hle hor hr1 e3 k1 k2 k3 hkk
        generalize e.routs = O at *
        generalize e.rend e.rcutK = E at *
        generalize e.rcutK = K at *
        conv => whnf
        refine Or.inr ⟨Unit, fun _ => ⟨[(3, .o (.c (.vec 3 (k + 1)))), (5, .o (.c (.ptr 0 0))), (13, .o (.c (.val (.int .i64 e.rleft))))], e.rflush.RH ++ [seenB ss]⟩, ?_, fun _ => ?_⟩
        · conv => whnf
          refine ⟨_root_.Fin (O + 1), fun ⟨j, _⟩ => ⟨[(3, .o (.c (.vec 3 (k + 1)))), (5, .o (.c (.ptr 0 0))), (13, .o (.c (.val (.int .i64 (((31 - K : Nat) : Int) - ((8 * j : Nat) : Int)))))), (15, .o (.c (.val (.int .u32 ((e.outIter E j).2 : Nat)))))], (e.outIter E j).1.RH ++ [seenB ss]⟩, fun j => O - j.1, ⟨⟨0, by omega⟩, [0, 1, 2, 3], ⟨rfl, ⟨by rw [h00]; rfl, rfl, by rw [h00]; rfl, rfl, by rw [h00]; rfl, rfl, rfl, rfl, trivial⟩, rfl⟩, rfl, rfl, eq_i64 (by simp), by rw [h00]; rfl, trivial⟩, fun ⟨j, hj⟩ => ?_⟩
          obtain ⟨p1, p2⟩ := hpl j
          have hitj := hit j
          have hfj : j = O → (e.outIter E j).1 = e.rflush := fun h => by rw [h, hFl]
          clear hpl hit h00 hrest hRL
          conv => whnf
          refine ⟨fun c1 => ?_, fun c1 => ?_⟩
          · have c1 : ((31 - K : Nat) : Int) - ((8 * j : Nat) : Int) > 0 := of_decide_eq_true c1
            generalize e.outIter E j = qq at *
            obtain ⟨f, n⟩ := qq
            simp only at p1 p2 hitj
            conv => whnf
            have hv : IntKind.i64.wrap (((n : Nat) : Int).fdiv (2 ^ min 23 IntKind.u32.bits)) = ((n / 8388608 : Nat) : Int) := by
              rw [nshr32 _ _ (by omega), nwrapi (by omega)]
            rw [hv]
            refine CallsA.lift (H0 := f.RH) [0, 1, 2] rfl ⟨rfl, rfl, rfl, rfl, rfl, rfl, trivial⟩ rfl (rcarryW w0 f (N := 4 * (k + 1) + j) (by omega) p1 (v := n / 8388608) (by omega)) ?_
            rintro _ _ ⟨rfl, rfl⟩
            conv => whnf
            refine ⟨⟨j + 1, by omega⟩, ⟨[0, 4, 5, 3], ⟨rfl, ⟨by rw [hitj]; rfl, rfl, by rw [hitj]; rfl, rfl, by rw [hitj]; rfl, rfl, rfl, rfl, trivial⟩, rfl⟩, rfl, rfl, eq_i64 ?_, eq_u32 ?_, trivial⟩, ?_⟩
            · rw [wid (by omega) (by omega)]
              omega
            · rw [hitj]
              show IntKind.u32.wrap _ = ((n * 256 % 2147483648 : Nat) : Int)
              rw [nshl32 _ _ (by omega)]
              have hq : IntKind.u32.wrap ((n * 2 ^ 8 : Nat) : Int) = ((n * 256 % 4294967296 : Nat) : Int) := by
                rw [IntKind.wrap_u32]
                omega
              rw [hq, nand32 (by omega) (by omega), show n * 256 % 4294967296 &&& 2147483647 = n * 256 % 4294967296 % 2147483648 from nand_mask _ 31]
              omega
            · show O - (j + 1) < O - j
              omega
          · have c1 : ¬ ((31 - K : Nat) : Int) - ((8 * j : Nat) : Int) > 0 := of_decide_eq_false c1
            have hjO : j = O := by omega
            rw [hfj hjO]
            subst hjO
            conv => whnf
            exact ⟨(), [0, 1, 2, 3], ⟨rfl, ⟨rfl, rfl, rfl, rfl, rfl, rfl, rfl, rfl, trivial⟩, rfl⟩, rfl, rfl, by rw [hLf]; rfl, trivial⟩
        · have hOb : O ≤ 2 := by omega
          have hp2 : e.rflush.plain (4 * (k + 1) + 2) := by
            rw [hFl]
            have := (hpl O).1
            exact ⟨this.1, this.2.1, by have := this.2.2; omega⟩
          have hr3 := hrest O
          rw [← hFl] at hr3
          obtain ⟨g1, g2, g3⟩ := hr3
          have hrp : e.rlast.plain (4 * (k + 1) + 3) ∧ e.rlast.tail = e.tail ∧ e.rlast.win = e.win ∧ e.rlast.nend = e.nend := by
            rw [hRL]
            split
            · obtain ⟨w1, w2, w3, _⟩ := carry_rest e.rflush 0
              exact ⟨EncS.carry_plain hp2, w1.trans g1, w2.trans g2, w3.trans g3⟩
            · exact ⟨⟨hp2.1, hp2.2.1, by have := hp2.2.2; omega⟩, g1, g2, g3⟩
          have hlf1 : -7 ≤ e.rleft ∧ e.rleft ≤ 0 := by
            rw [hLf]
            omega
          clear hpl hit h00 hrest hFl hLf hO hEb
          conv => whnf
          refine Or.inr ⟨Unit, fun _ => ⟨[(3, .o (.c (.vec 3 (k + 1)))), (5, .o (.c (.ptr 0 0))), (13, .o (.c (.val (.int .i64 e.rleft))))], e.rlast.RH ++ [seenB ss]⟩, ?_, fun _ => ?_⟩
          · clear hrp g1 g2 g3
            generalize e.rlast = qq at *
            generalize e.rleft = lf' at *
            have hcar : 0 ≤ e.rflush.rem ∨ 0 < e.rflush.ext → CallsA Try.prog w0 60 [.c (.ptr 0 0), .c (.val (.int .i64 ((0 : Nat) : Int)))] e.rflush.RH fun r H => r = .t [] ∧ H = qq.RM := by
              intro hc
              rw [if_pos hc] at hRL
              subst hRL
              exact rcarryW w0 e.rflush (N := 4 * (k + 1) + 2) (by omega) hp2 (v := 0) (by omega)
            generalize e.rflush = f at *
            conv => whnf
            refine ⟨fun c1 => ?_, fun c1 => ?_⟩
            · have c1 : 0 ≤ f.rem := of_decide_eq_true c1
              conv => whnf
              refine CallsA.lift (H0 := f.RH) [0, 1, 2] rfl ⟨rfl, rfl, rfl, rfl, rfl, rfl, trivial⟩ rfl (hcar (.inl c1)) ?_
              rintro _ _ ⟨rfl, rfl⟩
              conv => whnf
              exact ⟨(), [0, 4, 5, 3], ⟨rfl, ⟨rfl, rfl, rfl, rfl, rfl, rfl, rfl, rfl, trivial⟩, rfl⟩, rfl, rfl, rfl, trivial⟩
            · have c1 : ¬ 0 ≤ f.rem := of_decide_eq_false c1
              conv => whnf
              refine ⟨fun c2 => ?_, fun c2 => ?_⟩
              · have c2 : 0 < f.ext := gt_t c2
                conv => whnf
                refine CallsA.lift (H0 := f.RH) [0, 1, 2] rfl ⟨rfl, rfl, rfl, rfl, rfl, rfl, trivial⟩ rfl (hcar (.inr c2)) ?_
                rintro _ _ ⟨rfl, rfl⟩
                conv => whnf
                exact ⟨(), [0, 4, 5, 3], ⟨rfl, ⟨rfl, rfl, rfl, rfl, rfl, rfl, rfl, rfl, trivial⟩, rfl⟩, rfl, rfl, rfl, trivial⟩
              · have c2 : f.ext ≤ 0 := gt_f c2
                rw [if_neg (by omega)] at hRL
                conv => whnf
                rw [hRL]
                exact ⟨(), [0, 1, 2, 3], ⟨rfl, ⟨rfl, rfl, rfl, rfl, rfl, rfl, rfl, rfl, trivial⟩, rfl⟩, rfl, rfl, rfl, trivial⟩
          · obtain ⟨y1, y2, y3, y4⟩ := hrp
            have hen := hinv.ok.nend
            have hew := hinv.ok.win
            have het := hinv.ok.tail
            rw [← y4] at hen
            rw [← y3, ← y4] at hew
            rw [← y2] at het
            clear hRL g1 g2 g3 hp2 y2 y3 y4
            generalize e.rlast = f at *
            generalize e.rleft = lf' at *
            conv => whnf
            have hme : f.rmerge lf' = if f.nend = 0 then f else if 0 < f.buf.length ∧ (f.nend : Int) ≤ -lf' then { f with buf := f.buf.set (f.buf.length - 1) (orB (f.buf.getD (f.buf.length - 1) 0) f.win) } else { f with tail := f.tail ++ [IntKind.u8.wrap f.win] } := rfl
            have hml : (f.rmerge lf').buf.length = f.buf.length ∧ (f.rmerge lf').tail.length ≤ f.tail.length + 1 := by
              rw [hme]
              split
              · exact ⟨rfl, by omega⟩
              · split
                · exact ⟨List.length_set, by show f.tail.length ≤ _; omega⟩
                · exact ⟨rfl, by show (f.tail ++ [_]).length ≤ _; simp⟩
            generalize f.rmerge lf' = g at *
            have happ : ∀ (w b : Int), True := fun _ _ => trivial
            clear happ
            refine Or.inr ⟨Unit, fun _ => ⟨[(3, .o (.c (.vec 3 (k + 1)))), (5, .o (.c (.ptr 0 0)))], g.RH ++ [seenB ss]⟩, ?_, fun _ => ?_⟩
            · conv => whnf
              refine ⟨fun c1 => ?_, fun c1 => ?_⟩
              · have c1 : 0 < f.nend := gt_t c1
                rw [if_neg (by omega)] at hme
                conv => whnf
                refine ⟨fun c2 => ?_, fun c2 => ?_⟩
                · have c2 : 0 < f.buf.length := gt_t c2
                  have hneg : IntKind.i64.wrap (0 - lf') = -lf' := by rw [wid (by omega) (by omega)]; omega
                  conv => whnf
                  rw [hneg]
                  refine ⟨fun c3 => ?_, fun c3 => ?_⟩
                  · have c3 : (f.nend : Int) ≤ -lf' := of_decide_eq_true c3
                    rw [if_pos ⟨c2, c3⟩] at hme
                    obtain ⟨y, hy⟩ : ∃ y, f.buf[f.buf.length - 1]? = some y := ⟨_, List.getElem?_eq_getElem (by omega)⟩
                    rw [List.getD_eq_getElem?_getD, hy] at hme
                    have hb1 := y1.2.2
                    conv => whnf
                    rw [nsub (a := f.buf.length) (b := 1) (by omega), nwrapi (n := f.buf.length - 1) (by omega)]
                    refine ⟨by omega, ?_⟩
                    conv => whnf
                    refine ⟨y, hy, ?_⟩
                    conv => whnf
                    refine ⟨by omega, ?_⟩
                    conv => whnf
                    refine ⟨y, orB y f.win, hy, rfl, ?_⟩
                    conv => whnf
                    refine ⟨trivial, ?_⟩
                    conv => whnf
                    rw [hme]
                    refine ⟨(), [0, 1, 2, 3], ⟨rfl, ⟨?_, rfl, rfl, rfl, rfl, rfl, rfl, rfl, trivial⟩, rfl⟩, rfl, rfl, trivial⟩
                    refine EncS.rblk_of (e := { f with buf := f.buf.set (f.buf.length - 1) (orB y f.win) }) ?_ rfl rfl rfl rfl rfl rfl rfl rfl
                    exact List.length_set.symm
                  · have c3 : ¬ (f.nend : Int) ≤ -lf' := of_decide_eq_false c3
                    rw [if_neg (fun h => c3 h.2)] at hme
                    conv => whnf
                    refine ⟨⟨⟨rfl, rfl⟩, trivial⟩, ?_⟩
                    conv => whnf
                    refine ⟨rfl, [IntKind.u8.wrap f.win], ⟨rfl, rfl, rfl⟩, by rw [List.length_append, List.length_singleton]; omega, by rw [List.length_append, List.length_singleton]; omega, ?_⟩
                    conv => whnf
                    refine ⟨trivial, ?_⟩
                    conv => whnf
                    refine ⟨trivial, ?_⟩
                    conv => whnf
                    rw [hme]
                    exact ⟨(), [0, 1, 5, 3], ⟨rfl, ⟨rfl, rfl, rfl, rfl, rfl, rfl, rfl, rfl, trivial⟩, rfl⟩, rfl, rfl, trivial⟩
                · have c2 : f.buf.length ≤ 0 := gt_f c2
                  rw [if_neg (fun h => by have := h.1; omega)] at hme
                  conv => whnf
                  refine ⟨⟨⟨rfl, rfl⟩, trivial⟩, ?_⟩
                  conv => whnf
                  refine ⟨rfl, [IntKind.u8.wrap f.win], ⟨rfl, rfl, rfl⟩, by rw [List.length_append, List.length_singleton]; omega, by rw [List.length_append, List.length_singleton]; omega, ?_⟩
                  conv => whnf
                  refine ⟨trivial, ?_⟩
                  conv => whnf
                  refine ⟨trivial, ?_⟩
                  conv => whnf
                  rw [hme]
                  exact ⟨(), [0, 1, 5, 3], ⟨rfl, ⟨rfl, rfl, rfl, rfl, rfl, rfl, rfl, rfl, trivial⟩, rfl⟩, rfl, rfl, trivial⟩
              · have c1 : f.nend ≤ 0 := gt_f c1
                rw [if_pos (by omega)] at hme
                conv => whnf
                rw [hme]
                exact ⟨(), [0, 1, 2, 3], ⟨rfl, ⟨rfl, rfl, rfl, rfl, rfl, rfl, rfl, rfl, trivial⟩, rfl⟩, rfl, rfl, trivial⟩
            · conv => whnf
              refine ⟨trivial, g.buf, ⟨rfl, Nat.le_refl _, rfl, by rw [List.take_length]⟩, ?_⟩
              conv => whnf
              refine Or.inl ?_
              conv => whnf
              have hgb : g.buf.length ≤ 10000 := by have := y1.2.2; omega
              have hgt : g.tail.length ≤ 10000 := by omega
              refine ⟨_root_.Fin (g.tail.length + 1), fun ⟨j, _⟩ => ⟨[(3, .o (.c (.vec 3 (k + 1)))), (5, .o (.c (.ptr 0 0))), (17, .o (.c (.val (.string (rstr (strOf g.buf) g.tail j))))), (18, .o (.c (.val (.int .i64 ((g.tail.length : Int) - 1 - (j : Int))))))], g.RH ++ [seenB ss]⟩, fun j => g.tail.length - j.1, ⟨⟨0, by omega⟩, [0, 1, 2, 3], ⟨rfl, ⟨rfl, rfl, rfl, rfl, rfl, rfl, rfl, rfl, trivial⟩, rfl⟩, rfl, rfl, rfl, eq_i64 ?_, trivial⟩, fun ⟨j, hj⟩ => ?_⟩
              · rw [wid (by omega) (by omega)]
                omega
              · have hsz := rstr_size (strOf g.buf) g.tail j
                rw [strOf_size] at hsz
                have hrs : rstr (strOf g.buf) g.tail (j + 1) = rstr (strOf g.buf) g.tail j ++ strOf [g.tail.getD (g.tail.length - 1 - j) 0] := rfl
                have hend : j = g.tail.length → rstr (strOf g.buf) g.tail j = rstr (strOf g.buf) g.tail g.tail.length := fun h => by rw [h]
                conv => whnf
                generalize rstr (strOf g.buf) g.tail j = sj at *
                refine ⟨fun c1 => ?_, fun c1 => ?_⟩
                · have c1 : (g.tail.length : Int) - 1 - (j : Int) ≥ 0 := of_decide_eq_true c1
                  have hi : (g.tail.length : Int) - 1 - (j : Int) = ((g.tail.length - 1 - j : Nat) : Int) := by omega
                  obtain ⟨y, hy⟩ : ∃ y, g.tail[g.tail.length - 1 - j]? = some y := ⟨_, List.getElem?_eq_getElem (by omega)⟩
                  rw [List.getD_eq_getElem?_getD, hy] at hrs
                  have hdt : (g.tail.drop (g.tail.length - 1 - j)).take 1 = [y] := by
                    rw [List.take_one, List.head?_drop, hy]
                    rfl
                  rw [hi]
                  have hlt : g.tail.length - 1 - j < g.tail.length := by omega
                  conv => whnf
                  rw [nadd (g.tail.length - 1 - j) 1, nwrapi (n := g.tail.length - 1 - j + 1) (by omega)]
                  refine ⟨by omega, Or.inl ⟨fun c' hc1 hc2 => ?_, fun hl => ?_, fun hl => ?_⟩⟩
                  · have hn1 : (((g.tail.length - 1 - j + 1 : Nat) : Int)).toNat - (((g.tail.length - 1 - j : Nat) : Int)).toNat = 1 := by omega
                    have hyy : ((g.tail.drop (((g.tail.length - 1 - j : Nat) : Int)).toNat).take 1) = [y] := hdt
                    conv => whnf
                    rw [hn1]
                    refine ⟨trivial, [y], ⟨rfl, rfl, by show (((g.tail.length - 1 - j : Nat) : Int)).toNat + 1 ≤ g.tail.length; omega, rfl, by rw [hyy]⟩, ?_⟩
                    conv => whnf
                    refine ⟨by rw [strOf_size, List.length_singleton]; omega, ?_⟩
                    conv => whnf
                    refine ⟨⟨j + 1, by omega⟩, ⟨[0, 1, 2, 3], ⟨rfl, ⟨rfl, rfl, rfl, rfl, rfl, rfl, rfl, rfl, trivial⟩, rfl⟩, rfl, rfl, by rw [hrs]; rfl, eq_i64 ?_, trivial⟩, ?_⟩
                    · rw [wid (by omega) (by omega)]
                      omega
                    · show g.tail.length - (j + 1) < g.tail.length - j
                      omega
                  · omega
                  · omega
                · have c1 : ¬ (g.tail.length : Int) - 1 - (j : Int) ≥ 0 := of_decide_eq_false c1
                  rw [hend (by omega)]
                  conv => whnf
                  have hss : wInv l l.length ss := hkl ▸ hw
                  rw [hkl]
                  rw [← hdn]
                  exact Or.inr ⟨[3], .t [.c (.val (.string (EncS.init.rafter l).rdone)), .c (.vec 0 l.length), .c (.val (.int .i64 ((1 : Nat) : Int)))], [seenB ss], ⟨rfl, ⟨rfl, rfl, trivial⟩, rfl⟩, rfl, Or.inr ⟨ss, hss, rfl, rfl⟩⟩
end Go.Proofs.Ytkomikpfnogjcaa
