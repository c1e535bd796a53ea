/- Writing by a script: what it does. -/
import Derived.Test.YtkomikpfnogjcaaDoorRnG
namespace Go.Proofs.YtkomikpfnogjcaaDoor
open Go Go.Vc
set_option maxRecDepth 100000

def EncS.act (e : EncS) (o : OpV) : EncS :=
  if o.act = 0 then e.cum o.a o.b o.c
  else if o.act = 1 then (e.bit o.a o.b).norm
  else if o.act = 2 then e.tab (o.rows.getD 0 0) o.rows.tail o.a
  else if o.act = 3 then e.whole o.a o.b
  else if o.act = 4 then e.raw o.a o.b
  else e.lap o.a o.b o.v
def EncS.tells (e : EncS) : SeenV := ⟨0, true, e.rng, e.tell % 4294967296, e.frac % 4294967296, 0⟩
def EncS.after (e : EncS) : List OpV → EncS
  | [] => e
  | o :: r => (e.act o).after r
def EncS.seen (e : EncS) : List OpV → List SeenV
  | [] => []
  | o :: r => (e.act o).tells :: (e.act o).seen r

/-- An operation can be written. -/
structure OpV.puts (w0 : World) (o : OpV) : Prop where
  a32 : o.a < 4294967296
  b32 : o.b < 4294967296
  c32 : o.c < 4294967296
  kind : (o.act = 0 ∧ o.c ≤ 65535) ∨ (o.act = 1 ∧ 1 ≤ o.a ∧ o.a ≤ 15) ∨
    (o.act = 2 ∧ ∃ total rest ta c, o.rows = total :: rest ∧ total ≤ 256 ∧ rest.length ≤ 65535 ∧ (∀ x ∈ rest, x ≤ total) ∧ o.a < rest.length ∧ o.tab = .slice (some ta) o.rows.length c ∧ ∀ (i x : Nat), o.rows[i]? = some x → x < 4294967296 ∧ w0.cell? (ta.add i) = some (.int .u32 x)) ∨
    (o.act = 3 ∧ 2 ≤ o.a ∧ o.b < o.a) ∨ (o.act = 4 ∧ o.a ≤ 25) ∨ (o.act = 5 ∧ o.a ≤ 32000 ∧ o.b ≤ 16000 ∧ -10000 < o.v ∧ o.v < 10000)

theorem EncS.act_inv {w0 : World} {e : EncS} {N : Nat} (h : e.inv N) {o : OpV} (ho : o.puts w0) : (e.act o).inv (N + 4) := by
  have ha := ho.a32
  rcases ho.kind with ⟨k, h2⟩ | ⟨k, h2, h3⟩ | ⟨k, total, rest, ta, c, hr, ht, hl, _⟩ | ⟨k, h2, h3⟩ | ⟨k, h2⟩ | ⟨k, h2, h3, _⟩
  · rw [show e.act o = e.cum o.a o.b o.c by unfold EncS.act; rw [k]; rfl]
    exact (EncS.cum_inv h h2).mono (by omega)
  · rw [show e.act o = (e.bit o.a o.b).norm by unfold EncS.act; rw [k]; rfl]
    exact (EncS.norm_inv (EncS.bit_ok h h2 h3)).mono (by omega)
  · rw [show e.act o = e.tab total rest o.a by unfold EncS.act; rw [k, hr]; rfl]
    exact (EncS.cum_inv h (by omega)).mono (by omega)
  · rw [show e.act o = e.whole o.a o.b by unfold EncS.act; rw [k]; rfl]
    exact EncS.whole_inv h (by omega) ha
  · rw [show e.act o = e.raw o.a o.b by unfold EncS.act; rw [k]; rfl]
    exact (EncS.raw_inv h h2).mono (by omega)
  · rw [show e.act o = e.lap o.a o.b o.v by unfold EncS.act; rw [k]; rfl]
    exact (EncS.cum_inv h (by omega)).mono (by omega)
theorem EncS.after_inv {w0 : World} : ∀ {l : List OpV} {e : EncS} {N : Nat}, e.inv N → (∀ o ∈ l, o.puts w0) → (e.after l).inv (N + 4 * l.length)
  | [], _, _, h, _ => h
  | o :: r, e, N, h, hl => by
    have := EncS.after_inv (EncS.act_inv h (hl o (List.mem_cons_self ..))) (fun x hx => hl x (List.mem_cons_of_mem _ hx))
    exact this.mono (by rw [List.length_cons]; omega)
theorem EncS.after_snoc (e : EncS) (l : List OpV) (o : OpV) : e.after (l ++ [o]) = (e.after l).act o := by
  induction l generalizing e with
  | nil => rfl
  | cons x r ih => exact ih _
theorem EncS.seen_snoc (e : EncS) (l : List OpV) (o : OpV) : e.seen (l ++ [o]) = e.seen l ++ [((e.after l).act o).tells] := by
  induction l generalizing e with
  | nil => rfl
  | cons x r ih => exact congrArg (_ :: ·) (ih _)
theorem EncS.seen_len (e : EncS) (l : List OpV) : (e.seen l).length = l.length := by
  induction l generalizing e with
  | nil => rfl
  | cons x r ih => exact congrArg (· + 1) (ih _)
theorem EncS.init_inv : EncS.init.inv 0 := by
  refine ⟨⟨⟨by decide, by decide, by decide⟩, by decide, by decide, by decide, by decide, by decide, by decide, by decide, ?_, ?_⟩, by decide⟩
  · intro x hx
    cases hx
  · intro x hx
    cases hx

/-! The blocks of impl.Encode. -/
def seenBlk (ss : List SeenV) : Blk := .vec true 70 encSeen [] 6 ss
def encSh (l : List OpV) (sv : CV) (e : EncS) (T : Blk) : List Blk := [.vec true 85 encOp [] 6 l, .cells 9 [.val (.string (ByteArray.mk #[]))], .cells 64 [sv], .cells 3 [.val (.int .i64 ((0 : Nat) : Int))], e.blk 5 6, byteBlk e.buf, byteBlk e.tail, T]
def encEnv (n k : Nat) : Env := [(2, .o (.c (.ptr 1 0))), (3, .o (.c (.ptr 2 0))), (4, .o (.c (.ptr 3 0))), (5, .o (.c (.ptr 4 0))), (10, .o (.c (.vec 0 n))), (11, .o (.c (.val (.int .i64 n)))), (12, .o (.c (.val (.int .i64 k))))]
def svOf : Nat → CV
  | 0 => .val (.slice none 0 0)
  | k + 1 => .vec 7 (k + 1)
def tOf : Nat → List SeenV → Blk
  | 0, _ => .dead
  | _ + 1, ss => seenBlk ss
def encSt (l : List OpV) (n k : Nat) : S := ⟨encEnv n k, encSh l (svOf k) (EncS.init.after (l.take k)) (tOf k (EncS.init.seen (l.take k)))⟩
theorem shEmb0 {l : List OpV} {e : EncS} {H : List Blk} {env e0 : Env} (i j : Nat) (h0 : H[0]? = some (.vec true 85 encOp [] 6 l)) (h1 : H[1]? = some (.cells 9 [.val (.string (ByteArray.mk #[]))])) (h2 : H[2]? = some (.cells 64 [.val (.slice none 0 0)])) (h3 : H[3]? = some (.cells 3 [.val (.int .i64 ((0 : Nat) : Int))])) (h4 : H[4]? = some (e.blk i j)) (h5 : H[i]? = some (byteBlk e.buf)) (h6 : H[j]? = some (byteBlk e.tail)) (hl : 0 < H.length) (hn : nodupB [0, 1, 2, 3, 4, i, j] = true) (he : embE [0, 1, 2, 3, 4, i, j, 0] env e0) :
    EmbS 1 ⟨e0, encSh l (.val (.slice none 0 0)) e .dead⟩ ⟨env, H⟩ :=
  ⟨[0, 1, 2, 3, 4, i, j, 0], ⟨rfl, ⟨h0, rfl, h1, rfl, h2, rfl, h3, rfl, h4, rfl, h5, rfl, h6, rfl, hl, trivial⟩, hn⟩, he⟩
theorem shEmb1 {l : List OpV} {e : EncS} {ss : List SeenV} {n : Nat} {H : List Blk} {env e0 : Env} (i j t : Nat) (h0 : H[0]? = some (.vec true 85 encOp [] 6 l)) (h1 : H[1]? = some (.cells 9 [.val (.string (ByteArray.mk #[]))])) (h2 : H[2]? = some (.cells 64 [.vec t n])) (h3 : H[3]? = some (.cells 3 [.val (.int .i64 ((0 : Nat) : Int))])) (h4 : H[4]? = some (e.blk i j)) (h5 : H[i]? = some (byteBlk e.buf)) (h6 : H[j]? = some (byteBlk e.tail)) (h7 : H[t]? = some (seenBlk ss)) (hn : nodupB [0, 1, 2, 3, 4, i, j, t] = true) (he : embE [0, 1, 2, 3, 4, i, j, t] env e0) :
    EmbS 1 ⟨e0, encSh l (.vec 7 n) e (seenBlk ss)⟩ ⟨env, H⟩ :=
  ⟨[0, 1, 2, 3, 4, i, j, t], ⟨rfl, ⟨h0, rfl, h1, rfl, h2, rfl, h3, rfl, h4, rfl, h5, rfl, h6, rfl, h7, rfl, trivial⟩, hn⟩, he⟩
/-- The environment between the switch and what is told. -/
theorem shEmb {l : List OpV} {e : EncS} {k n : Nat} {ss : List SeenV} {H : List Blk} {env : Env} (i j : Nat) (h0 : H[0]? = some (.vec true 85 encOp [] 6 l)) (h1 : H[1]? = some (.cells 9 [.val (.string (ByteArray.mk #[]))])) (h2 : H[2]? = some (.cells 64 [svOf k])) (h3 : H[3]? = some (.cells 3 [.val (.int .i64 ((0 : Nat) : Int))])) (h4 : H[4]? = some (e.blk i j)) (h5 : H[i]? = some (byteBlk e.buf)) (h6 : H[j]? = some (byteBlk e.tail)) (h7 : H[7]? = some (tOf k ss)) (hl : 0 < H.length) (hn : nodupB [0, 1, 2, 3, 4, i, j, 7] = true) (hn2 : nodupB [0, 1, 2, 3, 4, i, j] = true) (he : ∀ t, embE [0, 1, 2, 3, 4, i, j, t] env (encEnv n k)) :
    EmbS 1 ⟨encEnv n k, encSh l (svOf k) e (tOf k ss)⟩ ⟨env, H⟩ := by
  cases k with
  | zero => exact shEmb0 i j h0 h1 h2 h3 h4 h5 h6 hl hn2 (he 0)
  | succ k => exact shEmb1 i j 7 h0 h1 h2 h3 h4 h5 h6 h7 hn (he 7)
end Go.Proofs.YtkomikpfnogjcaaDoor
