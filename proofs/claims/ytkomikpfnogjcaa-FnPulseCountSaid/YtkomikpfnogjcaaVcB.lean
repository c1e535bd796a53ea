/- A generator of conditions for functions of the model: values, blocks and states by numbers of their own, the instructions, and what is asked of a piece of code. Definitions alone. -/
import Derived.Below
import Derived.Test.YtkomikpfnogjcaaVcA
namespace Go.Vc
open Go.RowKit (Below)

/-- The value of one cell. Blocks are named by places in a list. -/
inductive CV where
  | val (x : Value)
  | ptr (b o : Nat)
  | row (b wd i j : Nat)
  | sli (b wd o n c : Nat)
  | vec (b n : Nat)
  | clo (g : FuncId) (caps : List (Nat × Nat))
  | ifc (t : TypeId) (b o : Nat)
  | kb (b : Bool)
  | any
  | bad

inductive A1 where
  | c (x : CV)
  | a (xs : List CV)
inductive AV where
  | o (x : A1)
  | t (xs : List A1)

def renC (σ : List Nat) : List (Nat × Nat) → Option (List (Nat × Nat))
  | [] => some []
  | (b, o) :: r => match σ[b]?, renC σ r with
    | some i, some l => some ((i, o) :: l)
    | _, _ => none
def CV.ren (σ : List Nat) : CV → CV
  | .val x => .val x
  | .ptr b o => match σ[b]? with | some i => .ptr i o | none => .bad
  | .row b wd i j => match σ[b]? with | some k => .row k wd i j | none => .bad
  | .sli b wd o n c => match σ[b]? with | some k => .sli k wd o n c | none => .bad
  | .vec b n => match σ[b]? with | some k => .vec k n | none => .bad
  | .clo g caps => match renC σ caps with | some l => .clo g l | none => .bad
  | .ifc t b o => match σ[b]? with | some k => .ifc t k o | none => .bad
  | .kb b => .kb b
  | .any => .any
  | .bad => .bad
/-- A truth value that is known in the course of a piece of code is handed on as any other. -/
def CV.norm : CV → CV
  | .kb b => .val (.bool b)
  | x => x
def A1.norm : A1 → A1
  | .c x => .c x.norm
  | .a xs => .a xs
def A1.ren (σ : List Nat) : A1 → A1
  | .c x => .c (x.ren σ)
  | .a xs => .a (xs.map (CV.ren σ))
def AV.ren (σ : List Nat) : AV → AV
  | .o x => .o (x.ren σ)
  | .t xs => .t (xs.map (A1.ren σ))

/-- How a row of an array is told by cells; 'bs' names the blocks that the cells point into. -/
structure Enc (α : Type) where
  f : List Nat → α → List CV
  nat : ∀ (σ bs bs' : List Nat) (x : α), bs.length = bs'.length → (∀ k, k < bs.length → σ[bs.getD k 0]? = some (bs'.getD k 0)) → (f bs x).map (CV.ren σ) = f bs' x

/-- Whole numbers of a kind. -/
def encI (k : IntKind) : Enc Int := ⟨fun _ x => [.val (.int k x)], fun _ _ _ _ _ _ => rfl⟩
def bytesOf (b : ByteArray) : List Int := b.data.toList.map fun x => (x.toNat : Int)
def strOf (l : List Int) : ByteArray := l.foldl (fun r n => r.push (UInt8.ofNat n.toNat)) ByteArray.empty

inductive Blk : Type 1 where
  | dead
  | cells (T : TypeId) (cs : List CV)
  | vec {α : Type} (wr : Bool) (T : TypeId) (e : Enc α) (bs : List Nat) (wd : Nat) (xs : List α)

def renB (σ : List Nat) : List Nat → Option (List Nat)
  | [] => some []
  | b :: r => match σ[b]?, renB σ r with
    | some i, some l => some (i :: l)
    | _, _ => none
def Blk.ren (σ : List Nat) : Blk → Blk
  | .dead => .dead
  | .cells T cs => .cells T (cs.map (CV.ren σ))
  | .vec wr T e bs wd xs => match renB σ bs with | some l => .vec wr T e l wd xs | none => .dead

abbrev Env := List (Nat × AV)
structure S : Type 1 where
  env : Env
  H : List Blk

/-! ### Instructions -/
inductive X where
  | t (n : Nat)
  | k (x : Value)

inductive I where
  | mov (x : X)
  | nil (x : X)
  | ffa (x : X) (off : Nat)
  | fld (x : X) (off : Nat) (n : Option Nat)
  | ld (x : X) (n : Option Nat)
  | pick (c a b : X)
  | bin (op : BinOp) (x y : X)
  | beq (neg : Bool) (x y : X)
  | bik (op : BinOp) (d : IntKind) (x : X) (n : Nat)
  | un (op : UnOp) (x : X)
  | cvi (k : IntKind) (x : X)
  | ia (x i : X) (wd : Nat)
  | si (x i : X)
  | len (str : Bool) (x : X)
  | cps (x : X)
  | slc (x : X) (lo hi : Option X) (wd : Nat)
  | sls (x : X) (lo hi : Option X)
  | mn (x : X) (xs : List X)
  | mx (x : X) (xs : List X)
  | ext (x : X) (i : Nat)
  | bld (zero : List Value) (parts : List (Nat × Nat × X))
  | mkf (g : FuncId) (caps : List X)
  | mki (t : TypeId) (x : X)
  | st (x v : X) (n : Nat)
  | call (f : FuncId) (args : List X)
  | alc (T : TypeId) (zero : List Value)
  | box (T : TypeId) (x : X)
  | bsl (T : TypeId) (wd len : Nat) (zero : List Value) (parts : List (Nat × Nat × X))
  | mks (T : TypeId) (wd bytes : Nat) (zero : List Value) (n c : X)
  | app (T : TypeId) (wd bytes : Nat) (x y : X)
  | cpy (wd : Nat) (x y : X)
  | s2b (T : TypeId) (x : X)
  | b2s (x : X)

structure G where
  dst : Option Nat
  gd : Option (Nat × Bool)
  i : I
structure DG where
  g : G
  n : Nat
  quiet : Bool
  chk : List Nat

inductive IC where
  | skip
  | reg (gs : List G)
  | drw (ds : List DG)
  | seq (a b : IC)
  | cut (a b : IC)
  | cond (c : X) (a b : IC)
  | block (id : Nat) (c : IC)
  | loop (c : IC)
  | exit (id : Nat)
  | ret

/-! ### What is asked -/
def look : Env → Nat → Option AV
  | [], _ => none
  | (k, x) :: r, t => bif Nat.beq k t then some x else look r t
def X.get (e : Env) : X → Option AV
  | .t n => look e n
  | .k (.bool b) => some (.o (.c (.kb b)))
  | .k x => some (.o (.c (.val x)))
def getV (e : Env) (x : X) (k : AV → Prop) : Prop := match x.get e with | some a => k a | _ => False
def get1 (e : Env) (x : X) (k : A1 → Prop) : Prop := match x.get e with | some (.o a) => k a.norm | _ => False
def getC (e : Env) (x : X) (k : CV → Prop) : Prop := match x.get e with | some (.o (.c a)) => k a.norm | _ => False
def getI (e : Env) (x : X) (k : IntKind → Int → Prop) : Prop := match x.get e with | some (.o (.c (.val (.int d n)))) => k d n | _ => False
/-- A branch. -/
def brn (t : Bool) (A B : Prop) : Prop := (t = true → A) ∧ (t = false → B)
theorem brn_true (A B : Prop) : brn true A B = A := by simp [brn]
theorem brn_false (A B : Prop) : brn false A B = B := by simp [brn]

def getB (e : Env) (x : X) (k : Bool → Prop) : Prop := match x.get e with | some (.o (.c (.val (.bool b)))) => k b | some (.o (.c (.kb b))) => k b | _ => False
def getBr (e : Env) (x : X) (A B : Prop) : Prop := match x.get e with | some (.o (.c (.val (.bool b)))) => brn b A B | some (.o (.c (.kb true))) => A | some (.o (.c (.kb false))) => B | _ => False
def getS (e : Env) (x : X) (k : ByteArray → Prop) : Prop := match x.get e with | some (.o (.c (.val (.string b)))) => k b | _ => False
def get1s (e : Env) : List X → (List A1 → Prop) → Prop
  | [], k => k []
  | x :: r, k => get1 e x fun a => get1s e r fun l => k (a :: l)

/-- What is asked where a test was reckoned. -/
def chk (b : Bool) (A : Prop) : Prop := match b with | true => A | false => False

/-! Lists written out -/
def takeF {α : Type} : Nat → List α → (List α → Prop) → Prop
  | 0, _, k => k []
  | n + 1, x :: r, k => takeF n r fun l => k (x :: l)
  | _ + 1, [], _ => False
def dropF {α : Type} : Nat → List α → (List α → Prop) → Prop
  | 0, l, k => k l
  | n + 1, _ :: r, k => dropF n r k
  | _ + 1, [], _ => False
def putF {α : Type} : Nat → List α → List α → (List α → Prop) → Prop
  | 0, [], l, k => k l
  | 0, v :: vs, _ :: l, k => putF 0 vs l fun r => k (v :: r)
  | 0, _ :: _, [], _ => False
  | n + 1, vs, x :: l, k => putF n vs l fun r => k (x :: r)
  | _ + 1, _, [], _ => False
def setF : Nat → Blk → List Blk → (List Blk → Prop) → Prop
  | 0, b, _ :: l, k => k (b :: l)
  | n + 1, b, x :: l, k => setF n b l fun r => k (x :: r)
  | _, _, [], _ => False
def pushF (b : Blk) : List Blk → Nat → (Nat → List Blk → Prop) → Prop
  | [], n, k => k n [b]
  | x :: l, n, k => pushF b l (n + 1) fun m r => k m (x :: r)
def mapF (f : Value → CV) : List Value → (List CV → Prop) → Prop
  | [], k => k []
  | x :: l, k => mapF f l fun r => k (f x :: r)

/-- But for what may be anything, a value is told by one value alone. -/
def CV.sure : CV → Bool
  | .any => false
  | .bad => false
  | _ => true
def A1.sure : A1 → Bool
  | .c x => x.sure
  | .a xs => xs.all CV.sure
def CV.isV : CV → Bool
  | .val _ => true
  | _ => false
def A1.cells : A1 → List CV
  | .c x => [x]
  | .a xs => xs

def extN (w0 : World) (a : Addr) : Nat → Nat → (List CV → Prop) → Prop
  | _, 0, k => k []
  | i, n + 1, k => ∃ x, w0.cell? (a.add i) = some x ∧ x.oneCell' = true ∧ extN w0 a (i + 1) n fun l => k (.val x :: l)

/-- What 'n' cells hold at an address. -/
def ldn (w0 : World) (H : List Blk) (c : CV) (n : Nat) (k : List CV → Prop) : Prop :=
  match c with
  | .ptr b o => match H[b]? with
    | some (.cells _ cs) => dropF o cs fun l => takeF n l k
    | _ => False
  | .row b wd i j => match H[b]? with
    | some (.cells _ cs) => dropF (i * wd + j) cs fun l => takeF n l k
    | some (.vec _ _ e bs wd' xs) => chk (Nat.beq wd wd') (∃ x, xs[i]? = some x ∧ dropF j (e.f bs x) fun l => takeF n l k)
    | _ => False
  | .val (.pointer (some a)) => extN w0 a 0 n k
  | _ => False

/-- A store of cells. -/
def stn (H : List Blk) (c : CV) (vs : List CV) (k : List Blk → Prop) : Prop :=
  match c with
  | .ptr b o => match H[b]? with
    | some (.cells T cs) => putF o vs cs fun l => setF b (.cells T l) H k
    | _ => False
  | .row b wd i j => match H[b]? with
    | some (.cells T cs) => putF (i * wd + j) vs cs fun l => setF b (.cells T l) H k
    | some (.vec wr T e bs wd' xs) => chk (wr && Nat.beq wd wd') (∃ x x', xs[i]? = some x ∧ putF j vs (e.f bs x) (fun l => e.f bs x' = l) ∧ setF b (.vec wr T e bs wd' (xs.set i x')) H k)
    | _ => False
  | _ => False

def one (k : CV → Prop) : List CV → Prop
  | [x] => k x
  | _ => False
def known (k : List CV → Prop) : List CV → Prop
  | l => l.all (fun | .any => false | .bad => false | _ => true) = true ∧ k l

def ld1 (w0 : World) (H : List Blk) (c : CV) (n : Option Nat) (k : A1 → Prop) : Prop :=
  match n with
  | none => ldn w0 H c 1 (one fun x => match x with | .any => False | .bad => False | x => k (.c x))
  | some n => ldn w0 H c n fun l => k (.a l)

def sameK : IntKind → IntKind → Bool
  | .i8, .i8 | .i16, .i16 | .i32, .i32 | .i64, .i64 | .u8, .u8 | .u16, .u16 | .u32, .u32 | .u64, .u64 => true
  | _, _ => false
theorem sameK_eq {a b : IntKind} (h : sameK a b = true) : a = b := by cases a <;> cases b <;> first | rfl | cases h
def binI (op : BinOp) (k : IntKind) (a : Int) (k' : IntKind) (b : Int) (K : Value → Prop) : Prop :=
  match op with
  | .add => chk (sameK k k') (K (.int k (k.wrap (a + b))))
  | .sub => chk (sameK k k') (K (.int k (k.wrap (a - b))))
  | .mul => chk (sameK k k') (K (.int k (k.wrap (a * b))))
  | .quo => chk (sameK k k') (b ≠ 0 ∧ K (.int k (k.wrap (a.tdiv b))))
  | .rem => chk (sameK k k') (b ≠ 0 ∧ K (.int k (a.tmod b)))
  | .and => chk (sameK k k') (K (.int k (k.wrap ((BitVec.ofInt k.bits a &&& BitVec.ofInt k.bits b).toNat : Int))))
  | .or => chk (sameK k k') (K (.int k (k.wrap ((BitVec.ofInt k.bits a ||| BitVec.ofInt k.bits b).toNat : Int))))
  | .xor => chk (sameK k k') (K (.int k (k.wrap ((BitVec.ofInt k.bits a ^^^ BitVec.ofInt k.bits b).toNat : Int))))
  | .andNot => chk (sameK k k') (K (.int k (k.wrap ((BitVec.ofInt k.bits a &&& ~~~(BitVec.ofInt k.bits b)).toNat : Int))))
  | .shl => 0 ≤ b ∧ K (.int k (k.wrap (a * 2 ^ (min b.toNat k.bits))))
  | .shr => 0 ≤ b ∧ K (.int k (a.fdiv (2 ^ (min b.toNat k.bits))))
  | .eql => chk (sameK k k') (K (.bool (a == b)))
  | .neq => chk (sameK k k') (K (.bool (a != b)))
  | .lss => chk (sameK k k') (K (.bool (decide (a < b))))
  | .leq => chk (sameK k k') (K (.bool (decide (a ≤ b))))
  | .gtr => chk (sameK k k') (K (.bool (decide (a > b))))
  | .geq => chk (sameK k k') (K (.bool (decide (a ≥ b))))

/-- By a number that is written out. -/
def binK (op : BinOp) (d k : IntKind) (a : Int) (n : Nat) (K : Value → Prop) : Prop :=
  match op with
  | .quo => chk (sameK k d) (K (.int k (k.wrap (a.tdiv n))))
  | .rem => chk (sameK k d) (K (.int k (a.tmod n)))
  | .shl => K (.int k (k.wrap (a * 2 ^ (min n k.bits))))
  | .shr => K (.int k (a.fdiv (2 ^ (min n k.bits))))
  | _ => False

def binS (op : BinOp) (a b : ByteArray) (K : Value → Prop) : Prop :=
  match op with
  | .add => a.size + b.size ≤ 9223372036854775807 ∧ K (.string (a ++ b))
  | .eql => K (.bool (a.toList == b.toList))
  | .neq => K (.bool (!(a.toList == b.toList)))
  | _ => False

def bin1 (op : BinOp) (x y : Value) (K : Value → Prop) : Prop :=
  match x with
  | .int k a => (match y with | .int k' b => binI op k a k' b K | _ => False)
  | .string a => (match y with | .string b => binS op a b K | _ => False)
  | _ => False

def un1 (op : UnOp) (x : Value) (K : Value → Prop) : Prop :=
  match op with
  | .neg => (match x with | .int k n => K (.int k (k.wrap (0 - n))) | _ => False)
  | .not => (match x with | .bool b => K (.bool (!b)) | _ => False)
  | .xor => (match x with | .int k n => K (.int k (k.wrap ((BitVec.ofInt k.bits (if k.signed then -1 else k.max) ^^^ BitVec.ofInt k.bits n).toNat : Int))) | _ => False)
  | _ => False

def fillF : List CV → List (Nat × Nat × X) → Env → (List CV → Prop) → Prop
  | z, [], _, k => k z
  | z, (off, size, x) :: r, e, k => get1 e x fun a => chk (Nat.beq a.cells.length size) (putF off a.cells z fun z' => fillF z' r e k)

def mnF (lt : Bool) : Value → List X → Env → (Value → Prop) → Prop
  | z, [], _, k => k z
  | z, x :: r, e, k => match z with
    | .int d n => getI e x fun _ m => mnF lt (.int d (bif lt then (if m < n then m else n) else (if m > n then m else n))) r e k
    | _ => False

def getP : List CV → (List (Nat × Nat) → Prop) → Prop
  | [], k => k []
  | .ptr b o :: r, k => getP r fun l => k ((b, o) :: l)
  | _ :: _, _ => False
def getCs (e : Env) : List X → (List CV → Prop) → Prop
  | [], k => k []
  | x :: r, k => getC e x fun a => getCs e r fun l => k (a :: l)

/-- The cells of a slice's elements, written out, where its block is known cell by cell. -/
def flat {α : Type} (e : Enc α) (bs : List Nat) (xs : List α) : List CV := xs.flatMap (e.f bs)

/-- That the rows 'ys' are what a slice holds. -/
def src {α : Type} (w0 : World) (H : List Blk) (e : Enc α) (bs : List Nat) (wd : Nat) (y : CV) (ys : List α) : Prop :=
  match y with
  | .val (.slice none 0 _) => ys = []
  | .val (.slice (some a) n _) => ys.length = n ∧ ∀ i x, (flat e bs ys)[i]? = some x → ∃ v, x = .val v ∧ v.oneCell' = true ∧ w0.cell? (a.add i) = some v
  | .val (.string s) => ys.length = s.size ∧ wd = 1 ∧ flat e bs ys = s.data.toList.map fun b => .val (.int .u8 b.toNat)
  | .vec b n => match H[b]? with
    | some (.vec _ _ e' bs' wd' zs) => wd' = wd ∧ n ≤ zs.length ∧ ys.length = n ∧ flat e bs ys = flat e' bs' (zs.take n)
    | _ => False
  | .sli b wd1 o n _ => match H[b]? with
    | some (.cells _ cs) => wd1 = wd ∧ ys.length = n ∧ dropF (o * wd) cs fun l => takeF (n * wd) l fun r => flat e bs ys = r
    | some (.vec _ _ e' bs' wd' zs) => wd1 = wd ∧ wd' = wd ∧ o + n ≤ zs.length ∧ ys.length = n ∧ flat e bs ys = flat e' bs' ((zs.drop o).take n)
    | _ => False
  | _ => False

/-- What is known of a function: called with such values over such blocks it hands back these, and leaves these. -/
def FrameP (w : World) (F : Nat → Prop) (w' : World) : Prop :=
  w'.os = w.os ∧ w'.tape = w.tape ∧ w'.output = w.output ∧ w.heap.size ≤ w'.heap.size ∧ ∀ i, i < w.heap.size → ¬ F i → w'.heap[i]? = w.heap[i]?

abbrev Ren := List (Option Nat × Nat)
def Ren.at (ρ : Ren) (b : Nat) : Option Nat := (ρ[b]?).bind (·.1)

inductive All2 {α β : Type} (R : α → β → Prop) : List α → List β → Prop where
  | nil : All2 R [] []
  | cons {a b l m} : R a b → All2 R l m → All2 R (a :: l) (b :: m)

def CV.R (ρ : Ren) : CV → Value → Prop
  | .val x, y => y = x ∧ x.oneCell' = true
  | .ptr b o, y => ∃ g, ρ.at b = some g ∧ y = .pointer (some ⟨g, o, none⟩)
  | .row b wd i j, y => ∃ g, ρ.at b = some g ∧ y = .pointer (some ⟨g, i * wd + j, none⟩)
  | .sli b wd o n c, y => ∃ g, ρ.at b = some g ∧ y = .slice (some ⟨g, o * wd, none⟩) n c ∧ n ≤ c
  | .vec b n, y => ∃ e, ρ[b]? = some e ∧ ((∃ g, e.1 = some g ∧ y = .slice (some ⟨g, 0, none⟩) n e.2 ∧ n ≤ e.2) ∨ (e.1 = none ∧ n = 0 ∧ y = .slice none 0 0))
  | .clo g caps, y => ∃ vs, y = .func (.func g) #[] vs ∧ All2 (fun (c : Nat × Nat) v => ∃ h, ρ.at c.1 = some h ∧ v = Value.pointer (some ⟨h, c.2, none⟩)) caps vs.toList
  | .ifc t b o, y => ∃ g, ρ.at b = some g ∧ y = .iface t (.pointer (some ⟨g, o, none⟩))
  | .kb b, y => y = .bool b
  | .any, y => y.oneCell' = true
  | .bad, _ => False

def A1.R (ρ : Ren) : A1 → Value → Prop
  | .c x, y => x.R ρ y
  | .a xs, y => ∃ ys, y = .agg ys ∧ All2 (CV.R ρ) xs ys.toList
def AV.R (ρ : Ren) : AV → Value → Prop
  | .o x, y => x.R ρ y
  | .t xs, y => ∃ ys, y = .tuple ys ∧ All2 (A1.R ρ) xs ys.toList

def Blk.ok (ρ : Ren) (e : Option Nat × Nat) (w : World) : Blk → Prop
  | .dead => True
  | .cells T cs => ∃ g arr, e.1 = some g ∧ w.heap[g]? = some (.cells arr T (0, 0)) ∧ All2 (CV.R ρ) cs arr.toList
  | .vec wr T en bs wd xs => 0 < wd ∧ (∀ x, (en.f bs x).length = wd) ∧
    ((e.1 = none ∧ xs = [] ∧ e.2 = 0) ∨
     ∃ g arr fz, e.1 = some g ∧ w.heap[g]? = some (.cells arr T fz) ∧ arr.size = e.2 * wd ∧ xs.length ≤ e.2 ∧ e.2 ≤ 9223372036854775807 ∧ (∃ sp, All2 (CV.R ρ) (flat en bs xs ++ sp) arr.toList ∧ ∀ x ∈ sp, x = .any) ∧ (wr = true → fz = (0, 0)))

def Blk.live : Blk → Bool
  | .dead => false
  | _ => true

/-- Concrete block 'g' is one of those that are told. -/
def image (ρ : Ren) (H : List Blk) (g : Nat) : Prop := ∃ b k, H[b]? = some k ∧ k.live = true ∧ ρ.at b = some g

structure RH (w0 : World) (ρ : Ren) (H : List Blk) (w : World) : Prop where
  len : ρ.length = H.length
  ok : ∀ (b : Nat) (k : Blk) (e : Option Nat × Nat), H[b]? = some k → ρ[b]? = some e → k.ok ρ e w
  inj : ∀ (b b' : Nat) (k k' : Blk) (g : Nat), H[b]? = some k → H[b']? = some k' → k.live = true → k'.live = true → ρ.at b = some g → ρ.at b' = some g → b = b'
  lo : ∀ g, image ρ H g → w0.heap.size ≤ g ∧ g < w.heap.size
  base : Below w0.heap.size w0 w

structure CallsA (P : Program) (w0 : World) (f : FuncId) (args : List A1) (H : List Blk) (R : AV → List Blk → Prop) : Prop where
  cal : (match P.funcs[f]? with | some fn => fn.body.isSome && !(fn.name == "runtime.NumGoroutine") | none => false) = true
  out : ∀ ρ w vs, RH w0 ρ H w → All2 (A1.R ρ) args vs → Calls P f vs.toArray w fun e w' =>
    ∃ r H' ρ' v, R r H' ∧ e = .returned v ∧ AV.R ρ' r v ∧ RH w0 ρ' H' w' ∧ (∃ t, ρ' = ρ ++ t) ∧ FrameP w (image ρ H) w' ∧ ∀ g, image ρ' H' g → image ρ H g ∨ w.heap.size ≤ g

def notStr : CV → Prop
  | .val (.string _) => False
  | _ => True
def addV (a : Addr) (n : Nat) : CV := .val (.pointer (some (a.add n)))

/-- What is asked of an instruction: what follows is asked of its value and of the blocks behind it. -/
def evI (P : Program) (w0 : World) (i : I) (s : S) (K : AV → S → Prop) : Prop :=
  match i with
  | .mov x => getV s.env x fun a => K a s
  | .nil x => getC s.env x fun c => match c with
    | .ptr b o => K (.o (.c (.ptr b o))) s
    | .row b wd i j => K (.o (.c (.row b wd i j))) s
    | .ifc t b o => K (.o (.c (.ifc t b o))) s
    | .clo g l => K (.o (.c (.clo g l))) s
    | .val (.pointer (some a)) => K (.o (.c (.val (.pointer (some a))))) s
    | .val (.iface t y) => K (.o (.c (.val (.iface t y)))) s
    | .val (.func (.func g) a b) => K (.o (.c (.val (.func (.func g) a b)))) s
    | _ => False
  | .ffa x off => getC s.env x fun c => match c with
    | .ptr b o => K (.o (.c (.ptr b (o + off)))) s
    | .row b wd i j => K (.o (.c (.row b wd i (j + off)))) s
    | .val (.pointer (some a)) => K (.o (.c (addV a off))) s
    | _ => False
  | .fld x off n => get1 s.env x fun a => match a with
    | .a xs => dropF off xs fun l => (match n with
      | none => takeF 1 l (one fun c => K (.o (.c c)) s)
      | some n => takeF n l fun l => K (.o (.a l)) s)
    | _ => False
  | .ld x n => getC s.env x fun c => ld1 w0 s.H c n fun a => K (.o a) s
  | .pick c a b => getBr s.env c (getV s.env a fun a => K a s) (getV s.env b fun b => K b s)
  | .bin op x y => getC s.env x fun a => getC s.env y fun b => match a with
    | .val a => (match b with | .val b => bin1 op a b fun v => K (.o (.c (.val v))) s | _ => False)
    | _ => False
  | .bik op d x n => getI s.env x fun k a => binK op d k a n fun v => K (.o (.c (.val v))) s
  | .beq neg x y => getB s.env x fun a => getB s.env y fun b => K (.o (.c (.val (.bool (bif neg then !(a == b) else a == b))))) s
  | .un op x => getC s.env x fun a => match a with
    | .val a => un1 op a fun v => K (.o (.c (.val v))) s
    | _ => False
  | .cvi k x => getI s.env x fun _ n => K (.o (.c (.val (.int k (k.wrap n))))) s
  | .ia x i wd => getC s.env x fun c => getI s.env i fun _ n => match c with
    | .vec b l => (0 ≤ n ∧ n < l) ∧ K (.o (.c (.row b wd n.toNat 0))) s
    | .sli b wd' o l _ => chk (Nat.beq wd' wd) ((0 ≤ n ∧ n < l) ∧ K (.o (.c (.row b wd (o + n.toNat) 0))) s)
    | .val (.slice (some a) l _) => (0 ≤ n ∧ n < l) ∧ K (.o (.c (addV a (n.toNat * wd)))) s
    | .val (.slice A l _) => (0 ≤ n ∧ n < l) ∧ ∃ a, A = some a ∧ K (.o (.c (addV a (n.toNat * wd)))) s
    | _ => False
  | .si x i => getS s.env x fun b => getI s.env i fun _ n => ∃ y, (if 0 ≤ n then b[n.toNat]? else none) = some y ∧ K (.o (.c (.val (.int .u8 y.toNat)))) s
  | .len str x => getC s.env x fun c => match c, str with
    | .vec _ l, false => K (.o (.c (.val (.int .i64 l)))) s
    | .sli _ _ _ l _, false => K (.o (.c (.val (.int .i64 l)))) s
    | .val (.slice _ l _), false => K (.o (.c (.val (.int .i64 l)))) s
    | .val (.string b), true => K (.o (.c (.val (.int .i64 b.size)))) s
    | _, _ => False
  | .cps x => getS s.env x fun b => K (.o (.c (.val (.string b)))) s
  | .slc x lo hi wd => getC s.env x fun c => getI s.env (lo.getD (.k (.int .i64 0))) fun _ l => match c with
    | .vec b n => getI s.env (hi.getD (.k (.int .i64 n))) fun _ h => (0 ≤ l ∧ l ≤ h ∧ h ≤ n) ∧
      (((∀ c : Nat, h ≤ c → l < c → K (.o (.c (.sli b wd l.toNat (h.toNat - l.toNat) (c - l.toNat)))) s) ∧ (l = n → K (.o (.c (.sli b wd 0 0 0))) s) ∧ (l = n → n = 0 → K (.o (.c (.val (.slice none 0 0)))) s)) ∨
       (l = 0 ∧ match s.H[b]? with
         | some (.vec wr T e bs wd' xs) => setF b .dead s.H fun H1 => pushF (.vec wr T e bs wd' (xs.take h.toNat)) H1 0 fun id H2 => K (.o (.c (.vec id h.toNat))) { s with H := H2 }
         | _ => False))
    | .sli b wd' o n c => getI s.env (hi.getD (.k (.int .i64 n))) fun _ h => chk (Nat.beq wd' wd) ((0 ≤ l ∧ l ≤ h ∧ h ≤ n) ∧
      (l < c → K (.o (.c (.sli b wd (o + l.toNat) (h.toNat - l.toNat) (c - l.toNat)))) s) ∧ (l = n → ¬ l < c → K (.o (.c (.sli b wd o 0 0))) s))
    | .val (.slice none 0 0) => getI s.env (hi.getD (.k (.int .i64 0))) fun _ h => l = 0 ∧ h = 0 ∧ (K (.o (.c (.val (.slice none 0 0)))) s ∨
      ∃ (T : TypeId) (α : Type) (e : Enc α), 0 < wd ∧ (∀ y, (e.f [] y).length = wd) ∧ pushF (.vec true T e [] wd []) s.H 0 fun id H => K (.o (.c (.vec id 0))) { s with H := H })
    | .val (.slice (some a) n c) => getI s.env (hi.getD (.k (.int .i64 n))) fun _ h => (0 ≤ l ∧ l ≤ h ∧ h ≤ c) ∧ K (.o (.c (.val (.slice (some (if c = l.toNat then a else a.add (l.toNat * wd))) (h.toNat - l.toNat) (c - l.toNat))))) s
    | _ => False
  | .sls x lo hi => getS s.env x fun b => getI s.env (lo.getD (.k (.int .i64 0))) fun _ l => getI s.env (hi.getD (.k (.int .i64 b.size))) fun _ h =>
      (0 ≤ l ∧ l ≤ h ∧ h ≤ b.size) ∧ K (.o (.c (.val (.string (b.extract l.toNat h.toNat))))) s
  | .mn x xs => getI s.env x fun d n => mnF true (.int d n) xs s.env fun v => K (.o (.c (.val v))) s
  | .mx x xs => getI s.env x fun d n => mnF false (.int d n) xs s.env fun v => K (.o (.c (.val v))) s
  | .ext x i => getV s.env x fun a => match a with
    | .t l => (match l[i]? with | some y => K (.o y) s | none => False)
    | _ => False
  | .bld zero parts => mapF .val zero fun z => fillF z parts s.env fun l => K (.o (.a l)) s
  | .mkf g caps => getCs s.env caps fun l => getP l fun ps => K (.o (.c (.clo g ps))) s
  | .mki t x => getC s.env x fun c => match c with
    | .ptr b o => K (.o (.c (.ifc t b o))) s
    | .val y => K (.o (.c (.val (.iface t y)))) s
    | _ => False
  | .st x v n => getC s.env x fun c => get1 s.env v fun a => chk (Nat.beq a.cells.length n) (stn s.H c a.cells fun H => K (.t []) { s with H := H })
  | .call f args => get1s s.env args fun l => CallsA P w0 f l s.H fun r H => K r { s with H := H }
  | .alc T zero => mapF .val zero fun z => pushF (.cells T z) s.H 0 fun id H => K (.o (.c (.ptr id 0))) { s with H := H }
  | .box T x => get1 s.env x fun a => pushF (.cells T a.cells) s.H 0 fun id H => K (.o (.c (.ptr id 0))) { s with H := H }
  | .bsl T wd len zero parts => mapF .val zero fun z => fillF z parts s.env fun l => pushF (.cells T l) s.H 0 fun id H => K (.o (.c (.sli id wd 0 len len))) { s with H := H }
  | .mks T wd bytes zero n c => getI s.env n fun _ n => getI s.env c fun _ c => (0 ≤ n ∧ n ≤ c ∧ c * bytes ≤ 140737488355328 ∧ c ≤ 140737488355328 ∧ 0 < wd) ∧ mapF .val zero fun z => ∃ (α : Type) (e : Enc α) (x : α), (∀ y, (e.f [] y).length = wd) ∧ e.f [] x = z ∧
      pushF (.vec true T e [] wd (List.replicate n.toNat x)) s.H 0 fun id H => K (.o (.c (.vec id n.toNat))) { s with H := H }
  | .app T wd bytes x y => getC s.env x fun c => getC s.env y fun d => match c with
    | .vec b n => (match s.H[b]? with
      | some (.vec wr T' e bs wd' xs) => chk (wr && (Nat.beq T' T && Nat.beq wd' wd)) (n = xs.length ∧ ∃ ys, src w0 s.H e bs wd d ys ∧ (xs ++ ys).length * bytes ≤ 140737488355328 ∧ (xs ++ ys).length ≤ 140737488355328 ∧
          setF b .dead s.H fun H1 => pushF (.vec true T e bs wd (xs ++ ys)) H1 0 fun id H2 => K (.o (.c (.vec id (xs ++ ys).length))) { s with H := H2 })
      | _ => False)
    | .val (.slice none 0 0) => 0 < wd ∧ ∃ (α : Type) (e : Enc α) (bs : List Nat) (ys : List α), (∀ y, (e.f bs y).length = wd) ∧ src w0 s.H e bs wd d ys ∧ ys.length * bytes ≤ 140737488355328 ∧ ys.length ≤ 140737488355328 ∧
          pushF (.vec true T e bs wd ys) s.H 0 fun id H2 => K (.o (.c (.vec id ys.length))) { s with H := H2 }
    | _ => False
  | .cpy wd x y => getC s.env x fun c => getC s.env y fun d => match c with
    | .vec b n => (match s.H[b]? with
      | some (.vec wr T e bs wd' xs) => chk (wr && Nat.beq wd' wd) (n = xs.length ∧ ∃ ys, src w0 s.H e bs wd' d ys ∧ ys.length ≤ n ∧
          setF b (.vec wr T e bs wd' (ys ++ xs.drop ys.length)) s.H fun H => K (.o (.c (.val (.int .i64 ys.length)))) { s with H := H })
      | _ => False)
    | _ => False
  | .s2b T x => getS s.env x fun b => b.size ≤ 140737488355328 ∧ pushF (.vec false T (encI .u8) [] 1 (bytesOf b)) s.H 0 fun id H => K (.o (.c (.vec id (bytesOf b).length))) { s with H := H }
  | .b2s x => getC s.env x fun c => notStr c ∧ ∃ l, src w0 s.H (encI .u8) [] 1 c l ∧ K (.o (.c (.val (.string (strOf l))))) s

def put (s : S) (d : Option Nat) (a : AV) (K : S → Prop) : Prop :=
  match s, d with
  | ⟨e, H⟩, some d => K ⟨(d, a) :: e, H⟩
  | ⟨e, H⟩, none => K ⟨e, H⟩

def evG (P : Program) (w0 : World) (g : G) (s : S) (K : S → Prop) : Prop :=
  match g.gd with
  | none => evI P w0 g.i s fun a s' => put s' g.dst a K
  | some (t, want) => match look s.env t with
    | some (.o (.c (.kb b))) => (match b, want with
      | true, true => evI P w0 g.i s fun a s' => put s' g.dst a K
      | false, false => evI P w0 g.i s fun a s' => put s' g.dst a K
      | true, false => put s g.dst (.t []) K
      | false, true => put s g.dst (.t []) K)
    | some (.o (.c (.val (.bool b)))) => (match want with
      | true => brn b (evI P w0 g.i { s with env := (t, .o (.c (.kb true))) :: s.env } fun a s' => put s' g.dst a K) (put { s with env := (t, .o (.c (.kb false))) :: s.env } g.dst (.t []) K)
      | false => brn b (put { s with env := (t, .o (.c (.kb true))) :: s.env } g.dst (.t []) K) (evI P w0 g.i { s with env := (t, .o (.c (.kb false))) :: s.env } fun a s' => put s' g.dst a K))
    | some (.t []) => put s g.dst (.t []) K
    | _ => False

def evGs1 (P : Program) (w0 : World) (g : G) (_ : List G) (ih : S → (S → Prop) → Prop) (s : S) (K : S → Prop) : Prop := evG P w0 g s fun s' => ih s' K
def evGs (P : Program) (w0 : World) (l : List G) : S → (S → Prop) → Prop := List.rec (motive := fun _ => S → (S → Prop) → Prop) (fun s K => K s) (evGs1 P w0) l
theorem evGs_nil (P : Program) (w0 : World) (s : S) (K : S → Prop) : evGs P w0 [] s K = K s := rfl
theorem evGs_cons (P : Program) (w0 : World) (g : G) (r : List G) (s : S) (K : S → Prop) : evGs P w0 (g :: r) s K = evG P w0 g s fun s' => evGs P w0 r s' K := rfl

/-- What a load read, to be found again. -/
def ldOf (g : G) (s s' : S) : Option (CV × Option Nat × A1) :=
  match g.i, g.dst with
  | .ld x n, some d => match x.get s.env, look s'.env d with
    | some (.o (.c (.val _))), _ => none
    | some (.o (.c c)), some (.o a) => some (c, n, a)
    | _, _ => none
  | _, _ => none

def chkL (w0 : World) (H : List Blk) : List Nat → List (Nat × CV × Option Nat × A1) → Prop
  | [], _ => True
  | i :: r, L => (match L.find? (fun p => Nat.beq p.1 i) with
    | some (_, c, n, a) => ld1 w0 H c n fun b => b = a ∧ a.sure = true
    | none => True) ∧ chkL w0 H r L

def evD1 (P : Program) (w0 : World) (d : DG) (_ : List DG) (ih : List (Nat × CV × Option Nat × A1) → S → (S → Prop) → Prop) (L : List (Nat × CV × Option Nat × A1)) (s : S) (K : S → Prop) : Prop :=
  match d with
  | ⟨g, n, true, _⟩ => evG P w0 g s fun s' => match ldOf g s s' with | some l => ih ((n, l) :: L) s' K | none => ih L s' K
  | ⟨g, _, false, l⟩ => evG P w0 g s fun s' => chkL w0 s'.H l L ∧ ih L s' K
def evD (P : Program) (w0 : World) (l : List DG) : List (Nat × CV × Option Nat × A1) → S → (S → Prop) → Prop :=
  List.rec (motive := fun _ => List (Nat × CV × Option Nat × A1) → S → (S → Prop) → Prop) (fun _ s K => K s) (evD1 P w0) l
theorem evD_nil (P : Program) (w0 : World) (L : List (Nat × CV × Option Nat × A1)) (s : S) (K : S → Prop) : evD P w0 [] L s K = K s := rfl
theorem evD_quiet (P : Program) (w0 : World) (g : G) (n : Nat) (l : List Nat) (r : List DG) (L : List (Nat × CV × Option Nat × A1)) (s : S) (K : S → Prop) :
  evD P w0 (⟨g, n, true, l⟩ :: r) L s K = evG P w0 g s fun s' => evD P w0 r (match ldOf g s s' with | some l => (n, l) :: L | none => L) s' K := by
  show (evG P w0 g s fun s' => match ldOf g s s' with | some l => evD P w0 r ((n, l) :: L) s' K | none => evD P w0 r L s' K) = _
  congr 1
  funext s'
  cases ldOf g s s' <;> rfl
theorem evD_loud (P : Program) (w0 : World) (g : G) (n : Nat) (l : List Nat) (r : List DG) (L : List (Nat × CV × Option Nat × A1)) (s : S) (K : S → Prop) :
  evD P w0 (⟨g, n, false, l⟩ :: r) L s K = evG P w0 g s fun s' => chkL w0 s'.H l L ∧ evD P w0 r L s' K := rfl

/-! ### One state lies in another -/
def embH (σ : List Nat) (H : List Blk) : List Blk → List Nat → Prop
  | [], [] => True
  | .dead :: r, i :: is => i < H.length ∧ embH σ H r is
  | b :: r, i :: is => H[i]? = some (b.ren σ) ∧ (b.ren σ).live = true ∧ embH σ H r is
  | _, _ => False
def liveIds : List Blk → List Nat → List Nat
  | .dead :: r, _ :: is => liveIds r is
  | _ :: r, i :: is => i :: liveIds r is
  | _, _ => []
def nodupB : List Nat → Bool
  | [] => true
  | x :: r => !(r.any (Nat.beq x)) && nodupB r
def embE (σ : List Nat) (e : Env) : Env → Prop
  | [] => True
  | (t, a) :: r => look e t = some (a.ren σ) ∧ embE σ e r
def EmbH (m : Nat) (σ : List Nat) (H0 H : List Blk) : Prop := σ.take m = List.range m ∧ embH σ H H0 σ ∧ nodupB (liveIds H0 σ) = true
def EmbS (m : Nat) (s0 s : S) : Prop := ∃ σ, EmbH m σ s0.H s.H ∧ embE σ s.env s0.env
def Fin (m : Nat) (R : AV → List Blk → Prop) (r : AV) (H : List Blk) : Prop :=
  R r H ∨ ∃ σ r0 H0, EmbH m σ H0 H ∧ r = r0.ren σ ∧ R r0 H0

abbrev Cond := S → (Exit → S → Prop) → Prop
def evSkip : Cond := fun s K => K .normal s
def evReg (P : Program) (w0 : World) (gs : List G) : Cond := fun s K => evGs P w0 gs s (K .normal)
def evDrw (P : Program) (w0 : World) (ds : List DG) : Cond := fun s K => evD P w0 ds [] s (K .normal)
def evThen (b : Cond) (K : Exit → S → Prop) (e : Exit) (s : S) : Prop := match e with
  | .normal => b s K
  | .exit id => K (.exit id) s
  | .goto l => K (.goto l) s
  | .ret => K .ret s
  | .panic c => K (.panic c) s
  | .outgrown => K .outgrown s
def evSeq (_ _ : IC) (a b : Cond) : Cond := fun s K => a s (evThen b K)
def evCut (m : Nat) (_ _ : IC) (a b : Cond) : Cond := fun s K => a s (evThen b K) ∨
    ∃ (ι : Type) (st : ι → S), (a s (evThen (fun s' _ => ∃ j, EmbS m (st j) s') K)) ∧ ∀ j, b (st j) K
def evIf (c : X) (_ _ : IC) (a b : Cond) : Cond := fun s K => getBr s.env c (a s K) (b s K)
def evOut (id : Nat) (K : Exit → S → Prop) (e : Exit) (s : S) : Prop := match e with
  | .exit id' => bif Nat.beq id' id then K .normal s else K (.exit id') s
  | .normal => K .normal s
  | .goto l => K (.goto l) s
  | .ret => K .ret s
  | .panic c => K (.panic c) s
  | .outgrown => K .outgrown s
def evBlock (id : Nat) (_ : IC) (c : Cond) : Cond := fun s K => c s (evOut id K)
def evLoop (m : Nat) (_ : IC) (c : Cond) : Cond := fun s K => ∃ (ι : Type) (st : ι → S) (μ : ι → Nat), (∃ j, EmbS m (st j) s) ∧ ∀ j, c (st j) (evThen (fun s' _ => ∃ j', EmbS m (st j') s' ∧ μ j' < μ j) K)
def evExit (id : Nat) : Cond := fun s K => K (.exit id) s
def evRet : Cond := fun s K => K .ret s
/-- What is asked of a piece of code; 'm' blocks were there at the function's start. -/
def evC (P : Program) (w0 : World) (m : Nat) (c : IC) : Cond :=
  IC.rec (motive := fun _ => Cond) evSkip (evReg P w0) (evDrw P w0) evSeq (evCut m) evIf evBlock (evLoop m) evExit evRet c

inductive IR where
  | t (n : Nat)
  | cell (a : Nat) (n : Option Nat)

structure IFn where
  code : IC
  np : Nat
  res : List IR

def resF (w0 : World) (s : S) : List IR → (List A1 → Prop) → Prop
  | [], k => k []
  | .t n :: r, k => get1 s.env (.t n) fun a => resF w0 s r fun l => k (a :: l)
  | .cell a n :: r, k => getC s.env (.t a) fun c => ld1 w0 s.H c n fun a => resF w0 s r fun l => k (a :: l)
def resV : List A1 → AV
  | [x] => .o x
  | l => .t l

def envF : Nat → List A1 → (Env → Prop) → Prop
  | _, [], k => k []
  | n, x :: r, k => envF (n + 1) r fun e => k ((n, .o x) :: e)

def evEnd (w0 : World) (m : Nat) (res : List IR) (R : AV → List Blk → Prop) (e : Exit) (s : S) : Prop := match e with
  | .normal => resF w0 s res fun l => Fin m R (resV l) s.H
  | .ret => resF w0 s res fun l => Fin m R (resV l) s.H
  | _ => False
def evF (P : Program) (w0 : World) (F : IFn) (args : List A1) (H : List Blk) (R : AV → List Blk → Prop) : Prop :=
  match F with
  | ⟨code, np, res⟩ => chk (Nat.beq args.length np) (envF 0 args fun e => evC P w0 H.length code ⟨e, H⟩ (evEnd w0 H.length res R))
end Go.Vc
