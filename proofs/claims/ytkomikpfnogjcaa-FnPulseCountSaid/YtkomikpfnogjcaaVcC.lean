/- From the model's code to instructions: a function that is reckoned by the kernel, once for each function of the program. -/
import Derived.Test.YtkomikpfnogjcaaVcB
namespace Go.Vc

def compX : Operand → Option X
  | .tmp t => some (.t t)
  | .const v => if v.oneCell' then some (.k v) else none
  | .global g => some (.k (.pointer (some ⟨g, 0, none⟩)))
  | .func f => some (.k (.func (.func f) #[] #[]))
def compXs : List Operand → Option (List X)
  | [] => some []
  | x :: r => match compX x, compXs r with
    | some y, some l => some (y :: l)
    | _, _ => none
def sizeT (P : Program) (t : TypeId) : Option Nat := (P.info? t).map (·.size)
def bytesT (P : Program) (t : TypeId) : Option Nat := (P.info? t).map (·.bytes)
def zeroT (P : Program) (t : TypeId) : Option (List Value) := match (P.info? t).bind (·.zero) with
  | some z => if z.cells.toList.all (·.oneCell') then some z.cells.toList else none
  | none => none
def aggT (P : Program) (t : TypeId) : Option (Option Nat) := match P.underlying t with
  | some (.struct _) => (sizeT P t).map some
  | some (.array _ _) => (sizeT P t).map some
  | some _ => some none
  | none => none
def compParts (place : Nat → Option (Nat × Nat)) : List (Nat × Operand) → Option (List (Nat × Nat × X))
  | [] => some []
  | (i, x) :: r => match place i, compX x, compParts place r with
    | some (o, n), some y, some l => some ((o, n, y) :: l)
    | _, _, _ => none
def placesOf (P : Program) : List Field → Option (List (Nat × Nat))
  | [] => some []
  | f :: r => match sizeT P f.type, placesOf P r with
    | some n, some l => some ((f.offset, n) :: l)
    | _, _ => none
def optX : Option Operand → Option (Option X)
  | none => some none
  | some x => (compX x).map some

def srcT : TypeDesc → Bool
  | .slice _ => true
  | .string => true
  | _ => false

def compCall (P : Program) (c : Call) : Option I :=
  match c.callee with
  | .value (.func f) => (compXs c.args.toList).map (.call f)
  | .builtin .len => match c.args.toList, c.argTypes.toList with
    | [x], [t] => (match P.underlying t with
      | some .string => (compX x).map (.len true)
      | some (.slice _) => (compX x).map (.len false)
      | _ => none)
    | _, _ => none
  | .builtin .min => match compXs c.args.toList with
    | some (x :: l) => some (.mn x l)
    | _ => none
  | .builtin .max => match compXs c.args.toList with
    | some (x :: l) => some (.mx x l)
    | _ => none
  | .builtin .append => match c.args.toList, c.argTypes.toList with
    | [x, y], [t, u] => (match P.underlying t, P.underlying u, compX x, compX y with
      | some (.slice e), some d, some x, some y => if srcT d then (match sizeT P e, bytesT P e, zeroT P e with
        | some wd, some by', some z => if z.length = wd then some (.app e wd by' x y) else none
        | _, _, _ => none) else none
      | _, _, _, _ => none)
    | _, _ => none
  | .builtin .copy => match c.args.toList, c.argTypes.toList with
    | [x, y], t :: _ => (match P.underlying t, compX x, compX y with
      | some (.slice e), some x, some y => (sizeT P e).map fun wd => .cpy wd x y
      | _, _, _ => none)
    | _, _ => none
  | _ => none

def compI (P : Program) (o : Oper) : Option I :=
  match o.op with
  | .move x => (compX x).map .mov
  | .assign x => (compX x).map .mov
  | .nilCheck x => (compX x).map .nil
  | .fieldAddr s x f => match P.underlying s, compX x with
    | some (.struct fs), some y => (match fs[f]? with
      | some fd => (match sizeT P fd.type with
        | some n => if n = 0 then none else some (.ffa y fd.offset)
        | none => none)
      | none => none)
    | _, _ => none
  | .field t x f => match P.underlying t, compX x with
    | some (.struct fs), some y => (match fs[f]? with
      | some fd => (aggT P fd.type).map fun n => .fld y fd.offset n
      | none => none)
    | _, _ => none
  | .load t a => match aggT P t, compX a with
    | some n, some y => some (.ld y n)
    | _, _ => none
  | .store t a v => match sizeT P t, compX a, compX v with
    | some n, some y, some z => some (.st y z n)
    | _, _, _ => none
  | .pick c a b => match compX c, compX a, compX b with
    | some c, some a, some b => some (.pick c a b)
    | _, _, _ => none
  | .binOp op t x y _ => match P.underlying t, compX x, compX y with
    | some .bool, some x, some y => (match op with
      | .eql => some (.beq false x y)
      | .neq => some (.beq true x y)
      | _ => none)
    | some _, some x, some y => (match op, y with
      | .quo, .k (.int d (.ofNat (n + 1))) => some (.bik op d x (n + 1))
      | .rem, .k (.int d (.ofNat (n + 1))) => some (.bik op d x (n + 1))
      | .shl, .k (.int d (.ofNat n)) => some (.bik op d x n)
      | .shr, .k (.int d (.ofNat n)) => some (.bik op d x n)
      | _, _ => some (.bin op x y))
    | _, _, _ => none
  | .unOp op _ x => (compX x).map (.un op)
  | .convert src dst x => match P.underlying src, P.underlying dst, compX x with
    | some (.int _), some (.int k), some y => some (.cvi k y)
    | some .string, some (.slice e), some y => (match P.underlying e with
      | some (.int .u8) => some (.s2b e y)
      | _ => none)
    | some (.slice e), some .string, some y => (match P.underlying e with
      | some (.int .u8) => some (.b2s y)
      | _ => none)
    | some .string, some .string, some y => some (.cps y)
    | _, _, _ => none
  | .indexAddr t x i => match P.underlying t, compX x, compX i with
    | some (.slice e), some y, some z => (sizeT P e).map fun wd => .ia y z wd
    | _, _, _ => none
  | .index t x i => match P.underlying t, compX x, compX i with
    | some .string, some y, some z => some (.si y z)
    | _, _, _ => none
  | .slice t x lo hi none => match P.underlying t, compX x, optX lo, optX hi with
    | some (.slice e), some y, some l, some h => (sizeT P e).map fun wd => .slc y l h wd
    | some .string, some y, some l, some h => some (.sls y l h)
    | _, _, _, _ => none
  | .makeInterface t x => match P.underlying t, compX x with
    | some (.interface _), _ => none
    | some _, some y => some (.mki t y)
    | _, _ => none
  | .makeFunc (.func g) first caps => if first.size = 0 then (compXs caps.toList).map (.mkf g) else none
  | .extract x i => (compX x).map fun y => .ext y i
  | .call c => compCall P c
  | .alloc t => (zeroT P t).map (.alc t)
  | .box t x => (compX x).map (.box t)
  | .build t ps => match P.underlying t, zeroT P t with
    | some (.struct fs), some z => (match placesOf P fs.toList with
      | some pl => (compParts (pl[·]?) ps.toList).map (.bld z)
      | none => none)
    | some (.array _ e), some z => (match sizeT P e with
      | some n => (compParts (fun i => some (i * n, n)) ps.toList).map (.bld z)
      | none => none)
    | _, _ => none
  | .buildSlice t len ps => match P.underlying t with
    | some (.slice e) => (match sizeT P e, zeroT P e with
      | some n, some z => if n = 0 ∨ z.length ≠ n ∨ len = 0 ∨ len * n > 16777216 then none else (compParts (fun i => some (i * n, n)) ps.toList).map (.bsl e n len ((List.replicate len z).flatten))
      | _, _ => none)
    | _ => none
  | .makeSlice t l c => match P.underlying t, compX l, compX c with
    | some (.slice e), some x, some y => (match sizeT P e, bytesT P e, zeroT P e with
      | some wd, some by', some z => if z.length = wd then some (.mks e wd by' z x y) else none
      | _, _, _ => none)
    | _, _, _ => none
  | _ => none

def I.quiet : I → Bool
  | .slc .. | .st .. | .call .. | .alc .. | .box .. | .bsl .. | .mks .. | .app .. | .cpy .. | .s2b .. | .b2s .. => false
  | _ => true
def I.isLd : I → Bool
  | .ld .. => true
  | _ => false

def dstOk (N : Nat) : Option Nat → Bool
  | some d => Nat.blt d N
  | none => true
def compG (P : Program) (N : Nat) (ops : Array Oper) (o : Oper) : Option G :=
  match compI P o with
  | none => none
  | some i =>
    if dstOk N o.dst then
      match o.guard with
      | none => some ⟨o.dst, none, i⟩
      | some (j, want) => (match (ops[j]?).bind (·.dst) with
        | some t => some ⟨o.dst, some (t, want), i⟩
        | none => none)
    else none

def compGs (P : Program) (N : Nat) (ops : Array Oper) : List Oper → Option (List G)
  | [] => some []
  | o :: r => match compG P N ops o, compGs P N ops r with
    | some g, some l => some (g :: l)
    | _, _ => none

def quietAt (P : Program) (N : Nat) (ops : Array Oper) (listed : Array Bool) (i : Nat) : Bool :=
  (match (ops[i]?).bind (compG P N ops) with | some g => g.i.quiet && (!g.i.isLd || g.dst.isSome) | none => false) && Region.free .any ops listed i

def planD (P : Program) (N : Nat) (ops : Array Oper) : Nat → Array Bool → List Nat → Option (List DG)
  | 0, listed, _ => if Region.ready .any ops listed = [] then some [] else none
  | n + 1, listed, tk =>
    match (Region.ready .any ops listed).find? (quietAt P N ops listed) with
    | some i => (match (ops[i]?).bind (compG P N ops) with
      | some g => (planD P N ops n (listed.setIfInBounds i true) (if g.i.isLd then i :: tk else tk)).map (⟨g, i, true, []⟩ :: ·)
      | none => none)
    | none => (match Region.ready .any ops listed with
      | [] => some []
      | [j] => (match (ops[j]?).bind (compG P N ops) with
        | some g => let tk' := tk.filter fun i => !waitsN .any ops ops.size j i
          (planD P N ops n (listed.setIfInBounds j true) tk').map (⟨g, j, false, tk'⟩ :: ·)
        | none => none)
      | _ => none)

def compReg (P : Program) (N : Nat) (ops : Array Oper) (draw : Bool) : Option IC :=
  if draw then
    if P.follows .mixedOrders && Region.noSelect ops then (planD P N ops ops.size (Array.replicate ops.size false) []).map .drw else none
  else (compGs P N ops ops.toList).map .reg

/-- Does a piece of code branch and go on? Then what follows may be cut off. -/
def IC.forks : IC → Bool
  | .seq a b => a.forks || b.forks
  | .cut a b => a.forks || b.forks
  | .cond .. => true
  | .block _ c => c.forks
  | .loop _ => true
  | _ => false
def IC.guard : IC → Bool
  | .cond _ .skip (.exit _) => true
  | .cond _ _ .ret => true
  | .seq _ b => b.guard
  | .cut _ b => b.guard
  | _ => false

def compC (P : Program) (N : Nat) : Code → Option IC
  | .skip => some .skip
  | .region _ ops draw => compReg P N ops draw
  | .seq a b => match compC P N a, compC P N b with
    | some x, some y => some (if x.forks && !x.guard then .cut x y else .seq x y)
    | _, _ => none
  | .cond c a b => match compX c, compC P N a, compC P N b with
    | some t, some x, some y => some (.cond t x y)
    | _, _, _ => none
  | .block id c => (compC P N c).map (.block id)
  | .loop c => (compC P N c).map .loop
  | .exit id => some (.exit id)
  | .ret => some .ret
  | _ => none

def compRes (P : Program) : List ResultVar → Option (List IR)
  | [] => some []
  | .tmp t :: r => (compRes P r).map (.t t :: ·)
  | .cell a t :: r => match aggT P t, compRes P r with
    | some n, some l => some (.cell a n :: l)
    | _, _ => none

def compF (P : Program) (f : FuncId) : Option IFn :=
  match P.funcs[f]? with
  | none => none
  | some fn => match fn.body with
    | none => none
    | some c => if fn.name == "runtime.NumGoroutine" then none else
      match compC P fn.ntmps c, compRes P fn.results.toList with
      | some ic, some rs => if fn.params.size + fn.nfree ≤ fn.ntmps then some ⟨ic, fn.params.size + fn.nfree, rs⟩ else none
      | _, _ => none
end Go.Vc
