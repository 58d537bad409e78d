/- The abstract interpreter: the code made ready (its types asked, the ways of use told), operations, regions, code, calls. -/
import Derived.Lib.Bytealg
import Derived.Laws.Cover4
import Derived.Laws.IdiomStrings
import Derived.Test.YtjlioidknhdceaaDoorA1
namespace Go.Proofs.YtjlioidknhdceaaDoor.Abs
set_option linter.all false

def tooLong : Nat := 140737488355328

inductive AX where
  | t (n : Nat)
  | m (n : Nat)
  | u (n : Nat)
  | f (n : Nat)
  | p (n : Nat)
  | c (v : AV)
  deriving Inhabited

def AX.isU : AX → Bool
  | .u _ => true
  | _ => false

inductive XOp where
  | ixArr (n sz : Nat)
  | slArr (n e sz : Nat)
  | ixAgg (agg : Bool) (n m sz : Nat)
  | tassert (t : TypeId) (z : AV) (ok : Bool)
  | tassertI (z : AV) (ok : Bool) (yes no : List TypeId)
  | minmax (mx : Bool)
  | fb (k : Nat)
  | eqArr (neg : Bool) (n : Nat) (k : IntKind)
  | idxB
  | rStr
  deriving Inhabited

inductive AOp where
  | move (m : Mode) (x : AX)
  | assign (x : AX)
  | pick (c a b : AX)
  | newbox (d : Nat) (cs : List AV)
  | newbox1 (d : Nat) (cs : List AV)
  | newobj (cs : List AV)
  | box (d : Nat) (x : AX)
  | boxobj (x : AX)
  | build (z : List AV) (parts : List (Nat × Nat × AX))
  | buildSl (e sz : Nat) (z : List AV) (parts : List (Nat × Nat × AX))
  | load (m : Mode) (agg : Bool) (n : Nat) (x : AX)
  | store (n : Nat) (x y : AX)
  | nilCheck (x : AX)
  | bin (op : BinOp) (kd : Nat) (lit : Bool) (x y : AX)
  | un (op : UnOp) (x : AX)
  | convInt (k : IntKind) (x : AX)
  | convBS (x : AX)
  | convSB (e : Nat) (x : AX)
  | convSS (x : AX)
  | convSR (e : Nat) (x : AX)
  | mkIface (t : TypeId) (x : AX)
  | sliceStr (x : AX) (lo hi : Option AX)
  | sliceSl (sz : Nat) (x : AX) (lo hi : Option AX)
  | fieldAddr (off : Nat) (x : AX)
  | field (agg : Bool) (n off : Nat) (x : AX)
  | indexAddr (sz : Nat) (x i : AX)
  | indexStr (x i : AX)
  | extract (t i : Nat)
  | len (str : Bool) (x : AX)
  | cap (x : AX)
  | append (e sz bytes : Nat) (str : Bool) (x y : AX)
  | range (d : Nat) (x : AX)
  | next (x : AX)
  | mkSl (obj : Bool) (e sz bytes : Nat) (z : List AV) (x c : AX)
  | copyB (sz : Nat) (str : Bool) (x y : AX)
  | px (o : XOp) (args : List AX)
  | dcall (hc : Bool) (tbl : Option (List (TypeId × FuncId))) (x : AX) (args : List (AX × Bool))
  | call (f : FuncId) (args : List (AX × Bool))
  | hcall (f : FuncId) (args : List (AX × Bool))
  | dead
  deriving Inhabited

structure AOper where
  op : AOp
  dst : Option Nat
  guard : Option (Nat × Bool)
  deriving Inhabited

def AX.slots : AX → List Nat
  | .t n => [n]
  | .m n => [n]
  | .u n => [n]
  | .f n => [n]
  | .p n => [n]
  | .c _ => []
def AOp.foot : AOp → Option (List Nat)
  | .move _ x => some x.slots
  | .assign x => some x.slots
  | .nilCheck x => some x.slots
  | .bin _ _ _ x y => some (x.slots ++ y.slots)
  | .un _ x => some x.slots
  | .convInt _ x => some x.slots
  | .convBS x => some x.slots
  | .convSS x => some x.slots
  | .convSB _ x => some x.slots
  | .convSR _ x => some x.slots
  | .mkIface _ x => some x.slots
  | .fieldAddr _ x => some x.slots
  | .field _ _ _ x => some x.slots
  | .len _ x => some x.slots
  | .indexStr x i => some (x.slots ++ i.slots)
  | .append _ _ _ _ x y => some (x.slots ++ y.slots)
  | .build _ parts => some (parts.flatMap fun q => q.2.2.slots)
  | .buildSl _ _ _ parts => some (parts.flatMap fun q => q.2.2.slots)
  | .call _ args => some (args.flatMap fun q => q.1.slots)
  | .mkSl false _ _ _ _ x c => some (x.slots ++ c.slots)
  | .px (.minmax _) args => some (args.flatMap AX.slots)
  | .px (.fb _) args => some (args.flatMap AX.slots)
  | .px (.eqArr ..) args => some (args.flatMap AX.slots)
  | .px .idxB args => some (args.flatMap AX.slots)
  | .px .rStr args => some (args.flatMap AX.slots)
  | .px (.ixAgg ..) args => some (args.flatMap AX.slots)
  | .px (.tassert ..) args => some (args.flatMap AX.slots)
  | .px (.tassertI ..) args => some (args.flatMap AX.slots)
  | .extract t _ => some [t]
  | _ => none

def AX.still : AX → Bool
  | .m _ => false
  | .u _ => false
  | .f _ => false
  | _ => true
def AOp.still : AOp → Bool
  | .move _ x => x.still
  | .assign x => x.still
  | .convBS x => x.still
  | .mkIface _ x => x.still
  | .append _ _ _ _ x _ => x.still
  | .build _ parts => parts.all fun q => q.2.2.still
  | .buildSl _ _ _ parts => parts.all fun q => q.2.2.still
  | .call _ args => args.all fun q => q.1.still
  | _ => true

def swapOk (x y : AOper) : Bool :=
  match x.guard, y.guard, x.dst, y.dst, x.op.foot, y.op.foot with
  | none, none, some dx, some dy, some fx, some fy => x.op.still && y.op.still && ((dx :: fx).all fun m => !(dy :: fy).contains m)
  | _, _, _, _, _, _ => false

inductive ACode where
  | skip
  | ops (l : List AOper) (k : ACode)
  | seq (a k : ACode)
  | cond (c : AX) (a b : ACode)
  | block (id : Nat) (a : ACode)
  | loop (a : ACode)
  | exit (id : Nat)
  | ret
  deriving Inhabited

inductive ARes where
  | tmp (t : Nat)
  | cell (t : Nat) (agg : Bool) (n : Nat)
  deriving Inhabited

structure AFunc where
  n : Nat
  code : ACode
  res : List ARes
  x : List AV → H → Option (T (AV × H))
  deriving Inhabited

/-! ### Making ready -/
section
variable (P : Program) (sig : FuncId → Nat → Nat) (hs : Nat → Nat)

def pX (own : Bool) : Operand → Option AX
  | .tmp t => some (if own then .t t else .p t)
  | .const v => (ofConst v).map .c
  | .func f => some (.c (.fn f))
  | .global g => some (.c (.gl g))

def pXm (m : Nat) (own : Bool) (x : Operand) : Option AX :=
  match m, x with
  | 1, .tmp t => some (.m t)
  | 2, .tmp t => some (.u t)
  | 3, .tmp t => some (.f t)
  | _, x => pX own x

def pOpt : Option Operand → Option (Option AX)
  | none => some none
  | some x => (pX false x).map some

def pParts (place : Nat → Option (Nat × Nat × Bool)) : List (Nat × Operand) → Option (List (Nat × Nat × AX))
  | [] => some []
  | (i, x) :: r => (place i).bind fun (off, n, w) => (pX w x).bind fun a => (pParts place r).map fun l => (off, n, a) :: l

def pArgs (f : FuncId) : Nat → List Operand → List TypeId → Option (List (AX × Bool))
  | _, [], _ => some []
  | i, x :: r, ts => (pXm (sig f i - 1) (towns P (ts.headD 0)) x).bind fun a => (pArgs f (i + 1) r ts.tail).map fun l => (a, sig f i % 2 == 1) :: l

def repCells (n : Nat) (z : List AV) : List AV := (List.replicate n z).flatten

def hsOf (hs : Nat → Nat) : Option Nat → Nat
  | none => 0
  | some d => hs d

def isLit : Operand → Bool
  | .const _ => true
  | _ => false

def zeroByte (e : TypeId) : Bool :=
  match tzero P e with
  | some (.int .u8 0) => true
  | _ => false

def pOp0 (all : List Oper) (o : Oper) : Option AOp :=
  match o.op with
  | .move x => if hsOf hs o.dst = 7 then (pXm 2 true x).map .assign else (pXm (hsOf hs o.dst) (towns P o.type) x).map (.move (if hsOf hs o.dst = 5 then .look else modeOf sig all o.dst))
  | .assign x => (pX (towns P o.type) x).map .assign
  | .pick c a b => (pX false c).bind fun c => (pX (towns P o.type) a).bind fun a => (pX (towns P o.type) b).map fun b => .pick c a b
  | .alloc t => o.dst.bind fun d => (tzero P t).map fun z => if hs d = 4 then .newbox1 d z.cells else if hs d ≠ 0 then .newobj z.cells else .newbox d z.cells
  | .box t x => o.dst.bind fun d => (pX (towns P t) x).map fun a => if hs d ≠ 0 then .boxobj a else .box d a
  | .build t parts => (tzero P t).bind fun z => if tkind P t = some 6 then
      (tplaces P t).bind fun pl => (pParts (fun i => (pl[i]?).map fun q => (q.1, q.2.1, q.2.2)) parts.toList).map (.build z.cells) else none
  | .buildSlice t n parts => (telem P t).bind fun (e, sz, _) => (tzero P e).bind fun z => if n * sz ≤ 65536 ∧ z.cells.length = sz then
      (pParts (fun i => some (i * sz, sz, towns P e)) parts.toList).map (.buildSl e sz (repCells n z.cells)) else none
  | .load t x => (tagg P t).bind fun a => (tsize P t).bind fun n => (pX false x).map (.load (modeOf sig all o.dst) a n)
  | .store t x y => (tsize P t).bind fun n => (pX false x).bind fun x => (pX (towns P t) y).map (.store n x)
  | .nilCheck x => (pX false x).map .nilCheck
  | .binOp op t x y _ => (tkind P t).bind fun kd => (pX false x).bind fun a => (pX false y).map fun b => .bin op kd (isLit x || isLit y) a b
  | .unOp op _ x => (pX false x).map (.un op)
  | .convert s d x => match tkind P s, tkind P d with
    | some 1, some 1 => (pX false x).bind fun a => (tint P d).map fun k => .convInt k a
    | some 3, some 2 => (pX true x).bind fun a => (telem P s).bind fun (e, sz, _) => if sz = 1 ∧ tint P e = some .u8 then some (.convBS a) else none
    | some 2, some 3 => (pX false x).bind fun a => (telem P d).bind fun (e, sz, _) => if sz = 1 ∧ tint P e = some .u8 then some (.convSB e a) else none
    | some 2, some 2 => (pX false x).bind fun a => some (.convSS a)
    | _, _ => none
  | .makeInterface t x => (tkind P t).bind fun kd => if kd = 5 then none else (pX (towns P t) x).map (.mkIface t)
  | .slice t x lo hi none => (pOpt lo).bind fun lo => (pOpt hi).bind fun hi => match tkind P t with
    | some 2 => (pX false x).bind fun a => some (.sliceStr a lo hi)
    | some 3 => (pXm (hsOf hs o.dst) true x).bind fun a => (telem P t).map fun (_, sz, _) => .sliceSl sz a lo hi
    | _ => none
  | .fieldAddr t x i => (foff P t i).bind fun (off, u) => (tsize P u).bind fun n => if n = 0 then none else (pX false x).map (.fieldAddr off)
  | .field t x i => (foff P t i).bind fun (off, u) => (tagg P u).bind fun a => (tsize P u).bind fun n => (pX false x).map (.field a n off)
  | .indexAddr t x i => (telem P t).bind fun (_, sz, _) => (pXm (hsOf hs o.dst) true x).bind fun a => (pX false i).map (.indexAddr sz a)
  | .index t x i => if tkind P t = some 2 then (pX false x).bind fun a => (pX false i).map (.indexStr a) else none
  | .extract (.tmp t) i => some (.extract t i)
  | .call { callee := .builtin .len, args, argTypes } => (match args.toList, argTypes.toList with
    | [x], [t] => (tkind P t).bind fun kd => if kd = 2 then (pX false x).map (.len true) else if kd = 3 then (pX false x).map (.len false) else none
    | _, _ => none)
  | .call { callee := .builtin .append, args, argTypes } => (match args.toList, argTypes.toList with
    | [x, y], [t, u] => (telem P t).bind fun (e, sz, bytes) => (pXm (hsOf hs o.dst) true x).bind fun a => (pX false y).bind fun b =>
      if t = u then some (.append e sz bytes false a b) else if sz = 1 ∧ bytes = 1 ∧ tkind P u = some 2 ∧ tint P e = some .u8 ∧ zeroByte P e = true then some (.append e sz bytes true a b) else none
    | _, _ => none)
  | .range t x => o.dst.bind fun d => if tkind P t = some 2 then (pX false x).map (.range d) else none
  | .next x true => (pX false x).map .next
  | .makeSlice t x c => (telem P t).bind fun (e, sz, bytes) => (tzero P e).bind fun z => if z.cells.length = sz then (pX false x).bind fun x => (pX false c).map fun c => .mkSl (hsOf hs o.dst != 0) e sz bytes z.cells x c else none
  | .call { callee := .builtin .copy, args, argTypes } => (match args.toList, argTypes.toList with
    | [x, y], [t, u] => (telem P t).bind fun (e, sz, _) => (pXm 1 true x).bind fun a => (pX false y).bind fun b =>
      if t = u then some (.copyB sz false a b) else if sz = 1 ∧ tkind P u = some 2 ∧ tint P e = some .u8 then some (.copyB sz true a b) else none
    | _, _ => none)
  | .call { callee := .value (.func f), args, argTypes } => (pArgs P sig f 0 args.toList argTypes.toList).map fun l => if sig f 99 == 1 || hsOf hs o.dst == 6 then .hcall f l else .call f l
  | _ => none

def extOf (fn : Func) : Option Nat :=
  if fn.body.isNone && fn.origin == "" then
    if fn.name == "math.Float64bits" then some 0 else if fn.name == "math.Float64frombits" then some 1 else if fn.name == "math.Float32bits" then some 2 else if fn.name == "math.Float32frombits" then some 3 else if fn.name == "internal/bytealg.IndexByte" then some 4 else none
  else none
def pOp1 (o : Oper) : Option AOp :=
  match o.op with
  | .indexAddr t x i => (tarr P t).bind fun (n, _, sz) => (pX false x).bind fun a => (pX false i).map fun b => .px (.ixArr n sz) [a, b]
  | .slice t x lo hi none => (tarr P t).bind fun (n, e, sz) => if sz = 0 then none else (pX false x).bind fun a => (pOpt lo).bind fun lo => (pOpt hi).map fun hi =>
      .px (.slArr n e sz) [a, lo.getD (.c (.int .i64 0)), hi.getD (.c (.int .i64 n))]
  | .index t x i => (tarr P t).bind fun (n, e, sz) => (tagg P e).bind fun ag => (pX false x).bind fun a => (pX false i).map fun b => .px (.ixAgg ag n sz sz) [a, b]
  | .typeAssert x _ t ok => (tkind P t).bind fun kd => (tzero P t).bind fun z => (pX false x).bind fun a =>
      if kd = 5 then (tmeths P t).map fun ms => .px (.tassertI z ok (implBy P ms) (implNot P ms)) [a] else some (.px (.tassert t z ok) [a])
  | .call { callee := .builtin .min, args, argTypes } => (match args.toList, argTypes.toList with
    | [x, y], [t, _] => if tkind P t = some 1 then (pX false x).bind fun a => (pX false y).map fun b => .px (.minmax false) [a, b] else none
    | _, _ => none)
  | .call { callee := .builtin .max, args, argTypes } => (match args.toList, argTypes.toList with
    | [x, y], [t, _] => if tkind P t = some 1 then (pX false x).bind fun a => (pX false y).map fun b => .px (.minmax true) [a, b] else none
    | _, _ => none)
  | .build t parts => (tarr P t).bind fun (_, _, sz) => (tzero P t).bind fun z =>
      (pParts (fun i => some (i * sz, sz, false)) parts.toList).map (.build z.cells)
  | .call { callee := .builtin .cap, args, argTypes } => (match args.toList, argTypes.toList with
    | [x], [t] => if tkind P t = some 3 then (pX false x).map .cap else none
    | _, _ => none)
  | .call { callee := .value (.tmp f), args, argTypes } => (pArgs P (fun _ _ => 0) 0 0 args.toList argTypes.toList).map fun l => .dcall (hsOf hs o.dst == 3) none (.p f) l
  | .call { callee := .value (.func f), args, argTypes := _ } => (P.funcs[f]?).bind fun fn => (extOf fn).bind fun k => (match args.toList with
    | [x] => (pX false x).map fun a => .px (.fb k) [a]
    | [x, y] => if k = 4 then (pX false x).bind fun a => (pX false y).map fun b => .px .idxB [a, b] else none
    | _ => none)
  | .binOp op t x y _ => (tarr P t).bind fun (n, e, sz) => (tint P e).bind fun k => if sz = 1 ∧ P.eqGuardType P.depth t = false then
      (match op with
      | .eql => (pX false x).bind fun a => (pX false y).map fun b => .px (.eqArr false n k) [a, b]
      | .neq => (pX false x).bind fun a => (pX false y).map fun b => .px (.eqArr true n k) [a, b]
      | _ => none) else none
  | .convert s d x => (match tkind P s, tkind P d with
    | some 3, some 2 => (telem P s).bind fun (e, sz, _) => if sz = 1 ∧ tint P e = some .i32 then (pX false x).map fun a => .px .rStr [a] else none
    | some 2, some 3 => (telem P d).bind fun (e, sz, _) => if sz = 1 ∧ tint P e = some .i32 then (pX false x).map (.convSR e) else none
    | _, _ => none)
  | _ => none

def pOpA (all : List Oper) (o : Oper) : Option AOp :=
  match pOp1 P hs o with
  | some x => some x
  | none => pOp0 P sig hs all o

def pOp (all : List Oper) (o : Oper) : AOp := (pOpA P sig hs all o).getD .dead

def dstIn (n : Nat) : Option Nat → Bool
  | none => true
  | some d => decide (d < n)

def pOper (n : Nat) (all : List Oper) (o : Oper) : Option AOper :=
  if dstIn n o.dst then
    match o.guard with
    | none => some ⟨pOp P sig hs all o, o.dst, none⟩
    | some (j, want) => ((all[j]?).bind (·.dst)).map fun d => ⟨pOp P sig hs all o, o.dst, some (d, want)⟩
  else none

def pOpers (n : Nat) (all : List Oper) : List Oper → Option (List AOper)
  | [] => some []
  | o :: r => (pOper P sig hs n all o).bind fun a => (pOpers n all r).map (a :: ·)

def boxOk (x y : AOper) : Bool :=
  match y.op, y.guard, y.dst, x.guard, x.dst, x.op.foot with
  | .newbox1 d _, none, some d', none, some dx, some fx => d' == d && x.op.still && !(dx == d) && !fx.contains d
  | _, _, _, _, _, _ => false

/-! A region whose order is left open: one order, of which the soundness shows that it stands for all. -/

def AOp.early : AOp → Bool
  | .assign x => !x.isU
  | .move .. | .pick .. | .load .. | .nilCheck _ | .bin .. | .un .. | .convInt .. | .convBS _ | .convSS _ | .mkIface .. | .sliceStr .. | .sliceSl .. | .fieldAddr .. | .field .. | .indexAddr ..
  | .indexStr .. | .extract .. | .len .. | .px .. => true
  | _ => false
def AOp.pure : AOp → Bool
  | .load _ _ _ (.c (.gl _)) => true
  | .load .. => false
  | .convBS _ => false
  | .px .idxB _ => false
  | .px .rStr _ => false
  | x => x.early
def AOp.calm : AOp → Bool
  | .mkSl obj _ _ _ _ _ _ => !obj
  | .append _ _ _ _ x _ => !x.isU
  | .call _ args => args.all fun q => !q.1.isU
  | .buildSl .. | .build .. | .convSB .. | .convSR .. | .newbox1 .. | .dead => true
  | _ => false

def isSelect (o : Oper) : Bool :=
  match o.op with
  | .select .. => true
  | _ => false

def freeAt (ops : Array Oper) (listed : Array Bool) (i : Nat) (oi : Oper) : Bool :=
  (List.range ops.size).all fun j => j == i || listed.getD j true || (match ops[j]? with
    | none => true
    | some oj => oj.after.any (fun e => Region.binds .any e && e.on == i) || oi.apart ops oj)

def bubble (ops : Array Oper) (j : Nat) : List Nat → Option (List Nat)
  | [] => none
  | m :: t => if m = j then some t else
    match ops[m]?, ops[j]? with
    | some om, some oj => if om.guard.isNone && oj.guard.isNone && (swapOk ⟨pOp P sig hs ops.toList om, om.dst, none⟩ ⟨pOp P sig hs ops.toList oj, oj.dst, none⟩ || boxOk ⟨pOp P sig hs ops.toList om, om.dst, none⟩ ⟨pOp P sig hs ops.toList oj, oj.dst, none⟩) then (bubble ops j t).map (m :: ·) else none
    | _, _ => none

def waitsFor (ops : Array Oper) (i : Nat) : List Bool :=
  ops.toList.foldl (fun acc o => acc ++ [o.after.any fun e => Region.binds .any e && (e.on == i || acc.getD e.on false)]) []

def barB (pu : Nat → Bool) (ops : Array Oper) (i : Nat) : Bool :=
  (List.range ops.size).all fun j => j == i || pu j || (waitsFor ops j).getD i false || (waitsFor ops i).getD j false

def pureAt (ops : Array Oper) (i : Nat) : Bool :=
  match ops[i]? with
  | some o => (pOp P sig hs ops.toList o).pure
  | none => false

def canonGo (ops : Array Oper) : Nat → Array Bool → Option (List Nat)
  | 0, listed => if Region.ready .any ops listed = [] then some [] else none
  | fuel + 1, listed =>
    match Region.ready .any ops listed with
    | [] => some []
    | r => match r.find? (fun i => (match ops[i]? with
        | some oi => (pOp P sig hs ops.toList oi).early && freeAt ops listed i oi
        | none => false)) with
      | some i => (canonGo ops fuel (listed.setIfInBounds i true)).map (i :: ·)
      | none => match r with
        | [i] => (match ops[i]? with
          | some oi => if (pOp P sig hs ops.toList oi).calm || barB (pureAt P sig hs ops) ops i then (canonGo ops fuel (listed.setIfInBounds i true)).map (i :: ·) else none
          | none => none)
        | [i, j] => (match ops[i]?, ops[j]? with
          | some oi, some oj =>
            if (pOp P sig hs ops.toList oi).calm && (pOp P sig hs ops.toList oj).calm then
              (canonGo ops fuel (listed.setIfInBounds i true)).bind fun l1 => (canonGo ops fuel (listed.setIfInBounds j true)).bind fun l2 =>
                if bubble P sig hs ops j (i :: l1) = some l2 then some (i :: l1) else if bubble P sig hs ops i (j :: l2) = some l1 then some (j :: l2) else none
            else none
          | _, _ => none)
        | _ => none

def getAll (ops : Array Oper) : List Nat → Option (List Oper)
  | [] => some []
  | i :: r => (ops[i]?).bind fun o => (getAll ops r).map (o :: ·)

def canonOf (ops : Array Oper) : Option (List Oper) :=
  if ops.toList.any isSelect then none else (canonGo P sig hs ops ops.size (Array.replicate ops.size false)).bind (getAll ops)

def andThen (a k : ACode) : ACode :=
  match k with
  | .skip => a
  | k => .seq a k

def deadCode : ACode := .ops [⟨.dead, none, none⟩] .skip

def pCode (n : Nat) : Code → ACode → Option ACode
  | .skip, k => some k
  | .region _ ops draw, k => (match (if draw then canonOf P sig hs ops else some ops.toList) with
    | some l => (pOpers P sig hs n ops.toList l).map (.ops · k)
    | none => some deadCode)
  | .seq a b, k => (pCode n b k).bind fun b => pCode n a b
  | .cond c a b, k => (pX false c).bind fun c => (pCode n a .skip).bind fun a => (pCode n b .skip).map fun b => andThen (.cond c a b) k
  | .block id a, k => (pCode n a .skip).map fun a => andThen (.block id a) k
  | .loop a, k => (pCode n a .skip).map fun a => andThen (.loop a) k
  | .exit id, _ => some (.exit id)
  | .ret, _ => some .ret
  | _, _ => some deadCode

def pRes : List ResultVar → Option (List ARes)
  | [] => some []
  | .tmp t :: r => (pRes r).map (.tmp t :: ·)
  | .cell t ty :: r => (tagg P ty).bind fun a => (tsize P ty).bind fun n => (pRes r).map (.cell t a n :: ·)

def pFunc (fn : Func) : Option AFunc :=
  fn.body.bind fun c => (pCode P sig hs fn.ntmps c .ret).bind fun c => (pRes P fn.results.toList).map fun r => ⟨fn.ntmps, c, r, fun _ _ => none⟩
end

/-! ### What single operations give -/

def splice (xs : List AV) (i : Nat) (ys : List AV) : List AV := xs.take i ++ ys ++ xs.drop (i + ys.length)

def pln (v : AV) : Option Unit := if v.plain then some () else none

def AV.several : AV → Bool
  | .tup _ => true
  | _ => false
def pkV (c a b : AV) : Option AV :=
  match c with
  | .bool true => if a.several then none else some a
  | .bool false => if b.several then none else some b
  | _ => none

def aInt (op : BinOp) (k : IntKind) (x y : Int) : Option AV :=
  match op with
  | .add => some (.int k (k.wrap (x + y)))
  | .sub => some (.int k (k.wrap (x - y)))
  | .mul => some (.int k (k.wrap (x * y)))
  | .quo => if y = 0 then none else some (.int k (k.wrap (x.tdiv y)))
  | .rem => if y = 0 then none else some (.int k (x.tmod y))
  | .and => some (.int k (k.wrap (BitVec.ofInt k.bits x &&& BitVec.ofInt k.bits y).toNat))
  | .or => some (.int k (k.wrap (BitVec.ofInt k.bits x ||| BitVec.ofInt k.bits y).toNat))
  | .xor => some (.int k (k.wrap (BitVec.ofInt k.bits x ^^^ BitVec.ofInt k.bits y).toNat))
  | .andNot => some (.int k (k.wrap (BitVec.ofInt k.bits x &&& ~~~(BitVec.ofInt k.bits y)).toNat))
  | .eql => some (.bool (x == y))
  | .neq => some (.bool (x != y))
  | .lss => some (.bool (decide (x < y)))
  | .leq => some (.bool (decide (x ≤ y)))
  | .gtr => some (.bool (decide (x > y)))
  | .geq => some (.bool (decide (x ≥ y)))
  | _ => none

def aShift (op : BinOp) (k : IntKind) (x y : Int) : Option AV :=
  if y < 0 then none else
  match op with
  | .shl => some (.int k (k.wrap (x * 2 ^ (min y.toNat k.bits))))
  | .shr => some (.int k (x.fdiv (2 ^ (min y.toNat k.bits))))
  | _ => none

def aStr (op : BinOp) (x y : List UInt8) : Option AV :=
  match op with
  | .add => if x.length + y.length ≤ maxLen then some (.str (x ++ y)) else none
  | .eql => some (.bool (x == y))
  | .neq => some (.bool (!(x == y)))
  | .lss => some (.bool (Op.bytesLess x y))
  | .leq => some (.bool (Op.bytesLess x y || x == y))
  | .gtr => some (.bool (!(Op.bytesLess x y || x == y)))
  | .geq => some (.bool (!(Op.bytesLess x y)))
  | _ => none

def aEq (kd : Nat) (lit : Bool) (x y : AV) : Option Bool :=
  match kd, x, y with
  | 0, .bool a, .bool b => some (a == b)
  | 3, .slice .nil _ _ _, .slice .nil _ _ _ => some true
  | 3, .slice .nil _ _ _, .slice _ _ _ _ => some false
  | 3, .slice _ _ _ _, .slice .nil _ _ _ => some false
  | 3, .slice .nil _ _ _, .hsl _ _ _ _ _ => some false
  | 3, .hsl _ _ _ _ _, .slice .nil _ _ _ => some false
  | 4, .nilptr, .nilptr => some true
  | 4, .nilptr, .ptr _ _ => some false
  | 4, .ptr _ _, .nilptr => some false
  | 4, .nilptr, .eptr _ => some false
  | 4, .eptr _, .nilptr => some false
  | 5, .nilI, .iface _ _ => some false
  | 5, .iface _ _, .nilI => some false
  | 5, .nilI, .nilI => if lit then some true else none
  | _, _, _ => none

def aBin (op : BinOp) (kd : Nat) (lit : Bool) (x y : AV) : Option AV :=
  match x, y with
  | .int k a, .int k' b => (match op with
    | .shl => aShift .shl k a b
    | .shr => aShift .shr k a b
    | op => if k = k' then aInt op k a b else none)
  | .str a, .str b => aStr op a b
  | x, y => (match op with
    | .eql => (aEq kd lit x y).map .bool
    | .neq => (aEq kd lit x y).map fun b => .bool (!b)
    | _ => none)

def aUn (op : UnOp) (x : AV) : Option AV :=
  match op, x with
  | .neg, .int k n => some (.int k (k.wrap (0 - n)))
  | .xor, .int k n => aInt .xor k (if k.signed then -1 else k.max) n
  | .not, .bool b => some (.bool !b)
  | _, _ => none

def bytesOf : List AV → Option (List UInt8)
  | [] => some []
  | .int .u8 n :: r => (bytesOf r).map (UInt8.ofNat n.toNat :: ·)
  | _ => none

def byteCells (l : List UInt8) : List AV := l.map fun b => .int .u8 b.toNat

def fillV (cs : List AV) (off n : Nat) (v : AV) : Option (List AV) :=
  if v.plain && v.cells.length == n && decide (off + n ≤ cs.length) then some (splice cs off v.cells) else none

def ldO (m : Mode) (agg : Bool) (n off : Nat) (ob : Obj) : Option (AV × Obj) :=
  match ob, agg with
  | .cells cs, true => if off + n ≤ cs.length then some (.agg (((cs.drop off).take n).map gvV), .cells (splice cs off (((cs.drop off).take n).map gvV))) else none
  | .cells cs, false => (cs[off]?).map fun v => (cpV m v, .cells (splice cs off [cpS m v]))
  | .row e sz cp cs, true => if off + n ≤ cs.length then some (.agg ((cs.drop off).take n), .row e sz cp cs) else none
  | .row e sz cp cs, false => (cs[off]?).map fun v => (v, .row e sz cp cs)
  | .ro cs, true => if off + n ≤ cs.length then some (.agg ((cs.drop off).take n), .ro cs) else none
  | .ro cs, false => (cs[off]?).map fun v => (v, .ro cs)
  | .iter .., _ => none
def glV (agg : Bool) (n : Nat) (x : Option (List AV)) : Option AV :=
  match x, agg with
  | some ys, true => if n ≤ ys.length then some (.agg (ys.take n)) else none
  | some (y :: _), false => some y
  | none, true => if n = 0 then some (.agg []) else none
  | _, _ => none
def ldV (m : Mode) (agg : Bool) (n : Nat) (p : AV) (st : St) : Option (AV × St) :=
  match p, agg with
  | .ptr k off, agg => (st.at k).bind fun ob => (ldO m agg n off ob).map fun q => (q.1, st.setAt k q.2)
  | .eptr ys, true => if n ≤ ys.length then some (.agg (ys.take n), st) else none
  | .eptr (y :: _), false => some (y, st)
  | .gl g, agg => (glV agg n (st.h.Γ g)).map fun v => (v, st)
  | _, _ => none

def roomN : Option Nat → Nat → Bool
  | some N, x => decide (x ≤ N)
  | none, _ => false
def rowTo (sz off n : Nat) (cp : Option Nat) (len : Nat) : Bool := decide (off + n ≤ len) || (decide (off ≤ len) && decide (off % sz = 0) && n == sz && roomN cp (off + n))
def stO (n off : Nat) (v : AV) (ob : Obj) : Option Obj :=
  match ob with
  | .cells cs => if v.plain && v.cells.length == n && decide (off + n ≤ cs.length) then some (.cells (splice cs off v.cells)) else none
  | .row e sz cp cs => if v.plain && !v.isOwn && v.cells.length == n && rowTo sz off n cp cs.length then some (.row e sz cp (splice cs off v.cells)) else none
  | _ => none
def stV (n : Nat) (p : AV) (v : AV) (st : St) : Option St :=
  match p with
  | .ptr k off => (st.at k).bind fun ob => (stO n off v ob).map fun ob' => st.setAt k ob'
  | _ => none

def hcells (h : H) (i k m : Nat) : Option (List AV) :=
  match h.get i with
  | some (.cells cs) => if k + m ≤ cs.length ∧ cs.all (fun c => !c.isOwn) = true then some ((cs.drop k).take m) else none
  | some (.row _ _ _ cs) => if k + m ≤ cs.length then some ((cs.drop k).take m) else none
  | some (.ro cs) => if k + m ≤ cs.length then some ((cs.drop k).take m) else none
  | _ => none

def aIdx : AV → Option Int
  | .int _ n => some n
  | _ => none

def nnV : AV → Option AV
  | .ptr k off => some (.ptr k off)
  | .eptr ys => some (.eptr ys)
  | .fn f => some (.fn f)
  | _ => none

def aPart (agg : Bool) (n : Nat) (off : Nat) : AV → Option AV
  | .agg xs => if agg then (if off + n ≤ xs.length then some (.agg ((xs.drop off).take n)) else none) else xs[off]?
  | _ => none

def slStr (v : AV) (l : Option Int) (h : Option Int) : Option AV :=
  match v, l, h with
  | .str s, some l, some h => if 0 ≤ l ∧ l ≤ h ∧ h ≤ s.length then some (.str ((s.drop l.toNat).take (h.toNat - l.toNat))) else none
  | _, _, _ => none

def roomTo (h : H) (i : Nat) (to : Nat) : Bool :=
  match h.get i with
  | some (.row _ _ (some N) _) => decide (to ≤ N)
  | _ => false
def slSl (hp : H) (sz' : Nat) (v : AV) (l : Option Int) (h : Option Int) : Option AV :=
  match v, l, h with
  | .slice c e sz xs, some l, some h =>
    if 0 ≤ l ∧ l ≤ h ∧ h ≤ ((xs.length / sz : Nat) : Int) ∧ (c = .nil ∨ sz = sz') then some (.slice c e sz ((xs.drop (l.toNat * sz)).take ((h.toNat - l.toNat) * sz))) else none
  | .hsl i k e sz n, some l, some h =>
    if 0 ≤ l ∧ l ≤ h ∧ (h ≤ (n : Int) ∨ ((k = 0 ∨ 0 < n) ∧ roomTo hp i (k + h.toNat * sz) = true)) ∧ sz = sz' then some (.hsl i (k + l.toNat * sz) e sz (h.toNat - l.toNat)) else none
  | _, _, _ => none

def lenV : AV → Option Int
  | .str s => some s.length
  | .slice _ _ sz xs => some ((xs.length / sz : Nat) : Int)
  | .hsl _ _ _ _ n => some (n : Int)
  | _ => none

def aLen (str : Bool) (v : AV) : Option AV :=
  match v, str with
  | .str s, true => some (.int .i64 s.length)
  | .slice _ _ sz xs, false => some (.int .i64 ((xs.length / sz : Nat) : Int))
  | .hsl _ _ _ _ n, false => some (.int .i64 (n : Int))
  | _, _ => none

def cvInt (k : IntKind) (v : AV) : Option AV := (aIdx v).map fun n => .int k (k.wrap n)
def cvBS (h : H) : AV → Option AV
  | .slice c _ 1 xs => if c = .hdr then none else (bytesOf xs).map .str
  | .hsl i k _ 1 n => (hcells h i k n).bind fun xs => (bytesOf xs).map .str
  | _ => none
def cvSB (e : Nat) : AV → Option AV
  | .str s => if s.length ≤ tooLong then some (.slice .frz e 1 (byteCells s)) else none
  | _ => none
def cvSS : AV → Option AV
  | .str s => some (.str s)
  | _ => none
def mkI (t : TypeId) (v : AV) : Option AV := if v.plain then some (.iface t v) else none
def fdV (off : Nat) : AV → Option AV
  | .ptr s k => some (.ptr s (k + off))
  | .eptr ys => some (.eptr (ys.drop off))
  | _ => none
def ixV (sz : Nat) (v i : AV) : Option AV :=
  match v, i with
  | .slice c _ sz' xs, .int _ n => if c = .frz ∧ sz' = sz ∧ 0 ≤ n ∧ n < ((xs.length / sz : Nat) : Int) then some (.eptr (xs.drop (n.toNat * sz))) else none
  | .hsl i k _ sz' m, .int _ n => if sz' = sz ∧ 0 ≤ n ∧ n < (m : Int) then some (.ptr (.obj i) (k + n.toNat * sz)) else none
  | _, _ => none
def ixStr (v i : AV) : Option AV :=
  match v, i with
  | .str s, .int _ n => if 0 ≤ n then (s[n.toNat]?).map fun b => .int .u8 b.toNat else none
  | _, _ => none
def exV (v : AV) (i : Nat) : Option (AV × AV) :=
  match v with
  | .tup vs => (vs[i]?).map fun x => (x, .tup (splice vs i [x.cls .left]))
  | _ => none

/-! More operations -/
def iaV (n sz : Nat) (h : H) (p i : AV) : Option AV :=
  match p, i with
  | .ptr k off, .int _ i => if 0 ≤ i ∧ i < (n : Int) then some (.ptr k (off + i.toNat * sz)) else none
  | .eptr ys, .int _ i => if 0 ≤ i ∧ i < (n : Int) then some (.eptr (ys.drop (i.toNat * sz))) else none
  | .gl g, .int _ i => if 0 ≤ i ∧ i < (n : Int) then (h.Γ g).map fun ys => .eptr (ys.drop (i.toNat * sz)) else none
  | _, _ => none
def saV (n e sz : Nat) (hp : H) (p l h : AV) : Option AV :=
  match p, l, h with
  | .ptr (.obj i) off, .int _ l, .int _ h =>
    if 0 ≤ l ∧ l ≤ h ∧ h ≤ (n : Int) then (match hp.get i with
      | some (.cells _) => some (.hsl i (off + l.toNat * sz) e sz (h.toNat - l.toNat))
      | _ => none) else none
  | .eptr ys, .int _ l, .int _ h => if 0 ≤ l ∧ l ≤ h ∧ h ≤ (n : Int) ∧ n * sz ≤ ys.length then some (.slice .frz e sz ((ys.drop (l.toNat * sz)).take ((h.toNat - l.toNat) * sz))) else none
  | .gl g, .int _ l, .int _ h => if 0 ≤ l ∧ l ≤ h ∧ h ≤ (n : Int) then (hp.Γ g).bind fun ys => if n * sz ≤ ys.length then some (.slice .frz e sz ((ys.drop (l.toNat * sz)).take ((h.toNat - l.toNat) * sz))) else none else none
  | _, _, _ => none
def igV (agg : Bool) (n m sz : Nat) (x i : AV) : Option AV :=
  match i with
  | .int _ i => if 0 ≤ i ∧ i < (n : Int) then aPart agg m (i.toNat * sz) x else none
  | _ => none
def taOk (ok : Bool) (v : AV) : AV := if ok then .tup [v, .bool true] else v
def taV (t : TypeId) (z : AV) (ok : Bool) (x : AV) : Option AV :=
  match x with
  | .iface u v => if u = t then some (taOk ok v) else if ok then some (.tup [z, .bool false]) else none
  | .nilI => if ok then some (.tup [z, .bool false]) else none
  | _ => none
def tiV (z : AV) (ok : Bool) (yes no : List TypeId) (x : AV) : Option AV :=
  match x with
  | .iface u v => if yes.contains u then some (taOk ok (.iface u v)) else if ok && no.contains u then some (.tup [z, .bool false]) else none
  | .nilI => if ok then some (.tup [z, .bool false]) else none
  | _ => none
def mmV (mx : Bool) (x y : AV) : Option AV :=
  match x, y with
  | .int k a, .int k' b => if k = k' then some (.int k (if mx then (if a < b then b else a) else (if b < a then b else a))) else none
  | _, _ => none
def fbV (k : Nat) (x : AV) : Option AV :=
  match k, x with
  | 0, .flt .f64 b => some (.int .u64 (b : Int))
  | 1, .int .u64 n => some (.flt .f64 n.toNat)
  | 2, .flt .f32 b => some (.int .u32 (b : Int))
  | 3, .int .u32 n => some (.flt .f32 n.toNat)
  | _, _ => none
def intsOf (k : IntKind) : List AV → Option (List Int)
  | [] => some []
  | .int k' n :: r => if k' = k then (intsOf k r).map (n :: ·) else none
  | _ => none
def runeN : Value → Int
  | .int _ n => n
  | _ => 0
def runesL (s : List UInt8) : List Int := (Conv.runesFrom ⟨s.toArray⟩ s.length 0 #[]).toList.map runeN
def cvSR (e : Nat) : AV → Option AV
  | .str s => if s.length ≤ 70368744177664 then some (.slice .frz e 1 ((runesL s).map (AV.int .i32))) else none
  | _ => none
def rsV : AV → Option AV
  | .slice .frz _ 1 xs => (intsOf .i32 xs).map fun ns => .str (runesBytes ns).data.toList
  | _ => none
def eqaV (neg : Bool) (n : Nat) (k : IntKind) (x y : AV) : Option AV :=
  match x, y with
  | .agg xs, .agg ys => if xs.length = n ∧ ys.length = n then (intsOf k xs).bind fun a => (intsOf k ys).map fun b => .bool (if neg then !(a == b) else a == b) else none
  | _, _ => none
def ibV (h : H) (x y : AV) : Option AV :=
  match y with
  | .int .u8 c => if x.isOwn then none else (match cvBS h x with
    | some (.str l) => some (.int .i64 (Go.Lib.indexByte l (UInt8.ofNat c.toNat)))
    | _ => none)
  | _ => none
def xV (o : XOp) (h : H) (vs : List AV) : Option AV :=
  match o, vs with
  | .ixArr n sz, [p, i] => iaV n sz h p i
  | .slArr n e sz, [p, l, u] => saV n e sz h p l u
  | .ixAgg ag n m sz, [x, i] => igV ag n m sz x i
  | .tassert t z ok, [x] => taV t z ok x
  | .tassertI z ok yes no, [x] => tiV z ok yes no x
  | .minmax mx, [x, y] => mmV mx x y
  | .fb k, [x] => fbV k x
  | .eqArr neg n k, [x, y] => eqaV neg n k x y
  | .idxB, [x, y] => ibV h x y
  | .rStr, [x] => rsV x
  | _, _ => none
def dTarget (tbl : Option (List (TypeId × FuncId))) (x : AV) (vs : List AV) : Option (FuncId × List AV) :=
  match tbl, x with
  | none, .fn f => some (f, vs)
  | some l, .iface t v => (l.lookup t).map fun f => (f, v :: vs)
  | _, _ => none

def moreV (h : H) (sz : Nat) (str : Bool) : AV → Option (List AV)
  | .slice c _ sz' ys => if str = false ∧ c ≠ .hdr ∧ (c = .nil ∨ sz' = sz) then some ys else none
  | .hsl i k _ sz' n => if str = false ∧ sz' = sz then hcells h i k (n * sz) else none
  | .str s => if str then some (byteCells s) else none
  | _ => none
def apV (h : H) (e sz bytes : Nat) (str : Bool) (base x : AV) : Option AV :=
  match base with
  | .slice c e' sz' xs => (moreV h sz str x).bind fun ys =>
    if ((xs.length + ys.length) / sz) * bytes ≤ tooLong ∧ (xs.length + ys.length) ≤ tooLong then
      match c with
      | .nil => if ys.length = 0 then some (.slice .nil 0 1 []) else some (.slice (.own true) e sz ys)
      | .own f => if e' = e ∧ sz' = sz then some (.slice (.own f) e sz (xs ++ ys)) else none
      | _ => none
    else none
  | _ => none

/-! ### Running -/

def peek (st : St) : AX → AV
  | .t n => hdV (st.s n)
  | .m n => hdV (st.s n)
  | .u n => hdV (st.s n)
  | .f n => hdV (st.s n)
  | .p n => st.s n
  | .c v => v

def pin (st : St) (n : Nat) : AV × St :=
  match st.s n with
  | .slice (.own true) e sz xs => (.hsl st.h.n 0 e sz (xs.length / sz), ⟨upd st.s n (.hsl st.h.n 0 e sz (xs.length / sz)), st.b, st.h.push (.row e sz none xs)⟩)
  | v => (hdV v, st)

def unpin (st : St) (n i k e sz m : Nat) : AV × St :=
  match st.h.get i with
  | some (.row e' sz' _ xs) => if k = 0 ∧ e' = e ∧ sz' = sz ∧ xs.length = m * sz then (.slice (.own true) e sz xs, ⟨upd st.s n (.slice .hdr e sz xs), st.b, st.h.del i⟩)
    else if k = 0 ∧ e' = e ∧ sz' = sz ∧ m * sz ≤ xs.length then (.slice (.own true) e sz (xs.take (m * sz)), ⟨upd st.s n (.slice .hdr e sz (xs.take (m * sz))), st.b, st.h.del i⟩) else (.hsl i k e sz m, st)
  | _ => (.hsl i k e sz m, st)

def frz (st : St) (n i k e sz m : Nat) : AV × St :=
  match st.h.get i with
  | some (.row _ _ _ xs) => if k + m * sz ≤ xs.length then (.slice .frz e sz ((xs.drop k).take (m * sz)), ⟨upd st.s n (.slice .frz e sz ((xs.drop k).take (m * sz))), st.b, st.h.set i (.ro xs)⟩) else (.hsl i k e sz m, st)
  | some (.ro xs) => if k + m * sz ≤ xs.length then (.slice .frz e sz ((xs.drop k).take (m * sz)), ⟨upd st.s n (.slice .frz e sz ((xs.drop k).take (m * sz))), st.b, st.h⟩) else (.hsl i k e sz m, st)
  | _ => (.hsl i k e sz m, st)

def give (st : St) : AX → AV × St
  | .t n => (gvV (st.s n), st.set n (gvV (st.s n)))
  | .u n => (gvV (st.s n), st.set n (gvV (st.s n)))
  | .f n => (match st.s n with
    | .hsl i k e sz m => frz st n i k e sz m
    | v => (gvV v, st.set n (gvV v)))
  | .m n => pin st n
  | .p n => (hdV (st.s n), st)
  | .c v => (v, st)

def take (st : St) : AX → AV × St
  | .t n => (st.s n, st.set n (lfV (st.s n)))
  | .f n => (st.s n, st.set n (lfV (st.s n)))
  | .u n => (match st.s n with
    | .hsl i k e sz m => unpin st n i k e sz m
    | v => (v, st.set n (lfV v)))
  | .m n => pin st n
  | .p n => (hdV (st.s n), st)
  | .c v => (v, st)

def copy (m : Mode) (st : St) : AX → AV × St
  | .t n => (cpV m (st.s n), st.set n (cpS m (st.s n)))
  | .u n => (cpV m (st.s n), st.set n (cpS m (st.s n)))
  | .f n => (cpV m (st.s n), st.set n (cpS m (st.s n)))
  | .m n => pin st n
  | .p n => (hdV (st.s n), st)
  | .c v => (v, st)

def St.box (st : St) (t : Nat) (o : Obj) : St := ⟨fun j => (st.s j).kill t, upd st.b t (some o), st.h⟩
def St.pushH (st : St) (o : Obj) : St := ⟨st.s, st.b, st.h.push o⟩

def bound (st : St) (x : Option AX) (d : Option Int) : Option Int :=
  match x with
  | none => d
  | some x => aIdx (peek st x)

def iterNext (s : List UInt8) (pos : Nat) : AV × Obj :=
  if pos < s.length then
    (.tup [.bool true, .int .i64 pos, .int .i32 (Utf8.decode ⟨s.toArray⟩ pos).1], .iter s (pos + (Utf8.decode ⟨s.toArray⟩ pos).2))
  else (.tup [.bool false], .iter s pos)
def nextV (p : AV) (st : St) : Option (AV × St) :=
  match p with
  | .ptr k 0 => (st.at k).bind fun ob => (match ob with
    | .iter s pos => some ((iterNext s pos).1, st.setAt k (iterNext s pos).2)
    | _ => none)
  | _ => none

def mkN (bytes : Nat) (x c : AV) : Option (Nat × Nat) :=
  match x, c with
  | .int k m, .int k' c => if k = .i64 ∧ k' = .i64 ∧ 0 ≤ m ∧ m ≤ c ∧ bytes * c ≤ tooLong ∧ c ≤ tooLong then some (m.toNat, c.toNat) else none
  | _, _ => none
def mkV (obj : Bool) (e sz bytes : Nat) (z : List AV) (x c : AV) (st : St) : Option (AV × St) :=
  (mkN bytes x c).map fun q =>
    if obj then (.hsl st.h.n 0 e sz q.1, st.pushH (.row e sz (some (q.2 * sz)) (repCells q.2 z))) else (.slice (.own true) e sz (repCells q.1 z), st)

def cpRow (sz : Nat) (str : Bool) (d y : AV) (st : St) : Option (AV × St) :=
  match d with
  | .hsl i k e sz' n => if sz' = sz then (moreV st.h sz str y).bind fun ys =>
      match st.h.get i with
      | some (.row e' sz'' cp xs) => if k + n * sz ≤ xs.length ∨ (k ≤ xs.length ∧ k % sz = 0 ∧ sz'' = sz) then some (.int .i64 ((min (ys.length / sz) n : Nat) : Int), ⟨st.s, st.b, st.h.set i (.row e' sz'' cp (splice xs k (ys.take (min (ys.length / sz) n * sz))))⟩) else none
      | some (.cells xs) => if k + n * sz ≤ xs.length then some (.int .i64 ((min (ys.length / sz) n : Nat) : Int), ⟨st.s, st.b, st.h.set i (.cells (splice xs k (ys.take (min (ys.length / sz) n * sz))))⟩) else none
      | _ => none
    else none
  | .slice .nil _ _ _ => (moreV st.h sz str y).map fun _ => (.int .i64 0, st)
  | _ => none

def capV (p : AV) (st : St) : T (AV × St) :=
  match p with
  | .slice .nil _ _ _ => .ret (.int .i64 0, st)
  | .hsl i k _ sz n =>
    match st.h.get i with
    | some (.row e' sz' (some N) xs) => if sz' = sz ∧ (k = 0 ∨ 0 < n) then .ret (.int .i64 (((N - k) / sz : Nat) : Int), st) else .fail
    | some (.row e' sz' none xs) => if sz' = sz ∧ (k = 0 ∨ 0 < n) then .pick (maxLen - n) fun d => .ret (.int .i64 ((n + d : Nat) : Int), ⟨st.s, st.b, st.h.set i (.row e' sz' (some (k + (n + d) * sz)) xs)⟩) else .fail
    | _ => .fail
  | _ => .fail

section
variable {β : Type} (call : FuncId → List AV → H → T (AV × H)) (loop : ACode → St → T (Ex × St))

def fillK : List (Nat × Nat × AX) → List AV → St → (List AV → St → T β) → T β
  | [], cs, st, k => k cs st
  | (off, n, x) :: r, cs, st, k => T.on (fillV cs off n (give st x).1) fun cs => fillK r cs (give st x).2 k

def argsK : List (AX × Bool) → St → (List AV → St → T β) → T β
  | [], st, k => k [] st
  | (x, true) :: r, st, k => T.on (pln (take st x).1) fun _ => argsK r (take st x).2 fun vs st' => k ((take st x).1 :: vs) st'
  | (x, false) :: r, st, k => T.on (pln (give st x).1) fun _ => argsK r (give st x).2 fun vs st' => k ((give st x).1 :: vs) st'

mutual
def AV.old (b : Nat) : AV → Bool
  | .slice _ _ _ xs => oldL b xs
  | .agg xs => oldL b xs
  | .tup xs => oldL b xs
  | .eptr xs => oldL b xs
  | .ptr (.obj i) _ => decide (i < b)
  | .hsl i _ _ _ _ => decide (i < b)
  | .iface _ v => v.old b
  | _ => true
def oldL (b : Nat) : List AV → Bool
  | [] => true
  | x :: xs => x.old b && oldL b xs
end

def noHeap (b : Nat) (q : AV × H) : Option AV := if (q.2.l.isEmpty && q.2.base == b) || q.1.old b then some q.1 else none

def opK (o : AOp) (st : St) (k : AV → St → T β) : T β :=
  match o with
  | .move m x => k (copy m st x).1 (copy m st x).2
  | .assign x => k (take st x).1 (take st x).2
  | .pick c a b => T.on (pkV (peek st c) (give st a).1 (give (give st a).2 b).1) fun v => k v (give (give st a).2 b).2
  | .newbox d cs => k (.ptr (.loc d) 0) (st.box d (.cells cs))
  | .newbox1 d cs => (match st.b d with
    | none => k (.ptr (.loc d) 0) ⟨st.s, upd st.b d (some (.cells cs)), st.h⟩
    | some _ => .fail)
  | .newobj cs => k (.ptr (.obj st.h.n) 0) (st.pushH (.cells cs))
  | .box d x => T.on (pln (take st x).1) fun _ => k (.ptr (.loc d) 0) ((take st x).2.box d (.cells (take st x).1.cells))
  | .boxobj x => T.on (pln (take st x).1) fun _ => k (.ptr (.obj (take st x).2.h.n) 0) ((take st x).2.pushH (.cells (take st x).1.cells))
  | .build z parts => fillK parts z st fun cs st => k (.agg cs) st
  | .buildSl e sz z parts => fillK parts z st fun cs st => k (.slice (.own true) e sz cs) st
  | .load m a n x => T.on (ldV m a n (peek st x) st) fun q => k q.1 q.2
  | .store n x y => T.on (stV n (peek st x) (take st y).1 (take st y).2) fun st => k .skipped st
  | .nilCheck x => T.on (nnV (peek st x)) fun v => k v st
  | .bin op kd lit x y => T.on (aBin op kd lit (peek st x) (peek st y)) fun v => k v st
  | .un op x => T.on (aUn op (peek st x)) fun v => k v st
  | .convInt i x => T.on (cvInt i (peek st x)) fun v => k v st
  | .convBS x => T.on (cvBS (give st x).2.h (give st x).1) fun v => k v (give st x).2
  | .convSB e x => T.on (cvSB e (peek st x)) fun v => k v st
  | .convSS x => T.on (cvSS (peek st x)) fun v => k v st
  | .convSR e x => T.on (cvSR e (peek st x)) fun v => k v st
  | .mkIface t x => T.on (mkI t (give st x).1) fun v => k v (give st x).2
  | .sliceStr x lo hi => T.on (slStr (peek st x) (bound st lo (some 0)) (bound st hi (lenV (peek st x)))) fun v => k v st
  | .sliceSl sz x lo hi => T.on (slSl (give st x).2.h sz (give st x).1 (bound st lo (some 0)) (bound st hi (lenV (give st x).1))) fun v => k v (give st x).2
  | .fieldAddr off x => T.on (fdV off (peek st x)) fun v => k v st
  | .field a n off x => T.on (aPart a n off (peek st x)) fun v => k v st
  | .indexAddr sz x i => T.on (ixV sz (give st x).1 (peek st i)) fun v => k v (give st x).2
  | .indexStr x i => T.on (ixStr (peek st x) (peek st i)) fun v => k v st
  | .extract t i => T.on (exV (st.s t) i) fun q => k q.1 (st.set t q.2)
  | .len s x => T.on (aLen s (peek st x)) fun v => k v st
  | .cap x => (capV (give st x).1 (give st x).2).bind fun q => k q.1 q.2
  | .append e sz bytes str x y => T.on (apV (take st x).2.h e sz bytes str (take st x).1 (peek st y)) fun v => k v (take st x).2
  | .range d x => T.on (cvSS (peek st x)) fun v => (match v with
    | .str s => k (.ptr (.loc d) 0) (st.box d (.iter s 0))
    | _ => .fail)
  | .next x => T.on (nextV (peek st x) st) fun q => k q.1 q.2
  | .mkSl obj e sz bytes z x c => T.on (mkV obj e sz bytes z (peek st x) (peek st c) st) fun q => k q.1 q.2
  | .copyB sz str x y => T.on (cpRow sz str (give st x).1 (peek (give st x).2 y) (give st x).2) fun q => k q.1 q.2
  | .call f args => argsK args st fun vs st => (call f vs st.h.mask).bind fun q => T.on (noHeap st.h.n q) fun v => k v st
  | .hcall f args => argsK args st fun vs st => (call f vs st.h).bind fun q => k q.1 ⟨st.s, st.b, q.2⟩
  | .px o args => T.on (xV o st.h (args.map (peek st))) fun v => k v st
  | .dcall hc tbl x args => argsK args st fun vs st' => T.on (dTarget tbl (peek st x) vs) fun q => match hc with
    | false => (call q.1 q.2 st'.h.mask).bind fun r => T.on (noHeap st'.h.n r) fun v => k v st'
    | true => (call q.1 q.2 st'.h).bind fun r => k r.1 ⟨st'.s, st'.b, r.2⟩
  | .dead => .fail

def opsK : List AOper → St → (St → T β) → T β
  | [], st, k => k st
  | o :: r, st, k => match o.guard with
    | none => opK call o.op st fun v st => opsK r (st.put o.dst v) k
    | some (d, want) => (onGuard (st.s d) want (fun _ => opK call o.op st fun v st => .ret (st.put o.dst v)) (fun _ => .ret (st.put o.dst .skipped))).bind fun st => opsK r st k

def xexec : ACode → St → T (Ex × St)
  | .skip, st => .ret (.normal, st)
  | .ops l c, st => opsK call l st fun st => xexec c st
  | .seq a c, st => (xexec a st).bind fun r => goOn r fun st => xexec c st
  | .cond c a b, st => onBool (peek st c) (fun _ => xexec a st) (fun _ => xexec b st)
  | .block id c, st => (xexec c st).bind (blockEnd id)
  | .loop c, st => loop c st
  | .exit id, st => .ret (.exit id, st)
  | .ret, st => .ret (.ret, st)

def xres (st : St) : ARes → Option (AV × St)
  | .tmp t => some (take st (.u t))
  | .cell t a n => ldV .take a n (st.s t) st

def xresults : List ARes → St → Option (List AV × St)
  | [], st => some ([], st)
  | r :: rs, st => obind (xres st r) fun q => obind (pln q.1) fun _ => obind (xresults rs q.2) fun vs => some (q.1 :: vs.1, vs.2)

def oneOrTup : List AV → AV
  | [v] => v
  | vs => .tup vs

def xend (fn : AFunc) (r : Ex × St) : Option (AV × H) :=
  match r.1 with
  | .exit _ => none
  | .normal => obind (xresults fn.res r.2) fun vs => some (oneOrTup vs.1, vs.2.h)
  | .ret => obind (xresults fn.res r.2) fun vs => some (oneOrTup vs.1, vs.2.h)

def xbody (fn : AFunc) (args : List AV) (h : H) : T (AV × H) :=
  (xexec call loop fn.code ⟨fun j => (args[j]?).getD .undef, fun _ => none, h⟩).bind fun r => T.ofO (xend fn r)
end

mutual
variable (fns : FuncId → Option AFunc)
def callN : Nat → FuncId → List AV → H → T (AV × H)
  | 0, _, _, _ => .fail
  | k + 1, f, args, h => T.on (fns f) fun fn => if args.length ≤ fn.n then (match fn.x args h with
    | some t => t
    | none => xbody (callN k) (loopN k) fn args h) else .fail
def loopN : Nat → ACode → St → T (Ex × St)
  | 0, _, _ => .fail
  | k + 1, c, st => (xexec (callN k) (loopN k) c st).bind fun r => goOn r fun st => loopN k c st
end

end Go.Proofs.YtjlioidknhdceaaDoor.Abs
