/- A1, A2, A3, A4, A5, A6 -/
import Derived.WalkKit
import Derived.Orders
import Derived.Lib.Bytealg
import Derived.Laws.Cover4
import Derived.Laws.IdiomStrings
import Derived.Laws.AppendOwn
import Derived.Below
import Derived.Deep.MidRow
/- An abstract, deterministic interpreter over the loaded code: slices by value, boxes by the slot that made them. Values, states, what the program's types say, the ways of use. -/
namespace Go.Proofs.YticoldgiebmmgaaGreatDoor.Abs
set_option linter.all false

inductive Cls where
  | nil
  | frz
  | hdr
  | own (fresh : Bool)
  deriving DecidableEq, Repr

inductive K where
  | loc (t : Nat)
  | obj (i : Nat)
  deriving DecidableEq, Repr, Inhabited

inductive AV where
  | bool (b : Bool)
  | int (k : IntKind) (n : Int)
  | str (s : List UInt8)
  | flt (k : FloatKind) (bits : Nat)
  | slice (c : Cls) (e sz : Nat) (xs : List AV)
  | agg (xs : List AV)
  | tup (xs : List AV)
  | ptr (k : K) (off : Nat)
  | hsl (i k e sz n : Nat)
  | eptr (xs : List AV)
  | nilptr
  | iface (t : TypeId) (v : AV)
  | nilI
  | fn (f : FuncId)
  | gl (g : Nat)
  | sen (b off : Nat)
  | nilfn
  | skipped
  | undef
  deriving Inhabited

inductive Obj where
  | cells (cs : List AV)
  | row (e sz : Nat) (cp : Option Nat) (cs : List AV)
  | ro (cs : List AV)
  | iter (s : List UInt8) (pos : Nat)
  deriving Inhabited

structure H where
  base : Nat
  l : List (Option Obj)
  Γ : Nat → Option (List AV)

def H.n (h : H) : Nat := h.base + h.l.length
def H.get (h : H) (i : Nat) : Option Obj := if i < h.base then none else (h.l[i - h.base]?).join
def H.push (h : H) (o : Obj) : H := ⟨h.base, h.l ++ [some o], h.Γ⟩
def H.set (h : H) (i : Nat) (o : Obj) : H := if i < h.base then h else ⟨h.base, h.l.set (i - h.base) (some o), h.Γ⟩
def H.del (h : H) (i : Nat) : H := if i < h.base then h else ⟨h.base, h.l.set (i - h.base) none, h.Γ⟩
def H.mask (h : H) : H := ⟨h.n, [], h.Γ⟩

structure St where
  s : Nat → AV
  b : Nat → Option Obj
  h : H

def upd {α : Type} (s : Nat → α) (i : Nat) (v : α) : Nat → α := fun j => if j = i then v else s j

theorem upd_same {α : Type} (s : Nat → α) (i : Nat) (v : α) : upd s i v i = v := if_pos rfl
theorem upd_ne {α : Type} (s : Nat → α) (i j : Nat) (v : α) (h : j ≠ i) : upd s i v j = s j := if_neg h

def St.set (st : St) (t : Nat) (v : AV) : St := ⟨upd st.s t v, st.b, st.h⟩
def St.at (st : St) : K → Option Obj
  | .loc t => st.b t
  | .obj i => st.h.get i
def St.setAt (st : St) (k : K) (o : Obj) : St :=
  match k with
  | .loc t => ⟨st.s, upd st.b t (some o), st.h⟩
  | .obj i => ⟨st.s, st.b, st.h.set i o⟩
def St.put (st : St) (d : Option Nat) (v : AV) : St :=
  match d with
  | some t => st.set t v
  | none => st

inductive Ex where
  | normal
  | exit (id : Nat)
  | ret
  deriving DecidableEq

def obind {α β : Type} (x : Option α) (f : α → Option β) : Option β := x.bind f
theorem obind_some {α β : Type} (a : α) (f : α → Option β) : obind (some a) f = f a := rfl
theorem obind_none {α β : Type} (f : α → Option β) : obind none f = none := rfl
@[congr] theorem obind_congr {α β : Type} {x y : Option α} (h : x = y) (f : α → Option β) : obind x f = obind y f := h ▸ rfl
theorem obind_eq_some {α β : Type} {x : Option α} {f : α → Option β} {r : β} : obind x f = some r ↔ ∃ a, x = some a ∧ f a = some r := Option.bind_eq_some_iff

inductive T (α : Type) where
  | ret (a : α)
  | fail
  | pick (n : Nat) (k : Nat → T α)
def T.bind {α β : Type} : T α → (α → T β) → T β
  | .ret a, f => f a
  | .fail, _ => .fail
  | .pick n k, f => .pick n fun d => (k d).bind f
def T.All {α : Type} : T α → (α → Prop) → Prop
  | .ret a, R => R a
  | .fail, _ => False
  | .pick n k, R => ∀ d, d ≤ n → (k d).All R
def T.ofO {α : Type} : Option α → T α
  | some a => .ret a
  | none => .fail
def T.on {α β : Type} : Option α → (α → T β) → T β
  | some a, f => f a
  | none, _ => .fail
section
variable {α β : Type}
@[simp] theorem T.All_ret (a : α) (R : α → Prop) : (T.ret a).All R ↔ R a := Iff.rfl
@[simp] theorem T.All_fail (R : α → Prop) : (T.fail : T α).All R ↔ False := Iff.rfl
theorem T.All_bind {f : α → T β} {R : β → Prop} : ∀ {x : T α}, (x.bind f).All R ↔ x.All fun a => (f a).All R
  | .ret _ => Iff.rfl
  | .fail => Iff.rfl
  | .pick n k => by
    constructor
    · exact fun h d hd => T.All_bind.1 (h d hd)
    · exact fun h d hd => T.All_bind.2 (h d hd)
theorem T.All_on {x : Option α} {f : α → T β} {R : β → Prop} : (T.on x f).All R ↔ ∃ a, x = some a ∧ (f a).All R := by
  cases x with
  | none => exact ⟨fun h => h.elim, fun ⟨_, h, _⟩ => (by cases h)⟩
  | some a => exact ⟨fun h => ⟨a, rfl, h⟩, fun ⟨_, h, k⟩ => by injection h with h; subst h; exact k⟩
theorem T.All_ofO {x : Option α} {R : α → Prop} : (T.ofO x).All R ↔ ∃ a, x = some a ∧ R a := by
  cases x with
  | none => exact ⟨fun h => h.elim, fun ⟨_, h, _⟩ => (by cases h)⟩
  | some a => exact ⟨fun h => ⟨a, rfl, h⟩, fun ⟨_, h, k⟩ => by injection h with h; subst h; exact k⟩
theorem T.All.mono {R R' : α → Prop} (h : ∀ a, R a → R' a) : ∀ {x : T α}, x.All R → x.All R'
  | .ret a, k => h a k
  | .fail, k => k
  | .pick n f, k => fun d hd => T.All.mono h (k d hd)
theorem T.All.ex {R : α → Prop} : ∀ {x : T α}, x.All R → ∃ a, R a
  | .ret a, k => ⟨a, k⟩
  | .fail, k => k.elim
  | .pick n f, k => T.All.ex (k 0 (Nat.zero_le _))
theorem T.All.and {R R' : α → Prop} : ∀ {x : T α}, x.All R → x.All R' → x.All fun a => R a ∧ R' a
  | .ret a, k, k' => ⟨k, k'⟩
  | .fail, k, _ => k
  | .pick n f, k, k' => fun d hd => T.All.and (k d hd) (k' d hd)
end

def onBool {β : Type} (v : AV) (a b : Unit → T β) : T β :=
  match v with
  | .bool true => a ()
  | .bool false => b ()
  | _ => .fail
theorem onBool_true {β : Type} (a b : Unit → T β) : onBool (.bool true) a b = a () := rfl
theorem onBool_false {β : Type} (a b : Unit → T β) : onBool (.bool false) a b = b () := rfl
@[congr] theorem onBool_congr {β : Type} {v w : AV} (h : v = w) (a b : Unit → T β) : onBool v a b = onBool w a b := h ▸ rfl

def onGuard {β : Type} (v : AV) (want : Bool) (a b : Unit → T β) : T β :=
  match v with
  | .bool x => if x = want then a () else b ()
  | .skipped => b ()
  | _ => .fail
theorem onGuard_tt {β : Type} (a b : Unit → T β) : onGuard (.bool true) true a b = a () := rfl
theorem onGuard_ff {β : Type} (a b : Unit → T β) : onGuard (.bool false) false a b = a () := rfl
theorem onGuard_tf {β : Type} (a b : Unit → T β) : onGuard (.bool true) false a b = b () := rfl
theorem onGuard_ft {β : Type} (a b : Unit → T β) : onGuard (.bool false) true a b = b () := rfl
theorem onGuard_skipped {β : Type} (w : Bool) (a b : Unit → T β) : onGuard .skipped w a b = b () := rfl
@[congr] theorem onGuard_congr {β : Type} {v w : AV} (h : v = w) (x : Bool) (a b : Unit → T β) : onGuard v x a b = onGuard w x a b := h ▸ rfl

def goOn (r : Ex × St) (k : St → T (Ex × St)) : T (Ex × St) :=
  match r.1 with
  | .normal => k r.2
  | .exit i => .ret (.exit i, r.2)
  | .ret => .ret (.ret, r.2)
theorem goOn_normal (st : St) (k : St → T (Ex × St)) : goOn (.normal, st) k = k st := rfl
theorem goOn_exit (i : Nat) (st : St) (k : St → T (Ex × St)) : goOn (.exit i, st) k = .ret (.exit i, st) := rfl
theorem goOn_ret (st : St) (k : St → T (Ex × St)) : goOn (.ret, st) k = .ret (.ret, st) := rfl

def blockEnd (id : Nat) (r : Ex × St) : T (Ex × St) :=
  match r.1 with
  | .normal => .ret (.normal, r.2)
  | .exit i => .ret (if i = id then .normal else .exit i, r.2)
  | .ret => .ret (.ret, r.2)
theorem blockEnd_normal (id : Nat) (st : St) : blockEnd id (.normal, st) = .ret (.normal, st) := rfl
theorem blockEnd_exit (id i : Nat) (st : St) : blockEnd id (.exit i, st) = .ret (if i = id then .normal else .exit i, st) := rfl
theorem blockEnd_ret (id : Nat) (st : St) : blockEnd id (.ret, st) = .ret (.ret, st) := rfl

def ofCell : Value → Option AV
  | .bool b => some (.bool b)
  | .int k n => some (.int k n)
  | .string s => some (.str s.data.toList)
  | .float k n => some (.flt k n)
  | .pointer none => some .nilptr
  | .slice none 0 0 => some (.slice .nil 0 1 [])
  | .nilIface => some .nilI
  | .nilFunc => some .nilfn
  | _ => none

def ofCells : List Value → Option (List AV)
  | [] => some []
  | v :: r => (ofCell v).bind fun a => (ofCells r).map fun l => a :: l

def ofConst : Value → Option AV
  | .agg cs => (ofCells cs.toList).map .agg
  | v => ofCell v

def AV.cells : AV → List AV
  | .agg xs => xs
  | v => [v]

def Cls.left : Cls → Cls
  | .own _ => .hdr
  | c => c
def Cls.frozen : Cls → Cls
  | .own _ => .frz
  | c => c
def Cls.shared : Cls → Cls
  | .own _ => .own false
  | c => c
def AV.cls (f : Cls → Cls) : AV → AV
  | .slice c e sz xs => .slice (f c) e sz xs
  | v => v
def AV.clsDeep (f : Cls → Cls) : AV → AV
  | .slice c e sz xs => .slice (f c) e sz xs
  | .tup xs => .tup (xs.map (·.cls f))
  | v => v

def AV.kill (t : Nat) : AV → AV
  | .ptr (.loc s) off => if s = t then .undef else .ptr (.loc s) off
  | v => v

def AV.plain : AV → Bool
  | .ptr (.loc _) _ | .tup _ | .skipped | .undef => false
  | _ => true

def AV.isOwn : AV → Bool
  | .slice (.own _) _ _ _ => true
  | _ => false

/-! ### What the interpreter asks of the program's types -/
section
variable (P : Program)
def foff (t : TypeId) (i : Nat) : Option (Nat × TypeId) :=
  match P.underlying t with
  | some (.struct fs) => (fs[i]?).map fun f => (f.offset, f.type)
  | _ => none
def tsize (t : TypeId) : Option Nat := (P.info? t).map (·.size)
def tagg (t : TypeId) : Option Bool :=
  match P.underlying t with
  | some (.struct _) => some true
  | some (.array _ _) => some true
  | some _ => some false
  | none => none
def tzero (t : TypeId) : Option AV := ((P.info? t).bind (·.zero)).bind ofConst
def telem (t : TypeId) : Option (TypeId × Nat × Nat) :=
  match P.underlying t with
  | some (.slice e) =>
    match P.info? e with
    | some i => (match i.zero with
      | some z => if z.cells.size = i.size ∧ 0 < i.size then some (e, i.size, i.bytes) else none
      | none => none)
    | none => none
  | _ => none
def tkind (t : TypeId) : Option Nat :=
  match P.underlying t with
  | some .bool => some 0
  | some (.int _) => some 1
  | some .string => some 2
  | some (.slice _) => some 3
  | some (.pointer _) => some 4
  | some (.interface _) => some 5
  | some (.struct _) => some 6
  | some (.array _ _) => some 7
  | some (.func ..) => some 8
  | some (.float _) => some 9
  | some (.tuple _) => some 10
  | _ => none
def tint (t : TypeId) : Option IntKind :=
  match P.underlying t with
  | some (.int k) => some k
  | _ => none
def tarr (t : TypeId) : Option (Nat × TypeId × Nat) :=
  match P.underlying t with
  | some (.array n e) => (P.info? e).map fun i => (n, e, i.size)
  | _ => none
def tmeths (t : TypeId) : Option (Array (String × TypeId)) :=
  match P.underlying t with
  | some (.interface ms) => some ms
  | _ => none
def hasAll (want : Array (String × TypeId)) (got : Array Method) : Bool := want.toList.all fun q => got.any fun m => m.name == q.1 && m.sig == q.2
def implBy (want : Array (String × TypeId)) : List TypeId :=
  (List.range P.types.size).filter fun t => match P.info? t with
    | some i => hasAll want i.methods
    | none => false
def implNot (want : Array (String × TypeId)) : List TypeId :=
  (List.range P.types.size).filter fun t => match P.info? t with
    | some i => !i.methods.isEmpty && !hasAll want i.methods
    | none => false
def methBy (name : String) : List (TypeId × FuncId) :=
  (List.range P.types.size).filterMap fun t => match P.types[t]? with
    | some i => (match i.methods.find? (·.name == name) with
      | some m => (match m.func with
        | some (f, pr) => if m.path.isEmpty && (pr == (tkind P t == some 4)) then some (t, f) else none
        | none => none)
      | none => none)
    | none => none
def towns (t : TypeId) : Bool :=
  match tkind P t with
  | some 3 => true
  | some 10 => true
  | _ => false
end

def placesOf (P : Program) : List Field → Option (List (Nat × Nat × Bool))
  | [] => some []
  | f :: r => (tsize P f.type).bind fun n => (placesOf P r).map fun l => (f.offset, n, towns P f.type) :: l
def tplaces (P : Program) (t : TypeId) : Option (List (Nat × Nat × Bool)) :=
  match P.underlying t with
  | some (.struct fs) => placesOf P fs.toList
  | _ => none

/-! ### How a slot's slice is handed on -/

def taken (sig : FuncId → Nat → Nat) (ops : List Oper) (t : Tmp) : Bool :=
  ops.any fun o => match o.op with
    | .assign (.tmp x) => x == t
    | .store _ _ (.tmp x) => x == t
    | .call { callee := .builtin .append, args, .. } => (match args.toList with | .tmp x :: _ => x == t | _ => false)
    | .call { callee := .value (.func f), args, .. } => args.toList.zipIdx.any fun (a, i) => (match a with | .tmp x => x == t | _ => false) && sig f i % 2 == 1
    | _ => false

def looked (ops : List Oper) : Nat → Tmp → Bool
  | 0, _ => true
  | k + 1, t => ops.any fun o => match o.op with
    | .call { callee := .builtin .len, .. } => false
    | .call { callee := .builtin .cap, .. } => false
    | .binOp .eql _ _ _ _ => false
    | .binOp .neq _ _ _ _ => false
    | .slice _ (.tmp x) _ _ _ => x == t && (match o.dst with | some d => looked ops k d | none => true)
    | op => op.operands.any fun | .tmp x => x == t | _ => false

inductive Mode where
  | take
  | look
  | head
  deriving DecidableEq

def modeOf (sig : FuncId → Nat → Nat) (ops : List Oper) (d : Option Tmp) : Mode :=
  match d with
  | none => .head
  | some t => if taken sig ops t then .take else if looked ops 8 t then .look else .head

/-! ### Values handed on -/
def gvV : AV → AV := AV.cls .frozen
def lfV : AV → AV := AV.clsDeep .left
def hdV : AV → AV := AV.clsDeep .left
def cpV (m : Mode) (v : AV) : AV :=
  match v with
  | .slice c e sz xs => (match m with
    | .take => .slice c e sz xs
    | .look => .slice c.frozen e sz xs
    | .head => .slice c.left e sz xs)
  | v => v
def cpS (m : Mode) (v : AV) : AV :=
  match v with
  | .slice c e sz xs => (match m with
    | .take => .slice c.left e sz xs
    | .look => .slice c.shared e sz xs
    | .head => .slice c e sz xs)
  | .tup vs => .tup (vs.map (·.cls .left))
  | v => v

end Go.Proofs.YticoldgiebmmgaaGreatDoor.Abs

/- The abstract interpreter: the code made ready (its types asked, the ways of use told), operations, regions, code, calls. -/
namespace Go.Proofs.YticoldgiebmmgaaGreatDoor.Abs
set_option linter.all false

def tooLong : Nat := 140737488355328

inductive AX where
  | t (n : Nat)
  | m (n : Nat)
  | u (n : Nat)
  | f (n : Nat)
  | p (n : Nat)
  | c (v : AV)
  deriving Inhabited

def AX.isU : AX → Bool
  | .u _ => true
  | _ => false

inductive XOp where
  | ixArr (n sz : Nat)
  | slArr (n e sz : Nat)
  | ixAgg (agg : Bool) (n m sz : Nat)
  | tassert (t : TypeId) (z : AV) (ok : Bool)
  | tassertI (z : AV) (ok : Bool) (yes no : List TypeId)
  | minmax (mx : Bool)
  | fb (k : Nat)
  | eqArr (neg : Bool) (n : Nat) (k : IntKind)
  | idxB
  | rStr
  deriving Inhabited

inductive AOp where
  | move (m : Mode) (x : AX)
  | assign (x : AX)
  | pick (c a b : AX)
  | newbox (d : Nat) (cs : List AV)
  | newbox1 (d : Nat) (cs : List AV)
  | newobj (cs : List AV)
  | box (d : Nat) (x : AX)
  | boxobj (x : AX)
  | build (z : List AV) (parts : List (Nat × Nat × AX))
  | buildSl (e sz : Nat) (z : List AV) (parts : List (Nat × Nat × AX))
  | load (m : Mode) (agg : Bool) (n : Nat) (x : AX)
  | store (n : Nat) (x y : AX)
  | nilCheck (x : AX)
  | bin (op : BinOp) (kd : Nat) (lit : Bool) (x y : AX)
  | un (op : UnOp) (x : AX)
  | convInt (k : IntKind) (x : AX)
  | convBS (x : AX)
  | convSB (e : Nat) (x : AX)
  | convSS (x : AX)
  | convSR (e : Nat) (x : AX)
  | mkIface (t : TypeId) (x : AX)
  | sliceStr (x : AX) (lo hi : Option AX)
  | sliceSl (sz : Nat) (x : AX) (lo hi : Option AX)
  | fieldAddr (off : Nat) (x : AX)
  | field (agg : Bool) (n off : Nat) (x : AX)
  | indexAddr (sz : Nat) (x i : AX)
  | indexStr (x i : AX)
  | extract (t i : Nat)
  | len (str : Bool) (x : AX)
  | cap (x : AX)
  | append (e sz bytes : Nat) (str : Bool) (x y : AX)
  | range (d : Nat) (x : AX)
  | next (x : AX)
  | mkSl (obj : Bool) (e sz bytes : Nat) (z : List AV) (x c : AX)
  | copyB (sz : Nat) (str : Bool) (x y : AX)
  | px (o : XOp) (args : List AX)
  | dcall (hc : Bool) (tbl : Option (List (TypeId × FuncId))) (x : AX) (args : List (AX × Bool))
  | call (f : FuncId) (args : List (AX × Bool))
  | hcall (f : FuncId) (args : List (AX × Bool))
  | dead
  deriving Inhabited

structure AOper where
  op : AOp
  dst : Option Nat
  guard : Option (Nat × Bool)
  deriving Inhabited

def AX.slots : AX → List Nat
  | .t n => [n]
  | .m n => [n]
  | .u n => [n]
  | .f n => [n]
  | .p n => [n]
  | .c _ => []
def AOp.foot : AOp → Option (List Nat)
  | .move _ x => some x.slots
  | .assign x => some x.slots
  | .nilCheck x => some x.slots
  | .bin _ _ _ x y => some (x.slots ++ y.slots)
  | .un _ x => some x.slots
  | .convInt _ x => some x.slots
  | .convBS x => some x.slots
  | .convSS x => some x.slots
  | .convSB _ x => some x.slots
  | .convSR _ x => some x.slots
  | .mkIface _ x => some x.slots
  | .fieldAddr _ x => some x.slots
  | .field _ _ _ x => some x.slots
  | .len _ x => some x.slots
  | .indexStr x i => some (x.slots ++ i.slots)
  | .append _ _ _ _ x y => some (x.slots ++ y.slots)
  | .build _ parts => some (parts.flatMap fun q => q.2.2.slots)
  | .buildSl _ _ _ parts => some (parts.flatMap fun q => q.2.2.slots)
  | .call _ args => some (args.flatMap fun q => q.1.slots)
  | .mkSl false _ _ _ _ x c => some (x.slots ++ c.slots)
  | .px (.minmax _) args => some (args.flatMap AX.slots)
  | .px (.fb _) args => some (args.flatMap AX.slots)
  | .px (.eqArr ..) args => some (args.flatMap AX.slots)
  | .px .idxB args => some (args.flatMap AX.slots)
  | .px .rStr args => some (args.flatMap AX.slots)
  | .px (.ixAgg ..) args => some (args.flatMap AX.slots)
  | .px (.tassert ..) args => some (args.flatMap AX.slots)
  | .px (.tassertI ..) args => some (args.flatMap AX.slots)
  | .extract t _ => some [t]
  | _ => none

def AX.still : AX → Bool
  | .m _ => false
  | .u _ => false
  | .f _ => false
  | _ => true
def AOp.still : AOp → Bool
  | .move _ x => x.still
  | .assign x => x.still
  | .convBS x => x.still
  | .mkIface _ x => x.still
  | .append _ _ _ _ x _ => x.still
  | .build _ parts => parts.all fun q => q.2.2.still
  | .buildSl _ _ _ parts => parts.all fun q => q.2.2.still
  | .call _ args => args.all fun q => q.1.still
  | _ => true

def swapOk (x y : AOper) : Bool :=
  match x.guard, y.guard, x.dst, y.dst, x.op.foot, y.op.foot with
  | none, none, some dx, some dy, some fx, some fy => x.op.still && y.op.still && ((dx :: fx).all fun m => !(dy :: fy).contains m)
  | _, _, _, _, _, _ => false

inductive ACode where
  | skip
  | ops (l : List AOper) (k : ACode)
  | seq (a k : ACode)
  | cond (c : AX) (a b : ACode)
  | block (id : Nat) (a : ACode)
  | loop (a : ACode)
  | exit (id : Nat)
  | ret
  deriving Inhabited

inductive ARes where
  | tmp (t : Nat)
  | cell (t : Nat) (agg : Bool) (n : Nat)
  deriving Inhabited

structure AFunc where
  n : Nat
  code : ACode
  res : List ARes
  x : List AV → H → Option AV
  deriving Inhabited

/-! ### Making ready -/
section
variable (P : Program) (sig : FuncId → Nat → Nat) (hs : Nat → Nat)

def pX (own : Bool) : Operand → Option AX
  | .tmp t => some (if own then .t t else .p t)
  | .const v => (ofConst v).map .c
  | .func f => some (.c (.fn f))
  | .global g => some (.c (.gl g))

def pXm (m : Nat) (own : Bool) (x : Operand) : Option AX :=
  match m, x with
  | 1, .tmp t => some (.m t)
  | 2, .tmp t => some (.u t)
  | 3, .tmp t => some (.f t)
  | _, x => pX own x

def pOpt : Option Operand → Option (Option AX)
  | none => some none
  | some x => (pX false x).map some

def pParts (place : Nat → Option (Nat × Nat × Bool)) : List (Nat × Operand) → Option (List (Nat × Nat × AX))
  | [] => some []
  | (i, x) :: r => (place i).bind fun (off, n, w) => (pX w x).bind fun a => (pParts place r).map fun l => (off, n, a) :: l

def pArgs (f : FuncId) : Nat → List Operand → List TypeId → Option (List (AX × Bool))
  | _, [], _ => some []
  | i, x :: r, ts => (pXm (sig f i - 1) (towns P (ts.headD 0)) x).bind fun a => (pArgs f (i + 1) r ts.tail).map fun l => (a, sig f i % 2 == 1) :: l

def repCells (n : Nat) (z : List AV) : List AV := (List.replicate n z).flatten

def hsOf (hs : Nat → Nat) : Option Nat → Nat
  | none => 0
  | some d => hs d

def isLit : Operand → Bool
  | .const _ => true
  | _ => false

def zeroByte (e : TypeId) : Bool :=
  match tzero P e with
  | some (.int .u8 0) => true
  | _ => false

def pOp0 (all : List Oper) (o : Oper) : Option AOp :=
  match o.op with
  | .move x => (pXm (hsOf hs o.dst) (towns P o.type) x).map (.move (if hsOf hs o.dst = 5 then .look else modeOf sig all o.dst))
  | .assign x => (pX (towns P o.type) x).map .assign
  | .pick c a b => (pX false c).bind fun c => (pX (towns P o.type) a).bind fun a => (pX (towns P o.type) b).map fun b => .pick c a b
  | .alloc t => o.dst.bind fun d => (tzero P t).map fun z => if hs d = 4 then .newbox1 d z.cells else if hs d ≠ 0 then .newobj z.cells else .newbox d z.cells
  | .box t x => o.dst.bind fun d => (pX (towns P t) x).map fun a => if hs d ≠ 0 then .boxobj a else .box d a
  | .build t parts => (tzero P t).bind fun z => if tkind P t = some 6 then
      (tplaces P t).bind fun pl => (pParts (fun i => (pl[i]?).map fun q => (q.1, q.2.1, q.2.2)) parts.toList).map (.build z.cells) else none
  | .buildSlice t n parts => (telem P t).bind fun (e, sz, _) => (tzero P e).bind fun z => if n * sz ≤ 65536 ∧ z.cells.length = sz then
      (pParts (fun i => some (i * sz, sz, towns P e)) parts.toList).map (.buildSl e sz (repCells n z.cells)) else none
  | .load t x => (tagg P t).bind fun a => (tsize P t).bind fun n => (pX false x).map (.load (modeOf sig all o.dst) a n)
  | .store t x y => (tsize P t).bind fun n => (pX false x).bind fun x => (pX (towns P t) y).map (.store n x)
  | .nilCheck x => (pX false x).map .nilCheck
  | .binOp op t x y _ => (tkind P t).bind fun kd => (pX false x).bind fun a => (pX false y).map fun b => .bin op kd (isLit x || isLit y) a b
  | .unOp op _ x => (pX false x).map (.un op)
  | .convert s d x => match tkind P s, tkind P d with
    | some 1, some 1 => (pX false x).bind fun a => (tint P d).map fun k => .convInt k a
    | some 3, some 2 => (pX true x).bind fun a => (telem P s).bind fun (e, sz, _) => if sz = 1 ∧ tint P e = some .u8 then some (.convBS a) else none
    | some 2, some 3 => (pX false x).bind fun a => (telem P d).bind fun (e, sz, _) => if sz = 1 ∧ tint P e = some .u8 then some (.convSB e a) else none
    | some 2, some 2 => (pX false x).bind fun a => some (.convSS a)
    | _, _ => none
  | .makeInterface t x => (tkind P t).bind fun kd => if kd = 5 then none else (pX (towns P t) x).map (.mkIface t)
  | .slice t x lo hi none => (pOpt lo).bind fun lo => (pOpt hi).bind fun hi => match tkind P t with
    | some 2 => (pX false x).bind fun a => some (.sliceStr a lo hi)
    | some 3 => (pXm (hsOf hs o.dst) true x).bind fun a => (telem P t).map fun (_, sz, _) => .sliceSl sz a lo hi
    | _ => none
  | .fieldAddr t x i => (foff P t i).bind fun (off, u) => (tsize P u).bind fun n => if n = 0 then none else (pX false x).map (.fieldAddr off)
  | .field t x i => (foff P t i).bind fun (off, u) => (tagg P u).bind fun a => (tsize P u).bind fun n => (pX false x).map (.field a n off)
  | .indexAddr t x i => (telem P t).bind fun (_, sz, _) => (pXm (hsOf hs o.dst) true x).bind fun a => (pX false i).map (.indexAddr sz a)
  | .index t x i => if tkind P t = some 2 then (pX false x).bind fun a => (pX false i).map (.indexStr a) else none
  | .extract (.tmp t) i => some (.extract t i)
  | .call { callee := .builtin .len, args, argTypes } => (match args.toList, argTypes.toList with
    | [x], [t] => (tkind P t).bind fun kd => if kd = 2 then (pX false x).map (.len true) else if kd = 3 then (pX false x).map (.len false) else none
    | _, _ => none)
  | .call { callee := .builtin .append, args, argTypes } => (match args.toList, argTypes.toList with
    | [x, y], [t, u] => (telem P t).bind fun (e, sz, bytes) => (pXm (hsOf hs o.dst) true x).bind fun a => (pX false y).bind fun b =>
      if t = u then some (.append e sz bytes false a b) else if sz = 1 ∧ bytes = 1 ∧ tkind P u = some 2 ∧ tint P e = some .u8 ∧ zeroByte P e = true then some (.append e sz bytes true a b) else none
    | _, _ => none)
  | .range t x => o.dst.bind fun d => if tkind P t = some 2 then (pX false x).map (.range d) else none
  | .next x true => (pX false x).map .next
  | .makeSlice t x c => (telem P t).bind fun (e, sz, bytes) => (tzero P e).bind fun z => if z.cells.length = sz then (pX false x).bind fun x => (pX false c).map fun c => .mkSl (hsOf hs o.dst != 0) e sz bytes z.cells x c else none
  | .call { callee := .builtin .copy, args, argTypes } => (match args.toList, argTypes.toList with
    | [x, y], [t, u] => (telem P t).bind fun (e, sz, _) => (pXm 1 true x).bind fun a => (pX false y).bind fun b =>
      if t = u then some (.copyB sz false a b) else if sz = 1 ∧ tkind P u = some 2 ∧ tint P e = some .u8 then some (.copyB sz true a b) else none
    | _, _ => none)
  | .call { callee := .value (.func f), args, argTypes } => (pArgs P sig f 0 args.toList argTypes.toList).map fun l => if sig f 99 == 1 || hsOf hs o.dst == 6 then .hcall f l else .call f l
  | _ => none

def extOf (fn : Func) : Option Nat :=
  if fn.body.isNone && fn.origin == "" then
    if fn.name == "math.Float64bits" then some 0 else if fn.name == "math.Float64frombits" then some 1 else if fn.name == "math.Float32bits" then some 2 else if fn.name == "math.Float32frombits" then some 3 else if fn.name == "internal/bytealg.IndexByte" then some 4 else none
  else none
def pOp1 (o : Oper) : Option AOp :=
  match o.op with
  | .indexAddr t x i => (tarr P t).bind fun (n, _, sz) => (pX false x).bind fun a => (pX false i).map fun b => .px (.ixArr n sz) [a, b]
  | .slice t x lo hi none => (tarr P t).bind fun (n, e, sz) => if sz = 0 then none else (pX false x).bind fun a => (pOpt lo).bind fun lo => (pOpt hi).map fun hi =>
      .px (.slArr n e sz) [a, lo.getD (.c (.int .i64 0)), hi.getD (.c (.int .i64 n))]
  | .index t x i => (tarr P t).bind fun (n, e, sz) => (tagg P e).bind fun ag => (pX false x).bind fun a => (pX false i).map fun b => .px (.ixAgg ag n sz sz) [a, b]
  | .typeAssert x _ t ok => (tkind P t).bind fun kd => (tzero P t).bind fun z => (pX false x).bind fun a =>
      if kd = 5 then (tmeths P t).map fun ms => .px (.tassertI z ok (implBy P ms) (implNot P ms)) [a] else some (.px (.tassert t z ok) [a])
  | .call { callee := .builtin .min, args, argTypes } => (match args.toList, argTypes.toList with
    | [x, y], [t, _] => if tkind P t = some 1 then (pX false x).bind fun a => (pX false y).map fun b => .px (.minmax false) [a, b] else none
    | _, _ => none)
  | .call { callee := .builtin .max, args, argTypes } => (match args.toList, argTypes.toList with
    | [x, y], [t, _] => if tkind P t = some 1 then (pX false x).bind fun a => (pX false y).map fun b => .px (.minmax true) [a, b] else none
    | _, _ => none)
  | .build t parts => (tarr P t).bind fun (_, _, sz) => (tzero P t).bind fun z =>
      (pParts (fun i => some (i * sz, sz, false)) parts.toList).map (.build z.cells)
  | .call { callee := .builtin .cap, args, argTypes } => (match args.toList, argTypes.toList with
    | [x], [t] => if tkind P t = some 3 then (pX false x).map .cap else none
    | _, _ => none)
  | .call { callee := .value (.tmp f), args, argTypes } => (pArgs P (fun _ _ => 0) 0 0 args.toList argTypes.toList).map fun l => .dcall (hsOf hs o.dst == 3) none (.p f) l
  | .call { callee := .value (.func f), args, argTypes := _ } => (P.funcs[f]?).bind fun fn => (extOf fn).bind fun k => (match args.toList with
    | [x] => (pX false x).map fun a => .px (.fb k) [a]
    | [x, y] => if k = 4 then (pX false x).bind fun a => (pX false y).map fun b => .px .idxB [a, b] else none
    | _ => none)
  | .binOp op t x y _ => (tarr P t).bind fun (n, e, sz) => (tint P e).bind fun k => if sz = 1 ∧ P.eqGuardType P.depth t = false then
      (match op with
      | .eql => (pX false x).bind fun a => (pX false y).map fun b => .px (.eqArr false n k) [a, b]
      | .neq => (pX false x).bind fun a => (pX false y).map fun b => .px (.eqArr true n k) [a, b]
      | _ => none) else none
  | .convert s d x => (match tkind P s, tkind P d with
    | some 3, some 2 => (telem P s).bind fun (e, sz, _) => if sz = 1 ∧ tint P e = some .i32 then (pX false x).map fun a => .px .rStr [a] else none
    | some 2, some 3 => (telem P d).bind fun (e, sz, _) => if sz = 1 ∧ tint P e = some .i32 then (pX false x).map (.convSR e) else none
    | _, _ => none)
  | _ => none

def pOpA (all : List Oper) (o : Oper) : Option AOp :=
  match pOp1 P hs o with
  | some x => some x
  | none => pOp0 P sig hs all o

def pOp (all : List Oper) (o : Oper) : AOp := (pOpA P sig hs all o).getD .dead

def dstIn (n : Nat) : Option Nat → Bool
  | none => true
  | some d => decide (d < n)

def pOper (n : Nat) (all : List Oper) (o : Oper) : Option AOper :=
  if dstIn n o.dst then
    match o.guard with
    | none => some ⟨pOp P sig hs all o, o.dst, none⟩
    | some (j, want) => ((all[j]?).bind (·.dst)).map fun d => ⟨pOp P sig hs all o, o.dst, some (d, want)⟩
  else none

def pOpers (n : Nat) (all : List Oper) : List Oper → Option (List AOper)
  | [] => some []
  | o :: r => (pOper P sig hs n all o).bind fun a => (pOpers n all r).map (a :: ·)

def boxOk (x y : AOper) : Bool :=
  match y.op, y.guard, y.dst, x.guard, x.dst, x.op.foot with
  | .newbox1 d _, none, some d', none, some dx, some fx => d' == d && x.op.still && !(dx == d) && !fx.contains d
  | _, _, _, _, _, _ => false

/-! A region whose order is left open: one order, of which the soundness shows that it stands for all. -/

def AOp.early : AOp → Bool
  | .assign x => !x.isU
  | .move .. | .pick .. | .load .. | .nilCheck _ | .bin .. | .un .. | .convInt .. | .convBS _ | .convSS _ | .mkIface .. | .sliceStr .. | .sliceSl .. | .fieldAddr .. | .field .. | .indexAddr ..
  | .indexStr .. | .extract .. | .len .. | .px .. => true
  | _ => false
def AOp.pure : AOp → Bool
  | .load _ _ _ (.c (.gl _)) => true
  | .load .. => false
  | .convBS _ => false
  | .px .idxB _ => false
  | .px .rStr _ => false
  | x => x.early
def AOp.calm : AOp → Bool
  | .mkSl obj _ _ _ _ _ _ => !obj
  | .append _ _ _ _ x _ => !x.isU
  | .call _ args => args.all fun q => !q.1.isU
  | .buildSl .. | .build .. | .convSB .. | .convSR .. | .newbox1 .. | .dead => true
  | _ => false

def isSelect (o : Oper) : Bool :=
  match o.op with
  | .select .. => true
  | _ => false

def freeAt (ops : Array Oper) (listed : Array Bool) (i : Nat) (oi : Oper) : Bool :=
  (List.range ops.size).all fun j => j == i || listed.getD j true || (match ops[j]? with
    | none => true
    | some oj => oj.after.any (fun e => Region.binds .any e && e.on == i) || oi.apart ops oj)

def bubble (ops : Array Oper) (j : Nat) : List Nat → Option (List Nat)
  | [] => none
  | m :: t => if m = j then some t else
    match ops[m]?, ops[j]? with
    | some om, some oj => if om.guard.isNone && oj.guard.isNone && (swapOk ⟨pOp P sig hs ops.toList om, om.dst, none⟩ ⟨pOp P sig hs ops.toList oj, oj.dst, none⟩ || boxOk ⟨pOp P sig hs ops.toList om, om.dst, none⟩ ⟨pOp P sig hs ops.toList oj, oj.dst, none⟩) then (bubble ops j t).map (m :: ·) else none
    | _, _ => none

def waitsFor (ops : Array Oper) (i : Nat) : List Bool :=
  ops.toList.foldl (fun acc o => acc ++ [o.after.any fun e => Region.binds .any e && (e.on == i || acc.getD e.on false)]) []

def barB (pu : Nat → Bool) (ops : Array Oper) (i : Nat) : Bool :=
  (List.range ops.size).all fun j => j == i || pu j || (waitsFor ops j).getD i false || (waitsFor ops i).getD j false

def pureAt (ops : Array Oper) (i : Nat) : Bool :=
  match ops[i]? with
  | some o => (pOp P sig hs ops.toList o).pure
  | none => false

def canonGo (ops : Array Oper) : Nat → Array Bool → Option (List Nat)
  | 0, listed => if Region.ready .any ops listed = [] then some [] else none
  | fuel + 1, listed =>
    match Region.ready .any ops listed with
    | [] => some []
    | r => match r.find? (fun i => (match ops[i]? with
        | some oi => (pOp P sig hs ops.toList oi).early && freeAt ops listed i oi
        | none => false)) with
      | some i => (canonGo ops fuel (listed.setIfInBounds i true)).map (i :: ·)
      | none => match r with
        | [i] => (match ops[i]? with
          | some oi => if (pOp P sig hs ops.toList oi).calm || barB (pureAt P sig hs ops) ops i then (canonGo ops fuel (listed.setIfInBounds i true)).map (i :: ·) else none
          | none => none)
        | [i, j] => (match ops[i]?, ops[j]? with
          | some oi, some oj =>
            if (pOp P sig hs ops.toList oi).calm && (pOp P sig hs ops.toList oj).calm then
              (canonGo ops fuel (listed.setIfInBounds i true)).bind fun l1 => (canonGo ops fuel (listed.setIfInBounds j true)).bind fun l2 =>
                if bubble P sig hs ops j (i :: l1) = some l2 then some (i :: l1) else if bubble P sig hs ops i (j :: l2) = some l1 then some (j :: l2) else none
            else none
          | _, _ => none)
        | _ => none

def getAll (ops : Array Oper) : List Nat → Option (List Oper)
  | [] => some []
  | i :: r => (ops[i]?).bind fun o => (getAll ops r).map (o :: ·)

def canonOf (ops : Array Oper) : Option (List Oper) :=
  if ops.toList.any isSelect then none else (canonGo P sig hs ops ops.size (Array.replicate ops.size false)).bind (getAll ops)

def andThen (a k : ACode) : ACode :=
  match k with
  | .skip => a
  | k => .seq a k

def deadCode : ACode := .ops [⟨.dead, none, none⟩] .skip

def pCode (n : Nat) : Code → ACode → Option ACode
  | .skip, k => some k
  | .region _ ops draw, k => (match (if draw then canonOf P sig hs ops else some ops.toList) with
    | some l => (pOpers P sig hs n ops.toList l).map (.ops · k)
    | none => some deadCode)
  | .seq a b, k => (pCode n b k).bind fun b => pCode n a b
  | .cond c a b, k => (pX false c).bind fun c => (pCode n a .skip).bind fun a => (pCode n b .skip).map fun b => andThen (.cond c a b) k
  | .block id a, k => (pCode n a .skip).map fun a => andThen (.block id a) k
  | .loop a, k => (pCode n a .skip).map fun a => andThen (.loop a) k
  | .exit id, _ => some (.exit id)
  | .ret, _ => some .ret
  | _, _ => some deadCode

def pRes : List ResultVar → Option (List ARes)
  | [] => some []
  | .tmp t :: r => (pRes r).map (.tmp t :: ·)
  | .cell t ty :: r => (tagg P ty).bind fun a => (tsize P ty).bind fun n => (pRes r).map (.cell t a n :: ·)

def pFunc (fn : Func) : Option AFunc :=
  fn.body.bind fun c => (pCode P sig hs fn.ntmps c .ret).bind fun c => (pRes P fn.results.toList).map fun r => ⟨fn.ntmps, c, r, fun _ _ => none⟩
end

/-! ### What single operations give -/

def splice (xs : List AV) (i : Nat) (ys : List AV) : List AV := xs.take i ++ ys ++ xs.drop (i + ys.length)

def pln (v : AV) : Option Unit := if v.plain then some () else none

def AV.several : AV → Bool
  | .tup _ => true
  | _ => false
def pkV (c a b : AV) : Option AV :=
  match c with
  | .bool true => if a.several then none else some a
  | .bool false => if b.several then none else some b
  | _ => none

def aInt (op : BinOp) (k : IntKind) (x y : Int) : Option AV :=
  match op with
  | .add => some (.int k (k.wrap (x + y)))
  | .sub => some (.int k (k.wrap (x - y)))
  | .mul => some (.int k (k.wrap (x * y)))
  | .quo => if y = 0 then none else some (.int k (k.wrap (x.tdiv y)))
  | .rem => if y = 0 then none else some (.int k (x.tmod y))
  | .and => some (.int k (k.wrap (BitVec.ofInt k.bits x &&& BitVec.ofInt k.bits y).toNat))
  | .or => some (.int k (k.wrap (BitVec.ofInt k.bits x ||| BitVec.ofInt k.bits y).toNat))
  | .xor => some (.int k (k.wrap (BitVec.ofInt k.bits x ^^^ BitVec.ofInt k.bits y).toNat))
  | .andNot => some (.int k (k.wrap (BitVec.ofInt k.bits x &&& ~~~(BitVec.ofInt k.bits y)).toNat))
  | .eql => some (.bool (x == y))
  | .neq => some (.bool (x != y))
  | .lss => some (.bool (decide (x < y)))
  | .leq => some (.bool (decide (x ≤ y)))
  | .gtr => some (.bool (decide (x > y)))
  | .geq => some (.bool (decide (x ≥ y)))
  | _ => none

def aShift (op : BinOp) (k : IntKind) (x y : Int) : Option AV :=
  if y < 0 then none else
  match op with
  | .shl => some (.int k (k.wrap (x * 2 ^ (min y.toNat k.bits))))
  | .shr => some (.int k (x.fdiv (2 ^ (min y.toNat k.bits))))
  | _ => none

def aStr (op : BinOp) (x y : List UInt8) : Option AV :=
  match op with
  | .add => if x.length + y.length ≤ maxLen then some (.str (x ++ y)) else none
  | .eql => some (.bool (x == y))
  | .neq => some (.bool (!(x == y)))
  | .lss => some (.bool (Op.bytesLess x y))
  | .leq => some (.bool (Op.bytesLess x y || x == y))
  | .gtr => some (.bool (!(Op.bytesLess x y || x == y)))
  | .geq => some (.bool (!(Op.bytesLess x y)))
  | _ => none

def aEq (kd : Nat) (lit : Bool) (x y : AV) : Option Bool :=
  match kd, x, y with
  | 0, .bool a, .bool b => some (a == b)
  | 3, .slice .nil _ _ _, .slice .nil _ _ _ => some true
  | 3, .slice .nil _ _ _, .slice _ _ _ _ => some false
  | 3, .slice _ _ _ _, .slice .nil _ _ _ => some false
  | 4, .nilptr, .nilptr => some true
  | 4, .nilptr, .ptr _ _ => some false
  | 4, .ptr _ _, .nilptr => some false
  | 4, .nilptr, .eptr _ => some false
  | 4, .eptr _, .nilptr => some false
  | 5, .nilI, .iface _ _ => some false
  | 5, .iface _ _, .nilI => some false
  | 5, .nilI, .nilI => if lit then some true else none
  | _, _, _ => none

def aBin (op : BinOp) (kd : Nat) (lit : Bool) (x y : AV) : Option AV :=
  match x, y with
  | .int k a, .int k' b => (match op with
    | .shl => aShift .shl k a b
    | .shr => aShift .shr k a b
    | op => if k = k' then aInt op k a b else none)
  | .str a, .str b => aStr op a b
  | x, y => (match op with
    | .eql => (aEq kd lit x y).map .bool
    | .neq => (aEq kd lit x y).map fun b => .bool (!b)
    | _ => none)

def aUn (op : UnOp) (x : AV) : Option AV :=
  match op, x with
  | .neg, .int k n => some (.int k (k.wrap (0 - n)))
  | .xor, .int k n => aInt .xor k (if k.signed then -1 else k.max) n
  | .not, .bool b => some (.bool !b)
  | _, _ => none

def bytesOf : List AV → Option (List UInt8)
  | [] => some []
  | .int .u8 n :: r => (bytesOf r).map (UInt8.ofNat n.toNat :: ·)
  | _ => none

def byteCells (l : List UInt8) : List AV := l.map fun b => .int .u8 b.toNat

def fillV (cs : List AV) (off n : Nat) (v : AV) : Option (List AV) :=
  if v.plain && v.cells.length == n && decide (off + n ≤ cs.length) then some (splice cs off v.cells) else none

def ldO (m : Mode) (agg : Bool) (n off : Nat) (ob : Obj) : Option (AV × Obj) :=
  match ob, agg with
  | .cells cs, true => if off + n ≤ cs.length then some (.agg (((cs.drop off).take n).map gvV), .cells (splice cs off (((cs.drop off).take n).map gvV))) else none
  | .cells cs, false => (cs[off]?).map fun v => (cpV m v, .cells (splice cs off [cpS m v]))
  | .row e sz cp cs, true => if off + n ≤ cs.length then some (.agg ((cs.drop off).take n), .row e sz cp cs) else none
  | .row e sz cp cs, false => (cs[off]?).map fun v => (v, .row e sz cp cs)
  | .ro cs, true => if off + n ≤ cs.length then some (.agg ((cs.drop off).take n), .ro cs) else none
  | .ro cs, false => (cs[off]?).map fun v => (v, .ro cs)
  | .iter .., _ => none
def glV (agg : Bool) (n : Nat) (x : Option (List AV)) : Option AV :=
  match x, agg with
  | some ys, true => if n ≤ ys.length then some (.agg (ys.take n)) else none
  | some (y :: _), false => some y
  | none, true => if n = 0 then some (.agg []) else none
  | _, _ => none
def ldV (m : Mode) (agg : Bool) (n : Nat) (p : AV) (st : St) : Option (AV × St) :=
  match p, agg with
  | .ptr k off, agg => (st.at k).bind fun ob => (ldO m agg n off ob).map fun q => (q.1, st.setAt k q.2)
  | .eptr ys, true => if n ≤ ys.length then some (.agg (ys.take n), st) else none
  | .eptr (y :: _), false => some (y, st)
  | .gl g, agg => (glV agg n (st.h.Γ g)).map fun v => (v, st)
  | _, _ => none

def stO (n off : Nat) (v : AV) (ob : Obj) : Option Obj :=
  match ob with
  | .cells cs => if v.plain && v.cells.length == n && decide (off + n ≤ cs.length) then some (.cells (splice cs off v.cells)) else none
  | .row e sz cp cs => if v.plain && !v.isOwn && v.cells.length == n && decide (off + n ≤ cs.length) then some (.row e sz cp (splice cs off v.cells)) else none
  | _ => none
def stV (n : Nat) (p : AV) (v : AV) (st : St) : Option St :=
  match p with
  | .ptr k off => (st.at k).bind fun ob => (stO n off v ob).map fun ob' => st.setAt k ob'
  | _ => none

def hcells (h : H) (i k m : Nat) : Option (List AV) :=
  match h.get i with
  | some (.cells cs) => if k + m ≤ cs.length ∧ cs.all (fun c => !c.isOwn) = true then some ((cs.drop k).take m) else none
  | some (.row _ _ _ cs) => if k + m ≤ cs.length then some ((cs.drop k).take m) else none
  | some (.ro cs) => if k + m ≤ cs.length then some ((cs.drop k).take m) else none
  | _ => none

def aIdx : AV → Option Int
  | .int _ n => some n
  | _ => none

def nnV : AV → Option AV
  | .ptr k off => some (.ptr k off)
  | .eptr ys => some (.eptr ys)
  | .fn f => some (.fn f)
  | _ => none

def aPart (agg : Bool) (n : Nat) (off : Nat) : AV → Option AV
  | .agg xs => if agg then (if off + n ≤ xs.length then some (.agg ((xs.drop off).take n)) else none) else xs[off]?
  | _ => none

def slStr (v : AV) (l : Option Int) (h : Option Int) : Option AV :=
  match v, l, h with
  | .str s, some l, some h => if 0 ≤ l ∧ l ≤ h ∧ h ≤ s.length then some (.str ((s.drop l.toNat).take (h.toNat - l.toNat))) else none
  | _, _, _ => none

def roomTo (h : H) (i : Nat) (to : Nat) : Bool :=
  match h.get i with
  | some (.row _ _ (some N) _) => decide (to ≤ N)
  | _ => false
def slSl (hp : H) (sz' : Nat) (v : AV) (l : Option Int) (h : Option Int) : Option AV :=
  match v, l, h with
  | .slice c e sz xs, some l, some h =>
    if 0 ≤ l ∧ l ≤ h ∧ h ≤ ((xs.length / sz : Nat) : Int) ∧ (c = .nil ∨ sz = sz') then some (.slice c e sz ((xs.drop (l.toNat * sz)).take ((h.toNat - l.toNat) * sz))) else none
  | .hsl i k e sz n, some l, some h =>
    if 0 ≤ l ∧ l ≤ h ∧ (h ≤ (n : Int) ∨ ((k = 0 ∨ 0 < n) ∧ roomTo hp i (k + h.toNat * sz) = true)) ∧ sz = sz' then some (.hsl i (k + l.toNat * sz) e sz (h.toNat - l.toNat)) else none
  | _, _, _ => none

def lenV : AV → Option Int
  | .str s => some s.length
  | .slice _ _ sz xs => some ((xs.length / sz : Nat) : Int)
  | .hsl _ _ _ _ n => some (n : Int)
  | _ => none

def aLen (str : Bool) (v : AV) : Option AV :=
  match v, str with
  | .str s, true => some (.int .i64 s.length)
  | .slice _ _ sz xs, false => some (.int .i64 ((xs.length / sz : Nat) : Int))
  | .hsl _ _ _ _ n, false => some (.int .i64 (n : Int))
  | _, _ => none

def cvInt (k : IntKind) (v : AV) : Option AV := (aIdx v).map fun n => .int k (k.wrap n)
def cvBS (h : H) : AV → Option AV
  | .slice c _ 1 xs => if c = .hdr then none else (bytesOf xs).map .str
  | .hsl i k _ 1 n => (hcells h i k n).bind fun xs => (bytesOf xs).map .str
  | _ => none
def cvSB (e : Nat) : AV → Option AV
  | .str s => if s.length ≤ tooLong then some (.slice .frz e 1 (byteCells s)) else none
  | _ => none
def cvSS : AV → Option AV
  | .str s => some (.str s)
  | _ => none
def mkI (t : TypeId) (v : AV) : Option AV := if v.plain then some (.iface t v) else none
def fdV (off : Nat) : AV → Option AV
  | .ptr s k => some (.ptr s (k + off))
  | .eptr ys => some (.eptr (ys.drop off))
  | _ => none
def ixV (sz : Nat) (v i : AV) : Option AV :=
  match v, i with
  | .slice c _ sz' xs, .int _ n => if c = .frz ∧ sz' = sz ∧ 0 ≤ n ∧ n < ((xs.length / sz : Nat) : Int) then some (.eptr (xs.drop (n.toNat * sz))) else none
  | .hsl i k _ sz' m, .int _ n => if sz' = sz ∧ 0 ≤ n ∧ n < (m : Int) then some (.ptr (.obj i) (k + n.toNat * sz)) else none
  | _, _ => none
def ixStr (v i : AV) : Option AV :=
  match v, i with
  | .str s, .int _ n => if 0 ≤ n then (s[n.toNat]?).map fun b => .int .u8 b.toNat else none
  | _, _ => none
def exV (v : AV) (i : Nat) : Option (AV × AV) :=
  match v with
  | .tup vs => (vs[i]?).map fun x => (x, .tup (splice vs i [x.cls .left]))
  | _ => none

/-! More operations -/
def iaV (n sz : Nat) (h : H) (p i : AV) : Option AV :=
  match p, i with
  | .ptr k off, .int _ i => if 0 ≤ i ∧ i < (n : Int) then some (.ptr k (off + i.toNat * sz)) else none
  | .eptr ys, .int _ i => if 0 ≤ i ∧ i < (n : Int) then some (.eptr (ys.drop (i.toNat * sz))) else none
  | .gl g, .int _ i => if 0 ≤ i ∧ i < (n : Int) then (h.Γ g).map fun ys => .eptr (ys.drop (i.toNat * sz)) else none
  | _, _ => none
def saV (n e sz : Nat) (hp : H) (p l h : AV) : Option AV :=
  match p, l, h with
  | .ptr (.obj i) off, .int _ l, .int _ h =>
    if 0 ≤ l ∧ l ≤ h ∧ h ≤ (n : Int) then (match hp.get i with
      | some (.cells _) => some (.hsl i (off + l.toNat * sz) e sz (h.toNat - l.toNat))
      | _ => none) else none
  | .eptr ys, .int _ l, .int _ h => if 0 ≤ l ∧ l ≤ h ∧ h ≤ (n : Int) ∧ n * sz ≤ ys.length then some (.slice .frz e sz ((ys.drop (l.toNat * sz)).take ((h.toNat - l.toNat) * sz))) else none
  | .gl g, .int _ l, .int _ h => if 0 ≤ l ∧ l ≤ h ∧ h ≤ (n : Int) then (hp.Γ g).bind fun ys => if n * sz ≤ ys.length then some (.slice .frz e sz ((ys.drop (l.toNat * sz)).take ((h.toNat - l.toNat) * sz))) else none else none
  | _, _, _ => none
def igV (agg : Bool) (n m sz : Nat) (x i : AV) : Option AV :=
  match i with
  | .int _ i => if 0 ≤ i ∧ i < (n : Int) then aPart agg m (i.toNat * sz) x else none
  | _ => none
def taOk (ok : Bool) (v : AV) : AV := if ok then .tup [v, .bool true] else v
def taV (t : TypeId) (z : AV) (ok : Bool) (x : AV) : Option AV :=
  match x with
  | .iface u v => if u = t then some (taOk ok v) else if ok then some (.tup [z, .bool false]) else none
  | .nilI => if ok then some (.tup [z, .bool false]) else none
  | _ => none
def tiV (z : AV) (ok : Bool) (yes no : List TypeId) (x : AV) : Option AV :=
  match x with
  | .iface u v => if yes.contains u then some (taOk ok (.iface u v)) else if ok && no.contains u then some (.tup [z, .bool false]) else none
  | .nilI => if ok then some (.tup [z, .bool false]) else none
  | _ => none
def mmV (mx : Bool) (x y : AV) : Option AV :=
  match x, y with
  | .int k a, .int k' b => if k = k' then some (.int k (if mx then (if a < b then b else a) else (if b < a then b else a))) else none
  | _, _ => none
def fbV (k : Nat) (x : AV) : Option AV :=
  match k, x with
  | 0, .flt .f64 b => some (.int .u64 (b : Int))
  | 1, .int .u64 n => some (.flt .f64 n.toNat)
  | 2, .flt .f32 b => some (.int .u32 (b : Int))
  | 3, .int .u32 n => some (.flt .f32 n.toNat)
  | _, _ => none
def intsOf (k : IntKind) : List AV → Option (List Int)
  | [] => some []
  | .int k' n :: r => if k' = k then (intsOf k r).map (n :: ·) else none
  | _ => none
def runeN : Value → Int
  | .int _ n => n
  | _ => 0
def runesL (s : List UInt8) : List Int := (Conv.runesFrom ⟨s.toArray⟩ s.length 0 #[]).toList.map runeN
def cvSR (e : Nat) : AV → Option AV
  | .str s => if s.length ≤ 70368744177664 then some (.slice .frz e 1 ((runesL s).map (AV.int .i32))) else none
  | _ => none
def rsV : AV → Option AV
  | .slice .frz _ 1 xs => (intsOf .i32 xs).map fun ns => .str (runesBytes ns).data.toList
  | _ => none
def eqaV (neg : Bool) (n : Nat) (k : IntKind) (x y : AV) : Option AV :=
  match x, y with
  | .agg xs, .agg ys => if xs.length = n ∧ ys.length = n then (intsOf k xs).bind fun a => (intsOf k ys).map fun b => .bool (if neg then !(a == b) else a == b) else none
  | _, _ => none
def ibV (h : H) (x y : AV) : Option AV :=
  match y with
  | .int .u8 c => if x.isOwn then none else (match cvBS h x with
    | some (.str l) => some (.int .i64 (Go.Lib.indexByte l (UInt8.ofNat c.toNat)))
    | _ => none)
  | _ => none
def xV (o : XOp) (h : H) (vs : List AV) : Option AV :=
  match o, vs with
  | .ixArr n sz, [p, i] => iaV n sz h p i
  | .slArr n e sz, [p, l, u] => saV n e sz h p l u
  | .ixAgg ag n m sz, [x, i] => igV ag n m sz x i
  | .tassert t z ok, [x] => taV t z ok x
  | .tassertI z ok yes no, [x] => tiV z ok yes no x
  | .minmax mx, [x, y] => mmV mx x y
  | .fb k, [x] => fbV k x
  | .eqArr neg n k, [x, y] => eqaV neg n k x y
  | .idxB, [x, y] => ibV h x y
  | .rStr, [x] => rsV x
  | _, _ => none
def dTarget (tbl : Option (List (TypeId × FuncId))) (x : AV) (vs : List AV) : Option (FuncId × List AV) :=
  match tbl, x with
  | none, .fn f => some (f, vs)
  | some l, .iface t v => (l.lookup t).map fun f => (f, v :: vs)
  | _, _ => none

def moreV (h : H) (sz : Nat) (str : Bool) : AV → Option (List AV)
  | .slice c _ sz' ys => if str = false ∧ c ≠ .hdr ∧ (c = .nil ∨ sz' = sz) then some ys else none
  | .hsl i k _ sz' n => if str = false ∧ sz' = sz then hcells h i k (n * sz) else none
  | .str s => if str then some (byteCells s) else none
  | _ => none
def apV (h : H) (e sz bytes : Nat) (str : Bool) (base x : AV) : Option AV :=
  match base with
  | .slice c e' sz' xs => (moreV h sz str x).bind fun ys =>
    if ((xs.length + ys.length) / sz) * bytes ≤ tooLong ∧ (xs.length + ys.length) ≤ tooLong then
      match c with
      | .nil => if ys.length = 0 then some (.slice .nil 0 1 []) else some (.slice (.own true) e sz ys)
      | .own f => if e' = e ∧ sz' = sz then some (.slice (.own f) e sz (xs ++ ys)) else none
      | _ => none
    else none
  | _ => none

/-! ### Running -/

def peek (st : St) : AX → AV
  | .t n => hdV (st.s n)
  | .m n => hdV (st.s n)
  | .u n => hdV (st.s n)
  | .f n => hdV (st.s n)
  | .p n => st.s n
  | .c v => v

def pin (st : St) (n : Nat) : AV × St :=
  match st.s n with
  | .slice (.own true) e sz xs => (.hsl st.h.n 0 e sz (xs.length / sz), ⟨upd st.s n (.hsl st.h.n 0 e sz (xs.length / sz)), st.b, st.h.push (.row e sz none xs)⟩)
  | v => (hdV v, st)

def unpin (st : St) (n i k e sz m : Nat) : AV × St :=
  match st.h.get i with
  | some (.row e' sz' _ xs) => if k = 0 ∧ e' = e ∧ sz' = sz ∧ xs.length = m * sz then (.slice (.own true) e sz xs, ⟨upd st.s n (.slice .hdr e sz xs), st.b, st.h.del i⟩)
    else if k = 0 ∧ e' = e ∧ sz' = sz ∧ m * sz ≤ xs.length then (.slice (.own true) e sz (xs.take (m * sz)), ⟨upd st.s n (.slice .hdr e sz (xs.take (m * sz))), st.b, st.h.del i⟩) else (.hsl i k e sz m, st)
  | _ => (.hsl i k e sz m, st)

def frz (st : St) (n i k e sz m : Nat) : AV × St :=
  match st.h.get i with
  | some (.row _ _ _ xs) => if k + m * sz ≤ xs.length then (.slice .frz e sz ((xs.drop k).take (m * sz)), ⟨upd st.s n (.slice .frz e sz ((xs.drop k).take (m * sz))), st.b, st.h.set i (.ro xs)⟩) else (.hsl i k e sz m, st)
  | some (.ro xs) => if k + m * sz ≤ xs.length then (.slice .frz e sz ((xs.drop k).take (m * sz)), ⟨upd st.s n (.slice .frz e sz ((xs.drop k).take (m * sz))), st.b, st.h⟩) else (.hsl i k e sz m, st)
  | _ => (.hsl i k e sz m, st)

def give (st : St) : AX → AV × St
  | .t n => (gvV (st.s n), st.set n (gvV (st.s n)))
  | .u n => (gvV (st.s n), st.set n (gvV (st.s n)))
  | .f n => (match st.s n with
    | .hsl i k e sz m => frz st n i k e sz m
    | v => (gvV v, st.set n (gvV v)))
  | .m n => pin st n
  | .p n => (hdV (st.s n), st)
  | .c v => (v, st)

def take (st : St) : AX → AV × St
  | .t n => (st.s n, st.set n (lfV (st.s n)))
  | .f n => (st.s n, st.set n (lfV (st.s n)))
  | .u n => (match st.s n with
    | .hsl i k e sz m => unpin st n i k e sz m
    | v => (v, st.set n (lfV v)))
  | .m n => pin st n
  | .p n => (hdV (st.s n), st)
  | .c v => (v, st)

def copy (m : Mode) (st : St) : AX → AV × St
  | .t n => (cpV m (st.s n), st.set n (cpS m (st.s n)))
  | .u n => (cpV m (st.s n), st.set n (cpS m (st.s n)))
  | .f n => (cpV m (st.s n), st.set n (cpS m (st.s n)))
  | .m n => pin st n
  | .p n => (hdV (st.s n), st)
  | .c v => (v, st)

def St.box (st : St) (t : Nat) (o : Obj) : St := ⟨fun j => (st.s j).kill t, upd st.b t (some o), st.h⟩
def St.pushH (st : St) (o : Obj) : St := ⟨st.s, st.b, st.h.push o⟩

def bound (st : St) (x : Option AX) (d : Option Int) : Option Int :=
  match x with
  | none => d
  | some x => aIdx (peek st x)

def iterNext (s : List UInt8) (pos : Nat) : AV × Obj :=
  if pos < s.length then
    (.tup [.bool true, .int .i64 pos, .int .i32 (Utf8.decode ⟨s.toArray⟩ pos).1], .iter s (pos + (Utf8.decode ⟨s.toArray⟩ pos).2))
  else (.tup [.bool false], .iter s pos)
def nextV (p : AV) (st : St) : Option (AV × St) :=
  match p with
  | .ptr k 0 => (st.at k).bind fun ob => (match ob with
    | .iter s pos => some ((iterNext s pos).1, st.setAt k (iterNext s pos).2)
    | _ => none)
  | _ => none

def mkN (bytes : Nat) (x c : AV) : Option (Nat × Nat) :=
  match x, c with
  | .int k m, .int k' c => if k = .i64 ∧ k' = .i64 ∧ 0 ≤ m ∧ m ≤ c ∧ bytes * c ≤ tooLong ∧ c ≤ tooLong then some (m.toNat, c.toNat) else none
  | _, _ => none
def mkV (obj : Bool) (e sz bytes : Nat) (z : List AV) (x c : AV) (st : St) : Option (AV × St) :=
  (mkN bytes x c).map fun q =>
    if obj then (.hsl st.h.n 0 e sz q.1, st.pushH (.row e sz (some (q.2 * sz)) (repCells q.2 z))) else (.slice (.own true) e sz (repCells q.1 z), st)

def cpRow (sz : Nat) (str : Bool) (d y : AV) (st : St) : Option (AV × St) :=
  match d with
  | .hsl i k e sz' n => if sz' = sz then (moreV st.h sz str y).bind fun ys =>
      match st.h.get i with
      | some (.row e' sz'' cp xs) => if k + n * sz ≤ xs.length ∨ (k ≤ xs.length ∧ k % sz = 0 ∧ sz'' = sz) then some (.int .i64 ((min (ys.length / sz) n : Nat) : Int), ⟨st.s, st.b, st.h.set i (.row e' sz'' cp (splice xs k (ys.take (min (ys.length / sz) n * sz))))⟩) else none
      | some (.cells xs) => if k + n * sz ≤ xs.length then some (.int .i64 ((min (ys.length / sz) n : Nat) : Int), ⟨st.s, st.b, st.h.set i (.cells (splice xs k (ys.take (min (ys.length / sz) n * sz))))⟩) else none
      | _ => none
    else none
  | .slice .nil _ _ _ => (moreV st.h sz str y).map fun _ => (.int .i64 0, st)
  | _ => none

def capV (p : AV) (st : St) : T (AV × St) :=
  match p with
  | .slice .nil _ _ _ => .ret (.int .i64 0, st)
  | .hsl i k _ sz n =>
    match st.h.get i with
    | some (.row e' sz' (some N) xs) => if sz' = sz ∧ (k = 0 ∨ 0 < n) then .ret (.int .i64 (((N - k) / sz : Nat) : Int), st) else .fail
    | some (.row e' sz' none xs) => if sz' = sz ∧ (k = 0 ∨ 0 < n) then .pick (maxLen - n) fun d => .ret (.int .i64 ((n + d : Nat) : Int), ⟨st.s, st.b, st.h.set i (.row e' sz' (some (k + (n + d) * sz)) xs)⟩) else .fail
    | _ => .fail
  | _ => .fail

section
variable {β : Type} (call : FuncId → List AV → H → T (AV × H)) (loop : ACode → St → T (Ex × St))

def fillK : List (Nat × Nat × AX) → List AV → St → (List AV → St → T β) → T β
  | [], cs, st, k => k cs st
  | (off, n, x) :: r, cs, st, k => T.on (fillV cs off n (give st x).1) fun cs => fillK r cs (give st x).2 k

def argsK : List (AX × Bool) → St → (List AV → St → T β) → T β
  | [], st, k => k [] st
  | (x, true) :: r, st, k => T.on (pln (take st x).1) fun _ => argsK r (take st x).2 fun vs st' => k ((take st x).1 :: vs) st'
  | (x, false) :: r, st, k => T.on (pln (give st x).1) fun _ => argsK r (give st x).2 fun vs st' => k ((give st x).1 :: vs) st'

mutual
def AV.old (b : Nat) : AV → Bool
  | .slice _ _ _ xs => oldL b xs
  | .agg xs => oldL b xs
  | .tup xs => oldL b xs
  | .eptr xs => oldL b xs
  | .ptr (.obj i) _ => decide (i < b)
  | .hsl i _ _ _ _ => decide (i < b)
  | .iface _ v => v.old b
  | _ => true
def oldL (b : Nat) : List AV → Bool
  | [] => true
  | x :: xs => x.old b && oldL b xs
end

def noHeap (b : Nat) (q : AV × H) : Option AV := if (q.2.l.isEmpty && q.2.base == b) || q.1.old b then some q.1 else none

def opK (o : AOp) (st : St) (k : AV → St → T β) : T β :=
  match o with
  | .move m x => k (copy m st x).1 (copy m st x).2
  | .assign x => k (take st x).1 (take st x).2
  | .pick c a b => T.on (pkV (peek st c) (give st a).1 (give (give st a).2 b).1) fun v => k v (give (give st a).2 b).2
  | .newbox d cs => k (.ptr (.loc d) 0) (st.box d (.cells cs))
  | .newbox1 d cs => (match st.b d with
    | none => k (.ptr (.loc d) 0) ⟨st.s, upd st.b d (some (.cells cs)), st.h⟩
    | some _ => .fail)
  | .newobj cs => k (.ptr (.obj st.h.n) 0) (st.pushH (.cells cs))
  | .box d x => T.on (pln (take st x).1) fun _ => k (.ptr (.loc d) 0) ((take st x).2.box d (.cells (take st x).1.cells))
  | .boxobj x => T.on (pln (take st x).1) fun _ => k (.ptr (.obj (take st x).2.h.n) 0) ((take st x).2.pushH (.cells (take st x).1.cells))
  | .build z parts => fillK parts z st fun cs st => k (.agg cs) st
  | .buildSl e sz z parts => fillK parts z st fun cs st => k (.slice (.own true) e sz cs) st
  | .load m a n x => T.on (ldV m a n (peek st x) st) fun q => k q.1 q.2
  | .store n x y => T.on (stV n (peek st x) (take st y).1 (take st y).2) fun st => k .skipped st
  | .nilCheck x => T.on (nnV (peek st x)) fun v => k v st
  | .bin op kd lit x y => T.on (aBin op kd lit (peek st x) (peek st y)) fun v => k v st
  | .un op x => T.on (aUn op (peek st x)) fun v => k v st
  | .convInt i x => T.on (cvInt i (peek st x)) fun v => k v st
  | .convBS x => T.on (cvBS (give st x).2.h (give st x).1) fun v => k v (give st x).2
  | .convSB e x => T.on (cvSB e (peek st x)) fun v => k v st
  | .convSS x => T.on (cvSS (peek st x)) fun v => k v st
  | .convSR e x => T.on (cvSR e (peek st x)) fun v => k v st
  | .mkIface t x => T.on (mkI t (give st x).1) fun v => k v (give st x).2
  | .sliceStr x lo hi => T.on (slStr (peek st x) (bound st lo (some 0)) (bound st hi (lenV (peek st x)))) fun v => k v st
  | .sliceSl sz x lo hi => T.on (slSl (give st x).2.h sz (give st x).1 (bound st lo (some 0)) (bound st hi (lenV (give st x).1))) fun v => k v (give st x).2
  | .fieldAddr off x => T.on (fdV off (peek st x)) fun v => k v st
  | .field a n off x => T.on (aPart a n off (peek st x)) fun v => k v st
  | .indexAddr sz x i => T.on (ixV sz (give st x).1 (peek st i)) fun v => k v (give st x).2
  | .indexStr x i => T.on (ixStr (peek st x) (peek st i)) fun v => k v st
  | .extract t i => T.on (exV (st.s t) i) fun q => k q.1 (st.set t q.2)
  | .len s x => T.on (aLen s (peek st x)) fun v => k v st
  | .cap x => (capV (give st x).1 (give st x).2).bind fun q => k q.1 q.2
  | .append e sz bytes str x y => T.on (apV (take st x).2.h e sz bytes str (take st x).1 (peek st y)) fun v => k v (take st x).2
  | .range d x => T.on (cvSS (peek st x)) fun v => (match v with
    | .str s => k (.ptr (.loc d) 0) (st.box d (.iter s 0))
    | _ => .fail)
  | .next x => T.on (nextV (peek st x) st) fun q => k q.1 q.2
  | .mkSl obj e sz bytes z x c => T.on (mkV obj e sz bytes z (peek st x) (peek st c) st) fun q => k q.1 q.2
  | .copyB sz str x y => T.on (cpRow sz str (give st x).1 (peek (give st x).2 y) (give st x).2) fun q => k q.1 q.2
  | .call f args => argsK args st fun vs st => (call f vs st.h.mask).bind fun q => T.on (noHeap st.h.n q) fun v => k v st
  | .hcall f args => argsK args st fun vs st => (call f vs st.h).bind fun q => k q.1 ⟨st.s, st.b, q.2⟩
  | .px o args => T.on (xV o st.h (args.map (peek st))) fun v => k v st
  | .dcall hc tbl x args => argsK args st fun vs st' => T.on (dTarget tbl (peek st x) vs) fun q => match hc with
    | false => (call q.1 q.2 st'.h.mask).bind fun r => T.on (noHeap st'.h.n r) fun v => k v st'
    | true => (call q.1 q.2 st'.h).bind fun r => k r.1 ⟨st'.s, st'.b, r.2⟩
  | .dead => .fail

def opsK : List AOper → St → (St → T β) → T β
  | [], st, k => k st
  | o :: r, st, k => match o.guard with
    | none => opK call o.op st fun v st => opsK r (st.put o.dst v) k
    | some (d, want) => (onGuard (st.s d) want (fun _ => opK call o.op st fun v st => .ret (st.put o.dst v)) (fun _ => .ret (st.put o.dst .skipped))).bind fun st => opsK r st k

def xexec : ACode → St → T (Ex × St)
  | .skip, st => .ret (.normal, st)
  | .ops l c, st => opsK call l st fun st => xexec c st
  | .seq a c, st => (xexec a st).bind fun r => goOn r fun st => xexec c st
  | .cond c a b, st => onBool (peek st c) (fun _ => xexec a st) (fun _ => xexec b st)
  | .block id c, st => (xexec c st).bind (blockEnd id)
  | .loop c, st => loop c st
  | .exit id, st => .ret (.exit id, st)
  | .ret, st => .ret (.ret, st)

def xres (st : St) : ARes → Option (AV × St)
  | .tmp t => some (take st (.u t))
  | .cell t a n => ldV .take a n (st.s t) st

def xresults : List ARes → St → Option (List AV × St)
  | [], st => some ([], st)
  | r :: rs, st => obind (xres st r) fun q => obind (pln q.1) fun _ => obind (xresults rs q.2) fun vs => some (q.1 :: vs.1, vs.2)

def oneOrTup : List AV → AV
  | [v] => v
  | vs => .tup vs

def xend (fn : AFunc) (r : Ex × St) : Option (AV × H) :=
  match r.1 with
  | .exit _ => none
  | .normal => obind (xresults fn.res r.2) fun vs => some (oneOrTup vs.1, vs.2.h)
  | .ret => obind (xresults fn.res r.2) fun vs => some (oneOrTup vs.1, vs.2.h)

def xbody (fn : AFunc) (args : List AV) (h : H) : T (AV × H) :=
  (xexec call loop fn.code ⟨fun j => (args[j]?).getD .undef, fun _ => none, h⟩).bind fun r => T.ofO (xend fn r)
end

mutual
variable (fns : FuncId → Option AFunc)
def callN : Nat → FuncId → List AV → H → T (AV × H)
  | 0, _, _, _ => .fail
  | k + 1, f, args, h => T.on (fns f) fun fn => if args.length ≤ fn.n then (match fn.x args h with
    | some v => .ret (v, h)
    | none => xbody (callN k) (loopN k) fn args h) else .fail
def loopN : Nat → ACode → St → T (Ex × St)
  | 0, _, _ => .fail
  | k + 1, c, st => (xexec (callN k) (loopN k) c st).bind fun r => goOn r fun st => loopN k c st
end

end Go.Proofs.YticoldgiebmmgaaGreatDoor.Abs

/- What an abstract value says of a machine's value in a world: contents, owned rows, boxes, the heap; how it is kept. -/
namespace Go.Proofs.YticoldgiebmmgaaGreatDoor.Abs
set_option linter.all false

/-! ### The heap's numbers -/
theorem H.get_ge {h : H} {i : Nat} (hi : h.n ≤ i) : h.get i = none := by
  unfold H.get; unfold H.n at hi
  split
  · rfl
  · rw [List.getElem?_eq_none (by omega)]; rfl
theorem H.get_lt {h : H} {i : Nat} {o : Obj} (hi : h.get i = some o) : h.base ≤ i ∧ i < h.n := by
  rcases Nat.lt_or_ge i h.n with h1 | h1
  · refine ⟨?_, h1⟩
    unfold H.get at hi
    split at hi
    · cases hi
    · omega
  · rw [H.get_ge h1] at hi; cases hi
theorem H.n_push (h : H) (o : Obj) : (h.push o).n = h.n + 1 := by simp [H.push, H.n]; omega
theorem H.n_set (h : H) (i : Nat) (o : Obj) : (h.set i o).n = h.n := by unfold H.set; split <;> simp [H.n]
theorem H.n_del (h : H) (i : Nat) : (h.del i).n = h.n := by unfold H.del; split <;> simp [H.n]
theorem H.Γ_push (h : H) (o : Obj) : (h.push o).Γ = h.Γ := rfl
theorem H.Γ_set (h : H) (i : Nat) (o : Obj) : (h.set i o).Γ = h.Γ := by unfold H.set; split <;> rfl
theorem H.Γ_del (h : H) (i : Nat) : (h.del i).Γ = h.Γ := by unfold H.del; split <;> rfl
theorem H.get_push (h : H) (o : Obj) (i : Nat) : (h.push o).get i = if i = h.n then some o else h.get i := by
  unfold H.get H.push H.n
  by_cases h1 : i < h.base
  · rw [if_pos h1, if_neg (by omega), if_pos h1]
  · simp only [if_neg h1]
    by_cases h2 : i = h.base + h.l.length
    · rw [if_pos h2, List.getElem?_append_right (by omega), show i - h.base - h.l.length = 0 by omega]; rfl
    · rw [if_neg h2]
      by_cases h3 : i - h.base < h.l.length
      · rw [List.getElem?_append_left h3]
      · rw [List.getElem?_append_right (by omega), List.getElem?_eq_none (by simp; omega), List.getElem?_eq_none (by omega)]
theorem H.get_set {h : H} {i : Nat} {x : Obj} (hi : h.get i = some x) (o : Obj) (j : Nat) : (h.set i o).get j = if j = i then some o else h.get j := by
  obtain ⟨h1, h2⟩ := H.get_lt hi
  unfold H.set
  rw [if_neg (by omega)]
  unfold H.get
  unfold H.n at h2
  by_cases h3 : j < h.base
  · rw [if_pos h3, if_neg (by omega), if_pos h3]
  · simp only [if_neg h3]
    by_cases h4 : j = i
    · subst h4; rw [if_pos rfl, List.getElem?_set_self (by omega)]; rfl
    · rw [if_neg h4, List.getElem?_set_ne (by omega)]
theorem H.get_del (h : H) (i j : Nat) : (h.del i).get j = if j = i then none else h.get j := by
  unfold H.del
  by_cases h1 : i < h.base
  · rw [if_pos h1]
    by_cases h2 : j = i
    · subst h2; rw [if_pos rfl]; unfold H.get; rw [if_pos h1]
    · rw [if_neg h2]
  · rw [if_neg h1]
    unfold H.get
    by_cases h3 : j < h.base
    · rw [if_pos h3, if_pos h3]; split <;> rfl
    · simp only [if_neg h3]
      by_cases h4 : j = i
      · subst h4; rw [if_pos rfl]
        by_cases h5 : j - h.base < h.l.length
        · rw [List.getElem?_set_self h5]; rfl
        · rw [List.getElem?_eq_none (by simp; omega)]; rfl
      · rw [if_neg h4, List.getElem?_set_ne (by omega)]

structure Th where
  b : Nat
  N : Nat
  e : Nat
  r : Bool
  deriving DecidableEq

structure FT where
  f : Nat → Nat
  θ : Nat → Option Th

instance : CoeFun FT (fun _ => Nat → Nat) := ⟨FT.f⟩

def FT.put (F : FT) (b n : Nat) : FT := ⟨upd F.f b n, F.θ⟩
theorem FT.put_same (F : FT) (b n : Nat) : (F.put b n) b = n := upd_same _ _ _
theorem FT.put_ne (F : FT) (b n c : Nat) (h : c ≠ b) : (F.put b n) c = F c := upd_ne _ _ _ _ h
def FT.name (F : FT) (i : Nat) (t : Th) : FT := ⟨F.f, upd F.θ i (some t)⟩

inductive CR (w : World) (Fr : FT) : AV → Value → Prop
  | bool (b : Bool) : CR w Fr (.bool b) (.bool b)
  | int (k : IntKind) (n : Int) : CR w Fr (.int k n) (.int k n)
  | str (s : ByteArray) (l : List UInt8) (h : s.data.toList = l) : CR w Fr (.str l) (.string s)
  | flt (k : FloatKind) (n : Nat) : CR w Fr (.flt k n) (.float k n)
  | nil (e sz : Nat) : CR w Fr (.slice .nil e sz []) (.slice none 0 0)
  | frz (e sz n cap : Nat) (a : Addr) (xs : List AV) (vs : Nat → Value) (hs : 0 < xs.length → a.spot = none) (hz : 0 < sz) (hl : xs.length = n * sz) (hc : n ≤ cap)
      (hp : ∀ i, i < xs.length → a.off + i < Fr a.block)
      (hv : ∀ i, i < xs.length → w.cell? ⟨a.block, a.off + i, none⟩ = some (vs i)) (ho : ∀ i, i < xs.length → (vs i).oneCell' = true)
      (hr : ∀ i (h : i < xs.length), CR w Fr xs[i] (vs i)) : CR w Fr (.slice .frz e sz xs) (.slice (some a) n cap)
  | hdr (e sz n cap : Nat) (a : Addr) (xs : List AV) (hz : 0 < sz) (hl : xs.length = n * sz) (hc : n ≤ cap) : CR w Fr (.slice .hdr e sz xs) (.slice (some a) n cap)
  | agg (xs : List AV) (vs : Array Value) (hl : vs.size = xs.length) (ho : ∀ i (h : i < vs.size), (vs[i]).oneCell' = true)
      (hr : ∀ i (h : i < xs.length) (h' : i < vs.size), CR w Fr xs[i] vs[i]) : CR w Fr (.agg xs) (.agg vs)
  | eptr (a : Addr) (xs : List AV) (vs : Nat → Value) (hs : a.spot = none) (hp : ∀ i, i < xs.length → a.off + i < Fr a.block)
      (hv : ∀ i, i < xs.length → w.cell? ⟨a.block, a.off + i, none⟩ = some (vs i)) (ho : ∀ i, i < xs.length → (vs i).oneCell' = true)
      (hr : ∀ i (h : i < xs.length), CR w Fr xs[i] (vs i)) : CR w Fr (.eptr xs) (.pointer (some a))
  | nilptr : CR w Fr .nilptr (.pointer none)
  | iface (t : TypeId) (x : AV) (v : Value) (hr : CR w Fr x v) : CR w Fr (.iface t x) (.iface t v)
  | nilI : CR w Fr .nilI .nilIface
  | fn (f : FuncId) : CR w Fr (.fn f) (.func (.func f) #[] #[])
  | gl (g : Nat) : CR w Fr (.gl g) (.pointer (some ⟨g, 0, none⟩))
  | nilfn : CR w Fr .nilfn .nilFunc
  | ref (i off : Nat) (t : Th) (ht : Fr.θ i = some t) : CR w Fr (.ptr (.obj i) off) (.pointer (some ⟨t.b, off, none⟩))
  | hsl (i k e sz n cap : Nat) (a : Addr) (t : Th) (ht : Fr.θ i = some t) (hz : 0 < sz) (hc : n ≤ cap)
      (ha : k = 0 ∨ 0 < n → a = ⟨t.b, k, none⟩ ∧ (t.r = true → k + cap * sz = t.N)) : CR w Fr (.hsl i k e sz n) (.slice (some a) n cap)
  | sen (b off : Nat) (cs : Array Value) (e : TypeId) (hp : 0 < Fr b) (hh : w.heap[b]? = some (.cells cs e (0, 0))) : CR w Fr (.sen b off) (.pointer (some ⟨b, off, none⟩))

structure Ext (w : World) (Fr : FT) (w' : World) (Fr' : FT) : Prop where
  more : ∀ b, Fr b ≤ Fr' b
  cell : ∀ b o v, o < Fr b → w.cell? ⟨b, o, none⟩ = some v → w'.cell? ⟨b, o, none⟩ = some v
  ids : ∀ i t, Fr.θ i = some t → Fr'.θ i = some t
  shp : ∀ b cs e, 0 < Fr b → w.heap[b]? = some (.cells cs e (0, 0)) → ∃ cs', w'.heap[b]? = some (.cells cs' e (0, 0))

theorem Ext.refl (w : World) (Fr : FT) : Ext w Fr w Fr := ⟨fun _ => Nat.le_refl _, fun _ _ _ _ h => h, fun _ _ h => h, fun _ cs _ _ h => ⟨cs, h⟩⟩
theorem Ext.trans {w w1 w2 : World} {F F1 F2 : FT} (h : Ext w F w1 F1) (k : Ext w1 F1 w2 F2) : Ext w F w2 F2 :=
  ⟨fun b => Nat.le_trans (h.more b) (k.more b), fun b o v ho hv => k.cell b o v (Nat.lt_of_lt_of_le ho (h.more b)) (h.cell b o v ho hv), fun i t h1 => k.ids i t (h.ids i t h1),
    fun b cs e h1 h2 => by obtain ⟨cs', h3⟩ := h.shp b cs e h1 h2; exact k.shp b cs' e (Nat.lt_of_lt_of_le h1 (h.more b)) h3⟩

theorem CR.ext {w w' : World} {Fr Fr' : FT} (hx : Ext w Fr w' Fr') {x : AV} {v : Value} (h : CR w Fr x v) : CR w' Fr' x v := by
  induction h with
  | bool b => exact .bool b
  | int k n => exact .int k n
  | str s l h => exact .str s l h
  | flt k n => exact .flt k n
  | nil e sz => exact .nil e sz
  | frz e sz n cap a xs vs hs hz hl hc hp hv ho hr ih =>
    exact .frz e sz n cap a xs vs hs hz hl hc (fun i hi => Nat.lt_of_lt_of_le (hp i hi) (hx.more _)) (fun i hi => hx.cell _ _ _ (hp i hi) (hv i hi)) ho ih
  | hdr e sz n cap a xs hz hl hc => exact .hdr e sz n cap a xs hz hl hc
  | agg xs vs hl ho hr ih => exact .agg xs vs hl ho ih
  | eptr a xs vs hs hp hv ho hr ih => exact .eptr a xs vs hs (fun i hi => Nat.lt_of_lt_of_le (hp i hi) (hx.more _)) (fun i hi => hx.cell _ _ _ (hp i hi) (hv i hi)) ho ih
  | nilptr => exact .nilptr
  | iface t x v hr ih => exact .iface t x v ih
  | nilI => exact .nilI
  | fn f => exact .fn f
  | gl g => exact .gl g
  | nilfn => exact .nilfn
  | ref i off t ht => exact .ref i off t (hx.ids _ _ ht)
  | hsl i k e sz n cap a t ht hz hc ha => exact .hsl i k e sz n cap a t (hx.ids _ _ ht) hz hc ha
  | sen b off cs e hp hh =>
    obtain ⟨cs', h⟩ := hx.shp b cs e hp hh
    exact .sen b off cs' e (Nat.lt_of_lt_of_le hp (hx.more _)) h

def OwnR (w : World) (Fr : FT) (b : Nat) (f : Bool) (e sz : Nat) (xs : List AV) (v : Value) : Prop :=
  ∃ n vs, w.ownsRow 0 e sz v n vs ∧ v.ownBlock = some b ∧ 0 < sz ∧ vs.length = xs.length ∧
    (∀ i (h : i < xs.length) (h' : i < vs.length), (vs[i]).oneCell' = true ∧ CR w Fr xs[i] vs[i]) ∧ Fr b ≤ xs.length ∧ (f = true → Fr b = 0)

inductive Pos where
  | free
  | slot (t j : Nat)
  | cell (s : K) (c : Nat)
  | box (s : K)
  | arg (i : Nat)
  | mid
  deriving DecidableEq

structure Gh where
  Fr : FT
  β : Nat → Option Th
  ω : Nat → Pos

def Gh.at (G : Gh) : K → Option Th
  | .loc s => G.β s
  | .obj i => G.Fr.θ i

def TC (w : World) (G : Gh) (p : Pos) : AV → Value → Prop
  | .slice (.own f) e sz xs, v => ∃ b, G.ω b = p ∧ OwnR w G.Fr b f e sz xs v
  | x, v => CR w G.Fr x v

def TR (w : World) (G : Gh) (p : Nat → Pos) : AV → Value → Prop
  | .tup xs, v => ∃ vs : Array Value, v = .tuple vs ∧ vs.size = xs.length ∧ ∀ j (h : j < xs.length) (h' : j < vs.size), TC w G (p (j + 1)) xs[j] vs[j]
  | .ptr (.loc s) off, v => ∃ t, G.β s = some t ∧ v = .pointer (some ⟨t.b, off, none⟩)
  | .skipped, v => v = undef
  | .undef, _ => True
  | x, v => TC w G (p 0) x v

structure Kp (w0 : World) (A : Nat → Prop) (w : World) : Prop where
  os : w.os = w0.os
  tape : w.tape = w0.tape
  output : w.output = w0.output
  size : w0.heap.size ≤ w.heap.size
  block : ∀ b, b < w0.heap.size → ¬ A b → w.heap[b]? = w0.heap[b]?

theorem Kp.refl (w : World) (A : Nat → Prop) : Kp w A w := ⟨rfl, rfl, rfl, Nat.le_refl _, fun _ _ _ => rfl⟩

def ObjR (w : World) (G : Gh) (s : K) (t : Th) : Obj → Prop
  | .cells cs => G.Fr t.b = 0 ∧ t.r = false ∧ ∃ vs, w.heap[t.b]? = some (.cells vs t.e (0, 0)) ∧ vs.size = cs.length ∧
      ∀ c (h : c < cs.length) (h' : c < vs.size), (vs[c]).oneCell' = true ∧ TC w G (.cell s c) cs[c] vs[c]
  | .row e sz cp cs => G.Fr t.b = 0 ∧ t.r = true ∧ t.e = e ∧ 0 < sz ∧ ((∃ cap, t.N = cap * sz ∧ cap ≤ maxLen) ∧ ∀ N, cp = some N → t.N = N) ∧ cs.length ≤ t.N ∧ (∃ m, cs.length = m * sz) ∧
      ∃ vs, w.heap[t.b]? = some (.cells vs t.e (0, 0)) ∧ vs.size = t.N ∧ ∀ c (h : c < cs.length) (h' : c < vs.size), (vs[c]).oneCell' = true ∧ CR w G.Fr cs[c] vs[c]
  | .ro cs => CR w G.Fr (.eptr cs) (.pointer (some ⟨t.b, 0, none⟩))
  | .iter s pos => G.Fr t.b = 0 ∧ ∃ s', w.heap[t.b]? = some (.stringIter s' pos) ∧ s'.data.toList = s

def BoxR (w : World) (G : Gh) (s : K) (ob : Obj) : Prop := ∃ t, G.at s = some t ∧ G.ω t.b = .box s ∧ t.b < w.heap.size ∧ ObjR w G s t ob

def BR (w : World) (G : Gh) (b : Nat → Option Obj) : Prop := ∀ s ob, b s = some ob → BoxR w G (.loc s) ob

structure HR (w : World) (G : Gh) (h : H) : Prop where
  box : ∀ i ob, h.get i = some ob → BoxR w G (.obj i) ob
  ids : ∀ i, h.n ≤ i → G.Fr.θ i = none
  glob : ∀ g xs, h.Γ g = some xs → CR w G.Fr (.eptr xs) (.pointer (some ⟨g, 0, none⟩))

structure SR (w0 : World) (F0 : FT) (A : Nat → Prop) (n : Nat) (st : St) (a : Act) (w : World) (G : Gh) : Prop where
  size : a.tmps.size = n
  defers : a.defers = []
  slots : ∀ t, TR w G (.slot t) (st.s t) (a.tmps.getD t undef)
  boxes : BR w G st.b
  heap : HR w G st.h
  kept : Kp w0 A w
  ext : Ext w0 F0 w G.Fr
  mine : ∀ b, G.ω b ≠ .free → b < w.heap.size ∧ (A b ∨ w0.heap.size ≤ b)
  same : ∀ b, b < w0.heap.size → ¬ A b → G.Fr b = F0 b
  fresh : ∀ b, w.heap.size ≤ b → G.Fr b = 0
  nob : ∀ s, st.b s = none → G.β s = none

theorem SR.at {w0 : World} {F0 : FT} {A : Nat → Prop} {n : Nat} {st : St} {a : Act} {w : World} {G : Gh} (h : SR w0 F0 A n st a w G) {s : K} {ob : Obj} (hs : st.at s = some ob) : BoxR w G s ob := by
  cases s with
  | loc t => exact h.boxes t ob hs
  | obj i => exact h.heap.box i ob hs

theorem ObjR.map {w w' : World} {G G' : Gh} {s : K} {t : Th} {ob : Obj} (h : ObjR w G s t ob) (hx : Ext w G.Fr w' G'.Fr) (hb : w'.heap[t.b]? = w.heap[t.b]?) (hf : G.Fr t.b = 0 → G'.Fr t.b = 0)
    (hc : ∀ c x v, TC w G (.cell s c) x v → TC w' G' (.cell s c) x v) : ObjR w' G' s t ob := by
  cases ob with
  | cells cs =>
    obtain ⟨h1, h2, vs, h3, h4, h5⟩ := h
    exact ⟨hf h1, h2, vs, by rw [hb]; exact h3, h4, fun c hc1 hc2 => ⟨(h5 c hc1 hc2).1, hc _ _ _ (h5 c hc1 hc2).2⟩⟩
  | row e sz cp cs =>
    obtain ⟨h1, h2, h3, h4, h5, h6, h6', vs, h7, h8, h9⟩ := h
    exact ⟨hf h1, h2, h3, h4, h5, h6, h6', vs, by rw [hb]; exact h7, h8, fun c hc1 hc2 => ⟨(h9 c hc1 hc2).1, (h9 c hc1 hc2).2.ext hx⟩⟩
  | ro cs => exact CR.ext hx h
  | iter s pos =>
    obtain ⟨h1, s', h2, h3⟩ := h
    exact ⟨hf h1, s', by rw [hb]; exact h2, h3⟩

theorem BoxR.map {w w' : World} {G G' : Gh} {s : K} {ob : Obj} (h : BoxR w G s ob) (hx : Ext w G.Fr w' G'.Fr) (hβ : ∀ t, G.at s = some t → G'.at s = some t)
    (hk : ∀ b, G.ω b = .box s → b < w.heap.size → w'.heap[b]? = w.heap[b]? ∧ (G.Fr b = 0 → G'.Fr b = 0) ∧ G'.ω b = .box s)
    (hc : ∀ c x v, TC w G (.cell s c) x v → TC w' G' (.cell s c) x v) : BoxR w' G' s ob := by
  obtain ⟨t, h1, h2, hlt, h3⟩ := h
  obtain ⟨k1, k2, k3⟩ := hk t.b h2 hlt
  refine ⟨t, hβ t h1, k3, ?_, h3.map hx k1 k2 hc⟩
  rw [Array.getElem?_eq_getElem hlt] at k1
  exact (Array.getElem?_eq_some_iff.1 k1).1

end Go.Proofs.YticoldgiebmmgaaGreatDoor.Abs

/- How the state's relation is kept: by slots written, owned rows handed on, promises. -/
namespace Go.Proofs.YticoldgiebmmgaaGreatDoor.Abs
set_option linter.all false

theorem TC_of_CR {w : World} {G : Gh} {p : Pos} {x : AV} {v : Value} (h : CR w G.Fr x v) : TC w G p x v := by
  cases x with
  | slice c e sz xs => cases c with
    | own f => cases h
    | _ => exact h
  | _ => exact h

theorem TR_of_CR {w : World} {G : Gh} {p : Nat → Pos} {x : AV} {v : Value} (h : CR w G.Fr x v) : TR w G p x v := by
  cases x with
  | ptr k off => cases k with
    | loc s => cases h
    | obj i => exact TC_of_CR (p := p 0) h
  | _ => first | exact TC_of_CR (p := p 0) h | (cases h; done) | trivial

theorem CR_of_TC {w : World} {G : Gh} {p : Pos} {x : AV} {v : Value} (h : TC w G p x v) (hx : x.isOwn = false) : CR w G.Fr x v := by
  cases x with
  | slice c e sz xs => cases c with
    | own f => simp [AV.isOwn] at hx
    | _ => exact h
  | _ => exact h

theorem TC_of_TR {w : World} {G : Gh} {p : Nat → Pos} {x : AV} {v : Value} (h : TR w G p x v) (hx : x.plain = true) : TC w G (p 0) x v := by
  cases x with
  | ptr k off => cases k <;> first | exact h | simp [AV.plain] at hx
  | _ => first | exact h | simp [AV.plain] at hx

theorem TR_of_TC {w : World} {G : Gh} {p : Nat → Pos} {x : AV} {v : Value} (h : TC w G (p 0) x v) (hx : x.plain = true) : TR w G p x v := by
  cases x with
  | ptr k off => cases k <;> first | exact h | simp [AV.plain] at hx
  | _ => first | exact h | simp [AV.plain] at hx

structure Gh.Off (G G' : Gh) (b : Nat) : Prop where
  Fr : ∀ c, c ≠ b → G'.Fr c = G.Fr c
  θ : G'.Fr.θ = G.Fr.θ
  β : G'.β = G.β
  ω : ∀ c, c ≠ b → G'.ω c = G.ω c

theorem Gh.Off.ext {w : World} {G G' : Gh} {b : Nat} (ho : Gh.Off G G' b) (hm : G.Fr b ≤ G'.Fr b) : Ext w G.Fr w G'.Fr :=
  ⟨fun c => by by_cases hc : c = b; { subst hc; exact hm }; { rw [ho.Fr c hc]; exact Nat.le_refl _ }, fun _ _ _ _ h => h, fun i t h => by rw [ho.θ]; exact h, fun _ cs _ _ h => ⟨cs, h⟩⟩

theorem OwnR.ext {w w' : World} {F F' : FT} {b : Nat} {f : Bool} {e sz : Nat} {xs : List AV} {v : Value} (h : OwnR w F b f e sz xs v)
    (hx : Ext w F w' F') (hb : w'.heap[b]? = w.heap[b]?) (hF : F' b = F b) : OwnR w' F' b f e sz xs v := by
  obtain ⟨n, vs, ho, hob, hz, hl, hc, h1, h2⟩ := h
  refine ⟨n, vs, ⟨ho.1, ?_⟩, hob, hz, hl, fun i h h' => ⟨(hc i h h').1, (hc i h h').2.ext hx⟩, by rw [hF]; exact h1, by rw [hF]; exact h2⟩
  rcases ho.2 with hn | ⟨g, cap, cur, rfl, hbg, hg, rest⟩
  · exact .inl hn
  · have : g = b := by simpa [Value.ownBlock] using hob
    subst this
    exact .inr ⟨g, cap, cur, rfl, hbg, hb.trans hg, rest⟩

theorem OwnR.lt {w : World} {F : FT} {b : Nat} {f : Bool} {e sz : Nat} {xs : List AV} {v : Value} (h : OwnR w F b f e sz xs v) : b < w.heap.size := by
  obtain ⟨n, vs, ho, hob, _⟩ := h
  exact (ho.lt b hob).2

theorem TC.turn {w : World} {G G' : Gh} {b : Nat} (ho : Gh.Off G G' b) (hx : Ext w G.Fr w G'.Fr) {p : Pos} {x : AV} {v : Value} (hp : G.ω b ≠ p)
    (h : TC w G p x v) : TC w G' p x v := by
  by_cases hown : x.isOwn = true
  · cases x with
    | slice c e sz xs => cases c with
      | own f =>
        obtain ⟨b', hb', hO⟩ := h
        have hne : b' ≠ b := fun e => hp (e ▸ hb')
        exact ⟨b', by rw [ho.ω b' hne]; exact hb', hO.ext hx rfl (ho.Fr b' hne)⟩
      | _ => simp [AV.isOwn] at hown
    | _ => simp [AV.isOwn] at hown
  · exact TC_of_CR ((CR_of_TC h (by simpa using hown)).ext hx)

theorem TR.turn {w : World} {G G' : Gh} {b : Nat} (ho : Gh.Off G G' b) (hx : Ext w G.Fr w G'.Fr) {p : Nat → Pos} {x : AV} {v : Value} (hp : ∀ j, G.ω b ≠ p j)
    (h : TR w G p x v) : TR w G' p x v := by
  cases x with
  | tup xs =>
    obtain ⟨vs, rfl, hl, hr⟩ := h
    exact ⟨vs, rfl, hl, fun j h h' => (hr j h h').turn ho hx (hp _)⟩
  | ptr k off => cases k with
    | loc s =>
      obtain ⟨b', hb', rfl⟩ := h
      exact ⟨b', by rw [ho.β]; exact hb', rfl⟩
    | obj i => exact TR_of_TC (TC.turn ho hx (hp 0) (TC_of_TR h rfl)) rfl
  | skipped => exact h
  | undef => trivial
  | _ => exact TR_of_TC (TC.turn ho hx (hp 0) (TC_of_TR h rfl)) rfl

theorem Gh.Off.at {G G' : Gh} {b : Nat} (ho : Gh.Off G G' b) (s : K) : G'.at s = G.at s := by
  cases s with
  | loc s => exact congrFun ho.β s
  | obj i => exact congrFun ho.θ i

theorem Gh.Off.box {G G' : Gh} {b : Nat} {w : World} (ho : Gh.Off G G' b) (hx : Ext w G.Fr w G'.Fr) {s : K} {ob : Obj} (hb : ∀ k, G.ω b ≠ .box k) (hc : ∀ c, G.ω b ≠ .cell s c) (h : BoxR w G s ob) : BoxR w G' s ob :=
  h.map hx (fun t ht => by rw [ho.at]; exact ht) (fun c hc' _ => by
    have : c ≠ b := fun e => hb s (e ▸ hc')
    exact ⟨rfl, fun h => by rw [ho.Fr c this]; exact h, by rw [ho.ω c this]; exact hc'⟩) (fun c x v h => h.turn ho hx (hc c))

theorem Gh.Off.heap {G G' : Gh} {b : Nat} {w : World} (ho : Gh.Off G G' b) (hx : Ext w G.Fr w G'.Fr) (hb : ∀ k, G.ω b ≠ .box k) (hc : ∀ s c, G.ω b ≠ .cell s c) {h : H} (hh : HR w G h) : HR w G' h :=
  ⟨fun i ob hi => ho.box hx hb (hc _) (hh.box i ob hi), fun i hi => by rw [ho.θ]; exact hh.ids i hi, fun g xs hg => (hh.glob g xs hg).ext hx⟩

variable {w0 : World} {F0 : FT} {A : Nat → Prop} {n : Nat}

theorem getD_set_ne' {a : Array Value} {d t : Nat} (v : Value) (h : t ≠ d) : (a.setIfInBounds d v).getD t undef = a.getD t undef := by
  simp [Array.getElem?_setIfInBounds_ne (Ne.symm h)]

theorem getD_set_eq' {a : Array Value} {d : Nat} (v : Value) (h : d < a.size) : (a.setIfInBounds d v).getD d undef = v := by
  simp [h]

theorem SR.put {st : St} {a : Act} {w : World} {G : Gh} (h : SR w0 F0 A n st a w G) {dst : Option Nat} (hd : ∀ d, dst = some d → d < n) {v : AV} {vv : Value}
    (hv : ∀ d, dst = some d → TR w G (.slot d) v vv) : SR w0 F0 A n (st.put dst v) (a.put dst vv) w G := by
  cases dst with
  | none => exact h
  | some d =>
    refine ⟨by simp [Act.put, h.size], h.defers, fun t => ?_, h.boxes, h.heap, h.kept, h.ext, h.mine, h.same, h.fresh, h.nob⟩
    by_cases ht : t = d
    · subst ht
      simp only [St.put, St.set, Act.put]
      rw [upd_same, getD_set_eq' _ (by rw [h.size]; exact hd t rfl)]
      exact hv t rfl
    · simp only [St.put, St.set, Act.put]
      rw [upd_ne _ _ _ _ ht, getD_set_ne' _ ht]
      exact h.slots t

theorem SR.turn {st : St} {a : Act} {w : World} {G G' : Gh} (h : SR w0 F0 A n st a w G) {t b : Nat} (hb : G.ω b = .slot t 0) (ho : Gh.Off G G' b)
    (hm : G.Fr b ≤ G'.Fr b) {x : AV} (hx : TR w G' (.slot t) x (a.tmps.getD t undef)) :
    SR w0 F0 A n (st.set t x) a w G' := by
  have hE : Ext w G.Fr w G'.Fr := ho.ext hm
  have hmine := h.mine b (by rw [hb]; simp)
  refine ⟨h.size, h.defers, fun u => ?_, fun s cs hs => ?_, ?_, h.kept, h.ext.trans hE, fun c hc => ?_, fun c hc hA => ?_, fun c hc => ?_, fun s hs => by rw [ho.β]; exact h.nob s hs⟩
  · by_cases hu : u = t
    · subst hu; simp only [St.set]; rw [upd_same]; exact hx
    · simp only [St.set]; rw [upd_ne _ _ _ _ hu]
      exact (h.slots u).turn ho hE (fun j e => by rw [hb] at e; injection e with e1 _; exact hu e1.symm)
  · exact ho.box hE (by rw [hb]; simp) (by rw [hb]; simp) (h.boxes s cs hs)
  · exact ho.heap hE (by rw [hb]; simp) (by rw [hb]; simp) h.heap
  · by_cases hcb : c = b
    · subst hcb; exact hmine
    · exact h.mine c (by rw [← ho.ω c hcb]; exact hc)
  · by_cases hcb : c = b
    · subst hcb; rcases hmine.2 with h' | h'
      · exact absurd h' hA
      · omega
    · rw [ho.Fr c hcb]; exact h.same c hc hA
  · by_cases hcb : c = b
    · subst hcb; exact absurd hmine.1 (by omega)
    · rw [ho.Fr c hcb]; exact h.fresh c hc

def Gh.promise (G : Gh) (b len : Nat) (q : Pos) : Gh := ⟨G.Fr.put b len, G.β, upd G.ω b q⟩
theorem Gh.promise_off (G : Gh) (b len : Nat) (q : Pos) : Gh.Off G (G.promise b len q) b :=
  ⟨fun c hc => upd_ne _ _ _ _ hc, rfl, rfl, fun c hc => upd_ne _ _ _ _ hc⟩
theorem Gh.promise_same (G : Gh) (b len : Nat) (q : Pos) : (G.promise b len q).Fr b = len := FT.put_same _ _ _

theorem OwnR.frz {w : World} {F F' : FT} {b : Nat} {f : Bool} {e sz : Nat} {xs : List AV} {v : Value} (h : OwnR w F b f e sz xs v)
    (hx : Ext w F w F') (hF : xs.length ≤ F' b) (e' : Nat) : CR w F' (.slice .frz e' sz xs) v := by
  obtain ⟨n, vs, ho, hob, hz, hl, hc, h1, h2⟩ := h
  rcases ho.2 with ⟨rfl, hn⟩ | ⟨g, cap, cur, rfl, hbg, hg, hnc, hcm, hcs, htake⟩
  · simp [Value.ownBlock] at hob
  · have hgb : g = b := by simpa [Value.ownBlock] using hob
    subst hgb
    refine .frz e' sz n cap ⟨g, 0, none⟩ xs (fun i => vs.getD i undef) (fun _ => rfl) hz (by rw [← hl]; exact ho.1) hnc (fun i hi => by simp only; omega) (fun i hi => ?_) (fun i hi => ?_) (fun i hi => ?_)
    · have hi' : i < vs.length := by omega
      have := ho.cells (g := g) (by simp [Value.ownBlock]) i (vs.getD i undef) (by simp [List.getElem?_eq_getElem hi', List.getD])
      rw [show (⟨g, 0 + i, none⟩ : Addr) = (⟨g, 0, none⟩ : Addr).add i from by unfold Addr.add; split <;> simp_all]
      exact this
    · have hi' : i < vs.length := by omega
      simpa [List.getD, List.getElem?_eq_getElem hi'] using (hc i hi hi').1
    · have hi' : i < vs.length := by omega
      have := (hc i hi hi').2.ext hx
      simpa [List.getD, List.getElem?_eq_getElem hi'] using this

theorem OwnR.hdr {w : World} {F F' : FT} {b : Nat} {f : Bool} {e sz : Nat} {xs : List AV} {v : Value} (h : OwnR w F b f e sz xs v) (e' : Nat) :
    CR w F' (.slice .hdr e' sz xs) v := by
  obtain ⟨n, vs, ho, hob, hz, hl, hc, h1, h2⟩ := h
  rcases ho.2 with ⟨rfl, hn⟩ | ⟨g, cap, cur, rfl, hbg, hg, hnc, hcm, hcs, htake⟩
  · simp [Value.ownBlock] at hob
  · exact .hdr e' sz n cap _ xs hz (by rw [← hl]; exact ho.1) hnc

theorem OwnR.shared {w : World} {F F' : FT} {b : Nat} {f : Bool} {e sz : Nat} {xs : List AV} {v : Value} (h : OwnR w F b f e sz xs v)
    (hx : Ext w F w F') (hF : F' b ≤ xs.length) : OwnR w F' b false e sz xs v := by
  obtain ⟨n, vs, ho, hob, hz, hl, hc, h1, h2⟩ := h
  exact ⟨n, vs, ho, hob, hz, hl, fun i h h' => ⟨(hc i h h').1, (hc i h h').2.ext hx⟩, hF, fun h => by cases h⟩

end Go.Proofs.YticoldgiebmmgaaGreatDoor.Abs

/- Operands: what is peeked at, given, taken, copied. -/
namespace Go.Proofs.YticoldgiebmmgaaGreatDoor.Abs
set_option linter.all false

theorem ofCell_CR {w : World} {Fr : FT} {v : Value} {x : AV} (h : ofCell v = some x) : CR w Fr x v ∧ v.oneCell' = true := by
  unfold ofCell at h
  split at h <;> first
    | (injection h with h; subst h; exact ⟨.bool _, rfl⟩)
    | (injection h with h; subst h; exact ⟨.int _ _, rfl⟩)
    | (injection h with h; subst h; exact ⟨.str _ _ rfl, rfl⟩)
    | (injection h with h; subst h; exact ⟨.flt _ _, rfl⟩)
    | (injection h with h; subst h; exact ⟨.nilptr, rfl⟩)
    | (injection h with h; subst h; exact ⟨.nil _ _, rfl⟩)
    | (injection h with h; subst h; exact ⟨.nilI, rfl⟩)
    | (injection h with h; subst h; exact ⟨.nilfn, rfl⟩)
    | cases h

theorem ofCells_CR {w : World} {Fr : FT} : ∀ {vs : List Value} {xs : List AV}, ofCells vs = some xs →
    vs.length = xs.length ∧ ∀ i (h : i < xs.length) (h' : i < vs.length), (vs[i]).oneCell' = true ∧ CR w Fr xs[i] vs[i]
  | [], xs, h => by simp [ofCells] at h; subst h; simp
  | v :: r, xs, h => by
    simp only [ofCells, Option.bind_eq_some_iff, Option.map_eq_some_iff] at h
    obtain ⟨x, hx, l, hl, rfl⟩ := h
    obtain ⟨h1, h2⟩ := ofCells_CR (w := w) (Fr := Fr) hl
    refine ⟨by simp [h1], fun i hi hi' => ?_⟩
    cases i with
    | zero => exact ⟨(ofCell_CR (w := w) (Fr := Fr) hx).2, (ofCell_CR hx).1⟩
    | succ i => exact h2 i (by simpa using hi) (by simpa using hi')

theorem ofConst_CR {w : World} {Fr : FT} {v : Value} {x : AV} (h : ofConst v = some x) : CR w Fr x v := by
  unfold ofConst at h
  split at h
  · rename_i cs
    rw [Option.map_eq_some_iff] at h
    obtain ⟨l, hl, rfl⟩ := h
    obtain ⟨h1, h2⟩ := ofCells_CR (w := w) (Fr := Fr) hl
    exact .agg l cs (by simpa using h1) (fun i hi => (h2 i (by rw [← h1]; simpa using hi) (by simpa using hi)).1) (fun i hi hi' => (h2 i hi (by simpa using hi')).2)
  · exact (ofCell_CR h).1

theorem clsDeep_left_TR {w : World} {G G' : Gh} {p q : Nat → Pos} {x : AV} {v : Value} (hx : Ext w G.Fr w G'.Fr) (hβ : G'.β = G.β) (h : TR w G p x v) : TR w G' q (hdV x) v := by
  have one : ∀ {p q : Pos} {x : AV} {v : Value}, TC w G p x v → TC w G' q (x.cls .left) v := by
    intro p q x v h
    by_cases hown : x.isOwn = true
    · cases x with
      | slice c e sz xs => cases c with
        | own f => obtain ⟨b, _, hO⟩ := h; exact TC_of_CR (hO.hdr e)
        | _ => simp [AV.isOwn] at hown
      | _ => simp [AV.isOwn] at hown
    · have hc := (CR_of_TC h (by simpa using hown)).ext hx
      have : x.cls .left = x := by
        cases x with
        | slice c e sz xs => cases c with
          | own f => simp [AV.isOwn] at hown
          | _ => rfl
        | _ => rfl
      rw [this]; exact TC_of_CR hc
  cases x with
  | tup xs =>
    obtain ⟨vs, rfl, hl, hr⟩ := h
    refine ⟨vs, rfl, by simp [hl], fun j h h' => ?_⟩
    simp only [List.getElem_map]
    exact one (hr j (by simpa using h) h')
  | ptr k off => cases k with
    | loc s => obtain ⟨b', hb', rfl⟩ := h; exact ⟨b', by rw [hβ]; exact hb', rfl⟩
    | obj i => exact TR_of_TC (one (p := p 0) (TC_of_TR h rfl)) rfl
  | skipped => exact h
  | undef => trivial
  | slice c e sz xs => exact TR_of_TC (one (p := p 0) (TC_of_TR h rfl)) rfl
  | _ => exact TR_of_TC (one (p := p 0) (TC_of_TR h rfl)) rfl

variable {w0 : World} {F0 : FT} {A : Nat → Prop} {n : Nat} {st : St} {a : Act} {w : World} {G : Gh}

def Gh.rename (G : Gh) (t : Nat) (p : Nat → Pos) : Gh := ⟨G.Fr, G.β, fun c => match G.ω c with | .slot u j => if u = t then p j else .slot u j | o => o⟩

theorem Gh.rename_ne (G : Gh) (t : Nat) (p : Nat → Pos) (c : Nat) (h : ∀ j, G.ω c ≠ .slot t j) : (G.rename t p).ω c = G.ω c := by
  simp only [Gh.rename]
  split
  · rename_i u j hu
    rw [if_neg (fun e => h j (by rw [hu, e]))]
    exact hu.symm
  · rfl
theorem Gh.rename_eq (G : Gh) (t : Nat) (p : Nat → Pos) (c j : Nat) (h : G.ω c = .slot t j) : (G.rename t p).ω c = p j := by
  simp [Gh.rename, h]

theorem TC.rename {t : Nat} {p : Nat → Pos} {q : Pos} {x : AV} {v : Value} (hq : ∀ j, q ≠ .slot t j) (h : TC w G q x v) : TC w (G.rename t p) q x v := by
  by_cases hown : x.isOwn = true
  · cases x with
    | slice c e sz xs => cases c with
      | own f => obtain ⟨b, hb, hO⟩ := h; exact ⟨b, by rw [Gh.rename_ne _ _ _ _ (fun j => by rw [hb]; exact hq j)]; exact hb, hO⟩
      | _ => simp [AV.isOwn] at hown
    | _ => simp [AV.isOwn] at hown
  · exact TC_of_CR (show CR w G.Fr x v from CR_of_TC h (by simpa using hown))

theorem TC.renamed {t j : Nat} {p : Nat → Pos} {x : AV} {v : Value} (h : TC w G (.slot t j) x v) : TC w (G.rename t p) (p j) x v := by
  by_cases hown : x.isOwn = true
  · cases x with
    | slice c e sz xs => cases c with
      | own f => obtain ⟨b, hb, hO⟩ := h; exact ⟨b, Gh.rename_eq _ _ _ _ _ hb, hO⟩
      | _ => simp [AV.isOwn] at hown
    | _ => simp [AV.isOwn] at hown
  · exact TC_of_CR (show CR w G.Fr x v from CR_of_TC h (by simpa using hown))

theorem TR.renamed {t : Nat} {p : Nat → Pos} {x : AV} {v : Value} (h : TR w G (.slot t) x v) : TR w (G.rename t p) p x v := by
  cases x with
  | tup xs =>
    obtain ⟨vs, rfl, hl, hr⟩ := h
    exact ⟨vs, rfl, hl, fun j h h' => (hr j h h').renamed⟩
  | ptr k off => cases k with
    | loc s => exact h
    | obj i => exact TR_of_TC (TC.renamed (TC_of_TR h rfl)) rfl
  | skipped => exact h
  | undef => trivial
  | slice c e sz xs => exact TR_of_TC (TC.renamed (TC_of_TR h rfl)) rfl
  | _ => exact TR_of_TC (TC.renamed (TC_of_TR h rfl)) rfl

theorem TR.rename {t u : Nat} {p : Nat → Pos} {x : AV} {v : Value} (hu : u ≠ t) (h : TR w G (.slot u) x v) : TR w (G.rename t p) (.slot u) x v := by
  have hq : ∀ i j, (Pos.slot u i) ≠ .slot t j := fun i j e => by injection e with e1 _; exact hu e1
  cases x with
  | tup xs =>
    obtain ⟨vs, rfl, hl, hr⟩ := h
    exact ⟨vs, rfl, hl, fun j h h' => (hr j h h').rename (hq _)⟩
  | ptr k off => cases k with
    | loc s => exact h
    | obj i => exact TR_of_TC (TC.rename (hq _) (TC_of_TR h rfl)) rfl
  | skipped => exact h
  | undef => trivial
  | slice c e sz xs => exact TR_of_TC (TC.rename (hq _) (TC_of_TR h rfl)) rfl
  | _ => exact TR_of_TC (TC.rename (hq _) (TC_of_TR h rfl)) rfl

theorem Gh.rename_box {t : Nat} {p : Nat → Pos} {s : K} {ob : Obj} (h : BoxR w G s ob) : BoxR w (G.rename t p) s ob :=
  h.map (Ext.refl _ _) (fun _ h => by cases s <;> exact h) (fun b hb _ => ⟨rfl, fun h => h, by rw [Gh.rename_ne _ _ _ _ (fun j => by rw [hb]; simp)]; exact hb⟩) (fun c x v h => h.rename (by simp))
theorem Gh.rename_heap {t : Nat} {p : Nat → Pos} {h : H} (hh : HR w G h) : HR w (G.rename t p) h :=
  ⟨fun i ob hi => Gh.rename_box (hh.box i ob hi), hh.ids, hh.glob⟩

theorem SR.slotTake (h : SR w0 F0 A n st a w G) (t : Nat) (p : Nat → Pos) :
    SR w0 F0 A n (st.set t (lfV (st.s t))) a w (G.rename t p) ∧ TR w (G.rename t p) p (st.s t) (a.tmps.getD t undef) := by
  refine ⟨⟨h.size, h.defers, fun u => ?_, fun s cs hs => Gh.rename_box (h.boxes s cs hs), Gh.rename_heap h.heap, h.kept, h.ext, fun b hb => ?_, h.same, h.fresh, h.nob⟩, (h.slots t).renamed⟩
  · by_cases hu : u = t
    · subst hu; simp only [St.set]; rw [upd_same]
      exact clsDeep_left_TR (G := G) (G' := G.rename u p) (Ext.refl w G.Fr) rfl (h.slots u)
    · simp only [St.set]; rw [upd_ne _ _ _ _ hu]; exact (h.slots u).rename hu
  · by_cases hj : ∃ j, G.ω b = .slot t j
    · obtain ⟨j, hj⟩ := hj
      exact h.mine b (by rw [hj]; simp)
    · exact h.mine b (by rw [← Gh.rename_ne G t p b (fun j e => hj ⟨j, e⟩)]; exact hb)

theorem frozen_of_not_own {x : AV} (h : x.isOwn = false) : gvV x = x := by
  cases x with
  | slice c e sz xs => cases c with
    | own f => simp [AV.isOwn] at h
    | _ => rfl
  | _ => rfl

theorem SR.slotGive (h : SR w0 F0 A n st a w G) (t : Nat) :
    ∃ G', SR w0 F0 A n (st.set t (gvV (st.s t))) a w G' ∧ G'.β = G.β ∧ Ext w G.Fr w G'.Fr ∧
      (∀ b, (∀ j, G.ω b ≠ .slot t j) → G'.ω b = G.ω b ∧ G'.Fr b = G.Fr b) ∧ TR w G' (.slot t) (gvV (st.s t)) (a.tmps.getD t undef) := by
  by_cases hown : (st.s t).isOwn = true
  · have hs := h.slots t
    cases hx : st.s t with
    | slice c e sz xs =>
      cases c with
      | own f =>
        rw [hx] at hs
        obtain ⟨b, hb, hO⟩ := hs
        have hle : G.Fr b ≤ xs.length := by obtain ⟨_, _, _, _, _, _, _, h1, _⟩ := hO; exact h1
        have hm : G.Fr b ≤ (G.promise b xs.length .free).Fr b := by rw [Gh.promise_same]; exact hle
        have hE : Ext w G.Fr w (G.promise b xs.length .free).Fr := (G.promise_off b xs.length .free).ext hm
        have hT : TR w (G.promise b xs.length .free) (.slot t) (gvV (AV.slice (.own f) e sz xs)) (a.tmps.getD t undef) :=
          TR_of_CR (hO.frz hE (by rw [Gh.promise_same]; exact Nat.le_refl _) e)
        refine ⟨G.promise b xs.length .free, ?_, rfl, hE, fun c hc => ?_, hT⟩
        · have := h.turn (t := t) hb (G.promise_off b xs.length .free) hm (x := gvV (AV.slice (.own f) e sz xs)) hT
          simpa [hx] using this
        · have hne : c ≠ b := fun e => hc 0 (e ▸ hb)
          exact ⟨(G.promise_off b xs.length .free).ω c hne, (G.promise_off b xs.length .free).Fr c hne⟩
      | _ => rw [hx] at hown; simp [AV.isOwn] at hown
    | _ => rw [hx] at hown; simp [AV.isOwn] at hown
  · have he := frozen_of_not_own (by simpa using hown : (st.s t).isOwn = false)
    rw [he]
    refine ⟨G, ?_, rfl, Ext.refl _ _, fun _ _ => ⟨rfl, rfl⟩, h.slots t⟩
    have := h.put (dst := none) (v := .undef) (vv := undef) (by simp) (by simp)
    have hset : st.set t (st.s t) = st := by
      cases st; simp only [St.set]; congr 1; funext j; simp only [upd]; split <;> simp_all
    rw [hset]; exact h

/-! ### Kept from one world and ghost to the next -/
theorem TC.keeps {w w' : World} {G G' : Gh} {p : Pos} {x : AV} {v : Value} (hx : Ext w G.Fr w' G'.Fr)
    (hk : ∀ b, G.ω b = p → b < w.heap.size → w'.heap[b]? = w.heap[b]? ∧ G'.Fr b = G.Fr b ∧ G'.ω b = p) (h : TC w G p x v) : TC w' G' p x v := by
  by_cases hown : x.isOwn = true
  · cases x with
    | slice c e sz xs => cases c with
      | own f =>
        obtain ⟨b, hb, hO⟩ := h
        obtain ⟨h1, h2, h3⟩ := hk b hb hO.lt
        exact ⟨b, h3, hO.ext hx h1 h2⟩
      | _ => simp [AV.isOwn] at hown
    | _ => simp [AV.isOwn] at hown
  · exact TC_of_CR ((CR_of_TC h (by simpa using hown)).ext hx)

theorem TR.keeps {w w' : World} {G G' : Gh} {p : Nat → Pos} {x : AV} {v : Value} (hx : Ext w G.Fr w' G'.Fr) (hβ : ∀ s off, x = .ptr (.loc s) off → G'.β s = G.β s)
    (hk : ∀ j b, G.ω b = p j → b < w.heap.size → w'.heap[b]? = w.heap[b]? ∧ G'.Fr b = G.Fr b ∧ G'.ω b = p j) (h : TR w G p x v) : TR w' G' p x v := by
  cases x with
  | tup xs =>
    obtain ⟨vs, rfl, hl, hr⟩ := h
    exact ⟨vs, rfl, hl, fun j h h' => (hr j h h').keeps hx (hk _)⟩
  | ptr k off => cases k with
    | loc s => obtain ⟨b, hb, rfl⟩ := h; exact ⟨b, by rw [hβ s off rfl]; exact hb, rfl⟩
    | obj i => exact TR_of_TC (TC.keeps hx (hk 0) (TC_of_TR h rfl)) rfl
  | skipped => exact h
  | undef => trivial
  | slice c e sz xs => exact TR_of_TC (TC.keeps hx (hk 0) (TC_of_TR h rfl)) rfl
  | _ => exact TR_of_TC (TC.keeps hx (hk 0) (TC_of_TR h rfl)) rfl

theorem BoxR.keeps {w w' : World} {G G' : Gh} {s : K} {ob : Obj} (hx : Ext w G.Fr w' G'.Fr) (hβ : ∀ t, G.at s = some t → G'.at s = some t)
    (hk : ∀ p, (p = .box s ∨ ∃ c, p = .cell s c) → ∀ b, G.ω b = p → b < w.heap.size → w'.heap[b]? = w.heap[b]? ∧ G'.Fr b = G.Fr b ∧ G'.ω b = p) (h : BoxR w G s ob) : BoxR w' G' s ob :=
  h.map hx hβ (fun b hb hlt => by obtain ⟨h1, h2, h3⟩ := hk _ (.inl rfl) b hb hlt; exact ⟨h1, fun h => by rw [h2]; exact h, h3⟩) (fun c x v h => h.keeps hx (hk _ (.inr ⟨c, rfl⟩)))

theorem HR.keeps {w w' : World} {G G' : Gh} {h : H} (hx : Ext w G.Fr w' G'.Fr) (hids : ∀ i, h.n ≤ i → G'.Fr.θ i = none)
    (hk : ∀ i p, (p = .box (.obj i) ∨ ∃ c, p = .cell (.obj i) c) → ∀ b, G.ω b = p → b < w.heap.size → w'.heap[b]? = w.heap[b]? ∧ G'.Fr b = G.Fr b ∧ G'.ω b = p) (hh : HR w G h) : HR w' G' h :=
  ⟨fun i ob hi => (hh.box i ob hi).keeps hx (fun t ht => hx.ids i t ht) (hk i), hids, fun g xs hg => (hh.glob g xs hg).ext hx⟩

end Go.Proofs.YticoldgiebmmgaaGreatDoor.Abs

/- Operands and the operations that leave the world alone. -/
namespace Go.Proofs.YticoldgiebmmgaaGreatDoor.Abs
set_option linter.all false

variable {P : Program} {w0 : World} {F0 : FT} {A : Nat → Prop} {n : Nat} {st : St} {a : Act} {w : World} {G : Gh}

def Carry (w : World) (G : Gh) (w' : World) (G' : Gh) : Prop :=
  ∀ (q : Pos) x v, (∀ t i, q ≠ .slot t i) → (∀ k, q ≠ .box k) → TC w G q x v → TC w' G' q x v

theorem Carry.refl (w : World) (G : Gh) : Carry w G w G := fun _ _ _ _ _ h => h
theorem Carry.trans {w w1 w2 : World} {G G1 G2 : Gh} (h : Carry w G w1 G1) (k : Carry w1 G1 w2 G2) : Carry w G w2 G2 := fun q x v hq hb hx => k q x v hq hb (h q x v hq hb hx)

theorem eval_tmp (a : Act) (t : Nat) : a.eval (.tmp t) = a.tmps.getD t undef := rfl

theorem const_CR {own : Bool} {x : Operand} {v : AV} {Fr : FT} (h : pX own x = some (.c v)) : CR w Fr v (a.eval x) := by
  cases x with
  | tmp t => simp [pX] at h; split at h <;> cases h
  | const c =>
    simp only [pX, Option.map_eq_some_iff] at h
    obtain ⟨y, hy, he⟩ := h
    injection he with he
    subst he
    exact ofConst_CR hy
  | global g => simp [pX] at h; subst h; exact .gl g
  | func f => simp [pX] at h; subst h; exact .fn f

theorem pX_t {own : Bool} {x : Operand} {t : Nat} (h : pX own x = some (.t t)) : x = .tmp t := by
  cases x with
  | tmp u => simp [pX] at h; split at h <;> first | (injection h with h; subst h; rfl) | cases h
  | const c => simp [pX] at h
  | global g => simp [pX] at h
  | func f => simp [pX] at h
theorem pX_p {own : Bool} {x : Operand} {t : Nat} (h : pX own x = some (.p t)) : x = .tmp t := by
  cases x with
  | tmp u => simp [pX] at h; split at h <;> first | (injection h with h; subst h; rfl) | cases h
  | const c => simp [pX] at h
  | global g => simp [pX] at h
  | func f => simp [pX] at h

def OX (x : Operand) : AX → Prop
  | .t t => x = .tmp t
  | .m t => x = .tmp t
  | .u t => x = .tmp t
  | .f t => x = .tmp t
  | .p t => x = .tmp t
  | .c v => ∃ own, pX own x = some (.c v)

theorem OX.of {own : Bool} {x : Operand} {ax : AX} (hx : pX own x = some ax) : OX x ax := by
  cases ax with
  | t t => exact pX_t hx
  | m t => cases x <;> simp [pX] at hx; split at hx <;> cases hx
  | u t => cases x <;> simp [pX] at hx; split at hx <;> cases hx
  | f t => cases x <;> simp [pX] at hx; split at hx <;> cases hx
  | p t => exact pX_p hx
  | c v => exact ⟨own, hx⟩
theorem OX.ofm {m : Nat} {own : Bool} {x : Operand} {ax : AX} (hx : pXm m own x = some ax) : OX x ax := by
  unfold pXm at hx
  split at hx
  · injection hx with hx; subst hx; rfl
  · injection hx with hx; subst hx; rfl
  · injection hx with hx; subst hx; rfl
  · exact OX.of hx

theorem SR.peekO (h : SR w0 F0 A n st a w G) {x : Operand} {ax : AX} (hx : OX x ax) : ∃ p, TR w G p (peek st ax) (a.eval x) := by
  cases ax with
  | t t => obtain rfl := hx; exact ⟨.slot t, clsDeep_left_TR (G' := G) (p := .slot t) (Ext.refl _ _) rfl (h.slots t)⟩
  | m t => obtain rfl := hx; exact ⟨.slot t, clsDeep_left_TR (G' := G) (p := .slot t) (Ext.refl _ _) rfl (h.slots t)⟩
  | u t => obtain rfl := hx; exact ⟨.slot t, clsDeep_left_TR (G' := G) (p := .slot t) (Ext.refl _ _) rfl (h.slots t)⟩
  | f t => obtain rfl := hx; exact ⟨.slot t, clsDeep_left_TR (G' := G) (p := .slot t) (Ext.refl _ _) rfl (h.slots t)⟩
  | p t => obtain rfl := hx; exact ⟨.slot t, h.slots t⟩
  | c v => obtain ⟨own, hx⟩ := hx; exact ⟨.slot 0, TR_of_CR (const_CR hx)⟩
theorem SR.peekX (h : SR w0 F0 A n st a w G) {own : Bool} {x : Operand} {ax : AX} (hx : pX own x = some ax) : ∃ p, TR w G p (peek st ax) (a.eval x) := h.peekO (OX.of hx)

/-! ### Rows to the heap and back -/
theorem OwnR.cell {w : World} {F : FT} {b : Nat} {f : Bool} {e sz : Nat} {xs : List AV} {v : Value} (h : OwnR w F b f e sz xs v) :
    ∃ m cap cur, v = .slice (some ⟨b, 0, none⟩) m cap ∧ w.heap[b]? = some (.cells cur e (0, 0)) ∧ m ≤ cap ∧ cap ≤ maxLen ∧ cur.size = cap * sz ∧ xs.length = m * sz ∧ 0 < sz ∧ xs.length ≤ cur.size ∧
      ∀ c (hc : c < xs.length) (hc' : c < cur.size), (cur[c]).oneCell' = true ∧ CR w F xs[c] cur[c] := by
  obtain ⟨m, vs, ho, hob, hz, hl, hc, h1, h2⟩ := h
  rcases ho.2 with ⟨rfl, _⟩ | ⟨g, cap, cur, rfl, hbg, hg, hnc, hcm, hcs, htake⟩
  · simp [Value.ownBlock] at hob
  · obtain rfl : g = b := by simpa [Value.ownBlock] using hob
    have hlen : xs.length = m * sz := by rw [← hl]; exact ho.1
    have hle : xs.length ≤ cur.size := by rw [hlen, hcs]; exact Nat.mul_le_mul_right _ hnc
    refine ⟨m, cap, cur, rfl, hg, hnc, hcm, hcs, hlen, hz, hle, fun c hc1 hc2 => ?_⟩
    have := hc c hc1 (by omega)
    have e1 : vs[c]'(by omega) = cur[c] := by
      have : (cur.toList.take (m * sz))[c]'(by simp; omega) = cur[c] := by simp
      simp only [← htake]; exact this
    rw [← e1]; exact this

theorem ObjR.own {w : World} {G : Gh} {s : K} {t : Th} {e sz m : Nat} {cp : Option Nat} {xs : List AV} (h : ObjR w G s t (.row e sz cp xs)) {cap : Nat} (hl : xs.length = m * sz) (hc : m ≤ cap) (hN : cap * sz = t.N) {F : FT} (hx : Ext w G.Fr w F) (hF : F t.b = 0) :
    OwnR w F t.b true e sz xs (.slice (some ⟨t.b, 0, none⟩) m cap) := by
  obtain ⟨h1, h2, h3, h4, ⟨⟨cap', h5, h5'⟩, _⟩, h6, _, vs, h7, h8, h9⟩ := h
  have hcc : cap' = cap := by
    have : cap' * sz = cap * sz := by rw [hN, h5]
    exact Nat.eq_of_mul_eq_mul_right h4 this
  subst hcc
  have hle : m * sz ≤ vs.size := by rw [h8, ← hl]; exact h6
  refine ⟨m, vs.toList.take (m * sz), ⟨by simp; omega, .inr ⟨t.b, cap', vs, rfl, Nat.zero_le _, by rw [← h3]; exact h7, hc, h5', by rw [h8, h5], rfl⟩⟩, by simp [Value.ownBlock], h4, by simp; omega, fun i hi hi' => ?_, by rw [hF]; omega, fun _ => hF⟩
  have hi2 : i < vs.size := by omega
  have := h9 i hi hi2
  have e1 : (vs.toList.take (m * sz))[i] = vs[i] := by simp
  rw [e1]; exact ⟨this.1, this.2.ext hx⟩

theorem ObjR.head {w : World} {G : Gh} {s : K} {t : Th} {e sz m : Nat} {cp : Option Nat} {xs : List AV} (h : ObjR w G s t (.row e sz cp xs)) (hl : m * sz ≤ xs.length) : ObjR w G s t (.row e sz cp (xs.take (m * sz))) := by
  obtain ⟨h1, h2, h3, h4, h5, h6, _, vs, h7, h8, h9⟩ := h
  have hlen : (xs.take (m * sz)).length = m * sz := by rw [List.length_take]; omega
  exact ⟨h1, h2, h3, h4, h5, by omega, ⟨m, hlen⟩, vs, h7, h8, fun c hc hc' => by
    have := h9 c (by omega) hc'
    simpa using this⟩

theorem FT.name_ne (F : FT) (i j : Nat) (t : Th) (h : j ≠ i) : (F.name i t).θ j = F.θ j := upd_ne _ _ _ _ h
theorem FT.name_same (F : FT) (i : Nat) (t : Th) : (F.name i t).θ i = some t := upd_same _ _ _
theorem Ext.name {w : World} {F : FT} {i : Nat} (hi : F.θ i = none) (t : Th) : Ext w F w (F.name i t) :=
  ⟨fun _ => Nat.le_refl _, fun _ _ _ _ h => h, fun j u hj => by
    by_cases hji : j = i
    · subst hji; rw [hi] at hj; cases hj
    · rw [FT.name_ne _ _ _ _ hji]; exact hj, fun _ cs _ _ h => ⟨cs, h⟩⟩

theorem hdV_TR_any {p q : Nat → Pos} {x : AV} {v : Value} (h : TR w G p x v) : TR w G q (hdV x) v := clsDeep_left_TR (G' := G) (Ext.refl _ _) rfl h

theorem SR.pin (h : SR w0 F0 A n st a w G) (t : Nat) :
    ∃ G', SR w0 F0 A n (pin st t).2 a w G' ∧ Carry w G w G' ∧ G'.β = G.β ∧ Ext w G.Fr w G'.Fr ∧ (∀ p, TR w G' p (Abs.pin st t).1 (a.tmps.getD t undef)) := by
  unfold Abs.pin
  split
  · rename_i e sz xs hx
    have hs := h.slots t
    rw [hx] at hs
    obtain ⟨b, hb, hO⟩ := hs
    obtain ⟨m, cap, cur, hv, hg, hmc, hcm, hcs, hl, hz, hle, hcell⟩ := hO.cell
    have hF0 : G.Fr b = 0 := by obtain ⟨_, _, _, _, _, _, _, _, h2⟩ := hO; exact h2 rfl
    have hm : xs.length / sz = m := by rw [hl, Nat.mul_div_cancel _ hz]
    have hn0 := h.heap.ids st.h.n (Nat.le_refl _)
    let th : Th := ⟨b, cur.size, e, true⟩
    let G' : Gh := ⟨G.Fr.name st.h.n th, G.β, upd G.ω b (.box (.obj st.h.n))⟩
    have hE : Ext w G.Fr w G'.Fr := Ext.name hn0 th
    have hk : ∀ p, p ≠ .slot t 0 → ∀ b', G.ω b' = p → b' < w.heap.size → w.heap[b']? = w.heap[b']? ∧ G'.Fr b' = G.Fr b' ∧ G'.ω b' = p := by
      intro p hp b' hb' _
      have hne : b' ≠ b := fun e => hp (by rw [← hb', e, hb])
      exact ⟨rfl, rfl, by show upd _ _ _ _ = _; rw [upd_ne _ _ _ _ hne]; exact hb'⟩
    have hT : ∀ p, TR w G' p (.hsl st.h.n 0 e sz (xs.length / sz)) (a.tmps.getD t undef) := fun p => by
      rw [hv, hm]
      exact TR_of_CR (.hsl _ _ _ _ _ _ _ th (FT.name_same _ _ _) hz hmc (fun _ => ⟨rfl, fun _ => by simp [th, hcs]⟩))
    refine ⟨G', ⟨h.size, h.defers, fun u => ?_, fun s ob hs => ?_, ⟨fun i ob hi => ?_, fun i hi => ?_, fun g xs hg => ?_⟩, h.kept, h.ext.trans hE, fun b' hb' => ?_, h.same, h.fresh, h.nob⟩, fun q x v hq _ hv => hv.keeps hE (hk q (hq _ _)), rfl, hE, hT⟩
    · by_cases hu : u = t
      · subst hu; simp only; rw [upd_same]; exact hT _
      · simp only; rw [upd_ne _ _ _ _ hu]
        exact (h.slots u).keeps hE (fun _ _ _ => rfl) (fun j => hk _ (by intro e; injection e with e _; exact hu e))
    · exact (h.boxes s ob hs).keeps hE (fun _ h => h) (fun p hp => hk p (by rcases hp with rfl | ⟨_, rfl⟩ <;> simp))
    · rw [H.get_push] at hi
      split at hi
      · rename_i hin
        subst hin
        injection hi with hi; subst hi
        refine ⟨th, FT.name_same _ _ _, upd_same _ _ _, (Array.getElem?_eq_some_iff.1 hg).1, hF0, rfl, rfl, hz, ⟨⟨cap, hcs, hcm⟩, fun _ h => by cases h⟩, hle, ⟨m, hl⟩, cur, hg, rfl, fun c hc1 hc2 => ⟨(hcell c hc1 hc2).1, (hcell c hc1 hc2).2.ext hE⟩⟩
      · exact (h.heap.box i ob hi).keeps hE (fun t ht => hE.ids _ _ ht) (fun p hp => hk p (by rcases hp with rfl | ⟨_, rfl⟩ <;> simp))
    · rw [H.n_push] at hi
      show (G.Fr.name st.h.n th).θ i = none
      rw [FT.name_ne _ _ _ _ (by omega)]; exact h.heap.ids i (by omega)
    · exact (h.heap.glob g xs hg).ext hE
    · by_cases hbb : b' = b
      · subst hbb; exact h.mine b' (by rw [hb]; simp)
      · exact h.mine b' (by have : G'.ω b' = G.ω b' := upd_ne _ _ _ _ hbb; rw [← this]; exact hb')
  · exact ⟨G, h, Carry.refl _ _, rfl, Ext.refl _ _, fun p => hdV_TR_any (h.slots t)⟩

theorem SR.unpin (h : SR w0 F0 A n st a w G) {t i k e sz m : Nat} (hs : st.s t = .hsl i k e sz m) (p : Nat → Pos) (hp : p 0 ≠ .free) :
    ∃ G', SR w0 F0 A n (unpin st t i k e sz m).2 a w G' ∧ TR w G' p (Abs.unpin st t i k e sz m).1 (a.tmps.getD t undef) ∧ Carry w G w G' ∧ G'.β = G.β ∧ Ext w G.Fr w G'.Fr := by
  have hsl := h.slots t
  rw [hs] at hsl
  have asis : ∃ G', SR w0 F0 A n st a w G' ∧ TR w G' p (.hsl i k e sz m) (a.tmps.getD t undef) ∧ Carry w G w G' ∧ G'.β = G.β ∧ Ext w G.Fr w G'.Fr :=
    ⟨G, h, TR_of_CR (CR_of_TC (TC_of_TR hsl rfl) rfl), Carry.refl _ _, rfl, Ext.refl _ _⟩
  unfold Abs.unpin
  split
  · rename_i e' sz' cp xs hget
    have core : ∀ ys : List AV, ys.length = m * sz → k = 0 → (∀ th, ObjR w G (.obj i) th (.row e' sz' cp xs) → ObjR w G (.obj i) th (.row e sz cp ys)) →
        ∃ G', SR w0 F0 A n ⟨upd st.s t (.slice .hdr e sz ys), st.b, st.h.del i⟩ a w G' ∧ TR w G' p (.slice (.own true) e sz ys) (a.tmps.getD t undef) ∧ Carry w G w G' ∧ G'.β = G.β ∧ Ext w G.Fr w G'.Fr := by
      intro ys hl hk0 hrow
      subst hk0
      obtain ⟨th, k1, k2, k3, k40⟩ := h.heap.box i _ hget
      have k4 := hrow th k40
      have hC := CR_of_TC (TC_of_TR hsl rfl) rfl
      generalize hvv : a.tmps.getD t undef = v at hC
      cases hC with
      | hsl _ _ _ _ _ cap ad th' hth hz hmc ha =>
      have k1' : G.Fr.θ i = some th := k1
      rw [k1'] at hth; injection hth with hth; subst hth
      obtain ⟨rfl, hN⟩ := ha (.inl rfl)
      have hr : th.r = true := k4.2.1
      have hN := hN hr
      have hF0 : G.Fr th.b = 0 := k4.1
      let G' : Gh := ⟨G.Fr, G.β, upd G.ω th.b (p 0)⟩
      have hk : ∀ q, q ≠ .box (.obj i) → ∀ b', G.ω b' = q → b' < w.heap.size → w.heap[b']? = w.heap[b']? ∧ G'.Fr b' = G.Fr b' ∧ G'.ω b' = q := by
        intro q hq b' hb' _
        have hne : b' ≠ th.b := fun e => hq (by rw [← hb', e, k2])
        exact ⟨rfl, rfl, by show upd _ _ _ _ = _; rw [upd_ne _ _ _ _ hne]; exact hb'⟩
      have hE : Ext w G.Fr w G'.Fr := Ext.refl _ _
      have hO := k4.own (cap := cap) hl hmc (by omega) hE hF0
      refine ⟨G', ⟨h.size, h.defers, fun u => ?_, fun s ob hs' => ?_, ⟨fun j ob hj => ?_, fun j hj => ?_, fun g xs hg => h.heap.glob g xs (by rw [← hg]; exact congrFun (H.Γ_del _ _).symm g)⟩, h.kept, h.ext, fun b' hb' => ?_, h.same, h.fresh, h.nob⟩, TR_of_TC ⟨th.b, upd_same _ _ _, hO⟩ rfl, fun q x v _ hq hv => hv.keeps hE (hk q (hq _)), rfl, hE⟩
      · by_cases hu : u = t
        · subst hu; simp only; rw [upd_same, hvv]; exact TR_of_CR (.hdr _ _ _ _ _ _ hz hl hmc)
        · simp only; rw [upd_ne _ _ _ _ hu]
          exact (h.slots u).keeps hE (fun _ _ _ => rfl) (fun j => hk _ (by simp))
      · exact (h.boxes s ob hs').keeps hE (fun _ h => h) (fun p hp => hk p (by rcases hp with rfl | ⟨_, rfl⟩ <;> simp))
      · rw [H.get_del] at hj
        split at hj
        · cases hj
        · rename_i hji
          exact (h.heap.box j ob hj).keeps hE (fun t ht => ht) (fun p hp => hk p (by rcases hp with rfl | ⟨_, rfl⟩ <;> simp [hji]))
      · rw [H.n_del] at hj; exact h.heap.ids j hj
      · by_cases hbb : b' = th.b
        · subst hbb; exact h.mine _ (by rw [k2]; simp)
        · exact h.mine b' (by have : G'.ω b' = G.ω b' := upd_ne _ _ _ _ hbb; rw [← this]; exact hb')
    split
    · rename_i hc
      obtain ⟨rfl, rfl, rfl, hl⟩ := hc
      exact core xs hl rfl (fun _ h => h)
    · split
      · rename_i hc
        obtain ⟨rfl, rfl, rfl, hl⟩ := hc
        exact core _ (by rw [List.length_take]; omega) rfl (fun _ h => h.head hl)
      · exact asis
  · exact asis

theorem ObjR.promise {w : World} {G : Gh} {s : K} {t : Th} {e sz : Nat} {cp : Option Nat} {xs : List AV} (h : ObjR w G s t (.row e sz cp xs)) {F : FT} (hx : Ext w G.Fr w F) (hF : xs.length ≤ F t.b) :
    CR w F (.eptr xs) (.pointer (some ⟨t.b, 0, none⟩)) := by
  obtain ⟨h1, h2, h3, h4, h5, h6, _, vs, h7, h8, h9⟩ := h
  refine .eptr ⟨t.b, 0, none⟩ xs (fun i => vs.getD i undef) rfl (fun i hi => by simp only; omega) (fun i hi => ?_) (fun i hi => ?_) (fun i hi => ?_)
  · have : i < vs.size := by omega
    simp [World.cell?, h7, this]
  · have : i < vs.size := by omega
    simpa [this] using (h9 i hi this).1
  · have : i < vs.size := by omega
    simpa [this] using (h9 i hi this).2.ext hx

theorem CR_part {w : World} {F : FT} {b : Nat} {xs : List AV} (h : CR w F (.eptr xs) (.pointer (some ⟨b, 0, none⟩))) {k m sz e cap : Nat} {ad : Addr} (hz : 0 < sz) (hle : k + m * sz ≤ xs.length) (hc : m ≤ cap)
    (ha : k = 0 ∨ 0 < m → ad = ⟨b, k, none⟩) : CR w F (.slice .frz e sz ((xs.drop k).take (m * sz))) (.slice (some ad) m cap) := by
  have hlen : ((xs.drop k).take (m * sz)).length = m * sz := by rw [List.length_take, List.length_drop]; omega
  generalize hv : Value.pointer (some ⟨b, 0, none⟩) = v at h
  cases h with
  | eptr a _ vs hs hp hv' ho hr =>
  injection hv with hv; injection hv with hv; subst hv
  by_cases hm : m = 0
  · subst hm
    simp only [Nat.zero_mul, List.take_zero]
    exact .frz e sz 0 cap ad [] (fun _ => undef) (fun h => absurd h (by simp)) hz (by simp) hc (fun i hi => absurd hi (by simp)) (fun i hi => absurd hi (by simp)) (fun i hi => absurd hi (by simp)) (fun i hi => absurd hi (by simp))
  · obtain rfl := ha (.inr (by omega))
    refine .frz e sz m cap _ _ (fun i => vs (k + i)) (fun _ => rfl) hz hlen hc (fun i hi => ?_) (fun i hi => ?_) (fun i hi => ?_) (fun i hi => ?_)
    · rw [hlen] at hi; have := hp (k + i) (by omega); simp only at this ⊢; omega
    · rw [hlen] at hi; have := hv' (k + i) (by omega); simp only [Nat.zero_add] at this ⊢; exact this
    · rw [hlen] at hi; exact ho _ (by omega)
    · have hi2 := hi; rw [hlen] at hi2
      have := hr (k + i) (by omega)
      simpa using this

theorem SR.frz (h : SR w0 F0 A n st a w G) {t i k e sz m : Nat} (hs : st.s t = .hsl i k e sz m) :
    ∃ G', SR w0 F0 A n (frz st t i k e sz m).2 a w G' ∧ Carry w G w G' ∧ G'.β = G.β ∧ Ext w G.Fr w G'.Fr ∧ ∀ p, TR w G' p (Abs.frz st t i k e sz m).1 (a.tmps.getD t undef) := by
  have hsl := h.slots t
  rw [hs] at hsl
  have asis : ∃ G', SR w0 F0 A n st a w G' ∧ Carry w G w G' ∧ G'.β = G.β ∧ Ext w G.Fr w G'.Fr ∧ ∀ p, TR w G' p (.hsl i k e sz m) (a.tmps.getD t undef) :=
    ⟨G, h, Carry.refl _ _, rfl, Ext.refl _ _, fun p => TR_of_CR (CR_of_TC (TC_of_TR hsl rfl) rfl)⟩
  have hC := CR_of_TC (TC_of_TR hsl rfl) rfl
  generalize hvv : a.tmps.getD t undef = v at hC asis
  cases hC with
  | hsl _ _ _ _ _ cap ad th' hth hz hmc ha =>
  unfold Abs.frz
  split
  · rename_i xs hget
    split
    · rename_i hle
      obtain ⟨th, k1, k2, k3, k4⟩ := h.heap.box i _ hget
      have k1' : G.Fr.θ i = some th := k1
      rw [k1'] at hth; injection hth with hth; subst hth
      have hF0 : G.Fr th.b = 0 := k4.1
      let G' : Gh := ⟨G.Fr.put th.b xs.length, G.β, G.ω⟩
      have hk : ∀ q, q ≠ .box (.obj i) → ∀ b', G.ω b' = q → b' < w.heap.size → w.heap[b']? = w.heap[b']? ∧ G'.Fr b' = G.Fr b' ∧ G'.ω b' = q := by
        intro q hq b' hb' _
        have hne : b' ≠ th.b := fun e => hq (by rw [← hb', e, k2])
        exact ⟨rfl, FT.put_ne _ _ _ _ hne, hb'⟩
      have hE : Ext w G.Fr w G'.Fr := ⟨fun b' => by
        by_cases hbb : b' = th.b
        · subst hbb; rw [hF0]; exact Nat.zero_le _
        · rw [show G'.Fr b' = G.Fr b' from FT.put_ne _ _ _ _ hbb]; exact Nat.le_refl _, fun _ _ _ _ h => h, fun _ _ h => h, fun _ cs _ _ h => ⟨cs, h⟩⟩
      have hP := k4.promise hE (by rw [show G'.Fr th.b = xs.length from FT.put_same _ _ _]; exact Nat.le_refl _)
      have hT : ∀ p, TR w G' p (.slice .frz e sz ((xs.drop k).take (m * sz))) (.slice (some ad) m cap) := fun p => TR_of_CR (CR_part hP hz hle hmc (fun h => (ha h).1))
      have hmine := h.mine th.b (by rw [k2]; simp)
      refine ⟨G', ⟨h.size, h.defers, fun u => ?_, fun s ob hs' => ?_, ⟨fun j ob hj => ?_, fun j hj => ?_, fun g xs hg => (h.heap.glob g xs (by rw [← hg]; exact congrFun (H.Γ_set _ _ _).symm g)).ext hE⟩, h.kept, h.ext.trans hE, h.mine, fun b' hb' hA => ?_, fun b' hb' => ?_, h.nob⟩, fun q x v _ hq hv => hv.keeps hE (hk q (hq _)), rfl, hE, hT⟩
      · by_cases hu : u = t
        · subst hu; simp only; rw [upd_same, hvv]; exact hT _
        · simp only; rw [upd_ne _ _ _ _ hu]
          exact (h.slots u).keeps hE (fun _ _ _ => rfl) (fun j => hk _ (by simp))
      · exact (h.boxes s ob hs').keeps hE (fun _ h => h) (fun p hp => hk p (by rcases hp with rfl | ⟨_, rfl⟩ <;> simp))
      · simp only at hj
        rw [H.get_set hget] at hj
        split at hj
        · rename_i hji
          subst hji
          injection hj with hj; subst hj
          exact ⟨th, k1, k2, k3, hP⟩
        · rename_i hji
          exact (h.heap.box j ob hj).keeps hE (fun t ht => ht) (fun p hp => hk p (by rcases hp with rfl | ⟨_, rfl⟩ <;> simp [hji]))
      · simp only [H.n_set] at hj; exact h.heap.ids j hj
      · have hne : b' ≠ th.b := fun e => by subst e; rcases hmine.2 with h' | h'; { exact hA h' }; { omega }
        rw [show G'.Fr b' = G.Fr b' from FT.put_ne _ _ _ _ hne]; exact h.same b' hb' hA
      · have hne : b' ≠ th.b := fun e => by subst e; omega
        rw [show G'.Fr b' = G.Fr b' from FT.put_ne _ _ _ _ hne]; exact h.fresh b' hb'
    · exact asis
  · rename_i xs hget
    split
    · rename_i hle
      obtain ⟨th, k1, k2, k3, k4⟩ := h.heap.box i _ hget
      have k1' : G.Fr.θ i = some th := k1
      rw [k1'] at hth; injection hth with hth; subst hth
      have hT : ∀ p, TR w G p (.slice .frz e sz ((xs.drop k).take (m * sz))) (.slice (some ad) m cap) := fun p => TR_of_CR (CR_part k4 hz hle hmc (fun h => (ha h).1))
      refine ⟨G, ⟨h.size, h.defers, fun u => ?_, h.boxes, h.heap, h.kept, h.ext, h.mine, h.same, h.fresh, h.nob⟩, Carry.refl _ _, rfl, Ext.refl _ _, hT⟩
      by_cases hu : u = t
      · subst hu; simp only; rw [upd_same, hvv]; exact hT _
      · simp only; rw [upd_ne _ _ _ _ hu]; exact h.slots u
    · exact asis
  · exact asis

theorem SR.takeO (h : SR w0 F0 A n st a w G) {x : Operand} {ax : AX} (hx : OX x ax) (p : Nat → Pos) (hp : p 0 ≠ .free) :
    ∃ G', SR w0 F0 A n (take st ax).2 a w G' ∧ TR w G' p (take st ax).1 (a.eval x) ∧ Carry w G w G' ∧ G'.β = G.β ∧ Ext w G.Fr w G'.Fr := by
  cases ax with
  | t t =>
    obtain rfl := hx
    obtain ⟨h1, h2⟩ := h.slotTake t p
    exact ⟨_, h1, h2, fun q x v hq _ hv => TC.rename (fun j => hq t j) hv, rfl, Ext.refl _ _⟩
  | f t =>
    obtain rfl := hx
    obtain ⟨h1, h2⟩ := h.slotTake t p
    exact ⟨_, h1, h2, fun q x v hq _ hv => TC.rename (fun j => hq t j) hv, rfl, Ext.refl _ _⟩
  | u t =>
    obtain rfl := hx
    unfold take
    simp only
    split
    · rename_i i k e sz m hs
      exact h.unpin hs p hp
    · obtain ⟨h1, h2⟩ := h.slotTake t p
      exact ⟨_, h1, h2, fun q x v hq _ hv => TC.rename (fun j => hq t j) hv, rfl, Ext.refl _ _⟩
  | m t =>
    obtain rfl := hx
    obtain ⟨G', h1, h2, h3, h4, h5⟩ := h.pin t
    exact ⟨G', h1, h5 p, h2, h3, h4⟩
  | p t => obtain rfl := hx; exact ⟨G, h, hdV_TR_any (h.slots t), Carry.refl _ _, rfl, Ext.refl _ _⟩
  | c v => obtain ⟨own, hx⟩ := hx; exact ⟨G, h, TR_of_CR (const_CR hx), Carry.refl _ _, rfl, Ext.refl _ _⟩
theorem SR.takeX (h : SR w0 F0 A n st a w G) {own : Bool} {x : Operand} {ax : AX} (hx : pX own x = some ax) (p : Nat → Pos) (hp : p 0 ≠ .free) :
    ∃ G', SR w0 F0 A n (take st ax).2 a w G' ∧ TR w G' p (take st ax).1 (a.eval x) ∧ Carry w G w G' ∧ G'.β = G.β ∧ Ext w G.Fr w G'.Fr := h.takeO (OX.of hx) p hp

theorem gvV_several {x : AV} : (gvV x).several = x.several := by cases x <;> rfl

theorem gvV_TR {G : Gh} {p q : Nat → Pos} {x : AV} {v : Value} (hs : x.several = false) (h : TR w G p (gvV x) v) : TR w G q (gvV x) v := by
  cases x with
  | tup xs => simp [AV.several] at hs
  | slice c e sz xs =>
    refine TR_of_CR ?_
    have := TC_of_TR h rfl
    refine CR_of_TC this ?_
    cases c <;> rfl
  | ptr k off => cases k with
    | loc s => exact h
    | obj i => exact TR_of_CR (CR_of_TC (TC_of_TR h rfl) rfl)
  | skipped => exact h
  | undef => trivial
  | _ => exact TR_of_CR (CR_of_TC (TC_of_TR h rfl) rfl)

theorem SR.giveO (h : SR w0 F0 A n st a w G) {x : Operand} {ax : AX} (hx : OX x ax) :
    ∃ G', SR w0 F0 A n (give st ax).2 a w G' ∧ Carry w G w G' ∧ G'.β = G.β ∧ Ext w G.Fr w G'.Fr ∧
      ((give st ax).1.several = false → ∀ p, TR w G' p (give st ax).1 (a.eval x)) := by
  have key : ∀ t, x = .tmp t → ∃ G', SR w0 F0 A n (st.set t (gvV (st.s t))) a w G' ∧ Carry w G w G' ∧ G'.β = G.β ∧ Ext w G.Fr w G'.Fr ∧
      ((gvV (st.s t)).several = false → ∀ p, TR w G' p (gvV (st.s t)) (a.eval x)) := fun t hx => by
    obtain rfl := hx
    obtain ⟨G', h1, h2, h3, h4, h5⟩ := h.slotGive t
    refine ⟨G', h1, fun q x v hq _ hv => ?_, h2, h3, fun hs p => gvV_TR (by rw [← gvV_several]; exact hs) h5⟩
    by_cases hown : x.isOwn = true
    · cases x with
      | slice c e sz xs => cases c with
        | own f =>
          obtain ⟨b, hb, hO⟩ := hv
          have := h4 b (fun j => by rw [hb]; exact hq t j)
          exact ⟨b, by rw [this.1]; exact hb, hO.ext h3 rfl this.2⟩
        | _ => simp [AV.isOwn] at hown
      | _ => simp [AV.isOwn] at hown
    · exact TC_of_CR ((CR_of_TC hv (by simpa using hown)).ext h3)
  cases ax with
  | t t => exact key t hx
  | u t => exact key t hx
  | f t =>
    unfold give
    simp only
    split
    · rename_i i k e sz m hs
      obtain rfl := hx
      obtain ⟨G', h1, h2, h3, h4, h5⟩ := h.frz hs
      exact ⟨G', h1, h2, h3, h4, fun _ p => h5 p⟩
    · exact key t hx
  | m t =>
    obtain rfl := hx
    obtain ⟨G', h1, h2, h3, h4, h5⟩ := h.pin t
    exact ⟨G', h1, h2, h3, h4, fun _ p => h5 p⟩
  | p t =>
    obtain rfl := hx
    exact ⟨G, h, Carry.refl _ _, rfl, Ext.refl _ _, fun _ p => hdV_TR_any (h.slots t)⟩
  | c v => obtain ⟨own, hx⟩ := hx; exact ⟨G, h, Carry.refl _ _, rfl, Ext.refl _ _, fun _ p => TR_of_CR (const_CR hx)⟩
theorem SR.giveX (h : SR w0 F0 A n st a w G) {own : Bool} {x : Operand} {ax : AX} (hx : pX own x = some ax) :
    ∃ G', SR w0 F0 A n (give st ax).2 a w G' ∧ Carry w G w G' ∧ G'.β = G.β ∧ Ext w G.Fr w G'.Fr ∧
      ((give st ax).1.several = false → ∀ p, TR w G' p (give st ax).1 (a.eval x)) := h.giveO (OX.of hx)

theorem SR.copyO (h : SR w0 F0 A n st a w G) {x : Operand} {ax : AX} (hx : OX x ax) (m : Mode) (p : Nat → Pos) :
    ∃ G', SR w0 F0 A n (copy m st ax).2 a w G' ∧ TR w G' p (copy m st ax).1 (a.eval x) ∧ Carry w G w G' ∧ G'.β = G.β ∧ Ext w G.Fr w G'.Fr := by
  suffices hh : ∀ ax, OX x ax → (∀ t, ax ≠ .u t ∧ ax ≠ .f t) → ∃ G', SR w0 F0 A n (copy m st ax).2 a w G' ∧ TR w G' p (copy m st ax).1 (a.eval x) ∧ Carry w G w G' ∧ G'.β = G.β ∧ Ext w G.Fr w G'.Fr by
    cases ax with
    | u t => exact hh (.t t) hx (fun _ => by simp)
    | f t => exact hh (.t t) hx (fun _ => by simp)
    | t t => exact hh (.t t) hx (fun _ => by simp)
    | m t => exact hh (.m t) hx (fun _ => by simp)
    | p t => exact hh (.p t) hx (fun _ => by simp)
    | c v => exact hh (.c v) hx (fun _ => by simp)
  clear hx ax
  intro ax hx hu
  cases ax with
  | u t => exact absurd rfl (hu t).1
  | f t => exact absurd rfl (hu t).2
  | t t =>
    obtain rfl := hx
    have hs := h.slots t
    cases m with
    | take =>
      obtain ⟨h1, h2⟩ := h.slotTake t p
      refine ⟨G.rename t p, ?_, ?_, fun q x v hq _ hv => TC.rename (fun j => hq t j) hv, rfl, Ext.refl _ _⟩
      · have : cpS .take (st.s t) = lfV (st.s t) := by cases st.s t <;> rfl
        show SR w0 F0 A n (st.set t (cpS .take (st.s t))) a w _
        rw [this]; exact h1
      · have : cpV .take (st.s t) = st.s t := by cases st.s t <;> rfl
        show TR w _ p (cpV .take (st.s t)) _
        rw [this]; exact h2
    | look =>
      by_cases hown : (st.s t).isOwn = true
      · cases hc : st.s t with
        | slice c e sz xs => cases c with
          | own f =>
            rw [hc] at hs
            obtain ⟨b, hb, hO⟩ := hs
            have hle : G.Fr b ≤ xs.length := by obtain ⟨_, _, _, _, _, _, _, h1, _⟩ := hO; exact h1
            have hm : G.Fr b ≤ (G.promise b xs.length (.slot t 0)).Fr b := by rw [Gh.promise_same]; exact hle
            have hE : Ext w G.Fr w (G.promise b xs.length (.slot t 0)).Fr := (G.promise_off b xs.length (.slot t 0)).ext hm
            have hT : TR w (G.promise b xs.length (.slot t 0)) (.slot t) (cpS .look (AV.slice (.own f) e sz xs)) (a.tmps.getD t undef) :=
              ⟨b, by simp [Gh.promise, upd_same], hO.shared hE (by rw [Gh.promise_same]; exact Nat.le_refl _)⟩
            have := h.turn (t := t) hb (G.promise_off b xs.length (.slot t 0)) hm (x := cpS .look (AV.slice (.own f) e sz xs)) hT
            refine ⟨G.promise b xs.length (.slot t 0), ?_, ?_, fun q x v hq _ hv => TC.turn (G.promise_off b xs.length (.slot t 0)) hE (by rw [hb]; exact fun e => hq _ _ e.symm) hv, rfl, hE⟩
            · show SR w0 F0 A n (st.set t (cpS .look (st.s t))) a w _
              rw [hc]; exact this
            · show TR w _ p (cpV .look (st.s t)) _
              rw [hc]; exact TR_of_CR (hO.frz hE (by rw [Gh.promise_same]; exact Nat.le_refl _) e)
          | _ => rw [hc] at hown; simp [AV.isOwn] at hown
        | _ => rw [hc] at hown; simp [AV.isOwn] at hown
      · cases hc : st.s t with
        | tup xs =>
          obtain ⟨h1, h2⟩ := h.slotTake t p
          refine ⟨G.rename t p, ?_, ?_, fun q x v hq _ hv => TC.rename (fun j => hq t j) hv, rfl, Ext.refl _ _⟩
          · show SR w0 F0 A n (st.set t (cpS .look (st.s t))) a w _
            rw [hc]; rw [hc] at h1; exact h1
          · show TR w _ p (cpV .look (st.s t)) _
            rw [hc]; rw [hc] at h2; exact h2
        | slice c e sz xs =>
          have e1 : cpS .look (st.s t) = st.s t := by rw [hc]; cases c with | own f => rw [hc] at hown; simp [AV.isOwn] at hown | _ => rfl
          have e2 : cpV .look (st.s t) = st.s t := by rw [hc]; cases c with | own f => rw [hc] at hown; simp [AV.isOwn] at hown | _ => rfl
          have hset : st.set t (st.s t) = st := by cases st; simp only [St.set]; congr 1; funext j; simp only [upd]; split <;> simp_all
          refine ⟨G, ?_, ?_, Carry.refl _ _, rfl, Ext.refl _ _⟩
          · show SR w0 F0 A n (st.set t (cpS .look (st.s t))) a w _
            rw [e1, hset]; exact h
          · show TR w _ p (cpV .look (st.s t)) _
            rw [e2, hc]; rw [hc] at hs hown; exact TR_of_CR (CR_of_TC (TC_of_TR hs rfl) (by simpa using hown))
        | ptr k off =>
          have hset : st.set t (st.s t) = st := by cases st; simp only [St.set]; congr 1; funext j; simp only [upd]; split <;> simp_all
          refine ⟨G, ?_, ?_, Carry.refl _ _, rfl, Ext.refl _ _⟩
          · show SR w0 F0 A n (st.set t (cpS .look (st.s t))) a w _
            rw [show cpS .look (st.s t) = st.s t by rw [hc]; rfl, hset]; exact h
          · show TR w _ p (cpV .look (st.s t)) _
            rw [show cpV .look (st.s t) = st.s t by rw [hc]; rfl, hc]; rw [hc] at hs
            cases k with
            | loc s => exact hs
            | obj i => exact TR_of_CR (CR_of_TC (TC_of_TR hs rfl) rfl)
        | skipped =>
          have hset : st.set t (st.s t) = st := by cases st; simp only [St.set]; congr 1; funext j; simp only [upd]; split <;> simp_all
          refine ⟨G, ?_, ?_, Carry.refl _ _, rfl, Ext.refl _ _⟩
          · show SR w0 F0 A n (st.set t (cpS .look (st.s t))) a w _
            rw [show cpS .look (st.s t) = st.s t by rw [hc]; rfl, hset]; exact h
          · show TR w _ p (cpV .look (st.s t)) _
            rw [show cpV .look (st.s t) = st.s t by rw [hc]; rfl, hc]; rw [hc] at hs; exact hs
        | _ =>
          have hset : st.set t (st.s t) = st := by cases st; simp only [St.set]; congr 1; funext j; simp only [upd]; split <;> simp_all
          refine ⟨G, ?_, ?_, Carry.refl _ _, rfl, Ext.refl _ _⟩
          · show SR w0 F0 A n (st.set t (cpS .look (st.s t))) a w _
            rw [show cpS .look (st.s t) = st.s t by rw [hc]; rfl, hset]; exact h
          · show TR w _ p (cpV .look (st.s t)) _
            rw [show cpV .look (st.s t) = st.s t by rw [hc]; rfl, hc]; rw [hc] at hs
            first | trivial | exact TR_of_CR (CR_of_TC (TC_of_TR hs rfl) rfl)
    | head =>
      cases hc : st.s t with
      | tup xs =>
        obtain ⟨h1, h2⟩ := h.slotTake t p
        refine ⟨G.rename t p, ?_, ?_, fun q x v hq _ hv => TC.rename (fun j => hq t j) hv, rfl, Ext.refl _ _⟩
        · show SR w0 F0 A n (st.set t (cpS .head (st.s t))) a w _
          rw [hc]; rw [hc] at h1; exact h1
        · show TR w _ p (cpV .head (st.s t)) _
          rw [hc]; rw [hc] at h2; exact h2
      | _ =>
        have hset : st.set t (st.s t) = st := by cases st; simp only [St.set]; congr 1; funext j; simp only [upd]; split <;> simp_all
        refine ⟨G, ?_, ?_, Carry.refl _ _, rfl, Ext.refl _ _⟩
        · show SR w0 F0 A n (st.set t (cpS .head (st.s t))) a w _
          rw [show cpS .head (st.s t) = st.s t by rw [hc]; rfl, hset]; exact h
        · show TR w _ p (cpV .head (st.s t)) _
          rw [show cpV .head (st.s t) = hdV (st.s t) by rw [hc]; rfl]
          exact clsDeep_left_TR (G' := G) (p := .slot t) (Ext.refl _ _) rfl (h.slots t)
  | m t =>
    obtain rfl := hx
    obtain ⟨G', h1, h2, h3, h4, h5⟩ := h.pin t
    exact ⟨G', h1, h5 p, h2, h3, h4⟩
  | p t => obtain rfl := hx; exact ⟨G, h, hdV_TR_any (h.slots t), Carry.refl _ _, rfl, Ext.refl _ _⟩
  | c v => obtain ⟨own, hx⟩ := hx; exact ⟨G, h, TR_of_CR (const_CR hx), Carry.refl _ _, rfl, Ext.refl _ _⟩
/-! What operands leave alone. -/
theorem pin_b (st : St) (t : Nat) : (pin st t).2.b = st.b := by unfold pin; split <;> rfl
theorem frz_b (st : St) (t i k e sz m : Nat) : (frz st t i k e sz m).2.b = st.b := by unfold frz; repeat (first | rfl | split)
theorem unpin_b (st : St) (t i k e sz m : Nat) : (unpin st t i k e sz m).2.b = st.b := by unfold unpin; repeat (first | rfl | split)
theorem give_b (st : St) (ax : AX) : (give st ax).2.b = st.b := by
  cases ax with
  | f n => unfold give; simp only; split; { exact frz_b .. }; { rfl }
  | m n => exact pin_b _ _
  | _ => rfl
theorem take_b (st : St) (ax : AX) : (take st ax).2.b = st.b := by
  cases ax with
  | u n => unfold take; simp only; split; { exact unpin_b .. }; { rfl }
  | m n => exact pin_b _ _
  | _ => rfl
theorem copy_b (m : Mode) (st : St) (ax : AX) : (copy m st ax).2.b = st.b := by cases ax <;> first | rfl | exact pin_b _ _

structure H.More (h h' : H) : Prop where
  n : h.n ≤ h'.n
  dom : ∀ i, (h.get i).isSome = true → (h'.get i).isSome = true
theorem H.More.refl (h : H) : H.More h h := ⟨Nat.le_refl _, fun _ h => h⟩
theorem H.More.trans {h h1 h2 : H} (a : H.More h h1) (b : H.More h1 h2) : H.More h h2 := ⟨Nat.le_trans a.n b.n, fun i hi => b.dom i (a.dom i hi)⟩
theorem H.More.push (h : H) (o : Obj) : H.More h (h.push o) := ⟨by rw [H.n_push]; omega, fun i hi => by rw [H.get_push]; split; { rfl }; { exact hi }⟩
theorem H.More.set {h : H} {i : Nat} {x : Obj} (hx : h.get i = some x) (o : Obj) : H.More h (h.set i o) := ⟨by rw [H.n_set]; exact Nat.le_refl _, fun j hj => by rw [H.get_set hx]; split; { rfl }; { exact hj }⟩
theorem pin_more (st : St) (t : Nat) : H.More st.h (pin st t).2.h := by unfold pin; split; { exact H.More.push _ _ }; { exact H.More.refl _ }
theorem frz_more (st : St) (t i k e sz m : Nat) : H.More st.h (frz st t i k e sz m).2.h := by
  unfold frz
  split
  · rename_i hg; split; { exact H.More.set hg _ }; { exact H.More.refl _ }
  · split <;> exact H.More.refl _
  · exact H.More.refl _
theorem give_more (st : St) (ax : AX) : H.More st.h (give st ax).2.h := by
  cases ax with
  | f n => unfold give; simp only; split; { exact frz_more .. }; { exact H.More.refl _ }
  | m n => exact pin_more _ _
  | _ => exact H.More.refl _
theorem take_more (st : St) {ax : AX} (hu : ax.isU = false) : H.More st.h (take st ax).2.h := by
  cases ax <;> first | exact H.More.refl _ | exact pin_more _ _ | cases hu
theorem copy_more (m : Mode) (st : St) (ax : AX) : H.More st.h (copy m st ax).2.h := by
  cases ax <;> first | exact H.More.refl _ | exact pin_more _ _

def Less (st st' : St) : Prop := st'.b = st.b ∧ H.More st.h st'.h
theorem Less.refl (st : St) : Less st st := ⟨rfl, H.More.refl _⟩
theorem Less.trans {a b c : St} (h : Less a b) (k : Less b c) : Less a c := ⟨k.1.trans h.1, h.2.trans k.2⟩
theorem give_less (st : St) (ax : AX) : Less st (give st ax).2 := ⟨give_b _ _, give_more _ _⟩
theorem copy_less (m : Mode) (st : St) (ax : AX) : Less st (copy m st ax).2 := ⟨copy_b _ _ _, copy_more _ _ _⟩
theorem take_less (st : St) {ax : AX} (hu : ax.isU = false) : Less st (take st ax).2 := ⟨take_b _ _, take_more _ hu⟩

end Go.Proofs.YticoldgiebmmgaaGreatDoor.Abs
