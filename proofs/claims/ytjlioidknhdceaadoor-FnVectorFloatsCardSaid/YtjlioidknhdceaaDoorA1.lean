/- An abstract, deterministic interpreter over the loaded code: slices by value, boxes by the slot that made them. Values, states, what the program's types say, the ways of use. -/
import Derived.WalkKit
import Derived.Orders
namespace Go.Proofs.YtjlioidknhdceaaDoor.Abs
set_option linter.all false

inductive Cls where
  | nil
  | frz
  | hdr
  | own (fresh : Bool)
  deriving DecidableEq, Repr

inductive K where
  | loc (t : Nat)
  | obj (i : Nat)
  deriving DecidableEq, Repr, Inhabited

inductive AV where
  | bool (b : Bool)
  | int (k : IntKind) (n : Int)
  | str (s : List UInt8)
  | flt (k : FloatKind) (bits : Nat)
  | slice (c : Cls) (e sz : Nat) (xs : List AV)
  | agg (xs : List AV)
  | tup (xs : List AV)
  | ptr (k : K) (off : Nat)
  | hsl (i k e sz n : Nat)
  | eptr (xs : List AV)
  | nilptr
  | iface (t : TypeId) (v : AV)
  | nilI
  | fn (f : FuncId)
  | gl (g : Nat)
  | sen (b off : Nat)
  | nilfn
  | skipped
  | undef
  deriving Inhabited

inductive Obj where
  | cells (cs : List AV)
  | row (e sz : Nat) (cp : Option Nat) (cs : List AV)
  | ro (cs : List AV)
  | iter (s : List UInt8) (pos : Nat)
  deriving Inhabited

structure H where
  base : Nat
  l : List (Option Obj)
  Γ : Nat → Option (List AV)

def H.n (h : H) : Nat := h.base + h.l.length
def H.get (h : H) (i : Nat) : Option Obj := if i < h.base then none else (h.l[i - h.base]?).join
def H.push (h : H) (o : Obj) : H := ⟨h.base, h.l ++ [some o], h.Γ⟩
def H.set (h : H) (i : Nat) (o : Obj) : H := if i < h.base then h else ⟨h.base, h.l.set (i - h.base) (some o), h.Γ⟩
def H.del (h : H) (i : Nat) : H := if i < h.base then h else ⟨h.base, h.l.set (i - h.base) none, h.Γ⟩
def H.mask (h : H) : H := ⟨h.n, [], h.Γ⟩

structure St where
  s : Nat → AV
  b : Nat → Option Obj
  h : H

def upd {α : Type} (s : Nat → α) (i : Nat) (v : α) : Nat → α := fun j => if j = i then v else s j

theorem upd_same {α : Type} (s : Nat → α) (i : Nat) (v : α) : upd s i v i = v := if_pos rfl
theorem upd_ne {α : Type} (s : Nat → α) (i j : Nat) (v : α) (h : j ≠ i) : upd s i v j = s j := if_neg h

def St.set (st : St) (t : Nat) (v : AV) : St := ⟨upd st.s t v, st.b, st.h⟩
def St.at (st : St) : K → Option Obj
  | .loc t => st.b t
  | .obj i => st.h.get i
def St.setAt (st : St) (k : K) (o : Obj) : St :=
  match k with
  | .loc t => ⟨st.s, upd st.b t (some o), st.h⟩
  | .obj i => ⟨st.s, st.b, st.h.set i o⟩
def St.put (st : St) (d : Option Nat) (v : AV) : St :=
  match d with
  | some t => st.set t v
  | none => st

inductive Ex where
  | normal
  | exit (id : Nat)
  | ret
  deriving DecidableEq

def obind {α β : Type} (x : Option α) (f : α → Option β) : Option β := x.bind f
theorem obind_some {α β : Type} (a : α) (f : α → Option β) : obind (some a) f = f a := rfl
theorem obind_none {α β : Type} (f : α → Option β) : obind none f = none := rfl
@[congr] theorem obind_congr {α β : Type} {x y : Option α} (h : x = y) (f : α → Option β) : obind x f = obind y f := h ▸ rfl
theorem obind_eq_some {α β : Type} {x : Option α} {f : α → Option β} {r : β} : obind x f = some r ↔ ∃ a, x = some a ∧ f a = some r := Option.bind_eq_some_iff

inductive T (α : Type) where
  | ret (a : α)
  | fail
  | pick (n : Nat) (k : Nat → T α)
def T.bind {α β : Type} : T α → (α → T β) → T β
  | .ret a, f => f a
  | .fail, _ => .fail
  | .pick n k, f => .pick n fun d => (k d).bind f
def T.All {α : Type} : T α → (α → Prop) → Prop
  | .ret a, R => R a
  | .fail, _ => False
  | .pick n k, R => ∀ d, d ≤ n → (k d).All R
def T.ofO {α : Type} : Option α → T α
  | some a => .ret a
  | none => .fail
def T.on {α β : Type} : Option α → (α → T β) → T β
  | some a, f => f a
  | none, _ => .fail
section
variable {α β : Type}
@[simp] theorem T.All_ret (a : α) (R : α → Prop) : (T.ret a).All R ↔ R a := Iff.rfl
@[simp] theorem T.All_fail (R : α → Prop) : (T.fail : T α).All R ↔ False := Iff.rfl
theorem T.All_bind {f : α → T β} {R : β → Prop} : ∀ {x : T α}, (x.bind f).All R ↔ x.All fun a => (f a).All R
  | .ret _ => Iff.rfl
  | .fail => Iff.rfl
  | .pick n k => by
    constructor
    · exact fun h d hd => T.All_bind.1 (h d hd)
    · exact fun h d hd => T.All_bind.2 (h d hd)
theorem T.All_on {x : Option α} {f : α → T β} {R : β → Prop} : (T.on x f).All R ↔ ∃ a, x = some a ∧ (f a).All R := by
  cases x with
  | none => exact ⟨fun h => h.elim, fun ⟨_, h, _⟩ => (by cases h)⟩
  | some a => exact ⟨fun h => ⟨a, rfl, h⟩, fun ⟨_, h, k⟩ => by injection h with h; subst h; exact k⟩
theorem T.All_ofO {x : Option α} {R : α → Prop} : (T.ofO x).All R ↔ ∃ a, x = some a ∧ R a := by
  cases x with
  | none => exact ⟨fun h => h.elim, fun ⟨_, h, _⟩ => (by cases h)⟩
  | some a => exact ⟨fun h => ⟨a, rfl, h⟩, fun ⟨_, h, k⟩ => by injection h with h; subst h; exact k⟩
theorem T.All.mono {R R' : α → Prop} (h : ∀ a, R a → R' a) : ∀ {x : T α}, x.All R → x.All R'
  | .ret a, k => h a k
  | .fail, k => k
  | .pick n f, k => fun d hd => T.All.mono h (k d hd)
theorem T.All.ex {R : α → Prop} : ∀ {x : T α}, x.All R → ∃ a, R a
  | .ret a, k => ⟨a, k⟩
  | .fail, k => k.elim
  | .pick n f, k => T.All.ex (k 0 (Nat.zero_le _))
theorem T.All.and {R R' : α → Prop} : ∀ {x : T α}, x.All R → x.All R' → x.All fun a => R a ∧ R' a
  | .ret a, k, k' => ⟨k, k'⟩
  | .fail, k, _ => k
  | .pick n f, k, k' => fun d hd => T.All.and (k d hd) (k' d hd)
end

def onBool {β : Type} (v : AV) (a b : Unit → T β) : T β :=
  match v with
  | .bool true => a ()
  | .bool false => b ()
  | _ => .fail
theorem onBool_true {β : Type} (a b : Unit → T β) : onBool (.bool true) a b = a () := rfl
theorem onBool_false {β : Type} (a b : Unit → T β) : onBool (.bool false) a b = b () := rfl
@[congr] theorem onBool_congr {β : Type} {v w : AV} (h : v = w) (a b : Unit → T β) : onBool v a b = onBool w a b := h ▸ rfl

def onGuard {β : Type} (v : AV) (want : Bool) (a b : Unit → T β) : T β :=
  match v with
  | .bool x => if x = want then a () else b ()
  | .skipped => b ()
  | _ => .fail
theorem onGuard_tt {β : Type} (a b : Unit → T β) : onGuard (.bool true) true a b = a () := rfl
theorem onGuard_ff {β : Type} (a b : Unit → T β) : onGuard (.bool false) false a b = a () := rfl
theorem onGuard_tf {β : Type} (a b : Unit → T β) : onGuard (.bool true) false a b = b () := rfl
theorem onGuard_ft {β : Type} (a b : Unit → T β) : onGuard (.bool false) true a b = b () := rfl
theorem onGuard_skipped {β : Type} (w : Bool) (a b : Unit → T β) : onGuard .skipped w a b = b () := rfl
@[congr] theorem onGuard_congr {β : Type} {v w : AV} (h : v = w) (x : Bool) (a b : Unit → T β) : onGuard v x a b = onGuard w x a b := h ▸ rfl

def goOn (r : Ex × St) (k : St → T (Ex × St)) : T (Ex × St) :=
  match r.1 with
  | .normal => k r.2
  | .exit i => .ret (.exit i, r.2)
  | .ret => .ret (.ret, r.2)
theorem goOn_normal (st : St) (k : St → T (Ex × St)) : goOn (.normal, st) k = k st := rfl
theorem goOn_exit (i : Nat) (st : St) (k : St → T (Ex × St)) : goOn (.exit i, st) k = .ret (.exit i, st) := rfl
theorem goOn_ret (st : St) (k : St → T (Ex × St)) : goOn (.ret, st) k = .ret (.ret, st) := rfl

def blockEnd (id : Nat) (r : Ex × St) : T (Ex × St) :=
  match r.1 with
  | .normal => .ret (.normal, r.2)
  | .exit i => .ret (if i = id then .normal else .exit i, r.2)
  | .ret => .ret (.ret, r.2)
theorem blockEnd_normal (id : Nat) (st : St) : blockEnd id (.normal, st) = .ret (.normal, st) := rfl
theorem blockEnd_exit (id i : Nat) (st : St) : blockEnd id (.exit i, st) = .ret (if i = id then .normal else .exit i, st) := rfl
theorem blockEnd_ret (id : Nat) (st : St) : blockEnd id (.ret, st) = .ret (.ret, st) := rfl

def ofCell : Value → Option AV
  | .bool b => some (.bool b)
  | .int k n => some (.int k n)
  | .string s => some (.str s.data.toList)
  | .float k n => some (.flt k n)
  | .pointer none => some .nilptr
  | .slice none 0 0 => some (.slice .nil 0 1 [])
  | .nilIface => some .nilI
  | .nilFunc => some .nilfn
  | _ => none

def ofCells : List Value → Option (List AV)
  | [] => some []
  | v :: r => (ofCell v).bind fun a => (ofCells r).map fun l => a :: l

def ofConst : Value → Option AV
  | .agg cs => (ofCells cs.toList).map .agg
  | v => ofCell v

def AV.cells : AV → List AV
  | .agg xs => xs
  | v => [v]

def Cls.left : Cls → Cls
  | .own _ => .hdr
  | c => c
def Cls.frozen : Cls → Cls
  | .own _ => .frz
  | c => c
def Cls.shared : Cls → Cls
  | .own _ => .own false
  | c => c
def AV.cls (f : Cls → Cls) : AV → AV
  | .slice c e sz xs => .slice (f c) e sz xs
  | v => v
def AV.clsDeep (f : Cls → Cls) : AV → AV
  | .slice c e sz xs => .slice (f c) e sz xs
  | .tup xs => .tup (xs.map (·.cls f))
  | v => v

def AV.kill (t : Nat) : AV → AV
  | .ptr (.loc s) off => if s = t then .undef else .ptr (.loc s) off
  | v => v

def AV.plain : AV → Bool
  | .ptr (.loc _) _ | .tup _ | .skipped | .undef => false
  | _ => true

def AV.isOwn : AV → Bool
  | .slice (.own _) _ _ _ => true
  | _ => false

/-! ### What the interpreter asks of the program's types -/
section
variable (P : Program)
def foff (t : TypeId) (i : Nat) : Option (Nat × TypeId) :=
  match P.underlying t with
  | some (.struct fs) => (fs[i]?).map fun f => (f.offset, f.type)
  | _ => none
def tsize (t : TypeId) : Option Nat := (P.info? t).map (·.size)
def tagg (t : TypeId) : Option Bool :=
  match P.underlying t with
  | some (.struct _) => some true
  | some (.array _ _) => some true
  | some _ => some false
  | none => none
def tzero (t : TypeId) : Option AV := ((P.info? t).bind (·.zero)).bind ofConst
def telem (t : TypeId) : Option (TypeId × Nat × Nat) :=
  match P.underlying t with
  | some (.slice e) =>
    match P.info? e with
    | some i => (match i.zero with
      | some z => if z.cells.size = i.size ∧ 0 < i.size then some (e, i.size, i.bytes) else none
      | none => none)
    | none => none
  | _ => none
def tkind (t : TypeId) : Option Nat :=
  match P.underlying t with
  | some .bool => some 0
  | some (.int _) => some 1
  | some .string => some 2
  | some (.slice _) => some 3
  | some (.pointer _) => some 4
  | some (.interface _) => some 5
  | some (.struct _) => some 6
  | some (.array _ _) => some 7
  | some (.func ..) => some 8
  | some (.float _) => some 9
  | some (.tuple _) => some 10
  | _ => none
def tint (t : TypeId) : Option IntKind :=
  match P.underlying t with
  | some (.int k) => some k
  | _ => none
def tarr (t : TypeId) : Option (Nat × TypeId × Nat) :=
  match P.underlying t with
  | some (.array n e) => (P.info? e).map fun i => (n, e, i.size)
  | _ => none
def tmeths (t : TypeId) : Option (Array (String × TypeId)) :=
  match P.underlying t with
  | some (.interface ms) => some ms
  | _ => none
def hasAll (want : Array (String × TypeId)) (got : Array Method) : Bool := want.toList.all fun q => got.any fun m => m.name == q.1 && m.sig == q.2
def implBy (want : Array (String × TypeId)) : List TypeId :=
  (List.range P.types.size).filter fun t => match P.info? t with
    | some i => hasAll want i.methods
    | none => false
def implNot (want : Array (String × TypeId)) : List TypeId :=
  (List.range P.types.size).filter fun t => match P.info? t with
    | some i => !i.methods.isEmpty && !hasAll want i.methods
    | none => false
def methBy (name : String) : List (TypeId × FuncId) :=
  (List.range P.types.size).filterMap fun t => match P.types[t]? with
    | some i => (match i.methods.find? (·.name == name) with
      | some m => (match m.func with
        | some (f, pr) => if m.path.isEmpty && (pr == (tkind P t == some 4)) then some (t, f) else none
        | none => none)
      | none => none)
    | none => none
def towns (t : TypeId) : Bool :=
  match tkind P t with
  | some 3 => true
  | some 10 => true
  | _ => false
end

def placesOf (P : Program) : List Field → Option (List (Nat × Nat × Bool))
  | [] => some []
  | f :: r => (tsize P f.type).bind fun n => (placesOf P r).map fun l => (f.offset, n, towns P f.type) :: l
def tplaces (P : Program) (t : TypeId) : Option (List (Nat × Nat × Bool)) :=
  match P.underlying t with
  | some (.struct fs) => placesOf P fs.toList
  | _ => none

/-! ### How a slot's slice is handed on -/

def taken (sig : FuncId → Nat → Nat) (ops : List Oper) (t : Tmp) : Bool :=
  ops.any fun o => match o.op with
    | .assign (.tmp x) => x == t
    | .store _ _ (.tmp x) => x == t
    | .call { callee := .builtin .append, args, .. } => (match args.toList with | .tmp x :: _ => x == t | _ => false)
    | .call { callee := .value (.func f), args, .. } => args.toList.zipIdx.any fun (a, i) => (match a with | .tmp x => x == t | _ => false) && sig f i % 2 == 1
    | _ => false

def looked (ops : List Oper) : Nat → Tmp → Bool
  | 0, _ => true
  | k + 1, t => ops.any fun o => match o.op with
    | .call { callee := .builtin .len, .. } => false
    | .call { callee := .builtin .cap, .. } => false
    | .binOp .eql _ _ _ _ => false
    | .binOp .neq _ _ _ _ => false
    | .slice _ (.tmp x) _ _ _ => x == t && (match o.dst with | some d => looked ops k d | none => true)
    | op => op.operands.any fun | .tmp x => x == t | _ => false

inductive Mode where
  | take
  | look
  | head
  deriving DecidableEq

def modeOf (sig : FuncId → Nat → Nat) (ops : List Oper) (d : Option Tmp) : Mode :=
  match d with
  | none => .head
  | some t => if taken sig ops t then .take else if looked ops 8 t then .look else .head

/-! ### Values handed on -/
def gvV : AV → AV := AV.cls .frozen
def lfV : AV → AV := AV.clsDeep .left
def hdV : AV → AV := AV.clsDeep .left
def cpV (m : Mode) (v : AV) : AV :=
  match v with
  | .slice c e sz xs => (match m with
    | .take => .slice c e sz xs
    | .look => .slice c.frozen e sz xs
    | .head => .slice c.left e sz xs)
  | v => v
def cpS (m : Mode) (v : AV) : AV :=
  match v with
  | .slice c e sz xs => (match m with
    | .take => .slice c.left e sz xs
    | .look => .slice c.shared e sz xs
    | .head => .slice c e sz xs)
  | .tup vs => .tup (vs.map (·.cls .left))
  | v => v

end Go.Proofs.YtjlioidknhdceaaDoor.Abs
