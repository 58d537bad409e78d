/- Bytes. -/
import Derived.Test.YtjlioidknhdceaaDoorA25
namespace Go.Proofs.YtjlioidknhdceaaDoor.Abs
set_option linter.all false
set_option linter.unusedVariables false

def bAV (e : Nat) : Option (List UInt8) → AV
  | none => .slice .nil 0 1 []
  | some l => .slice .frz e 1 (byteCells l)
def bl : Option (List UInt8) → List UInt8
  | none => []
  | some l => l

theorem bytesOf_cells (l : List UInt8) : bytesOf (byteCells l) = some l := by
  induction l with
  | nil => rfl
  | cons b l ih =>
    have : byteCells (b :: l) = .int .u8 b.toNat :: byteCells l := rfl
    rw [this]; simp [bytesOf, ih]

theorem byteCells_length (l : List UInt8) : (byteCells l).length = l.length := by simp [byteCells]
theorem byteCells_append (l m : List UInt8) : byteCells (l ++ m) = byteCells l ++ byteCells m := by simp [byteCells]
theorem byteCells_cons (b : UInt8) (l : List UInt8) : byteCells (b :: l) = .int .u8 b.toNat :: byteCells l := rfl
/-! ### Small steps, for the simplifier -/
@[simp] theorem ev_gvV_bool (b : Bool) : gvV (.bool b : AV) = (.bool b : AV) := rfl
@[simp] theorem ev_hdV_bool (b : Bool) : hdV (.bool b : AV) = (.bool b : AV) := rfl
@[simp] theorem ev_lfV_bool (b : Bool) : lfV (.bool b : AV) = (.bool b : AV) := rfl
@[simp] theorem ev_cls_bool (b : Bool) (f : Cls → Cls) : AV.cls f (.bool b : AV) = (.bool b : AV) := rfl
@[simp] theorem ev_several_bool (b : Bool) : (.bool b : AV).several = false := rfl
@[simp] theorem ev_plain_bool (b : Bool) : (.bool b : AV).plain = true := rfl
@[simp] theorem ev_cells_bool (b : Bool) : (.bool b : AV).cells = [(.bool b : AV)] := rfl
@[simp] theorem ev_kill_bool (b : Bool) (t0 : Nat) : AV.kill t0 (.bool b : AV) = (.bool b : AV) := rfl
@[simp] theorem ev_gvV_int (k : IntKind) (n : Int) : gvV (.int k n : AV) = (.int k n : AV) := rfl
@[simp] theorem ev_hdV_int (k : IntKind) (n : Int) : hdV (.int k n : AV) = (.int k n : AV) := rfl
@[simp] theorem ev_lfV_int (k : IntKind) (n : Int) : lfV (.int k n : AV) = (.int k n : AV) := rfl
@[simp] theorem ev_cls_int (k : IntKind) (n : Int) (f : Cls → Cls) : AV.cls f (.int k n : AV) = (.int k n : AV) := rfl
@[simp] theorem ev_several_int (k : IntKind) (n : Int) : (.int k n : AV).several = false := rfl
@[simp] theorem ev_plain_int (k : IntKind) (n : Int) : (.int k n : AV).plain = true := rfl
@[simp] theorem ev_cells_int (k : IntKind) (n : Int) : (.int k n : AV).cells = [(.int k n : AV)] := rfl
@[simp] theorem ev_kill_int (k : IntKind) (n : Int) (t0 : Nat) : AV.kill t0 (.int k n : AV) = (.int k n : AV) := rfl
@[simp] theorem ev_cpV_int (k : IntKind) (n : Int) (m : Mode) : cpV m (.int k n : AV) = (.int k n : AV) := by cases m <;> rfl
@[simp] theorem ev_cpS_int (k : IntKind) (n : Int) (m : Mode) : cpS m (.int k n : AV) = (.int k n : AV) := by cases m <;> rfl
@[simp] theorem ev_gvV_str (s : List UInt8) : gvV (.str s : AV) = (.str s : AV) := rfl
@[simp] theorem ev_hdV_str (s : List UInt8) : hdV (.str s : AV) = (.str s : AV) := rfl
@[simp] theorem ev_lfV_str (s : List UInt8) : lfV (.str s : AV) = (.str s : AV) := rfl
@[simp] theorem ev_cls_str (s : List UInt8) (f : Cls → Cls) : AV.cls f (.str s : AV) = (.str s : AV) := rfl
@[simp] theorem ev_several_str (s : List UInt8) : (.str s : AV).several = false := rfl
@[simp] theorem ev_plain_str (s : List UInt8) : (.str s : AV).plain = true := rfl
@[simp] theorem ev_cells_str (s : List UInt8) : (.str s : AV).cells = [(.str s : AV)] := rfl
@[simp] theorem ev_kill_str (s : List UInt8) (t0 : Nat) : AV.kill t0 (.str s : AV) = (.str s : AV) := rfl
@[simp] theorem ev_gvV_flt (k : FloatKind) (n : Nat) : gvV (.flt k n : AV) = (.flt k n : AV) := rfl
@[simp] theorem ev_hdV_flt (k : FloatKind) (n : Nat) : hdV (.flt k n : AV) = (.flt k n : AV) := rfl
@[simp] theorem ev_lfV_flt (k : FloatKind) (n : Nat) : lfV (.flt k n : AV) = (.flt k n : AV) := rfl
@[simp] theorem ev_cls_flt (k : FloatKind) (n : Nat) (f : Cls → Cls) : AV.cls f (.flt k n : AV) = (.flt k n : AV) := rfl
@[simp] theorem ev_several_flt (k : FloatKind) (n : Nat) : (.flt k n : AV).several = false := rfl
@[simp] theorem ev_plain_flt (k : FloatKind) (n : Nat) : (.flt k n : AV).plain = true := rfl
@[simp] theorem ev_cells_flt (k : FloatKind) (n : Nat) : (.flt k n : AV).cells = [(.flt k n : AV)] := rfl
@[simp] theorem ev_kill_flt (k : FloatKind) (n : Nat) (t0 : Nat) : AV.kill t0 (.flt k n : AV) = (.flt k n : AV) := rfl
@[simp] theorem ev_gvV_agg (xs : List AV) : gvV (.agg xs : AV) = (.agg xs : AV) := rfl
@[simp] theorem ev_hdV_agg (xs : List AV) : hdV (.agg xs : AV) = (.agg xs : AV) := rfl
@[simp] theorem ev_lfV_agg (xs : List AV) : lfV (.agg xs : AV) = (.agg xs : AV) := rfl
@[simp] theorem ev_cls_agg (xs : List AV) (f : Cls → Cls) : AV.cls f (.agg xs : AV) = (.agg xs : AV) := rfl
@[simp] theorem ev_several_agg (xs : List AV) : (.agg xs : AV).several = false := rfl
@[simp] theorem ev_plain_agg (xs : List AV) : (.agg xs : AV).plain = true := rfl
@[simp] theorem ev_cells_agg (xs : List AV) : (.agg xs : AV).cells = xs := rfl
@[simp] theorem ev_kill_agg (xs : List AV) (t0 : Nat) : AV.kill t0 (.agg xs : AV) = (.agg xs : AV) := rfl
@[simp] theorem ev_gvV_ptr (s : K) (off : Nat) : gvV (.ptr s off : AV) = (.ptr s off : AV) := rfl
@[simp] theorem ev_hdV_ptr (s : K) (off : Nat) : hdV (.ptr s off : AV) = (.ptr s off : AV) := rfl
@[simp] theorem ev_lfV_ptr (s : K) (off : Nat) : lfV (.ptr s off : AV) = (.ptr s off : AV) := rfl
@[simp] theorem ev_cls_ptr (s : K) (off : Nat) (f : Cls → Cls) : AV.cls f (.ptr s off : AV) = (.ptr s off : AV) := rfl
@[simp] theorem ev_several_ptr (s : K) (off : Nat) : (.ptr s off : AV).several = false := rfl
@[simp] theorem ev_plain_ptr (s : Nat) (off : Nat) : (.ptr (.loc s) off : AV).plain = false := rfl
@[simp] theorem ev_plain_ptro (s : Nat) (off : Nat) : (.ptr (.obj s) off : AV).plain = true := rfl
@[simp] theorem ev_cells_ptr (s : K) (off : Nat) : (.ptr s off : AV).cells = [(.ptr s off : AV)] := rfl
@[simp] theorem ev_kill_ptr (s : Nat) (off : Nat) (t0 : Nat) : AV.kill t0 (.ptr (.loc s) off : AV) = if s = t0 then .undef else .ptr (.loc s) off := rfl
@[simp] theorem ev_kill_ptro (s : Nat) (off : Nat) (t0 : Nat) : AV.kill t0 (.ptr (.obj s) off : AV) = .ptr (.obj s) off := rfl
@[simp] theorem ev_gvV_eptr (xs : List AV) : gvV (.eptr xs : AV) = (.eptr xs : AV) := rfl
@[simp] theorem ev_hdV_eptr (xs : List AV) : hdV (.eptr xs : AV) = (.eptr xs : AV) := rfl
@[simp] theorem ev_lfV_eptr (xs : List AV) : lfV (.eptr xs : AV) = (.eptr xs : AV) := rfl
@[simp] theorem ev_cls_eptr (xs : List AV) (f : Cls → Cls) : AV.cls f (.eptr xs : AV) = (.eptr xs : AV) := rfl
@[simp] theorem ev_several_eptr (xs : List AV) : (.eptr xs : AV).several = false := rfl
@[simp] theorem ev_plain_eptr (xs : List AV) : (.eptr xs : AV).plain = true := rfl
@[simp] theorem ev_cells_eptr (xs : List AV) : (.eptr xs : AV).cells = [(.eptr xs : AV)] := rfl
@[simp] theorem ev_kill_eptr (xs : List AV) (t0 : Nat) : AV.kill t0 (.eptr xs : AV) = (.eptr xs : AV) := rfl
@[simp] theorem ev_gvV_nilptr  : gvV (.nilptr  : AV) = (.nilptr  : AV) := rfl
@[simp] theorem ev_hdV_nilptr  : hdV (.nilptr  : AV) = (.nilptr  : AV) := rfl
@[simp] theorem ev_lfV_nilptr  : lfV (.nilptr  : AV) = (.nilptr  : AV) := rfl
@[simp] theorem ev_cls_nilptr  (f : Cls → Cls) : AV.cls f (.nilptr  : AV) = (.nilptr  : AV) := rfl
@[simp] theorem ev_several_nilptr  : (.nilptr  : AV).several = false := rfl
@[simp] theorem ev_plain_nilptr  : (.nilptr  : AV).plain = true := rfl
@[simp] theorem ev_cells_nilptr  : (.nilptr  : AV).cells = [(.nilptr  : AV)] := rfl
@[simp] theorem ev_kill_nilptr  (t0 : Nat) : AV.kill t0 (.nilptr  : AV) = (.nilptr  : AV) := rfl
@[simp] theorem ev_gvV_iface (t : TypeId) (v : AV) : gvV (.iface t v : AV) = (.iface t v : AV) := rfl
@[simp] theorem ev_hdV_iface (t : TypeId) (v : AV) : hdV (.iface t v : AV) = (.iface t v : AV) := rfl
@[simp] theorem ev_lfV_iface (t : TypeId) (v : AV) : lfV (.iface t v : AV) = (.iface t v : AV) := rfl
@[simp] theorem ev_cls_iface (t : TypeId) (v : AV) (f : Cls → Cls) : AV.cls f (.iface t v : AV) = (.iface t v : AV) := rfl
@[simp] theorem ev_several_iface (t : TypeId) (v : AV) : (.iface t v : AV).several = false := rfl
@[simp] theorem ev_plain_iface (t : TypeId) (v : AV) : (.iface t v : AV).plain = true := rfl
@[simp] theorem ev_cells_iface (t : TypeId) (v : AV) : (.iface t v : AV).cells = [(.iface t v : AV)] := rfl
@[simp] theorem ev_kill_iface (t : TypeId) (v : AV) (t0 : Nat) : AV.kill t0 (.iface t v : AV) = (.iface t v : AV) := rfl
@[simp] theorem ev_gvV_nilI  : gvV (.nilI  : AV) = (.nilI  : AV) := rfl
@[simp] theorem ev_hdV_nilI  : hdV (.nilI  : AV) = (.nilI  : AV) := rfl
@[simp] theorem ev_lfV_nilI  : lfV (.nilI  : AV) = (.nilI  : AV) := rfl
@[simp] theorem ev_cls_nilI  (f : Cls → Cls) : AV.cls f (.nilI  : AV) = (.nilI  : AV) := rfl
@[simp] theorem ev_several_nilI  : (.nilI  : AV).several = false := rfl
@[simp] theorem ev_plain_nilI  : (.nilI  : AV).plain = true := rfl
@[simp] theorem ev_cells_nilI  : (.nilI  : AV).cells = [(.nilI  : AV)] := rfl
@[simp] theorem ev_kill_nilI  (t0 : Nat) : AV.kill t0 (.nilI  : AV) = (.nilI  : AV) := rfl
@[simp] theorem ev_gvV_fn (f : FuncId) : gvV (.fn f : AV) = (.fn f : AV) := rfl
@[simp] theorem ev_hdV_fn (f : FuncId) : hdV (.fn f : AV) = (.fn f : AV) := rfl
@[simp] theorem ev_lfV_fn (f : FuncId) : lfV (.fn f : AV) = (.fn f : AV) := rfl
@[simp] theorem ev_cls_fn (f : FuncId) (g : Cls → Cls) : AV.cls g (.fn f : AV) = (.fn f : AV) := rfl
@[simp] theorem ev_several_fn (f : FuncId) : (.fn f : AV).several = false := rfl
@[simp] theorem ev_plain_fn (f : FuncId) : (.fn f : AV).plain = true := rfl
@[simp] theorem ev_cells_fn (f : FuncId) : (.fn f : AV).cells = [(.fn f : AV)] := rfl
@[simp] theorem ev_kill_fn (f : FuncId) (t0 : Nat) : AV.kill t0 (.fn f : AV) = (.fn f : AV) := rfl
@[simp] theorem ev_gvV_gl (g : Nat) : gvV (.gl g : AV) = (.gl g : AV) := rfl
@[simp] theorem ev_hdV_gl (g : Nat) : hdV (.gl g : AV) = (.gl g : AV) := rfl
@[simp] theorem ev_lfV_gl (g : Nat) : lfV (.gl g : AV) = (.gl g : AV) := rfl
@[simp] theorem ev_cls_gl (g : Nat) (f : Cls → Cls) : AV.cls f (.gl g : AV) = (.gl g : AV) := rfl
@[simp] theorem ev_several_gl (g : Nat) : (.gl g : AV).several = false := rfl
@[simp] theorem ev_plain_gl (g : Nat) : (.gl g : AV).plain = true := rfl
@[simp] theorem ev_cells_gl (g : Nat) : (.gl g : AV).cells = [(.gl g : AV)] := rfl
@[simp] theorem ev_kill_gl (g : Nat) (t0 : Nat) : AV.kill t0 (.gl g : AV) = (.gl g : AV) := rfl
@[simp] theorem ev_gvV_sen (b off : Nat) : gvV (.sen b off : AV) = (.sen b off : AV) := rfl
@[simp] theorem ev_hdV_sen (b off : Nat) : hdV (.sen b off : AV) = (.sen b off : AV) := rfl
@[simp] theorem ev_lfV_sen (b off : Nat) : lfV (.sen b off : AV) = (.sen b off : AV) := rfl
@[simp] theorem ev_cls_sen (b off : Nat) (f : Cls → Cls) : AV.cls f (.sen b off : AV) = (.sen b off : AV) := rfl
@[simp] theorem ev_several_sen (b off : Nat) : (.sen b off : AV).several = false := rfl
@[simp] theorem ev_plain_sen (b off : Nat) : (.sen b off : AV).plain = true := rfl
@[simp] theorem ev_cells_sen (b off : Nat) : (.sen b off : AV).cells = [(.sen b off : AV)] := rfl
@[simp] theorem ev_kill_sen (b off : Nat) (t0 : Nat) : AV.kill t0 (.sen b off : AV) = (.sen b off : AV) := rfl
@[simp] theorem ev_gvV_nilfn  : gvV (.nilfn  : AV) = (.nilfn  : AV) := rfl
@[simp] theorem ev_hdV_nilfn  : hdV (.nilfn  : AV) = (.nilfn  : AV) := rfl
@[simp] theorem ev_lfV_nilfn  : lfV (.nilfn  : AV) = (.nilfn  : AV) := rfl
@[simp] theorem ev_cls_nilfn  (f : Cls → Cls) : AV.cls f (.nilfn  : AV) = (.nilfn  : AV) := rfl
@[simp] theorem ev_several_nilfn  : (.nilfn  : AV).several = false := rfl
@[simp] theorem ev_plain_nilfn  : (.nilfn  : AV).plain = true := rfl
@[simp] theorem ev_cells_nilfn  : (.nilfn  : AV).cells = [(.nilfn  : AV)] := rfl
@[simp] theorem ev_kill_nilfn  (t0 : Nat) : AV.kill t0 (.nilfn  : AV) = (.nilfn  : AV) := rfl
@[simp] theorem ev_gvV_skipped  : gvV (.skipped  : AV) = (.skipped  : AV) := rfl
@[simp] theorem ev_hdV_skipped  : hdV (.skipped  : AV) = (.skipped  : AV) := rfl
@[simp] theorem ev_lfV_skipped  : lfV (.skipped  : AV) = (.skipped  : AV) := rfl
@[simp] theorem ev_cls_skipped  (f : Cls → Cls) : AV.cls f (.skipped  : AV) = (.skipped  : AV) := rfl
@[simp] theorem ev_several_skipped  : (.skipped  : AV).several = false := rfl
@[simp] theorem ev_plain_skipped  : (.skipped  : AV).plain = false := rfl
@[simp] theorem ev_cells_skipped  : (.skipped  : AV).cells = [(.skipped  : AV)] := rfl
@[simp] theorem ev_kill_skipped  (t0 : Nat) : AV.kill t0 (.skipped  : AV) = (.skipped  : AV) := rfl
@[simp] theorem ev_gvV_undef  : gvV (.undef  : AV) = (.undef  : AV) := rfl
@[simp] theorem ev_hdV_undef  : hdV (.undef  : AV) = (.undef  : AV) := rfl
@[simp] theorem ev_lfV_undef  : lfV (.undef  : AV) = (.undef  : AV) := rfl
@[simp] theorem ev_cls_undef  (f : Cls → Cls) : AV.cls f (.undef  : AV) = (.undef  : AV) := rfl
@[simp] theorem ev_several_undef  : (.undef  : AV).several = false := rfl
@[simp] theorem ev_plain_undef  : (.undef  : AV).plain = false := rfl
@[simp] theorem ev_cells_undef  : (.undef  : AV).cells = [(.undef  : AV)] := rfl
@[simp] theorem ev_kill_undef  (t0 : Nat) : AV.kill t0 (.undef  : AV) = (.undef  : AV) := rfl
@[simp] theorem ev_gvV_snil  (e sz : Nat) (xs : List AV) : gvV (.slice .nil e sz xs : AV) = (.slice .nil e sz xs : AV) := rfl
@[simp] theorem ev_hdV_snil  (e sz : Nat) (xs : List AV) : hdV (.slice .nil e sz xs : AV) = (.slice .nil e sz xs : AV) := rfl
@[simp] theorem ev_lfV_snil  (e sz : Nat) (xs : List AV) : lfV (.slice .nil e sz xs : AV) = (.slice .nil e sz xs : AV) := rfl
@[simp] theorem ev_several_snil  (e sz : Nat) (xs : List AV) : (.slice .nil e sz xs : AV).several = false := rfl
@[simp] theorem ev_plain_snil  (e sz : Nat) (xs : List AV) : (.slice .nil e sz xs : AV).plain = true := rfl
@[simp] theorem ev_cells_snil  (e sz : Nat) (xs : List AV) : (.slice .nil e sz xs : AV).cells = [(.slice .nil e sz xs : AV)] := rfl
@[simp] theorem ev_kill_snil  (e sz : Nat) (xs : List AV) (t0 : Nat) : AV.kill t0 (.slice .nil e sz xs : AV) = (.slice .nil e sz xs : AV) := rfl
@[simp] theorem ev_left_snil  (e sz : Nat) (xs : List AV) : AV.cls .left (.slice .nil e sz xs : AV) = (.slice .nil e sz xs : AV) := rfl
@[simp] theorem ev_cpV_snil_take  (e sz : Nat) (xs : List AV) : cpV .take (.slice .nil e sz xs : AV) = (.slice .nil e sz xs : AV) := rfl
@[simp] theorem ev_cpS_snil_take  (e sz : Nat) (xs : List AV) : cpS .take (.slice .nil e sz xs : AV) = (.slice .nil e sz xs : AV) := rfl
@[simp] theorem ev_cpV_snil_look  (e sz : Nat) (xs : List AV) : cpV .look (.slice .nil e sz xs : AV) = (.slice .nil e sz xs : AV) := rfl
@[simp] theorem ev_cpS_snil_look  (e sz : Nat) (xs : List AV) : cpS .look (.slice .nil e sz xs : AV) = (.slice .nil e sz xs : AV) := rfl
@[simp] theorem ev_cpV_snil_head  (e sz : Nat) (xs : List AV) : cpV .head (.slice .nil e sz xs : AV) = (.slice .nil e sz xs : AV) := rfl
@[simp] theorem ev_cpS_snil_head  (e sz : Nat) (xs : List AV) : cpS .head (.slice .nil e sz xs : AV) = (.slice .nil e sz xs : AV) := rfl
@[simp] theorem ev_gvV_sfrz  (e sz : Nat) (xs : List AV) : gvV (.slice .frz e sz xs : AV) = (.slice .frz e sz xs : AV) := rfl
@[simp] theorem ev_hdV_sfrz  (e sz : Nat) (xs : List AV) : hdV (.slice .frz e sz xs : AV) = (.slice .frz e sz xs : AV) := rfl
@[simp] theorem ev_lfV_sfrz  (e sz : Nat) (xs : List AV) : lfV (.slice .frz e sz xs : AV) = (.slice .frz e sz xs : AV) := rfl
@[simp] theorem ev_several_sfrz  (e sz : Nat) (xs : List AV) : (.slice .frz e sz xs : AV).several = false := rfl
@[simp] theorem ev_plain_sfrz  (e sz : Nat) (xs : List AV) : (.slice .frz e sz xs : AV).plain = true := rfl
@[simp] theorem ev_cells_sfrz  (e sz : Nat) (xs : List AV) : (.slice .frz e sz xs : AV).cells = [(.slice .frz e sz xs : AV)] := rfl
@[simp] theorem ev_kill_sfrz  (e sz : Nat) (xs : List AV) (t0 : Nat) : AV.kill t0 (.slice .frz e sz xs : AV) = (.slice .frz e sz xs : AV) := rfl
@[simp] theorem ev_left_sfrz  (e sz : Nat) (xs : List AV) : AV.cls .left (.slice .frz e sz xs : AV) = (.slice .frz e sz xs : AV) := rfl
@[simp] theorem ev_cpV_sfrz_take  (e sz : Nat) (xs : List AV) : cpV .take (.slice .frz e sz xs : AV) = (.slice .frz e sz xs : AV) := rfl
@[simp] theorem ev_cpS_sfrz_take  (e sz : Nat) (xs : List AV) : cpS .take (.slice .frz e sz xs : AV) = (.slice .frz e sz xs : AV) := rfl
@[simp] theorem ev_cpV_sfrz_look  (e sz : Nat) (xs : List AV) : cpV .look (.slice .frz e sz xs : AV) = (.slice .frz e sz xs : AV) := rfl
@[simp] theorem ev_cpS_sfrz_look  (e sz : Nat) (xs : List AV) : cpS .look (.slice .frz e sz xs : AV) = (.slice .frz e sz xs : AV) := rfl
@[simp] theorem ev_cpV_sfrz_head  (e sz : Nat) (xs : List AV) : cpV .head (.slice .frz e sz xs : AV) = (.slice .frz e sz xs : AV) := rfl
@[simp] theorem ev_cpS_sfrz_head  (e sz : Nat) (xs : List AV) : cpS .head (.slice .frz e sz xs : AV) = (.slice .frz e sz xs : AV) := rfl
@[simp] theorem ev_gvV_shdr  (e sz : Nat) (xs : List AV) : gvV (.slice .hdr e sz xs : AV) = (.slice .hdr e sz xs : AV) := rfl
@[simp] theorem ev_hdV_shdr  (e sz : Nat) (xs : List AV) : hdV (.slice .hdr e sz xs : AV) = (.slice .hdr e sz xs : AV) := rfl
@[simp] theorem ev_lfV_shdr  (e sz : Nat) (xs : List AV) : lfV (.slice .hdr e sz xs : AV) = (.slice .hdr e sz xs : AV) := rfl
@[simp] theorem ev_several_shdr  (e sz : Nat) (xs : List AV) : (.slice .hdr e sz xs : AV).several = false := rfl
@[simp] theorem ev_plain_shdr  (e sz : Nat) (xs : List AV) : (.slice .hdr e sz xs : AV).plain = true := rfl
@[simp] theorem ev_cells_shdr  (e sz : Nat) (xs : List AV) : (.slice .hdr e sz xs : AV).cells = [(.slice .hdr e sz xs : AV)] := rfl
@[simp] theorem ev_kill_shdr  (e sz : Nat) (xs : List AV) (t0 : Nat) : AV.kill t0 (.slice .hdr e sz xs : AV) = (.slice .hdr e sz xs : AV) := rfl
@[simp] theorem ev_left_shdr  (e sz : Nat) (xs : List AV) : AV.cls .left (.slice .hdr e sz xs : AV) = (.slice .hdr e sz xs : AV) := rfl
@[simp] theorem ev_cpV_shdr_take  (e sz : Nat) (xs : List AV) : cpV .take (.slice .hdr e sz xs : AV) = (.slice .hdr e sz xs : AV) := rfl
@[simp] theorem ev_cpS_shdr_take  (e sz : Nat) (xs : List AV) : cpS .take (.slice .hdr e sz xs : AV) = (.slice .hdr e sz xs : AV) := rfl
@[simp] theorem ev_cpV_shdr_look  (e sz : Nat) (xs : List AV) : cpV .look (.slice .hdr e sz xs : AV) = (.slice .hdr e sz xs : AV) := rfl
@[simp] theorem ev_cpS_shdr_look  (e sz : Nat) (xs : List AV) : cpS .look (.slice .hdr e sz xs : AV) = (.slice .hdr e sz xs : AV) := rfl
@[simp] theorem ev_cpV_shdr_head  (e sz : Nat) (xs : List AV) : cpV .head (.slice .hdr e sz xs : AV) = (.slice .hdr e sz xs : AV) := rfl
@[simp] theorem ev_cpS_shdr_head  (e sz : Nat) (xs : List AV) : cpS .head (.slice .hdr e sz xs : AV) = (.slice .hdr e sz xs : AV) := rfl
@[simp] theorem ev_gvV_sown (fr : Bool) (e sz : Nat) (xs : List AV) : gvV (.slice (.own fr) e sz xs : AV) = (.slice .frz e sz xs : AV) := rfl
@[simp] theorem ev_hdV_sown (fr : Bool) (e sz : Nat) (xs : List AV) : hdV (.slice (.own fr) e sz xs : AV) = (.slice .hdr e sz xs : AV) := rfl
@[simp] theorem ev_lfV_sown (fr : Bool) (e sz : Nat) (xs : List AV) : lfV (.slice (.own fr) e sz xs : AV) = (.slice .hdr e sz xs : AV) := rfl
@[simp] theorem ev_several_sown (fr : Bool) (e sz : Nat) (xs : List AV) : (.slice (.own fr) e sz xs : AV).several = false := rfl
@[simp] theorem ev_plain_sown (fr : Bool) (e sz : Nat) (xs : List AV) : (.slice (.own fr) e sz xs : AV).plain = true := rfl
@[simp] theorem ev_cells_sown (fr : Bool) (e sz : Nat) (xs : List AV) : (.slice (.own fr) e sz xs : AV).cells = [(.slice (.own fr) e sz xs : AV)] := rfl
@[simp] theorem ev_kill_sown (fr : Bool) (e sz : Nat) (xs : List AV) (t0 : Nat) : AV.kill t0 (.slice (.own fr) e sz xs : AV) = (.slice (.own fr) e sz xs : AV) := rfl
@[simp] theorem ev_left_sown (fr : Bool) (e sz : Nat) (xs : List AV) : AV.cls .left (.slice (.own fr) e sz xs : AV) = (.slice .hdr e sz xs : AV) := rfl
@[simp] theorem ev_cpV_sown_take (fr : Bool) (e sz : Nat) (xs : List AV) : cpV .take (.slice (.own fr) e sz xs : AV) = (.slice (.own fr) e sz xs : AV) := rfl
@[simp] theorem ev_cpS_sown_take (fr : Bool) (e sz : Nat) (xs : List AV) : cpS .take (.slice (.own fr) e sz xs : AV) = (.slice .hdr e sz xs : AV) := rfl
@[simp] theorem ev_cpV_sown_look (fr : Bool) (e sz : Nat) (xs : List AV) : cpV .look (.slice (.own fr) e sz xs : AV) = (.slice .frz e sz xs : AV) := rfl
@[simp] theorem ev_cpS_sown_look (fr : Bool) (e sz : Nat) (xs : List AV) : cpS .look (.slice (.own fr) e sz xs : AV) = (.slice (.own false) e sz xs : AV) := rfl
@[simp] theorem ev_cpV_sown_head (fr : Bool) (e sz : Nat) (xs : List AV) : cpV .head (.slice (.own fr) e sz xs : AV) = (.slice .hdr e sz xs : AV) := rfl
@[simp] theorem ev_cpS_sown_head (fr : Bool) (e sz : Nat) (xs : List AV) : cpS .head (.slice (.own fr) e sz xs : AV) = (.slice (.own fr) e sz xs : AV) := rfl
@[simp] theorem ev_gvV_hsl (i k e sz n : Nat) : gvV (.hsl i k e sz n : AV) = .hsl i k e sz n := rfl
@[simp] theorem ev_hdV_hsl (i k e sz n : Nat) : hdV (.hsl i k e sz n : AV) = .hsl i k e sz n := rfl
@[simp] theorem ev_lfV_hsl (i k e sz n : Nat) : lfV (.hsl i k e sz n : AV) = .hsl i k e sz n := rfl
@[simp] theorem ev_cls_hsl (i k e sz n : Nat) (f : Cls → Cls) : AV.cls f (.hsl i k e sz n : AV) = .hsl i k e sz n := rfl
@[simp] theorem ev_several_hsl (i k e sz n : Nat) : (.hsl i k e sz n : AV).several = false := rfl
@[simp] theorem ev_plain_hsl (i k e sz n : Nat) : (.hsl i k e sz n : AV).plain = true := rfl
@[simp] theorem ev_cells_hsl (i k e sz n : Nat) : (.hsl i k e sz n : AV).cells = [.hsl i k e sz n] := rfl
@[simp] theorem ev_kill_hsl (i k e sz n : Nat) (t0 : Nat) : AV.kill t0 (.hsl i k e sz n : AV) = .hsl i k e sz n := rfl
@[simp] theorem ev_cpV_hsl (i k e sz n : Nat) (m : Mode) : cpV m (.hsl i k e sz n : AV) = .hsl i k e sz n := by cases m <;> rfl
@[simp] theorem ev_cpS_hsl (i k e sz n : Nat) (m : Mode) : cpS m (.hsl i k e sz n : AV) = .hsl i k e sz n := by cases m <;> rfl
@[simp] theorem ev_gvV_tup (xs : List AV) : gvV (.tup xs) = (.tup xs) := rfl
@[simp] theorem ev_hdV_tup (xs : List AV) : hdV (.tup xs) = (.tup (xs.map (AV.cls .left))) := rfl
@[simp] theorem ev_lfV_tup (xs : List AV) : lfV (.tup xs) = (.tup (xs.map (AV.cls .left))) := rfl
@[simp] theorem ev_kill_tup (xs : List AV) (t0 : Nat) : AV.kill t0 (.tup xs) = .tup xs := rfl
@[simp] theorem ev_several_tup (xs : List AV) : (AV.tup xs).several = true := rfl
@[simp] theorem ev_plain_tup (xs : List AV) : (AV.tup xs).plain = false := rfl
@[simp] theorem ev_cpV_tup (xs : List AV) (m : Mode) : cpV m (.tup xs) = .tup xs := by cases m <;> rfl
@[simp] theorem ev_cpS_tup (xs : List AV) (m : Mode) : cpS m (.tup xs) = .tup (xs.map (AV.cls .left)) := by cases m <;> rfl
section
variable (e : Nat) (o : Option (List UInt8))
end
@[simp] theorem ev_len_str (s : List UInt8) : aLen true (.str s) = some (.int .i64 s.length) := rfl
@[simp] theorem ev_len_slice (c : Cls) (e sz : Nat) (xs : List AV) : aLen false (.slice c e sz xs) = some (.int .i64 ((xs.length / sz : Nat) : Int)) := rfl
@[simp] theorem ev_lenV_str (s : List UInt8) : lenV (.str s) = some (s.length : Int) := rfl
@[simp] theorem ev_lenV_slice (c : Cls) (e sz : Nat) (xs : List AV) : lenV (.slice c e sz xs) = some ((xs.length / sz : Nat) : Int) := rfl
@[simp] theorem ev_idx (k : IntKind) (n : Int) : aIdx (.int k n) = some n := rfl
@[simp] theorem ev_pk_true (a b : AV) : pkV (.bool true) a b = if a.several then none else some a := rfl
@[simp] theorem ev_pk_false (a b : AV) : pkV (.bool false) a b = if b.several then none else some b := rfl
@[simp] theorem ev_un_not (b : Bool) : aUn .not (.bool b) = some (.bool !b) := rfl
@[simp] theorem ev_un_neg (k : IntKind) (n : Int) : aUn .neg (.int k n) = some (.int k (k.wrap (0 - n))) := rfl
@[simp] theorem ev_fd_ptr (off : Nat) (s : K) (k : Nat) : fdV off (.ptr s k) = some (.ptr s (k + off)) := rfl
@[simp] theorem ev_fd_eptr (off : Nat) (ys : List AV) : fdV off (.eptr ys) = some (.eptr (ys.drop off)) := rfl
attribute [simp] obind_some obind_none onBool_true onBool_false onGuard_tt onGuard_tf onGuard_ft onGuard_ff onGuard_skipped goOn_normal goOn_ret goOn_exit blockEnd_normal blockEnd_exit blockEnd_ret byteCells_length

theorem fits_int {P : Program} {t : TypeId} {k : IntKind} {fuel : Nat} {xs : List AV} (ht : P.underlying t = some (.int k)) (h : FitsC P fuel t xs) : ∃ n, xs = [.int k n] ∧ k.min ≤ n ∧ n ≤ k.max := by
  cases fuel with
  | zero => exact h.elim
  | succ m => simp only [FitsC, ht] at h; exact h
end Go.Proofs.YtjlioidknhdceaaDoor.Abs
