import PyProof.Rows.All
import PyProof.Parts
import PyProof.Conv_bool
import PyProof.NeData
import PyProof.ExcStrCall
import PyProof.NsDelKeeps
import PyProof.Rows.RuleIs
import Wide.Loose
import KE.BytesMake
import KE.KDictIter
import KE.KItemsList
import KE.KStar
import Wide.FinOn
import OpenK.AllK
import Wide.All
import PySem.Challenge.RW_ik0233_01
set_option linter.all false
set_option genSizeOf false
set_option genInjectivity false
set_option compiler.extract_closed false
set_option Elab.async false
set_option autoImplicit true
set_option tactic.hygienic false
set_option maxRecDepth 100000
set_option maxHeartbeats 4000000
open PySem PySem.W PySem.Calls PyProof.Rows
section
namespace V
def aj:=@PySem.wpAny_bind
def aQ:=@PySem.wpAny_pure
def bw:=@List.length_map
def ay:=@if_neg
def cq:=@List.length_cons
def aP:=@Or.elim
def bM:=@List.mem_map
def cS:=@List.length_append
def cu:=@List.mem_append
def aF:=@if_pos
def bU:=@Nat.le_trans
def dX:=@Nat.le_of_ble_eq_true
def bH:=@PySem.wpAny_mono
def bT:=@Nat.le_refl
def dZ:=@PySem.Heap.get?_push_size
def cW:=@List.foldl_cons
def dM:=@Bool.false_ne_true
def cE:=@PySem.wpAny_holding
def cF:=@PySem.wpAny_standAt
def cM:=@List.mem_cons
def dI:=@Option.some.inj
def dj:=@List.map_cons
def eX:=@List.append_assoc
def ik:=@List.mem_of_getElem?
def e9:=@List.map_append
def gr:=@List.getElem?_map
def gj:=@List.flatMap_cons
def dP:=@List.map_map
def jt:=@PySem.Heap.get?_update_self
def iP:=@Array.length_toList
def iO:=@Bool.false_eq_true
def gZ:=@Nat.le_add_right
def dW:=@Nat.zero_le
def lF:=@List.getElem?_eq_some_iff
def ju:=@List.mem_singleton
def hH:=@List.nodup_cons
def pP:=@Array.all_eq_true_iff_forall_mem
def ip:=@List.length_nil
def jB:=@of_decide_eq_true
def eL:=@PySem.wpAny_of_eq
def iM:=@List.append_nil
def ng:=@List.getElem?_eq_getElem
def mG:=@PySem.Heap.get?_push_of_some
def oP:=@List.getElem?_eq_none_iff
def nu:=@PySem.Heap.get?_update_other
def lH:=@List.filterMap_cons
def iN:=@Nat.lt_irrefl
def ig:=@PySem.Heap.lt_size
def uy:=@List.Nodup.length_le_of_subset
def nC:=@Array.mem_toList_iff
def dY:=@congrArg
def pK:=@PySem.Around.under_of_weight
def kR:=@List.nil_append
def kO:=@List.mem_filter
def gJ:=@beq_iff_eq
def iJ:=@PySem.wpAny_field
def jN:=@PySem.wpAny_onRaise
def mz:=@Bool.and_eq_true
def jf:=@PySem.sizeLine_eq
def jm:=@Nat.le_succ
def vB:=@Option.isSome_iff_exists
def mE:=@decide_eq_false
def mB:=@PySem.codeAny_of_tree
def lT:=@decide_eq_true
def pM:=@List.map_congr_left
def oI:=@PySem.wpAny_newObj_type
def nv:=@List.forIn_cons
def kZ:=@PySem.codeAny_mono
def tr:=@beq_eq_false_iff_ne
def pW:=@decide_eq_true_eq
def uY:=@PySem.builtinLookup_eq_fast
def nq:=@PySem.Value.type.inj
def nB:=@PySem.Heap.size_push
def sP:=@Nat.lt_of_lt_of_le
def ui:=@List.getElem?_of_mem
def pY:=@List.filter_cons
def p6:=@List.all_eq_true
def s6:=@PySem.getMethod_builtin
def f7:=@Ne.symm
def pV:=@List.nodup_nil
def Aw:=@Option.bind_eq_some_iff
def De:=@Array.getElem?_setIfInBounds
def t9:=@List.nodup_append
def tU:=@List.foldl_append
def tS:=@Int.toNat_natCast
def xy:=@PySem.Value.isStrOf_shape
def jh:=@if_false
def zK:=@List.filter_eq_nil_iff
def oU:=@Nat.zero_add
def oh:=@Nat.lt_or_ge
def vT:=@List.length_drop
def xH:=@List.getElem?_drop
def rQ:=@PySem.wpAny_setField
def sr:=@PySem.isSubtype_type
def DW:=@Classical.byContradiction
def zZ:=@List.count_cons_self
def uV:=@PySem.typeLookup_type
def vq:=@List.of_mem_zip
def zH:=@PySem.Heap.SameBut.update
def wx:=@List.mem_reverse
def wL:=@List.mem_flatMap
def uU:=@PySem.wpAny_seqItems
def vL:=@List.forIn_nil
def wd:=@PySem.pushCells_keeps
def nW:=@PySem.strKind_is
def CF:=@List.length_filter_le
def zo:=@PySem.arm_eval_Constant
def zq:=@Nat.le_of_succ_le
def zX:=@List.filter_congr
def zJ:=@List.any_eq_false
def E3:=@Array.getElem?_eq_some_iff
def xv:=@PySem.wpAny_bindName
def wC:=@Nat.mul_le_mul
def zN:=@PySem.wpAny_call_entry
def An:=@List.countP_cons
def zQ:=@List.any_eq_true
def pX:=@PySem.typeIs_str
def pS:=@PySem.call_meets
def vE:=@PySem.Sem.wp_bind'
def Cv:=@List.filter_eq_self
def Dl:=@Array.toList_append
def Fx:=@List.getElem?_take_of_lt
def Dv:=@PySem.slot_listiter_next
def CI:=@List.filter_append
def FU:=@PySem.wpAny_callSpecial?_slot
def rL:=@PySem.wpAny_rule
def s8:=@PySem.wpAny_call
def Fh:=@Int.fmod_nonneg_of_pos
def Dj:=@PySem.wpAny_dictEntries
def Cf:=@bne_self_eq_false
def DR:=@List.take_add_one
def AL:=@List.size_toArray
def AZ:=@List.length_range
def BP:=@Bool.not_eq_true'
def Du:=@Array.size_append
def zG:=@List.mem_range
def yS:=@List.foldl_nil
def xo:=@List.map_nil
def F1:=@PySem.StrLaws.occ_length_le
def F4:=@List.getElem?_toArray
def Bo:=@PySem.wpAny_isInstance
def CA:=@PySem.wpAny_execs_cons
def A4:=@List.isEmpty_iff
def AU:=@List.cons_append
def Fd:=@List.getElem?_set_ne
def u7:=@Array.ext'
def wb:=@List.map_id
def A1:=@PySem.wpAny_specialOf
def Co:=@PySem.wpAny_operating
def Cg:=@Bool.or_eq_true
def Gg:=@List.length_pos_iff
theorem bI {A B:Prop} {Q:Prop} (h:A/\B) (k:A->B->Q):Q:=by obtain⟨h0,h1⟩:=h;exact k h0 h1
theorem nM {A B C:Prop} {Q:Prop} (h:A/\B/\C) (k:A->B->C->Q):Q:=by obtain⟨h0,h1,h2⟩:=h;exact k h0 h1 h2
theorem kD {A B C D:Prop} {Q:Prop} (h:A/\B/\C/\D) (k:A->B->C->D->Q):Q:=by obtain⟨h0,h1,h2,h3⟩:=h;exact k h0 h1 h2 h3
theorem ve {A B C D E:Prop} {Q:Prop} (h:A/\B/\C/\D/\E) (k:A->B->C->D->E->Q):Q:=by obtain⟨h0,h1,h2,h3,h4⟩:=h;exact k h0 h1 h2 h3 h4
theorem GU {A B C D E F:Prop} {Q:Prop} (h:A/\B/\C/\D/\E/\F) (k:A->B->C->D->E->F->Q):Q:=by obtain⟨h0,h1,h2,h3,h4,h5⟩:=h;exact k h0 h1 h2 h3 h4 h5
theorem JW {A B C D E F G:Prop} {Q:Prop} (h:A/\B/\C/\D/\E/\F/\G) (k:A->B->C->D->E->F->G->Q):Q:=by obtain⟨h0,h1,h2,h3,h4,h5,h6⟩:=h;exact k h0 h1 h2 h3 h4 h5 h6
theorem OT {A B C D E F G H:Prop} {Q:Prop} (h:A/\B/\C/\D/\E/\F/\G/\H) (k:A->B->C->D->E->F->G->H->Q):Q:=by obtain⟨h0,h1,h2,h3,h4,h5,h6,h7⟩:=h;exact k h0 h1 h2 h3 h4 h5 h6 h7
theorem tJ {A B C D E F G H I:Prop} {Q:Prop} (h:A/\B/\C/\D/\E/\F/\G/\H/\I) (k:A->B->C->D->E->F->G->H->I->Q):Q:=by obtain⟨h0,h1,h2,h3,h4,h5,h6,h7,h8⟩:=h;exact k h0 h1 h2 h3 h4 h5 h6 h7 h8
theorem cG {α:Sort _} {A:α->Prop} {Q:Prop} (h: ∃a,A a) (k: ∀a,A a->Q):Q:=by obtain⟨a,h0⟩:=h;exact k a h0
theorem c12 {α:Sort _} {A B:α->Prop} {Q:Prop} (h: ∃a,A a/\B a) (k: ∀a,A a->B a->Q):Q:=by obtain⟨a,h0,h1⟩:=h;exact k a h0 h1
theorem fJ {α:Sort _} {A B C:α->Prop} {Q:Prop} (h: ∃a,A a/\B a/\C a) (k: ∀a,A a->B a->C a->Q):Q:=by obtain⟨a,h0,h1,h2⟩:=h;exact k a h0 h1 h2
theorem CR {α:Sort _} {A B C D:α->Prop} {Q:Prop} (h: ∃a,A a/\B a/\C a/\D a) (k: ∀a,A a->B a->C a->D a->Q):Q:=by obtain⟨a,h0,h1,h2,h3⟩:=h;exact k a h0 h1 h2 h3
theorem c21 {α:Sort _} {β:Sort _} {A:α->β->Prop} {Q:Prop} (h: ∃a b,A a b) (k: ∀a b,A a b->Q):Q:=by obtain⟨a,b,h0⟩:=h;exact k a b h0
theorem v8 {α:Sort _} {β:Sort _} {A B:α->β->Prop} {Q:Prop} (h: ∃a b,A a b/\B a b) (k: ∀a b,A a b->B a b->Q):Q:=by obtain⟨a,b,h0,h1⟩:=h;exact k a b h0 h1
theorem fq {α:Sort _} {β:Sort _} {A B C:α->β->Prop} {Q:Prop} (h: ∃a b,A a b/\B a b/\C a b) (k: ∀a b,A a b->B a b->C a b->Q):Q:=by obtain⟨a,b,h0,h1,h2⟩:=h;exact k a b h0 h1 h2
theorem tO {α:Sort _} {β:Sort _} {A B C D:α->β->Prop} {Q:Prop} (h: ∃a b,A a b/\B a b/\C a b/\D a b) (k: ∀a b,A a b->B a b->C a b->D a b->Q):Q:=by obtain⟨a,b,h0,h1,h2,h3⟩:=h;exact k a b h0 h1 h2 h3
theorem v5 {α:Sort _} {β:Sort _} {A B C D E:α->β->Prop} {Q:Prop} (h: ∃a b,A a b/\B a b/\C a b/\D a b/\E a b) (k: ∀a b,A a b->B a b->C a b->D a b->E a b->Q):Q:=by obtain⟨a,b,h0,h1,h2,h3,h4⟩:=h;exact k a b h0 h1 h2 h3 h4
theorem NX {α:Sort _} {β:Sort _} {A B C D E F:α->β->Prop} {Q:Prop} (h: ∃a b,A a b/\B a b/\C a b/\D a b/\E a b/\F a b) (k: ∀a b,A a b->B a b->C a b->D a b->E a b->F a b->Q):Q:=by obtain⟨a,b,h0,h1,h2,h3,h4,h5⟩:=h;exact k a b h0 h1 h2 h3 h4 h5
theorem Jw {α:Sort _} {β:Sort _} {γ:Sort _} {A:α->β->γ->Prop} {Q:Prop} (h: ∃a b c,A a b c) (k: ∀a b c,A a b c->Q):Q:=by obtain⟨a,b,c,h0⟩:=h;exact k a b c h0
theorem tC {α:Sort _} {β:Sort _} {γ:Sort _} {A B:α->β->γ->Prop} {Q:Prop} (h: ∃a b c,A a b c/\B a b c) (k: ∀a b c,A a b c->B a b c->Q):Q:=by obtain⟨a,b,c,h0,h1⟩:=h;exact k a b c h0 h1
theorem lN {α:Sort _} {β:Sort _} {γ:Sort _} {A B C:α->β->γ->Prop} {Q:Prop} (h: ∃a b c,A a b c/\B a b c/\C a b c) (k: ∀a b c,A a b c->B a b c->C a b c->Q):Q:=by obtain⟨a,b,c,h0,h1,h2⟩:=h;exact k a b c h0 h1 h2
theorem AE {α:Sort _} {β:Sort _} {γ:Sort _} {A B C D:α->β->γ->Prop} {Q:Prop} (h: ∃a b c,A a b c/\B a b c/\C a b c/\D a b c) (k: ∀a b c,A a b c->B a b c->C a b c->D a b c->Q):Q:=by obtain⟨a,b,c,h0,h1,h2,h3⟩:=h;exact k a b c h0 h1 h2 h3
theorem Hg {α:Sort _} {β:Sort _} {γ:Sort _} {A B C D E:α->β->γ->Prop} {Q:Prop} (h: ∃a b c,A a b c/\B a b c/\C a b c/\D a b c/\E a b c) (k: ∀a b c,A a b c->B a b c->C a b c->D a b c->E a b c->Q):Q:=by obtain⟨a,b,c,h0,h1,h2,h3,h4⟩:=h;exact k a b c h0 h1 h2 h3 h4
theorem NW {α:Sort _} {β:Sort _} {γ:Sort _} {A B C D E F:α->β->γ->Prop} {Q:Prop} (h: ∃a b c,A a b c/\B a b c/\C a b c/\D a b c/\E a b c/\F a b c) (k: ∀a b c,A a b c->B a b c->C a b c->D a b c->E a b c->F a b c->Q):Q:=by obtain⟨a,b,c,h0,h1,h2,h3,h4,h5⟩:=h;exact k a b c h0 h1 h2 h3 h4 h5
theorem OD {α:Sort _} {β:Sort _} {γ:Sort _} {δ:Sort _} {A:α->β->γ->δ->Prop} {Q:Prop} (h: ∃a b c d,A a b c d) (k: ∀a b c d,A a b c d->Q):Q:=by obtain⟨a,b,c,d,h0⟩:=h;exact k a b c d h0
theorem Mn {α:Sort _} {β:Sort _} {γ:Sort _} {δ:Sort _} {A B:α->β->γ->δ->Prop} {Q:Prop} (h: ∃a b c d,A a b c d/\B a b c d) (k: ∀a b c d,A a b c d->B a b c d->Q):Q:=by obtain⟨a,b,c,d,h0,h1⟩:=h;exact k a b c d h0 h1
theorem NS {α:Sort _} {β:Sort _} {γ:Sort _} {δ:Sort _} {A B C:α->β->γ->δ->Prop} {Q:Prop} (h: ∃a b c d,A a b c d/\B a b c d/\C a b c d) (k: ∀a b c d,A a b c d->B a b c d->C a b c d->Q):Q:=by obtain⟨a,b,c,d,h0,h1,h2⟩:=h;exact k a b c d h0 h1 h2
theorem xr {α:Sort _} {β:Sort _} {γ:Sort _} {δ:Sort _} {A B C D E:α->β->γ->δ->Prop} {Q:Prop} (h: ∃a b c d,A a b c d/\B a b c d/\C a b c d/\D a b c d/\E a b c d) (k: ∀a b c d,A a b c d->B a b c d->C a b c d->D a b c d->E a b c d->Q):Q:=by obtain⟨a,b,c,d,h0,h1,h2,h3,h4⟩:=h;exact k a b c d h0 h1 h2 h3 h4
theorem Oz {α:Sort _} {β:Sort _} {γ:Sort _} {δ:Sort _} {ε:Sort _} {A B:α->β->γ->δ->ε->Prop} {Q:Prop} (h: ∃a b c d e,A a b c d e/\B a b c d e) (k: ∀a b c d e,A a b c d e->B a b c d e->Q):Q:=by obtain⟨a,b,c,d,e,h0,h1⟩:=h;exact k a b c d e h0 h1
theorem Eo {α:Sort _} {β:Sort _} {γ:Sort _} {δ:Sort _} {ε:Sort _} {A B C D:α->β->γ->δ->ε->Prop} {Q:Prop} (h: ∃a b c d e,A a b c d e/\B a b c d e/\C a b c d e/\D a b c d e) (k: ∀a b c d e,A a b c d e->B a b c d e->C a b c d e->D a b c d e->Q):Q:=by obtain⟨a,b,c,d,e,h0,h1,h2,h3⟩:=h;exact k a b c d e h0 h1 h2 h3
@[elab_as_elim] theorem rwm {α:Sort _} {a b:α} (h:a=b) {motive:α->Prop} (k:motive b):motive a:=by cases h;exact k
@[elab_as_elim] theorem rwr {α:Sort _} {a b:α} (h:b=a) {motive:α->Prop} (k:motive b):motive a:=by cases h;exact k
theorem m9 {A B C:Prop} (h0:A) (h1:B) (h2:C):A/\B/\C:=⟨h0,h1,h2⟩
theorem tI {A B C D:Prop} (h0:A) (h1:B) (h2:C) (h3:D):A/\B/\C/\D:=⟨h0,h1,h2,h3⟩
theorem NZ {A B C D E:Prop} (h0:A) (h1:B) (h2:C) (h3:D) (h4:E):A/\B/\C/\D/\E:=⟨h0,h1,h2,h3,h4⟩
theorem MO {A B C D E F:Prop} (h0:A) (h1:B) (h2:C) (h3:D) (h4:E) (h5:F):A/\B/\C/\D/\E/\F:=⟨h0,h1,h2,h3,h4,h5⟩
theorem i12 {α:Sort _} {A B:α->Prop} (a:α) (h0:A a) (h1:B a): ∃a,A a/\B a:=⟨a,h0,h1⟩
theorem tZ {α:Sort _} {A B C:α->Prop} (a:α) (h0:A a) (h1:B a) (h2:C a): ∃a,A a/\B a/\C a:=⟨a,h0,h1,h2⟩
theorem GX {α:Sort _} {A B C D:α->Prop} (a:α) (h0:A a) (h1:B a) (h2:C a) (h3:D a): ∃a,A a/\B a/\C a/\D a:=⟨a,h0,h1,h2,h3⟩
theorem N0 {α:Sort _} {β:Sort _} {A:α->β->Prop} (a:α) (b:β) (h0:A a b): ∃a b,A a b:=⟨a,b,h0⟩
theorem GP {α:Sort _} {β:Sort _} {A B:α->β->Prop} (a:α) (b:β) (h0:A a b) (h1:B a b): ∃a b,A a b/\B a b:=⟨a,b,h0,h1⟩
theorem jE {α:Sort _} {β:Sort _} {A B C:α->β->Prop} (a:α) (b:β) (h0:A a b) (h1:B a b) (h2:C a b): ∃a b,A a b/\B a b/\C a b:=⟨a,b,h0,h1,h2⟩
theorem M6 {α:Sort _} {β:Sort _} {A B C D:α->β->Prop} (a:α) (b:β) (h0:A a b) (h1:B a b) (h2:C a b) (h3:D a b): ∃a b,A a b/\B a b/\C a b/\D a b:=⟨a,b,h0,h1,h2,h3⟩
theorem MJ {α:Sort _} {β:Sort _} {A B C D E:α->β->Prop} (a:α) (b:β) (h0:A a b) (h1:B a b) (h2:C a b) (h3:D a b) (h4:E a b): ∃a b,A a b/\B a b/\C a b/\D a b/\E a b:=⟨a,b,h0,h1,h2,h3,h4⟩
theorem OF {α:Sort _} {β:Sort _} {A B C D E F:α->β->Prop} (a:α) (b:β) (h0:A a b) (h1:B a b) (h2:C a b) (h3:D a b) (h4:E a b) (h5:F a b): ∃a b,A a b/\B a b/\C a b/\D a b/\E a b/\F a b:=⟨a,b,h0,h1,h2,h3,h4,h5⟩
theorem D5 {α:Sort _} {β:Sort _} {γ:Sort _} {A B:α->β->γ->Prop} (a:α) (b:β) (c:γ) (h0:A a b c) (h1:B a b c): ∃a b c,A a b c/\B a b c:=⟨a,b,c,h0,h1⟩
theorem zD {α:Sort _} {β:Sort _} {γ:Sort _} {A B C:α->β->γ->Prop} (a:α) (b:β) (c:γ) (h0:A a b c) (h1:B a b c) (h2:C a b c): ∃a b c,A a b c/\B a b c/\C a b c:=⟨a,b,c,h0,h1,h2⟩
theorem JD {α:Sort _} {β:Sort _} {γ:Sort _} {A B C D:α->β->γ->Prop} (a:α) (b:β) (c:γ) (h0:A a b c) (h1:B a b c) (h2:C a b c) (h3:D a b c): ∃a b c,A a b c/\B a b c/\C a b c/\D a b c:=⟨a,b,c,h0,h1,h2,h3⟩
theorem Ht {α:Sort _} {β:Sort _} {γ:Sort _} {A B C D E:α->β->γ->Prop} (a:α) (b:β) (c:γ) (h0:A a b c) (h1:B a b c) (h2:C a b c) (h3:D a b c) (h4:E a b c): ∃a b c,A a b c/\B a b c/\C a b c/\D a b c/\E a b c:=⟨a,b,c,h0,h1,h2,h3,h4⟩
theorem v7 {α:Sort _} {β:Sort _} {γ:Sort _} {δ:Sort _} {A B C D E:α->β->γ->δ->Prop} (a:α) (b:β) (c:γ) (d:δ) (h0:A a b c d) (h1:B a b c d) (h2:C a b c d) (h3:D a b c d) (h4:E a b c d): ∃a b c d,A a b c d/\B a b c d/\C a b c d/\D a b c d/\E a b c d:=⟨a,b,c,d,h0,h1,h2,h3,h4⟩
noncomputable abbrev ON {α ρ:Sort _} (r:ρ) (f:α->ρ):Prop:= ∃a,r=f a
@[elab_as_elim] theorem fh {α ρ:Sort _} {r:ρ} {f:α->ρ} (h:ON r f) {motive:ρ->Prop} (k: ∀a,motive (f a)):motive r:=by obtain⟨a,rfl⟩:=h;exact k a
noncomputable abbrev OB {α ρ:Sort _} (r:ρ) (f:α->ρ) (B:α->Prop):Prop:= ∃a,r=f a/\B a
@[elab_as_elim] theorem yu {α ρ:Sort _} {r:ρ} {f:α->ρ} {B:α->Prop} (h:OB r f B) {motive:ρ->Prop} (k: ∀a,B a->motive (f a)):motive r:=by obtain⟨a,rfl,h0⟩:=h;exact k a h0
noncomputable abbrev OI {α ρ:Sort _} (r:ρ) (f:α->ρ) (B C:α->Prop):Prop:= ∃a,r=f a/\B a/\C a
@[elab_as_elim] theorem NQ {α ρ:Sort _} {r:ρ} {f:α->ρ} {B C:α->Prop} (h:OI r f B C) {motive:ρ->Prop} (k: ∀a,B a->C a->motive (f a)):motive r:=by obtain⟨a,rfl,h0,h1⟩:=h;exact k a h0 h1
noncomputable abbrev OQ {α β ρ:Sort _} (r:ρ) (f:α->β->ρ) (B:α->β->Prop):Prop:= ∃a b,r=f a b/\B a b
@[elab_as_elim] theorem LP {α β ρ:Sort _} {r:ρ} {f:α->β->ρ} {B:α->β->Prop} (h:OQ r f B) {motive:ρ->Prop} (k: ∀a b,B a b->motive (f a b)):motive r:=by obtain⟨a,b,rfl,h0⟩:=h;exact k a b h0
noncomputable abbrev OE {α β ρ:Sort _} (r:ρ) (f:α->β->ρ) (B C:α->β->Prop):Prop:= ∃a b,r=f a b/\B a b/\C a b
@[elab_as_elim] theorem gB {α β ρ:Sort _} {r:ρ} {f:α->β->ρ} {B C:α->β->Prop} (h:OE r f B C) {motive:ρ->Prop} (k: ∀a b,B a b->C a b->motive (f a b)):motive r:=by obtain⟨a,b,rfl,h0,h1⟩:=h;exact k a b h0 h1
noncomputable abbrev OP {α β ρ:Sort _} (r:ρ) (f:α->β->ρ) (B C D E:α->β->Prop):Prop:= ∃a b,r=f a b/\B a b/\C a b/\D a b/\E a b
@[elab_as_elim] theorem Bj {α β ρ:Sort _} {r:ρ} {f:α->β->ρ} {B C D E:α->β->Prop} (h:OP r f B C D E) {motive:ρ->Prop} (k: ∀a b,B a b->C a b->D a b->E a b->motive (f a b)):motive r:=by obtain⟨a,b,rfl,h0,h1,h2,h3⟩:=h;exact k a b h0 h1 h2 h3
noncomputable abbrev OO {α β γ ρ:Sort _} (r:ρ) (f:α->β->γ->ρ) (B C:α->β->γ->Prop):Prop:= ∃a b c,r=f a b c/\B a b c/\C a b c
@[elab_as_elim] theorem Ep {α β γ ρ:Sort _} {r:ρ} {f:α->β->γ->ρ} {B C:α->β->γ->Prop} (h:OO r f B C) {motive:ρ->Prop} (k: ∀a b c,B a b c->C a b c->motive (f a b c)):motive r:=by obtain⟨a,b,c,rfl,h0,h1⟩:=h;exact k a b c h0 h1
noncomputable abbrev OS {α β γ ρ:Sort _} (r:ρ) (f:α->β->γ->ρ) (B C D:α->β->γ->Prop):Prop:= ∃a b c,r=f a b c/\B a b c/\C a b c/\D a b c
@[elab_as_elim] theorem NV {α β γ ρ:Sort _} {r:ρ} {f:α->β->γ->ρ} {B C D:α->β->γ->Prop} (h:OS r f B C D) {motive:ρ->Prop} (k: ∀a b c,B a b c->C a b c->D a b c->motive (f a b c)):motive r:=by obtain⟨a,b,c,rfl,h0,h1,h2⟩:=h;exact k a b c h0 h1 h2
noncomputable abbrev OH {α β γ δ ρ:Sort _} (r:ρ) (f:α->β->γ->δ->ρ) (B C D E:α->β->γ->δ->Prop):Prop:= ∃a b c d,r=f a b c d/\B a b c d/\C a b c d/\D a b c d/\E a b c d
@[elab_as_elim] theorem Ke {α β γ δ ρ:Sort _} {r:ρ} {f:α->β->γ->δ->ρ} {B C D E:α->β->γ->δ->Prop} (h:OH r f B C D E) {motive:ρ->Prop} (k: ∀a b c d,B a b c d->C a b c d->D a b c d->E a b c d->motive (f a b c d)):motive r:=by obtain⟨a,b,c,d,rfl,h0,h1,h2,h3⟩:=h;exact k a b c d h0 h1 h2 h3
noncomputable abbrev MG {α ρ:Sort _} (r:ρ) (f:α->ρ) (B:α->Prop):Prop:= ∃a,B a/\r=f a
@[elab_as_elim] theorem uh {α ρ:Sort _} {r:ρ} {f:α->ρ} {B:α->Prop} (h:MG r f B) {motive:ρ->Prop} (k: ∀a,B a->motive (f a)):motive r:=by obtain⟨a,h0,rfl⟩:=h;exact k a h0
noncomputable abbrev Nb {α ρ:Sort _} (r:ρ) (f:α->ρ) (B:α->Prop):Prop:= ∃a,B a/\f a=r
@[elab_as_elim] theorem kK {α ρ:Sort _} {r:ρ} {f:α->ρ} {B:α->Prop} (h:Nb r f B) {motive:ρ->Prop} (k: ∀a,B a->motive (f a)):motive r:=by obtain⟨a,h0,rfl⟩:=h;exact k a h0
theorem dF {α:Type _} {x:α} {Q:Prop} (h:none=some x):Q:=nomatch h
theorem sa {α:Type _} {x:α} {Q:Prop} (h:some x=none):Q:=nomatch h
theorem zi {Q:Prop} (h:true=false):Q:=nomatch h
theorem tK {Q:Prop} (h:false=true):Q:=nomatch h
theorem H5 {α:Type _} {x:α} {l:List α} {Q:Prop} (h: []=x::l):Q:=nomatch h
theorem GH {α:Type _} {x:α} {l:List α} {Q:Prop} (h:x::l= []):Q:=nomatch h
theorem je {α:Type _} {x:α} {Q:Prop} (h:x∈([]:List α)):Q:=nomatch h
end V
end
open Lean in
local macro_rules
  | `(tactic| rw [$rs,*]) => do
    let mut t <- `(tactic| with_reducible try rfl)
    for r in rs.getElems.reverse do
      let e : Term := ⟨r.raw[1]⟩
      let f := if ["fun", "by", "anon", "dotI", "show"].any fun k => ((toString r.raw).splitOn s!"Term.{k}").length > 1 then "no" else if r.raw[0].isNone then "rwm" else "rwr"
      let f := mkIdent (.mkStr `V f)
      t <- `(tactic| ((first | with_reducible refine $f ($e ..) ?_ | rewrite [$r]); $t))
    return t
set_option hygiene false in
local macro_rules | `(tactic| kln_le) => `(tactic| first
  | (with_reducible assumption)
  | ((first | with_reducible apply V.fQ | with_reducible apply V.xU | with_reducible apply V.LU | with_reducible apply V.Lm | with_reducible apply V.iV (x := Str.ofString _)) <;> first | kln_le | rfl | omega)
  | exact V.qD (by assumption)
  | exact bT _
  | omega)
local macro_rules
  | `(tactic| omega) => `(tactic| lia -abstractProof)
section
namespace V
set_option tactic.hygienic true in
theorem mq (h:Runs M Γ p t fs s e s'):s.toks<=s'.toks:=by
 induction h
 all_goals first
  | exact bT _
  | assumption
  | (rename_i ih;exact bU (jm _) ih)
  | (rename_i ih1 ih2;exact bU ih1 ih2)
  | (simp only [Shared.setGen]at *;omega)
theorem xI (h:Wakes M Γ p g r s res s'):s.toks<=s'.toks:=by
 delta Wakes at h;split at h
 ·exact h.elim
 ·split at h
  ·refine tO h λNc aI h1 _ _ u=>?_;clear h;subst u;have z:=mq h1;exact z
  ·rw [h.2];exact bT _
  ·rw [h.2];exact bT _
 ·refine tO h λNc aI h1 _ _ q=>?_;subst q;have z:=mq h1;exact z
 ·rw [h.2];exact bT _
 ·rw [h.2];exact bT _
set_option tactic.hygienic true in
theorem wp_toks {α:Type} {M:Model} {Γ:Ctx} {t:Sem α} {n:Nat}: ∀{Q Q':α->Pos->Shared->Prop} {E E':Value->Pos->Shared->Prop} {p:Pos} {s:Shared},n<=s.toks->(∀a p s',Q a p s'->n<=s'.toks->Q' a p s')->(∀a p s',E a p s'->n<=s'.toks->E' a p s')->
  Sem.wp M Γ t Q E p s->Sem.wp M Γ t Q' E' p s:=by
 induction t with
 | pure a=>intro Q Q' E E' p s hn hQ hE h;rw [Sem.wp]at h⊢;exact hQ _ _ _ h hn
 | raise e=>intro Q Q' E E' p s hn hQ hE h;rw [Sem.wp]at h⊢;exact hE _ _ _ h hn
 | load a part k ih=>intro Q Q' E E' p s hn hQ hE h;rw [Sem.wp]at h⊢;refine c12 h λo h1 h2=>?_;exact i12 o h1 (ih o hn hQ hE h2)
 | update a part f k ih=>intro Q Q' E E' p s hn hQ hE h;rw [Sem.wp]at h⊢;exact⟨h.1,ih () (s:={s with heap:=s.heap.update a f}) hn hQ hE h.2⟩
 | choose src m k ih=>intro Q Q' E E' p s hn hQ hE h;rw [Sem.wp]at h⊢;exact⟨h.1,ih _ (s:={s with drawn:=s.drawn.bump src}) hn hQ hE h.2⟩
 | genState g k ih=>intro Q Q' E E' p s hn hQ hE h;rw [Sem.wp]at h⊢;refine c12 h λo h1 h2=>?_;exact i12 o h1 (ih _ hn hQ hE h2)
 | call c hd g l k ih=>intro Q Q' E E' p s hn hQ hE h;rw [Sem.wp]at h⊢;refine v8 h λr s' h1 h2=>GP r s' h1 (ih _ (bU hn (mq h1)) hQ hE h2)
 | resume g r l k ih=>intro Q Q' E E' p s hn hQ hE h;rw [Sem.wp]at h⊢;refine v8 h λres s' h1 h2=>GP res s' h1 (ih _ (bU hn (xI h1)) hQ hE h2)
 | fresh k ih=>intro Q Q' E E' p s hn hQ hE h;rw [Sem.wp]at h⊢;exact ih _ (s:={s with toks:=s.toks+1}) (Nat.le_succ_of_le hn) hQ hE h
 | _=>
  intro Q Q' E E' p s hn hQ hE h;rw [Sem.wp]at h⊢
  first
   | exact h
   | (rename_i ih;exact ih _ (by exact hn) hQ hE h)
theorem eT {α:Type} {M:Model} {A:Around} {t:Sem α} {Q:α->Shared->Prop} {E:Value->Shared->Prop} {s:Shared} (h:wpAny M A t (λr s'=>s.toks<=s'.toks->Q r s') E s):wpAny M A t Q E s:=
 λΓ p D9=>wp_toks (bT _) (λu v w q l=>q l) (λu v w q g=>q) (h Γ p D9)
end V
end
section
namespace V
set_option genInjectivity true in
structure Loc where
 tag:Nat
 key:Str
 deriving DecidableEq
inductive AV where
 | none | any
 | bool (b:Bool)
 | int (i:Int)
 | str (s:Str)
 | bytes (b:Array UInt8)
 | ty (n:String)
 | bi (id:String)
 | ext (a:Addr)
 | loc (l:Loc)
 | mw (id:String) (l:Loc)
 | bm (f:Addr) (l:Loc)
 | AB (a b c:AV)
 | fld (n:String) (xs:List AV)
 | tup (xs:List AV)
 | lst (xs:List AV)
set_option genInjectivity true in
inductive AO where
 | list (xs:List AV)
 | dict (es:List (Str×AV))
 | map (es:List (Str×AV)) (n:Nat)
 | set (xs:List Str)
 | inst (C:Addr) (d:Loc)
 | slots (C:Addr) (d:Loc) (vs:List (Option AV))
 | junk
 | exc (n:String) (xs:List AV)
 | iter (l:Loc) (i:Nat)
structure Wd where
 ρ:Loc->Option Addr
 fz:Addr->Option Obj
noncomputable def Wd.le (W W':Wd):Prop:=(∀l a,W.ρ l=some a->W'.ρ l=some a)/\(∀a o,W.fz a=some o->W'.fz a=some o)
theorem Wd.le.refl (W:Wd):W.le W:=⟨λu v h=>h,λu v h=>h⟩
theorem Wd.le.trans {W W' IW:Wd} (a:W.le W') (b:W'.le IW):W.le IW:=⟨λl x h=>b.1 _ _ (a.1 l x h),λl x h=>b.2 _ _ (a.2 l x h)⟩
noncomputable def Lk (n:String):Bool:=(["range","dict_items","dict_values","dict_keys"]:List String).contains n
mutual
noncomputable def aw (W:Wd):AV->Value->Prop
 | .none,v=>v= .none
 | .any,_=>True
 | .bool b,v=>v= .bool b
 | .int i,v=> ∃t,v= .int i t
 | .str s,v=> ∃t,v= .str s t
 | .bytes b,v=> ∃t,v= .bytes b t
 | .ty n,v=>v= .type n
 | .bi n,v=>v= .builtin n
 | .ext a,v=>v= .ref a
 | .loc l,v=> ∃a,W.ρ l=some a/\v= .ref a
 | .mw id l,v=> ∃a b o,W.ρ l=some a/\v= .ref b/\W.fz b=some o/\o.cls= .type "method-wrapper"/\o.data= .fields #[.builtin id,.ref a]
 | .bm f l,v=> ∃a b o,W.ρ l=some a/\v= .ref b/\W.fz b=some o/\o.cls= .type "method"/\o.data= .fields #[.ref f,.ref a]
 | .AB x y z,v=> ∃b o vx vy vz,v= .ref b/\W.fz b=some o/\o.cls= .type "slice"/\o.data= .fields #[vx,vy,vz]/\aw W x vx/\aw W y vy/\aw W z vz
 | .fld n xs,v=>Lk n=true/\ ∃b o vs,v= .ref b/\W.fz b=some o/\o={cls:= .type n,data:= .fields (List.toArray vs)}/\aU W xs vs
 | .tup xs,v=> ∃a o vs n,v= .ref a/\W.fz a=some o/\o.cls= .type "tuple"/\o={cls:= .type "tuple",data:= .seq (List.toArray vs) n}/\aU W xs vs
 | .lst xs,v=> ∃a o vs n,v= .ref a/\W.fz a=some o/\o.cls= .type "list"/\o={cls:= .type "list",data:= .seq (List.toArray vs) n}/\aU W xs vs
noncomputable def aU (W:Wd):List AV->List Value->Prop
 | [],vs=>vs= []
 | x::xs,vs=> ∃v r,vs=v::r/\aw W x v/\aU W xs r
end
mutual
theorem aw.mono (h:W.le W'): ∀{x:AV} {v:Value},aw W x v->aw W' x v
 | .none,_,q=>q
 | .any,_,_=>trivial
 | .bool _,_,q=>q
 | .int _,_,q=>q
 | .str _,_,q=>q
 | .bytes _,_,q=>q
 | .ty _,_,q=>q
 | .bi _,_,q=>q
 | .ext _,_,q=>q
 | .loc _,_,q=>by dsimp only [aw]at q⊢;refine c12 q λa e r=>i12 a (h.1 _ _ e) r
 | .mw _ _,_,q=>by dsimp only [aw]at q⊢;refine AE q λa b o e r f z=>JD a b o (h.1 _ _ e) r (h.2 _ _ f) z
 | .bm _ _,_,q=>by dsimp only [aw]at q⊢;refine AE q λa b o e r f z=>JD a b o (h.1 _ _ e) r (h.2 _ _ f) z
 | .AB _ _ _,_,q=>by dsimp only [aw]at q⊢;refine Eo q λb o vx vy vz r f z1 u=>kD u λz2 k1 k2 k3=>⟨b,o,vx,vy,vz,r,h.2 _ _ f,z1,z2,aw.mono h k1,aw.mono h k2,aw.mono h k3⟩
 | .fld _ _,_,q=>by dsimp only [aw]at q⊢;obtain⟨c,b,o,vs,r,f,z,k⟩:=q;exact⟨c,b,o,vs,r,h.2 _ _ f,z,aU.mono h k⟩
 | .tup _,_,q=>by dsimp only [aw]at q⊢;refine xr q λa o vs n r f z1 z2 k=>v7 a o vs n r (h.2 _ _ f) z1 z2 (aU.mono h k)
 | .lst _,_,q=>by dsimp only [aw]at q⊢;refine xr q λa o vs n r f z1 z2 k=>v7 a o vs n r (h.2 _ _ f) z1 z2 (aU.mono h k)
theorem aU.mono (h:W.le W'): ∀{x:List AV} {v:List Value},aU W x v->aU W' x v
 | [],_,q=>q
 | _::_,_,q=>by dsimp only [aU]at q⊢;refine fq q λv r e k ks=>jE v r e (aw.mono h k) (aU.mono h ks)
end
theorem aU.length: ∀{xs:List AV} {vs:List Value},aU W xs vs->vs.length=xs.length:=by
 intro aH;induction aH with
 | nil=>
  intro u q;exact by subst q;rfl
 | cons _ _ ih=>intro u q;refine gB q λv r _ ks=>?_;simp [ih ks]
theorem aU.get: ∀{xs:List AV} {vs:List Value} {i:Nat} {x:AV},aU W xs vs->xs[i]? =some x-> ∃v,vs[i]? =some v/\aw W x v:=by
 intro aH;induction aH with
 | nil=>
  intro w i x q e;exact by simp at e
 | cons y ys ih=>
  intro w i x q e;refine gB q λv r k ks=>?_;cases i with
  | zero=>simp at e;subst e;exact i12 v (by simp) k
  | succ i=>simp at e;refine c12 (ih ks e) λu hu z=>?_;exact i12 u (by simpa using hu) z
theorem aU.append: ∀{xs ys:List AV} {vs us:List Value},aU W xs vs->aU W ys us->aU W (xs++ys) (vs++us):=by
 intro aH;induction aH with
 | nil=>
  intro u w g q z;exact by subst q;exact z
 | cons _ _ ih=>intro u w g q z;refine gB q λv r k ks=>(?_:aU W (_::(_++_)) _);exact jE v (r++_) rfl k (ih ks z)
theorem aU.nil:aU W [] []:=rfl
theorem aU.cons (a:aw W x v) (b:aU W xs vs):aU W (x::xs) (v::vs):=by exact jE v vs rfl a b
end V
end
section
namespace V
structure Cx where
 prog:Program
 w:World
 K:Frag
 h₀:Heap
 os:OsState
 mg:Str->Option Value
 mb:Str->Option Value
 hx:Option Addr
 lb:Nat
structure Cx.Ok (C:Cx):Prop where
 tQ:C.K.In C.h₀
 g:C.h₀.Ns mainGlobals C.mg
 b:C.h₀.Ns builtinsNs C.mb
 boot: ∀x:Str,x≠"__name__"->C.mb x=bootBuiltins x
 nolimit:C.h₀.NoLimit
noncomputable abbrev Cx.M (C:Cx):Model:=model C.prog C.w
noncomputable def gk (C:Cx) (W:Wd):List (Str×AV)->List DictEntry->Prop
 | [],ds=>ds= []
 | (k,x)::r,ds=> ∃t v ds',ds=⟨PyData.keyHash C.w.params k,.str k t,v⟩::ds'/\aw W x v/\gk C W r ds'
noncomputable def bu (W:Wd):List (Option AV)->List (Option Value)->Prop
 | [],vs=>vs= []
 | none::r,vs=> ∃vs',vs=none::vs'/\bu W r vs'
 | some x::r,vs=> ∃v vs',vs=some v::vs'/\aw W x v/\bu W r vs'
noncomputable def fj (C:Cx) (W:Wd):AO->Obj->Prop
 | .list xs,ob=>ob.cls= .type "list"/\ ∃vs n,ob={cls:= .type "list",data:= .seq (List.toArray vs) n}/\aU W xs vs
 | .dict es,ob=> ∃ds n,ob={cls:= .type "dict",data:= .dict (List.toArray ds) n}/\gk C W es ds
 | .map es n,ob=> ∃ds,ob={cls:= .type "dict",data:= .dict (List.toArray ds) n}/\gk C W es ds
 | .set xs,ob=>ob.SetObjOf (PySem.strKind C.prog C.w) (λk=>decide (k∈xs)) xs.length
 | .inst c d,ob=> ∃dx,W.ρ d=some dx/\ob=instObj c dx
 | .slots c d vs,ob=> ∃dx sl,W.ρ d=some dx/\ob={cls:= .ref c,dict:=some dx,data:= .plain,slots:=List.toArray sl}/\bu W vs sl
 | .junk,_=>True
 | .exc n xs,ob=>(n=="frame")=false/\ob.cls= .type n/\ ∃vs t,ob.data= .fields vs/\vs[0]? =some (.ref t)/\aw W (.tup xs) (.ref t)
 | .iter l i,ob=> ∃a,W.ρ l=some a/\ob={cls:= .type "list_iterator",data:= .fields #[.ref a,.int i 0]}
theorem gk.mono (h:W.le W'): ∀{es:List (Str×AV)} {ds:List DictEntry},gk C W es ds->gk C W' es ds:=by
 intro aH;induction aH with
 | nil=>intro u q;exact q
 | cons dQ _ ih=>intro u q;obtain⟨_,_⟩:=dQ;dsimp only [gk]at q⊢;refine lN q λt v ds' e k ks=>zD t v ds' e (aw.mono h k) (ih ks)
theorem bu.mono (h:W.le W'): ∀{es:List (Option AV)} {ds:List (Option Value)},bu W es ds->bu W' es ds:=by
 intro aH;induction aH with
 | nil=>intro u q;exact q
 | cons gd _ ih=>
  cases gd with
  | none=>intro u q;dsimp only [bu]at q⊢;refine c12 q λds' e ks=>i12 ds' e (ih ks)
  | some _=>intro u q;dsimp only [bu]at q⊢;refine fq q λv ds' e k ks=>jE v ds' e (aw.mono h k) (ih ks)
theorem fj.mono (h:W.le W') (q:fj C W o ob):fj C W' o ob:=by
 cases o with
 | list xs=>obtain⟨a,vs,n,b,c⟩:=q;exact⟨a,vs,n,b,c.mono h⟩
 | dict es=>refine v8 q λds n e r=>?_;exact GP ds n e (r.mono h)
 | map es n=>refine c12 q λds e r=>?_;exact i12 ds e (r.mono h)
 | set xs=>exact q
 | inst c d=>refine c12 q λdx e r=>?_;exact i12 dx (h.1 _ _ e) r
 | slots c d vs=>refine fq q λdx sl ed e r=>?_;exact jE dx sl (h.1 _ _ ed) e (r.mono h)
 | junk=>trivial
 | exc n xs=>obtain⟨hn,c,vs,t,d,z,q⟩:=q;exact⟨hn,c,vs,t,d,z,q.mono h⟩
 | iter l i=>refine c12 q λa e r=>?_;exact i12 a (h.1 _ _ e) r
noncomputable abbrev St:=Loc->Option AO
noncomputable def St.set (Z:St) (l:Loc) (o:AO):St:=λx=>if x=l then some o else Z x
noncomputable def St.del (Z:St) (l:Loc):St:=λx=>if x=l then none else Z x
noncomputable def Up (o o':Obj):Prop:=o'=o\/(o.cls= .type "frame"/\ ∃sl,o'={o with slots:=sl})
theorem Up.refl (o:Obj):Up o o:= .inl rfl
theorem Up.exact (u:Up o o') (h:o.cls≠ .type "frame"):o'=o:=u.elim id λx=>absurd x.1 h
theorem Up.trans (u:Up o o') (v:Up o' LV):Up o LV:=by
 refine aP u (λy=>?_) λw=>?_
 ·subst y;exact v
 ·rcases w with⟨c,sl,rfl⟩
  refine aP v (λz=>?_) λq=>?_
  ·subst z;exact .inr ⟨c,sl,rfl⟩
  ·rcases q with⟨c',sl',rfl⟩
   exact .inr ⟨c,sl',rfl⟩
structure Inv (C:Cx) (W:Wd) (Z:St) (s:Shared):Prop where
 dom: ∀l,(W.ρ l).isSome=(Z l).isSome
 inj: ∀l l' a,W.ρ l=some a->W.ρ l'=some a->l=l'
 obj: ∀l a o,W.ρ l=some a->Z l=some o-> ∃ob,s.heap.get? a=some ob/\fj C W o ob
 apart: ∀l a,W.ρ l=some a->W.fz a=none
 fz: ∀a o,W.fz a=some o-> ∃o',s.heap.get? a=some o'/\Up o o'
 kept: ∀a o,C.h₀.get? a=some o->s.heap.get? a=some o
 base: ∀a o,C.h₀.get? a=some o->W.fz a=some o
 gens:s.gens= #[]
 os:s.os=C.os
 pos:C.lb<=s.toks
 high:(∃o,C.h₀.get? mainGlobals=some o)/\ ∀l a,W.ρ l=some a->2<a
theorem Inv.frozen (I:Inv C W Z s) (e:W.fz a=some o) (h:o.cls≠ .type "frame"):s.heap.get? a=some o:=
 (c12 (I.fz a o e) λ_ h1 u=>u.exact h▸h1)
theorem Inv.mS (I:Inv C W Z s) (e:W.fz a=none):C.h₀.get? a=none:=by
 cases q:C.h₀.get? a with
 | none=>rfl
 | some o=>rw [I.base a o q]at e;exact sa e
theorem Inv.at (I:Inv C W Z s) (e:Z l=some o): ∃a ob,W.ρ l=some a/\s.heap.get? a=some ob/\fj C W o ob:=by
 have d:=I.dom l;rw [e]at d;cases q:W.ρ l with
 | none=>rw [q]at d;exact tK d
 | some a=>refine c12 (I.obj l a o q e) λob h1 h2=>?_;exact jE a ob rfl h1 h2
theorem Inv.same (I:Inv C W Z s) (k: ∀b o,s.heap.get? b=some o->h.get? b=some o) (ht:s.toks<=t:=by kln_le):Inv C W Z ⟨h,s.gens,d,t,s.os⟩:=
 ⟨I.dom,I.inj,λl a o e q=>c12 (I.obj l a o e q) λob h1 h2=>⟨ob,k _ _ h1,h2⟩,I.apart,λa o e=>c12 (I.fz a o e) λo' h1 u=>⟨o',k _ _ h1,u⟩,λa o e=>k _ _ (I.kept a o e),I.base,I.gens,I.os,bU I.pos ht,I.high⟩
theorem Inv.but (I:Inv C W Z s) (n1:W.fz a=none) (n2: ∀l,W.ρ l≠some a)
  (k: ∀b o,b≠a->s.heap.get? b=some o->h.get? b=some o) (ht:s.toks<=t:=by kln_le):Inv C W Z ⟨h,s.gens,d,t,s.os⟩:=
 ⟨I.dom,I.inj,λl x o e q=>c12 (I.obj l x o e q) λob h1 h2=>⟨ob,k _ _ (λz=>n2 l (z▸e)) h1,h2⟩,I.apart,
  λx o e=>c12 (I.fz x o e) λo' h1 u=>⟨o',k _ _ (λz=>by rw [z,n1]at e;exact dF e) h1,u⟩,λx o e=>k _ _ (λz=>by rw [z,I.mS n1]at e;exact dF e) (I.kept x o e),I.base,I.gens,I.os,bU I.pos ht,I.high⟩
theorem Inv.upd (I:Inv C W Z s) (e:W.ρ l=some a)
  (k: ∀b o,b≠a->s.heap.get? b=some o->h.get? b=some o) (g:h.get? a=some ob') (r:fj C W o' ob') (ht:s.toks<=t:=by kln_le):Inv C W (Z.set l o') ⟨h,s.gens,d,t,s.os⟩:=by
 refine⟨λx=> ?_,I.inj,λx b o ex q=> ?_,I.apart,λx o ex=> ?_,λx o ex=>k _ _ (λz=>by rw [z,I.mS (I.apart l a e)]at ex;exact dF ex) (I.kept x o ex),I.base,I.gens,I.os,bU I.pos ht,I.high⟩
 ·unfold St.set;split
  ·rename_i z;subst z;rw [e];rfl
  ·exact I.dom x
 ·unfold St.set at q;split at q
  ·rename_i z;subst z;cases q;rw [e]at ex;cases ex;exact i12 ob' g r
  ·rename_i z;refine c12 (I.obj x b o ex q) λob h1 h2=>i12 ob (k _ _ (λy=>z (I.inj x l a (y▸ex) e)) h1) h2
 ·refine c12 (I.fz x o ex) λo' h1 u=>?_;exact i12 o' (k _ _ (λz=>by rw [z,I.apart l a e]at ex;exact dF ex) h1) u
noncomputable def Wd.name (W:Wd) (l:Loc) (a:Addr):Wd:=⟨λx=>if x=l then some a else W.ρ x,W.fz⟩
noncomputable def Wd.freeze (W:Wd) (a:Addr) (o:Obj):Wd:=⟨W.ρ,λx=>if x=a then some o else W.fz x⟩
theorem Inv.cz (I:Inv C W Z s):W.fz s.heap.objs.size=none/\ ∀l,W.ρ l≠some s.heap.objs.size:=by
 refine⟨?_,λl e=> ?_⟩
 ·cases q:W.fz s.heap.objs.size with
  | none=>rfl
  | some o=>refine c12 (I.fz _ _ q) λo' h1 _=>?_;exact absurd (ig h1) (iN _)
 ·have d:=I.dom l;rw [e]at d;cases q:Z l with
  | none=>rw [q]at d;exact zi d
  | some o=>refine c12 (I.obj l _ o e q) λob h1 _=>?_;exact absurd (ig h1) (iN _)
theorem Inv.none_of (I:Inv C W Z s) (e:Z l=none):W.ρ l=none:=by
 have d:=I.dom l;rw [e]at d;cases q:W.ρ l with
 | none=>rfl
 | some a=>rw [q]at d;exact zi d
theorem Inv.new (I:Inv C W Z s) (e:Z l=none) (n1:W.fz a=none) (n2: ∀l,W.ρ l≠some a) (n3:2<a)
  (k: ∀b o,s.heap.get? b=some o->h.get? b=some o) (g:h.get? a=some ob) (r:fj C (W.name l a) o ob) (ht:s.toks<=t:=by kln_le):
  W.le (W.name l a)/\Inv C (W.name l a) (Z.set l o) ⟨h,s.gens,d,t,s.os⟩:=by
 have le:W.le (W.name l a):=⟨λx b q=>by
  refine(?_:(if x=l then some a else W.ρ x)=some b);split
  ·rename_i z;subst z;rw [I.none_of e]at q;exact dF q
  ·exact q,λ_ _ q=>q⟩
 refine⟨le,λx=> ?_,λx y b p q=> ?_,λx b o' p q=> ?_,λx b p=> ?_,λb o' p=>c12 (I.fz b o' p) λLV h1 u=>⟨LV,k _ _ h1,u⟩,λb o' p=>k _ _ (I.kept b o' p),I.base,I.gens,I.os,bU I.pos ht,I.high.1,λx b p=> ?_⟩
 ·refine(?_:(if x=l then some a else W.ρ x).isSome=(if x=l then some o else Z x).isSome);split
  ·rfl
  ·exact I.dom x
 ·have p:(if x=l then some a else W.ρ x)=some b:=p;have q:(if y=l then some a else W.ρ y)=some b:=q;split at p<;>split at q
  ·rename_i z1 z2;exact z1.trans z2.symm
  ·cases p;exact absurd q (n2 _)
  ·cases q;exact absurd p (n2 _)
  ·exact I.inj _ _ _ p q
 ·have p:(if x=l then some a else W.ρ x)=some b:=p;have q:(if x=l then some o else Z x)=some o':=q;split at p
  ·rename_i z;rw [aF z]at q;cases p;cases q;exact i12 ob g r
  ·rename_i z;rw [ay z]at q;refine c12 (I.obj x b o' p q) λob' h1 h2=>i12 ob' (k _ _ h1) (h2.mono le)
 ·have p:(if x=l then some a else W.ρ x)=some b:=p;split at p
  ·cases p;exact n1
  ·exact I.apart _ _ p
 ·have p:(if x=l then some a else W.ρ x)=some b:=p;split at p
  ·cases p;exact n3
  ·exact I.high.2 _ _ p
theorem Inv.big (I:Inv C W Z s):2<s.heap.objs.size:=by refine cG I.high.1 λo h=>?_;have:=ig (I.kept _ _ h);exact Nat.lt_trans (by decide) this
theorem Inv.f6 (I:Inv C W Z s) (n1:W.fz a=none) (n2: ∀l,W.ρ l≠some a)
  (k: ∀b o,s.heap.get? b=some o->h.get? b=some o) (g:h.get? a=some ob) (ht:s.toks<=t:=by kln_le):
  W.le (W.freeze a ob)/\Inv C (W.freeze a ob) Z ⟨h,s.gens,d,t,s.os⟩:=by
 have le:W.le (W.freeze a ob):=⟨λ_ _ q=>q,λx b q=>by
  refine(?_:(if x=a then some ob else W.fz x)=some b);split
  ·rename_i z;subst z;rw [n1]at q;exact dF q
  ·exact q⟩
 refine⟨le,I.dom,I.inj,λx b o' p q=> ?_,λx b p=> ?_,λb o' p=> ?_,λb o' p=>k _ _ (I.kept b o' p),λb o' p=>le.2 _ _ (I.base _ _ p),I.gens,I.os,bU I.pos ht,I.high⟩
 ·refine c12 (I.obj x b o' p q) λob' h1 h2=>i12 ob' (k _ _ h1) (h2.mono le)
 ·refine(?_:(if b=a then some ob else W.fz b)=none);split
  ·rename_i z;subst z;exact absurd p (n2 x)
  ·exact I.apart _ _ p
 ·by_cases z:b=a
  ·have q:some ob=some o':=by simpa [Wd.freeze,z]using p
   rw [z,<-dI q];exact i12 _ g (.refl _)
  ·have q:W.fz b=some o':=by simpa [Wd.freeze,z]using p
   refine c12 (I.fz _ _ q) λLV h1 u=>i12 LV (k _ _ h1) u
theorem a9 (h:Heap) (o:Obj): ∀b ob,h.get? b=some ob->(h.push o).get? b=some ob:=λu v e=>mG o e
theorem ez (h:Heap) (a:Addr) (f:Obj->Obj): ∀b ob,b≠a->h.get? b=some ob->(h.update a f).get? b=some ob:=λu v n e=>(nu h f (f7 n)).trans e
end V
end
section
namespace V
noncomputable def tm (C:Cx) (W:Wd) (outer:List Env):Prop:=
 ∀env∈outer,env.scope.kind≠ .module/\ ∃L o es n,env.frame=some L/\C.h₀.get? L=none/\W.fz L=some o/\o.cls= .type "frame"/\o.data= .dict es n
theorem tm.mono (h:tm C W l) (le:W.le W'):tm C W' l:=λenv he=>
 (by obtain⟨k,L,o,es,n,a,b,c,d⟩:=h env he;exact⟨k,L,o,es,n,a,b,le.2 _ _ c,d⟩)
noncomputable def cQ (sc:Scope):Bool:=sc.kind== .function && decide (sc.names.map (·.1)).Nodup && sc.names.all λp=>p.2 != .free && (p.2== .globalImplicit || !(p.1==("__debug__":Str)))
theorem cQ.kind (h:cQ sc=true):sc.kind= .function:=by delta cQ at h;simp only [mz,gJ]at h;exact h.1.1
theorem cQ.nodup (h:cQ sc=true):(sc.names.map (·.1)).Nodup:=by delta cQ at h;simp only [mz,pW]at h;exact h.1.2
theorem cQ.all (h:cQ sc=true): ∀p∈sc.names,p.2≠ .free/\(p.2≠ .globalImplicit->(p.1==("__debug__":Str))=false):=by delta cQ at h;simp only [mz]at h;intro p hp;have:=p6.mp h.2 p hp;simp only [mz,bne_iff_ne,ne_eq,Cg,gJ,BP]at this;exact⟨this.1,λn=>this.2.resolve_left n⟩
theorem bK {α:Type}: ∀{l:List (Str×α)} {i:Nat} {x:Str} {k:α},(l.map (·.1)).Nodup->l[i]? =some (x,k)->l.lookup x=some k:=by
 intro aH;induction aH with
 | nil=>
  intro i v w g e;exact by simp at e
 | cons dQ r ih=>
  intro i x k h e;obtain⟨y,k'⟩:=dQ;rw [dj,hH]at h;cases i with
  | zero=>simp at e;refine bI e λz=>?_;clear e;subst z;intro u;subst u;simp [List.lookup_cons]
  | succ i=>
   simp at e;have hx:x∈r.map (·.1):=bM.mpr ⟨(x,k),ik e,rfl⟩;have ne:(x==y)=false:=by rw [tr];intro q;subst q;exact h.1 hx
   rw [List.lookup_cons,ne];exact ih h.2 e
inductive NU (sc:Scope) (W:Wd) (env:Env) (ms:List (Option AV)) (h:Heap):Prop
 | mk (mr:Str->Option Value) (n:h.Ns env.locals mr) (v: ∀(i:Nat) (x:Str) (v:AV),sc.names[i]? =some (x,NameKind.local)->ms[i]? =some (some v)-> ∃r,mr x=some r/\aw W v r):NU sc W env ms h
inductive GV (W:Wd) (env:Env) (ms:List (Option AV)) (h:Heap) (i:Nat) (x:Str):Prop
 | mk (a:Addr) (ov:Option Value) (l:env.cells.lookup x=some a) (c:h.IsCell a ov) (v: ∀v,ms[i]? =some (some v)-> ∃r,ov=some r/\aw W v r):GV W env ms h i x
inductive Bq (W:Wd) (env:Env) (h:Heap) (a:Addr):Prop
 | mk (z:W.fz a=none) (r: ∀l,W.ρ l≠some a) (ne:a≠env.locals) (ov:Option Value) (o:Obj) (g:h.get? a=some o) (d:o.data= .cell ov) (c:o.cls= .type "cell"):Bq W env h a
inductive J3 (env:Env) (h:Heap):Prop
 | mk (o:Obj) (es:Array DictEntry) (n:Nat) (g:h.get? env.locals=some o) (c:(o.cls= .type "frame"/\env.frame=some env.locals)\/o.cls= .type "dict") (d:o.data= .dict es n):J3 env h
inductive J5 (S:List Env->Prop) (h₀:Heap) (fs:Option (List Env)) (W:Wd) (env:Env) (h:Heap):Prop
 | mk (fenv:Env) (rest:List Env) (L:Addr) (e1:fs=some (fenv::rest)) (e2:S rest) (e3:fenv.scope.kind≠ .module) (e4:fenv.frame=some L) (e5:env.frame=some L) (e6:h₀.get? L=none)
  (e7:(L=env.locals/\ ∃o es n,h.get? L=some o/\o.cls= .type "frame"/\o.data= .dict es n)\/(∃o es n,W.fz L=some o/\o.cls= .type "frame"/\o.data= .dict es n)):J5 S h₀ fs W env h
theorem Bq.no (p:Bq W env h a):a≠env.locals:=(by obtain⟨_,_,n,_,_,_,_,_⟩:=p;exact n)
theorem Bq.Ms (p:Bq W env h a):W.fz a=none:=(by obtain⟨z,_,_,_,_,_,_,_⟩:=p;exact z)
theorem Bq.Lw (p:Bq W env h a): ∀l,W.ρ l≠some a:=(by obtain⟨_,r,_,_,_,_,_,_⟩:=p;exact r)
theorem Bq.re (p:Bq W env h a) (z:W'.fz a=none) (r: ∀l,W'.ρ l≠some a):Bq W' env h a:=(by obtain⟨_,_,n,ov,o,g,d,c⟩:=p;exact⟨z,r,n,ov,o,g,d,c⟩)
structure eE (C:Cx) (sc:Scope) (A:Around) (W:Wd) (env:Env) (ms:List (Option AV)) (h:Heap):Prop where
 scope:env.scope=sc
 globals:env.globals=mainGlobals
 builtins:env.builtins=builtinsNs
 ok:cQ sc=true
 ns:NU sc W env ms h
 cells: ∀(i:Nat) (x:Str),sc.names[i]? =some (x,NameKind.cell)->GV W env ms h i x
 mi:W.fz env.locals=none/\ ∀l,W.ρ l≠some env.locals
 mZ: ∀x a,(x,a)∈env.cells->Bq W env h a
 iQ: ∀x y a,(x,a)∈env.cells->(y,a)∈env.cells->x=y
 jc:J3 env h
 pE:J5 (tm C W) C.h₀ A.frames W env h
noncomputable def OC (C:Cx) (A:Around):Prop:=(C.hx=none->A.handled=none)/\(C.hx≠some 0->A.handled=none\/ ∃e o vs,A.handled=some (.ref e)/\C.h₀.get? e=some o/\o.data= .fields vs/\vs[2]? =some .none)
noncomputable def bY (C:Cx) (A:Around) (k:Nat):Prop:=A.depth+2 * k+2<recursionLimit/\A.units+10 * k+10<cLine/\OC C A
theorem bY.depth (h:bY C A k):A.depth<recursionLimit:=by have:=h.1;omega
theorem bY.units (h:bY C A k):A.units<cLine:=by have:=h.2.1;omega
theorem bY.none (h:bY C A k) (h0:C.hx=none):A.handled= .none:=h.2.2.1 h0
theorem bY.in1 (h:bY C A (k+1)):bY C A.in1 k:=⟨by have:=h.1;simp only [Around.in1_depth];omega,by have:=h.2.1;simp only [Around.in1_units];omega,h.2.2⟩
theorem bY.deeper (h:bY C A (k+1)):bY C (A.deeper env) k:=⟨by have:=h.1;refine(?_:A.depth+1+2 * k+2<_);omega,by have:=h.2.1;refine(?_:A.units+3+10 * k+10<_);omega,h.2.2⟩
noncomputable abbrev No:Value->Shared->Prop:=λ_ _=>False
structure At (C:Cx) (sc:Scope) (A:Around) (W:Wd) (env:Env) (ms:List (Option AV)) (Z:St) (s:Shared):Prop where
 inv:Inv C W Z s
 fr:eE C sc A W env ms s.heap
inductive GI {α:Type} (C:Cx) (sc:Scope) (A:Around) (W:Wd) (env:Env) (ms:List (Option AV)) (Z:St) (R:Wd->α->Prop) (r:α) (s:Shared):Prop
 | mk (W':Wd) (le:W.le W') (at':At C sc A W' env ms Z s) (q:R W' r):GI C sc A W env ms Z R r s
inductive Er {α:Type} (C:Cx) (W:Wd) (Z:St) (R:Wd->α->Prop) (r:α) (s:Shared):Prop
 | mk (W':Wd) (le:W.le W') (inv:Inv C W' Z s) (q:R W' r):Er C W Z R r s
noncomputable def ic {α:Type} (C:Cx) (sc:Scope) (A:Around) (W:Wd) (env:Env) (ms:List (Option AV)) (Z:St) (R:Wd->α->Prop) (r:α) (s:Shared):Prop:=
 GI C sc A W env ms Z R r s
noncomputable def Tr {α:Type} (C:Cx) (k:Nat) (sc:Scope) (ms:List (Option AV)) (Z:St) (t:Env->Sem α) (R:Wd->α->Prop) (aK:List (Option AV)) (aB:St):Prop:=
 ∀A W env s,bY C A k->At C sc A W env ms Z s->wpAny C.M A (t env) (ic C sc A W env aK aB R) No s
noncomputable def Op {α:Type} (C:Cx) (k:Nat) (W:Wd) (Z:St) (t:Sem α) (R:Wd->α->Prop) (aB:St):Prop:=
 ∀A s outer,bY C A k->A.frames=some outer->tm C W outer->Inv C W Z s->wpAny C.M A t (λr s'=>Er C W aB R r s') No s
noncomputable def aside (W:Wd) (env:Env) (h:Heap):Wd:=⟨W.ρ,λa=>if a=env.locals\/a∈env.cells.map (·.2)then h.get? a else W.fz a⟩
noncomputable def Jk (o:Obj):Prop:= ∀n,o.cls= .type n->(["tuple","list","method-wrapper","method","slice","range","dict_items","dict_values","dict_keys"]:List String).contains n=false
theorem Jk.ne (h:Jk o) (z:o.cls= .type n) (h1:(["tuple","list","method-wrapper","method","slice","range","dict_items","dict_values","dict_keys"]:List String).contains n=true):False:=by have:=h n z;rw [h1]at this;exact zi this
theorem Hf (h:Lk n=true):(["tuple","list","method-wrapper","method","slice","range","dict_items","dict_values","dict_keys"]:List String).contains n=true:=by delta Lk at h;simp only [List.contains_cons,Cg]at h⊢;exact .inr (.inr (.inr (.inr (.inr h))))
open Classical in
noncomputable def Wd.minus (W:Wd) (X:Addr->Prop):Wd:=⟨W.ρ,λa=>if X a then none else W.fz a⟩
theorem Wd.d8 {W:Wd} {X:Addr->Prop} {a:Addr} (h:X a):(W.minus X).fz a=none:=by delta Wd.minus;exact aF h
theorem Wd.bB {W:Wd} {X:Addr->Prop} {a:Addr} (h: ¬X a):(W.minus X).fz a=W.fz a:=by delta Wd.minus;exact ay h
theorem Wd.uZ {W:Wd} {X:Addr->Prop} {a:Addr} {o:Obj} (e:(W.minus X).fz a=some o): ¬X a/\W.fz a=some o:=by
 by_cases h:X a
 ·rw [Wd.d8 h]at e;exact dF e
 ·rw [Wd.bB h]at e;exact⟨h,e⟩
noncomputable abbrev Own (env:Env) (a:Addr):Prop:=a=env.locals\/a∈env.cells.map (·.2)
noncomputable abbrev taken (W:Wd) (env:Env):Wd:=W.minus (Own env)
section
variable {C:Cx} {sc:Scope} {A:Around} {W:Wd} {env:Env} {ms:List (Option AV)} {Z aB:St} {s s':Shared}
noncomputable def uO (o:Obj):Prop:=o.cls= .type "frame"\/o.cls= .type "dict"\/o.cls= .type "cell"
theorem uO.jk (h:uO o):Jk o:=λn z=>by
 rcases h with h | h | h<;>rw [h]at z<;>cases nq z<;>decide
theorem eE.own (F:eE C sc A W env ms h) (q:a=env.locals\/a∈env.cells.map (·.2)):W.fz a=none/\(∀l,W.ρ l≠some a)/\ ∃o,h.get? a=some o/\uO o:=by
 refine aP q (λw=>?_) λq=>?_
 ·subst w;obtain⟨o,_,_,h1,h2,_⟩:=F.jc;exact⟨F.mi.1,F.mi.2,o,h1,h2.elim (λz=> .inl z.1) λz=> .inr (.inl z)⟩
 ·refine kK (bM.mp q) λu hm=>?_;rcases u with⟨x,b⟩
  obtain⟨h1,h2,_,ov,o,h3,h4,h5⟩:=F.mZ x b hm;exact⟨h1,h2,o,h3,.inr (.inr h5)⟩
theorem a8 (F:eE C sc A W env ms h):W.le (aside W env h):=⟨λ_ _ e=>e,λa o e=>by
 refine(?_:(if a=env.locals\/a∈env.cells.map (·.2)then h.get? a else W.fz a)=some o);split
 ·rename_i q;rw [(F.own q).1]at e;exact dF e
 ·exact e⟩
theorem eQ (I:Inv C W Z s) (F:eE C sc A W env ms s.heap):Inv C (aside W env s.heap) Z s:=by
 have le:=a8 F;refine⟨I.dom,I.inj,λl a o e q=>c12 (I.obj l a o e q) λob h1 h2=>⟨ob,h1,h2.mono le⟩,λl a e=> ?_,λa o e=> ?_,I.kept,λa o e=>le.2 _ _ (I.base a o e),I.gens,I.os,I.pos,I.high⟩
 ·refine(?_:(if a=env.locals\/a∈env.cells.map (·.2)then s.heap.get? a else W.fz a)=none);split
  ·rename_i q;exact absurd e ((F.own q).2.1 l)
  ·exact I.apart l a e
 ·have e:(if a=env.locals\/a∈env.cells.map (·.2)then s.heap.get? a else W.fz a)=some o:=e;split at e
  ·exact i12 o e (.refl _)
  ·exact I.fz a o e
theorem eU (F:eE C sc A W env ms s.heap): ∃outer,A.frames=some outer/\tm C (aside W env s.heap) outer:=by
 obtain⟨fenv,rest,L,h1,h2,h3,h4,h5,h6,h7⟩:=F.pE;refine i12 _ h1 λe he=>aP (cM.mp he) (λu=>?_) λhe=>?_
 ·subst u;refine⟨h3,L,?_⟩;refine aP h7 (λz=>?_) λq=>lN q λo es n a b c=>?_
  ·rcases z with⟨rfl,o,es,n,a,b,c⟩
   refine Ht o es n h4 h6 ?_ b c;show(if _ then _ else _)=_
   rw [aF (.inl rfl)];exact a
  ·exact Ht o es n h4 h6 ((a8 F).2 _ _ a) b c
 ·exact(h2.mono (a8 F)) e he
mutual
theorem aw.taken {W':Wd} {X:Addr->Prop} (hc: ∀a o,X a->W'.fz a=some o->Jk o):
  ∀{x:AV} {v:Value},aw W' x v->aw (W'.minus X) x v
 | .none,_,q=>q
 | .any,_,_=>trivial
 | .bool _,_,q=>q
 | .int _,_,q=>q
 | .str _,_,q=>q
 | .bytes _,_,q=>q
 | .ty _,_,q=>q
 | .bi _,_,q=>q
 | .ext _,_,q=>q
 | .loc _,_,q=>q
 | .mw _ _,_,q=>by refine Hg q λa b o e r f z y=>Ht a b o e r ?_ z y;rw [Wd.bB λw=>(hc b o w f).ne z (by decide)];exact f
 | .bm _ _,_,q=>by refine Hg q λa b o e r f z y=>Ht a b o e r ?_ z y;rw [Wd.bB λw=>(hc b o w f).ne z (by decide)];exact f
 | .AB _ _ _,_,q=>by refine Eo q λb o vx vy vz r f z u=>kD u λy k1 k2 k3=>⟨b,o,vx,vy,vz,r,?_,z,y,aw.taken hc k1,aw.taken hc k2,aw.taken hc k3⟩;rw [Wd.bB λw=>(hc b o w f).ne z (by decide)];exact f
 | .fld n _,_,q=>by obtain⟨c,b,o,vs,r,f,z,k⟩:=q;refine⟨c,b,o,vs,r,?_,z,aU.taken hc k⟩;rw [Wd.bB λw=>(hc b o w f).ne (by rw [z]) (Hf c)];exact f
 | .tup _,_,q=>by refine xr q λa o vs n r f z1 z2 k=>v7 a o vs n r ?_ z1 z2 (aU.taken hc k);rw [Wd.bB λw=>(hc a o w f).ne z1 (by decide)];exact f
 | .lst _,_,q=>by refine xr q λa o vs n r f z1 z2 k=>v7 a o vs n r ?_ z1 z2 (aU.taken hc k);rw [Wd.bB λw=>(hc a o w f).ne z1 (by decide)];exact f
theorem aU.taken {X:Addr->Prop} (hc: ∀a o,X a->W'.fz a=some o->Jk o):
  ∀{x:List AV} {v:List Value},aU W' x v->aU (W'.minus X) x v
 | [],_,q=>q
 | _::_,_,q=>by refine fq q λv r e k ks=>jE v r e (aw.taken hc k) (aU.taken hc ks)
end
theorem gk.taken {X:Addr->Prop} (hc: ∀a o,X a->W'.fz a=some o->Jk o):
  ∀{es:List (Str×AV)} {ds:List DictEntry},gk C W' es ds->gk C (W'.minus X) es ds:=by
 intro aH;induction aH with
 | nil=>intro u q;exact q
 | cons dQ _ ih=>intro u q;obtain⟨_,_⟩:=dQ;refine lN q λt v ds' e k ks=>zD t v ds' e (aw.taken hc k) (ih ks)
theorem bu.taken {X:Addr->Prop} (hc: ∀a o,X a->W'.fz a=some o->Jk o):
  ∀{es:List (Option AV)} {ds:List (Option Value)},bu W' es ds->bu (W'.minus X) es ds:=by
 intro aH;induction aH with
 | nil=>intro u q;exact q
 | cons gd _ ih=>
  cases gd with
  | none=>intro u q;refine c12 q λds' e ks=>i12 ds' e (ih ks)
  | some _=>intro u q;refine fq q λv ds' e k ks=>jE v ds' e (aw.taken hc k) (ih ks)
theorem fj.taken {X:Addr->Prop} (hc: ∀a o,X a->W'.fz a=some o->Jk o)
  (q:fj C W' o ob):fj C (W'.minus X) o ob:=by
 cases o with
 | list xs=>obtain⟨a,vs,n,b,c⟩:=q;exact⟨a,vs,n,b,c.taken hc⟩
 | dict es=>refine v8 q λds n e r=>?_;exact GP ds n e (r.taken hc)
 | map es n=>refine c12 q λds e r=>?_;exact i12 ds e (r.taken hc)
 | set xs=>exact q
 | inst c d=>refine c12 q λdx e r=>?_;exact i12 dx e r
 | slots c d vs=>refine fq q λdx sl ed e r=>?_;exact jE dx sl ed e (r.taken hc)
 | junk=>trivial
 | exc n xs=>obtain⟨hn,c,vs,t,d,z,q⟩:=q;exact⟨hn,c,vs,t,d,z,q.taken hc⟩
 | iter l i=>refine c12 q λa e r=>?_;exact i12 a e r
theorem Up.data (u:Up o o'):o'.data=o.data:=by rcases u with rfl | ⟨_,_,rfl⟩<;>rfl
theorem Up.cls (u:Up o o'):o'.cls=o.cls:=by rcases u with rfl | ⟨_,_,rfl⟩<;>rfl
theorem eE.back {W':Wd} (I:Inv C W Z s) (F:eE C sc A W env ms s.heap) (le:(aside W env s.heap).le W') (I':Inv C W' aB s'):
  W.le (taken W' env)/\Inv C (taken W' env) aB s'/\eE C sc A (taken W' env) env ms s'.heap/\(∀{v:AV} {r:Value},aw W' v r->aw (taken W' env) v r)/\(∀{v:List AV} {r:List Value},aU W' v r->aU (taken W' env) v r):=by
 have own: ∀a,(a=env.locals\/a∈env.cells.map (·.2))-> ∃o,s.heap.get? a=some o/\W'.fz a=some o/\uO o:=λa q=>by
  obtain⟨_,_,o,h1,h2⟩:=F.own q;refine tZ o h1 (le.2 _ _ ?_) h2;show(if _ then _ else _)=_
  rw [aF q];exact h1
 have hc: ∀a o,(a=env.locals\/a∈env.cells.map (·.2))->W'.fz a=some o->Jk o:=λa o q e=>by refine fJ (own a q) λo' _ h2 h3=>?_;rw [h2]at e;obtain rfl:=dI e;exact h3.jk
 have heap: ∀a o,(a=env.locals\/a∈env.cells.map (·.2))->s.heap.get? a=some o-> ∃o',s'.heap.get? a=some o'/\Up o o':=λa o q e=>by refine fJ (own a q) λo' h1 h2 _=>?_;rw [h1]at e;obtain rfl:=dI e;exact I'.fz a _ h2
 have tk: ∀a o,¬(a=env.locals\/a∈env.cells.map (·.2))->W'.fz a=some o->(taken W' env).fz a=some o:=λa o q e=>by rw [Wd.bB q];exact e
 have le2:W.le (taken W' env):=⟨λl a e=>le.1 l a e,λa o e=>tk a o (λq=>by rw [(F.own q).1]at e;exact dF e) (le.2 _ _ ((a8 F).2 _ _ e))⟩;have vr: ∀{v:AV} {r:Value},aw W' v r->aw (taken W' env) v r:=λq=>q.taken hc;refine NZ le2 ⟨I'.dom,I'.inj,λl a o e q=>c12 (I'.obj l a o e q) λob h1 h2=>⟨ob,h1,h2.taken hc⟩,λl a e=> ?_,λa o e=>I'.fz a o (Wd.uZ e).2,I'.kept,λa o e=>le2.2 _ _ (I.base a o e),I'.gens,I'.os,I'.pos,I'.high⟩ ?_ vr λq=>q.taken hc
 ·by_cases q:Own env a
  ·exact Wd.d8 q
  ·rw [Wd.bB q];exact I'.apart l a e
 ·obtain⟨mr,hn,hv⟩:=F.ns;have LW: ∀a,(a=env.locals\/a∈env.cells.map (·.2))-> ∀l,W'.ρ l≠some a:=λa q l e=>by refine fJ (own a q) λo _ h2 _=>?_;rw [I'.apart l a e]at h2;exact dF h2
  have mem: ∀x a,(x,a)∈env.cells->(a=env.locals\/a∈env.cells.map (·.2)):=λx a h=> .inr (bM.mpr ⟨(x,a),h,rfl⟩);refine⟨F.scope,F.globals,F.builtins,F.ok,⟨mr,?_,λi x v h1 h2=>(c12 (hv i x v h1 h2) λr e q=>⟨r,e,q.mono le2⟩)⟩,λi x hx=> ?_,⟨?_,λl=>LW _ (.inl rfl) l⟩,λx a hx=> ?_,F.iQ,?_,?_⟩
  ·refine AE hn λo es ep ho hd hk hm=>?_;clear hn;refine c12 (heap _ o (.inl rfl) ho) λo' ho' u=>JD o' es ep ho' (u.data▸hd) hk hm
  ·obtain⟨a,ov,h1,⟨o,ho,hd⟩,h3⟩:=F.cells i x hx;refine c12 (heap a o (mem x a (mem_of_lookup h1)) ho) λo' ho' u=>⟨a,ov,h1,⟨o',ho',u.data▸hd⟩,λv hv=>(c12 (h3 v hv) λr e q=>⟨r,e,q.mono le2⟩)⟩
  ·exact Wd.d8 (.inl rfl)
  ·obtain⟨h1,h2,h3,ov,o,ho,hd,hcl⟩:=F.mZ x a hx;refine c12 (heap a o (mem x a hx) ho) λo' ho' u=>⟨Wd.d8 (mem x a hx),LW _ (mem x a hx),h3,ov,o',ho',u.data▸hd,u.cls▸hcl⟩
  ·obtain⟨o,es,n,ho,hc1,hd⟩:=F.jc;refine c12 (heap _ o (.inl rfl) ho) λo' ho' u=>⟨o',es,n,ho',u.cls▸hc1,u.data▸hd⟩
  ·obtain⟨fenv,rest,L,h1,h2,h3,h4,h5,h6,h7⟩:=F.pE;refine⟨fenv,rest,L,h1,h2.mono le2,h3,h4,h5,h6,?_⟩;refine aP h7 (λw=>?_) λz=>lN z λo es n ho hc1 hd=>?_
   ·rcases w with⟨rfl,o,es,n,ho,hc1,hd⟩
    refine c12 (heap _ o (.inl rfl) ho) λo' ho' u=>.inl ⟨rfl,o',es,n,ho',u.cls▸hc1,u.data▸hd⟩
   ·exact .inr ⟨o,es,n,le2.2 _ _ ho,hc1,hd⟩
theorem Inv.minus {X:Addr->Prop} (I:Inv C W Z s) (hc: ∀a o,X a->W.fz a=some o->Jk o) (hb: ∀a,X a->C.h₀.get? a=none):Inv C (W.minus X) Z s:=by
 refine⟨I.dom,I.inj,λl a o e q=>c12 (I.obj l a o e q) λob h1 h2=>⟨ob,h1,h2.taken hc⟩,λl a e=> ?_,λa o e=>I.fz a o (Wd.uZ e).2,I.kept,λa o e=> ?_,I.gens,I.os,I.pos,I.high⟩
 ·by_cases q:X a
  ·exact Wd.d8 q
  ·rw [Wd.bB q];exact I.apart l a e
 ·rw [Wd.bB λq=>by rw [hb a q]at e;exact dF e];exact I.base a o e
open Classical in
noncomputable def Wd.plus (W:Wd) (X:Addr->Prop) (h:Heap):Wd:=⟨W.ρ,λa=>if X a then h.get? a else W.fz a⟩
theorem Wd.nR {X:Addr->Prop} (q:X a):(W.plus X h).fz a=h.get? a:=by delta Wd.plus;exact aF q
theorem Wd.fY {X:Addr->Prop} (q: ¬X a):(W.plus X h).fz a=W.fz a:=by delta Wd.plus;exact ay q
theorem Inv.plus {X:Addr->Prop} (I:Inv C W Z s) (hX: ∀a,X a->W.fz a=none/\ ∀l,W.ρ l≠some a):W.le (W.plus X s.heap)/\Inv C (W.plus X s.heap) Z s:=by
 have le:W.le (W.plus X s.heap):=⟨λu v e=>e,λa o e=>by
  rw [Wd.fY λq=>by rw [(hX a q).1]at e;exact dF e];exact e⟩
 refine⟨le,I.dom,I.inj,λl a o e q=>c12 (I.obj l a o e q) λob h1 h2=>⟨ob,h1,h2.mono le⟩,λl a e=> ?_,λa o e=> ?_,I.kept,λa o e=>le.2 _ _ (I.base a o e),I.gens,I.os,I.pos,I.high⟩
 ·rw [Wd.fY λq=>(hX a q).2 l e];exact I.apart l a e
 ·by_cases q:X a
  ·rw [Wd.nR q]at e;exact i12 o e (.refl _)
  ·rw [Wd.fY q]at e;exact I.fz a o e
theorem At.freeze (H:At C sc A W env ms Z s) (g:s.heap.get? it=some ob) (n1:W.fz it=none) (n2: ∀l,W.ρ l≠some it) (n3: ¬Own env it):W.le (W.freeze it ob)/\At C sc A (W.freeze it ob) env ms Z s:=by
 refine bI (H.inv.f6 (h:=s.heap) (t:=s.toks) (d:=s.drawn) n1 n2 (λw m e=>e) g) λle I=>⟨le,I,?_⟩;have F:=H.fr;obtain⟨mr,hn,hv⟩:=F.ns;have fz: ∀a,a≠it->(W.freeze it ob).fz a=W.fz a:=λa n=>by refine(?_:(if a=it then some ob else W.fz a)=_);exact ay n
 refine⟨F.scope,F.globals,F.builtins,F.ok,⟨mr,hn,λi x v h1 h2=>(c12 (hv i x v h1 h2) λr e q=>⟨r,e,q.mono le⟩)⟩,λi x hx=> ?_,⟨?_,F.mi.2⟩,λx a hx=> ?_,F.iQ,F.jc,?_⟩
 ·obtain⟨a,ov,h1,h2,h3⟩:=F.cells i x hx;exact⟨a,ov,h1,h2,λv hv=>(c12 (h3 v hv) λr e q=>⟨r,e,q.mono le⟩)⟩
 ·rw [fz _ λz=>n3 (.inl z.symm)];exact F.mi.1
 ·have p:=F.mZ x a hx;refine p.re ?_ p.Lw;rw [fz _ λz=>n3 (.inr (z▸bM.mpr ⟨(x,a),hx,rfl⟩))];exact p.Ms
 ·obtain⟨fenv,rest,L,h1,h2,h3,h4,h5,h6,h7⟩:=F.pE;refine⟨fenv,rest,L,h1,h2.mono le,h3,h4,h5,h6,?_⟩;refine aP h7 (λz=>?_) λu=>Jw u λo es n z=>?_
  ·exact .inl z
  ·exact .inr ⟨o,es,n,le.2 _ _ z.1,z.2⟩
theorem At.Gu {X:Addr->Prop} (H:At C sc A W env ms Z s) (hX: ∀a o,X a->W.fz a=some o->Jk o/\o.cls≠ .type "frame") (hb: ∀a,X a->C.h₀.get? a=none):At C sc A (W.minus X) env ms Z s:=by
 have hc: ∀a o,X a->W.fz a=some o->Jk o:=λa o x e=>(hX a o x e).1;refine⟨H.inv.minus hc hb,?_⟩;have F:=H.fr;obtain⟨mr,hn,hv⟩:=F.ns;have out: ∀a,W.fz a=none->(W.minus X).fz a=none:=λa e=>by
  by_cases q:X a
  ·exact Wd.d8 q
  ·rw [Wd.bB q];exact e
 have stays: ∀L o,W.fz L=some o->o.cls= .type "frame"->(W.minus X).fz L=some o:=λL o e c=>by rw [Wd.bB λz=>(hX L o z e).2 c];exact e
 refine⟨F.scope,F.globals,F.builtins,F.ok,⟨mr,hn,λi x v h1 h2=>(c12 (hv i x v h1 h2) λr e q=>⟨r,e,q.taken hc⟩)⟩,λi x hx=> ?_,⟨out _ F.mi.1,F.mi.2⟩,λx a hx=> ?_,F.iQ,F.jc,?_⟩
 ·obtain⟨a,ov,h1,h2,h3⟩:=F.cells i x hx;exact⟨a,ov,h1,h2,λv hv=>(c12 (h3 v hv) λr e q=>⟨r,e,q.taken hc⟩)⟩
 ·have p:=F.mZ x a hx;exact p.re (out _ p.Ms) p.Lw
 ·obtain⟨fenv,rest,L,h1,h2,h3,h4,h5,h6,h7⟩:=F.pE;refine⟨fenv,rest,L,h1,λe he=> ?_,h3,h4,h5,h6,?_⟩
  ·rcases h2 e he with⟨k1,L',o,es,n,k2,k3,k4,w⟩;refine bI w λk5 k6=>⟨k1,L',o,es,n,k2,k3,stays _ _ k4 k5,k5,k6⟩
  ·refine aP h7 (λz=>?_) λu=>lN u λo es n z1 z2 z3=>?_
   ·exact .inl z
   ·exact .inr ⟨o,es,n,stays _ _ z1 z2,z2,z3⟩
theorem At.KJ (H:At C sc A W env ms Z s) (g:W.fz it=some ob) (hj:Jk ob) (hf:ob.cls≠ .type "frame") (hb:C.h₀.get? it=none):
  At C sc A (W.minus (· =it)) env ms Z s/\ ∃ob',s.heap.get? it=some ob/\ob'=ob:=
 ⟨H.Gu (λa o e q=>by subst e;rw [g]at q;cases q;exact⟨hj,hf⟩) λa e=>e▸hb,ob,H.inv.frozen g hf,rfl⟩
theorem At.La {X:Addr->Prop} (H:At C sc A W env ms Z s) (hX: ∀a,X a->(W.fz a=none/\ ∀l,W.ρ l≠some a)/\ ¬Own env a):W.le (W.plus X s.heap)/\At C sc A (W.plus X s.heap) env ms Z s:=by
 refine bI (H.inv.plus λa q=>(hX a q).1) λle I=>⟨le,I,?_⟩;have F:=H.fr;obtain⟨mr,hn,hv⟩:=F.ns;have out: ∀a,Own env a->W.fz a=none->(W.plus X s.heap).fz a=none:=λa o e=>by rw [Wd.fY λq=>(hX a q).2 o];exact e
 refine⟨F.scope,F.globals,F.builtins,F.ok,⟨mr,hn,λi x v h1 h2=>(c12 (hv i x v h1 h2) λr e q=>⟨r,e,q.mono le⟩)⟩,λi x hx=> ?_,⟨out _ (.inl rfl) F.mi.1,F.mi.2⟩,λx a hx=> ?_,F.iQ,F.jc,?_⟩
 ·obtain⟨a,ov,h1,h2,h3⟩:=F.cells i x hx;exact⟨a,ov,h1,h2,λv hv=>(c12 (h3 v hv) λr e q=>⟨r,e,q.mono le⟩)⟩
 ·have p:=F.mZ x a hx;exact p.re (out _ (.inr (bM.mpr ⟨(x,a),hx,rfl⟩)) p.Ms) p.Lw
 ·obtain⟨fenv,rest,L,h1,h2,h3,h4,h5,h6,h7⟩:=F.pE;refine⟨fenv,rest,L,h1,h2.mono le,h3,h4,h5,h6,?_⟩;refine aP h7 (λz=>?_) λu=>Jw u λo es n z=>?_
  ·exact .inl z
  ·exact .inr ⟨o,es,n,le.2 _ _ z.1,z.2⟩
theorem Op.in {α:Type} {t:Sem α} {R:Wd->α->Prop} {R':α->Shared->Prop} (hX:X=aside W env s.heap) (h:Op C k X Z t R aB) (hr:bY C A k) (H:At C sc A W env ms Z s)
  (q: ∀W' r s',W.le (taken W' env)->At C sc A (taken W' env) env ms aB s'->R W' r->(∀{v:AV} {r:Value},aw W' v r->aw (taken W' env) v r)->(∀{v:List AV} {r:List Value},aU W' v r->aU (taken W' env) v r)->R' r s'):wpAny C.M A t R' No s:=by
 subst hX;refine c12 (eU H.fr) λouter ho hs=>bH (h A s outer hr ho hs (eQ H.inv H.fr)) (λr s' z=> ?_) λu w h=>h;obtain⟨W',le,I',hR⟩:=z;refine ve (eE.back H.inv H.fr le I') λl2 I2 F2 v1 v2=>q W' r s' l2 ⟨I2,F2⟩ hR v1 v2
end
end V
end
section
namespace V
section
variable {C:Cx} {k:Nat} {sc:Scope} {A:Around} {W:Wd} {env:Env} {ms ai aZ aK:List (Option AV)} {Z ae aN aB:St} {s:Shared}
theorem bf {α:Type} {t:Sem α} {R:Wd->α->Prop} {Q:α->Shared->Prop} (h:wpAny C.M A t (ic C sc A W env ai ae R) No s)
  (g: ∀aR r aI,W.le aR->At C sc A aR env ai ae aI->R aR r->Q r aI):wpAny C.M A t Q No s:=
 bH h (λr aI z=>(by obtain⟨aR,le,H,q⟩:=z;exact g aR r aI le H q)) λu v x=>x
theorem cX {α β:Type} {t:Sem α} {f:α->Sem β} {R:Wd->α->Prop} {Q:β->Shared->Prop} (h:wpAny C.M A t (ic C sc A W env ai ae R) No s)
  (g: ∀aR r aI,W.le aR->At C sc A aR env ai ae aI->R aR r->wpAny C.M A (f r) Q No aI):wpAny C.M A (t>>=f) Q No s:=
 aj (bf h g)
theorem bz {α:Type} {R:Wd->α->Prop} {r:α} (le:W.le W') (H:At C sc A W' env aK aB s) (q:R W' r):ic C sc A W env aK aB R r s:=⟨W',le,H,q⟩
theorem At.tok (H:At C sc A W env ms Z s) (t:Nat) (ht:s.toks<=t:=by kln_le):At C sc A W env ms Z {s with toks:=t}:=⟨H.inv.same (λu v e=>e) ht,H.fr⟩
noncomputable def Ev (C:Cx) (k:Nat) (sc:Scope) (ms:List (Option AV)) (Z:St) (e:Expr) (v:AV) (aK:List (Option AV)) (aB:St):Prop:=
 Tr C k sc ms Z (eval e) (λW r=>aw W v r) aK aB
noncomputable def Tv (C:Cx) (k:Nat) (sc:Scope) (ms:List (Option AV)) (Z:St) (e:Expr) (b:Bool) (aK:List (Option AV)) (aB:St):Prop:=
 Tr C k sc ms Z (λenv=>isTrue e env (eval e env)) (λ_ r=>r=b) aK aB
noncomputable def Es (C:Cx) (k:Nat) (sc:Scope) (ms:List (Option AV)) (Z:St) (pos:Pos) (es:List Expr) (vs:List AV) (aK:List (Option AV)) (aB:St):Prop:=
 Tr C k sc ms Z (λenv=>spliced (backTo pos (starEach es env))) (λW r=>aU W vs r) aK aB
inductive AF where
 | next | brk | cont
 | ret (v:AV)
noncomputable def bQ (W:Wd):AF->Flow->Prop
 | .next,f=>f= .next
 | .brk,f=>f= .brk
 | .cont,f=>f= .cont
 | .ret v,f=> ∃r,f= .ret r/\aw W v r
noncomputable def Ex (C:Cx) (k:Nat) (sc:Scope) (ms:List (Option AV)) (Z:St) (ss:List Stmt) (f:AF) (aK:List (Option AV)) (aB:St):Prop:=
 Tr C k sc ms Z (λenv=>execs ss env) (λW r=>bQ W f r) aK aB
noncomputable def X1 (C:Cx) (k:Nat) (sc:Scope) (ms:List (Option AV)) (Z:St) (st:Stmt) (f:AF) (aK:List (Option AV)) (aB:St):Prop:=
 Tr C k sc ms Z (λenv=>exec st env) (λW r=>bQ W f r) aK aB
noncomputable def As (C:Cx) (k:Nat) (sc:Scope) (ms:List (Option AV)) (Z:St) (t:Expr) (v:AV) (aK:List (Option AV)) (aB:St):Prop:=
 ∀A W env s r,bY C A k->At C sc A W env ms Z s->aw W v r->wpAny C.M A (assign t env r) (ic C sc A W env aK aB λ_ _=>True) No s
noncomputable def ie {α:Type} (C:Cx) (k:Nat) (Z:St) (f:Value->Sem α) (a:AV) (R:Wd->α->Prop) (aB:St):Prop:=
 ∀W ra,aw W a ra->Op C k W Z (f ra) R aB
noncomputable def di {α:Type} (C:Cx) (k:Nat) (Z:St) (f:Value->Value->Sem α) (a b:AV) (R:Wd->α->Prop) (aB:St):Prop:=
 ∀W ra rb,aw W a ra->aw W b rb->Op C k W Z (f ra rb) R aB
noncomputable def K9 {α:Type} (C:Cx) (k:Nat) (Z:St) (f:Value->Value->Value->Sem α) (a b c:AV) (R:Wd->α->Prop) (aB:St):Prop:=
 ∀W ra rb rc,aw W a ra->aw W b rb->aw W c rc->Op C k W Z (f ra rb rc) R aB
noncomputable def bC (W:Wd):List (Str×AV)->List (Str×Value)->Prop
 | [],ks=>ks= []
 | (n,x)::r,ks=> ∃v ks',ks=(n,v)::ks'/\aw W x v/\bC W r ks'
theorem bC.mono (h:W.le W'): ∀{xs:List (Str×AV)} {vs:List (Str×Value)},bC W xs vs->bC W' xs vs
 | [],_,q=>q
 | (_,_)::_,_,q=>by dsimp only [bC]at q⊢;refine fq q λv ks' e a b=>jE v ks' e (a.mono h) (b.mono h)
noncomputable def Ca (C:Cx) (k:Nat) (Z:St) (f:AV) (as:List AV) (kw:List (Str×AV)) (v:AV) (aB:St):Prop:=
 ∀W rf df fp,aw W f rf->aU W as df->bC W kw fp->Op C k W Z (call rf df fp) (λW r=>aw W v r) aB
theorem aa {i:Nat} {x:Str} {v:AV} {pos:Pos} (hi:sc.names[i]? =some (x,NameKind.local)) (hv:ms[i]? =some (some v)):Ev C k sc ms Z (.Name x pos) v ms Z:=by
 intro A W env s hr H;obtain⟨mr,hn,hm⟩:=H.fr.ns;refine c12 (hm i x v hi hv) λr e q=>?_;have hl:env.kindOf x=some .local:=by delta Env.kindOf;rw [H.fr.scope];exact bK (cQ.nodup H.fr.ok) hi
 exact wpAny_Name (wpAny_loadName_local (by rw [H.fr.scope];exact cQ.kind H.fr.ok) hl hn e (bz (.refl W) H q)) ((cQ.all H.fr.ok _ (ik hi)).2 (λz=>nomatch z))
theorem aM {i:Nat} {x:Str} {v:AV} {pos:Pos} (hi:sc.names[i]? =some (x,NameKind.cell)) (hv:ms[i]? =some (some v)):Ev C k sc ms Z (.Name x pos) v ms Z:=by
 intro A W env s hr H;obtain⟨a,ov,hc,hcell,hm⟩:=H.fr.cells i x hi;refine c12 (hm v hv) λr u=>?_;subst u;intro q;have hl:env.kindOf x=some .cell:=by delta Env.kindOf;rw [H.fr.scope];exact bK (cQ.nodup H.fr.ok) hi
 exact wpAny_Name (wpAny_loadName_cell (by rw [H.fr.scope];exact cQ.kind H.fr.ok) hl hc hcell (bz (.refl W) H q)) ((cQ.all H.fr.ok _ (ik hi)).2 (λz=>nomatch z))
noncomputable def Glob (C:Cx) (x:Str) (v:AV):Prop:=(x==("__debug__":Str))=false/\ ∃r,(C.mg x=some r\/(C.mg x=none/\C.mb x=some r))/\ ∀W,aw W v r
theorem ar {i:Nat} {x:Str} {v:AV} {pos:Pos} (O:C.Ok) (hi:sc.names[i]? =some (x,NameKind.globalImplicit)) (g:Glob C x v):Ev C k sc ms Z (.Name x pos) v ms Z:=by
 intro A W env s hr H;obtain⟨hd,r,hg,q⟩:=g;have hl:env.kindOf x=some .globalImplicit:=by delta Env.kindOf;rw [H.fr.scope];exact bK (cQ.nodup H.fr.ok) hi
 have hG:s.heap.Ns env.globals C.mg:=by rw [H.fr.globals];exact O.g.keeps H.inv.kept
 refine Name_function_global (by rw [H.fr.scope];exact cQ.kind H.fr.ok) hl ?_ hd;refine aP hg (λhg=>?_) λz=>bI z λhg hb=>?_
 ·exact loadGlobal_global hG hg (bz (.refl W) H (q W))
 ·have hB:s.heap.Ns env.builtins C.mb:=by rw [H.fr.builtins];exact O.b.keeps H.inv.kept
  exact loadGlobal_builtin hG hg hB hb (bz (.refl W) H (q W))
theorem bV {x pos}:Ev C k sc ms Z (.Constant .none x pos) .none ms Z:=λA W env s hr H=>by rw [zo];exact aQ (bz (.refl W) H rfl)
theorem dR {b:Bool} {x pos}:Ev C k sc ms Z (.Constant (.bool b) x pos) (.bool b) ms Z:=λA W env s hr H=>by rw [zo];exact aQ (bz (.refl W) H rfl)
theorem aC {x pos}:Ev C k sc ms Z (.Constant (.int i) x pos) (.int i) ms Z:=λA W env s hr H=>by rw [zo];exact wpAny_mkInt (bz (.refl W) (H.tok _) (⟨_,rfl⟩))
theorem aW {x pos}:Ev C k sc ms Z (.Constant (.str t) x pos) (.str t) ms Z:=λA W env s hr H=>by rw [zo];exact wpAny_mkText (bz (.refl W) (H.tok _) (⟨_,rfl⟩))
theorem az {op:Operator} (h1:Ev C k sc ms Z l a ai ae) (h2:Ev C k sc ai ae r b aZ aN)
  (h3:di C k aN (binaryOp op) a b (λW r=>aw W c r) aB):Ev C k sc ms Z (.BinOp l op r pos) c aZ aB:=by
 intro A W env s hr H;refine wpAny_BinOp (bf (h1 A W env s hr H) λaR ra aI aA aO qa=>bf (h2 A aR env aI hr aO) λbh rb aT ax aG qb=> ?_);have as:=a8 aG.fr;exact Op.in rfl (h3 _ ra rb ((qa.mono ax).mono as) (qb.mono as)) hr aG λbS r bt bg br q tk u=>bz (aA.trans (ax.trans bg)) br (tk q)
theorem dB {op:UnaryOp} (h1:Ev C k sc ms Z x a ai ae)
  (h3:ie C k ae (unaryOp op) a (λW r=>aw W c r) aB):Ev C k sc ms Z (.UnaryOp op x pos) c ai aB:=by
 intro A W env s hr H;refine wpAny_UnaryOp (bf (h1 A W env s hr H) λaR ra aI aA aO qa=> ?_);exact Op.in rfl (h3 _ ra (qa.mono (a8 aO.fr))) hr aO λbS r bt bg br q tk u=>bz (aA.trans bg) br (tk q)
theorem d0 {op:CmpOp} (h1:Ev C k sc ms Z l a ai ae) (h2:Ev C k sc ai ae r b aZ aN)
  (h3:di C k aN (compareOp op) a b (λW r=>aw W c r) aB) (hm:behindInMarks op r=false):Ev C k sc ms Z (.Compare l [op] [r] pos) c aZ aB:=by
 intro A W env s hr H;refine wpAny_Compare1 (bf (h1 A W env s hr H) λaR ra aI aA aO qa=>bf (h2 A aR env aI hr aO) λbh rb aT ax aG qb=> ?_) hm;have as:=a8 aG.fr;exact Op.in rfl (h3 _ ra rb ((qa.mono ax).mono as) (qb.mono as)) hr aG λbS r bt bg br q tk u=>bz (aA.trans (ax.trans bg)) br (tk q)
theorem b9 {b:Bool} (h1:Tv C k sc ms Z test b ai ae) (h2:Ev C k sc ai ae (if b then x else y) v aK aB):Ev C k sc ms Z (.IfExp test x y pos) v aK aB:=by
 intro A W env s hr H;refine wpAny_IfExp (bf (h1 A W env s hr H) λaR rb aI aA aO qb=> ?_);subst qb;have h:=h2 A aR env aI hr aO;cases rb
 ·exact bf h λbh r aT ax aG q=>bz (aA.trans ax) aG q
 ·exact bf h λbh r aT ax aG q=>bz (aA.trans ax) aG q
theorem pA (h1:Ev C k sc ms Z value v ai ae) (h2:As C k sc ai ae target v aK aB):Ev C k sc ms Z (.NamedExpr target value pos) v aK aB:=by intro A W env s hr H;refine wpAny_NamedExpr (bf (h1 A W env s hr H) λaR r aI aA aO q=>bf (h2 A aR env aI r hr aO q) λbh u aT ax aG w=>bz (aA.trans ax) aG (q.mono ax))
theorem aX {b:Bool} (h1:Ev C k sc ms Z e v ai ae) (h2:ie C k ae truthy v (λw r=>r=b) aB)
  (he: ∀env whole,isTrue e env whole=(do let v<-whole;standAt e.pos;holding [v] (truthy v)):=by exact λu v=>rfl):Tv C k sc ms Z e b ai aB:=by
 intro A W env s hr H;refine wpAny_isTrue_value (bf (h1 A W env s hr H) λaR r aI aA aO q=> ?_) (he _ _);exact Op.in rfl (h2 _ r (q.mono (a8 aO.fr))) hr aO λbS r bt bg br q tk w=>bz (aA.trans bg) br q
theorem aq {op:CmpOp} {c:Bool} (h1:Ev C k sc ms Z l a ai ae) (h2:Ev C k sc ai ae r b aZ aN)
  (h3:di C k aN (compareOp op) a b (λW r=>aw W (.bool c) r) aB) (hm:behindInMarks op r=false):Tv C k sc ms Z (.Compare l [op] [r] pos) c aZ aB:=by
 intro A W env s hr H;refine wpAny_isTrue_Compare1 (bf (h1 A W env s hr H) λaR ra aI aA aO qa=>bf (h2 A aR env aI hr aO) λbh rb aT ax aG qb=> ?_) hm;have as:=a8 aG.fr;refine Op.in rfl (h3 _ ra rb ((qa.mono ax).mono as) (qb.mono as)) hr aG λbS r bt bg br q tk u=> ?_;subst q;exact wpAny_truthy_bool (bz (aA.trans (ax.trans bg)) br rfl)
theorem d4 {b:Bool} (h:Tv C k sc ms Z x b aK aB):Tv C k sc ms Z (.UnaryOp .Not x pos) (!b) aK aB:=by intro A W env s hr H;exact wpAny_isTrue_Not (bf (h A W env s hr H) λaR r aI aA aO q=>bz aA aO (by rw [q]))
noncomputable def Et (C:Cx) (k:Nat) (sc:Scope) (ms:List (Option AV)) (Z:St) (op:BoolOp) (es:List Expr) (b:Bool) (aK:List (Option AV)) (aB:St):Prop:=
 Tr C k sc ms Z (λenv=>allTrue op es env) (λ_ r=>r=b) aK aB
theorem aY (h:Et C k sc ms Z op es b aK aB):Tv C k sc ms Z (.BoolOp op es pos) b aK aB:=
 λA W env s hr H=>wpAny_isTrue_BoolOp (h A W env s hr H)
theorem f9:Et C k sc ms Z .And [] true ms Z:=λu W v w g H=>wpAny_allTrue_And_nil (bz (.refl W) H rfl)
theorem cj:Et C k sc ms Z .Or [] false ms Z:=λu W v w g H=>wpAny_allTrue_Or_nil (bz (.refl W) H rfl)
theorem b7 (h:Tv C k sc ms Z x false aK aB):Et C k sc ms Z .And (x::rest) false aK aB:=
 λA W env s hr H=>wpAny_allTrue_And_cons (bf (h A W env s hr H) λaR r aI aA aO q=>by subst q;exact bz aA aO rfl)
theorem cg {b:Bool} (h:Tv C k sc ms Z x true ai ae) (h2:Et C k sc ai ae .And rest b aK aB):Et C k sc ms Z .And (x::rest) b aK aB:=
 λA W env s hr H=>wpAny_allTrue_And_cons (bf (h A W env s hr H) λaR r aI aA aO q=>by
  subst q;exact bf (h2 A aR env aI hr aO) λbh r aT ax aG q=>bz (aA.trans ax) aG q)
theorem c8 (h:Tv C k sc ms Z x true aK aB):Et C k sc ms Z .Or (x::rest) true aK aB:=
 λA W env s hr H=>wpAny_allTrue_Or_cons (bf (h A W env s hr H) λaR r aI aA aO q=>by subst q;exact bz aA aO rfl)
theorem ba {b:Bool} (h:Tv C k sc ms Z x false ai ae) (h2:Et C k sc ai ae .Or rest b aK aB):Et C k sc ms Z .Or (x::rest) b aK aB:=
 λA W env s hr H=>wpAny_allTrue_Or_cons (bf (h A W env s hr H) λaR r aI aA aO q=>by
  subst q;exact bf (h2 A aR env aI hr aO) λbh r aT ax aG q=>bz (aA.trans ax) aG q)
theorem ak:Es C k sc ms Z pos [] [] ms Z:=λu W v w g H=>spliced_nil (bz (.refl W) H .nil)
theorem af (h1:Ev C k sc ms Z e v ai ae) (h2:Es C k sc ai ae pos rest vs aK aB)
  (he: ∀env,starEach (e::rest) env=(false,eval e env)::starEach rest env:=by exact λu=>rfl):Es C k sc ms Z pos (e::rest) (v::vs) aK aB:=by
 intro A W env s hr H;refine(?_:wpAny C.M A (spliced (backTo pos (starEach (e::rest) env))) _ _ _);rw [he];refine spliced_cons (bf (t:=eval e env) (h1 A W env s hr H) λaR r aI aA aO q=> ?_);exact bf (h2 A aR env aI hr aO) λbh rs aT ax aG qs=>bz (aA.trans ax) aG (.cons (q.mono ax) qs)
theorem bA:Ex C k sc ms Z [] .next ms Z:=λu W v w g H=>wpAny_execs_nil (bz (.refl W) H rfl)
theorem aJ {st:Stmt} {rest:List Stmt} {f:AF} (h1:X1 C k sc ms Z st .next ai ae) (h2:Ex C k sc ai ae rest f aK aB):Ex C k sc ms Z (st::rest) f aK aB:=
 λA W env s hr H=>CA (bf (h1 A W env s hr H) λaR r aI aA aO q=>by
  delta bQ at q;subst q;exact bf (h2 A aR env aI hr aO) λbh r aT ax aG q=>bz (aA.trans ax) aG q)
theorem iy {st:Stmt} {rest:List Stmt} {f:AF} (h1:X1 C k sc ms Z st f aK aB) (hf:f≠ .next):Ex C k sc ms Z (st::rest) f aK aB:=
 λA W env s hr H=>CA (bf (h1 A W env s hr H) λaR r aI aA aO q=>by
  cases f with
  | next=>exact absurd rfl hf
  | brk=>delta bQ at q;subst q;exact bz aA aO rfl
  | cont=>delta bQ at q;subst q;exact bz aA aO rfl
  | ret v=>delta bQ at q;refine yu q λx q=>?_;exact bz aA aO ⟨x,rfl,q⟩)
theorem AP:X1 C k sc ms Z (.Break pos) .brk ms Z:=λu W v w g H=>wpAny_Break (bz (.refl W) H rfl)
theorem vc:X1 C k sc ms Z (.Continue pos) .cont ms Z:=λu W v w g H=>wpAny_Continue (bz (.refl W) H rfl)
theorem zg (h:Ev C k sc ms Z e v aK aB):X1 C k sc ms Z (.Return (some e) pos) (.ret v) aK aB:=
 λA W env s hr H=>wpAny_Return_some (bf (h A W env s hr H) λaR r aI aA aO q=>bz aA aO ⟨r,rfl,q⟩)
theorem rj {b:Bool} {f:AF} (h1:Tv C k sc ms Z test b ai ae) (h2:Ex C k sc ai ae (if b then x else y) f aK aB):X1 C k sc ms Z (.If test x y pos) f aK aB:=by
 intro A W env s hr H;refine wpAny_If (bf (h1 A W env s hr H) λaR rb aI aA aO qb=> ?_);subst qb;have h:=h2 A aR env aI hr aO;cases rb
 ·exact bf h λbh r aT ax aG q=>bz (aA.trans ax) aG q
 ·exact bf h λbh r aT ax aG q=>bz (aA.trans ax) aG q
theorem cv (h:Ev C k sc ms Z e v aK aB) (hs: ∀env:Env,env.scope.kind= .function->swapsWith e none pos.line env=pure false:=by exact λu v=>rfl):X1 C k sc ms Z (.Expr e pos) .next aK aB:=by
 intro A W env s hr H;have hk:env.scope.kind= .function:=by rw [H.fr.scope];exact cQ.kind H.fr.ok
 refine(?_:wpAny C.M A (exec (.Expr e pos) env) _ _ _);rw [exec_Expr env e pos (by delta interactive;rw [hk];rfl) (hs env hk)];refine aj (cF (cX (h A W env s hr H) λaR r aI aA aO q=> ?_));exact wpAny_dropValue (bz aA aO rfl)
theorem au (h1:Ev C k sc ms Z value v ai ae) (h2:As C k sc ai ae t v aK aB)
  (hs: ∀env,swapsWithSole [t] value pos.line env=pure false:=by exact λu=>rfl) (hw: ∀env,swappedStores [t] value env=pure none:=by exact λu=>rfl) (ht: ∀env,(assignEach [t] env).map (·.2)= [assign t env]:=by exact λu=>rfl):
  X1 C k sc ms Z (.Assign [t] value pos) .next aK aB:=by
 intro A W env s hr H;refine wpAny_Assign_stores (bf (h1 A W env s hr H) λaR r aI aA aO q=> ?_) (hs env) (hw env);rw [ht];exact bf (h2 A aR env aI r hr aO q) λbh w aT ax aG g=>bz (aA.trans ax) aG rfl
end
end V
end
section
namespace V
section
variable {M:Model} {A:Around} {E:Value->Shared->Prop} {s:Shared}
theorem sF {m:Str->Option Value} {Q:Unit->Shared->Prop} (hn:s.heap.Ns a m) (ho':s.heap.get? a=some o)
  (hQ: ∀h' o' es n,h'.Ns a (λx=>if x=name then some v else m x)->Heap.SameBut a s.heap h'->h'.get? a=some o'->o'.cls=o.cls->o'.data= .dict es n->Q () {s with heap:=h',toks:=s.toks+1}):
  wpAny M A (nsSet a name v) Q E s:=λΓ p u=>by
 refine AE hn λLX es ep ho hd hk hm=>?_;clear hn;rw [ho]at ho';obtain rfl:=dI ho';simp only [nsSet,strHash,vE,Sem.wp_cmd_ask,Sem.wp_pure',Sem.wp_cmd_mkText];rw [Sem.wp_loadPart_of M Γ _ p {s with toks:=s.toks+1} (o:=LX) _ ho];have hany:es.any (·.refKey)=false:=by rw [Array.any_eq_false'];intro e he;refine c21 (hk e he) λn t h=>?_;simp [DictEntry.refKey,h]
 simp only [hd,aRefKeyMayBeTheName_eq,aRefKeyMayBeTheNameByArray,hany,Bool.and_false,iO,jh,Sem.wp_cmd_updatePart];refine⟨by rw [ho];rfl,?_⟩;obtain⟨c,d,dt,sl⟩:=LX;subst hd;cases hi:es.findIdx? (·.key.isStr name)with
 | some i=>
  have g:=jt (Obj.putName name (PyData.keyHash M.w.params name) (.str name s.toks) v) ho (by simp only [Obj.putName_eq,Obj.putNameByArray,hi];rfl);have e:Obj.putName name (PyData.keyHash M.w.params name) (.str name s.toks) v ⟨c,d,.dict es ep,sl⟩=⟨c,d,.dict (es.modify i λe=>{e with val:=v}) ep,sl⟩:=by simp only [Obj.putName_eq,Obj.putNameByArray,hi]
  rw [e]at g;refine hQ _ _ _ _ ⟨_,_,ep,g,rfl,hk.modify _ _,λx=> ?_⟩ (zH ..) g rfl rfl;refine(?_:_=if x=name then some v else m x);rw [<-hm];exact findBy_modify (λn v=>v.isStr n) Value.isStr_inj es name x v i hi
 | none=>
  have g:=jt (Obj.putName name (PyData.keyHash M.w.params name) (.str name s.toks) v) ho (by simp only [Obj.putName_eq,Obj.putNameByArray,hi];rfl);have e:Obj.putName name (PyData.keyHash M.w.params name) (.str name s.toks) v ⟨c,d,.dict es ep,sl⟩=⟨c,d,.dict (es.push ⟨PyData.keyHash M.w.params name,.str name s.toks,v⟩) (ep+1),sl⟩:=by simp only [Obj.putName_eq,Obj.putNameByArray,hi]
  rw [e]at g;refine hQ _ _ _ _ ⟨_,_,ep+1,g,rfl,hk.push _ _ _ _,λx=> ?_⟩ (zH ..) g rfl rfl;refine(?_:_=if x=name then some v else m x);rw [<-hm];exact findBy_push (λn v=>v.isStr n) es name x _ _ v (λy=>by
   refine(?_:(name==y)=decide (y=name));by_cases h:y=name
   ·subst h;simp
   ·have: ¬name=y:=λe=>h e.symm;simp [h,this]) hi
end
section
variable {C:Cx} {k:Nat} {sc:Scope} {A:Around} {W:Wd} {env:Env} {ms ai aZ aK:List (Option AV)} {Z ae aN aB:St} {s:Shared}
theorem jb: ∀{l:List (Str×NameKind)} {i j:Nat} {x:Str} {a b:NameKind},(l.map (·.1)).Nodup->l[i]? =some (x,a)->l[j]? =some (x,b)->i=j:=by
 intro aH;induction aH with
 | nil=>
  intro i j x a b u hi v;exact by simp at hi
 | cons y r ih=>
  intro i j x a b h hi hj;rw [dj,hH]at h;have no: ∀(m:Nat) (c d:NameKind),r[m]? =some (x,c)->y=(x,d)->False:=λm c d e e2=>
   h.1 (bM.mpr ⟨(x,c),ik e,by rw [e2]⟩)
  cases i with
  | zero=>cases j with
   | zero=>rfl
   | succ j=>simp at hi hj;exact(no j b a hj hi).elim
  | succ i=>cases j with
   | zero=>simp at hi hj;exact(no i a b hi hj).elim
   | succ j=>simp at hi hj;rw [ih h.2 hi hj]
theorem lK {Q:Unit->Shared->Prop} (hi:sc.names[i]? =some (x,NameKind.local)) (H:At C sc A W env ms Z s) (q:aw W v r)
  (h: ∀s',At C sc A W env (ms.set i (some v)) Z s'->s.toks<s'.toks->Q () s'):wpAny C.M A' (storeName env x r) Q No s:=by
 obtain⟨mr,hn,hm⟩:=H.fr.ns;obtain⟨o,es,n,ho,hcl,hd⟩:=H.fr.jc;have hk:env.scope.kind= .function:=by rw [H.fr.scope];exact cQ.kind H.fr.ok
 have hl:env.kindOf x=some .local:=by delta Env.kindOf;rw [H.fr.scope];exact bK (cQ.nodup H.fr.ok) hi
 rw [storeName_local hl (by rw [hk];rfl)];refine sF hn ho λh' o' es' n' hn' hs' hg hc' hd'=>h _ ⟨?_,?_⟩ (Nat.lt_succ_self _)
 ·exact H.inv.but H.fr.mi.1 H.fr.mi.2 (λb ob nb e=>(hs'.2 b nb).trans e)
 ·have oth: ∀b ob,b≠env.locals->s.heap.get? b=some ob->h'.get? b=some ob:=λb ob nb e=>(hs'.2 b nb).trans e;refine⟨H.fr.scope,H.fr.globals,H.fr.builtins,H.fr.ok,⟨_,hn',λj y u hj hu=> ?_⟩,λj y hj=> ?_,H.fr.mi,λy a hy=> ?_,H.fr.iQ,⟨o',es',n',hg,hc'▸hcl,hd'⟩,?_⟩
  ·by_cases hy:y=x
   ·subst hy;have ij:=jb (cQ.nodup H.fr.ok) hi hj;subst ij;rw [aF rfl];rw [List.getElem?_set_self']at hu;refine i12 r rfl ?_;cases z:ms[i]? with
    | none=>rw [z]at hu;exact dF hu
    | some _=>rw [z]at hu;simp at hu;subst hu;exact q
   ·rw [ay hy];have ij:i≠j:=λe=>by subst e;rw [hi]at hj;cases hj;exact hy rfl
    rw [Fd ij]at hu;exact hm j y u hj hu
  ·obtain⟨a,ov,h1,⟨oc,h2,h3⟩,h4⟩:=H.fr.cells j y hj;refine⟨a,ov,h1,⟨oc,oth a oc (H.fr.mZ y a (mem_of_lookup h1)).no h2,h3⟩,λu hu=>h4 u ?_⟩;have ij:i≠j:=λe=>by subst e;rw [hi]at hj;cases hj
   rwa [Fd ij]at hu
  ·obtain⟨h1,h2,h3,ov,oc,h4,h5,h6⟩:=H.fr.mZ y a hy;exact⟨h1,h2,h3,ov,oc,oth a oc h3 h4,h5,h6⟩
  ·obtain⟨fenv,rest,L,h1,h2,h3,h4,h5,h6,h7⟩:=H.fr.pE;refine⟨fenv,rest,L,h1,h2,h3,h4,h5,h6,?_⟩;refine aP h7 (λw=>?_) λz=>?_
   ·rcases w with⟨rfl,IX,G0,LY,g2,c2,_⟩
    rw [ho]at g2;cases g2;exact .inl ⟨rfl,o',es',n',hg,hc'.trans c2,hd'⟩
   ·exact .inr z
theorem fW {Q:Unit->Shared->Prop} (hi:sc.names[i]? =some (x,NameKind.local)) (H:At C sc A W env ms Z s) (q:aw W v r)
  (h: ∀s',At C sc A W env (ms.set i (some v)) Z s'->Q () s'):wpAny C.M A' (storeName env x r) Q No s:=lK hi H q λs' H' u=>h s' H'
theorem k7 {Q:Unit->Shared->Prop} (hi:sc.names[i]? =some (x,NameKind.cell)) (H:At C sc A W env ms Z s) (q:aw W v r)
  (h: ∀s',At C sc A W env (ms.set i (some v)) Z s'->Q () s'):wpAny C.M A' (storeName env x r) Q No s:=by
 obtain⟨a,ov,hc,⟨o,ho,hd⟩,hm⟩:=H.fr.cells i x hi;obtain⟨OV,OW,Nd,ov',IX,ho2,hd2,LZ⟩:=H.fr.mZ x a (mem_of_lookup hc);rw [ho]at ho2;obtain rfl:=dI ho2;have hk:env.scope.kind= .function:=by rw [H.fr.scope];exact cQ.kind H.fr.ok
 have hl:env.kindOf x=some .cell:=by delta Env.kindOf;rw [H.fr.scope];exact bK (cQ.nodup H.fr.ok) hi
 delta storeName;simp only [hl,hk];refine aj (wpAny_cellOf hc ?_);refine aj (wpAny_load ho ?_);rw [hd];refine wpAny_update ho (h _ ⟨?_,?_⟩)
 ·exact H.inv.but OV OW (λb ob nb e=>(nu _ _ (f7 nb)).trans e)
 ·have oth: ∀b ob,b≠a->s.heap.get? b=some ob->(s.heap.update a λo=>{o with data:= .cell (some r)}).get? b=some ob:=λb ob nb e=>(nu _ _ (f7 nb)).trans e;have here:(s.heap.update a λo=>{o with data:= .cell (some r)}).get? a=some {o with data:= .cell (some r)}:=jt (λo=>{o with data:= .cell (some r)}) ho rfl;obtain⟨mr,⟨oL,es,ep,h1,h2,h3,h4⟩,hv⟩:=H.fr.ns;refine⟨H.fr.scope,H.fr.globals,H.fr.builtins,H.fr.ok,⟨mr,⟨oL,es,ep,oth _ _ (f7 Nd) h1,h2,h3,h4⟩,λj y u hj hu=>hv j y u hj ?_⟩,λj y hj=> ?_,H.fr.mi,λy b hy=> ?_,H.fr.iQ,?_,?_⟩
  ·have ij:i≠j:=λe=>by subst e;rw [hi]at hj;cases hj
   rwa [Fd ij]at hu
  ·obtain⟨b,ob,g1,⟨oc,g2,g3⟩,g4⟩:=H.fr.cells j y hj;by_cases hy:y=x
   ·subst hy;have ij:=jb (cQ.nodup H.fr.ok) hi hj;subst ij;refine⟨a,some r,hc,⟨_,here,rfl⟩,λu hu=>⟨r,rfl,?_⟩⟩;rw [List.getElem?_set_self']at hu;cases z:ms[i]? with
    | none=>rw [z]at hu;exact dF hu
    | some _=>rw [z]at hu;simp at hu;subst hu;exact q
   ·have nb:b≠a:=λe=>hy (H.fr.iQ y x a (e▸mem_of_lookup g1) (mem_of_lookup hc));refine⟨b,ob,g1,⟨oc,oth _ _ nb g2,g3⟩,λu hu=>g4 u ?_⟩;have ij:i≠j:=λe=>by subst e;rw [hi]at hj;cases hj;exact hy rfl
    rwa [Fd ij]at hu
  ·obtain⟨g1,g2,g3,Nf,oc,g4,g5,g6⟩:=H.fr.mZ y b hy;by_cases nb:b=a
   ·subst nb;rw [ho]at g4;cases g4;exact⟨g1,g2,g3,some r,_,here,rfl,g6⟩
   ·exact⟨g1,g2,g3,Nf,oc,oth _ _ nb g4,g5,g6⟩
  ·obtain⟨oL,es,n,g1,g2,g3⟩:=H.fr.jc;exact⟨oL,es,n,oth _ _ (f7 Nd) g1,g2,g3⟩
  ·obtain⟨fenv,rest,L,g1,g2,g3,g4,g5,g6,g7⟩:=H.fr.pE;refine⟨fenv,rest,L,g1,g2,g3,g4,g5,g6,?_⟩;refine aP g7 (λw=>?_) λz=>?_
   ·rcases w with⟨rfl,IX,G0,LY,e1,e2,e3⟩
    exact .inl ⟨rfl,IX,G0,LY,oth _ _ (f7 Nd) e1,e2,e3⟩
   ·exact .inr z
theorem CM (hi:sc.names[i]? =some (x,NameKind.local)):As C k sc ms Z (.Name x pos) v (ms.set i (some v)) Z:=by intro A W env s r hr H q;rw [arm_assign_Name];exact aj (cF (xv (fW hi H q λs' H'=>bz (.refl W) H' trivial)))
theorem FG (hi:sc.names[i]? =some (x,NameKind.cell)):As C k sc ms Z (.Name x pos) v (ms.set i (some v)) Z:=by intro A W env s r hr H q;rw [arm_assign_Name];exact aj (cF (xv (k7 hi H q λs' H'=>bz (.refl W) H' trivial)))
end
end V
end
section
namespace V
mutual
noncomputable def AV.In (D:Loc->Prop):AV->Prop
 | .loc l=>D l
 | .mw _ l=>D l
 | .bm _ l=>D l
 | .AB a b c=>AV.In D a/\AV.In D b/\AV.In D c
 | .fld _ xs=>AV.mh D xs
 | .tup xs=>AV.mh D xs
 | .lst xs=>AV.mh D xs
 | _=>True
noncomputable def AV.mh (D:Loc->Prop):List AV->Prop
 | []=>True
 | x::xs=>AV.In D x/\AV.mh D xs
end
noncomputable def AO.In (D:Loc->Prop):AO->Prop
 | .list xs=>AV.mh D xs
 | .dict es=> ∀p∈es,AV.In D p.2
 | .map es _=> ∀p∈es,AV.In D p.2
 | .set _=>True
 | .inst _ d=>D d
 | .slots _ d vs=>D d/\ ∀x,some x∈vs->AV.In D x
 | .junk=>True
 | .exc _ xs=>AV.mh D xs
 | .iter l _=>D l
mutual
theorem aw.dq: ∀{x:AV} {v:Value},aw W x v->x.In λl=>(W.ρ l).isSome=true
 | .none,_,_=>trivial
 | .any,_,_=>trivial
 | .bool _,_,_=>trivial
 | .int _,_,_=>trivial
 | .str _,_,_=>trivial
 | .bytes _,_,_=>trivial
 | .ty _,_,_=>trivial
 | .bi _,_,_=>trivial
 | .ext _,_,_=>trivial
 | .loc _,_,q=>by refine c12 q λa e _=>?_;clear q;refine(?_:(W.ρ _).isSome=true);rw [e];rfl
 | .mw _ _,_,q=>by refine tC q λa _ _ e _=>?_;clear q;refine(?_:(W.ρ _).isSome=true);rw [e];rfl
 | .bm _ _,_,q=>by refine tC q λa _ _ e _=>?_;clear q;refine(?_:(W.ρ _).isSome=true);rw [e];rfl
 | .AB _ _ _,_,q=>by refine Eo q λ_ _ _ _ _ _ _ _ z=>kD z λ_ k1 k2 k3=>?_;exact m9 (aw.dq k1) (aw.dq k2) (aw.dq k3)
 | .fld _ _,_,q=>by obtain⟨_,_,_,_,_,_,_,k⟩:=q;exact aU.dq k
 | .tup _,_,q=>by refine xr q λ_ _ _ _ _ _ _ _ k=>?_;exact aU.dq k
 | .lst _,_,q=>by refine xr q λ_ _ _ _ _ _ _ _ k=>?_;exact aU.dq k
theorem aU.dq: ∀{x:List AV} {v:List Value},aU W x v->AV.mh (λl=>(W.ρ l).isSome=true) x
 | [],_,_=>trivial
 | _::_,_,q=>by refine fq q λ_ _ _ a b=>⟨aw.dq a,aU.dq b⟩
end
mutual
theorem AV.In.mono {D D':Loc->Prop} (h: ∀l,D l->D' l): ∀{x:AV},x.In D->x.In D'
 | .none,_=>trivial
 | .any,_=>trivial
 | .bool _,_=>trivial
 | .int _,_=>trivial
 | .str _,_=>trivial
 | .bytes _,_=>trivial
 | .ty _,_=>trivial
 | .bi _,_=>trivial
 | .ext _,_=>trivial
 | .loc l,q=>h l q
 | .mw _ l,q=>h l q
 | .bm _ l,q=>h l q
 | .AB _ _ _,q=>by exact m9 (AV.In.mono h q.1) (AV.In.mono h q.2.1) (AV.In.mono h q.2.2)
 | .fld _ _,q=>by exact AV.mh.mono h q
 | .tup _,q=>by exact AV.mh.mono h q
 | .lst _,q=>by exact AV.mh.mono h q
theorem AV.mh.mono {D D':Loc->Prop} (h: ∀l,D l->D' l): ∀{x:List AV},AV.mh D x->AV.mh D' x
 | [],_=>trivial
 | _::_,q=>by exact⟨AV.In.mono h q.1,AV.mh.mono h q.2⟩
end
structure Cut (W W':Wd) (D:Loc->Prop):Prop where
 ρ: ∀l a,D l->W.ρ l=some a->W'.ρ l=some a
 fz: ∀a o,W.fz a=some o->W'.fz a=some o
mutual
theorem aw.cut {D:Loc->Prop} (h:Cut W W' D): ∀{x:AV} {v:Value},aw W x v->x.In D->aw W' x v
 | .none,_,q,_=>q
 | .any,_,_,_=>trivial
 | .bool _,_,q,_=>q
 | .int _,_,q,_=>q
 | .str _,_,q,_=>q
 | .bytes _,_,q,_=>q
 | .ty _,_,q,_=>q
 | .bi _,_,q,_=>q
 | .ext _,_,q,_=>q
 | .loc _,_,q,d=>by refine c12 q λa e r=>i12 a (h.1 _ _ d e) r
 | .mw _ _,_,q,d=>by refine AE q λa b o e r f z=>JD a b o (h.1 _ _ d e) r (h.2 _ _ f) z
 | .bm _ _,_,q,d=>by refine AE q λa b o e r f z=>JD a b o (h.1 _ _ d e) r (h.2 _ _ f) z
 | .AB _ _ _,_,q,d=>by refine Eo q λb o vx vy vz r f z u=>kD u λy k1 k2 k3=>⟨b,o,vx,vy,vz,r,h.2 _ _ f,z,y,aw.cut h k1 d.1,aw.cut h k2 d.2.1,aw.cut h k3 d.2.2⟩
 | .fld _ _,_,q,d=>by obtain⟨c,b,o,vs,r,f,z,k⟩:=q;exact⟨c,b,o,vs,r,h.2 _ _ f,z,aU.cut h k d⟩
 | .tup _,_,q,d=>by refine xr q λa o vs n r f z1 z2 k=>v7 a o vs n r (h.2 _ _ f) z1 z2 (aU.cut h k d)
 | .lst _,_,q,d=>by refine xr q λa o vs n r f z1 z2 k=>v7 a o vs n r (h.2 _ _ f) z1 z2 (aU.cut h k d)
theorem aU.cut {D:Loc->Prop} (h:Cut W W' D): ∀{x:List AV} {v:List Value},aU W x v->AV.mh D x->aU W' x v
 | [],_,q,_=>q
 | _::_,_,q,d=>by refine fq q λv r e k ks=>jE v r e (aw.cut h k d.1) (aU.cut h ks d.2)
end
theorem gk.cut {D:Loc->Prop} (h:Cut W W' D): ∀{es:List (Str×AV)} {ds:List DictEntry},gk C W es ds->(∀p∈es,AV.In D p.2)->gk C W' es ds:=by
 intro aH;induction aH with
 | nil=>intro u q w;exact q
 | cons dQ _ ih=>intro u q d;obtain⟨_,_⟩:=dQ;refine lN q λt v ds' e k ks=>zD t v ds' e (aw.cut h k (d _ (.head _))) (ih ks λp hp=>d p (.tail _ hp))
theorem bu.cut {D:Loc->Prop} (h:Cut W W' D): ∀{es:List (Option AV)} {ds:List (Option Value)},bu W es ds->(∀x,some x∈es->AV.In D x)->bu W' es ds:=by
 intro aH;induction aH with
 | nil=>intro u q w;exact q
 | cons gd _ ih=>
  cases gd with
  | none=>intro u q d;refine c12 q λds' e ks=>i12 ds' e (ih ks λx hx=>d x (.tail _ hx))
  | some _=>intro u q d;refine fq q λv ds' e k ks=>jE v ds' e (aw.cut h k (d _ (.head _))) (ih ks λx hx=>d x (.tail _ hx))
theorem fj.cut {D:Loc->Prop} (h:Cut W W' D) (q:fj C W o ob) (d:o.In D):fj C W' o ob:=by
 cases o with
 | list xs=>obtain⟨a,vs,n,b,c⟩:=q;exact⟨a,vs,n,b,c.cut h d⟩
 | dict es=>refine v8 q λds n e r=>?_;exact GP ds n e (r.cut h d)
 | map es n=>refine c12 q λds e r=>?_;exact i12 ds e (r.cut h d)
 | set xs=>exact q
 | inst c l=>refine c12 q λdx e r=>?_;exact i12 dx (h.1 _ _ d e) r
 | slots c l vs=>refine fq q λdx sl ed e r=>?_;exact jE dx sl (h.1 _ _ d.1 ed) e (r.cut h d.2)
 | junk=>trivial
 | exc n xs=>obtain⟨hn,c,vs,t,dd,z,q⟩:=q;exact⟨hn,c,vs,t,dd,z,q.cut h (d)⟩
 | iter l i=>refine c12 q λa e r=>?_;exact i12 a (h.1 _ _ d e) r
theorem gk.dq: ∀{es:List (Str×AV)} {ds:List DictEntry},gk C W es ds-> ∀p∈es,AV.In (λl=>(W.ρ l).isSome=true) p.2
 | (_,_)::_,_,q,p,hp=>by
  refine lN q λt v ds' e k ks=>?_;clear q;cases hp with
  | head=>exact k.dq
  | tail _ hp=>exact gk.dq ks p hp
theorem bu.dq: ∀{es:List (Option AV)} {ds:List (Option Value)},bu W es ds-> ∀x,some x∈es->AV.In (λl=>(W.ρ l).isSome=true) x
 | none::_,_,q,x,hx=>by
  refine c12 q λds' e ks=>?_;clear q;cases hx with
  | tail _ hx=>exact bu.dq ks x hx
 | some _::_,_,q,x,hx=>by
  refine fq q λv ds' e k ks=>?_;clear q;cases hx with
  | head=>exact k.dq
  | tail _ hx=>exact bu.dq ks x hx
theorem fj.dq (q:fj C W o ob):o.In λl=>(W.ρ l).isSome=true:=by
 cases o with
 | list xs=>obtain⟨_,_,_,_,c⟩:=q;exact c.dq
 | dict es=>refine v8 q λ_ _ _ r=>?_;clear q;exact r.dq
 | map es n=>refine c12 q λ_ _ r=>?_;clear q;exact r.dq
 | set xs=>trivial
 | inst c l=>refine c12 q λdx e _=>?_;clear q;refine(?_:(W.ρ l).isSome=true);rw [e];rfl
 | slots c l vs=>refine fq q λdx _ e _ r=>?_;clear q;exact⟨by refine(?_:(W.ρ l).isSome=true);rw [e];rfl,r.dq⟩
 | junk=>trivial
 | exc n xs=>obtain⟨hn,c,vs,t,d,z,q⟩:=q;have:=q.dq;exact this
 | iter l i=>refine c12 q λa e _=>?_;clear q;refine(?_:(W.ρ l).isSome=true);rw [e];rfl
noncomputable def Wd.only (W:Wd) (τ:St):Wd:=⟨λl=>if(τ l).isSome then W.ρ l else none,W.fz⟩
theorem Wd.i0 (W:Wd) (τ:St):Cut W (W.only τ) λl=>(τ l).isSome=true:=⟨λl a d e=>by
 refine(?_:(if(τ l).isSome then W.ρ l else none)=some a);rw [aF d];exact e,λu v e=>e⟩
theorem Wd.si {W W':Wd} {τ:St} (le:W.le W') (h: ∀l,(W.ρ l).isSome=true->(τ l).isSome=true):W.le (W'.only τ):=
 ⟨λl a e=>(W'.i0 τ).1 l a (h l (by rw [e];rfl)) (le.1 _ _ e),λa o e=>le.2 _ _ e⟩
theorem Inv.only (I:Inv C W Z s) (hs: ∀l o,τ l=some o->Z l=some o) (hc: ∀l o,τ l=some o->o.In λl=>(τ l).isSome=true):Inv C (W.only τ) τ s:=by
 have sub: ∀{l a},(W.only τ).ρ l=some a->W.ρ l=some a/\(τ l).isSome=true:=λ{l a} e=>by
  have e:(if(τ l).isSome then W.ρ l else none)=some a:=e;split at e
  ·rename_i h;exact⟨e,h⟩
  ·exact dF e
 refine⟨λl=> ?_,λl l' a e e'=>I.inj l l' a (sub e).1 (sub e').1,λl a o e q=> ?_,λl a e=>I.apart l a (sub e).1,I.fz,I.kept,I.base,I.gens,I.os,I.pos,I.high.1,λl a e=>I.high.2 _ _ (sub e).1⟩
 ·refine(?_:(if(τ l).isSome then W.ρ l else none).isSome=(τ l).isSome);cases q:τ l with
  | none=>rfl
  | some o=>simp only [Option.isSome_some,if_true];rw [I.dom l,hs l o q];rfl
 ·refine c12 (I.obj l a o (sub e).1 (hs l o q)) λob h1 h2=>i12 ob h1 (h2.cut (W.i0 τ) (hc l o q))
theorem Inv.freeze (I:Inv C W Z s) (hl:Z l=some (.list xs)) (ht:τ l=none) (hs: ∀l o,τ l=some o->Z l=some o)
  (hc: ∀l o,τ l=some o->o.In λl=>(τ l).isSome=true) (hx:AV.mh (λl=>(τ l).isSome=true) xs) (hv:aw W (.loc l) v):
  ∃W',Cut W W' (λl=>(τ l).isSome=true)/\Inv C W' τ s/\aw W' (.lst xs) v:=by
 have I':=I.only hs hc;refine uh hv λa e=>c12 (I.obj l a _ e hl) λob h1 h2=>?_;obtain⟨c1,vs,n,c2,c3⟩:=h2;have n2: ∀x,(W.only τ).ρ x≠some a:=λx q=>by
  have q:(if(τ x).isSome then W.ρ x else none)=some a:=q;split at q
  ·rename_i h;have:=I.inj x l a q e;subst this;rw [ht]at h;exact tK h
  ·exact dF q
 have n1:(W.only τ).fz a=none:=I.apart l a e;refine bI (I'.f6 (h:=s.heap) (t:=s.toks) (d:=s.drawn) n1 n2 (λ_ _ q=>q) h1) λle I2=>?_;have cut:Cut W ((W.only τ).freeze a ob) (λl=>(τ l).isSome=true):=⟨λx b d q=>(W.i0 τ).1 x b d q,λx o q=>le.2 _ _ q⟩;refine tZ _ cut I2 ?_;refine v7 a ob vs n rfl ?_ c1 c2 (c3.cut cut hx);refine(?_:(if a=a then some ob else _)=_);rw [aF rfl]
theorem rT: ∀(n:Nat) (l:List Nat),l.Nodup->(∀a∈l,a<n)->l.length<=n
 | 0,[],_,_=>bT _
 | 0,a::_,_,h=>absurd (h a (.head _)) (Nat.not_lt_zero _)
 | n+1,l,hn,h=>by
  by_cases hm:n∈l
  ·have:=rT n (l.erase n) (hn.erase n) λa ha=>by
    have h1:=h a (List.mem_of_mem_erase ha);have h2:a≠n:=λe=>by subst e;exact(List.Nodup.not_mem_erase hn) ha
    omega
   rw [List.length_erase_of_mem hm]at this;omega
  ·have:=rT n l hn λa ha=>by have h1:=h a ha;have h2:a≠n:=λe=>hm (e▸ha);omega
   omega
theorem Inv.free (I:Inv C W Z s): ∃n,∀l:Loc,n<=l.tag->Z l=none:=by
 apply DW;intro h;have h: ∀n,∃l:Loc,n<=l.tag/\(Z l).isSome=true:=λn=>DW λq=>h ⟨n,λl hl=>by
  cases z:Z l with
  | none=>rfl
  | some o=>exact(q ⟨l,hl,by rw [z];rfl⟩).elim⟩
 have many: ∀m,∃ls:List Loc,ls.length=m/\ls.Nodup/\ ∀l∈ls,(Z l).isSome=true:=by
  intro m
  induction m with
  | zero=>exact tZ ([]) rfl pV λu h=>(nomatch h)
  | succ m ih=>
   refine fJ ih λls h1 h2 h3=>?_;clear ih;refine c12 (h ((ls.map (·.tag)).sum+1)) λl h4 h5=>tZ (l::ls) (by simp [h1]) (hH.mpr ⟨λhm=> ?_,h2⟩) λx hx=> ?_
   ·have:l.tag<=(ls.map (·.tag)).sum:=by
     clear h1 h2 h3 h4 h5
     induction ls with
     | nil=>exact je hm
     | cons y r ih=>
      rw [dj,List.sum_cons];cases hm with
      | head=>omega
      | tail _ hm=>have:=ih hm;omega
    omega
   ·cases hx with
    | head=>exact h5
    | tail _ hx=>exact h3 x hx
 refine fJ (many (s.heap.objs.size+1)) λls h1 h2 h3=>?_;have addr: ∀l∈ls,∃a,W.ρ l=some a/\a<s.heap.objs.size:=λl hl=>by have d:=I.dom l;rw [h3 l hl]at d;refine cG (vB.mp d) λa e=>cG (vB.mp (h3 l hl)) λo q=>c12 (I.obj l a o e q) λob z _=>i12 a e (ig z)
 have inj:((ls.map λl=>(W.ρ l).getD 0)).Nodup:=by
  clear h1
  induction ls with
  | nil=>exact pV
  | cons y r ih=>rw [hH]at h2;rw [dj,hH];refine⟨λhm=> ?_,ih h2.2 (λl hl=>h3 l (.tail _ hl)) (λl hl=>addr l (.tail _ hl))⟩;refine c12 (bM.mp hm) λz hz e=>c12 (addr y (.head _)) λa ea _=>c12 (addr z (.tail _ hz)) λb eb _=>?_;rw [ea,eb]at e;have e:b=a:=e;subst e;exact h2.1 (I.inj y z b ea eb▸hz)
 have:=rT s.heap.objs.size _ inj λa ha=>by refine kK (bM.mp ha) λl hl=>c12 (addr l hl) λb eb lt=>?_;rw [eb];exact lt
 rw [bw,h1]at this;omega
end V
end
section
namespace V
section
variable {C:Cx} {k:Nat} {sc:Scope} {A:Around} {W:Wd} {env:Env} {ms ai aZ aK:List (Option AV)} {Z ae aN aB:St} {s:Shared}
theorem getElem?_replicate_none {n i:Nat} {v:AV} (h:(List.replicate n (none:Option AV))[i]? =some (some v)):False:=by
 rw [List.getElem?_replicate]at h;split at h<;>cases h
theorem kJ: ∀(names:List (Str×NameKind)) (h:Heap) (acc:List (Str×Addr)) (x:Str) (a:Addr),
  (x,a)∈cellsFrom h.objs.size names acc->(x,a)∈acc\/(h.objs.size<=a/\(pushCells h names).get? a=some {cls:= .type "cell",data:= .cell none}):=by
 intro aH;induction aH with
 | nil=>exact λ_ _ _ _ hm=> .inl hm
 | cons dQ r ih=>
  exact λh acc x a hm=>by
   obtain⟨n,kind⟩:=dQ;unfold cellsFrom at hm;unfold pushCells;split at hm
   ·rename_i hk;rw [aF hk];have e:(h.push {cls:= .type "cell",data:= .cell none}).objs.size=h.objs.size+1:=nB ..;rw [<-e]at hm;refine aP (ih _ _ x a hm) (λq=>?_) λz=>bI z λq1 q2=>?_
    ·refine aP (cM.mp q) (λq=>?_) λq=>?_
     ·cases q;exact .inr ⟨bT _,wd r _ _ _ (dZ _ rfl)⟩
     ·exact .inl q
    ·exact .inr ⟨by omega,q2⟩
   ·rename_i hk;rw [ay hk];exact ih h acc x a hm
theorem sW {A':Around} {binds:List (Str×Value)} {bs:List (Str×AV)} {qual:Str} {fa:Addr} {code:Value} {outer:List Env} (hok:cQ sc=true) (I:Inv C W Z s) (hA:A.frames=some outer) (hS:tm C W outer)
  (hb:bC W bs binds) (hms:(sc.names.take bs.length).map (·.1)=bs.map (·.1)) (hkind: ∀p∈sc.names.take bs.length,p.2= .local\/p.2= .cell) {Q:Env->Shared->Prop}
  (hQ: ∀env s',At C sc (A.deeper env) W env (bs.map (λp=>some p.2)++List.replicate (sc.names.length - bs.length) none) Z s'->Q env s'):
  wpAny C.M A' (newFunctionEnv sc mainGlobals [] binds qual (some fa) code none builtinsNs) Q No s:=by
 simp only [newFunctionEnv,Option.isSome_none,iO,jh];refine aj (wpAny_alloc ?_);refine aj (wpAny_layCells _ (λname kind cells=>by cases hkc:kind==NameKind.cell<;>simp [hkc]) _ _ _ _ ?_);generalize hfr:({cls:= .type "frame",data:= .dict #[]}:Obj)=fo;have ok:=cellsFrom_ok sc.names (s.heap.push fo) (s.heap.objs.size+1) [] ⟨λg m hm=>(nomatch hm),List.Pairwise.nil⟩ (by rw [nB];exact bT _);have cls:=kJ sc.names (s.heap.push fo) [];have none_:=cellsFrom_names;generalize hcells:cellsFrom (s.heap.push fo).objs.size sc.names []=cells at ok cls⊢;have keep: ∀b o,s.heap.get? b=some o->(pushCells (s.heap.push fo) sc.names).get? b=some o:=λb o e=>wd _ _ b o (mG _ e);have hL:(pushCells (s.heap.push fo) sc.names).get? s.heap.objs.size=some fo:=wd _ _ _ _ (dZ _ (by rw [<-hfr];rfl));generalize henv:({scope:=sc,locals:=s.heap.objs.size,globals:=mainGlobals,cells:=cells,qual:=qual,func:=some fa,code:=code,frame:=some s.heap.objs.size,builtins:=builtinsNs}:Env)=env;have above: ∀b,s.heap.objs.size<=b->W.fz b=none/\ ∀l,W.ρ l≠some b:=λb hb=>by
  refine⟨?_,λl e=> ?_⟩
  ·cases q:W.fz b with
   | none=>rfl
   | some o=>refine c12 (I.fz b o q) λo' z _=>?_;exact absurd (sP (ig z) hb) (iN _)
  ·have d:=I.dom l;rw [e]at d;cases q:Z l with
   | none=>rw [q]at d;exact zi d
   | some o=>refine c12 (I.obj l b o e q) λob z _=>?_;exact absurd (sP (ig z) hb) (iN _)
 have hlook: ∀(x:Str),(x,NameKind.cell)∈sc.names-> ∃a,cells.lookup x=some a:=λx hx=>by
  have:=cellsFrom_some (x:=x) sc.names (s.heap.push fo).objs.size [] (.inl (by
   refine cG (ui hx) λi hi=>?_;exact bK (cQ.nodup hok) hi))
  rw [hcells]at this;exact vB.mp this
 have start:At C sc (A.deeper env) W env (List.replicate sc.names.length none) Z {s with heap:=pushCells (s.heap.push fo) sc.names}:=by
  refine⟨I.same keep,?_⟩;subst henv;refine⟨rfl,rfl,rfl,hok,⟨λg=>none,?_,λi x v g h=>(getElem?_replicate_none h).elim⟩,λi x hx=> ?_,above _ (bT _),λx a hm=> ?_,λx y a hx hy=>name_of_addr ok.apart hx hy,⟨fo,#[],0,hL,.inl ⟨by rw [<-hfr],rfl⟩,by rw [<-hfr]⟩,?_⟩
  ·subst hfr;exact(Heap.Ns.new s.heap (.type "frame")).keeps (wd _ _)
  ·refine cG (hlook x (ik hx)) λa ha=>⟨a,none,ha,(ok.empty x a (mem_of_lookup ha)).1,λv h=>(getElem?_replicate_none h).elim⟩
  ·refine aP (cls x a (hcells▸hm)) (λq=>?_) λk=>bI k λq1 q2=>?_
   ·exact je q
   ·rw [nB]at q1;refine bI (above a (zq q1)) λu1 u2=>⟨u1,u2,λ(z:a=s.heap.objs.size)=>absurd (z▸q1) (Nat.not_succ_le_self _),none,_,q2,rfl,rfl⟩
  ·refine⟨_,outer,s.heap.objs.size,(?_:_=some ({scope:=sc,locals:=s.heap.objs.size,globals:=mainGlobals,cells:=cells,qual:=qual,func:=some fa,code:=code,frame:=some s.heap.objs.size,builtins:=builtinsNs}::outer)),hS,?_,rfl,rfl,?_,.inl ⟨rfl,fo,#[],0,hL,by rw [<-hfr],by rw [<-hfr]⟩⟩
   ·refine(?_:A.frames.map _=_);rw [hA];rfl
   ·refine(?_:sc.kind≠ .module);rw [cQ.kind hok];decide
   ·exact I.mS (above _ (bT _)).1
 refine aj ?_;have go: ∀(j:Nat) (b:List (Str×AV)) (r:List (Str×Value)) (s':Shared) (ms:List (Option AV)),bC W b r->ms.length=sc.names.length->(∀(i:Nat) (y:Str×AV),b[i]? =some y-> ∃kd,sc.names[j+i]? =some (y.1,kd)/\(kd= .local\/kd= .cell))->
   At C sc (A.deeper env) W env ms Z s'-> ∀(f:Str×Value->PUnit->Sem (ForInStep PUnit)),(∀n v u,f (n,v) u=(do storeName env n v;pure (.yield ⟨⟩)))->
   ∀(P:PUnit->Shared->Prop),(∀s'',At C sc (A.deeper env) W env (ms.take j++b.map (λp=>some p.2)++ms.drop (j+b.length)) Z s''->P ⟨⟩ s'')->wpAny C.M A' (forIn r ⟨⟩ f) P No s':=by
  intro j b
  induction b generalizing j with
  | nil=>intro r s' ms hb hl hk H f hf P hP;subst hb;rw [vL];refine aQ (hP _ ?_);simpa using H
  | cons y b ih=>
   intro r s' ms hb hl hk H f hf P hP;obtain⟨n,x⟩:=y;refine gB hb λv r' hx hb'=>?_;rw [nv,hf];refine c12 (hk 0 (n,x) rfl) λkd hj hkd=>?_;have hj:sc.names[j]? =some (n,kd):=hj;have hjl:j<ms.length:=by rw [hl];exact(lF.mp hj).1
   have next: ∀s'',At C sc (A.deeper env) W env (ms.set j (some x)) Z s''->wpAny C.M A' (forIn r' ⟨⟩ f) P No s'':=λs'' v9=>by
    refine ih (j+1) r' s'' (ms.set j (some x)) hb' (by rw [List.length_set];exact hl) (λi y hy=> ?_) v9 f hf P λbt br=>hP bt ?_
    ·refine c12 (hk (i+1) y hy) λOX e z=>?_;exact i12 OX (by rw [<-e];congr 1;omega) z
    ·have e1:(ms.set j (some x)).take (j+1)=ms.take j++ [some x]:=by rw [DR,List.take_set_of_le (bT _),List.getElem?_set_self hjl];rfl
     have e2:(ms.set j (some x)).drop (j+1+b.length)=ms.drop (j+(b.length+1)):=by
      rw [List.drop_set_of_lt (by omega)];congr 1;omega
     rw [e1,e2]at br;simpa [eX]using br
   refine aP hkd (λt=>?_) λw=>?_
   ·subst t;exact aj (aj (fW hj H hx λs'' v9=>aQ (next s'' v9)))
   ·subst w;exact aj (aj (k7 hj H hx λs'' v9=>aQ (next s'' v9)))
 refine go 0 bs binds _ _ hb (by rw [List.length_replicate]) (λi y hy=> ?_) start _ (λg m v1=>by rw [<-henv]) _ λs'' v9=> ?_
 ·have hlen:i<bs.length:=(lF.mp hy).1;have e:((sc.names.take bs.length).map (·.1))[i]? =some y.1:=by rw [hms,gr,hy];rfl
  rw [gr,Fx hlen]at e;cases q:sc.names[i]? with
  | none=>rw [q]at e;exact dF e
  | some p=>
   rw [q]at e;have e:p.1=y.1:=dI e;refine i12 p.2 (by rw [oU,q,<-e]) (hkind p ?_);have:(sc.names.take bs.length)[i]? =some p:=by rw [Fx hlen];exact q
   exact ik this
 ·refine aQ (hQ env s'' ?_);have e:List.drop (0+bs.length) (List.replicate sc.names.length (none:Option AV))=List.replicate (sc.names.length - bs.length) none:=by rw [oU,List.drop_replicate]
  rw [e]at v9;simpa using v9
noncomputable def Bd (C:Cx) (k:Nat) (fd:FuncData) (Z:St) (as:List AV) (kw:List (Str×AV)) (bs:List (Str×AV)) (aB:St):Prop:=
 ∀W df fp,aU W as df->bC W kw fp->Op C k W Z (bindArgs fd ⟨df,fp⟩) (λW r=>bC W bs r) aB
noncomputable def Exit (Z cP:St) (f:AF) (v:AV) (aB:St):Prop:=
 (∀l o,aB l=some o->cP l=some o)/\(∀l,(Z l).isSome=true->(aB l).isSome=true)/\(∀l o,aB l=some o->Z l=some o\/o.In λl=>(aB l).isSome=true)/\
 ((f= .ret v/\v.In λl=>(aB l).isSome=true)\/(∃l xs,f= .ret (.loc l)/\v= .lst xs/\cP l=some (.list xs)/\aB l=none/\AV.mh (λl=>(aB l).isSome=true) xs)\/(f= .next/\v= .none))
noncomputable def Kg:Flow->Value
 | .ret r=>r
 | _=> .none
theorem Exit.go (ex:Exit Z cP f v aB) (I4:Inv C Ea Z I5) (le:Ea.le W) (I:Inv C W cP s) (hf:bQ W f fl):
  ∃W',Ea.le W'/\Inv C W' aB s/\aw W' v (Kg fl):=by
 refine kD ex λh1 h2 h3 h4=>?_;clear ex;have closed: ∀l o,aB l=some o->o.In λl=>(aB l).isSome=true:=λl o e=>by
  refine aP (h3 l o e) (λq=>?_) λq=>?_
  ·refine fq (I4.at q) λa ob e1 e2 e3=>?_;have:=e3.dq;exact(show∀{o:AO},(o.In λl=>(Ea.ρ l).isSome=true)->o.In λl=>(aB l).isSome=true from λ{o} z=>by
    have m: ∀l,(Ea.ρ l).isSome=true->(aB l).isSome=true:=λl q=>h2 l (by rw [<-I4.dom l];exact q);cases o with
    | list xs=>exact AV.mh.mono m z
    | dict es=>exact λp hp=>(z p hp).mono m
    | map es n=>exact λp hp=>(z p hp).mono m
    | set xs=>trivial
    | inst c d=>exact m d z
    | slots c d vs=>exact⟨m d z.1,λx hx=>(z.2 x hx).mono m⟩
    | junk=>trivial
    | exc n xs=>exact AV.mh.mono m z
    | iter l i=>exact m l z) this
  ·exact q
 have dom: ∀l,(Ea.ρ l).isSome=true->(aB l).isSome=true:=λl q=>h2 l (by rw [<-I4.dom l];exact q);rcases h4 with⟨rfl,hv⟩ | ⟨l,xs,rfl,rfl,hl,hn,hx⟩ | ⟨rfl,rfl⟩
 ·refine yu hf λr q=>tZ (W.only aB) (Wd.si le dom) (I.only h1 closed) (q.cut (W.i0 aB) hv)
 ·refine yu hf λr q=>fJ (I.freeze hl hn h1 closed hx q) λW' cut I' z=>?_;exact tZ W' ⟨λl a e=>cut.1 l a (dom l (by rw [e];rfl)) (le.1 _ _ e),λa o e=>cut.2 _ _ (le.2 _ _ e)⟩ I' z
 ·delta bQ at hf;subst hf;exact tZ (W.only aB) (Wd.si le dom) (I.only h1 closed) rfl
structure Fn (C:Cx) (fa:Addr) (fd:FuncData) (body:List Stmt):Prop where
 here: ∃oc od osl,C.K.lookup fa=some ⟨oc,od,.func fd,osl⟩
 globals:fd.globals=mainGlobals
 builtins:fd.builtins=builtinsNs
 closure:fd.closure= []
 body:fd.body= .stmts body
 code:codeIn C.K fd.code fd.qualname=true
 co:fd.scope.isCoroutine=false
 gen:fd.scope.isGenerator=false
 ok:cQ fd.scope=true
noncomputable def rS (sc:Scope) (bs:List (Str×AV)):List (Option AV):=bs.map (λp=>some p.2)++List.replicate (sc.names.length - bs.length) none
theorem HP {fa:Addr} {fd:FuncData} {body:List Stmt} {as:List AV} {kw:List (Str×AV)} {v:AV} (O:C.Ok) (hF:Fn C fa fd body)
  (h: ∀n,(∀l:Loc,n<=l.tag->Z l=none)-> ∃bs ae f aK cP,Bd C k fd Z as kw bs ae/\(fd.scope.names.take bs.length).map (·.1)=bs.map (·.1)/\(∀p∈fd.scope.names.take bs.length,p.2= .local\/p.2= .cell)/\
   Ex C k fd.scope (rS fd.scope bs) ae body f aK cP/\Exit Z cP f v aB):Ca C (k+1) Z (.ext fa) as kw v aB:=by
 intro W rf df fp hf has hkw A s outer hr hA hS I;subst hf;refine cG I.free λn hn=>Eo (h n hn) λbs ae f aK cP hb hms hkind z=>bI z λhx ex=>Jw hF.here λoc od osl hK=>?_;have ho:=I.kept _ _ (O.tQ _ _ hK);refine s8 (codeAny_call_function (fd:=fd) hr.depth ho rfl hF.co hF.gen hF.body (codeRec_of (O.tQ.keeps I.kept) hF.code) ?_);refine bH (hb W df fp has hkw A.in1 s outer hr.in1 hA hS I) (λbinds aI w=> ?_) λg m h=>h.elim;obtain⟨aR,aA,xJ,vW⟩:=w;rw [hF.globals,hF.builtins,hF.closure];refine bH (sW (A:=A) hF.ok xJ hA (hS.mono aA) vW hms hkind (Q:=λenv s'=>At C fd.scope (A.deeper env) aR env (rS fd.scope bs) ae s') λenv s' H=>H) (λenv aT H=> ?_) λg m h=>h.elim;refine⟨O.nolimit.keeps H.inv.kept,codeAny_func ?_⟩;refine bH (hx (A.deeper env) aR env aT hr.deeper H) (λfl s' u=> ?_) λg m h=>h.elim;obtain⟨bh,ax,aG,hf⟩:=u;refine fJ (ex.go I (aA.trans ax) aG.inv hf) λbS bg I7 q=>?_;cases fl<;>exact⟨bS,bg,I7,q⟩
theorem yg (h: ∀W df fp,aU W as df->bC W kw fp-> ∃r,bindArgs fd ⟨df,fp⟩=pure r/\bC W bs r):Bd C k fd Z as kw bs Z:=
 λW df fp ha hk A s outer hr hA hS I=>by refine c12 (h W df fp ha hk) λr e q=>?_;rw [e];exact aQ ⟨W,.refl W,I,q⟩
end
end V
end
section
namespace V
section
variable {M:Model} {A:Around} {E:Value->Shared->Prop} {s:Shared} {Q:Value->Shared->Prop}
theorem cI (h:wpAny M A (evalArgs f true args kws) (λa aI=>(∃k,Looks M aI.heap (keeperOf f) k)/\wpAny M A (call f (first++a.pos) a.kw) Q E aI) E s):wpAny M A (callWith pos f first args kws) Q E s:=by
 refine aj (cE (bH h (λa aI iq=>aj (cF ?_)) λu v x=>x));refine bI iq λq hc=>cG q λk L=>?_;clear iq;have tail: ∀{t:Sem Value},wpAny M A t Q E aI->wpAny M A (t>>=λr=>holding [r] point>>=λu=>pure r) Q E aI:=
  λht=>aj (bH ht (λr aT hr=>aj (cE (wpAny_point (aQ hr)))) λu v x=>x)
 have marked (mk:Value):wpAny M A (callMarked mk f (first++a.pos) a.kw) Q E aI:=by delta callMarked;exact Calls.wpAny_keep hc
 generalize (args.any (·.1) || kws.any (·.1.isNone))=st;refine aj (L.here ?_);cases k<;>cases st<;>dsimp only<;>first
  | exact tail (marked _)
  | exact tail hc
  | exact tail (Co hc)
  | (split<;>first | exact tail hc | exact tail (marked _))
  | (refine wpAny_ite ?_;split<;>first | exact tail hc | exact tail (marked _))
theorem qJ (h:l.any (·.1)=false): ∀x,l≠ [(true,x)]:=λx e=>by rw [e]at h;exact zi h
theorem evalArgs_kw {Q:Args->Shared->Prop} (hne: ∀x,args≠ [(true,x)]) (hn:kws.all (·.1.isSome)=true)
  (h:wpAny M A (spliced args) (λvs s'=>wpAny M A (evalAll (kws.map (·.2))) (λks s''=>Q ⟨vs,(kws.filterMap (·.1)).zip ks⟩ s'') E s') E s):wpAny M A (evalArgs f true args kws) Q E s:=by
 have fin: ∀vs s',wpAny M A (evalAll (kws.map (·.2))) (λks s''=>Q ⟨vs,(kws.filterMap (·.1)).zip ks⟩ s'') E s'->
   wpAny M A (evalAll (kws.map (·.2))>>=λks=>(pure vs:Sem (List Value))>>=λp=>pure (⟨p,(kws.filterMap (·.1)).zip ks⟩:Args)) Q E s':=λvs s' h'=>
  aj (bH h' (λks s'' h''=>aj (aQ (aQ h''))) λu v x=>x)
 rcases args with _ | ⟨⟨b,x⟩,r⟩
 ·skip
  refine aj (bH h (λvs s' h'=>aj (aQ (cE ?_))) λu v x=>x);simp only [hn,if_true];exact fin vs s' h'
 ·cases b with
  | false=>refine aj (bH h (λvs s' h'=>aj (aQ (cE ?_))) λu v x=>x);simp only [hn,if_true];exact fin vs s' h'
  | true=>
   rcases r with _ | ⟨y,r⟩
   ·exact absurd rfl (hne x)
   ·skip
    refine aj (bH h (λvs s' h'=>aj (aQ (cE ?_))) λu v x=>x);simp only [hn,if_true];exact fin vs s' h'
theorem dC {Q:Args->Shared->Prop} (hne: ∀x,args≠ [(true,x)]) (h:wpAny M A (spliced args) (λvs s'=>Q ⟨vs,[]⟩ s') E s):wpAny M A (evalArgs f true args []) Q E s:=
 evalArgs_kw hne rfl (bH h (λu v h'=>aQ h') λu v x=>x)
end
section
variable {C:Cx} {k:Nat} {sc:Scope} {A:Around} {W:Wd} {env:Env} {ms ai aZ b6 aK:List (Option AV)} {Z ae aN bX aB:St} {s:Shared}
noncomputable def Kp (C:Cx) (f:AV):Prop:= ∀W Z s rf,Inv C W Z s->aw W f rf-> ∃k,Looks C.M s.heap (keeperOf rf) k
theorem bp {id:String}:Kp C (.bi id):=λu v w g m q=>by subst q;exact⟨_,Looks.of_pure rfl⟩
theorem cK:Kp C (.ty n):=λu v w g m q=>by subst q;exact⟨_,Looks.of_pure rfl⟩
theorem Hl (O:C.Ok) (h:keepIn C.K (.ref a)=true):Kp C (.ext a):=λW Z s rf I q=>by subst q;refine c12 (looks_keep (M:=C.M) h (O.tQ.keeps I.kept)) λk _ L=>⟨k,L⟩
theorem BC (O:C.Ok) (h: ∃oc od fd osl,C.K.lookup f=some ⟨oc,od,.func fd,osl⟩):Kp C (.bm f l):=λW Z s rf I q=>by refine Hg q λa b o e u=>?_;subst u;intro f1 z y;refine OD h λoc od fd osl hK=>?_;have ho:=I.frozen f1 (by rw [z];decide);have hf:=I.kept _ _ (O.tQ _ _ hK);refine⟨.boundFrame,λA Q E s' k' q=> ?_⟩;refine aj (wpAny_load (k' _ _ ho) ?_);rw [y,z];exact aj (wpAny_load (k' _ _ hf) (aQ q))
theorem GG {id:String} {l:Loc}:Kp C (.mw id l):=λW Z s rf I q=>by refine Hg q λa b o e u=>?_;subst u;intro f1 z y;have ho:=I.frozen f1 (by rw [z];decide);refine⟨.machine,λA Q E s' k' q=> ?_⟩;refine aj (wpAny_load (k' _ _ ho) ?_);rw [y,z];exact aQ q
noncomputable def Ks (C:Cx) (k:Nat) (sc:Scope) (ms:List (Option AV)) (Z:St) (pos:Pos) (kws:List Keyword) (vs:List (Str×AV)) (aK:List (Option AV)) (aB:St):Prop:=
 Tr C k sc ms Z (λenv=>evalAll ((backToKw pos (keywordEach kws env)).map (·.2))) (λW r=>aU W (vs.map (·.2)) r) aK aB
theorem nY:Ks C k sc ms Z pos [] [] ms Z:=λu W v w g H=>aQ (bz (.refl W) H .nil)
theorem nK (h1:Ev C k sc ms Z e v ai ae) (h2:Ks C k sc ai ae pos rest vs aK aB):
  Ks C k sc ms Z pos (⟨some n,e,p⟩::rest) ((n,v)::vs) aK aB:=by
 intro A W env s hr H;refine(?_:wpAny C.M A (evalAll ((do let v<-eval e env;standAt pos;pure v)::(backToKw pos (keywordEach rest env)).map (·.2))) _ _ _);rw [evalAll];refine aj (aj (bf (h1 A W env s hr H) λaR r aI aA aO q=>aj (cF (aQ ?_))));exact aj (cE (bf (h2 A aR env aI hr aO) λbh rs aT ax aG qs=>aQ (bz (aA.trans ax) aG (.cons (q.mono ax) qs))))
theorem bC.nil:bC W [] []:=rfl
theorem ja: ∀{vs:List (Str×AV)} {rs:List Value},aU W (vs.map (·.2)) rs->bC W vs ((vs.map (·.1)).zip rs):=by
 intro aH;induction aH with
 | nil=>intro u w;exact rfl
 | cons dQ r ih=>intro rs q;obtain⟨n,x⟩:=dQ;rw [dj]at q;refine gB q λv rs' a b=>jE v _ rfl a (ih b)
theorem Ca.in {R:Value->Shared->Prop} (h:Ca C k Z f as kw v aB) (hr:bY C A k) (H:At C sc A W env ms Z s)
  (qf:aw W f rf) (qa:aU W as df) (qk:bC W kw fp) (g: ∀W' r s',W.le W'->At C sc A W' env ms aB s'->aw W' v r->R r s'):wpAny C.M A (call rf df fp) R No s:=by
 have le:=a8 H.fr;exact Op.in rfl (h _ rf df fp (qf.mono le) (qa.mono le) (qk.mono le)) hr H λW' r s' rq H' q tk u=>g _ r s' rq H' (tk q)
theorem aD (h1:Ev C k sc ms Z fn f ai ae) (h2:Es C k sc ai ae pos args as aZ aN) (hk:Kp C f) (h3:Ca C k aN f as [] v aB)
  (hs: ∀env,(backTo pos (starEach args env)).any (·.1)=false:=by exact λu=>rfl)
  (he: ∀env,eval (.Call fn args [] pos) env=(do callWith pos (<-eval fn env) [] (backTo pos (starEach args env)) (backToKw pos (keywordEach [] env))):=by exact λu=>rfl):Ev C k sc ms Z (.Call fn args [] pos) v aZ aB:=by
 intro A W env s hr H;refine(?_:wpAny C.M A (eval (.Call fn args [] pos) env) _ _ _);rw [he];refine cX (h1 A W env s hr H) λaR rf aI aA aO qf=>cI (dC (qJ (hs env)) (bf (h2 A aR env aI hr aO) λbh df aT ax aG qa=>⟨hk _ _ _ _ aG.inv (qf.mono ax),?_⟩));exact h3.in hr aG (qf.mono ax) qa .nil λbS r bt bg br q=>bz (aA.trans (ax.trans bg)) br q
noncomputable def Mt (C:Cx) (k:Nat) (Z:St) (o:AV) (name:Str) (f:AV):Prop:=
 ∀W ro pl,aw W o ro->Op C k W Z (getMethod ro name pl) (λW r=>aw W f r.1/\r.2= [ro]) Z
theorem jj (o:Expr) (name:Str) (apos:Pos) (args:List Expr) (kws:List Keyword) (pos:Pos) (env:Env):eval (.Call (.Attribute o name apos) args kws pos) env=(do
  let ov<-attributeBase o name env (eval o env)
  standAt apos.atName
  methodCall o name apos pos env ov (args.length+kws.length) (backTo pos (starEach args env)) (backToKw pos (keywordEach kws env))):=rfl
theorem gR (h1:Ev C k sc ms Z o ov ai ae) (hm:Mt C k ae ov name f) (h2:Es C k sc ai ae pos args as aZ aN)
  (h2':Ks C k sc aZ aN pos kws ks b6 bX) (hk:Kp C f) (h3:Ca C k bX f (ov::as) ks v aB)
  (hb: ∀env t,attributeBase o name env t=t) (hf: ∀env,methodCallForm (args.length+kws.length) (backTo pos (starEach args env)) (backToKw pos (keywordEach kws env))=true) (hl:(apos.endLine==pos.line)=true)
  (hs: ∀env,(backTo pos (starEach args env)).any (·.1)=false) (hn: ∀env,(backToKw pos (keywordEach kws env)).all (·.1.isSome)=true) (hn': ∀env,(backToKw pos (keywordEach kws env)).filterMap (·.1)=ks.map (·.1)):
  Ev C k sc ms Z (.Call (.Attribute o name apos) args kws pos) v b6 aB:=by
 intro A W env s hr H;rw [jj,hb];refine cX (h1 A W env s hr H) λaR ro aI aA aO qo=>aj (cF ?_);delta methodCall;rw [hf env];refine aj (cE ?_);refine Op.in rfl (hm _ ro _ (qo.mono (a8 aO.fr))) hr aO λbh r aT ax aG q tk u=> ?_;obtain⟨rf,first⟩:=r;refine bI q λq1 q2=>?_;clear q;dsimp only at q1 q2;subst q2;replace q1:=tk q1;have hp:methodCallPos true o env apos pos=pure pos:=by delta methodCallPos;simp [hl]
 refine aj (eL hp ?_);refine cI (evalArgs_kw (qJ (hs env)) (hn env) (bf (h2 A _ env aT hr aG) λbS df bt bg br qa=>bf (h2' A _ env bt hr br) λnD rks jd eW gu qk=>⟨hk _ _ _ _ gu.inv ((q1.mono bg).mono eW),?_⟩));rw [hn' env];exact h3.in hr gu ((q1.mono bg).mono eW) (.cons (((qo.mono ax).mono bg).mono eW) (qa.mono eW)) (ja qk) λvX r Gh rt mL q=>bz (aA.trans (ax.trans (bg.trans (eW.trans rt)))) mL q
theorem aL (h1:Ev C k sc ms Z o ov ai ae) (hm:Mt C k ae ov name f) (h2:Es C k sc ai ae pos args as aZ aN) (hk:Kp C f) (h3:Ca C k aN f (ov::as) [] v aB)
  (hb: ∀env t,attributeBase o name env t=t:=by exact λu v=>rfl) (hf: ∀env,methodCallForm args.length (backTo pos (starEach args env)) []=true:=by exact λu=>rfl) (hl:(apos.endLine==pos.line)=true:=by rfl)
  (hs: ∀env,(backTo pos (starEach args env)).any (·.1)=false:=by exact λu=>rfl):
  Ev C k sc ms Z (.Call (.Attribute o name apos) args [] pos) v aZ aB:=
 gR h1 hm h2 nY hk h3 hb (λenv=>hf env) hl hs (λw=>rfl) (λw=>rfl)
theorem bE (h1:Ev C k sc ms Z o ov ai ae) (h2:ie C k ae (λx=>getAttr x name true) ov (λW r=>aw W v r) aB) (hb: ∀env t,attributeBase o name env t=t:=by exact λu v=>rfl):
  Ev C k sc ms Z (.Attribute o name pos) v ai aB:=by
 intro A W env s hr H;rw [arm_eval_Attribute,hb];refine cX (h1 A W env s hr H) λaR ro aI aA aO qo=>aj (cF (aj (cE ?_)));refine Op.in rfl (h2 _ ro (qo.mono (a8 aO.fr))) hr aO λbh r aT ax aG q tk w=>aj (wpAny_letTemporaryGo (aQ (bz (aA.trans ax) aG (tk q))))
theorem eI (h1:Ev C k sc ms Z o ov ai ae) (h2:di C k ae (λx y=>setAttr x name y) ov v (λu w=>True) aB):As C k sc ms Z (.Attribute o name pos) v ai aB:=by
 intro A W env s r hr H qv;rw [arm_assign_Attribute];refine aj (cE (bf (h1 A W env s hr H) λaR ro aI aA aO qo=>aj (cF (aj (cE ?_)))));have le:=a8 aO.fr;refine Op.in rfl (h2 _ ro r (qo.mono le) ((qv.mono aA).mono le)) hr aO λbh u aT ax aG w g m=> ?_;exact λΓ p u=>by rw [Sem.wp_release];exact bz (aA.trans ax) aG trivial
noncomputable def Bg (C:Cx) (Z:St) (o:AV):Prop:= ∀W s ro,Inv C W Z s->aw W o ro->Looks C.M s.heap (getitemInPython ro) false
theorem aS (h1:Ev C k sc ms Z o ov ai ae) (h2:Ev C k sc ai ae i iv aZ aN) (hb:Bg C aN ov) (h3:di C k aN getItem ov iv (λW r=>aw W v r) aB):
  Ev C k sc ms Z (.Subscript o i pos) v aZ aB:=by
 intro A W env s hr H;rw [arm_eval_Subscript];refine cX (h1 A W env s hr H) λaR ro aI aA aO qo=>aj (cE (bf (h2 A aR env aI hr aO) λbh ri aT ax aG qi=>aj (cF (aj ((hb _ _ _ aG.inv (qo.mono ax)).here ?_)))));have le:=a8 aG.fr;have key:wpAny C.M A (getItem ro ri) (λr bt=> ∃bS,bh.le bS/\At C sc A bS env aZ aB bt/\aw bS v r) No aT:=
  Op.in rfl (h3 _ ro ri ((qo.mono ax).mono le) (qi.mono le)) hr aG λbS r bt bg br q tk u=>⟨_,bg,br,tk q⟩
 have key':wpAny C.M A (subscripted i false ro ri) (λr bt=> ∃bS,bh.le bS/\At C sc A bS env aZ aB bt/\aw bS v r) No aT:=by
  cases i with
  | Slice a b c p=>cases c<;>exact Co key
  | _=>exact Co key
 refine aj (bH key' (λr bt z=> ?_) λu w x=>x);refine fJ z λbS bg br q=>aj (wpAny_letTemporaryGo (aQ (bz (aA.trans (ax.trans bg)) br q)))
theorem tq (h1:Ev C k sc ms Z o ov ai ae) (h2:Ev C k sc ai ae i iv aZ aN) (h3:K9 C k aN setItem ov iv v (λu w=>True) aB):As C k sc ms Z (.Subscript o i pos) v aZ aB:=by
 intro A W env s r hr H qv;rw [arm_assign_Subscript];refine aj (cE (bf (h1 A W env s hr H) λaR ro aI aA aO qo=>aj (cE (bf (h2 A aR env aI hr aO) λbh ri aT ax aG qi=>aj (cF (aj (cE ?_)))))));have le:=a8 aG.fr;refine Op.in rfl (h3 _ ro ri r ((qo.mono ax).mono le) (qi.mono le) (((qv.mono aA).mono ax).mono le)) hr aG λbS u bt bg br w g m=> ?_;exact λΓ p u=>by rw [Sem.wp_release];exact bz (aA.trans (ax.trans bg)) br trivial
theorem mP (q:aU W xs vs) (hz:xs.length<=sizeLine):Op C k W Z (newTuple vs) (λW r=>aw W (.tup xs) r) Z:=by intro A s outer hr hA hS I;refine bI I.cz λn1 n2=>?_;refine oI ?_ (by refine(?_:vs.toArray.size<=sizeLine);rw [AL,q.length];exact hz);have g:(s.heap.push {cls:= .type "tuple",data:= .seq vs.toArray}).get? s.heap.objs.size=some {cls:= .type "tuple",data:= .seq vs.toArray}:=dZ _ rfl;refine bI (I.f6 (t:=s.toks) (d:=s.drawn) n1 n2 (a9 _ _) g) λle I'=>⟨_,le,I',?_⟩;exact v7 _ _ vs 0 rfl (by show(if _ then _ else _)=_;rw [aF rfl]) rfl rfl (q.mono le)
theorem yV (q:aU W xs vs) (hz:xs.length<=sizeLine):Op C k W Z (newList vs) (λW r=>aw W (.lst xs) r) Z:=by intro A s outer hr hA hS I;refine bI I.cz λn1 n2=>?_;refine oI ?_ (by refine(?_:vs.toArray.size<=sizeLine);rw [AL,q.length];exact hz);have g:(s.heap.push {cls:= .type "list",data:= .seq vs.toArray}).get? s.heap.objs.size=some {cls:= .type "list",data:= .seq vs.toArray}:=dZ _ rfl;refine bI (I.f6 (t:=s.toks) (d:=s.drawn) n1 n2 (a9 _ _) g) λle I'=>⟨_,le,I',?_⟩;exact v7 _ _ vs 0 rfl (by show(if _ then _ else _)=_;rw [aF rfl]) rfl rfl (q.mono le)
theorem wj (q:aU W xs vs) (hz:xs.length<=sizeLine) (hl:Z l=none):Op C k W Z (newList vs) (λW r=>aw W (.loc l) r) (Z.set l (.list xs)):=by
 intro A s outer hr hA hS I;refine bI I.cz λn1 n2=>?_;refine oI ?_ (by refine(?_:vs.toArray.size<=sizeLine);rw [AL,q.length];exact hz);have g:(s.heap.push {cls:= .type "list",data:= .seq vs.toArray}).get? s.heap.objs.size=some {cls:= .type "list",data:= .seq vs.toArray}:=dZ _ rfl;have L0:W.le (W.name l s.heap.objs.size):=⟨λx b e=>by
  refine(?_:(if x=l then _ else W.ρ x)=some b);split
  ·rename_i z;subst z;rw [I.none_of hl]at e;exact dF e
  ·exact e,λ_ _ e=>e⟩
 refine bI (I.new (t:=s.toks) (d:=s.drawn) (o:= .list xs) hl n1 n2 I.big (a9 _ _) g ⟨rfl,vs,0,rfl,q.mono L0⟩) λle I'=>⟨_,le,I',?_⟩;exact i12 _ (by show(if _ then _ else _)=_;rw [aF rfl]) rfl
theorem cU {x pos} (h:Es C k sc ms Z pos es vs aK aB) (hz:vs.length<=sizeLine):Ev C k sc ms Z (.Tuple es x pos) (.tup vs) aK aB:=by intro A W env s hr H;rw [arm_eval_Tuple];refine aj (cF (cX (h A W env s hr H) λaR rs aI aA aO q=> ?_));exact Op.in rfl (mP (q.mono (a8 aO.fr)) hz) hr aO λbh r aT ax aG q tk u=>bz (aA.trans ax) aG (tk q)
theorem hU {pos} (h:Es C k sc ms Z pos es vs aK aB) (hz:vs.length<=sizeLine):Ev C k sc ms Z (.List es pos) (.lst vs) aK aB:=by intro A W env s hr H;rw [arm_eval_List];refine aj (cF (cX (h A W env s hr H) λaR rs aI aA aO q=> ?_));exact Op.in rfl (yV (q.mono (a8 aO.fr)) hz) hr aO λbh r aT ax aG q tk u=>bz (aA.trans ax) aG (tk q)
theorem dU {pos} (l:Loc) (h:Es C k sc ms Z pos es vs aK aB) (hz:vs.length<=sizeLine) (hl:aB l=none):Ev C k sc ms Z (.List es pos) (.loc l) aK (aB.set l (.list vs)):=by intro A W env s hr H;rw [arm_eval_List];refine aj (cF (cX (h A W env s hr H) λaR rs aI aA aO q=> ?_));exact Op.in rfl (wj (q.mono (a8 aO.fr)) hz hl) hr aO λbh r aT ax aG q tk u=>bz (aA.trans ax) aG (tk q)
noncomputable def dS (W:Wd) (a:Addr):Prop:=W.fz a=none/\ ∀l,W.ρ l≠some a
noncomputable abbrev vZ:=Wd->Nat->Addr->Value->List (Addr×Obj)->Prop
noncomputable def Cells (W:Wd) (h:Heap) (st:List (Addr×Obj)):Prop:= ∀p∈st,h.get? p.1=some p.2/\dS W p.1
noncomputable def Sub (st' st:List (Addr×Obj)):Prop:= ∀p∈st',∃q∈st,q.1=p.1
inductive JZ (C:Cx) (W:Wd) (Z:St) (x:AV) (st:List (Addr×Obj)) (S:Wd->List (Addr×Obj)->Prop) (r:Option Value) (s':Shared):Prop
 | mk (W':Wd) (rx:Value) (st':List (Addr×Obj)) (le:W.le W') (inv:Inv C W' Z s') (e:r=some rx) (v:aw W' x rx) (ce:Cells W' s'.heap st') (su:Sub st' st) (sh:S W' st'):JZ C W Z x st S r s'
inductive EK (C:Cx) (W:Wd) (Z:St) (x:AV) (it:Addr) (S:Value->Obj->Prop) (r:Option Value) (s':Shared):Prop
 | mk (W':Wd) (rx:Value) (ob':Obj) (le:W.le W') (inv:Inv C W' Z s') (e:r=some rx) (v:aw W' x rx) (g:s'.heap.get? it=some ob') (f:dS W' it) (sh:S rx ob'):EK C W Z x it S r s'
inductive Lb (C:Cx) (W:Wd) (Z:St) (src:AV) (S:Wd->Addr->Value->List (Addr×Obj)->Prop) (r:Value) (s':Shared):Prop
 | mk (W':Wd) (it:Addr) (st:List (Addr×Obj)) (rs:Value) (le:W.le W') (inv:Inv C W' Z s') (e:r= .ref it) (ce:Cells W' s'.heap st) (v:aw W' src rs) (sh:S W' it rs st):Lb C W Z src S r s'
inductive Hk (C:Cx) (W:Wd) (Z:St) (src:AV) (S:Value->Obj->Prop) (r:Value) (s':Shared):Prop
 | mk (W':Wd) (it:Addr) (ob:Obj) (rs:Value) (le:W.le W') (inv:Inv C W' Z s') (e:r= .ref it) (g:s'.heap.get? it=some ob) (f:dS W' it) (v:aw W' src rs) (sh:S rs ob):Hk C W Z src S r s'
inductive Kd (C:Cx) (W:Wd) (Z:St) (st:List (Addr×Obj)) (S:List (Addr×Obj)->Prop) (h:Heap) (s':Shared):Prop
 | mk (st':List (Addr×Obj)) (inv:Inv C W Z s') (ce:Cells W s'.heap st') (su:Sub st' st) (sh:S st') (k: ∀b o,(∀p∈st,b≠p.1)->h.get? b=some o->s'.heap.get? b=some o):Kd C W Z st S h s'
inductive HJ (C:Cx) (W:Wd) (Z:St) (it:Addr) (S:Obj->Prop) (h:Heap) (s':Shared):Prop
 | mk (ob':Obj) (inv:Inv C W Z s') (g:s'.heap.get? it=some ob') (sh:S ob') (k: ∀b o,b≠it->h.get? b=some o->s'.heap.get? b=some o):HJ C W Z it S h s'
structure ItrN (C:Cx) (k:Nat) (ok:St->Prop) (xs:List AV) (src:AV) (Sh:vZ) (tgt:Expr):Prop where
 mono: ∀W W' i it rs st,W.le W'->Sh W i it rs st->Sh W' i it rs st
 less: ∀W (X:Addr->Prop) i it rs st,(∀a o,X a->W.fz a=some o->Jk o)->Sh W i it rs st->Sh (W.minus X) i it rs st
 jk: ∀W i it rs st,Sh W (i+1) it rs st-> ∀p∈st,Jk p.2/\p.2.cls≠ .type "frame"
 self: ∀W i rs st it A s E (Q:Value->Shared->Prop),(∀p∈st,s.heap.get? p.1=some p.2)->Sh W i it rs st->Q (.ref it) s->wpAny C.M A (pyIter (.ref it)) Q E s
 next: ∀i x W Z rs st it A s outer,xs[i]? =some x->ok Z->bY C A k->A.frames=some outer->tm C W outer->Inv C W Z s->Cells W s.heap st->aw W src rs->Sh W i it rs st->
  wpAny C.M A (pyNext (.ref it)) (JZ C W Z x st λW'=>Sh W' (i+1) it rs) No s
 stop: ∀W Z rs st it A s outer,ok Z->bY C A k->A.frames=some outer->tm C W outer->Inv C W Z s->Cells W s.heap st->aw W src rs->Sh W xs.length it rs st->
  wpAny C.M A (pyNext (.ref it)) (Er C W Z λ_ r=>r=none) No s
 hZ: ∀i W Z rs rx st it A s,Inv C W Z s->Cells W s.heap st->Sh W i it rs st->
  wpAny C.M A (letOwnedTupleGo tgt (.ref it) rx) (λ_=>Kd C W Z st (Sh W i it rs) s.heap) No s
structure vK (C:Cx) (k:Nat) (ok:St->Prop) (v:AV) (xs:List AV) (src:AV) (Sh:vZ) (tgt:Expr):Prop extends ItrN C k ok xs src Sh tgt where
 start: ∀W Z rv A s outer,ok Z->bY C A k->A.frames=some outer->tm C W outer->Inv C W Z s->aw W v rv->
  wpAny C.M A (pyIter rv) (Lb C W Z src λW'=>Sh W' 0) No s
structure r6 (C:Cx) (k:Nat) (ok:St->Prop) (v:AV) (xs:List AV) (src:AV) (Sh:Nat->Value->Obj->Prop):Prop where
 jk: ∀i rv ob,Sh i rv ob->Jk ob/\ob.cls≠ .type "frame"
 start: ∀W Z rv A s outer,ok Z->bY C A k->A.frames=some outer->tm C W outer->Inv C W Z s->aw W v rv->
  wpAny C.M A (pyIter rv) (Hk C W Z src (Sh 0)) No s
 self: ∀i rs ob it A s E (Q:Value->Shared->Prop),s.heap.get? it=some ob->Sh i rs ob->Q (.ref it) s->wpAny C.M A (pyIter (.ref it)) Q E s
 next: ∀i x W Z rs ob it A s outer,xs[i]? =some x->ok Z->bY C A k->A.frames=some outer->tm C W outer->Inv C W Z s->s.heap.get? it=some ob->dS W it->aw W src rs->Sh i rs ob->
  wpAny C.M A (pyNext (.ref it)) (EK C W Z x it λ_=>Sh (i+1) rs) No s
 stop: ∀W Z rs ob it A s outer,ok Z->bY C A k->A.frames=some outer->tm C W outer->Inv C W Z s->s.heap.get? it=some ob->dS W it->aw W src rs->Sh xs.length rs ob->
  wpAny C.M A (pyNext (.ref it)) (Er C W Z λ_ r=>r=none) No s
 hZ: ∀i W Z rs rx ob it A s (tgt:Expr),Inv C W Z s->s.heap.get? it=some ob->dS W it->Sh i rs ob->
  wpAny C.M A (letOwnedTupleGo tgt (.ref it) rx) (λ_=>HJ C W Z it (Sh i rs) s.heap) No s
noncomputable def GD (Sh:Nat->Value->Obj->Prop):vZ:=λ_ i it rs st=> ∃ob,st= [(it,ob)]/\Sh i rs ob
theorem wI (g:h.get? it=some ob) (f:dS W it):Cells W h [(it,ob)]:=λp hp=>by rw [ju]at hp;subst hp;exact⟨g,f⟩
theorem Lv:Sub [(it,ob')] [(it,ob)]:=λp hp=>by rw [ju]at hp;subst hp;exact i12 _ (.head _) rfl
theorem r6.Iq {ok:St->Prop} {Sh:Nat->Value->Obj->Prop} (I:r6 C k ok v xs src Sh):vK C k ok v xs src (GD Sh) tgt where
 mono:=λl u1 v1 w1 g1 m1 q1 h=>h
 less:=λl u1 v1 w1 g1 m1 q1 h=>h
 jk:=λl i it rs st j p hp=>by refine c12 j λob e h=>?_;clear j;subst e;rw [ju]at hp;subst hp;exact I.jk _ _ _ h
 start:=λW Z rv A s outer a b c d e f=>bH (I.start W Z rv A s outer a b c d e f) (λr s' n=>(by obtain⟨W',it,ob,rs,x1,x2,x3,x4,x5,x6,x7⟩:=n;exact⟨W',it,_,rs,x1,x2,x3,wI x4 x5,x6,ob,rfl,x7⟩)) λl u1 h=>h
 self:=λl i rs st it A s E Q g m q=>(by refine c12 m λob e h=>?_;clear m;exact I.self i rs ob it A s E Q (by subst e;exact g _ (.head _)) h q)
 next:=λi x W Z rs st it A s outer hx a b c d e g f t=>by refine c12 t λob q h=>?_;clear t;subst q;have gg:=g _ (.head _);exact bH (I.next i x W Z rs ob it A s outer hx a b c d e gg.1 gg.2 f h) (λr s' y=>(by obtain⟨W',rx,ob',x1,x2,x3,x4,x5,x6,x7⟩:=y;exact⟨W',rx,_,x1,x2,x3,x4,wI x5 x6,Lv,ob',rfl,x7⟩)) λl u1 h=>h
 stop:=λW Z rs st it A s outer a b c d e g f w=>by refine c12 w λob q h=>?_;clear w;subst q;have gg:=g _ (.head _);exact I.stop W Z rs ob it A s outer a b c d e gg.1 gg.2 f h
 hZ:=λi W Z rs rx st it A s a g u=>by refine c12 u λob q h=>?_;clear u;subst q;have gg:=g _ (.head _);exact bH (I.hZ i W Z rs rx ob it A s tgt a gg.1 gg.2 h) (λl s' z=>(by obtain⟨ob',x1,x2,x3,x4⟩:=z;exact⟨_,x1,wI x2 gg.2,Lv,⟨ob',rfl,x3⟩,λb o nb=>x4 b o (nb _ (.head _))⟩)) λl u1 h=>h
class inductive Lr (C:Cx) (k:Nat) (sc:Scope) (ok:St->Prop) (tgt:Expr) (body:List Stmt):List AV->List (Option AV)->St->AF->List (Option AV)->St->Prop
 | nil {ms:List (Option AV)} {Z:St} (h:ok Z):Lr C k sc ok tgt body [] ms Z .next ms Z
 | cons {x:AV} {xs:List AV} {ms ai aZ aK:List (Option AV)} {Z ae aN aB:St} {me f:AF} (h:ok Z) (ha:As C k sc ms Z tgt x ai ae) (hx:Ex C k sc ai ae body me aZ aN) (hf:me= .next\/me= .cont)
   (hr:Lr C k sc ok tgt body xs aZ aN f aK aB):Lr C k sc ok tgt body (x::xs) ms Z f aK aB
 | stop {x:AV} {xs:List AV} {ms ai aK:List (Option AV)} {Z ae aB:St} {f:AF} (h:ok Z) (ha:As C k sc ms Z tgt x ai ae) (hx:Ex C k sc ai ae body f aK aB) (hf:f= .brk\/ ∃v,f= .ret v):
   Lr C k sc ok tgt body (x::xs) ms Z f aK aB
noncomputable def AF.after:AF->AF
 | .ret v=> .ret v
 | _=> .next
theorem mark_none (A:Around):A.mark none=A:=by cases A;rfl
theorem eE.B5 {X:Addr->Prop} (F:eE C sc A W env ms h) (n: ∀a,X a-> ¬Own env a) (k: ∀b o,¬X b->h.get? b=some o->h'.get? b=some o):eE C sc A W env ms h':=by
 obtain⟨mr,⟨o,es,ep,ho,hr⟩,hv⟩:=F.ns;have nl: ¬X env.locals:=λz=>n _ z (.inl rfl);refine⟨F.scope,F.globals,F.builtins,F.ok,⟨mr,⟨o,es,ep,k _ _ nl ho,hr⟩,hv⟩,λi x hx=> ?_,F.mi,λx a hx=> ?_,F.iQ,?_,?_⟩
 ·obtain⟨a,ov,h1,⟨oc,h2,h3⟩,h4⟩:=F.cells i x hx;exact⟨a,ov,h1,⟨oc,k _ _ (λz=>n _ z (.inr (bM.mpr ⟨(x,a),mem_of_lookup h1,rfl⟩))) h2,h3⟩,h4⟩
 ·obtain⟨h1,h2,h3,ov,oc,h4,h5,h6⟩:=F.mZ x a hx;exact⟨h1,h2,h3,ov,oc,k _ _ (λz=>n _ z (.inr (bM.mpr ⟨(x,a),hx,rfl⟩))) h4,h5,h6⟩
 ·obtain⟨o,es,n,h1,h2,h3⟩:=F.jc;exact⟨o,es,n,k _ _ nl h1,h2,h3⟩
 ·obtain⟨fenv,rest,L,h1,h2,h3,h4,h5,h6,h7⟩:=F.pE;refine⟨fenv,rest,L,h1,h2,h3,h4,h5,h6,?_⟩;refine aP h7 (λq=>?_) λz=>?_
  ·rcases q with⟨rfl,o,es,n,e1,e2⟩
   exact .inl ⟨rfl,o,es,n,k _ _ nl e1,e2⟩
  ·exact .inr z
theorem eE.keep (F:eE C sc A W env ms h) (n1: ¬Own env it) (n2:W.fz it=none) (n3:env.frame≠some it) (k: ∀b o,b≠it->h.get? b=some o->h'.get? b=some o):eE C sc A W env ms h':=
 F.B5 (X:=(· =it)) (λa z=>z▸n1) k
theorem eE.jV (F:eE C sc A W env ms h) (n1: ¬Own env it) (n2:W.fz it=none):env.frame≠some it:=λe=>by
 obtain⟨fenv,rest,L,h1,h2,h3,h4,h5,h6,h7⟩:=F.pE;rw [h5]at e;cases e;refine aP h7 (λu=>bI u λv=>?_) λq=>tC q λo _ _ z _=>?_
 ·subst v;intro w;exact n1 (.inl rfl)
 ·rw [n2]at z;exact dF z
theorem xB (F:eE C sc A W env ms h) (le:(aside W env h).le W') (n:W'.fz it=none): ¬Own env it:=λq=>by
 obtain⟨_,_,o,h1,_⟩:=F.own q;have:(aside W env h).fz it=some o:=by
  show(if _ then _ else _)=_
  rw [aF q];exact h1
 rw [le.2 _ _ this]at n;exact sa n
theorem DD (I:Inv C W Z s) (F:eE C sc A W env ms s.heap) (le:(aside W env s.heap).le W'): ∀a o,Own env a->W'.fz a=some o->Jk o:=λa o q e=>by
 obtain⟨_,_,ob,h1,h2⟩:=F.own q;have:(aside W env s.heap).fz a=some ob:=by
  show(if _ then _ else _)=_
  rw [aF q];exact h1
 rw [le.2 _ _ this]at e;cases e;exact h2.jk
structure nV (C:Cx) (W:Wd) (env:Env) (src:AV) (Sh:Nat->Value->Obj->Prop) (i:Nat) (it:Addr) (s:Shared):Prop where
 ex: ∃ob rs,s.heap.get? it=some ob/\aw W src rs/\Sh i rs ob
 fresh:dS W it
 own: ¬Own env it
 new:C.h₀.get? it=none
structure fA (C:Cx) (W:Wd) (env:Env) (src:AV) (Sh:vZ) (i:Nat) (it:Addr) (s:Shared):Prop where
 ex: ∃st rs,Cells W s.heap st/\(∀p∈st,¬Own env p.1/\C.h₀.get? p.1=none)/\aw W src rs/\Sh W i it rs st
theorem Cells.aside {st:List (Addr×Obj)} (h:Cells W s.heap st) (n: ∀p∈st,¬Own env p.1/\C.h₀.get? p.1=none):Cells (aside W env s.heap) s.heap st:=λp hp=>
 ⟨(h p hp).1,by
  show(if _ then _ else _)=_
  rw [ay (n p hp).1];exact(h p hp).2.1,(h p hp).2.2⟩
theorem mv {ok:St->Prop} {Q:Value->Shared->Prop} (I:vK C k ok v xs src Sh tgt) (hok:ok Z) (hr:bY C A k) (H:At C sc A W env ms Z s) (q:aw W v rv)
  (g: ∀W' it s',W.le W'->At C sc A W' env ms Z s'->fA C W' env src Sh 0 it s'->Q (.ref it) s'):wpAny C.M A (pyIter rv) Q No s:=by
 refine c12 (eU H.fr) λouter ho hs=>bH (I.start _ Z rv A s outer hok hr ho hs (eQ H.inv H.fr) (q.mono (a8 H.fr))) (λr s' hh=> ?_) λu w h=>h;obtain⟨W',it,st,rs,le,I',rfl,hg,hv,hsh⟩:=hh;refine ve (eE.back H.inv H.fr le I') λl2 I2 F2 v1 _=>?_;have no: ∀p∈st,¬Own env p.1:=λp hp=>xB H.fr le (hg p hp).2.1;exact g _ it s' l2 ⟨I2,F2⟩ ⟨st,rs,λp hp=>⟨(hg p hp).1,by rw [Wd.bB (no p hp)];exact(hg p hp).2.1,(hg p hp).2.2⟩,λp hp=>⟨no p hp,I'.mS (hg p hp).2.1⟩,v1 hv,I.less _ _ _ _ _ _ (DD H.inv H.fr le) hsh⟩
theorem lC {ok:St->Prop} {Sh:vZ} {Q:Option Value->Shared->Prop} (I:ItrN C k ok xs src Sh tgt) (hx:xs[i]? =some x) (hok:ok Z) (hr:bY C A k)
  (H:At C sc A W env ms Z s) (K:fA C W env src Sh i it s)
  (g: ∀W' rx s',W.le W'->At C sc A W' env ms Z s'->fA C W' env src Sh (i+1) it s'->aw W' x rx->Q (some rx) s'):wpAny C.M A (pyNext (.ref it)) Q No s:=by
 refine c12 (eU H.fr) λouter ho hs=>tO K.ex λst rs hg hn hv hsh=>bH (I.next i x _ Z rs st it A s outer hx hok hr ho hs (eQ H.inv H.fr) (hg.aside hn) (hv.mono (a8 H.fr)) (I.mono _ _ _ _ _ _ (a8 H.fr) hsh)) (λr s' hh=> ?_) λu v h=>h;obtain⟨W',rx,st',le,I',rfl,hx',hg',hsub,hsh'⟩:=hh;refine ve (eE.back H.inv H.fr le I') λl2 I2 F2 v1 _=>?_;have hn': ∀p∈st',¬Own env p.1/\C.h₀.get? p.1=none:=λp hp=>by refine c12 (hsub p hp) λq hq e=>?_;rw [<-e];exact hn q hq
 exact g _ rx s' l2 ⟨I2,F2⟩ ⟨st',rs,λp hp=>⟨(hg' p hp).1,by rw [Wd.bB (hn' p hp).1];exact(hg' p hp).2.1,(hg' p hp).2.2⟩,hn',hv.mono l2,I.less _ _ _ _ _ _ (DD H.inv H.fr le) hsh'⟩ (v1 hx')
theorem uD {ok:St->Prop} {Sh:vZ} {Q:Option Value->Shared->Prop} (I:ItrN C k ok xs src Sh tgt) (hok:ok Z) (hr:bY C A k)
  (H:At C sc A W env ms Z s) (K:fA C W env src Sh xs.length it s)
  (g: ∀W' s',W.le W'->At C sc A W' env ms Z s'->Q none s'):wpAny C.M A (pyNext (.ref it)) Q No s:=by
 refine c12 (eU H.fr) λouter ho hs=>tO K.ex λst rs hg hn hv hsh=>bH (I.stop _ Z rs st it A s outer hok hr ho hs (eQ H.inv H.fr) (hg.aside hn) (hv.mono (a8 H.fr)) (I.mono _ _ _ _ _ _ (a8 H.fr) hsh)) (λr s' hh=> ?_) λu v h=>h;obtain⟨W',le,I',rfl⟩:=hh;refine ve (eE.back H.inv H.fr le I') λl2 I2 F2 _ _=>g _ s' l2 ⟨I2,F2⟩
theorem ki {ok:St->Prop} {Q:Unit->Shared->Prop} (I:ItrN C k ok xs src Sh tgt)
  (H:At C sc A W env ms Z s) (K:fA C W env src Sh i it s) (g: ∀s',At C sc A W env ms Z s'->fA C W env src Sh i it s'->Q () s'):wpAny C.M A (letOwnedTupleGo tgt (.ref it) rx) Q No s:=by
 refine tO K.ex λst rs hg hn hv hsh=>bH (I.hZ i W Z rs rx st it A s H.inv hg hsh) (λv s' u=> ?_) λv w h=>h;obtain⟨st',I',hg',hsub,hsh',hk⟩:=u;refine g s' ⟨I',H.fr.B5 (X:=λa=> ∃p∈st,a=p.1) (λa z=>c12 z λp hp e=>e▸(hn p hp).1) λb o nb=>hk b o λp hp e=>nb ⟨p,hp,e⟩⟩ ⟨st',rs,hg',λp hp=> ?_,hv,hsh'⟩;refine c12 (hsub p hp) λq hq e=>?_;rw [<-e];exact hn q hq
theorem eS {α:Type} {ok:St->Prop} {Sh:vZ} {t:Sem α} {R:Wd->α->Prop} {Q:α->Shared->Prop} (I:ItrN C k ok xs src Sh tgt)
  (H:At C sc A W env ms Z s) (K:fA C W env src Sh (i+1) it s)
  (h: ∀aR,W.le aR->At C sc A aR env ms Z s->wpAny C.M A t (ic C sc A aR env aK aB R) No s)
  (hR: ∀aR (X:Addr->Prop) r,(∀a o,X a->aR.fz a=some o->Jk o)->R aR r->R (aR.minus X) r)
  (g: ∀W' r s',W.le W'->At C sc A W' env aK aB s'->fA C W' env src Sh (i+1) it s'->R W' r->Q r s'):wpAny C.M A t Q No s:=by
 refine tO K.ex λst rs hg hn hv hsh=>?_;have jk:=I.jk W i it rs st hsh;refine bI (H.La (X:=λa=> ∃p∈st,a=p.1) λa m=>(by refine c12 m λp hp e=>?_;clear m;exact e▸⟨(hg p hp).2,(hn p hp).1⟩)) λle1 H1=>?_;refine bH (h _ le1 H1) (λr s' y=> ?_) λj u1 h=>h;obtain⟨W',le,H',hr⟩:=y;have e: ∀p∈st,W'.fz p.1=some p.2:=λp hp=>le.2 _ _ (by rw [Wd.nR ⟨p,hp,rfl⟩];exact(hg p hp).1);have hX: ∀a o,(∃p∈st,a=p.1)->W'.fz a=some o->Jk o/\o.cls≠ .type "frame":=λa o w q=>by refine c12 w λp hp z=>?_;clear w;subst z;rw [e p hp]at q;cases q;exact jk p hp
 have le2:W.le (W'.minus λa=> ∃p∈st,a=p.1):=⟨λl a q=>le.1 _ _ (le1.1 _ _ q),λa o q=>by
  rw [Wd.bB λv=>(by refine c12 v λp hp z=>?_;clear v;rw [z,(hg p hp).2.1]at q;exact dF q)];exact le.2 _ _ (le1.2 _ _ q)⟩
 refine g _ r s' le2 (H'.Gu hX λa u=>(by refine c12 u λp hp z=>?_;clear u;exact z▸(hn p hp).2)) ⟨st,rs,λp hp=>⟨H'.inv.frozen (e p hp) (jk p hp).2,Wd.d8 ⟨p,hp,rfl⟩,λl q=> ?_⟩,hn,hv.mono le2,I.mono _ _ _ _ _ _ le2 hsh⟩ (hR _ _ _ (λa o x q=>(hX a o x q).1) hr);have:=H'.inv.apart l p.1 q;rw [e p hp]at this;exact sa this
theorem bQ.minus: ∀aR (X:Addr->Prop) (r:Flow),(∀a o,X a->aR.fz a=some o->Jk o)->bQ aR f r->bQ (aR.minus X) f r:=λaR X r hc q=>by
 cases f with
 | ret v=>refine c12 q λx e q=>?_;exact i12 x e (q.taken hc)
 | _=>exact q
theorem Bx {ok:St->Prop} {Sh:vZ} (I:ItrN C k ok full src Sh tgt) {f:AF}
  (L:Lr C k sc ok tgt body xs ms Z f aK aB): ∀(i:Nat) (A:Around) (W:Wd) (env:Env) (s:Shared) (it:Addr),full.drop i=xs->i<=full.length->bY C A k->At C sc A W env ms Z s->fA C W env src Sh i it s->
  codeAny C.M A (.forLoop tgt (.ref it) body [] env) (λr s'=>match r with | .ok fl=>ic C sc A W env aK aB (λW r=>bQ W f.after r) fl s' | .error _=>False) s:=by
 induction L with
 | nil hok=>
  intro i A W env s it hd hi hr H K;have hlen:i=full.length:=by have:=dY List.length hd;rw [vT]at this;simp at this;omega
  subst hlen;refine mB ?_;rw [pK (A:=A) (c:= .forLoop tgt (.ref it) body [] env) rfl];refine(?_:wpAny C.M A ((forTurn tgt (.ref it) body [] env).onRaise _) _ _ s);refine jN (bH ?_ (λu g h=>h) (λ_ _ (h:False)=>h.elim));refine aj (cF (aj (jN (bH (uD (Q:=λr s'=>r=none/\ ∃W',W.le W'/\At C sc A W' env _ _ s') I hok hr H K λW' s' le H'=>⟨rfl,W',le,H'⟩) (λr s' hh=> ?_) λu g h=>h.elim))));obtain⟨rfl,W',le,H'⟩:=hh;refine aQ ⟨rfl,mB ?_⟩;rw [pK (A:=A) (c:= .block [] env) rfl];refine(?_:wpAny C.M A (do return Fin.done (<-(execs [] env).onRaise _)) _ _ s');exact aj (jN (wpAny_execs_nil (aQ (bz le H' rfl))))
 | @cons x xs' JH JI L2 JK JL JM L3 JN me f hok ha hx hf hl ih=>
  intro i A W env s it hd hi hr H K;have hx0:full[i]? =some x:=by
   have e:(full.drop i)[0]? =some x:=by rw [hd];rfl
   rw [xH]at e;simpa using e
  have hd':full.drop (i+1)=xs':=by rw [<-List.drop_drop,hd];rfl
  have hi':i+1<=full.length:=(lF.mp hx0).1;refine mB ?_;rw [pK (A:=A) (c:= .forLoop tgt (.ref it) body [] env) rfl];refine(?_:wpAny C.M A ((forTurn tgt (.ref it) body [] env).onRaise _) _ _ s);refine jN (bH ?_ (λu g h=>h) (λ_ _ (h:False)=>h.elim));refine aj (cF (aj (jN (bH (lC (Q:=λr s'=> ∃W' rx,r=some rx/\W.le W'/\At C sc A W' env _ _ s'/\fA C W' env src Sh (i+1) it s'/\aw W' x rx) I hx0 hok hr H K
   λW' rx s' le H' K' q=>⟨W',rx,rfl,le,H',K',q⟩) (λr s' hh=> ?_) λu g h=>h.elim))))
  refine Bj hh λW' rx le H' K' q=>aj (ki I H' K' λaI aO tE=> ?_);refine aj (eS I aO tE (λbh l2 aG=>ha A bh env aI rx hr aG (q.mono l2)) (λu g m p j=>trivial) λbh u aT ax aG jC g=> ?_);refine aj (eS I aG jC (λbS l3 br=>hx A bS env aT hr br) bQ.minus λbS r bt bg br jJ hfl=> ?_);have rq:=le.trans (ax.trans bg);have go:=ih (i+1) A bS env bt it hd' hi' hr br jJ;have go':codeAny C.M A (.forLoop tgt (.ref it) body [] env) (λr s'=>match r with | .ok fl=>ic C sc A W env JK JN (λW r=>bQ W f.after r) fl s' | .error _=>False) bt:=
   kZ go λr s' hh=>by
    cases r with
    | ok fl=>obtain⟨W',l,z,z'⟩:=hh;exact⟨W',rq.trans l,z,z'⟩
    | error e=>exact hh
  rcases hf with rfl | rfl<;>(delta bQ at hfl;subst hfl;exact aQ ⟨rfl,go'⟩)
 | @stop x xs' JH JI JK JL JM JN f hok ha hx hf=>
  intro i A W env s it hd hi hr H K;have hx0:full[i]? =some x:=by
   have e:(full.drop i)[0]? =some x:=by rw [hd];rfl
   rw [xH]at e;simpa using e
  refine mB ?_;rw [pK (A:=A) (c:= .forLoop tgt (.ref it) body [] env) rfl];refine(?_:wpAny C.M A ((forTurn tgt (.ref it) body [] env).onRaise _) _ _ s);refine jN (bH ?_ (λu g h=>h) (λ_ _ (h:False)=>h.elim));refine aj (cF (aj (jN (bH (lC (Q:=λr s'=> ∃W' rx,r=some rx/\W.le W'/\At C sc A W' env _ _ s'/\fA C W' env src Sh (i+1) it s'/\aw W' x rx) I hx0 hok hr H K
   λW' rx s' le H' K' q=>⟨W',rx,rfl,le,H',K',q⟩) (λr s' hh=> ?_) λu g h=>h.elim))))
  refine Bj hh λW' rx le H' K' q=>aj (ki I H' K' λaI aO tE=> ?_);refine aj (eS I aO tE (λbh l2 aG=>ha A bh env aI rx hr aG (q.mono l2)) (λu g m p j=>trivial) λbh u aT ax aG jC g=> ?_);refine aj (bf (hx A bh env aT hr aG) λbS r bt bg br hfl=> ?_);have rq:=le.trans (ax.trans bg);refine aP hf (λt=>?_) λw=>cG w λv y=>?_
  ·subst t;delta bQ at hfl;subst hfl;exact aQ (bz rq br rfl)
  ·subst y;refine yu hfl λx z=>aQ (bz rq br ⟨x,rfl,z⟩)
noncomputable def oB (C:Cx) (k:Nat) (sc:Scope) (ms:List (Option AV)) (Z:St) (iter:Expr) (ai:List (Option AV)) (ae:St) (src:AV) (Sh:vZ):Prop:=
 ∀(β:Type) (A:Around) (W:Wd) (env:Env) (s:Shared) (pos:Pos) (rest:Value->Sem β) (Q:β->Shared->Prop),bY C A k->At C sc A W env ms Z s->
  (∀W' it s',W.le W'->At C sc A W' env ai ae s'->fA C W' env src Sh 0 it s'->wpAny C.M A (rest (.ref it)) Q No s')->
  wpAny C.M A (eval iter env>>=λx=>standAt pos>>=λ_=>foldedSetIterable iter env x>>=λx=>holding [x] (pyIter x)>>=rest) Q No s
theorem vK.starts {ok:St->Prop} (h1:Ev C k sc ms Z iter v ai ae) (I:vK C k ok v xs src Sh tgt) (hok:ok ae)
  (hs: ∀env x,foldedSetIterable iter env x=pure x):oB C k sc ms Z iter ai ae src Sh:=λβ A W env s pos rest Q hr H g=>
 cX (h1 A W env s hr H) λaR rv aI aA aO p9=>aj (cF (aj (eL (hs _ _) (aj (cE (mv I hok hr aO p9 λbh it aT ax aG jC=>g bh it aT (aA.trans ax) aG jC))))))
theorem jq {ok:St->Prop} (h1:Ev C k sc ms Z iter v ai ae) (I:vK C k ok v xs src Sh tgt) (hok:ok ae) (L:Lr C k sc ok tgt body xs ai ae f aK aB)
  (hs: ∀env x,foldedSetIterable iter env x=pure x):X1 C k sc ms Z (.For tgt iter body [] pos) f.after aK aB:=by
 intro A W env s hr H;refine(?_:wpAny C.M A (exec (.For tgt iter body [] pos) env) _ _ _);rw [arm_exec_For];refine aj (cF (cX (h1 A W env s hr H) λaR rv aI aA aO q=>aj (eL (hs _ _) (aj (cF (aj (cE ?_)))))));refine mv I hok hr aO q λbh it aT ax aG jC=>wpAny_runOwn (h:=none) ?_;rw [mark_none];refine kZ (Bx I.toItrN L 0 A bh env aT it rfl (dW _) hr aG jC) λr s' hh=> ?_;cases r with
 | ok fl=>obtain⟨W',l,z,z'⟩:=hh;exact⟨W',aA.trans (ax.trans l),z,z'⟩
 | error e=>exact hh.elim
end
end V
end
section
namespace V
noncomputable def uS (e:Expr) (acc:Value) (env:Env):Sem Unit:=
 if h:e.ctorIdx=8 then Expr.ListComp.elim (motive_1:=λ_=>Sem Unit) e h λelt _ _ _=>do let _<-call (.builtin "list.append") [acc,<-eval elt env]
 else if h:e.ctorIdx=10 then Expr.DictComp.elim (motive_1:=λ_=>Sem Unit) e h λk v _ _ _=>do
  let kv<-eval k env
  let vv<-holding [kv] (eval v env)
  match acc with
  | .ref d=>do
   standAt {k.pos with endLine:=v.pos.endLine,endCol:=v.pos.endCol}
   holding [kv,vv] (dictSet d kv vv)
  | _=>unsupported "internal:dictcomp"
 else unsupported "internal:not-a-comprehension"
noncomputable def eK (e:Expr):Option (List Comprehension):=
 if h:e.ctorIdx=8 then Expr.ListComp.elim (motive_1:=λ_=>Option (List Comprehension)) e h λ_ gens _ _=>some gens
 else if h:e.ctorIdx=10 then Expr.DictComp.elim (motive_1:=λ_=>Option (List Comprehension)) e h λ_ _ gens _ _=>some gens
 else none
theorem d7 (he:eK e=some gens):(∃a b c,e= .ListComp a gens b c)\/ ∃a b c d,e= .DictComp a b gens c d:=by
 by_cases h:e.ctorIdx=8
 ·exact Expr.ListComp.elim (motive_1:=λe=>eK e=some gens->(∃a b c,e= .ListComp a gens b c)\/ ∃a b c d,e= .DictComp a b gens c d) e h (λa g b c he=> .inl ⟨a,b,c,dY (λg=>Expr.ListComp a g b c) (dI he)⟩) he
 ·by_cases h2:e.ctorIdx=10
  ·exact Expr.DictComp.elim (motive_1:=λe=>eK e=some gens->(∃a b c,e= .ListComp a gens b c)\/ ∃a b c d,e= .DictComp a b gens c d) e h2 (λk a g b c he=> .inr ⟨k,a,b,c,dY (λg=>Expr.DictComp k a g b c) (dI he)⟩) he
  ·exact dF (((dif_neg h).trans (dif_neg h2)).symm.trans he)
noncomputable def iS (e:Expr) (gens:List Comprehension) (depth:Nat) (acc:Value) (env:Env):Sem Unit:=
 match gens[depth]? with
 | some g'=>do
  let x<-eval g'.iter env
  standAt g'.iter.pos
  let x<-if g'.is_async !=0 then foldedIterable g'.iter x else foldedSetIterable g'.iter env x
  let _<-runOwn (.compStart e depth (<-holding [x] (if g'.is_async !=0 then asyncIter x else pyIter x)) acc env) env
  pure ()
 | none=>uS e acc env
section
variable {C:Cx} {k:Nat} {sc:Scope} {A:Around} {W:Wd} {env:Env} {ms ai aZ b6 aK:List (Option AV)} {Z ae aN bX aB:St} {s:Shared}
theorem BJ {α:Type} {M:Model} {t t':Sem α} {Q:α->Shared->Prop} {E:Value->Shared->Prop} (e:t=t') (h:wpAny M A t' Q E s):wpAny M A t Q E s:=e▸h
theorem A7 {M:Model} {P:Sem Fin} {ps:Pos} {T:Sem Fin} {G:Option Value->Sem Fin} {N L:Value->Sem Unit} {ifs:List Expr} {F:Expr->Bool->Sem (ForInStep Bool)} {R:Bool->Sem Fin} {X:Sem Unit} {Cd:Code} {Q:Fin->Shared->Prop} {E:Value->Shared->Prop}
  (hP:P=(standAt ps>>=λu=>T)) (hT:T=(pyNext it>>=G)) (hG: ∀v,G (some v)=(L v>>=λu=>N v>>=λu=>forIn ifs true F>>=R)) (hF: ∀c,F c true=(isTrue c env (eval c env)>>=λb=>pure (.yield b)))
  (h1:R true=(X>>=λu=>again Cd)) (h0:R false=again Cd) (hi:ifs= []\/ ∃c,ifs= [c])
  (h:wpAny M A (pyNext it) (λr s'=> ∃v,r=some v/\wpAny M A (L v) (λu aI=>wpAny M A (N v) (λu aT=>
   wpAny M A (match ifs with | c::_=>isTrue c env (eval c env) | []=>pure true) (λb bt=>if b then wpAny M A X (λu jd=>Q (.again Cd) jd) E bt else Q (.again Cd) bt) E aT) E aI) E s') E s):wpAny M A P Q E s:=by
 rw [hP,hT];have fin: ∀b bt,(if b=true then wpAny M A X (λu jd=>Q (.again Cd) jd) E bt else Q (.again Cd) bt)->wpAny M A (R b) Q E bt:=by
  intro b bt z;cases b with
  | true=>rw [h1];exact aj (bH z (λu g z=>aQ z) λu g x=>x)
  | false=>rw [h0];exact aQ z
 refine aj (cF (aj (bH h (λr s' hh=> ?_) λu g x=>x)));refine yu hh λv q=>?_;rw [hG];refine aj (bH q (λu aI q=>aj (bH q (λu aT q=> ?_) λu g x=>x)) λu g x=>x);refine aP hi (λhi=>?_) λw=>cG w λc hi=>?_
 ·rw [hi]at q⊢;rw [vL];exact aj (aQ λΓ p D9=>fin true _ (q Γ p D9) Γ p D9)
 ·rw [hi]at q⊢;rw [nv,hF];exact aj (aj (aj (bH q (λb bt z=>aQ (aQ (fin b bt z))) λu g x=>x)))
theorem FY {M:Model} {P:Sem Fin} {ps:Pos} {T:Sem Fin} {G:Option Value->Sem Fin} {Q:Fin->Shared->Prop} {E:Value->Shared->Prop}
  (hP:P=(standAt ps>>=λu=>T)) (hT:T=(pyNext it>>=G)) (hG:G none=pure (.done .next)) (h:wpAny M A (pyNext it) (λr s'=>r=none/\Q (.done .next) s') E s):wpAny M A P Q E s:=by
 rw [hP,hT];refine aj (cF (aj (bH h (λr s' hh=> ?_) λu v x=>x)));rw [hh.1,hG];exact aQ hh.2
theorem pR {E:Value->Shared->Prop} {Q:Fin->Shared->Prop} (he:eK e=some gens) (hg:gens[depth]? =some g) (ha:g.is_async=0)
  (h:wpAny C.M A (pyNext it) (λr s'=>r=none/\Q (.done .next) s') E s):wpAny C.M A (compTurn e depth it acc env) Q E s:=by
 have ht: ¬(g.is_async !=0)=true:=by rw [ha];exact dM
 rcases d7 he with⟨_,_,_,rfl⟩ | ⟨_,_,_,_,rfl⟩
 all_goals
  apply FY (hT:=ay ht) (h:=h)
  case hP=>
   delta compTurn;dsimp only;rw [hg]
  case hG=>rfl
theorem kF {gens:List Comprehension} {g:Comprehension} {E:Value->Shared->Prop} {Q:Fin->Shared->Prop} (he:eK e=some gens) (hg:gens[depth]? =some g) (ha: ∀g∈gens,g.is_async=0)
  (hi:g.ifs= []\/ ∃c,g.ifs= [c])
  (h:wpAny C.M A (pyNext it) (λr s'=> ∃v,r=some v/\wpAny C.M A (letOwnedTupleGo g.target it v) (λu aI=>wpAny C.M A (assign g.target env v) (λu aT=>
   wpAny C.M A (match g.ifs with | c::_=>isTrue c env (eval c env) | []=>pure true) (λb bt=>if b then wpAny C.M A (iS e gens (depth+1) acc env) (λu jd=>Q (.again (.compLoop e depth it acc env)) jd) E bt else Q (.again (.compLoop e depth it acc env)) bt) E aT) E aI) E s') E s):
  wpAny C.M A (compTurn e depth it acc env) Q E s:=by
 have ha0:=ha g (ik hg);have ht: ¬(g.is_async !=0)=true:=by rw [ha0];exact dM
 rcases d7 he with⟨_,_,_,rfl⟩ | ⟨_,_,_,_,rfl⟩
 all_goals
  apply A7 (hT:=ay ht) (hi:=hi) (h:=h)
  case hP=>
   delta compTurn;dsimp only;rw [hg]
  case hG=>exact λv=>rfl
  case hF=>exact λc=>rfl
  case h0=>rfl
  case h1=>
   delta iS;cases hn:gens[depth+1]? with
   | none=>rfl
   | some g'=>have ha':=ha g' (ik hn);simp only [ha',Cf,iO,jh,bind_assoc,pure_bind];rfl
theorem kP (he:eK e=some gens):(Code.compLoop e depth it acc env).quiet=true:=by
 rcases d7 he with⟨_,_,_,rfl⟩ | ⟨_,_,_,_,rfl⟩<;>rfl
theorem iG {R:Result->Shared->Prop} (he:eK e=some gens)
  (h:wpAny C.M A (compTurn e depth it acc env) (λfin s'=>match fin with | .done f=>R (.ok f) s' | .again c'=>c'.quiet=true/\codeAny C.M A c' R s') No s):codeAny C.M A (.compLoop e depth it acc env) R s:=by
 rcases d7 he with⟨_,_,_,rfl⟩ | ⟨_,_,_,_,rfl⟩
 all_goals
  refine mB ?_;rw [pK (A:=A) rfl];refine(?_:wpAny C.M A ((compTurn _ depth it acc env).onRaise _) _ _ s);exact jN (bH h (λu v h=>h) (λ_ _ (h:False)=>h.elim))
theorem jQ {R:Result->Shared->Prop} (he:eK e=some gens) (hg:gens[depth]? =some g) (ha:g.is_async=0)
  (hit: ∀(Q:Value->Shared->Prop),Q it s->wpAny C.M A (pyIter it) Q No s) (h:codeAny C.M A (.compLoop e depth it acc env) R s):codeAny C.M A (.compStart e depth it acc env) R s:=by
 have hc:clausesOf e=gens:=by
  rcases d7 he with⟨_,_,_,rfl⟩ | ⟨_,_,_,_,rfl⟩
  all_goals rfl
 have key:wpAny C.M A (compStart e depth it acc env) (λfin s'=>match fin with | .done f=>R (.ok f) s' | .again c'=>c'.quiet=true/\codeAny C.M A c' R s') No s:=by
  have q:(Code.compLoop e depth it acc env).quiet=true:=kP he;delta compStart;rw [hc,hg];simp only [Option.elim_some,ha,Cf,iO,jh];refine aj (wpAny_askSetting (wpAny_ite ?_));split
  ·first
    | exact aj (aQ (aQ ⟨q,h⟩))
    | exact aQ ⟨q,h⟩
  ·refine aj (rL ?_)
   first
    | exact aj (cF (aj (hit _ (aQ ⟨q,h⟩))))
    | exact aj (aj (cF (aQ (aj (hit _ (aQ ⟨q,h⟩))))))
 rcases d7 he with⟨_,_,_,rfl⟩ | ⟨_,_,_,_,rfl⟩
 all_goals
  refine mB ?_;rw [pK (A:=A) rfl];refine(?_:wpAny C.M A ((compStart _ depth it acc env).onRaise _) _ _ s);exact jN (bH key (λu v h=>h) (λ_ _ (h:False)=>h.elim))
noncomputable def Em (C:Cx) (k:Nat) (sc:Scope) (la:Loc) (e:Expr) (ms:List (Option AV)) (Z:St) (aK:List (Option AV)) (aB:St):Prop:=
 ∀A W env s iR,bY C A k->At C sc A W env ms Z s->aw W (.loc la) iR->wpAny C.M A (uS e iR env) (ic C sc A W env aK aB λ_ _=>True) No s
noncomputable def Ar (C:Cx) (k:Nat) (sc:Scope) (ms:List (Option AV)) (Z:St) (ifs:List Expr) (aK:List (Option AV)) (aB:St):Prop:=
 (ifs= []/\aK=ms/\aB=Z)\/ ∃c,ifs= [c]/\Tv C k sc ms Z c true aK aB
mutual
inductive CB (C:Cx) (k:Nat) (sc:Scope) (la:Loc) (e:Expr):List Comprehension->List (Option AV)->St->List (Option AV)->St->Prop
 | emit {ms aK:List (Option AV)} {Z aB:St} (h:Em C k sc la e ms Z aK aB):CB C k sc la e [] ms Z aK aB
 | gen {g:Comprehension} {gs:List Comprehension} {v src:AV} {xs:List AV} {ok:St->Prop} {Sh:vZ} {ms ai aK:List (Option AV)} {Z ae aB:St}
   (h1:Ev C k sc ms Z g.iter v ai ae) (I:vK C k ok v xs src Sh g.target) (hok:ok ae) (hs: ∀env x,foldedSetIterable g.iter env x=pure x) (hl:CL C k sc la e ok g gs xs ai ae aK aB):CB C k sc la e (g::gs) ms Z aK aB
inductive CL (C:Cx) (k:Nat) (sc:Scope) (la:Loc) (e:Expr):(St->Prop)->Comprehension->List Comprehension->List AV->List (Option AV)->St->List (Option AV)->St->Prop
 | nil {ok:St->Prop} {g:Comprehension} {gs:List Comprehension} {ms:List (Option AV)} {Z:St} (h:ok Z):CL C k sc la e ok g gs [] ms Z ms Z
 | skip {ok:St->Prop} {g:Comprehension} {gs:List Comprehension} {x:AV} {xs:List AV} {ms ai aZ aK:List (Option AV)} {Z ae aN aB:St} {c:Expr} (h:ok Z) (ha:As C k sc ms Z g.target x ai ae) (hi:g.ifs= [c])
   (ht:Tv C k sc ai ae c false aZ aN) (hl:CL C k sc la e ok g gs xs aZ aN aK aB):CL C k sc la e ok g gs (x::xs) ms Z aK aB
 | take {ok:St->Prop} {g:Comprehension} {gs:List Comprehension} {x:AV} {xs:List AV} {ms ai aZ b6 aK:List (Option AV)} {Z ae aN bX aB:St} (h:ok Z) (ha:As C k sc ms Z g.target x ai ae) (hc:Ar C k sc ai ae g.ifs aZ aN)
   (hb:CB C k sc la e gs aZ aN b6 bX) (hl:CL C k sc la e ok g gs xs b6 bX aK aB):CL C k sc la e ok g gs (x::xs) ms Z aK aB
end
theorem Ar.shape (h:Ar C k sc ms Z ifs aK aB):ifs= []\/ ∃c,ifs= [c]:=by
 refine aP h (λz=>bI z λh _=>?_) λq=>c12 q λc h _=>?_
 ·exact .inl h
 ·exact .inr ⟨c,h⟩
theorem Ar.run (h:Ar C k sc ms Z ifs aK aB) (hr:bY C A k) (H:At C sc A W env ms Z s):
  wpAny C.M A (match ifs with | c::_=>isTrue c env (eval c env) | []=>pure true) (ic C sc A W env aK aB λg b=>b=true) No s:=by
 refine aP h (λu=>nM u λv=>?_) λq=>c12 q λc z=>?_
 ·subst v;intro w;subst w;intro y;subst y;exact aQ (bz (.refl W) H rfl)
 ·subst z;intro h;exact h A W env s hr H
theorem qH {full:List AV} {x:AV} {xs:List AV} {i:Nat} (hd:full.drop i=x::xs):full[i]? =some x/\full.drop (i+1)=xs/\i+1<=full.length:=by
 have hx0:full[i]? =some x:=by
  have e:(full.drop i)[0]? =some x:=by rw [hd];rfl
  rw [xH]at e;simpa using e
 exact m9 hx0 (by rw [<-List.drop_drop,hd];rfl) (lF.mp hx0).1
noncomputable def EL (C:Cx) (k:Nat) (sc:Scope) (la:Loc) (e:Expr) (gens gs:List Comprehension) (ms:List (Option AV)) (Z:St) (aK:List (Option AV)) (aB:St):Prop:=
 ∀(depth:Nat) (A:Around) (W:Wd) (env:Env) (s:Shared) (iR:Value),gens.drop depth=gs->bY C A k->At C sc A W env ms Z s->aw W (.loc la) iR->
  wpAny C.M A (iS e gens depth iR env) (ic C sc A W env aK aB λ_ _=>True) No s
noncomputable def uw (C:Cx) (k:Nat) (sc:Scope) (la:Loc) (e:Expr) (gens:List Comprehension) (ok:St->Prop) (g:Comprehension) (gs:List Comprehension) (xs:List AV) (ms:List (Option AV)) (Z:St) (aK:List (Option AV)) (aB:St):Prop:=
 ∀(src:AV) (full:List AV) (Sh:vZ),ItrN C k ok full src Sh g.target-> ∀(i depth:Nat) (A:Around) (W:Wd) (env:Env) (s:Shared) (iR:Value) (it:Addr),full.drop i=xs->i<=full.length->
  gens[depth]? =some g->gens.drop (depth+1)=gs->bY C A k->At C sc A W env ms Z s->fA C W env src Sh i it s->aw W (.loc la) iR->
  codeAny C.M A (.compLoop e depth (.ref it) iR env) (λr s'=>match r with | .ok fl=>ic C sc A W env aK aB (λ_ _=>True) fl s' | .error _=>False) s
section
variable {la:Loc} {e:Expr} {gens gs:List Comprehension} {g:Comprehension} {ok:St->Prop} {x:AV} {xs:List AV}
theorem Cm (h:Em C k sc la e ms Z aK aB):EL C k sc la e gens [] ms Z aK aB:=by
 intro depth A W env s iR hd hr H q;have hn:gens[depth]? =none:=by have:=dY List.length hd;rw [vT]at this;simp at this;exact List.getElem?_eq_none (by omega)
 delta iS;rw [hn];exact h A W env s iR hr H q
theorem ES (he:eK e=some gens) (hall: ∀g∈gens,g.is_async=0) (h1:Ev C k sc ms Z g.iter v ai ae) (I:vK C k ok v xs src Sh g.target) (hok:ok ae) (hs: ∀env x,foldedSetIterable g.iter env x=pure x)
  (ih:uw C k sc la e gens ok g gs xs ai ae aK aB):EL C k sc la e gens (g::gs) ms Z aK aB:=by
 intro depth A W env s iR hd hr H q;have hg:gens[depth]? =some g:=by
  have e:(gens.drop depth)[0]? =some g:=by rw [hd];rfl
  rw [xH]at e;simpa using e
 have hd':gens.drop (depth+1)=gs:=by rw [<-List.drop_drop,hd];rfl
 have ha:=hall g (ik hg);delta iS;rw [hg];simp only [ha,Cf,iO,jh];refine cX (h1 A W env s hr H) λaR rv aI aA aO p9=>aj (cF (aj (eL (hs _ _) (aj (cE ?_)))));refine mv I hok hr aO p9 λbh it aT ax aG jC=>aj (wpAny_runOwn (h:=none) ?_);rw [mark_none];refine tO jC.ex λst rs hob _ _ hsh=>jQ he hg ha (λQ z=>I.self _ 0 rs st it A aT No Q (λp hp=>(hob p hp).1) hsh z) ?_;refine kZ (ih _ _ _ I.toItrN 0 depth A bh env aT iR it rfl (dW _) hg hd' hr aG jC ((q.mono aA).mono ax)) λr s' hh=> ?_;cases r with
 | ok fl=>obtain⟨W',l,z,_⟩:=hh;exact aQ (bz (aA.trans (ax.trans l)) z trivial)
 | error e=>exact hh.elim
theorem EE (he:eK e=some gens) (hall: ∀g∈gens,g.is_async=0) (hok:ok Z):uw C k sc la e gens ok g gs [] ms Z ms Z:=by
 intro src full Sh I i depth A W env s iR it hd hi hg hgs hr H K q;have hlen:i=full.length:=by have:=dY List.length hd;rw [vT]at this;simp at this;omega
 subst hlen;refine iG he (pR he hg (hall _ (ik hg)) ?_);exact bH (uD (Q:=λr s'=>r=none/\ ∃W',W.le W'/\At C sc A W' env _ _ s') I hok hr H K λW' s' le H'=>⟨rfl,W',le,H'⟩) (λr s' hh=>by
  obtain⟨rfl,W',le,H'⟩:=hh;exact⟨rfl,W',le,H',trivial⟩) λu v h=>h.elim
theorem Bw (he:eK e=some gens) (hall: ∀g∈gens,g.is_async=0) {c:Expr} (hok:ok Z) (ha:As C k sc ms Z g.target x ai ae) (hif:g.ifs= [c]) (ht:Tv C k sc ai ae c false aZ aN)
  (ih:uw C k sc la e gens ok g gs xs aZ aN aK aB):uw C k sc la e gens ok g gs (x::xs) ms Z aK aB:=by
 intro src full Sh I i depth A W env s iR it hd hi hg hgs hr H K q;refine nM (qH hd) λhx0 hd' hi'=>iG he (kF he hg hall (.inr ⟨c,hif⟩) ?_);refine bH (lC (Q:=λr s'=> ∃W' rx,r=some rx/\W.le W'/\At C sc A W' env _ _ s'/\fA C W' env src Sh (i+1) it s'/\aw W' _ rx) I hx0 hok hr H K λW' rx s' le H' K' q=>⟨W',rx,rfl,le,H',K',q⟩) (λr s' hh=> ?_) λu v h=>h.elim;refine Bj hh λW' rx le H' K' qx=>i12 rx rfl (ki I H' K' λaI aO tE=> ?_);refine eS I aO tE (λbh l2 aG=>ha A bh env aI rx hr aG (qx.mono l2)) (λu v w m y=>trivial) λbh u aT ax aG jC v=> ?_;rw [hif];refine eS I aG jC (λbS l3 br=>ht A bS env aT hr br) (λu v w m q=>q) λbS b bt bg br jJ hb=> ?_;subst hb;have rq:=le.trans (ax.trans bg);refine⟨kP he,kZ (ih _ _ _ I (i+1) depth A bS env bt iR it hd' hi' hg hgs hr br jJ (q.mono rq)) λr s' hh=> ?_⟩;cases r with
 | ok fl=>obtain⟨W',l,z,z'⟩:=hh;exact⟨W',rq.trans l,z,z'⟩
 | error e=>exact hh
theorem Ct (he:eK e=some gens) (hall: ∀g∈gens,g.is_async=0) (hok:ok Z) (ha:As C k sc ms Z g.target x ai ae) (hc:Ar C k sc ai ae g.ifs aZ aN) (ihb:EL C k sc la e gens gs aZ aN b6 bX)
  (ih:uw C k sc la e gens ok g gs xs b6 bX aK aB):uw C k sc la e gens ok g gs (x::xs) ms Z aK aB:=by
 intro src full Sh I i depth A W env s iR it hd hi hg hgs hr H K q;refine nM (qH hd) λhx0 hd' hi'=>iG he (kF he hg hall hc.shape ?_);refine bH (lC (Q:=λr s'=> ∃W' rx,r=some rx/\W.le W'/\At C sc A W' env _ _ s'/\fA C W' env src Sh (i+1) it s'/\aw W' _ rx) I hx0 hok hr H K λW' rx s' le H' K' q=>⟨W',rx,rfl,le,H',K',q⟩) (λr s' hh=> ?_) λu v h=>h.elim;refine Bj hh λW' rx le H' K' qx=>i12 rx rfl (ki I H' K' λaI aO tE=> ?_);refine eS I aO tE (λbh l2 aG=>ha A bh env aI rx hr aG (qx.mono l2)) (λu v w m y=>trivial) λbh u aT ax aG jC v=>eS I aG jC (λbS l3 br=>hc.run hr br) (λu v w m q=>q) λbS b bt bg br jJ hb'=> ?_;subst hb';refine eS I br jJ (λnD l4 gu=>ihb (depth+1) A nD env bt iR hgs hr gu ((q.mono (le.trans (ax.trans bg))).mono l4)) (λu v w m y=>trivial) λnD u jd eW gu Gi v=> ?_;have rq:=le.trans (ax.trans (bg.trans eW));refine⟨kP he,kZ (ih _ _ _ I (i+1) depth A nD env jd iR it hd' hi' hg hgs hr gu Gi (q.mono rq)) λr s' hh=> ?_⟩;cases r with
 | ok fl=>obtain⟨W',l,z,z'⟩:=hh;exact⟨W',rq.trans l,z,z'⟩
 | error e=>exact hh
theorem DJ (he:eK e=some gens) (hall: ∀g∈gens,g.is_async=0) (h:CL C k sc la e ok g gs xs ms Z aK aB):uw C k sc la e gens ok g gs xs ms Z aK aB:=
 CL.rec (motive_1:=λgs ms Z aK aB u=>EL C k sc la e gens gs ms Z aK aB) (motive_2:=λok g gs xs ms Z aK aB u=>uw C k sc la e gens ok g gs xs ms Z aK aB)
  (λh=>Cm h) (λh1 I hok hs u ih=>ES he hall h1 I hok hs ih) (λhok=>EE he hall hok) (λhok ha hif ht u ih=>Bw he hall hok ha hif ht ih)
  (λhok ha hc u v ihb ih=>Ct he hall hok ha hc ihb ih) h
end
end
end V
end
section
namespace V
noncomputable def bD (scope:Scope):Scope:={scope with names:=scope.names.map λp=>if p.2== .free then(p.1,.cell)else p}
noncomputable def l8 (scope:Scope):List Nat:=(List.range scope.names.length).filter λj=>(scope.names[j]?).any λp=>p.2== .free
section
variable {M:Model} {A:Around} {E:Value->Shared->Prop} {s:Shared}
theorem nh {Q:List (Str×Addr)->Shared->Prop} (hf: ∀x,(x,NameKind.free)∈scope.names-> ∃a,env.cells.lookup x=some a)
  (h: ∀cs,(∀x a,(x,a)∈cs->(x,NameKind.free)∈scope.names/\env.cells.lookup x=some a)->(∀x,(x,NameKind.free)∈scope.names->cs.lookup x=env.cells.lookup x)->Q cs s):wpAny M A (closureFor scope env) Q E s:=by
 suffices go: ∀(names:List (Str×NameKind)) (acc:List (Str×Addr)),(∀x,(x,NameKind.free)∈names-> ∃a,env.cells.lookup x=some a)->
   ∀(Q:List (Str×Addr)->Shared->Prop) (f:Str×NameKind->List (Str×Addr)->Sem (ForInStep (List (Str×Addr)))),
    (∀n kd cs,f (n,kd) cs=if(kd== .free)=true then(do let a<-cellOf env n;pure (.yield ((n,a)::cs)))else pure (.yield cs))->
   (∀cs,(∀x a,(x,a)∈cs->(x,a)∈acc\/((x,NameKind.free)∈names/\env.cells.lookup x=some a))->(∀x,(x,NameKind.free)∈names->cs.lookup x=env.cells.lookup x)->(∀x,(x,NameKind.free)∉names->cs.lookup x=acc.lookup x)->Q cs s)->
   wpAny M A (forIn names acc f) Q E s by
  refine aj (go scope.names [] hf _ _ (λn kd cs=>by cases hk:kd==NameKind.free<;>simp [hk]) λcs h1 h2 v=>aQ (h cs (λx a hm=> ?_) h2));refine aP (h1 x a hm) (λq=>?_) λq=>?_
  ·exact je q
  ·exact q
 intro names
 induction names with
 | nil=>intro acc v Q f w h;rw [vL];exact aQ (h acc (λx a hm=> .inl hm) (λx hm=>by exact je hm) λv w=>rfl)
 | cons y r ih=>
  intro acc hf Q f hfe h;obtain⟨n,kd⟩:=y;rw [nv,hfe];have hr: ∀x,(x,NameKind.free)∈r-> ∃a,env.cells.lookup x=some a:=λx hx=>hf x (.tail _ hx);by_cases hk:kd=NameKind.free
  ·subst hk;refine cG (hf n (.head _)) λa ha=>aj (aj (wpAny_cellOf ha (aQ (ih ((n,a)::acc) hr Q f hfe λcs h1 h2 h3=>h cs (λx b hm=> ?_) (λx hx=> ?_) λx hx=> ?_))))
   ·refine aP (h1 x b hm) (λq=>?_) λu=>bI u λq1 q2=>?_
    ·cases q with
     | head=>exact .inr ⟨.head _,ha⟩
     | tail _ q=>exact .inl q
    ·exact .inr ⟨.tail _ q1,q2⟩
   ·by_cases hx':(x,NameKind.free)∈r
    ·exact h2 x hx'
    ·rw [h3 x hx'];cases hx with
     | head=>rw [List.lookup_cons_self,ha]
     | tail _ q=>exact absurd q hx'
   ·have hx':(x,NameKind.free)∉r:=λq=>hx (.tail _ q);have hn:x≠n:=λq=>hx (q▸ .head _);rw [h3 x hx',List.lookup_cons,tr.mpr hn]
  ·have hb:(kd==NameKind.free)=false:=by simpa using hk
   simp only [hb,iO,jh];refine aj (aQ (ih acc hr Q f hfe λcs h1 h2 h3=>h cs (λx b hm=> ?_) (λx hx=> ?_) λx hx=> ?_))
   ·refine aP (h1 x b hm) (λq=>?_) λz=>bI z λq1 q2=>?_
    ·exact .inl q
    ·exact .inr ⟨.tail _ q1,q2⟩
   ·cases hx with
    | head=>exact absurd rfl hk
    | tail _ q=>exact h2 x q
   ·exact h3 x λq=>hx (.tail _ q)
theorem nj {Q:Env->Shared->Prop}
  (h:Q {scope,locals:=s.heap.objs.size,globals,cells:=cellsFrom (s.heap.objs.size+1) scope.names closure,qual,func:=none,code:=outer.code,frame:=outer.frame,builtins:=outer.builtins}
   {s with heap:=pushCells (s.heap.push {cls:= .type "dict",data:= .dict #[]}) scope.names}):
  wpAny M A (newFunctionEnv scope globals closure [] qual none .none (some outer)) Q E s:=by
 simp only [newFunctionEnv,Option.isSome_some,if_true];refine aj (wpAny_alloc ?_);refine aj (wpAny_layCells _ (λname kind cells=>by cases hkc:kind==NameKind.cell<;>simp [hkc]) _ _ _ _ ?_);refine aj ?_;rw [vL];refine aQ (aQ ?_);rw [show({s with heap:=s.heap.push {cls:= .type "dict",data:= .dict #[]}}:Shared).heap.objs.size=s.heap.objs.size+1 from nB ..];exact h
end
theorem pQ: ∀(names:List (Str×NameKind)) (n:Nat) (acc:List (Str×Addr)) (x:Str) (a:Addr),(x,a)∈cellsFrom n names acc->(x,a)∈acc\/((x,NameKind.cell)∈names/\n<=a):=by
 intro aH;induction aH with
 | nil=>exact λ_ _ _ _ h=> .inl h
 | cons dQ r ih=>
  exact λn acc x a h=>by
   obtain⟨y,kd⟩:=dQ;unfold cellsFrom at h;split at h
   ·rename_i hk;refine aP (ih (n+1) _ x a h) (λq=>?_) λu=>bI u λq1 q2=>?_
    ·cases q with
     | head=>exact .inr ⟨by rw [<-gJ.mp hk];exact .head _,bT _⟩
     | tail _ q=>exact .inl q
    ·exact .inr ⟨.tail _ q1,zq q2⟩
   ·refine aP (ih n acc x a h) (λq=>?_) λz=>bI z λq1 q2=>?_
    ·exact .inl q
    ·exact .inr ⟨.tail _ q1,q2⟩
theorem m8: ∀(names:List (Str×NameKind)) (n:Nat) (acc:List (Str×Addr)) (x:Str),(x,NameKind.cell)∉names->(cellsFrom n names acc).lookup x=acc.lookup x:=by
 intro aH;induction aH with
 | nil=>exact λ_ _ _ _=>rfl
 | cons dQ r ih=>
  exact λn acc x h=>by
   obtain⟨y,kd⟩:=dQ;have hr:(x,NameKind.cell)∉r:=λq=>h (.tail _ q);unfold cellsFrom;split
   ·rename_i hk;have hn:x≠y:=λq=>h (by rw [q,<-gJ.mp hk];exact .head _);rw [ih _ _ x hr,List.lookup_cons,tr.mpr hn]
   ·exact ih n acc x hr
theorem pN: ∀(names:List (Str×NameKind)) (n:Nat) (acc:List (Str×Addr)) (p:Str×Addr),p∈acc->p∈cellsFrom n names acc:=by
 intro aH;induction aH with
 | nil=>exact λu v w h=>h
 | cons dQ r ih=>
  exact λn acc p h=>by
   obtain⟨y,kd⟩:=dQ;unfold cellsFrom;split
   ·exact ih _ _ p (.tail _ h)
   ·exact ih _ _ p h
theorem pT: ∀(names:List (Str×NameKind)) (h:Heap) (acc:List (Str×Addr)) (x y:Str) (a:Addr),(∀z b,(z,b)∈acc->b<h.objs.size)->(∀z u b,(z,b)∈acc->(u,b)∈acc->z=u)->
  (x,a)∈cellsFrom h.objs.size names acc->(y,a)∈cellsFrom h.objs.size names acc->x=y:=by
 intro aH;induction aH with
 | nil=>exact λ_ _ x y a _ hi hx hy=>hi x y a hx hy
 | cons dQ r ih=>
  exact λh acc x y a hl hi hx hy=>by
   obtain⟨z,kd⟩:=dQ;unfold cellsFrom at hx hy;split at hx
   ·rename_i hk;rw [aF hk]at hy;have e:(h.push {cls:= .type "cell",data:= .cell none}).objs.size=h.objs.size+1:=nB ..;rw [<-e]at hx hy;refine ih _ _ x y a (λu b hm=> ?_) (λu v b hu hv=> ?_) hx hy
    ·rw [e];cases hm with
     | head=>exact Nat.lt_succ_self _
     | tail _ hm=>exact Nat.lt_succ_of_lt (hl u b hm)
    ·cases hu with
     | head=>cases hv with
      | head=>rfl
      | tail _ hv=>exact absurd (hl v _ hv) (iN _)
     | tail _ hu=>cases hv with
      | head=>exact absurd (hl u _ hu) (iN _)
      | tail _ hv=>exact hi u v b hu hv
   ·rename_i hk;rw [ay hk]at hy;exact ih h acc x y a hl hi hx hy
noncomputable def eY (link:List (Nat×Nat)) (ms:List (Option AV)) (n:Nat):List (Option AV):=(List.range n).map λj=>(link.find? λp=>p.2==j).bind λp=>(ms[p.1]?).join
theorem jU (h:(eY link ms n)[j]? =some (some v)): ∃i,(i,j)∈link/\ms[i]? =some (some v):=by
 delta eY at h;rw [gr]at h;cases q:(List.range n)[j]? with
 | none=>rw [q]at h;exact dF h
 | some j'=>
  rw [q]at h;have hj:j'=j:=by refine cG (lF.mp q) λh1 h2=>?_;rw [List.getElem_range]at h2;exact h2.symm
  subst hj;have h:=dI h;refine c12 (Aw.mp h) λp hp hv=>?_;have h1:=List.mem_of_find?_eq_some hp;have h2:=List.find?_some hp;simp only [gJ]at h2;refine i12 p.1 (by rw [<-h2];exact h1) ?_;cases z:ms[p.1]? with
  | none=>rw [z]at hv;exact dF hv
  | some o=>rw [z]at hv;simp at hv;rw [hv]
theorem BZ {α:Type} {l:List (Option α)} {j:Nat} {v:α} (h:(l[j]?).join=some v):l[j]? =some (some v):=by
 cases z:l[j]? with
 | none=>rw [z]at h;exact dF h
 | some o=>rw [z]at h;simp at h;rw [h]
theorem tX (h:scope.names[j]? =some (x,NameKind.free)):j∈l8 scope:=by refine kO.mpr ⟨zG.mpr (lF.mp h).1,?_⟩;rw [h];rfl
section
variable {C:Cx} {k:Nat} {sc:Scope} {A:Around} {W:Wd} {env:Env} {ms ai aZ b6 aK:List (Option AV)} {Z ae aN bX aB:St} {s:Shared}
noncomputable def rJ (C:Cx) (Z:St) (newAcc:Sem Value) (la:Loc) (gd:AO):Prop:=
 Z la=none/\ ∃ob:Obj,ob.isFreed=false/\(∀W,fj C W gd ob)/\ ∀(M:Model) (A:Around) (E:Value->Shared->Prop) (s:Shared) (Q:Value->Shared->Prop),Q (.ref s.heap.objs.size) {s with heap:=s.heap.push ob}->wpAny M A newAcc Q E s
theorem At.named (H:At C sc A W env ms Z s) (hl:Z l=none) (hf:ob.isFreed=false) (r: ∀W,fj C W o ob):
  W.le (W.name l s.heap.objs.size)/\At C sc A (W.name l s.heap.objs.size) env ms (Z.set l o) {s with heap:=s.heap.push ob}:=by
 refine bI H.inv.cz λn1 n2=>bI (H.inv.new (t:=s.toks) (d:=s.drawn) (o:=o) hl n1 n2 H.inv.big (a9 _ _) (dZ _ hf) (r _)) λle I=>?_;refine⟨le,I,?_⟩;have F:=H.fr.B5 (X:=λw=>False) (λw x=>x.elim) (λb o w=>a9 s.heap ob b o);obtain⟨mr,hn,hv⟩:=F.ns;have ne: ∀a,Own env a->a≠s.heap.objs.size:=λa q e=>by obtain⟨_,_,o,h1,_⟩:=H.fr.own q;exact absurd (e▸ig h1) (iN _)
 have ap: ∀a,Own env a->(∀x,W.ρ x≠some a)-> ∀x,(W.name l s.heap.objs.size).ρ x≠some a:=λa q h x e=>by
  have e:(if x=l then some s.heap.objs.size else W.ρ x)=some a:=e;split at e
  ·cases e;exact ne _ q rfl
  ·exact h x e
 refine⟨F.scope,F.globals,F.builtins,F.ok,⟨mr,hn,λi x v h1 h2=>(c12 (hv i x v h1 h2) λr e q=>⟨r,e,q.mono le⟩)⟩,λi x hx=> ?_,⟨F.mi.1,ap _ (.inl rfl) F.mi.2⟩,λx a hx=> ?_,F.iQ,F.jc,?_⟩
 ·obtain⟨a,ov,h1,h2,h3⟩:=F.cells i x hx;exact⟨a,ov,h1,h2,λv hv=>(c12 (h3 v hv) λr e q=>⟨r,e,q.mono le⟩)⟩
 ·have p:=F.mZ x a hx;exact p.re p.Ms (ap _ (.inr (bM.mpr ⟨(x,a),hx,rfl⟩)) p.Lw)
 ·obtain⟨fenv,rest,L,h1,h2,h3,h4,h5,h6,h7⟩:=F.pE;refine⟨fenv,rest,L,h1,h2.mono le,h3,h4,h5,h6,?_⟩;refine aP h7 (λz=>?_) λu=>Jw u λo es n z=>?_
  ·exact .inl z
  ·exact .inr ⟨o,es,n,le.2 _ _ z.1,z.2⟩
theorem B8 {ok:St->Prop} {Q:Value->Shared->Prop} (I:ItrN C k ok xs src Sh tgt) (hacc:rJ C Z newAcc la gd) (H:At C sc A W env ms Z s) (K:fA C W env src Sh 0 it s)
  (g: ∀W' r s',W.le W'->At C sc A W' env ms (Z.set la gd) s'->fA C W' env src Sh 0 it s'->aw W' (.loc la) r->Q r s'):wpAny C.M A newAcc Q No s:=by
 obtain⟨hl,ob,hf,ho,run⟩:=hacc;refine bI (H.named hl hf ho) λle H'=>tO K.ex λst rs hg hn hv hsh=>?_;refine run _ _ _ _ _ (g _ _ _ le H' ⟨st,rs,λp hp=>⟨a9 _ _ _ _ (hg p hp).1,(hg p hp).2.1,λx e=> ?_⟩,hn,hv.mono le,I.mono _ _ _ _ _ _ le hsh⟩ ⟨_,by show(if _ then _ else _)=_;rw [aF rfl],rfl⟩);have e:(if x=la then some s.heap.objs.size else W.ρ x)=some p.1:=e;split at e
 ·injection e with e
  exact absurd (ig (hg p hp).1) (by rw [<-e];exact iN _)
 ·exact(hg p hp).2.2 x e
theorem jL {e:Expr} {scope:Scope} {pos:Pos} {g:Comprehension} {gs:List Comprehension} {link:List (Nat×Nat)} {src:AV} {xs:List AV} {ok:St->Prop} {Sh:vZ} {la:Loc} {gd:AO} {cZ:List (Option AV)} {newAcc:Sem Value} {use:Option (Value->Sem Unit)}
  {Q:Value->Shared->Prop}
  (he:eK e=some (g::gs)) (hall: ∀g'∈g::gs,g'.is_async=0) (hlink: ∀p∈link,∃x,sc.names[p.1]? =some (x,NameKind.cell)/\scope.names[p.2]? =some (x,NameKind.free)) (hfree:l8 scope=link.map (·.2)) (xK:cQ (bD scope)=true)
  (hst:oB C k sc ms Z g.iter ai ae src Sh) (I:ItrN C k ok xs src Sh g.target)
  (hacc:rJ C ae newAcc la gd)
  (hl:CL C k (bD scope) la e ok g gs xs (eY link ai scope.names.length) (ae.set la gd) cZ aN)
  (hend:(link.map λp=>(cZ[p.2]?).join)=link.map λp=>(ai[p.1]?).join)
  (hr:bY C A k) (H:At C sc A W env ms Z s)
  (hQ:match use with
   | none=> ∀W' acc s',W.le W'->At C sc A W' env ai aN s'->aw W' (.loc la) acc->Q acc s'
   | some u=> ∃b6 bX,(∀W' acc s',W.le W'->At C sc A W' env ai aN s'->aw W' (.loc la) acc->wpAny C.M A (u acc) (λ_ s''=> ∃vX,W.le vX/\(∀a o,W'.fz a=some o->vX.fz a=some o)/\At C sc A vX env b6 bX s'') No s')/\ ∀W' s',W.le W'->At C sc A W' env b6 bX s'->Q .none s'):
  wpAny C.M A (comprehension e scope env pos newAcc false (eval g.iter env) use) Q No s:=by
 have hc:clausesOf e=g::gs:=by
  rcases d7 he with⟨_,_,_,rfl⟩ | ⟨_,_,_,_,rfl⟩<;>rfl
 unfold comprehension;rw [hc];refine hst _ A W env s _ _ _ hr H λbh it aT ax aG jC=>wpAny_standIf (aj ?_);refine B8 I hacc aG jC λbS acc bt bg br jJ I8=> ?_;have eG:=br.fr;have cellIn: ∀{x:Str},(x,NameKind.free)∈scope.names-> ∃i j,(i,j)∈link/\sc.names[i]? =some (x,NameKind.cell)/\scope.names[j]? =some (x,NameKind.free):=λ{x} hx=>by refine cG (ui hx) λj hj=>?_;have:=tX hj;rw [hfree]at this;refine c12 (bM.mp this) λp hp e=>c12 (hlink p hp) λy h1 h2=>?_;rw [e,hj]at h2;cases h2;exact jE p.1 j (by rw [<-e];exact hp) h1 hj
 refine aj (nh (λx hx=> ?_) λclosure Gj LZ=>aj (nj ?_))
 ·refine fq (cellIn hx) λi _ _ hi _=>?_;obtain⟨a,ov,ha,_⟩:=eG.cells i x hi;exact⟨a,ha⟩
 generalize hcells:cellsFrom (bt.heap.objs.size+1) scope.names closure=cells;generalize hdo:({cls:= .type "dict",data:= .dict #[]}:Obj)=pB;have keep: ∀b o,bt.heap.get? b=some o->(pushCells (bt.heap.push pB) scope.names).get? b=some o:=λb o e=>wd _ _ b o (mG _ e);have hL:(pushCells (bt.heap.push pB) scope.names).get? bt.heap.objs.size=some pB:=wd _ _ _ _ (dZ _ (by rw [<-hdo];rfl));have above: ∀b,bt.heap.objs.size<=b->bS.fz b=none/\ ∀l,bS.ρ l≠some b:=λb hb=>by
  refine⟨?_,λl e=> ?_⟩
  ·cases q:bS.fz b with
   | none=>rfl
   | some o=>refine c12 (br.inv.fz b o q) λo' z _=>?_;exact absurd (sP (ig z) hb) (iN _)
  ·have d:=br.inv.dom l;rw [e]at d;cases q:(ae.set la gd) l with
   | none=>rw [q]at d;exact zi d
   | some o=>refine c12 (br.inv.obj l b o e q) λob z _=>?_;exact absurd (sP (ig z) hb) (iN _)
 have yN: ∀a,Own env a->a<bt.heap.objs.size:=λa q=>by obtain⟨_,_,o,h,_⟩:=eG.own q;exact ig h
 have clo: ∀x a,(x,a)∈closure->(x,a)∈env.cells:=λx a hm=>mem_of_lookup (Gj x a hm).2;have I9: ∀x a,(x,a)∈cells->(x,a)∈closure\/((x,NameKind.cell)∈scope.names/\bt.heap.objs.size+1<=a/\(pushCells (bt.heap.push pB) scope.names).get? a=some {cls:= .type "cell",data:= .cell none}):=λx a hm=>by
  have hm':=hm;rw [<-hcells]at hm hm';refine aP (pQ _ _ _ x a hm) (λq=>?_) λq9=>bI q9 λq1 q2=>?_
  ·exact .inl q
  ·have hh:=kJ scope.names (bt.heap.push pB) closure x a (by rw [nB];exact hm');refine aP hh (λq=>?_) λq8=>bI q8 λ_ q=>?_
   ·exact .inl q
   ·exact .inr ⟨q1,q2,q⟩
 have hkind:env.scope.kind= .function:=by rw [eG.scope];exact cQ.kind eG.ok
 have hnames:(scope.names.map λ(x:Str×NameKind)=>match x with | (n,kd)=>if(kd== .free && env.scope.kind== .function && env.kindOf n==some .cell)=true then(n,NameKind.cell)else(n,kd))=(bD scope).names:=by
  refine pM λp hp=> ?_;obtain⟨n,kd⟩:=p;by_cases hk:kd=NameKind.free
  ·subst hk;refine fq (cellIn hp) λi _ _ hi _=>?_;have hl:env.kindOf n=some .cell:=by unfold Env.kindOf;rw [eG.scope];exact bK (cQ.nodup eG.ok) hi
   simp [hkind,hl]
  ·have hb:(kd==NameKind.free)=false:=by simpa using hk
   simp [hb]
 dsimp only;rw [hnames];have hsc:({kind:=scope.kind,names:=(bD scope).names,isGenerator:=scope.isGenerator,isCoroutine:=scope.isCoroutine,more:=scope.more}:Scope)=bD scope:=rfl;generalize rA:({scope:={kind:=scope.kind,names:=(bD scope).names,isGenerator:=scope.isGenerator,isCoroutine:=scope.isCoroutine,more:=scope.more},locals:=bt.heap.objs.size,globals:=env.globals,cells:=cells,qual:=env.qual,func:=none,code:=env.code,frame:=env.frame,builtins:=env.builtins}:Env)=cenv;have yO:cenv.locals=bt.heap.objs.size:=by rw [<-rA]
 have Eb:cenv.cells=cells:=by rw [<-rA]
 let Y:Addr->Prop:=λa=>Own env a/\ ∀x,(x,a)∉closure
 have hY: ∀a,Y a->bS.fz a=none/\ ∀l,bS.ρ l≠some a:=λa q=>⟨(eG.own q.1).1,(eG.own q.1).2.1⟩;refine bI (br.inv.plus hY) λG1 IY=>?_;have Ng:Inv C (bS.plus Y bt.heap) (ae.set la gd) {bt with heap:=pushCells (bt.heap.push pB) scope.names}:=IY.same keep;have OY: ∀{j:Nat} {x:Str},(bD scope).names[j]? =some (x,NameKind.cell)->scope.names[j]? =some (x,NameKind.cell)\/scope.names[j]? =some (x,NameKind.free):=λ{j x} h=>by
  unfold bD at h;rw [gr]at h;cases z:scope.names[j]? with
  | none=>rw [z]at h;exact dF h
  | some p=>
   rw [z]at h;obtain⟨n,kd⟩:=p;dsimp only [Option.map_some]at h;split at h
   ·rename_i hk;cases h;simp only [gJ]at hk;rw [hk];exact .inr rfl
   ·have h:=dI h;rw [h];exact .inl rfl
 have Ja: ∀{j:Nat} {x:Str},scope.names[j]? =some (x,NameKind.free)->(bD scope).names[j]? =some (x,NameKind.cell):=λ{j x} h=>by unfold bD;rw [gr,h];rfl
 have G2: ∀{x:Str},(x,NameKind.free)∈scope.names->(x,NameKind.cell)∉scope.names:=λ{x} h1 h2=>by
  refine cG (ui h1) λj hj=>?_;refine cG (ui h2) λj' hj'=>?_;have a1:=Ja hj;have a2:(bD scope).names[j']? =some (x,NameKind.cell):=by unfold bD;rw [gr,hj'];rfl
  have:=jb (cQ.nodup xK) a1 a2;subst this;rw [hj]at hj';cases hj'
 have G3: ∀{x:Str},(x,NameKind.free)∈scope.names->cells.lookup x=env.cells.lookup x:=λ{x} hx=>by rw [<-hcells,m8 _ _ _ x (G2 hx),LZ x hx]
 have gu:At C (bD scope) A (bS.plus Y bt.heap) cenv (eY link ai scope.names.length) (ae.set la gd) {bt with heap:=pushCells (bt.heap.push pB) scope.names}:=by
  refine⟨Ng,?_⟩;subst rA;refine⟨rfl,eG.globals,eG.builtins,xK,⟨λ_=>none,?_,λj x u hj hu=> ?_⟩,λj x hj=> ?_,?_,λx a hm=> ?_,λx y a hx hy=> ?_,⟨pB,#[],0,hL,.inr (by rw [<-hdo]),by rw [<-hdo]⟩,?_⟩
  ·subst hdo;exact(Heap.Ns.new bt.heap (.type "dict")).keeps (wd _ _)
  ·exfalso;refine c12 (jU hu) λi hij _=>c12 (hlink _ hij) λy _ hy=>?_;rw [Ja hy]at hj;cases hj
  ·refine aP (OY hj) (λhj'=>?_) λhj'=>?_
   ·have:=cellsFrom_some (x:=x) scope.names (bt.heap.objs.size+1) closure (.inl (by
     have nd:(scope.names.map (·.1)).Nodup:=by
      have:=cQ.nodup xK;unfold bD at this;rw [dP]at this;have e:(λp:Str×NameKind=>p.1)=(λp:Str×NameKind=>p.1) ∘ λp=>if(p.2==NameKind.free)=true then(p.1,NameKind.cell)else p:=by
       funext p;simp only [Function.comp];split<;>rfl
      rw [e];exact this
     exact bK nd hj'))
    refine cG (vB.mp this) λa ha=>?_;rw [hcells]at ha;refine aP (I9 x a (mem_of_lookup ha)) (λq=>?_) λq7=>nM q7 λ_ q2 q3=>?_
    ·exact absurd (ik hj') (G2 (Gj x a q).1)
    ·refine⟨a,none,ha,⟨_,q3,rfl⟩,λu hu=> ?_⟩;exfalso;refine c12 (jU hu) λi hij _=>c12 (hlink _ hij) λy _ hy=>?_;rw [hj']at hy;cases hy
   ·refine fq (cellIn (ik hj')) λi j' hij hi PL=>?_;obtain⟨a,ov,ha,⟨oc,hc1,hc2⟩,hv⟩:=eG.cells i x hi;refine⟨a,ov,by rw [G3 (ik hj')];exact ha,⟨oc,keep _ _ hc1,hc2⟩,λu hu=> ?_⟩;refine c12 (jU hu) λi' hij' hu'=>c12 (hlink _ hij') λy hy1 hy2=>?_;rw [hj']at hy2;cases hy2;have:=jb (cQ.nodup eG.ok) hi hy1;have this:i=i':=this;subst this;refine c12 (hv u hu') λr e1 e2=>i12 r e1 (e2.mono G1)
  ·have:=above bt.heap.objs.size (bT _);refine⟨?_,this.2⟩;rw [Wd.fY λq=>absurd (yN _ q.1) (iN _)];exact this.1
  ·refine aP (I9 x a hm) (λq=>?_) λq6=>nM q6 λ_ q2 q3=>?_
   ·obtain⟨z1,z2,z3,ov,oc,z4,z5,z6⟩:=eG.mZ x a (clo x a q);refine⟨?_,z2,λz=> ?_,ov,oc,keep _ _ z4,z5,z6⟩
    ·rw [Wd.fY λy=>y.2 x q];exact z1
    ·have:=ig z4;exact absurd (z▸this) (iN _)
   ·have:=above a (zq q2);refine⟨?_,this.2,λz=> ?_,none,_,q3,rfl,rfl⟩
    ·rw [Wd.fY λy=>absurd (sP (yN _ y.1) (zq q2)) (iN _)];exact this.1
    ·have z:a=bt.heap.objs.size:=z;rw [z]at q2;exact absurd q2 (Nat.not_succ_le_self _)
  ·have hx':=hcells▸hx;have hy':=hcells▸hy;refine pT scope.names (bt.heap.push pB) closure x y a (λz b hm=> ?_) (λz u b hz hu=>eG.iQ z u b (clo z b hz) (clo u b hu)) (by rw [nB];exact hx') (by rw [nB];exact hy');rw [nB];exact Nat.lt_succ_of_lt (yN b (.inr (bM.mpr ⟨(z,b),clo z b hm,rfl⟩)))
  ·obtain⟨fenv,rest,L,e1,e2,e3,e4,e5,e6,e7⟩:=eG.pE;refine⟨fenv,rest,L,e1,e2.mono G1,e3,e4,e5,e6,.inr ?_⟩;refine aP e7 (λq5=>?_) λq4=>lN q4 λo es n f1 f2 f3=>?_
   ·rcases q5 with⟨rfl,o,es,n,f1,f2,f3⟩
    refine zD o es n ?_ f2 f3;rw [Wd.nR ⟨.inl rfl,λx hx=>(eG.mZ x _ (clo x _ hx)).no rfl⟩];exact f1
   ·exact zD o es n (G1.2 _ _ f1) f2 f3
 have Gi:fA C (bS.plus Y bt.heap) cenv src Sh 0 it {bt with heap:=pushCells (bt.heap.push pB) scope.names}:=by
  refine tO jJ.ex λst rs z1 z5 z2 z3=>⟨st,rs,λp hp=>⟨keep _ _ (z1 p hp).1,?_,(z1 p hp).2.2⟩,λp hp=>⟨λq=> ?_,(z5 p hp).2⟩,z2.mono G1,I.mono _ _ _ _ _ _ G1 z3⟩
  ·rw [Wd.fY λq=>(z5 p hp).1 q.1];exact(z1 p hp).2.1
  ·have lt:=ig (z1 p hp).1;refine aP q (λq=>?_) λq=>?_
   ·rw [yO]at q;rw [q]at lt;exact absurd lt (iN _)
   ·rw [Eb]at q;refine c12 (bM.mp q) λq0 hm e=>?_;rcases q0 with⟨x,b⟩
    have e:b=p.1:=e;subst e;refine aP (I9 x _ hm) (λq=>?_) λf=>nM f λ_ q2 _=>?_
    ·exact(z5 p hp).1 (.inr (bM.mpr ⟨(x,_),clo x _ q,rfl⟩))
    ·exact absurd (sP lt (zq q2)) (iN _)
 have hrun:codeAny C.M A (.compStart e 0 (.ref it) acc cenv) (λr s'=>match r with | .ok _=> ∃W',(bS.plus Y bt.heap).le W'/\At C (bD scope) A W' cenv cZ aN s' | .error _=>False) {bt with heap:=pushCells (bt.heap.push pB) scope.names}:=by
  refine tO Gi.ex λst rs hob _ _ hsh=>jQ he rfl (hall g (.head _)) (λQ z=>I.self _ 0 rs st it A _ No Q (λp hp=>(hob p hp).1) hsh z) ?_;refine kZ (DJ he hall hl _ _ _ I 0 0 A _ cenv _ acc it rfl (dW _) rfl rfl hr gu Gi (I8.mono G1)) λr s' hh=> ?_;cases r with
  | ok fl=>obtain⟨W',l,z,_⟩:=hh;exact i12 W' l z
  | error e=>exact hh
 have Jb:W.le bS:=ax.trans bg;have back: ∀W' s',(bS.plus Y bt.heap).le W'->At C (bD scope) A W' cenv cZ aN s'->bS.le (W'.minus Y)/\At C sc A (W'.minus Y) env ai aN s'/\dS (W'.minus Y) cenv.locals/\ ¬Own env cenv.locals:=λW' s' rq H'=>by
  have F':=H'.fr;have Ec: ∀a,Y a-> ∃o o',bt.heap.get? a=some o/\W'.fz a=some o/\s'.heap.get? a=some o'/\Up o o'/\uO o:=λa q=>by obtain⟨_,_,o,z1,z2⟩:=eG.own q.1;have z3:=rq.2 a o (by rw [Wd.nR q];exact z1);refine c12 (H'.inv.fz a o z3) λo' z4 z5=>MJ o o' z1 z3 z4 z5 z2
  have hj: ∀a o,Y a->W'.fz a=some o->Jk o:=λa o q e=>by refine v5 (Ec a q) λo1 _ _ z _ _ z2=>?_;rw [z]at e;cases e;exact z2.jk
  have AI:bS.le (W'.minus Y):=⟨λl a e=>rq.1 _ _ (G1.1 _ _ e),λa o e=>by
   rw [Wd.bB λq=>by rw [(hY a q).1]at e;exact dF e];exact rq.2 _ _ (G1.2 _ _ e)⟩
  have nL: ¬Own env cenv.locals:=λq=>absurd (yO▸yN _ q) (iN _);have yL:Y env.locals:=⟨.inl rfl,λx hx=>(eG.mZ x _ (clo x _ hx)).no rfl⟩;refine tI AI ⟨H'.inv.minus hj λa q=>br.inv.mS (hY a q).1,?_⟩ ⟨?_,F'.mi.2⟩ nL
  ·obtain⟨mr,⟨oL,es,ep,g1,g2,g3,g4⟩,hv⟩:=eG.ns;refine v5 (Ec _ yL) λo oL' y1 y2 y3 y4 y5=>?_;rw [g1]at y1;obtain rfl:=dI y1;have LW: ∀a,Y a-> ∀l,W'.ρ l≠some a:=λa q l e=>by refine fq (Ec a q) λ_ _ _ z _=>?_;rw [H'.inv.apart l a e]at z;exact dF z
   have cl2: ∀x a,(x,a)∈closure->(x,a)∈cenv.cells:=λx a hm=>by rw [Eb,<-hcells];exact pN _ _ _ _ hm
   have L4: ∀x a,(x,a)∈env.cells->Y a\/ ∃x',(x',a)∈closure:=λx a hm=>by
    by_cases q: ∃x',(x',a)∈closure
    ·exact .inr q
    ·exact .inl ⟨.inr (bM.mpr ⟨(x,a),hm,rfl⟩),λx' hx'=>q ⟨x',hx'⟩⟩
   refine⟨eG.scope,eG.globals,eG.builtins,eG.ok,⟨mr,⟨oL',es,ep,y3,y4.data▸g2,g3,g4⟩,λi x u hi hu=>(c12 (hv i x u hi hu) λr e1 e2=>⟨r,e1,e2.mono AI⟩)⟩,λi x hi=> ?_,⟨Wd.d8 yL,λl=>LW _ yL l⟩,λx a hm=> ?_,eG.iQ,?_,?_⟩
   ·obtain⟨a,ov,ha,⟨oc,c1,c2⟩,c3⟩:=eG.cells i x hi;refine aP (L4 x a (mem_of_lookup ha)) (λq=>?_) λm=>cG m λx' hx'=>?_
    ·refine v5 (Ec a q) λo o' z1 _ z3 z4 _=>?_;rw [c1]at z1;obtain rfl:=dI z1;exact⟨a,ov,ha,⟨o',z3,z4.data▸c2⟩,λu hu=>(c12 (c3 u hu) λr e1 e2=>⟨r,e1,e2.mono AI⟩)⟩
    ·have hxx:x'=x:=eG.iQ x' x a (clo x' a hx') (mem_of_lookup ha);subst hxx;refine fq (cellIn (Gj x' a hx').1) λi' j hij hi' hj'=>?_;have:=jb (cQ.nodup eG.ok) hi hi';subst this;obtain⟨a2,Nf,ha2,hc2,hv2⟩:=F'.cells j x' (Ja hj');have ea:a2=a:=by rw [Eb,G3 (Gj x' a hx').1,ha]at ha2;exact(dI ha2).symm
     subst ea;refine⟨a2,Nf,ha,hc2,λu hu=> ?_⟩;have eq1:(cZ[j]?).join=(ai[i]?).join:=by
      have hm: ∀(l:List (Nat×Nat)),(l.map λp=>(cZ[p.2]?).join)=(l.map λp=>(ai[p.1]?).join)->(i,j)∈l->(cZ[j]?).join=(ai[i]?).join:=by
       intro l
       induction l with
       | nil=>intro _ h;exact je h
       | cons p r ih=>
        intro h hm;rw [dj,dj,List.cons.injEq]at h;cases hm with
        | head=>exact h.1
        | tail _ hm=>exact ih h.2 hm
      exact hm link hend hij
     rw [hu]at eq1;refine c12 (hv2 u (BZ eq1)) λr e1 e2=>i12 r e1 (e2.taken hj)
   ·refine aP (L4 x a hm) (λq=>?_) λt=>cG t λx' hx'=>?_
    ·obtain⟨z1,z2,z3,ov,oc,z4,z5,z6⟩:=eG.mZ x a hm;refine v5 (Ec a q) λo o' w1 _ w3 w4 _=>?_;rw [z4]at w1;obtain rfl:=dI w1;exact⟨Wd.d8 q,LW a q,z3,ov,o',w3,w4.data▸z5,w4.cls▸z6⟩
    ·obtain⟨z1,z2,z3,ov,oc,z4,z5,z6⟩:=F'.mZ x' a (cl2 x' a hx');refine⟨?_,z2,(eG.mZ x a hm).no,ov,oc,z4,z5,z6⟩;rw [Wd.bB λq=>q.2 x' hx'];exact z1
   ·obtain⟨o2,es2,n2,w1,w2,w3⟩:=eG.jc;rw [g1]at w1;obtain rfl:=dI w1;exact⟨oL',es2,n2,y3,y4.cls▸w2,y4.data▸w3⟩
   ·obtain⟨fenv,rest,L,e1,e2,e3,e4,e5,e6,e7⟩:=eG.pE;refine⟨fenv,rest,L,e1,e2.mono AI,e3,e4,e5,e6,?_⟩;refine aP e7 (λw=>?_) λv=>lN v λo es n f1 f2 f3=>?_
    ·rcases w with⟨rfl,o,es,n,f1,f2,f3⟩
     rw [g1]at f1;obtain rfl:=dI f1;exact .inl ⟨rfl,oL',es,n,y3,y4.cls▸f2,y4.data▸f3⟩
    ·exact .inr ⟨o,es,n,AI.2 _ _ f1,f2,f3⟩
  ·rw [Wd.bB λq=>nL q.1];exact F'.mi.1
 have Jc:cenv.scope.kind= .function:=by rw [<-rA];exact cQ.kind xK
 have G4: ∀x∈scope.names,x.2= .local->cenv.kindOf x.1=some .local:=λx hx hx2=>by
  refine cG (ui hx) λj hj=>?_;have:(bD scope).names[j]? =some (x.1,NameKind.local):=by obtain⟨n,kd⟩:=x;have hx2:kd=NameKind.local:=hx2;subst hx2;unfold bD;rw [gr,hj];rfl
  rw [<-rA];exact bK (cQ.nodup xK) this
 have goes: ∀(vs:List (Str×NameKind)) (cellsOf:List (Str×NameKind)->List Value) (W':Wd) (Nh:List (Option AV)) (Ni:St) (s':Shared) (mr:Str->Option Value),(∀x∈vs,x.2= .local->cenv.kindOf x.1=some .local)->At C sc A W' env Nh Ni s'->dS W' cenv.locals-> ¬Own env cenv.locals->s'.heap.Ns cenv.locals mr->
   ∀(P:Unit->Shared->Prop),(∀s'',At C sc A W' env Nh Ni s''->P () s'')->wpAny C.M A (comprehension.letGo cenv cellsOf vs) P No s':=λvs cellsOf W' Nh Ni s' mr hvs H' hf hn hns P hP=>by
  refine wpAny_comp_letGo Jc vs s' mr hvs hns λh' m' _ hs'=>hP _ ⟨H'.inv.but hf.1 hf.2 λb o nb e=>(hs'.2 b nb).trans e,H'.fr.keep hn hf.1 (H'.fr.jV hn hf.1) λb o nb e=>(hs'.2 b nb).trans e⟩
 refine cE (aj (wpAny_attempt (cE (wpAny_run (h:=none) ?_))));rw [mark_none];refine kZ hrun λr s' hh=> ?_;cases r with
 | error e=>exact hh.elim
 | ok fl=>
  refine c12 hh λW' rq H'=>?_;clear hh;refine kD (back W' s' rq H') λleB HB hf hn=>?_;obtain⟨N5,Jd,_⟩:=H'.fr.ns;cases use with
  | none=>refine aj (cE (goes _ _ _ _ _ _ N5 (λx hx hx2=>G4 x (kO.mp (wx.mp hx)).1 hx2) HB hf hn Jd _ λs'' v9=>aQ ?_));exact hQ _ acc s'' (Jb.trans leB) v9 (I8.mono leB)
  | some u=>
   refine v8 hQ λb6 bX hu hQ=>aj (rL (aj (cE ?_)));refine AE Jd λoL esL epL gL dL kL fL=>?_;clear Jd;obtain⟨PM,es2,n2,N6,N7,_⟩:=H'.fr.jc;rw [gL]at N6;obtain rfl:=dI N6;refine bI (HB.freeze gL hf.1 hf.2 hn) λN8 HF=>bH (hu _ acc s' (Jb.trans (leB.trans N8)) HF ((I8.mono leB).mono N8)) (λ_ Gh ⟨vX,rt,L5,mL⟩=> ?_) λ_ _ h=>h;have e5:vX.fz cenv.locals=some oL:=L5 _ _ (by show(if _ then _ else _)=_;rw [aF rfl]);have hfr:oL.cls≠ .type "frame":=λz=>by
    refine aP N7 (λc=>?_) λc=>?_
    ·have e1:cenv.frame=env.frame:=by rw [<-rA]
     exact eG.jV hn (above _ (Nat.le_of_eq yO.symm)).1 (e1▸c.2)
    ·rw [c]at z;exact absurd (nq z) (by decide)
   have cD:oL.cls= .type "dict":=N7.elim (λc=>absurd c.1 hfr) id;have OZ:Jk oL:=λn z=>by rw [cD]at z;cases nq z;decide
   obtain⟨HT,ob',gT,rfl⟩:=mL.KJ e5 OZ hfr (H'.inv.mS H'.fr.mi.1);have O0:W.le (vX.minus (· =cenv.locals)):=⟨λl a q=>rt.1 _ _ q,λa o q=>by
    rw [Wd.bB (X:=(· =cenv.locals)) λz=>by
     have z:a=cenv.locals:=z;subst z;have:=Jb.2 _ _ q;rw [(above _ (Nat.le_of_eq yO.symm)).1]at this;exact dF this]
    exact rt.2 _ _ q⟩
   refine aj (goes _ _ _ _ _ _ N5 (λx hx hx2=> ?_) HT ⟨Wd.d8 (X:=(· =cenv.locals)) rfl,λl q=> ?_⟩ hn ⟨ob',esL,epL,gT,dL,kL,fL⟩ _ λs'' v9=>aQ ?_)
   ·exact G4 x (kO.mp (wx.mp ((cu.mp hx).elim (λhx=>List.mem_of_mem_drop hx) (λhx=>List.mem_of_mem_take hx)))).1 hx2
   ·have:=mL.inv.apart l _ q;rw [e5]at this;exact sa this
   ·exact hQ _ s'' O0 v9
end
end V
end
section
namespace V
noncomputable def AV.Ba (x:AV):Prop:= ∀D,AV.In D x
noncomputable def AV.p8 (xs:List AV):Prop:= ∀D,AV.mh D xs
theorem AV.xX {D:Loc->Prop}: ∀{xs:List AV},AV.mh D xs↔ ∀x∈xs,AV.In D x
 | []=>by unfold AV.mh;simp
 | y::r=>by unfold AV.mh;rw [AV.xX (xs:=r)];simp
theorem Fv (h: ∀x∈xs,x.Ba):AV.p8 xs:=λD=>AV.xX.mpr λx hx=>h x hx D
theorem cc:(AV.str s).Ba:=λu=>trivial
theorem fN:(AV.int i).Ba:=λu=>trivial
theorem j8 (h:AV.p8 xs):(AV.lst xs).Ba:=λD=>h D
theorem xT (h:AV.p8 xs):(AV.tup xs).Ba:=λD=>h D
theorem bo {α:Type} {f:α->AV} {l:List α} (h: ∀x,(f x).Ba):AV.p8 (l.map f):=Fv λx hx=>by refine kK (bM.mp hx) λy _=>?_;exact h y
noncomputable def rK (Z:St):Prop:= ∀l o,Z l=some o->o.In λl=>(Z l).isSome=true
noncomputable def Ge (sc:Scope) (ms:List (Option AV)) (Z:St):Prop:=
 ∀(i:Nat) (x:Str) (kd:NameKind) (v:AV),sc.names[i]? =some (x,kd)->(kd= .local\/kd= .cell)->ms[i]? =some (some v)->v.In λl=>(Z l).isSome=true
section
variable {C:Cx} {k:Nat} {sc:Scope} {A:Around} {W:Wd} {env:Env} {ms ai aZ b6 aK:List (Option AV)} {Z ae aN bX aB τ:St} {s:Shared}
theorem AO.In.mono {D D':Loc->Prop} (m: ∀l,D l->D' l) {o:AO} (z:o.In D):o.In D':=by
 cases o with
 | list xs=>exact AV.mh.mono m z
 | dict es=>exact λp hp=>(z p hp).mono m
 | map es n=>exact λp hp=>(z p hp).mono m
 | set xs=>trivial
 | inst c d=>exact m d z
 | slots c d vs=>exact⟨m d z.1,λx hx=>(z.2 x hx).mono m⟩
 | junk=>trivial
 | exc n xs=>exact AV.mh.mono m z
 | iter l i=>exact m l z
theorem Inv.closed (I:Inv C W Z s):rK Z:=λl o e=>by
 refine fq (I.at e) λa ob _ _ h=>?_;exact h.dq.mono λl q=>by rw [<-I.dom l];exact q
theorem At.ME (H:At C sc A W env ms Z s):Ge sc ms Z:=λi x kd v hi hk hv=>by
 refine aP hk (λu=>?_) λz=>?_
 ·subst u;obtain⟨mr,_,hm⟩:=H.fr.ns;refine c12 (hm i x v hi hv) λr _ q=>?_;exact q.dq.mono λl q=>by rw [<-H.inv.dom l];exact q
 ·subst z;obtain⟨a,ov,_,_,hm⟩:=H.fr.cells i x hi;refine c12 (hm v hv) λr _ q=>?_;exact q.dq.mono λl q=>by rw [<-H.inv.dom l];exact q
theorem eE.cut {D:Loc->Prop} (F:eE C sc A W env ms h) (c:Cut W W' D) (hm: ∀(i:Nat) (x:Str) (kd:NameKind) (v:AV),sc.names[i]? =some (x,kd)->(kd= .local\/kd= .cell)->ms[i]? =some (some v)->v.In D)
  (h1: ∀a,Own env a->W'.fz a=none) (h2: ∀l a,W'.ρ l=some a->W.ρ l=some a):eE C sc A W' env ms h:=by
 obtain⟨mr,hn,hv⟩:=F.ns;refine⟨F.scope,F.globals,F.builtins,F.ok,⟨mr,hn,λi x v hi hu=>(c12 (hv i x v hi hu) λr e q=>⟨r,e,q.cut c (hm i x _ v hi (.inl rfl) hu)⟩)⟩,λi x hi=> ?_,⟨h1 _ (.inl rfl),λl e=>F.mi.2 l (h2 _ _ e)⟩,λx a hx=> ?_,F.iQ,F.jc,?_⟩
 ·obtain⟨a,ov,e1,e2,e3⟩:=F.cells i x hi;exact⟨a,ov,e1,e2,λv hu=>(c12 (e3 v hu) λr e q=>⟨r,e,q.cut c (hm i x _ v hi (.inr rfl) hu)⟩)⟩
 ·have p:=F.mZ x a hx;exact p.re (h1 _ (.inr (bM.mpr ⟨(x,a),hx,rfl⟩))) λl e=>p.Lw l (h2 _ _ e)
 ·obtain⟨fenv,rest,L,e1,e2,e3,e4,e5,e6,e7⟩:=F.pE;refine⟨fenv,rest,L,e1,λe he=> ?_,e3,e4,e5,e6,?_⟩
  ·rcases e2 e he with⟨k1,L',o,es,n,k2,k3,k4,w⟩;refine bI w λk5 k6=>⟨k1,L',o,es,n,k2,k3,c.2 _ _ k4,k5,k6⟩
  ·refine aP e7 (λz=>?_) λu=>tC u λo es n z1 z2=>?_
   ·exact .inl z
   ·exact .inr ⟨o,es,n,c.2 _ _ z1,z2⟩
theorem At.pq (H:At C sc A W env ms Z s) (hl:Z l=some (.list xs)) (ht:τ l=none) (hs: ∀l o,τ l=some o->Z l=some o) (hc:rK τ)
  (hx:AV.mh (λl=>(τ l).isSome=true) xs) (hm:Ge sc ms τ) (hv:aw W (.loc l) v): ∃W',Cut W W' (λl=>(τ l).isSome=true)/\At C sc A W' env ms τ s/\aw W' (.lst xs) v:=by
 have I':=H.inv.only hs hc;have hv':=hv;refine uh hv λa e=>c12 (H.inv.obj l a _ e hl) λob h1 h2=>?_;obtain⟨c1,vs,n,c2,c3⟩:=h2;have sub: ∀{x b},(W.only τ).ρ x=some b->W.ρ x=some b/\(τ x).isSome=true:=λ{x b} q=>by
  have q:(if(τ x).isSome then W.ρ x else none)=some b:=q;split at q
  ·rename_i h;exact⟨q,h⟩
  ·exact dF q
 have n2: ∀x,(W.only τ).ρ x≠some a:=λx q=>by have:=H.inv.inj x l a (sub q).1 e;have h:=(sub q).2;rw [this,ht]at h;exact tK h
 have n1:(W.only τ).fz a=none:=H.inv.apart l a e;refine bI (I'.f6 (h:=s.heap) (t:=s.toks) (d:=s.drawn) n1 n2 (λ_ _ q=>q) h1) λle I2=>?_;have cut:Cut W ((W.only τ).freeze a ob) (λl=>(τ l).isSome=true):=⟨λx b d q=>(W.i0 τ).1 x b d q,λx o q=>le.2 _ _ q⟩;refine tZ _ cut ⟨I2,H.fr.cut cut hm (λb q=> ?_) λx b q=>(sub q).1⟩ ?_
 ·refine nM (H.fr.own q) λo1 o2 _=>(?_:(if b=a then some ob else W.fz b)=none);rw [ay λz=>o2 l (by rw [z];exact e)];exact o1
 ·skip
  refine v7 a ob vs n rfl ?_ c1 c2 (c3.cut cut hx);refine(?_:(if a=a then some ob else _)=_);rw [aF rfl]
theorem K3 (I:Inv C W Z s) (xJ:Inv C aR ae aI): ∃la:Loc,Z la=none/\ae la=none:=by refine cG I.free λn h=>cG xJ.free λm h'=>i12 ⟨n+m,Str.empty⟩ (h _ (gZ _ _)) (h' _ (Nat.le_add_left _ _))
theorem dJ (hl:Z l=some (.list xs)) (hz:xs.length<=sizeLine):Ca C k Z (.bi "list.append") [.loc l,x] [] .none (Z.set l (.list (xs++ [x]))):=by
 intro W rf df fp hf ha hk A s outer hr hA hS I;subst hf;refine gB ha λv1 r1 q1 ha=>gB ha λv2 r2 q2 ha=>?_;subst ha;subst hk;refine uh q1 λa e=>?_;obtain⟨ob,h1,c1,vs,n,rfl,c3⟩:=I.obj l a _ e hl;have hT:s.TypeIs (.ref a) "list":=⟨_,h1,rfl⟩;refine zN slot_list_append hT entry_list_append ?_ (args_list_append _ _);refine(?_:wpAny _ _ (updateSeq a (·.push v2)>>=λu=>ret .none) _ _ s);have Nj:vs.toArray.size<=sizeLine:=by rw [AL,c3.length];exact hz
 refine aj (wpAny_updateSeq h1 rfl (aQ ⟨.none,rfl,?_⟩) Nj (by rw [Array.size_push];omega));refine⟨W,.refl W,I.upd e (ez _ _ _) (jt _ h1 rfl) ⟨rfl,vs++ [v2],_,by simp [Obj.mapSeq];rfl,c3.append (.cons q2 .nil)⟩,rfl⟩
theorem nF (h:Ev C k sc ms Z elt v aK ae) (ho:ae la=some (.list out)) (hz:out.length<=sizeLine):
  Em C k sc la (.ListComp elt gens scope pos) ms Z aK (ae.set la (.list (out++ [v]))):=by
 intro A W env s iR hr H q;refine cX (h A W env s hr H) λaR rv aI aA aO p9=>aj ?_;refine(dJ (k:=k) ho hz).in hr aO rfl (.cons (q.mono aA) (.cons p9 .nil)) .nil λbh r aT ax aG u=>aQ (bz (aA.trans ax) aG trivial)
structure mJ (C:Cx) (k:Nat) (sc:Scope) (ms:List (Option AV)) (Z:St) (scope:Scope) (link:List (Nat×Nat)) (g:Comprehension) (gs:List Comprehension) (ai:List (Option AV)) (ae:St) (v src:AV) (xs:List AV) (ok:St->Prop) (Sh:vZ):Prop where
 sync: ∀g'∈g::gs,g'.is_async=0
 linked: ∀p∈link,∃x,sc.names[p.1]? =some (x,NameKind.cell)/\scope.names[p.2]? =some (x,NameKind.free)
 free:l8 scope=link.map (·.2)
 ok2:cQ (bD scope)=true
 first:Ev C k sc ms Z g.iter v ai ae
 it:vK C k ok v xs src Sh g.target
 ok:ok ae
 fold: ∀env x,foldedSetIterable g.iter env x=pure x
structure Cz (C:Cx) (k:Nat) (sc:Scope) (ms:List (Option AV)) (Z:St) (scope:Scope) (link:List (Nat×Nat)) (g:Comprehension) (gs:List Comprehension) (ai:List (Option AV)) (ae:St) (src:AV) (xs:List AV) (ok:St->Prop) (Sh:vZ):Prop where
 sync: ∀g'∈g::gs,g'.is_async=0
 linked: ∀p∈link,∃x,sc.names[p.1]? =some (x,NameKind.cell)/\scope.names[p.2]? =some (x,NameKind.free)
 free:l8 scope=link.map (·.2)
 ok2:cQ (bD scope)=true
 st:oB C k sc ms Z g.iter ai ae src Sh
 it:ItrN C k ok xs src Sh g.target
theorem mJ.comp {ok:St->Prop} (K:mJ C k sc ms Z scope link g gs ai ae v src xs ok Sh):Cz C k sc ms Z scope link g gs ai ae src xs ok Sh:=
 ⟨K.sync,K.linked,K.free,K.ok2,vK.starts K.first K.it K.ok K.fold,K.it.toItrN⟩
theorem jX (hl:Z l=none):rJ C Z (newList []) l (.list []):=
 ⟨hl,{cls:= .type "list",data:= .seq #[]},rfl,λW=>⟨rfl,[],0,rfl,.nil⟩,λM A E s Q h=>oI h (dW _)⟩
theorem qw {use:Option (Value->Sem Unit)} {Q:Value->Shared->Prop} (he:eK e=some (g::gs)) (h1:oB C k sc ms Z g.iter ai ae src Sh) (hr:bY C A k) (H:At C sc A W env ms Z s)
  (h:(∃la:Loc,Z la=none/\ae la=none)->rK ae->Ge sc ai ae->wpAny C.M A (comprehension e scope env pos newAcc false (eval g.iter env) use) Q No s):wpAny C.M A (comprehension e scope env pos newAcc false (eval g.iter env) use) Q No s:=by
 by_cases q:(∃la:Loc,Z la=none/\ae la=none)/\rK ae/\Ge sc ai ae
 ·exact h q.1 q.2.1 q.2.2
 ·have hc:clausesOf e=g::gs:=by
   rcases d7 he with⟨_,_,_,rfl⟩ | ⟨_,_,_,_,rfl⟩<;>rfl
  delta comprehension;rw [hc];exact h1 _ A W env s _ _ _ hr H λaR rv aI aA aO p9=>(q ⟨K3 H.inv aO.inv,aO.inv.closed,aO.ME⟩).elim
theorem sS (h:Z l=none): ∀x y,Z x=some y->(Z.set l o) x=some y:=λx y e=>by delta St.set;rw [ay λz=>by rw [z,h]at e;exact dF e];exact e
theorem Fu (x:Loc) (h:((Z.set l o) x).isSome=true) (n:x≠l):(Z x).isSome=true:=by
 delta St.set at h
 rwa [ay n]at h
theorem BE (I:Inv C W Z s) (hla:Z la=none) (le:W.le W') (I':Inv C W' (ae.set la o) s') (c:Cut W' IW λl=>(ae l).isSome=true):W.le IW:=
 ⟨λl a e=>c.1 l a (Fu l (by rw [<-I'.dom l,le.1 _ _ e];rfl) λz=>by rw [z,I.none_of hla]at e;exact dF e) (le.1 _ _ e),λa o e=>c.2 _ _ (le.2 _ _ e)⟩
theorem l6 {ok:St->Prop} (K:Cz C k sc ms Z scope link g gs ai ae src xs ok Sh)
  (hl: ∀la,ae la=none->CL C k (bD scope) la (.ListComp elt (g::gs) scope pos) ok g gs xs (eY link ai scope.names.length) (ae.set la (.list [])) cZ (ae.set la (.list out)))
  (hend:(link.map λp=>(cZ[p.2]?).join)=link.map λp=>(ai[p.1]?).join) (hp:AV.p8 out):Ev C k sc ms Z (.ListComp elt (g::gs) scope pos) (.lst out) ai ae:=by
 intro A W env s hr H;obtain⟨tg,it,ifs,as⟩:=g;have ha:as=0:=K.sync _ (.head _);subst ha;refine qw (g:=⟨tg,it,ifs,0⟩) rfl K.st hr H λz hcl hm=> ?_;refine c12 z λla hla tF=>?_;clear z;refine jL (g:=⟨tg,it,ifs,0⟩) (gd:= .list []) (use:=none) rfl K.sync K.linked K.free K.ok2 K.st K.it (jX tF) (hl la tF) hend hr H ?_;intro W' acc s' le H' q;refine fJ (H'.pq (τ:=ae) (l:=la) (xs:=out) (by delta St.set;rw [aF rfl]) tF (sS tF) hcl (hp _) hm q) λIW c v9 q''=>bz (BE H.inv hla le H'.inv c) v9 q''
theorem cm {ok:St->Prop} (K:mJ C k sc ms Z scope link g gs ai ae v src xs ok Sh)
  (hl: ∀la,ae la=none->CL C k (bD scope) la (.ListComp elt (g::gs) scope pos) ok g gs xs (eY link ai scope.names.length) (ae.set la (.list [])) cZ (ae.set la (.list out)))
  (hend:(link.map λp=>(cZ[p.2]?).join)=link.map λp=>(ai[p.1]?).join) (hp:AV.p8 out):Ev C k sc ms Z (.ListComp elt (g::gs) scope pos) (.lst out) ai ae:=l6 K.comp hl hend hp
theorem oW {ok:St->Prop} (la:Loc)
  (K:mJ C k sc ms Z scope link g gs ai ae v src xs ok Sh) (hla:ae la=none)
  (hl:CL C k (bD scope) la (.ListComp elt (g::gs) scope pos) ok g gs xs (eY link ai scope.names.length) (ae.set la (.list [])) cZ aN)
  (hend:(link.map λp=>(cZ[p.2]?).join)=link.map λp=>(ai[p.1]?).join):Ev C k sc ms Z (.ListComp elt (g::gs) scope pos) (.loc la) ai aN:=by
 intro A W env s hr H;obtain⟨tg,it,ifs,as⟩:=g;have ha:as=0:=K.sync _ (.head _);subst ha;refine jL (g:=⟨tg,it,ifs,0⟩) (gd:= .list []) (use:=none) rfl K.sync K.linked K.free K.ok2 K.comp.st K.comp.it (jX hla) hl hend hr H ?_;intro W' acc s' le H' q;exact bz le H' q
theorem jO {ok:St->Prop} (K:Cz C k sc ms Z scope link g gs ai ae src xs ok Sh)
  (hl: ∀la,ae la=none->CL C k (bD scope) la (.ListComp elt (g::gs) scope cpos) ok g gs xs (eY link ai scope.names.length) (ae.set la (.list [])) cZ (ae.set la (.list out)))
  (hend:(link.map λp=>(cZ[p.2]?).join)=link.map λp=>(ai[p.1]?).join) (hp:AV.p8 out)
  (hsw: ∀env,∃b,swapsWithSole [t] (.ListComp elt (g::gs) scope cpos) pos.line env=pure b) (hw: ∀env,swappedStores [t] (.ListComp elt (g::gs) scope cpos) env=pure none) (ht: ∀env,(assignEach [t] env).map (·.2)= [assign t env])
  (ha:As C k sc ai ae t (.lst out) aK aB):X1 C k sc ms Z (.Assign [t] (.ListComp elt (g::gs) scope cpos) pos) .next aK aB:=by
 intro A W env s hr H;refine(?_:wpAny C.M A (exec _ env) _ _ _);rw [exec_Assign_arm];refine aj (cF ?_);refine cG (hsw env) λb hb=>?_;rw [hb];refine aj (aQ ?_);cases b with
 | false=>refine cX (l6 K hl hend hp A W env s hr H) λaR r aI aA aO q=>aj (eL (hw env) ?_);rw [ht];refine aj (bf (ha A aR env aI r hr aO q) λbh u aT ax aG v=>aQ (bz (aA.trans ax) aG rfl))
 | true=>simp only [if_true];obtain⟨tg,it,ifs,as⟩:=g;have ha0:as=0:=K.sync _ (.head _);subst ha0;rw [ht];rw [arm_evalThenUse_ListComp];refine aj (aj ?_);refine qw (g:=⟨tg,it,ifs,0⟩) rfl K.st hr H λz hcl hm=> ?_;refine c12 z λla hla tF=>?_;clear z;refine jL (g:=⟨tg,it,ifs,0⟩) (gd:= .list []) (use:=some _) rfl K.sync K.linked K.free K.ok2 K.st K.it (jX tF) (hl la tF) hend hr H ⟨aK,aB,λW' acc s' le H' q=> ?_,λW' s' le H'=>aQ (aQ (bz le H' rfl))⟩;refine fJ (H'.pq (τ:=ae) (l:=la) (xs:=out) (by delta St.set;rw [aF rfl]) tF (sS tF) hcl (hp _) hm q) λIW c v9 q''=>?_;have cl:=BE H.inv hla le H'.inv c;exact bf (ha A IW env s' acc hr v9 q'') λbh u aT ax aG v=>⟨bh,cl.trans ax,λa o e=>ax.2 _ _ (c.2 _ _ e),aG⟩
theorem bZ {ok:St->Prop} (K:mJ C k sc ms Z scope link g gs ai ae v src xs ok Sh)
  (hl: ∀la,ae la=none->CL C k (bD scope) la (.ListComp elt (g::gs) scope cpos) ok g gs xs (eY link ai scope.names.length) (ae.set la (.list [])) cZ (ae.set la (.list out)))
  (hend:(link.map λp=>(cZ[p.2]?).join)=link.map λp=>(ai[p.1]?).join) (hp:AV.p8 out)
  (hsw: ∀env,∃b,swapsWithSole [t] (.ListComp elt (g::gs) scope cpos) pos.line env=pure b) (hw: ∀env,swappedStores [t] (.ListComp elt (g::gs) scope cpos) env=pure none) (ht: ∀env,(assignEach [t] env).map (·.2)= [assign t env])
  (ha:As C k sc ai ae t (.lst out) aK aB):X1 C k sc ms Z (.Assign [t] (.ListComp elt (g::gs) scope cpos) pos) .next aK aB:=jO K.comp hl hend hp hsw hw ht ha
end
end V
end
section
namespace V
open Builtin Builtin.Str
theorem b8:aw W (.int i) (.int i t):=⟨_,rfl⟩
theorem bN:aw W (.str x) (.str x t):=⟨_,rfl⟩
theorem oR:aw W (.bytes x) (.bytes x t):=⟨_,rfl⟩
theorem bO:aw W (.bool b) (.bool b):=rfl
theorem c5:aw W .none .none:=rfl
theorem du (h:aU W [x] vs): ∃v,vs= [v]/\aw W x v:=by
 refine gB h λv r q h=>?_;skip;subst h;exact i12 v rfl q
theorem fF (h:aU W [x,y] vs): ∃v u,vs= [v,u]/\aw W x v/\aw W y u:=by refine gB h λv r q h=>?_;refine yu (du h) λu q2=>?_;exact jE v u rfl q q2
theorem xq {aB:St} {id:String} (h: ∀W r,aw W x r->Op C k W Z (call (.builtin id) [r]) (λW r=>aw W v r) aB):Ca C k Z (.bi id) [x] [] v aB:=by intro W rf df fp hf ha hk;subst hf;subst hk;refine yu (du ha) λr q=>h W r q
theorem oj {aB:St} {id:String} (h: ∀W r u,aw W x r->aw W y u->Op C k W Z (call (.builtin id) [r,u]) (λW r=>aw W v r) aB):Ca C k Z (.bi id) [x,y] [] v aB:=by intro W rf df fp hf ha hk;subst hf;subst hk;refine gB (fF ha) λr u q q'=>h W r u q q'
theorem vC (h:aU W [x,y,z] vs): ∃v u t,vs= [v,u,t]/\aw W x v/\aw W y u/\aw W z t:=by refine gB h λv r q h=>?_;refine gB (fF h) λu t q2 q3=>?_;exact JD v u t rfl q q2 q3
section
variable {C:Cx} {k:Nat} {W:Wd} {Z aB:St}
theorem Op.look {α:Type} {t:Sem α} {R:Wd->α->Prop} (h: ∀A s (Q:α->Shared->Prop),bY C A k->Inv C W Z s->(∀r tk,R W r->Q r {s with toks:=tk})->wpAny C.M A t Q No s):Op C k W Z t R Z:=by intro A s outer hr hA hS I;refine eT (h A s _ hr I λr tk hR=> ?_);intro l;exact⟨W,.refl W,I.same (λu v e=>e) l,hR⟩
theorem iK {α:Type} {f:Value->Value->Sem α} {R:α->Prop} (h: ∀A s (Q:α->Shared->Prop) t u,bY C A k->(∀r tk,R r->Q r {s with toks:=tk})->wpAny C.M A (f (.int a t) (.int b u)) Q No s):di C k Z f (.int a) (.int b) (λv r=>R r) Z:=by intro W ra rb ha hb;refine fh ha λt=>fh hb λu=>Op.look λA s Q hr I hq=>h A s Q t u hr hq
theorem oQ {α:Type} {f:Value->Value->Sem α} {R:α->Prop} (h: ∀A s (Q:α->Shared->Prop) t u,bY C A k->(∀r tk,R r->Q r {s with toks:=tk})->wpAny C.M A (f (.str a t) (.str b u)) Q No s):di C k Z f (.str a) (.str b) (λv r=>R r) Z:=by intro W ra rb ha hb;refine fh ha λt=>fh hb λu=>Op.look λA s Q hr I hq=>h A s Q t u hr hq
theorem B1 {α:Type} {f:Value->Value->Sem α} {R:α->Prop} (h: ∀A s (Q:α->Shared->Prop) t u,bY C A k->(∀r tk,R r->Q r {s with toks:=tk})->wpAny C.M A (f (.str a t) (.int b u)) Q No s):di C k Z f (.str a) (.int b) (λv r=>R r) Z:=by intro W ra rb ha hb;refine fh ha λt=>fh hb λu=>Op.look λA s Q hr I hq=>h A s Q t u hr hq
theorem di.to {α:Type} {f:Value->Value->Sem α} {R R':Wd->α->Prop} (h:di C k Z f a b R aB) (g: ∀W r,R W r->R' W r):di C k Z f a b R' aB:=by intro W ra rb ha hb A s outer hr hA hS I;exact bH (h W ra rb ha hb A s outer hr hA hS I) (λr s' z=>(by obtain⟨W',le,I',q⟩:=z;exact⟨W',le,I',g _ _ q⟩)) λu v x=>x
variable {a b c:Int}
theorem qm:di C k Z (binaryOp .Add) (.int a) (.int b) (λW r=>aw W (.int (a+b)) r) Z:=(iK (R:=λr=> ∃t,r= .int (a+b) t) λA s Q t u hr h=>P.add_int (h _ _ ⟨_,rfl⟩)).to λW r q=>cG q λt e=>e▸b8
theorem LC:di C k Z (binaryOp .Sub) (.int a) (.int b) (λW r=>aw W (.int (a - b)) r) Z:=(iK (R:=λr=> ∃t,r= .int (a - b) t) λA s Q t u hr h=>P.sub_int (h _ _ ⟨_,rfl⟩)).to λW r q=>cG q λt e=>e▸b8
theorem w6:di C k Z (inplaceOp .Add) (.int a) (.int b) (λW r=>aw W (.int (a+b)) r) Z:=(iK (R:=λr=> ∃t,r= .int (a+b) t) λA s Q t u hr h=>P.iadd_int (h _ _ ⟨_,rfl⟩)).to λW r q=>cG q λt e=>e▸b8
theorem Hi:di C k Z (inplaceOp .Sub) (.int a) (.int b) (λW r=>aw W (.int (a - b)) r) Z:=(iK (R:=λr=> ∃t,r= .int (a - b) t) λA s Q t u hr h=>P.isub_int (h _ _ ⟨_,rfl⟩)).to λW r q=>cG q λt e=>e▸b8
theorem dm (hb:b≠0) (hc:a.fmod b=c):di C k Z (binaryOp .Mod) (.int a) (.int b) (λW r=>aw W (.int c) r) Z:=(iK (R:=λr=> ∃t,r= .int c t) λA s Q t u hr h=>mod_int' hb (h _ _ ⟨_,by rw [hc]⟩)).to λW r q=>cG q λt e=>e▸b8
theorem gv (hb:b≠0) (hc:a.fdiv b=c) (hp:Builtin.divisionGoesByPylong a b=false):di C k Z (binaryOp .FloorDiv) (.int a) (.int b) (λW r=>aw W (.int c) r) Z:=
 (iK (R:=λr=> ∃t,r= .int c t) λA s Q t u hr h=>floordiv_int hb (h _ _ ⟨_,by rw [hc]⟩) (.inl hp)).to λW r q=>cG q λt e=>e▸b8
theorem MI:di C k Z (compareOp .Eq) (.int a) (.int b) (λW r=>aw W (.bool (a==b)) r) Z:=(iK (R:=λr=>r= .bool (a==b)) λA s Q t u hr h=>P.eq_int (h _ _ rfl)).to λW r e=>e▸bO
theorem M8:di C k Z (compareOp .NotEq) (.int a) (.int b) (λW r=>aw W (.bool (a !=b)) r) Z:=(iK (R:=λr=>r= .bool (a !=b)) λA s Q t u hr h=>P.ne_int (h _ _ rfl)).to λW r e=>e▸bO
theorem Hu:di C k Z (compareOp .Lt) (.int a) (.int b) (λW r=>aw W (.bool (decide (a<b))) r) Z:=(iK (R:=λr=>r= .bool (decide (a<b))) λA s Q t u hr h=>P.lt_int (h _ _ rfl)).to λW r e=>e▸bO
theorem LG:di C k Z (compareOp .Gt) (.int a) (.int b) (λW r=>aw W (.bool (decide (a>b))) r) Z:=(iK (R:=λr=>r= .bool (decide (a>b))) λA s Q t u hr h=>P.gt_int (h _ _ rfl)).to λW r e=>e▸bO
theorem qY:ie C k Z (unaryOp .USub) (.int a) (λW r=>aw W (.int (-a)) r) Z:=by intro W ra ha;refine fh ha λt=>Op.look λA s Q hr I h=>P.neg_int (h _ _ b8)
theorem Iy:ie C k Z truthy (.int a) (λu r=>r=(a !=0)) Z:=by intro W ra ha;refine fh ha λt=>Op.look λA s Q hr I h=>P.truthy_int (h _ _ rfl)
theorem cp {b:Bool}:ie C k Z truthy (.bool b) (λu r=>r=b) Z:=by intro W ra ha;subst ha;exact Op.look λA s Q hr I h=>wpAny_truthy_bool (h _ _ rfl)
theorem tv:ie C k Z truthy .none (λu r=>r=false) Z:=by intro W ra ha;subst ha;exact Op.look λA s Q hr I h=>truthy_none (h _ _ rfl)
variable {x y z:Str}
theorem kM (hz:x.length+y.length<=sizeLine):di C k Z (binaryOp .Add) (.str x) (.str y) (λW r=>aw W (.str (x++y)) r) Z:=
 (oQ (R:=λr=> ∃t,r= .str (x++y) t) λA s Q t u hr h=>SB.add (λv w=>h _ _ ⟨_,rfl⟩) hz).to λW r q=>cG q λt e=>e▸bN
theorem II (hz:x.length+y.length<=sizeLine):di C k Z (inplaceOp .Add) (.str x) (.str y) (λW r=>aw W (.str (x++y)) r) Z:=
 (oQ (R:=λr=> ∃t,r= .str (x++y) t) λA s Q t u hr h=>SB.iadd (λv w=>h _ _ ⟨_,rfl⟩) hz).to λW r q=>cG q λt e=>e▸bN
theorem s_eq {c:Bool} (hc:(x==y)=c):di C k Z (compareOp .Eq) (.str x) (.str y) (λW r=>aw W (.bool c) r) Z:=
 (oQ (R:=λr=>r= .bool c) λA s Q t u hr h=>eq_str (h _ _ (by rw [hc]))).to λW r e=>e▸bO
theorem l5 {c:Bool} (hc:(x !=y)=c):di C k Z (compareOp .NotEq) (.str x) (.str y) (λW r=>aw W (.bool c) r) Z:=
 (oQ (R:=λr=>r= .bool c) λA s Q t u hr h=>ne_str (h _ _ (by rw [hc]))).to λW r e=>e▸bO
theorem IP {c:Bool} (hc:Txt.contains y x=c):di C k Z (compareOp .In) (.str x) (.str y) (λW r=>aw W (.bool c) r) Z:=
 (oQ (R:=λr=>r= .bool c) λA s Q t u hr h=>SB.contains (h _ _ (by rw [hc]))).to λW r e=>e▸bO
theorem Gw (hn:n<=1000) (h0: -1000<=n) (hx:x.length<=1000):di C k Z (binaryOp .Mult) (.str x) (.int n) (λW r=>aw W (.str (Txt.mul x n)) r) Z:=by
 have ok:MulOk x n:=by
  refine m9 (by simp only [Bool.or_eq_false_iff,decide_eq_false_iff_not];constructor<;>omega) (λh1 v=> ?_) λh1 v=> ?_
  ·have:(2 ^ 63 - 1:Int) / 1000<=(2 ^ 63 - 1) / n:=by rw [Int.le_ediv_iff_mul_le (by omega)];have:(2 ^ 63 - 1:Int) / 1000 * n<=(2 ^ 63 - 1:Int) / 1000 * 1000:=Int.mul_le_mul_of_nonneg_left hn (by decide);exact Int.le_trans this (by decide)
   have h2:(1000:Int)<=(2 ^ 63 - 1:Int) / 1000:=by decide
   omega
  ·have h2:x.length * n.toNat<=1000 * 1000:=wC hx (by omega);have e:sizeLine=16777216:=rfl;delta tooLong;rw [e];exact mE (by omega)
 exact(B1 (R:=λr=> ∃t,r= .str (Txt.mul x n) t) λA s Q t u hr h=>SB.mul ok (λv w=>h _ _ ⟨_,rfl⟩)).to λW r q=>cG q λt e=>e▸bN
theorem s_true {c:Bool} (hz:x.length<=sizeLine) (hc:((x.length:Int) !=0)=c):ie C k Z truthy (.str x) (λu r=>r=c) Z:=by intro W ra ha;refine fh ha λt=>?_;exact Op.look λA s Q hr I h=>P.truthy_str (by rw [jf]at hz;omega) (h _ _ hc)
theorem gA {b:Bool} (hv: ∀W r,aw W v r->(r==Value.none)=b):di C k Z (compareOp .Is) v .none (λW r=>aw W (.bool b) r) Z:=by intro W ra rb ha hb;subst hb;refine Op.look λA s Q hr I h=>is_none_gen ?_;rw [hv _ _ ha];exact h _ _ bO
theorem cV {b:Bool} (hv: ∀W r,aw W v r->(r==Value.none)=b):di C k Z (compareOp .IsNot) v .none (λW r=>aw W (.bool (!b)) r) Z:=by intro W ra rb ha hb;subst hb;refine Op.look λA s Q hr I h=>isnot_none_gen ?_;rw [hv _ _ ha];exact h _ _ bO
theorem rD: ∀W r,aw W (.str x) r->(r==Value.none)=false:=λW r h=>by refine fh h λt=>?_;rfl
theorem fK: ∀W r,aw W .none r->(r==Value.none)=true:=λW r h=>by subst h;rfl
theorem mn: ∀W r,aw W (.loc l) r->(r==Value.none)=false:=λW r h=>by refine uh h λt _=>?_;rfl
theorem iI {id:String} (h: ∀(A:Around) (s:Shared) (t:Tok) (pl:Sem Bool) (Q:Value×List Value->Shared->Prop),Q (.builtin id,[.str x t]) s->wpAny C.M A (getMethod (.str x t) name pl) Q No s):Mt C k Z (.str x) name (.bi id):=by intro W ro pl ha;refine fh ha λt=>Op.look λA s Q hr I hq=>h A s t pl Q (hq _ _ ⟨rfl,rfl⟩)
theorem FI:Mt C k Z (.str x) "count" (.bi "str.count"):=iI λu v w g m h=>GM.count h
theorem Gb:Mt C k Z (.str x) "rfind" (.bi "str.rfind"):=iI λu v w g m h=>GM.rfind h
theorem gy:Mt C k Z (.str x) "startswith" (.bi "str.startswith"):=iI λu v w g m h=>GM.startswith h
theorem pw:Mt C k Z (.str x) "endswith" (.bi "str.endswith"):=iI λu v w g m h=>GM.endswith h
theorem Bu:Mt C k Z (.str x) "rstrip" (.bi "str.rstrip"):=iI λu v w g m h=>GM.rstrip h
theorem rH:Mt C k Z (.str x) "split" (.bi "str.split"):=iI λu v w g m h=>GM.split h
theorem we:Mt C k Z (.str x) "join" (.bi "str.join"):=iI λu v w g m h=>GM.join h
theorem uc:Mt C k Z (.str x) "partition" (.bi "str.partition"):=iI λu v w g m h=>GM.partition h
theorem Ad:Mt C k Z (.str x) "replace" (.bi "str.replace"):=iI λu v w g m h=>GM.replace h
theorem KA {id:String} (h: ∀A s (Q:Value->Shared->Prop) t,bY C A k->(∀r tk,(∀W,aw W v r)->Q r {s with toks:=tk})->wpAny C.M A (call (.builtin id) [.str x t]) Q No s):Ca C k Z (.bi id) [.str x] [] v Z:=by refine xq λW r q=>fh q λt=>Op.look λA s Q hr I hq=>h A s Q t hr λr tk hv=>hq r tk (hv W)
theorem qG {id:String} (h: ∀A s (Q:Value->Shared->Prop) t u,bY C A k->(∀r tk,(∀W,aw W v r)->Q r {s with toks:=tk})->wpAny C.M A (call (.builtin id) [.str x t,.str y u]) Q No s):Ca C k Z (.bi id) [.str x,.str y] [] v Z:=by refine oj λW r r' q q'=>fh q λt=>fh q' λu=>Op.look λA s Q hr I hq=>h A s Q t u hr λr tk hv=>hq r tk (hv W)
theorem EW:Ca C k Z (.bi "str.count") [.str x,.str y] [] (.int (Txt.count x y)) Z:=qG λu v w g m q h=>SC.count (h _ _ λu=>b8)
theorem FN:Ca C k Z (.bi "str.rfind") [.str x,.str y] [] (.int (Txt.rfind x y)) Z:=qG λu v w g m q h=>SC.rfind (h _ _ λu=>b8)
theorem gK {c:Bool} (hc:Txt.startswith x y=c):Ca C k Z (.bi "str.startswith") [.str x,.str y] [] (.bool c) Z:=qG λu v w g m q h=>SC.startswith (h _ _ λu=>hc▸bO)
theorem pz {c:Bool} (hc:Txt.endswith x y=c):Ca C k Z (.bi "str.endswith") [.str x,.str y] [] (.bool c) Z:=qG λu v w g m q h=>SC.endswith (h _ _ λu=>hc▸bO)
theorem BN (hz:x.length<=sizeLine):Ca C k Z (.bi "str.rstrip") [.str x,.str y] [] (.str (Txt.rstripChars x y)) Z:=qG λu v w g m q h=>SC.rstripChars (λu v=>h _ _ λu=>bN) hz
theorem CY (hz:x.length<=sizeLine):Ca C k Z (.bi "len") [.str x] [] (.int x.length) Z:=KA λu v w g m h=>P.len_str (by rw [jf]at hz;omega) (h _ _ λu=>b8)
end
end V
end
section
namespace V
open Builtin Builtin.Str
section
variable {C:Cx} {k:Nat} {sc:Scope} {A:Around} {W:Wd} {env:Env} {ms ai aZ b6 aK:List (Option AV)} {Z ae aN bX aB:St} {s:Shared}
noncomputable def Ty (C:Cx) (o:AV) (T:String):Prop:= ∀W Z s ro,Inv C W Z s->aw W o ro-> ∀s':Shared,(∀b ob,s.heap.get? b=some ob->s'.heap.get? b=some ob)->s'.TypeIs ro T
theorem rE:Ty C (.str x) "str":=λW Z s ro I q s' h=>by refine fh q λt=>?_;exact pX _ _ _
noncomputable def IM (C:Cx) (Z:St) (o:AV) (T:String):Prop:= ∀W s ro,Inv C W Z s->aw W o ro->s.TypeIs ro T
theorem Ty.at (h:Ty C o T):IM C Z o T:=λW s ro I q=>h W Z s ro I q s λu v e=>e
theorem JX {o:AV} {T id:String} (ht:Ty C o T) (hl:typeLookup (.type T) "__getitem__"=pure (some (.builtin id))):Bg C Z o:=λW s ro I q=>by intro A Q E s' hk hq;have hT:s'.TypeIs ro T:=ht W Z s ro I q s' hk;rw [getitemInPython_of_ne hT.not_modules];exact aj (A1 hT hl (aQ hq))
theorem eg:Bg C Z (.str x):=JX rE F.slot_str_getitem.lookup
noncomputable def Pt (C:Cx) (k:Nat) (sc:Scope) (ms:List (Option AV)) (Z:St) (e:Option Expr) (v:AV) (aK:List (Option AV)) (aB:St):Prop:=
 Tr C k sc ms Z (λenv=>evalPart e env) (λW r=>aw W v r) aK aB
theorem bc:Pt C k sc ms Z none .none ms Z:=λu W v w g H=>aQ (bz (.refl W) H c5)
theorem bJ (h:Ev C k sc ms Z e v aK aB):Pt C k sc ms Z (some e) v aK aB:=h
theorem Cq (qx:aw W x vx) (qy:aw W y vy) (qz:aw W z vz):Op C k W Z (newFields "slice" [vx,vy,vz]) (λW r=>aw W (.AB x y z) r) Z:=by
 intro A s outer hr hA hS I;refine bI I.cz λn1 n2=>oI ?_;have g:(s.heap.push {cls:= .type "slice",data:= .fields #[vx,vy,vz]}).get? s.heap.objs.size=some {cls:= .type "slice",data:= .fields #[vx,vy,vz]}:=dZ _ rfl;refine bI (I.f6 (t:=s.toks) (d:=s.drawn) n1 n2 (a9 _ _) g) λle I'=>⟨_,le,I',?_⟩;refine⟨_,{cls:= .type "slice",data:= .fields #[vx,vy,vz]},vx,vy,vz,rfl,?_,rfl,rfl,qx.mono le,qy.mono le,qz.mono le⟩;show(if _ then _ else _)=_
 rw [aF rfl]
theorem bL {l u st:Option Expr} {p:Pos} {x y z:AV} (h1:Pt C k sc ms Z l x ai ae) (h2:Pt C k sc ai ae u y aZ aN) (h3:Pt C k sc aZ aN st z aK aB):Ev C k sc ms Z (.Slice l u st p) (.AB x y z) aK aB:=by intro A W env s hr H;refine(?_:wpAny C.M A (eval (.Slice l u st p) env) _ _ _);rw [arm_eval_Slice];refine cX (t:=valueOrNone (evalOpt l env)) (h1 A W env s hr H) λaR O1 aI aA aO p9=>aj (cE (bf (t:=valueOrNone (evalOpt u env)) (h2 A aR env aI hr aO) λbh O2 aT ax aG Nk=> ?_));refine aj (cE (bf (t:=valueOrNone (evalOpt st env)) (h3 A bh env aT hr aG) λbS O3 bt bg br Ed=> ?_));have as:=a8 br.fr;exact Op.in rfl (Cq (((p9.mono ax).mono bg).mono as) ((Nk.mono bg).mono as) (Ed.mono as)) hr br λnD r jd eW gu q tk v=>bz (((aA.trans ax).trans bg).trans eW) gu (tk q)
inductive fw:AV->Option Int->Prop
 | none:fw .none none
 | int (i:Int):fw (.int i) (some i)
theorem fw.part (h:fw x o) (q:aw W x v): ∃p:Option (Int×Tok),v=partValue p/\p.map (·.1)=o:=by
 cases h with
 | none=>subst q;exact i12 Option.none rfl rfl
 | int i=>refine fh q λt=>?_;exact i12 (some (i,t)) rfl rfl
theorem FH (ha:fw a l) (hb:fw b u) (hz:x.length<=sizeLine):di C k Z getItem (.str x) (.AB a b .none) (λW r=>aw W (.str (Txt.slice x l u)) r) Z:=by
 intro W ra rb qa qb;refine fh qa λt=>?_;refine Eo qb λb' o vx vy vz v=>?_;clear qb;subst v;intro f z1 w;refine kD w λz2 k1 k2 k3=>?_;refine c12 (ha.part k1) λpl z=>?_;subst z;intro e1;refine c12 (hb.part k2) λpu q=>?_;subst q;intro e2
 skip;subst k3
 refine Op.look λA s Q hr I hq=> ?_;refine wpAny_getItem_str_slice (l:=pl) (u:=pu) (st:=none) ⟨o,I.frozen f (by rw [z1];decide),z1,z2⟩ rfl ?_;subst e1;subst e2;exact post_val_or_str ⟨bU (Txt.slice_le x _ _) hz,λt' k=>hq _ _ bN⟩
theorem Ib (hr:fitsSsize i=true) (hin:(Txt.charAt x i).isSome=true) (hy:Txt.item x i=y):di C k Z getItem (.str x) (.int i) (λW r=>aw W (.str y) r) Z:=by subst hy;exact(B1 (R:=λr=> ∃t,r= .str (Txt.item x i) t) λA s Q t u hrm h=>SB.getItem hr hin (h _ _ ⟨_,rfl⟩)).to λW r q=>cG q λt e=>e▸bN
theorem eJ {Q:Flow->Pos->Shared->Prop} {E:Value->Pos->Shared->Prop}: ∀{p:Pos} {s:Shared},
  Sem.wp M Γ (execs (xs++ys) env) Q E p s->Sem.wp M Γ (execs xs env) (λf p' s'=>Sem.wp M Γ (match f with | .next=>execs ys env | f=>pure f) Q E p' s') E p s:=by
 induction xs with
 | nil=>intro p s h;exact h
 | cons x xs ih=>
  intro p s h;rw [AU,execs_cons,vE]at h;rw [execs_cons,vE];refine Sem.wp_mono M Γ _ (λf p' s' h'=> ?_) (λu v w h'=>h') _ _ h;cases f with
  | next=>exact ih h'
  | _=>exact h'
theorem GK (h1:Tv C k sc ms Z test b ai ae) (h2:Ex C k sc ai ae ((if b then x else y)++rest) f aK aB):Ex C k sc ms Z (.If test x y pos::rest) f aK aB:=by
 intro A W env s hr H;have key:wpAny C.M A (isTrue test env (eval test env)) (λb aI=>wpAny C.M A (execs ((if b then x else y)++rest) env) (ic C sc A W env aK aB λW r=>bQ W f r) No aI) No s:=by refine bf (h1 A W env s hr H) λaR rb aI aA aO qb=> ?_;subst qb;exact bf (h2 A aR env aI hr aO) λbh r aT ax aG q=>bz (aA.trans ax) aG q
 refine(?_:wpAny C.M A (execs (.If test x y pos::rest) env) _ _ _);intro Γ p D9;rw [execs_cons,vE,exec_If];simp only [vE,Sem.wp_cmd_standAt];refine Sem.wp_mono C.M Γ _ (λb Je aT jD=> ?_) (λu v w h'=>h') _ _ (key Γ _ D9);have jD:=jD Γ Je D9;cases b
 ·exact eJ jD
 ·exact eJ jD
theorem zx (hv:v.In λl=>(Z l).isSome=true):Exit Z Z (.ret v) v Z:=⟨λu w e=>e,λu e=>e,λu w e=> .inl e,.inl ⟨rfl,hv⟩⟩
theorem xb {α:Type} {P:α->Prop}: ∀x∈([]:List α),P x:=λu h=>nomatch h
theorem vD {α:Type} {P:α->Prop} {a:α} {l:List α} (h:P a) (r: ∀x∈l,P x): ∀x∈a::l,P x:=λx hx=>by
 refine aP (cM.mp hx) (λq=>?_) λhx=>?_
 ·subst q;exact h
 ·exact r x hx
theorem all1 {α:Type} {P:α->Prop} {a:α} (h:P a): ∀x∈ [a],P x:=vD h xb
theorem all2 {α:Type} {P:α->Prop} {a b:α} (h:P a) (g:P b): ∀x∈ [a,b],P x:=vD h (all1 g)
theorem len0 {α:Type} {P:List α->Prop} (h:P []): ∀l:List α,l.length=0->P l:=λl e=>by rw [List.length_eq_zero_iff.mp e];exact h
theorem CE {α:Type} {P:List α->Prop} (h: ∀a (l:List α),l.length=n->P (a::l)): ∀l:List α,l.length=n+1->P l:=λl e=>by
 cases l with
 | nil=>cases e
 | cons a l=>exact h a l (Nat.succ.inj e)
theorem gx {α:Type} {P:List α->Prop} (h: ∀a,P [a]): ∀l:List α,l.length=1->P l:=CE λa=>len0 (h a)
theorem Aq {α:Type} {P:List α->Prop} (h: ∀a b,P [a,b]): ∀l:List α,l.length=2->P l:=CE λa=>gx (h a)
theorem Fy {α:Type} {P:List α->Prop} (h: ∀a b c,P [a,b,c]): ∀l:List α,l.length=3->P l:=CE λa=>Aq (h a)
theorem kU {α:Type} {P:List α->Prop} (h: ∀a b c d,P [a,b,c,d]): ∀l:List α,l.length=4->P l:=CE λa=>Fy (h a)
noncomputable def Facts (sc:Scope):List (Str×NameKind)->Nat->Prop
 | [],_=>True
 | p::r,i=>sc.names[i]? =some p/\Facts sc r (i+1)
theorem wz: ∀{l:List (Str×NameKind)} {i:Nat},sc.names.drop i=l->Facts sc l i:=by
 intro aH;induction aH with
 | nil=>intro u v;exact trivial
 | cons p r ih=>
  intro i h;have e:sc.names[i]? =some p:=by
   have:(sc.names.drop i)[0]? =some p:=by rw [h];rfl
   simpa using this
  refine⟨e,ih ?_⟩;have:(sc.names.drop i).drop 1=r:=by rw [h];rfl
  rwa [List.drop_drop]at this
theorem oK (h:sc.names=l):Facts sc l 0:=wz (by rw [h];rfl)
theorem lQ (O:C.Ok) (hF:Fn C fa fd body) (names:List (Str×NameKind)) (hsc:fd.scope.names=names) (bs:List (Str×AV)) (ae:St)
  (hb:Bd C k fd Z as kw bs ae) (h1:(names.take bs.length).map (·.1)=bs.map (·.1)) (h2:((names.take bs.length).all λp=>p.2== .local || p.2== .cell)=true)
  (h: ∀sc,Facts sc names 0-> ∀n,(∀l:Loc,n<=l.tag->Z l=none)-> ∃f aK cP,Ex C k sc (bs.map (λp=>some p.2)++List.replicate (names.length - bs.length) none) ae body f aK cP/\Exit Z cP f v aB):Ca C (k+1) Z (.ext fa) as kw v aB:=by
 refine HP O hF λn hn=>tC (h fd.scope (oK hsc) n hn) λf aK cP h3 h4=>?_;refine⟨bs,ae,f,aK,cP,hb,by rw [hsc];exact h1,λp hp=> ?_,?_,h4⟩
 ·rw [hsc]at hp;have:=p6.mp h2 p hp;simpa using this
 ·delta rS;rw [hsc];exact h3
theorem ag (hi:sc.names[i]? =some (x,NameKind.local)) (hm:ms.set i (some v)=aK):As C k sc ms Z (.Name x pos) v aK Z:=hm▸CM hi
theorem dw (hi:sc.names[i]? =some (x,NameKind.cell)) (hm:ms.set i (some v)=aK):As C k sc ms Z (.Name x pos) v aK Z:=hm▸FG hi
theorem lM (h:(a==b)=c):di C k Z (compareOp .Eq) (.int a) (.int b) (λW r=>aw W (.bool c) r) Z:=h▸MI
theorem Gx (h:(a !=b)=c):di C k Z (compareOp .NotEq) (.int a) (.int b) (λW r=>aw W (.bool c) r) Z:=h▸M8
theorem GR (h:decide (a<b)=c):di C k Z (compareOp .Lt) (.int a) (.int b) (λW r=>aw W (.bool c) r) Z:=h▸Hu
theorem Cw (h:decide (a>b)=c):di C k Z (compareOp .Gt) (.int a) (.int b) (λW r=>aw W (.bool c) r) Z:=h▸LG
theorem cY (h:(a !=0)=c):ie C k Z truthy (.int a) (λu r=>r=c) Z:=h▸Iy
noncomputable def B (x:Str) (n:Nat):Prop:=x.length<=n
theorem fQ (h1:B x a) (h2:B y b):B (x++y) (a+b):=by delta B at *;rw [size_cat];omega
theorem iV (h:x.length=n):B x n:=Nat.le_of_eq h
theorem xU (h1:B x a):B (Txt.slice x l u) a:=bU (Txt.slice_le x _ _) h1
theorem Lu {x:Str}: ∀{n:Nat} {acc:Array Nat},((List.replicate n x.cps).foldl (· ++ ·) acc).size=acc.size+n * x.length:=by
 intro aH;induction aH with
 | zero=>
  intro acc;exact by simp
 | succ n ih=>intro acc;rw [List.replicate_succ,cW,ih,Du,Nat.succ_mul];refine(?_:acc.size+x.length+_=_);omega
theorem Lm (h1:B x a) (hm:m<=1000):B (Txt.mul x m) (1000 * a):=by
 delta B at *;delta Txt.mul;split
 ·exact dW _
 ·split
  ·omega
  ·refine(?_:((List.replicate m.toNat x.cps).foldl (· ++ ·) #[]).size<=_);rw [Lu];have:m.toNat * x.length<=1000 * a:=wC (by omega) h1;simpa using this
theorem dD (h1:B x a) (h2:B y b) (h3:decide (a+b<=16777216)=true):di C k Z (binaryOp .Add) (.str x) (.str y) (λW r=>aw W (.str (x++y)) r) Z:=
 kM (by have:=jB h3;delta B at *;rw [jf];omega)
theorem nT (h1:B x a) (h2:B y b) (h3:decide (a+b<=16777216)=true):di C k Z (inplaceOp .Add) (.str x) (.str y) (λW r=>aw W (.str (x++y)) r) Z:=
 II (by have:=jB h3;delta B at *;rw [jf];omega)
theorem BG (h1:B x a) (h2:decide (a<=1000)=true) (hn:n<=1000) (h0: -1000<=n):di C k Z (binaryOp .Mult) (.str x) (.int n) (λW r=>aw W (.str (Txt.mul x n)) r) Z:=
 Gw hn h0 (bU h1 (jB h2))
theorem cH (ha:fw a l) (hb:fw b u) (h1:B x n) (h3:decide (n<=16777216)=true):di C k Z getItem (.str x) (.AB a b .none) (λW r=>aw W (.str (Txt.slice x l u)) r) Z:=
 FH ha hb (bU h1 (jf▸jB h3))
theorem c7 (h1:B x n) (h3:decide (n<=16777216)=true) (hc:((x.length:Int) !=0)=c):ie C k Z truthy (.str x) (λu r=>r=c) Z:=
 s_true (bU h1 (jf▸jB h3)) hc
theorem bR (h: ∀df:List Value,df.length=as.length->bindArgs fd ⟨df,[]⟩=pure ((bs.map (·.1)).zip df)) (hb:bs.map (·.2)=as):Bd C k fd Z as [] bs Z:=by refine yg λW df fp ha hk=> ?_;subst hk;refine i12 _ (h df ha.length) (ja (by rw [hb];exact ha))
end
end V
end
section
namespace V
open Builtin
noncomputable def Hd (A:Around) (h:Heap):Prop:=A.handled=none\/ ∃e o vs,A.handled=some (.ref e)/\h.get? e=some o/\o.data= .fields vs/\vs[2]? =some .none
section
variable {prog:Program} {w:World} {A:Around} {E:Value->Shared->Prop} {s:Shared}
theorem pG:entryFor table "proto.unchain"=some Builtin.«proto.unchain» :=by first | exact entryFor_of_fast (by kernel_rfl) | exact entryFor_of_tree (by kernel_rfl)
theorem pL {id:String} {args:Args} {b:Builtin} {R:Result->Shared->Prop} (hb:entryFor table id=some b)
  (h:wpAny (model prog w) (A.under (.builtin id args)) (b args) (λfin s'=>match fin with | .done f=>R (.ok f) s' | .again c'=>c'.quiet=true/\codeAny (model prog w) A c' R s') (λe s'=>R (.error e) s') s):
  codeAny (model prog w) A (.builtin id args) R s:=by
 refine mB ?_;refine(?_:wpAny _ _ (match entryFor table id with | some b=>b args | none=>unsupported ((withoutEnding? id "#data").getD id)) _ _ _);rw [hb];exact h
theorem uu {α:Type} {Q:α->Shared->Prop} (hd:Hd A s.heap)
  (h: ∀h' a,(∀b o,s.heap.get? b=some o->h'.get? b=some o)->(∃o,h'.get? a=some o/\o.cls= .type "StopIteration")->E (.ref a) {s with heap:=h'}):
  wpAny (model prog w) A (newExc (.type "StopIteration") []>>=λe=>(raiseNew e:Sem α)) Q E s:=by
 refine aj ?_;refine aj (oI ?_ (by size_fits));refine aj (m:=firstArgMember _ _) (eL (a:=Value.none) (by first | rfl | (simp only [firstArgMember];rfl)) ?_);refine oI ?_ (by size_fits);refine aj (wpAny_handled ?_);have ks: ∀b o,s.heap.get? b=some o->((s.heap.push {cls:= .type "tuple",data:= .seq [].toArray}).push {cls:= .type "StopIteration",data:= .fields (#[Value.ref s.heap.objs.size,.none,.none,.none,.bool false,Value.none]++ownMembersOf (.type "StopIteration") [])}).get? b=some o:=λb o z=>mG _ (mG _ z);have g:=dZ (s.heap.push {cls:= .type "tuple",data:= .seq [].toArray}) (o:={cls:= .type "StopIteration",data:= .fields (#[Value.ref s.heap.objs.size,.none,.none,.none,.bool false,Value.none]++ownMembersOf (.type "StopIteration") [])}) rfl;refine aP hd (λhd=>?_) λu=>AE u λe o vs hd he hdt h2=>?_
 ·rw [hd];exact aj (aQ (wpAny_throw (h _ _ ks ⟨_,g,rfl⟩)))
 ·rw [hd];have ne:e≠(s.heap.push {cls:= .type "tuple",data:= .seq [].toArray}).objs.size:=λz=>by have:=ig (mG {cls:= .type "tuple",data:= .seq [].toArray} he);rw [<-z]at this;exact absurd this (iN _)
  dsimp only;rw [aF (by simpa using ne)];refine aj (cE (wpAny_runValue (pL pG ?_)));refine aj (iJ (ks _ _ he) hdt h2 ?_);rw [aF (show(Value.none==Value.none)=true by decide)];refine aQ ?_;refine aj ?_;refine rQ g rfl (by rw [Du];exact sP (show 2<6 by decide) (gZ 6 _)) (wpAny_throw (h _ _ (λb o z=> ?_) ⟨_,jt _ g rfl,rfl⟩));rw [nu _ _ λq=>by rw [<-q]at z;exact absurd (ig z) (by simp [Heap.push])];exact ks b o z
theorem mu {T id:String} {b:Builtin} {Q:Option Value->Shared->Prop} (hT:s.TypeIs (.ref it) T) (hs:Slot T "__next__" id) (he:entryFor table id=some b) (ha:argsOk id ⟨[.ref it],[]⟩)
  (h:wpAny (model prog w) A.in1 (b ⟨[.ref it],[]⟩) (λu v=>False) (λe s'=> ∃a o,e= .ref a/\s'.heap.get? a=some o/\o.cls= .type "StopIteration"/\Q none s') s):wpAny (model prog w) A (pyNext (.ref it)) Q E s:=by
 delta pyNext;refine aj (wpAny_attempt (FU (name:=Str.ofString "__next__") hT hs (zN hs hT he (bH h (λu v x=>x.elim) λe s' hh=> ?_) ha)));refine tO hh λa o z=>?_;subst z;intro g c q;exact aj (Bo (T:="StopIteration") (b:=true) ⟨o,g,c⟩ isSubtype_stop (aQ q))
theorem xN {Q:Fin->Shared->Prop} (hd:Hd A s.heap)
  (hit:s.heap.IsListIter it l i) (hl:s.heap.IsList l items) (hx:items[i]? =none) (hdo: ∀e o vs,A.handled=some (.ref e)->s.heap.get? e=some o->o.data= .fields vs->vs[2]? =some .none->e≠it)
  (hE: ∀h' a,(∀b o,b≠it->s.heap.get? b=some o->h'.get? b=some o)->(∃o,h'.get? a=some o/\o.cls= .type "StopIteration")->E (.ref a) {s with heap:=h'}):
  wpAny (model prog w) A (Builtin.«list_iterator.__next__» ⟨[.ref it],[]⟩) Q E s:=by
 refine fJ (id hit) λo ho hc hdt=>?_;obtain⟨ol,hol,_,nl,hdl⟩:=hl;refine(?_:wpAny _ _ (field (.ref it) 0>>=_) _ _ s);refine aj (iJ ho hdt (x:= .ref l) rfl ?_);refine(?_:wpAny _ _ (if(Value.ref l==Value.none)=true then _ else _) _ _ s);rw [ay (show¬((Value.ref l==Value.none)=true)from dM)];refine(?_:wpAny _ _ (field (.ref it) 1>>=_) _ _ s);refine aj (iJ ho hdt (x:= .int i 0) rfl ?_);refine aj (uU hol hdl ?_);simp only [tS,hx];refine aj (rL (aj (rQ ho hdt (by exact gZ _ _) ?_)));have other: ∀b ob,b≠it->s.heap.get? b=some ob->(s.heap.update it (Obj.mapFields (·.setIfInBounds 0 .none))).get? b=some ob:=λb ob nb z=>by rw [nu _ _ (f7 nb)];exact z
 exact uu (hd.elim .inl λu=>AE u λe oe vs h1 h2 h3 h4=>.inr ⟨e,oe,vs,h1,other _ _ (hdo e oe vs h1 h2 h3 h4) h2,h3,h4⟩) λh' a k q=>hE _ _ (λb ob nb z=>k _ _ (other b ob nb z)) q
theorem vj {Q:Option Value->Shared->Prop} (hd:Hd A s.heap)
  (hit:s.heap.IsListIter it l i) (hl:s.heap.IsList l items) (hx:items[i]? =none) (hdo: ∀e o vs,A.handled=some (.ref e)->s.heap.get? e=some o->o.data= .fields vs->vs[2]? =some .none->e≠it)
  (hQ: ∀h',(∀b o,b≠it->s.heap.get? b=some o->h'.get? b=some o)->Q none {s with heap:=h'}):wpAny (model prog w) A (pyNext (.ref it)) Q E s:=
 mu hit.typeIs Dv entry_listiter_next (args_listiter_next _) (xN (A:=A.in1) hd hit hl hx hdo λh' a k q=>(by refine c12 q λoa g c=>?_;clear q;exact⟨a,oa,rfl,g,c,hQ _ k⟩))
theorem mX {Q:Value->Shared->Prop} (hd:Hd A s.heap)
  (hit:s.heap.IsListIter it l i) (hl:s.heap.IsList l items) (hx:items[i]? =none) (hdo: ∀e o vs,A.handled=some (.ref e)->s.heap.get? e=some o->o.data= .fields vs->vs[2]? =some .none->e≠it)
  (hE: ∀h' a,(∀b o,b≠it->s.heap.get? b=some o->h'.get? b=some o)->(∃o,h'.get? a=some o/\o.cls= .type "StopIteration")->E (.ref a) {s with heap:=h'}):
  wpAny (model prog w) A (Builtin.SmallTypes.nextOf (.ref it)) Q E s:=by
 delta Builtin.SmallTypes.nextOf;exact aj (FU (name:=Str.ofString "__next__") hit.typeIs Dv (zN Dv hit.typeIs entry_listiter_next (xN (A:=A.in1) hd hit hl hx hdo hE) (args_listiter_next _)))
theorem z8 {it:Addr} {x left step:Int} {Q:Option Value->Shared->Prop} (hd:Hd A s.heap) (hit:IsRangeIter s.heap it x left step) (hleft:left<=0)
  (hQ: ∀h',(∀b o,s.heap.get? b=some o->h'.get? b=some o)->Q none {s with heap:=h'}):wpAny (model prog w) A (pyNext (.ref it)) Q E s:=by
 have hT:s.TypeIs (.ref it) "range_iterator":=⟨_,hit,rfl⟩;refine mu hT F.slot_range_iterator_next F.entry_range_iterator_next (F.args_range_iterator_next_1 _) ?_;refine(?_:wpAny _ _ (field (.ref it) 0>>=_) _ _ s);refine aj (iJ hit rfl (x:=rawInt x) rfl ?_);refine aj (iJ hit rfl (x:=rawInt left) rfl ?_);refine aj (iJ hit rfl (x:=rawInt step) rfl ?_);refine(?_:wpAny _ _ (if left<=0 then _ else _) _ _ s);rw [aF hleft];refine aj (rL ?_);refine aj ?_;exact uu (A:=A.in1) hd λh' a k q=>(by refine c12 q λoa g c=>?_;clear q;exact⟨a,oa,rfl,g,c,hQ _ k⟩)
theorem qD {C:Cx} (h:C.hx=none):C.hx≠some 0:=by rw [h];exact λz=>by exact dF z
end
section
variable {C:Cx} {k:Nat} {A:Around} {W:Wd} {Z:St} {s:Shared}
theorem bY.hd (hr:bY C A k) (h0:C.hx≠some 0) (I:Inv C W Z s):Hd A s.heap/\ ∀e o vs,A.handled=some (.ref e)->s.heap.get? e=some o->o.data= .fields vs->vs[2]? =some .none->W.fz e≠Option.none:=by
 refine aP (hr.2.2.2 h0) (λh=>?_) λu=>AE u λe o vs h1 h2 h3 h4=>?_
 ·exact⟨.inl h,λe o vs z=>by rw [h]at z;exact dF z⟩
 ·refine⟨.inr ⟨e,o,vs,h1,I.kept _ _ h2,h3,h4⟩,λe' v w z g m y q=> ?_⟩;rw [h1]at z
  injection z with z
  injection z with z
  subst z;rw [I.base _ _ h2]at q;exact sa q
end
end V
end
section
namespace V
open Builtin Builtin.Str
section
variable {C:Cx} {k:Nat} {sc:Scope} {A:Around} {W:Wd} {env:Env} {ms ai aZ b6 aK:List (Option AV)} {Z ae aN bX aB:St} {s:Shared}
theorem d5 {E:Value->Shared->Prop} {Q:Unit->Shared->Prop} (g:s.heap.get? it=some ob) (c:ob.cls= .type n) (d:ob.data= .fields vs)
  (hn:(["enumerate","zip","dict_itemiterator","dict_reverseitemiterator","odict_iterator","itertools.zip_longest","itertools.pairwise"]:List String).contains n=false) (h:Q () s):wpAny M A (letOwnedTupleGo tgt (.ref it) rx) Q E s:=by
 cases tgt<;>first
  | exact aQ h
  | (cases rx<;>first
    | exact aQ h
    | (refine aj (wpAny_load g ?_);rw [c,d];simp only [hn,Bool.false_and];exact aQ h))
noncomputable def Ju (i:Nat) (rs:Value) (ob:Obj):Prop:= ∃la,rs= .ref la/\ob.cls= .type "list_iterator"/\ob.data= .fields #[.ref la,.int i 0]
theorem Ju.is (h:Ju i (.ref la) ob) (g:s.heap.get? it=some ob):s.heap.IsListIter it la i:=by refine fJ h λEe e c d=>?_;clear h;cases e;exact tZ ob g c d
theorem aw.isList (q:aw W (.lst xs) rv) (I:Inv C W Z s): ∃la vs,rv= .ref la/\s.heap.IsList la (List.toArray vs)/\aU W xs vs:=by refine Ke q λa o vs n f z1 z2 ks=>?_;exact jE a vs rfl ⟨o,I.frozen f (by rw [z1];decide),z1,n,by rw [z2]⟩ ks
theorem Dx (h0:C.hx≠some 0:=by kln_le):r6 C k (λp=>True) (.lst xs) xs (.lst xs) Ju where
 jk:=λi rv ob m=>(by refine fJ m λla _ c _=>?_;clear m;exact⟨λn z=>by rw [c]at z;cases z;decide,by rw [c];decide⟩)
 start:=λW Z rv A s outer p hr hA hS I q=>by refine fq (q.isList I) λla vs t=>?_;subst t;intro hl ks;refine wpAny_pyIter_list hl ⟨W,s.heap.objs.size,{cls:= .type "list_iterator",data:= .fields #[.ref la,.int 0 0]},.ref la,.refl W,I.same (a9 _ _),rfl,dZ _ rfl,I.cz,q,⟨la,rfl,rfl,rfl⟩⟩
 self:=λi rs ob it A s E Q g h hq=>by refine fJ h λla y=>?_;clear h;subst y;intro c d;exact wpAny_pyIter_listiter (i:=i) ⟨ob,g,c,d⟩ hq
 next:=λi x W Z rs ob it A s outer hx p hr hA hS I g hf q h=>by refine fq (q.isList I) λla vs w=>?_;subst w;intro hl ks;refine c12 (ks.get hx) λv hv qv=>wpAny_pyNext_list_item (h.is g) hl (by simpa using hv) λh' hi hs'=> ?_;refine fJ hi λob' g' c' d'=>?_;clear hi;exact⟨W,v,ob',.refl W,I.but hf.1 hf.2 λb o nb e=>(hs'.2 b nb).trans e,rfl,qv,g',hf,⟨la,rfl,c',d'⟩⟩
 stop:=λW Z rs ob it A s outer p hr hA hS I g hf q h=>by refine fq (q.isList I) λla vs u=>?_;subst u;intro hl ks;refine bI (hr.hd h0 I) λhd hn=>vj hd (h.is g) hl (by simp [ks.length]) (λe o vs a b c d q=>hn e o vs a b c d (q▸hf.1)) λh' hs'=>⟨W,.refl W,I.but hf.1 hf.2 λb o nb e=>hs' b o nb e,rfl⟩
 hZ:=λi W Z rs rx ob it A s tgt I g hf r=>fJ r λla e c d=>d5 g c d (by decide) ⟨ob,I,g,⟨la,e,c,d⟩,λp l j z=>z⟩
theorem dG (h0:C.hx≠some 0:=by kln_le):vK C k (λu=>True) (.lst xs) xs (.lst xs) (GD Ju) tgt:=(Dx h0).Iq
inductive IsL (Z:St):AV->List AV->Prop
 | lst (xs:List AV):IsL Z (.lst xs) xs
 | loc {l:Loc} {xs:List AV} (h:Z l=some (.list xs)):IsL Z (.loc l) xs
theorem IsL.is (h:IsL Z v xs) (q:aw W v rv) (I:Inv C W Z s): ∃la vs n,rv= .ref la/\s.heap.get? la=some {cls:= .type "list",data:= .seq (List.toArray vs) n}/\aU W xs vs:=by
 cases h with
 | lst=>refine xr q λa o vs n u=>?_;clear q;subst u;intro f z1 w;subst w;intro ks;exact zD a vs n rfl (I.frozen f (by rw [z1];decide)) ks
 | loc h=>refine uh q λa e=>?_;obtain⟨ob,h1,c1,vs,n,rfl,c3⟩:=I.obj _ a _ e h;exact zD a vs n rfl h1 c3
theorem IsL.list (h:IsL Z v xs) (q:aw W v rv) (I:Inv C W Z s): ∃la vs,rv= .ref la/\s.heap.IsList la (List.toArray vs)/\aU W xs vs:=by refine lN (h.is q I) λla vs n e h1 ks=>jE la vs e ⟨_,h1,rfl,n,rfl⟩ ks
theorem yQ (h0:C.hx≠some 0:=by kln_le):r6 C k (λZ=>IsL Z v xs) v xs v Ju where
 jk:=λi rv ob m=>(by refine fJ m λla _ c _=>?_;clear m;exact⟨λn z=>by rw [c]at z;cases z;decide,by rw [c];decide⟩)
 start:=λW Z rv A s outer ok hr hA hS I q=>by refine fq (ok.list q I) λla vs t=>?_;subst t;intro hl ks;refine wpAny_pyIter_list hl ⟨W,s.heap.objs.size,{cls:= .type "list_iterator",data:= .fields #[.ref la,.int 0 0]},.ref la,.refl W,I.same (a9 _ _),rfl,dZ _ rfl,I.cz,q,⟨la,rfl,rfl,rfl⟩⟩
 self:=λi rs ob it A s E Q g h hq=>by refine fJ h λla y=>?_;clear h;subst y;intro c d;exact wpAny_pyIter_listiter (i:=i) ⟨ob,g,c,d⟩ hq
 next:=λi x W Z rs ob it A s outer hx ok hr hA hS I g hf q h=>by refine fq (ok.list q I) λla vs w=>?_;subst w;intro hl ks;refine c12 (ks.get hx) λv hv qv=>wpAny_pyNext_list_item (h.is g) hl (by simpa using hv) λh' hi hs'=> ?_;refine fJ hi λob' g' c' d'=>?_;clear hi;exact⟨W,v,ob',.refl W,I.but hf.1 hf.2 λb o nb e=>(hs'.2 b nb).trans e,rfl,qv,g',hf,⟨la,rfl,c',d'⟩⟩
 stop:=λW Z rs ob it A s outer ok hr hA hS I g hf q h=>by refine fq (ok.list q I) λla vs u=>?_;subst u;intro hl ks;refine bI (hr.hd h0 I) λhd hn=>vj hd (h.is g) hl (by simp [ks.length]) (λe o vs a b c d q=>hn e o vs a b c d (q▸hf.1)) λh' hs'=>⟨W,.refl W,I.but hf.1 hf.2 λb o nb e=>hs' b o nb e,rfl⟩
 hZ:=λi W Z rs rx ob it A s tgt I g hf r=>fJ r λla e c d=>d5 g c d (by decide) ⟨ob,I,g,⟨la,e,c,d⟩,λp l j z=>z⟩
theorem iU (h0:C.hx≠some 0:=by kln_le):vK C k (λZ=>IsL Z v xs) v xs v (GD Ju) tgt:=(yQ h0).Iq
theorem aw.isTup (q:aw W (.tup xs) rv) (I:Inv C W Z s): ∃la vs n,rv= .ref la/\s.heap.get? la=some {cls:= .type "tuple",data:= .seq (List.toArray vs) n}/\aU W xs vs:=by refine xr q λa o vs n z=>?_;clear q;subst z;intro f z1 u;subst u;intro ks;exact zD a vs n rfl (I.frozen f (by rw [z1];decide)) ks
noncomputable def Mj (i:Nat) (rs:Value) (ob:Obj):Prop:= ∃la,rs= .ref la/\ob.cls= .type "tuple_iterator"/\ob.data= .fields #[.ref la,.int i 0]
theorem Mj.is (h:Mj i (.ref la) ob) (g:s.heap.get? it=some ob):s.heap.IsTupleIter it la i:=by refine fJ h λEe e c d=>?_;clear h;cases e;exact tZ ob g c d
theorem BD (h0:C.hx=none:=by assumption):r6 C k (λp=>True) (.tup xs) xs (.tup xs) Mj where
 jk:=λi rv ob m=>(by refine fJ m λla _ c _=>?_;clear m;exact⟨λn z=>by rw [c]at z;cases z;decide,by rw [c];decide⟩)
 start:=λW Z rv A s outer p hr hA hS I q=>by refine lN (q.isTup I) λla vs n t=>?_;subst t;intro hl ks;refine wpAny_pyIter_tuple ⟨_,hl,rfl,n,rfl⟩ ⟨W,s.heap.objs.size,{cls:= .type "tuple_iterator",data:= .fields #[.ref la,.int 0 0]},.ref la,.refl W,I.same (a9 _ _),rfl,dZ _ rfl,I.cz,q,⟨la,rfl,rfl,rfl⟩⟩
 self:=λi rs ob it A s E Q g h hq=>by refine fJ h λla y=>?_;clear h;subst y;intro c d;exact wpAny_pyIter_tupleiter (i:=i) ⟨ob,g,c,d⟩ hq
 next:=λi x W Z rs ob it A s outer hx p hr hA hS I g hf q h=>by refine lN (q.isTup I) λla vs n w=>?_;subst w;intro hl ks;refine c12 (ks.get hx) λv hv qv=>wpAny_pyNext_tuple_item (h.is g) ⟨_,hl,rfl,n,rfl⟩ (by simpa using hv) λh' hi hs'=> ?_;refine fJ hi λob' g' c' d'=>?_;clear hi;exact⟨W,v,ob',.refl W,I.but hf.1 hf.2 λb o nb e=>(hs'.2 b nb).trans e,rfl,qv,g',hf,⟨la,rfl,c',d'⟩⟩
 stop:=λW Z rs ob it A s outer p hr hA hS I g hf q h=>by refine lN (q.isTup I) λla vs n u=>?_;subst u;intro hl ks;refine wpAny_pyNext_tuple_end (hr.none h0) (h.is g) ⟨_,hl,rfl,n,rfl⟩ (by simp [ks.length]) λh' hs'=>⟨W,.refl W,I.but hf.1 hf.2 λb o nb e=>hs' b o nb e,rfl⟩
 hZ:=λi W Z rs rx ob it A s tgt I g hf r=>fJ r λla e c d=>d5 g c d (by decide) ⟨ob,I,g,⟨la,e,c,d⟩,λp l j z=>z⟩
theorem iw (h0:C.hx=none:=by assumption):vK C k (λu=>True) (.tup xs) xs (.tup xs) (GD Mj) tgt:=(BD h0).Iq
noncomputable def sE (a b:Int):List AV:=(List.range (b - a).toNat).map λ(i:Nat)=>AV.int (a+i)
theorem C6 {a b:Int} {i:Nat} {x:AV} (h:(sE a b)[i]? =some x):x= .int (a+i)/\(i:Int)<b - a:=by
 delta sE at h;rw [gr]at h;cases q:(List.range (b - a).toNat)[i]? with
 | none=>rw [q]at h;exact dF h
 | some j=>rw [q]at h;have hi:i<(List.range (b - a).toNat).length:=(lF.mp q).1;rw [AZ]at hi;rw [List.getElem?_range hi]at q;cases q;cases h;exact⟨rfl,by omega⟩
theorem Ck:(sE a b).length=(b - a).toNat:=by delta sE;simp
noncomputable def GC (a b:Int) (i:Nat) (rs:Value) (ob:Obj):Prop:=ob={cls:= .type "range_iterator",dict:=none,data:= .fields #[rawInt (a+i),rawInt (b - a - i),rawInt 1],slots:= #[]}
theorem A6 (h0: -1000000<=a) (h1:b<=1000000) (hab:a<=b):Builtin.Range.small a b 1=true:=by
 delta Builtin.Range.small Builtin.Range.rangeFitsLong;rw [rangeSize_one];have e:(if a<b then b - a else 0)=b - a:=by split<;>omega
 rw [e];simp only [mz,Cg];refine⟨⟨⟨⟨?_,?_⟩,?_⟩,?_⟩,.inr ?_⟩<;>simp<;>omega
theorem wq {a b:Int} (h0: -1000000<=a) (h1:b<=1000000) (hab:a<=b) (hx0:C.hx≠some 0:=by kln_le):r6 C k (λu1=>True) (.fld "range" [.int a,.int b,.int 1]) (sE a b) .none (GC a b) where
 jk:=λi rv ob e=>⟨λn z=>by rw [e]at z;cases z;decide,by rw [e];intro z;have:=nq z;revert this;decide⟩
 start:=λW Z rv A s outer u1 hr hA hS I q=>by
  obtain⟨c,r,o,vs,rfl,f,rfl,ks⟩:=q;refine AE (vC ks) λv1 v2 v3 j=>?_;subst j;intro q1 q2 q3;refine cG q1 λt p=>?_;clear q1;subst p;refine cG q2 λu m=>?_;clear q2;subst m;refine cG q3 λv y=>?_;clear q3;subst y;refine wpAny_pyIter_range (I.frozen f (by intro z;have:=nq z;revert this;decide)) (A6 h0 h1 hab) ?_;have e:Builtin.Range.rangeSize a b 1=b - a:=by rw [rangeSize_one];split<;>omega
  rw [e];exact⟨W,s.heap.objs.size,{cls:= .type "range_iterator",data:= .fields #[rawInt a,rawInt (b - a),rawInt 1]},.none,.refl W,I.same (a9 _ _),rfl,dZ _ rfl,I.cz,c5,by delta GC;simp⟩
 self:=λi rs ob it A s E Q g h hq=>by delta GC at h;subst h;exact wpAny_pyIter_rangeiter g hq
 next:=λi x W Z rs ob it A s outer hx u1 hr hA hS I g hf q h=>by
  refine bI (C6 hx) λw=>?_;subst w;intro hi;delta GC at h;subst h;refine eT (wpAny_pyNext_range_item g (by omega) λh' hi' hs'=>λl=> ?_);refine⟨W,_,_,.refl W,I.but hf.1 hf.2 (λb o nb e=>(hs'.2 b nb).trans e),rfl,b8,hi',hf,?_⟩;delta GC;have e1:a+(i:Int)+1=a+((i+1:Nat):Int):=by omega
  have e2:b - a - (i:Int) - 1=b - a - ((i+1:Nat):Int):=by omega
  rw [e1,e2]
 stop:=λW Z rs ob it A s outer u1 hr hA hS I g hf q h=>by delta GC at h;subst h;rw [Ck]at g;refine z8 (hr.hd hx0 I).1 g (by omega) λh' hs'=>⟨W,.refl W,I.same hs',rfl⟩
 hZ:=λi W Z rs rx ob it A s tgt I g hf h=>by have h':=h;delta GC at h;exact d5 g (by rw [h]) (by rw [h]) (by decide) ⟨ob,I,g,h',λu1 w1 g1 z=>z⟩
theorem cL (h0: -1000000<=a) (h1:b<=1000000) (hab:a<=b) (hx0:C.hx≠some 0:=by kln_le):vK C k (λu=>True) (.fld "range" [.int a,.int b,.int 1]) (sE a b) .none (GD (GC a b)) tgt:=(wq h0 h1 hab hx0).Iq
theorem cR:Ca C k Z (.ty "range") [.int n] [] (.fld "range" [.int 0,.int n,.int 1]) Z:=by
 intro W rf df fp hf ha hk A s outer hr hA hS I;dsimp only [aw]at hf;subst hf;dsimp only [bC]at hk;subst hk;refine c12 (du ha) λr u=>?_;subst u;intro q;dsimp only [aw]at q;refine cG q λt z=>?_;clear q;subst z;refine bI I.cz λn1 n2=>?_;refine call_range_1 ?_;have g:(s.heap.push {cls:= .type "range",data:= .fields #[.int 0 s.toks,.int n t,.int 1 (s.toks+1)]}).get? s.heap.objs.size=some {cls:= .type "range",data:= .fields #[.int 0 s.toks,.int n t,.int 1 (s.toks+1)]}:=dZ _ rfl;refine bI (I.f6 (t:=s.toks+1+1) (d:=s.drawn) n1 n2 (a9 _ _) g) λle I'=>?_;refine⟨_,le,I',?_⟩;refine⟨by decide,_,{cls:= .type "range",data:= .fields #[.int 0 s.toks,.int n t,.int 1 (s.toks+1)]},[.int 0 s.toks,.int n t,.int 1 (s.toks+1)],rfl,?_,rfl,.cons b8 (.cons b8 (.cons b8 .nil))⟩;show(if _ then _ else _)=_
 rw [aF rfl]
noncomputable def lets (x:Str):List AV:=x.cps.toList.map λc=>AV.str ⟨#[c]⟩
theorem A3 {x:Str} {i:Nat} {v:AV} (h:(lets x)[i]? =some v): ∃c,x.cps[i]? =some c/\v= .str ⟨#[c]⟩:=by
 delta lets at h;rw [gr]at h;cases q:x.cps.toList[i]? with
 | none=>rw [q]at h;exact dF h
 | some c=>rw [q]at h;cases h;exact i12 c (by simpa using q) rfl
theorem DT:(lets x).length=x.cps.size:=by delta lets;simp
noncomputable def MN (x:Str) (i:Nat) (rs:Value) (ob:Obj):Prop:= ∃t,ob.cls= .type (strIterType x)/\ob.data= .fields #[.str x t,.int i 0]
theorem xh (x:Str):(["tuple","list","method-wrapper","method","slice","range","dict_items","dict_values","dict_keys"]:List String).contains (strIterType x)=false:=by delta strIterType;split<;>decide
theorem xF (x:Str):(["enumerate","zip","dict_itemiterator","dict_reverseitemiterator","odict_iterator","itertools.zip_longest","itertools.pairwise"]:List String).contains (strIterType x)=false:=by delta strIterType;split<;>decide
theorem A8 {x:Str} (h0:C.hx=none:=by assumption):r6 C k (λ_=>True) (.str x) (lets x) .none (MN x) where
 jk:=λi rv ob r=>(by refine c12 r λt c _=>?_;clear r;exact⟨λn z=>by rw [c]at z;cases z;exact xh x,by rw [c];unfold strIterType;split<;>decide⟩)
 start:=λW Z rv A s outer _ hr hA hS I q=>by
  refine fh q λt=>?_;cases ha:x.cps.all (· <128)
  ·refine wpAny_pyIter_wide ha ⟨W,s.heap.objs.size,{cls:= .type "str_iterator",data:= .fields #[.str x t,.int 0 0]},.none,.refl W,I.same (a9 _ _),rfl,dZ _ rfl,I.cz,c5,⟨t,?_,rfl⟩⟩;unfold strIterType;rw [ha];rfl
  ·refine wpAny_pyIter_ascii ha ⟨W,s.heap.objs.size,{cls:= .type "str_ascii_iterator",data:= .fields #[.str x t,.int 0 0]},.none,.refl W,I.same (a9 _ _),rfl,dZ _ rfl,I.cz,c5,⟨t,?_,rfl⟩⟩;unfold strIterType;rw [ha];rfl
 self:=λi rs ob it A s E Q g h hq=>by
  refine c12 h λt cl d=>?_;clear h;unfold strIterType at cl;split at cl
  ·exact wpAny_pyIter_striter_ascii (i:=i) ⟨ob,g,cl,d⟩ hq
  ·exact wpAny_pyIter_striter_wide (i:=i) ⟨ob,g,cl,d⟩ hq
 next:=λi v W Z rs ob it A s outer hx _ hr hA hS I g hf q h=>by
  refine uh (A3 hx) λc hc=>?_;refine c12 h λt cl d=>?_;clear h;have key: ∀h',h'.IsStrIter it (strIterType x) x t (i+1)->Heap.SameBut it s.heap h'->EK C W Z (.str ⟨#[c]⟩) it (λ_=>MN x (i+1) rs) (some (.str ⟨#[c]⟩ s.toks)) {s with heap:=h',toks:=s.toks+1}:=λh' hi hs'=>by refine fJ hi λob' g' c' d'=>?_;clear hi;exact⟨W,_,ob',.refl W,I.but hf.1 hf.2 (λb o nb e=>(hs'.2 b nb).trans e),rfl,bN,g',hf,⟨t,c',d'⟩⟩
  unfold strIterType at key cl;split at cl
  ·rename_i ha;rw [aF ha]at key;exact wpAny_pyNext_ascii_item ⟨ob,g,cl,d⟩ hc λh' hi hs'=>key h' hi hs'
  ·rename_i ha;rw [ay ha]at key;exact wpAny_pyNext_wide_item ⟨ob,g,cl,d⟩ hc λh' hi hs'=>key h' hi hs'
 stop:=λW Z rs ob it A s outer _ hr hA hS I g hf q h=>by
  refine c12 h λt cl d=>?_;clear h;have hn:x.cps[(lets x).length]? =none:=by rw [DT];simp
  unfold strIterType at cl;split at cl
  ·exact wpAny_pyNext_ascii_end (hr.none h0) ⟨ob,g,cl,d⟩ hn λh' hs'=>⟨W,.refl W,I.but hf.1 hf.2 λb o nb e=>hs' b o nb e,rfl⟩
  ·exact wpAny_pyNext_wide_end (hr.none h0) ⟨ob,g,cl,d⟩ hn λh' hs'=>⟨W,.refl W,I.but hf.1 hf.2 λb o nb e=>hs' b o nb e,rfl⟩
 hZ:=λi W Z rs rx ob it A s tgt I g hf y=>c12 y λt c d=>d5 g c d (xF x) ⟨ob,I,g,⟨t,c,d⟩,λ_ _ _ z=>z⟩
theorem E8 (h0:C.hx=none:=by assumption):vK C k (λu=>True) (.str x) (lets x) .none (GD (MN x)) tgt:=(A8 h0).Iq
theorem bF (h:IsL Z v xs) (h0:0<=i) (h1:i<1000000) (hx:xs[i.toNat]? =some x):di C k Z getItem v (.int i) (λW r=>aw W x r) Z:=by intro W ra rb qa qb;refine fh qb λt=>Op.look λA s Q hr I hq=>gB (h.list qa I) λla vs hl ks=>c12 (ks.get hx) λy hy qy=>wpAny_getItem_list hl h0 (by omega) (by simpa using hy) (hq _ _ qy)
theorem kn (h:IsL Z v xs) (h0:i<0) (h1: -(xs.length:Int)<=i) (h2: -1000000<=i) (hx:xs[(i+xs.length).toNat]? =some x):di C k Z getItem v (.int i) (λW r=>aw W x r) Z:=by
 intro W ra rb qa qb;refine fh qb λt=>Op.look λA s Q hr I hq=>gB (h.list qa I) λla vs hl ks=>c12 (ks.get hx) λy hy qy=>?_;have e:(List.toArray vs).size=xs.length:=by simp [ks.length]
 exact wpAny_getItem_list_neg hl h0 (by rw [e];exact h1) (by omega) (by rw [e];simpa using hy) (hq _ _ qy)
theorem Inv.nJ (I:Inv C W Z s) (ks:aU W xs vs) (ht:s.toks<=tk):
  Er C W Z (λW r=>aw W (.lst xs) r) (.ref s.heap.objs.size) {s with heap:=s.heap.push {cls:= .type "list",data:= .seq (List.toArray vs)},toks:=tk}:=by
 refine bI I.cz λn1 n2=>?_;have g:(s.heap.push {cls:= .type "list",data:= .seq (List.toArray vs)}).get? s.heap.objs.size=some {cls:= .type "list",data:= .seq (List.toArray vs)}:=dZ _ rfl;refine bI (I.f6 (t:=tk) (d:=s.drawn) n1 n2 (a9 _ _) g ht) λle I'=>⟨_,le,I',?_⟩;refine v7 _ ({cls:= .type "list",data:= .seq (List.toArray vs)}) vs 0 rfl ?_ rfl rfl (ks.mono le);show(if _ then _ else _)=_
 rw [aF rfl]
theorem mK (f:Array Value->Array Value) (a:Array Value) (n:Nat): ∃n',Obj.mapSeq f {cls:= .type "list",data:= .seq a n}={cls:= .type "list",data:= .seq (f a) n'}:=⟨_,rfl⟩
noncomputable def eP {α:Type} (xs:List α) (lo hi st:Option Int):List α:=
 (sliceRange (sliceBounds lo hi st xs.length).1 (sliceBounds lo hi st xs.length).2.1 (sliceBounds lo hi st xs.length).2.2).filterMap (xs[·]?)
theorem aU.pick (h:aU W xs vs): ∀is:List Nat,aU W (is.filterMap (xs[·]?)) (is.filterMap (vs[·]?)):=by
 intro aH;induction aH with
 | nil=>exact .nil
 | cons i is ih=>
  exact by
   have ih:=ih;cases q:xs[i]? with
   | none=>
    have q':vs[i]? =none:=by rw [oP]at q⊢;rw [h.length];exact q
    rw [lH,lH,q,q'];exact ih
   | some x=>refine c12 (h.get q) λv hv qv=>?_;rw [lH,lH,q,hv];exact .cons qv ih
theorem e8 {lo hi st:Option Int} (h:IsL Z v xs) (ha:fw a lo) (hb:fw b hi) (hc:fw c st) (h0:st≠some 0) (hz:xs.length<=sizeLine) (hy:eP xs lo hi st=ys):di C k Z getItem v (.AB a b c) (λW r=>aw W (.lst ys) r) Z:=by
 subst hy;intro W ra rb qa qb;refine Eo qb λb' o vx vy vz w=>?_;clear qb;subst w;intro f z1 y;refine kD y λz2 k1 k2 k3=>?_;intro A s outer hr hA hS I;refine gB (h.list qa I) λla vs hl ks=>?_;have part: ∀{x:AV} {o:Option Int} {v:Value},fw x o->aw W x v->IsPart v o:=λhp q=>by
  cases hp with
  | none=>subst q;exact .none
  | int i=>refine fh q λt=>?_;exact .int i t
 have e:(List.toArray vs).size=xs.length:=by simp [ks.length]
 refine wpAny_getItem_list_slice (lo:=lo) (hi:=hi) (st:=st) hl ⟨o,I.frozen f (by rw [z1];decide),z1,z2⟩ (part ha k1) (part hb k2) (part hc k3) h0 ?_ (by rw [e];exact hz);have es:slicePick (List.toArray vs) lo hi st=((sliceRange (sliceBounds lo hi st xs.length).1 (sliceBounds lo hi st xs.length).2.1 (sliceBounds lo hi st xs.length).2.2).filterMap (vs[·]?)).toArray:=by delta slicePick;rw [e];simp
 rw [es];obtain⟨W',le,I',q⟩:=I.nJ (ks.pick (sliceRange (sliceBounds lo hi st xs.length).1 (sliceBounds lo hi st xs.length).2.1 (sliceBounds lo hi st xs.length).2.2)) (bT _);exact⟨W',le,I',q⟩
theorem c6 (h:IsL Z v xs) (hz:xs.length<=sizeLine):Ca C k Z (.bi "len") [v] [] (.int xs.length) Z:=by
 refine xq λW r q=>Op.look λA s Q hr I hq=>gB (h.list q I) λla vs hl ks=>?_;have e:(List.toArray vs).size=xs.length:=by simp [ks.length]
 refine call_len_list hl (by rw [e];rw [jf]at hz;omega) (hq _ _ ?_);rw [e];exact b8
theorem uH (hz:xs.length<=sizeLine):Ca C k Z (.bi "len") [.tup xs] [] (.int xs.length) Z:=by
 refine xq λW r q=>Op.look λA s Q hr I hq=>Ep (q.isTup I) λla vs n hl ks=>?_;have e:(List.toArray vs).size=xs.length:=by simp [ks.length]
 refine PyProof.Rows.len_tuple ⟨_,hl,rfl,n,rfl⟩ (by rw [e];rw [jf]at hz;omega) (hq _ _ ?_);rw [e];exact b8
theorem kY: ∀{ns:List Int} {vs:List Value},aU W (ns.map .int) vs->IntsAre vs ns:=by
 intro aH;induction aH with
 | nil=>
  intro vs h;exact by rw [xo]at h;subst h;exact .nil
 | cons n ns ih=>intro vs h;rw [dj]at h;refine gB h λv r q h=>fh q λt=>.cons n t (ih h)
theorem wK: ∀{ns:List Str} {vs:List Value},aU W (ns.map .str) vs->StrsAre vs ns:=by
 intro aH;induction aH with
 | nil=>
  intro vs h;exact by rw [xo]at h;subst h;exact .nil
 | cons n ns ih=>intro vs h;rw [dj]at h;refine gB h λv r q h=>fh q λt=>.cons n t (ih h)
theorem tY {ns:List Int} {c:Bool} (h:IsL Z v (ns.map .int)) (hc:ns.any (· ==i)=c):di C k Z (compareOp .In) (.int i) v (λW r=>aw W (.bool c) r) Z:=by intro W ra rb qa qb;refine fh qa λt=>Op.look λA s Q hr I hq=>gB (h.list qb I) λla vs hl ks=>?_;exact in_list_ints hl (kY ks) (hq _ _ (by rw [hc];exact bO))
theorem iB {ns:List Int} {c:Bool} (h:IsL Z v (ns.map .int)) (hc:(!(ns.any (· ==i)))=c):di C k Z (compareOp .NotIn) (.int i) v (λW r=>aw W (.bool c) r) Z:=by intro W ra rb qa qb;refine fh qa λt=>Op.look λA s Q hr I hq=>gB (h.list qb I) λla vs hl ks=>?_;exact notin_list_ints hl (kY ks) (hq _ _ (by rw [hc];exact bO))
theorem uN (h1:IsL Z v xs) (h2:IsL Z u ys) (hz:xs.length+ys.length<=sizeLine):di C k Z (binaryOp .Add) v u (λW r=>aw W (.lst (xs++ys)) r) Z:=by
 intro W ra rb qa qb A s outer hr hA hS I;refine Ep (h1.is qa I) λla vs n hl ks=>Ep (h2.is qb I) λlb us m hl' ks'=>?_;refine concat_meets ⟨_,hl,rfl⟩ ⟨_,hl',rfl⟩ noFill_list_add seq_list_add F.slot_list_add F.entry_list_add (F.args_list_add_2 _ _) (AutoSeq1.list___add___list_list_0 la _ n lb _ m (by simp [ks.length,ks'.length];exact hz)) ⟨hl,hl',?_⟩;obtain⟨W',le,I',q⟩:=I.nJ (ks.append ks') (bT _);refine⟨W',le,?_,q⟩;have e:List.toArray (vs++us)=List.toArray vs++List.toArray us:=by simp
 rw [e]at I';exact I'
theorem eu (h:Z l=some (.list xs)):Mt C k Z (.loc l) "append" (.bi "list.append"):=by intro W ro pl q;refine Op.look λA s Q hr I hq=> ?_;refine lN ((IsL.loc h).is q I) λla vs n z=>?_;subst z;intro hl ks;exact s6 ⟨_,hl,rfl⟩ F.plainAttrs_list F.slot_list_append F.type_list_append (λa e=>by cases e;exact i12 _ hl rfl) (hq _ _ ⟨rfl,rfl⟩)
theorem BW (h:Z l=some (.list xs)):Mt C k Z (.loc l) "pop" (.bi "list.pop"):=by intro W ro pl q;refine Op.look λA s Q hr I hq=> ?_;refine lN ((IsL.loc h).is q I) λla vs n z=>?_;subst z;intro hl ks;exact s6 ⟨_,hl,rfl⟩ F.plainAttrs_list F.slot_list_pop F.type_list_pop (λa e=>by cases e;exact i12 _ hl rfl) (hq _ _ ⟨rfl,rfl⟩)
theorem EB (h:Z l=some (.list xs)):Mt C k Z (.loc l) "clear" (.bi "list.clear"):=by intro W ro pl q;refine Op.look λA s Q hr I hq=> ?_;refine lN ((IsL.loc h).is q I) λla vs n z=>?_;subst z;intro hl ks;exact s6 ⟨_,hl,rfl⟩ F.plainAttrs_list F.slot_list_clear F.type_list_clear (λa e=>by cases e;exact i12 _ hl rfl) (hq _ _ ⟨rfl,rfl⟩)
theorem Fe (h:Z l=some (.list xs)) (hz:xs.length<=sizeLine):Ca C k Z (.bi "list.clear") [.loc l] [] .none (Z.set l (.list [])):=by refine xq λW r q A s outer hr hA hS I=>uh q λa e=>?_;obtain⟨ob,h1,c1,vs,n,rfl,c3⟩:=I.obj l a _ e h;refine pS F.slot_list_clear ⟨_,h1,rfl⟩ F.entry_list_clear (F.args_list_clear_1 _) (AutoSeq1.list_clear_list_0 a _ n (by simp [c3.length];exact hz)) ⟨h1,?_⟩;refine cG (mK (λu=> #[]) (List.toArray vs) n) λn' en=>⟨W,.refl W,I.upd (t:=s.toks) (d:=s.drawn) e (ez _ _ _) (jt _ h1 rfl) ⟨rfl,[],n',en,.nil⟩,c5⟩
theorem Cy (h:Z l=some (.list (xs++ [x]))) (hz:xs.length+1<=sizeLine):Ca C k Z (.bi "list.pop") [.loc l] [] x (Z.set l (.list xs)):=by
 refine xq λW r q A s outer hr hA hS I=>uh q λa e=>?_;obtain⟨ob,h1,c1,vs,n,rfl,c3⟩:=I.obj l a _ e h;refine c12 (c3.get (i:=xs.length) (x:=x) (by simp)) λy hy qy=>?_;have hl:=c3.length;rw [cS,List.length_singleton]at hl;have e1:vs.toArray.size - 1=xs.length:=by simp [hl]
 refine pS F.slot_list_pop ⟨_,h1,rfl⟩ F.entry_list_pop (F.args_list_pop_1 _) (MeetsSeq.list_pop_last a _ n y (by rw [e1];simpa using hy) (by simp [hl];exact hz)) ⟨h1,?_⟩;refine cG (mK (λxs=>xs.eraseIdxIfInBounds (vs.toArray.size - 1)) (List.toArray vs) n) λn' en=>?_;have cut: ∀{xs:List AV} {x:AV} {vs:List Value},aU W (xs++ [x]) vs->aU W xs (vs.take xs.length):=by
  intro xs
  induction xs with
  | nil=>intro x vs h;simp;exact .nil
  | cons y ys ih=>intro x vs h;rw [AU]at h;refine gB h λv r q h=>?_;rw [cq,List.take_succ_cons];exact .cons q (ih h)
 have this:vs.toArray.eraseIdxIfInBounds xs.length=(vs.take xs.length).toArray:=by
  have hb:xs.length<vs.toArray.size:=by simp [hl]
  rw [Array.eraseIdxIfInBounds,dif_pos hb];apply u7;rw [Array.toList_eraseIdx];refine(?_:vs.eraseIdx xs.length=vs.take xs.length);rw [List.eraseIdx_eq_take_drop_succ,List.drop_eq_nil_of_le (by omega),iM]
 refine⟨W,.refl W,I.upd (t:=s.toks) (d:=s.drawn) (o':= .list xs) e (ez _ _ _) (jt _ h1 rfl) ⟨rfl,vs.take xs.length,n',?_,cut c3⟩,qy⟩;rw [en,e1,this]
theorem fH (h:IsL Z v xs) (hz:xs.length<=sizeLine) (hc:(!xs.isEmpty)=c):ie C k Z truthy v (λu r=>r=c) Z:=by
 intro W ra q;refine Op.look λA s Q hr I hq=>gB (h.list q I) λla vs hl ks=>?_;have e:(List.toArray vs).size=xs.length:=by simp [ks.length]
 refine wpAny_truthy_list hl (by rw [e];rw [jf]at hz;omega) (hq _ _ ?_);rw [<-hc];cases xs with
 | nil=>subst ks;rfl
 | cons y ys=>refine LP ks λv r _=>?_;simp
theorem qT (h:IsL Z v xs) (hz:xs.length<=sizeLine):Ca C k Z (.ty "tuple") [v] [] (.tup xs) Z:=by
 intro W rf df fp hf ha hk A s outer hr hA hS I;dsimp only [aw]at hf;subst hf;dsimp only [bC]at hk;subst hk;refine c12 (du ha) λr u=>?_;subst u;intro q;refine fq (h.list q I) λla vs z=>?_;subst z;intro hl ks;have e:(List.toArray vs).size=xs.length:=by simp [ks.length]
 refine call_tuple_list hl (λh' hk'=> ?_) (by rw [e];exact hz);have I1:Inv C W Z {s with heap:=h'}:=I.same hk';refine bI I1.cz λn1 n2=>?_;have g:(h'.push {cls:= .type "tuple",data:= .seq (List.toArray vs)}).get? h'.objs.size=some {cls:= .type "tuple",data:= .seq (List.toArray vs)}:=dZ _ rfl;refine bI (I1.f6 (t:=s.toks) (d:=s.drawn) n1 n2 (a9 _ _) g) λle I'=>?_;refine⟨_,le,I',?_⟩;refine v7 _ ({cls:= .type "tuple",data:= .seq (List.toArray vs)}) vs 0 rfl ?_ rfl rfl (ks.mono le);show(if _ then _ else _)=_
 rw [aF rfl]
theorem r8 (h:Ev C k sc ms Z e v aK aB):Ex C k sc ms Z (.Return (some e) pos::rest) (.ret v) aK aB:=iy (zg h) (λz=>by cases z)
theorem dy (h1:Tv C k sc ms Z test true ai ae) (h2:Ex C k sc ai ae (x++rest) f aK aB):Ex C k sc ms Z (.If test x y pos::rest) f aK aB:=GK h1 h2
theorem ck (h1:Tv C k sc ms Z test false ai ae) (h2:Ex C k sc ai ae (y++rest) f aK aB):Ex C k sc ms Z (.If test x y pos::rest) f aK aB:=GK h1 h2
theorem CZ:Ex C k sc ms Z (.Break pos::rest) .brk ms Z:=iy AP (λz=>by cases z)
theorem td:Ex C k sc ms Z (.Continue pos::rest) .cont ms Z:=iy vc (λz=>by cases z)
theorem kW (hi:sc.names[i]? =some (x,NameKind.local)) (hv:ms[i]? =some (some a)) (h1:Ev C k sc ms Z value b ai ae)
  (h2:di C k ae (inplaceOp op) a b (λW r=>aw W c r) aN) (hm:ai.set i (some c)=aK):X1 C k sc ms Z (.AugAssign (.Name x npos) op value pos) .next aK aN:=by
 subst hm;intro A W env s hr H;refine(?_:wpAny C.M A (exec (.AugAssign (.Name x npos) op value pos) env) _ _ _);rw [arm_exec_AugAssign];refine aj (cF (aj ?_));obtain⟨mr,hn,hmr⟩:=H.fr.ns;refine c12 (hmr i x a hi hv) λr e q=>?_;have hl:env.kindOf x=some .local:=by delta Env.kindOf;rw [H.fr.scope];exact bK (cQ.nodup H.fr.ok) hi
 refine wpAny_loadName_local (by rw [H.fr.scope];exact cQ.kind H.fr.ok) hl hn e ?_;refine aj (cE (bf (h1 A W env s hr H) λaR rb aI aA aO qb=> ?_));refine aj (cF (aj (Co ?_)));have le:=a8 aO.fr;refine Op.in rfl (h2 _ r rb ((q.mono aA).mono le) (qb.mono le)) hr aO λbh rc aT ax aG qc tk u=>aj (cF (aj (xv (fW hi aG (tk qc) λbt br=> ?_))));exact aQ (bz (aA.trans ax) br rfl)
class inductive Wr (C:Cx) (k:Nat) (sc:Scope) (test:Expr) (body orelse:List Stmt):List (Option AV)->St->AF->List (Option AV)->St->Prop
 | out {ms ai aK:List (Option AV)} {Z ae aB:St} {f:AF} (h:Tv C k sc ms Z test false ai ae) (hx:Ex C k sc ai ae orelse f aK aB):Wr C k sc test body orelse ms Z f aK aB
 | brk {ms ai aK:List (Option AV)} {Z ae aB:St} (h:Tv C k sc ms Z test true ai ae) (hx:Ex C k sc ai ae body .brk aK aB):Wr C k sc test body orelse ms Z .next aK aB
 | ret {ms ai aK:List (Option AV)} {Z ae aB:St} {v:AV} (h:Tv C k sc ms Z test true ai ae) (hx:Ex C k sc ai ae body (.ret v) aK aB):Wr C k sc test body orelse ms Z (.ret v) aK aB
 | turn {ms ai aZ aK:List (Option AV)} {Z ae aN aB:St} {me f:AF} (h:Tv C k sc ms Z test true ai ae) (hx:Ex C k sc ai ae body me aZ aN) (hf:me= .next\/me= .cont)
   (hr:Wr C k sc test body orelse aZ aN f aK aB):Wr C k sc test body orelse ms Z f aK aB
theorem xx (L:Wr C k sc test body orelse ms Z f aK aB): ∀(A:Around) (W:Wd) (env:Env) (s:Shared),bY C A k->At C sc A W env ms Z s->
  codeAny C.M A (.whileLoop test body orelse env) (λr s'=>match r with | .ok fl=>ic C sc A W env aK aB (λW r=>bQ W f r) fl s' | .error _=>False) s:=by
 have start: ∀{A:Around} {W:Wd} {env:Env} {s:Shared} {R:Result->Shared->Prop},wpAny C.M A (whileTurn test body orelse env) (λfin s'=>match fin with | .done f=>R (.ok f) s' | .again c'=>c'.quiet=true/\codeAny C.M A c' R s') No s->
   codeAny C.M A (.whileLoop test body orelse env) R s:=λ{A W env s R} h=>by
  refine mB ?_;rw [pK (A:=A) (c:= .whileLoop test body orelse env) rfl];refine(?_:wpAny C.M A ((whileTurn test body orelse env).onRaise _) _ _ s);exact jN (bH h (λu w h=>h) (λ_ _ (h:False)=>h.elim))
 induction L with
 | @out JH JI L2 JL JM L3 f h hx=>intro A W env s hr H;refine start (W:=W) ?_;refine cX (h A W env s hr H) λaR b aI aA aO qb=> ?_;subst qb;exact cX (hx A aR env aI hr aO) λbh r aT ax aG q=>aQ (bz (aA.trans ax) aG q)
 | @brk JH JI L2 JL JM L3 h hx=>intro A W env s hr H;refine start (W:=W) ?_;refine cX (h A W env s hr H) λaR b aI aA aO qb=> ?_;subst qb;refine cX (hx A aR env aI hr aO) λbh r aT ax aG q=> ?_;unfold bQ at q;subst q;exact aQ (bz (aA.trans ax) aG rfl)
 | @ret JH JI L2 JL JM L3 v h hx=>intro A W env s hr H;refine start (W:=W) ?_;refine cX (h A W env s hr H) λaR b aI aA aO qb=> ?_;subst qb;refine cX (hx A aR env aI hr aO) λbh r aT ax aG q=>yu q λx z=>aQ (bz (aA.trans ax) aG ⟨x,rfl,z⟩)
 | @turn JH JI L2 JK JL JM L3 JN me f h hx hf hl ih=>
  intro A W env s hr H;refine start (W:=W) ?_;refine cX (h A W env s hr H) λaR b aI aA aO qb=> ?_;subst qb;refine cX (hx A aR env aI hr aO) λbh r aT ax aG q=> ?_;have go:codeAny C.M A (.whileLoop test body orelse env) (λr s'=>match r with | .ok fl=>ic C sc A W env JK JN (λW r=>bQ W f r) fl s' | .error _=>False) aT:=
   kZ (ih A bh env aT hr aG) λr s' hh=>by
    cases r with
    | ok fl=>obtain⟨W',l,z,z'⟩:=hh;exact⟨W',(aA.trans ax).trans l,z,z'⟩
    | error e=>exact hh
  rcases hf with rfl | rfl<;>(unfold bQ at q;subst q;exact aQ ⟨rfl,go⟩)
theorem j4 (L:Wr C k sc test body orelse ms Z f aK aB):X1 C k sc ms Z (.While test body orelse pos) f aK aB:=by
 intro A W env s hr H;refine wpAny_While (kZ (xx L A W env s hr H) λr s' hh=> ?_);cases r with
 | ok fl=>exact hh
 | error e=>exact hh.elim
noncomputable def Mo (C:Cx) (k:Nat) (sc:Scope) (ms:List (Option AV)) (Z:St) (ts:List Expr) (xs:List AV) (aK:List (Option AV)) (aB:St):Prop:=
 ∀A W env s rs,bY C A k->At C sc A W env ms Z s->aU W xs rs->wpAny C.M A (assignInOrder ((assignEach ts env).map (·.2)) rs) (ic C sc A W env aK aB λ_ _=>True) No s
theorem ke:Mo C k sc ms Z [] [] ms Z:=λA W env s rs hr H q=>by exact aQ (bz (.refl W) H trivial)
theorem cC (h1:As C k sc ms Z t x ai ae) (h2:Mo C k sc ai ae ts xs aK aB) (he: ∀env,assignEach (t::ts) env=(false,assign t env)::assignEach ts env:=by exact λu=>rfl):Mo C k sc ms Z (t::ts) (x::xs) aK aB:=by intro A W env s rs hr H q;refine gB q λv r q1 q2=>?_;rw [he];refine aj (cE (bf (h1 A W env s v hr H q1) λaR w aI aA aO g=> ?_));exact bf (h2 A aR env aI r hr aO (q2.mono aA)) λbh w aT ax aG g=>bz (aA.trans ax) aG trivial
theorem qM (q:aw W (.tup xs) rv) (hn:xs.length=n) (h0:C.hx=none:=by assumption):Op C k W Z (unpackItems rv n none) (λW r=>aU W xs r) Z:=by
 subst hn;intro A s outer hr hA hS I;refine Ep (q.isTup I) λla vs n hl ks=>?_;have e:(List.toArray vs).size=xs.length:=by simp [ks.length]
 rw [<-e];refine wpAny_unpackItems_tuple (hr.none h0) ⟨_,hl,rfl,n,rfl⟩ λh' hs'=>⟨W,.refl W,?_,by simpa using ks⟩;exact I.same λb o e=>hs' b o (Nat.ne_of_lt (ig e)) e
theorem iT (h:Mo C k sc ms Z ts xs aK aB) (hn:xs.length=ts.length) (hf: ∀env,(assignEach ts env).findIdx? (·.1)=none) (hl: ∀env,(assignEach ts env).length=ts.length) (h0:C.hx=none:=by assumption):
  As C k sc ms Z (.Tuple ts x1 pos) (.tup xs) aK aB:=by
 intro A W env s r hr H q;rw [arm_assign_Tuple];refine aj (cF ?_);delta unpack;rw [hf,hl];refine aj (cE (Op.in rfl (qM (k:=k) (q.mono (a8 H.fr)) hn) hr H λaR rs aI aA aO qs u Nl=> ?_));exact bf (h A _ env aI rs hr aO (Nl qs)) λbh u aT ax aG v=>bz (aA.trans ax) aG trivial
theorem r4 {i:Nat} {x:Str} {kd:NameKind} (H:eE C sc A W env ms s.heap) (hi:sc.names[i]? =some (x,kd)):env.kindOf x=some kd:=by delta Env.kindOf;rw [H.scope];exact bK (cQ.nodup H.ok) hi
theorem uI (H:eE C sc A W env ms s.heap):env.blockKind= .function:=by
 have h:env.scope.kind= .function:=by rw [H.scope];exact cQ.kind H.ok
 delta Env.blockKind;rw [h];rfl
noncomputable def BX (e:Expr):Bool:=swappedStores.match_5 (λ_=>Bool) e (λ_ _=>true) λ_=>false
noncomputable def w9 (env:Env) (line:Nat) (e:Expr):Option Str:=swappedStores.match_8 (λ_=>Option Str) e (λnm pos=>if env.kindOf nm==some .local && pos.line==line then some nm else none) λ_=>none
theorem swap_eq:swappedStores [.Tuple ts n1 tp] (.Tuple vs n2 vp) env=(if(!(ts.length==2 || ts.length==3) || vs.length !=ts.length || env.blockKind != .function)=true then pure none else
  if vs.any BX=true then pure none else
  let names:=ts.filterMap (w9 env ((ts.head?.map (·.pos.line)).getD 0))
  if(names.length !=ts.length || names.eraseDups.length !=names.length)=true then pure none else
  if vs.all (foldedForSure 8)=true then pure none else
  if vs.all (constantsAlone 8)=true then(unsupported "assign.tuple-of-constant-expressions:order-of-the-stores">>=λ(_:Unit)=>pure (some names))else pure (some names)):=rfl
theorem qg (h:env.kindOf x=some .local) (hp:(p.line==line)=true):w9 env line (.Name x p)=some x:=by delta w9;simp only [h,hp];rfl
theorem sf (h:(env.kindOf x==some .local)=false):w9 env line (.Name x p)=none:=by delta w9;simp only [h];rfl
theorem JV (hk1:env.kindOf x=some .local) (hk2:env.kindOf y=some .local) (hb:env.blockKind= .function) (hp:(q.line==p.line)=true) (hxy: [x,y].eraseDups.length=2)
  (hs: [a,b].any BX=false) (hf: [a,b].all (foldedForSure 8)=false) (hc: [a,b].all (constantsAlone 8)=false):swappedStores [.Tuple [.Name x p,.Name y q] n1 tp] (.Tuple [a,b] n2 vp) env=pure (some [x,y]):=by
 rw [swap_eq,hb,hs,hf,hc];have e0: [Expr.Name x p,Expr.Name y q].filterMap (w9 env p.line)= [x,y]:=by rw [lH,qg hk1 (by simp),lH,qg hk2 hp];rfl
 have e: [Expr.Name x p,Expr.Name y q].filterMap (w9 env (([Expr.Name x p,Expr.Name y q].head?.map (·.pos.line)).getD 0))= [x,y]:=e0;rw [e];simp only [hxy];rfl
theorem xA (hk1:(env.kindOf x==some .local && env.kindOf y==some .local)=false) (hb:env.blockKind= .function) (hs: [a,b].any BX=false):swappedStores [.Tuple [.Name x p,.Name y q] n1 tp] (.Tuple [a,b] n2 vp) env=pure none:=by
 rw [swap_eq,hb,hs];have e:([Expr.Name x p,Expr.Name y q].filterMap (w9 env (([Expr.Name x p,Expr.Name y q].head?.map (·.pos.line)).getD 0))).length<=1:=by
  rw [lH,lH,List.filterMap_nil];cases h1:(env.kindOf x==some .local)
  ·rw [sf h1];cases w9 env (([Expr.Name x p,Expr.Name y q].head?.map (·.pos.line)).getD 0) (Expr.Name y q)<;>simp
  ·rw [h1,Bool.true_and]at hk1;rw [sf hk1];cases w9 env (([Expr.Name x p,Expr.Name y q].head?.map (·.pos.line)).getD 0) (Expr.Name x p)<;>simp
 have e':(([Expr.Name x p,Expr.Name y q].filterMap (w9 env (([Expr.Name x p,Expr.Name y q].head?.map (·.pos.line)).getD 0))).length != [Expr.Name x p,Expr.Name y q].length)=true:=by rw [bne_iff_ne];simp only [cq,ip]at *;omega
 simp only [e',Bool.true_or];rfl
theorem wN (hk1:(env.kindOf z==some .local)=false) (hb:env.blockKind= .function) (hs: [a,b,c].any BX=false):swappedStores [.Tuple [.Name x p,.Name y q,.Name z r] n1 tp] (.Tuple [a,b,c] n2 vp) env=pure none:=by
 rw [swap_eq,hb,hs];have e:([Expr.Name x p,Expr.Name y q,.Name z r].filterMap (w9 env (([Expr.Name x p,Expr.Name y q,.Name z r].head?.map (·.pos.line)).getD 0))).length<=2:=by
  rw [lH,lH,lH,List.filterMap_nil,sf (x:=z) hk1];cases w9 env (([Expr.Name x p,Expr.Name y q,.Name z r].head?.map (·.pos.line)).getD 0) (Expr.Name x p)<;>cases w9 env (([Expr.Name x p,Expr.Name y q,.Name z r].head?.map (·.pos.line)).getD 0) (Expr.Name y q)<;>simp
 have e':(([Expr.Name x p,Expr.Name y q,.Name z r].filterMap (w9 env (([Expr.Name x p,Expr.Name y q,.Name z r].head?.map (·.pos.line)).getD 0))).length != [Expr.Name x p,Expr.Name y q,.Name z r].length)=true:=by rw [bne_iff_ne];simp only [cq,ip]at *;omega
 simp only [e',Bool.true_or];rfl
theorem y0 {E:Value->Shared->Prop} {Q:Flow->Shared->Prop} (hw:swappedStores targets value env=pure (some names)) (hs:swapsWithSole targets value pos.line env=pure false)
  (h:wpAny M A (eval value env) (λv aI=>wpAny M A (unpackItems v names.length none) (λitems aT=>wpAny M A (assignInOrder (names.reverse.map λn=>bindName env n) items.reverse) (λu=>Q .next) E aT) E aI) E s):wpAny M A (exec (.Assign targets value pos) env) Q E s:=by
 rw [arm_exec_Assign];refine aj (cF ?_);rw [hs];refine aj (aQ ?_);refine aj (bH h (λv aI iq=>aj (eL hw ?_)) λu w x=>x);exact aj (rL (aj (bH iq (λitems aT jD=>aj (bH jD (λu bt mM=>aQ mM) λu w x=>x)) λu w x=>x)))
theorem ow {x y:Str} {p q tp vp pos:Pos} {n1 n2 i j:Nat} {a b:Expr} {u v:AV} (hi:sc.names[i]? =some (x,NameKind.local)) (hj:sc.names[j]? =some (y,NameKind.local)) (h1:Ev C k sc ms Z (.Tuple [a,b] n2 vp) (.tup [u,v]) ai ae) (hp:(q.line==p.line)=true) (hxy: [x,y].eraseDups.length=2)
  (hs: [a,b].any BX=false) (hf: [a,b].all (foldedForSure 8)=false) (hc: [a,b].all (constantsAlone 8)=false) (hm:(ai.set j (some v)).set i (some u)=aK) (h0:C.hx=none:=by assumption):
  X1 C k sc ms Z (.Assign [.Tuple [.Name x p,.Name y q] n1 tp] (.Tuple [a,b] n2 vp) pos) .next aK ae:=by
 subst hm;intro A W env s hr H;refine y0 (JV (r4 H.fr hi) (r4 H.fr hj) (uI H.fr) hp hxy hs hf hc) rfl ?_;refine bf (h1 A W env s hr H) λaR r aI aA aO qv=>Op.in rfl (qM (k:=k) (n:= [x,y].length) (qv.mono (a8 aO.fr)) rfl) hr aO λbh rs aT ax aG qs w Nl=>gB (fF (Nl qs)) λru rv qu O4=>?_;show wpAny C.M A (do holding [ru] (bindName env y rv);assignInOrder [bindName env x] [ru]) _ _ _
 refine aj (cE (xv (fW hj aG O4 λbt br=> ?_)));show wpAny C.M A (do holding [] (bindName env x ru);assignInOrder [] []) _ _ _
 exact aj (cE (xv (fW hi br qu λjd gu=>aQ (bz (aA.trans ax) gu rfl))))
theorem o9 {t value:Expr} {pos:Pos} {v:AV} (h1:Ev C k sc ms Z value v ai ae) (h2:As C k sc ai ae t v aK aB)
  (hs: ∀env,swapsWithSole [t] value pos.line env=pure false) (hw: ∀env:Env,(∀(i:Nat) (x:Str) (kd:NameKind),sc.names[i]? =some (x,kd)->env.kindOf x=some kd)->env.blockKind= .function->swappedStores [t] value env=pure none) (ht: ∀env,(assignEach [t] env).map (·.2)= [assign t env]):
  X1 C k sc ms Z (.Assign [t] value pos) .next aK aB:=by
 intro A W env s hr H;refine wpAny_Assign_stores (bf (h1 A W env s hr H) λaR r aI aA aO q=> ?_) (hs env) (hw env (λi x kd h=>r4 H.fr h) (uI H.fr));rw [ht];exact bf (h2 A aR env aI r hr aO q) λbh u aT ax aG w=>bz (aA.trans ax) aG rfl
theorem ml (h:Ex C k sc ms Z body f aK aB):X1 C k sc ms Z (.Try body handlers [] [] pos) f aK aB:=by
 intro A W env s hr H;refine(?_:wpAny C.M A (exec (.Try body handlers [] [] pos) env) _ _ _);rw [arm_exec_Try];refine aj (cF ?_);refine aj (wpAny_attempt (bH (h A W env s hr H) (λr aI hh=> ?_) λu w x=>x.elim));obtain⟨aR,aA,aO,q⟩:=hh;cases f with
 | next=>delta bQ at q;subst q;exact wpAny_execs_nil (bz aA aO rfl)
 | brk=>delta bQ at q;subst q;exact aQ (bz aA aO rfl)
 | cont=>delta bQ at q;subst q;exact aQ (bz aA aO rfl)
 | ret v=>refine yu q λx z=>?_;exact aQ (bz aA aO ⟨x,rfl,z⟩)
end
end V
end
section
namespace V
open Builtin Builtin.Str
section
variable {prog:Program} {w:World} {A:Around} {E:Value->Shared->Prop} {s:Shared}
theorem Ab {Q:Fin->Shared->Prop} (hk:k= .int dep tk) (hm:typeOf (.type T)=pure (.type "type")) (hs:isSubtype (.type T) (.type T)=pure true) (hq:Q (.done (.ret (.bool true))) s):
  wpAny (model prog w) A (Builtin.«issubclass.nested» ⟨[.type T,.type T,k],[]⟩) Q E s:=by
 subst hk
 repeat (any_goals (first | assumption | (rewrite [aF hm]) | (rewrite [hs]) | wp_step))
theorem DA {Q:Fin->Shared->Prop} (hk:k= .int dep tk) (hd: ¬dep≥Builtins.nestingLimit) (ht:s.heap.get? a=some {cls:= .type "tuple",data:= .seq #[.type "str",.type "bytes"] n}) (hq:Q (.done (.ret (.bool true))) s):
  wpAny (model prog w) A (Builtin.«issubclass.nested» ⟨[.type "str",.ref a,k],[]⟩) Q E s:=by
 subst hk;have hT:s.TypeIs (.ref a) "tuple":=⟨_,ht,rfl⟩;delta Builtin.«issubclass.nested»;refine aj (wpAny_typeOf hT ?_);refine aj (m:=Builtins.unionMembers (.ref a)) ?_;refine aj (wpAny_typeOf hT ?_);refine aQ ?_;refine aj (Bo hT KPt.sub_tt ?_);rw [aF rfl,ay hd];refine aj (uU ht rfl ?_);have hsub:isSubtype (.type "str") (.type "str")=pure true:=by rw [sr];kernel_rfl
 have hm:typeOf (.type "str")=pure (.type "type"):=by rfl
 have step: ∀(c:Value) (Q':Value->Shared->Prop),c= .type "str"->Q' (.bool true) s->wpAny (model prog w) A (call (.builtin "issubclass.nested") [.type "str",c,rawInt (dep+1)]) Q' E s:=λc Q' hc h=>by subst hc;refine call_function_entry (by decide+kernel) (by decide+kernel) F.entry_issubclass_nested (by delta argsOk;kernel_rfl) ?_;exact Ab rfl hm hsub ⟨_,rfl,h⟩
 refine aj ?_;refine(?_:wpAny _ _ (forIn (#[Value.type "str",Value.type "bytes"]:Array Value) _ _) _ _ _);rw [<-Array.forIn_toList,nv];refine aj (aj (step _ _ rfl ?_));refine aj (wpAny_truthy_bool ?_);rw [aF rfl];refine aj (aQ (aQ (aQ ?_)));exact aQ hq
theorem oo {Q:Value->Shared->Prop} (ht:s.heap.get? a=some {cls:= .type "tuple",data:= .seq #[.type "str",.type "bytes"] n}) (hq:Q (.bool true) s):
  wpAny (model prog w) A (call (.builtin "issubclass") [.type "str",.ref a]) Q E s:=
 call_issubclass (S:=λu R s=>s.heap.get? a=some {cls:= .type "tuple",data:= .seq #[.type "str",.type "bytes"] n}/\R (.ok (.ret (.bool true))) s) (λu v g m q hs=>issubclass_outer (DA rfl (by decide) hs.1 hs.2)) ⟨ht,hq⟩
end
section
variable {C:Cx} {k:Nat} {sc:Scope} {A:Around} {W:Wd} {env:Env} {ms ai aZ b6 aK:List (Option AV)} {Z ae aN bX aB:St} {s:Shared}
theorem C2 (h:aU W [.ty n,.ty m] vs):vs= [.type n,.type m]:=by refine gB (fF h) λa b q1 q2=>?_;subst q1;subst q2;rfl
theorem E4:Ca C k Z (.bi "issubclass") [.ty "str",.tup [.ty "str",.ty "bytes"]] [] (.bool true) Z:=by refine oj λW r u q q'=> ?_;subst q;refine Op.look λA s Q hr I hq=>Ep (q'.isTup I) λla vs n hl ks=>?_;have:=C2 ks;subst this;exact oo hl (hq _ _ bO)
theorem s7 (h:IM C Z v T) (hn:(Value.type T==Value.type "builtin_function_or_method")=false):Ca C k Z (.ty "type") [v] [] (.ty T) Z:=by intro W rf df fp hf ha hk;dsimp only [aw]at hf;subst hf;dsimp only [bC]at hk;subst hk;refine c12 (du ha) λr z=>?_;subst z;intro q;exact Op.look λA s Q hr I hq=>call_type_of (h _ _ _ I q) hn (hq _ _ (by unfold aw;rfl))
theorem mF:Ca C k Z (.bi "isinstance") [.str x,.ty "bytes"] [] (.bool false) Z:=by refine oj λW r u q q'=> ?_;subst q';refine fh q λt=>Op.look λA s Q hr I hq=>IsiPair.str_bytes (hq _ _ bO)
theorem GB (h:(Value.type n==Value.type m)=c) (hp:plainIs (.type n) (.type m)=true):di C k Z (compareOp .Is) (.ty n) (.ty m) (λW r=>aw W (.bool c) r) Z:=by intro W ra rb qa qb;subst qa;subst qb;exact Op.look λA s Q hr I hq=>wpAny_is_plain hp (hq _ _ (h▸bO))
theorem CP (h:(!(Value.type n==Value.type m))=c) (hp:plainIs (.type n) (.type m)=true):di C k Z (compareOp .IsNot) (.ty n) (.ty m) (λW r=>aw W (.bool c) r) Z:=by intro W ra rb qa qb;subst qa;subst qb;exact Op.look λA s Q hr I hq=>wpAny_isNot_plain hp (hq _ _ (h▸bO))
noncomputable def dictOf (o:Option Obj):Array DictEntry:=match o with
 | some ⟨_,_,.dict es _,_⟩=>es
 | _=> #[]
theorem mg_of (O:C.Ok) (hk:C.K.lookup mainGlobals=some o) (hd:o.data= .dict es n) (x:Str):C.mg x=nsFind es x:=by refine AE O.g λo' es' n' h1 h2 _ h3=>?_;have:=O.tQ _ _ hk;rw [h1]at this;obtain rfl:=dI this;rw [hd]at h2;cases h2;exact(h3 x).symm
theorem bW (hd:(x==("__debug__":Str))=false) (h:C.mg x=some (.ref a)):Glob C x (.ext a):=⟨hd,_,.inl h,λW=>rfl⟩
theorem um (hd:(x==("__debug__":Str))=false) (h:C.mg x=some (.int i t)):Glob C x (.int i):=⟨hd,_,.inl h,λW=>b8⟩
theorem lA (O:C.Ok) (hd:(x==("__debug__":Str))=false) (h:C.mg x=none) (hn:(x==("__name__":Str))=false) (hb:bootBuiltins x=some (.builtin n)):Glob C x (.bi n):=
 ⟨hd,_,.inr ⟨h,(O.boot x (λe=>by rw [e]at hn;simp at hn)).trans hb⟩,λW=>rfl⟩
theorem fI (O:C.Ok) (hd:(x==("__debug__":Str))=false) (h:C.mg x=none) (hn:(x==("__name__":Str))=false) (hb:bootBuiltins x=some (.type n)):Glob C x (.ty n):=
 ⟨hd,_,.inr ⟨h,(O.boot x (λe=>by rw [e]at hn;simp at hn)).trans hb⟩,λW=>rfl⟩
noncomputable def Go (C:Cx) (k:Nat) (sc:Scope) (ms:List (Option AV)) (Z:St) (ss:List Stmt) (f:AF) (aB:St):Prop:= ∃aK,Ex C k sc ms Z ss f aK aB
theorem aE {st:Stmt} {rest:List Stmt} {f:AF} (h1:X1 C k sc ms Z st .next ai ae) (h2:Go C k sc ai ae rest f aB):Go C k sc ms Z (st::rest) f aB:=(cG h2 λ_ h=>⟨_,aJ h1 h⟩)
theorem FE {st:Stmt} {rest:List Stmt} {f:AF} (h1:X1 C k sc ms Z st f aK aB) (hf:f≠ .next):Go C k sc ms Z (st::rest) f aB:=⟨_,iy h1 hf⟩
theorem j0:Go C k sc ms Z [] .next Z:=⟨_,bA⟩
theorem bP (h:Ev C k sc ms Z e v aK aB):Go C k sc ms Z (.Return (some e) pos::rest) (.ret v) aB:=⟨_,r8 h⟩
theorem fD (h1:Tv C k sc ms Z test true ai ae) (h2:Go C k sc ai ae (x++rest) f aB):Go C k sc ms Z (.If test x y pos::rest) f aB:=(cG h2 λ_ h=>⟨_,dy h1 h⟩)
theorem cw (h1:Tv C k sc ms Z test false ai ae) (h2:Go C k sc ai ae (y++rest) f aB):Go C k sc ms Z (.If test x y pos::rest) f aB:=(cG h2 λ_ h=>⟨_,ck h1 h⟩)
theorem gQ {ms} (h1:Go C k sc ms ae body f cP) (h2:Exit Z cP f v aB): ∃f aK cP,Ex C k sc ms ae body f aK cP/\Exit Z cP f v aB:=(cG h1 λ_ h=>⟨_,_,_,h,h2⟩)
theorem nG {ms} (hv:v.Ba) (h1:Go C k sc ms Z body (.ret v) Z): ∃f aK cP,Ex C k sc ms Z body f aK cP/\Exit Z cP f v Z:=gQ h1 (zx (hv _))
theorem iF {ms} (h1:Go C k sc ms Z body (.ret (.str x)) Z): ∃f aK cP,Ex C k sc ms Z body f aK cP/\Exit Z cP f (.str x) Z:=nG cc h1
theorem DF {ms} (h1:Go C k sc ms Z body (.ret (.bool x)) Z): ∃f aK cP,Ex C k sc ms Z body f aK cP/\Exit Z cP f (.bool x) Z:=nG (λu=>trivial) h1
theorem Gf {ms} (hv:AV.p8 xs) (h1:Go C k sc ms Z body (.ret (.tup xs)) Z): ∃f aK cP,Ex C k sc ms Z body f aK cP/\Exit Z cP f (.tup xs) Z:=nG (xT hv) h1
noncomputable def Bv (C:Cx) (k:Nat) (sc:Scope) (ms:List (Option AV)) (Z:St) (pos:Pos) (op:BoolOp) (es:List Expr) (v:AV) (aK:List (Option AV)) (aB:St):Prop:=
 Tr C k sc ms Z (λenv=>boolOp pos op (evalEach es env)) (λW r=>aw W v r) aK aB
theorem eR (h:Bv C k sc ms Z pos op es v aK aB):Ev C k sc ms Z (.BoolOp op es pos) v aK aB:=h
theorem lx (h:Ev C k sc ms Z e v aK aB):Bv C k sc ms Z pos op [e] v aK aB:=h
theorem GN (h1:Ev C k sc ms Z e u ai ae) (h2:ie C k ae truthy u (λw r=>r=false) aN) (h3:Bv C k sc ai aN pos .Or (e2::rest) v aK aB):Bv C k sc ms Z pos .Or (e::e2::rest) v aK aB:=by
 intro A W env s hr H;refine(?_:wpAny C.M A (do
  let v<-eval e env
  standAt pos
  let t<-holding [v] (truthy v)
  match BoolOp.Or,t with
  | .And,false | .Or,true=>pure v
  | _,_=>boolOp pos .Or (evalEach (e2::rest) env)) _ _ _)
 refine cX (h1 A W env s hr H) λaR r aI aA aO q=>aj (cF (aj (cE ?_)));refine Op.in rfl (h2 _ r (q.mono (a8 aO.fr))) hr aO λbh b aT ax aG qb w g=> ?_;subst qb;exact bf (h3 A _ env aT hr aG) λbS r bt bg br q=>bz ((aA.trans ax).trans bg) br q
theorem mm (h1:Ev C k sc ms Z e u ai ae) (h2:ie C k ae truthy u (λw r=>r=true) aN):Bv C k sc ms Z pos .Or (e::e2::rest) u ai aN:=by
 intro A W env s hr H;refine(?_:wpAny C.M A (do
  let v<-eval e env
  standAt pos
  let t<-holding [v] (truthy v)
  match BoolOp.Or,t with
  | .And,false | .Or,true=>pure v
  | _,_=>boolOp pos .Or (evalEach (e2::rest) env)) _ _ _)
 refine cX (h1 A W env s hr H) λaR r aI aA aO q=>aj (cF (aj (cE ?_)));refine Op.in rfl (h2 _ r (q.mono (a8 aO.fr))) hr aO λbh b aT ax aG qb w g=> ?_;subst qb;exact aQ (bz (aA.trans ax) aG (q.mono ax))
theorem kG (h1:B x n) (h3:decide (n<=16777216)=true):x.length<=sizeLine:=bU h1 (jf▸jB h3)
theorem kf (h1:B x n) (h3:decide (n<=16777216)=true):Ca C k Z (.bi "len") [.str x] [] (.int x.length) Z:=CY (kG h1 h3)
theorem zr (h1:B x n) (h3:decide (n<=16777216)=true):Ca C k Z (.bi "str.rstrip") [.str x,.str y] [] (.str (Txt.rstripChars x y)) Z:=BN (kG h1 h3)
theorem vo (h1:B x a) (h2:B y b) (h3:decide (a<=1000)=true) (h4:decide (b<=1000)=true):di C k Z (binaryOp .Mult) (.str x) (.int y.length) (λW r=>aw W (.str (Txt.mul x y.length)) r) Z:=
 Gw (by have:=jB h4;delta B at h2;omega) (by omega) (bU h1 (jB h3))
theorem o8: ∀(l:List (Str×Tok)),aU W ((l.map (·.1)).map .str) (strValues l)
 | []=> .nil
 | (x,t)::l=> .cons bN (o8 l)
theorem rI (hy:(y.length==0)=false) (hx:B x n) (hn:decide (n<=16777216)=true) (hs:(partsBetween x (occurrences x y 0 x.length (x.length+1)) y.length).length<=sizeLine) (he:(Txt.split x y).map .str=ys):
  Ca C k Z (.bi "str.split") [.str x,.str y] [] (.lst ys) Z:=by
 subst he;refine oj λW r r' q q' A s outer hr hA hS I=>fh q λt=>fh q' λu=>?_;have hz:=kG hx hn;have one: ∀{ys:List Str},ys= [x]->Er C W Z (λW r=>aw W (.lst (ys.map .str)) r) (.ref s.heap.objs.size) {s with heap:=s.heap.push {cls:= .type "list",data:= .seq #[.str x t]}}:=λe=>by subst e;exact I.nJ (xs:= [.str x]) (vs:= [.str x t]) (.cons bN .nil) (bT _)
 cases h1:(decide (x.length<y.length) || decide (strKind x<strKind y))
 ·cases hf:(occurrences x y 0 x.length (x.length+1)).isEmpty
  ·refine pS F.slot_str_split (pX _ _ _) F.entry_str_split (F.args_str_split_2 _ _) (meets_str_split_sep x y t u h1 hy hf hz hs) ?_;have e:Txt.split x y=partsBetween x (occurrences x y 0 x.length (x.length+1)) y.length:=(ay (ne_true_of_eq_false h1)).trans (ay (ne_true_of_eq_false hf));rw [strsFrom_eq];have hv:=o8 (W:=W) (numbered s.toks (partsBetween x (occurrences x y 0 x.length (x.length+1)) y.length));rw [numbered_texts,<-e]at hv;obtain⟨W',le,I',q⟩:=I.nJ hv (tk:=s.toks+(partsBetween x (occurrences x y 0 x.length (x.length+1)) y.length).length) (gZ _ _);rw [e]at I' q⊢;exact⟨W',le,I',q⟩
  ·exact pS F.slot_str_split (pX _ _ _) F.entry_str_split (F.args_str_split_2 _ _) (meets_str_split_not_found x y t u h1 hy hf) (one ((ay (ne_true_of_eq_false h1)).trans (aF hf)))
 ·exact pS F.slot_str_split (pX _ _ _) F.entry_str_split (F.args_str_split_2 _ _) (meets_str_split_cannot_occur x y t u h1) (one (aF h1))
theorem FL: ∀{xs:List Str} {vs:List Value},aU W (xs.map .str) vs-> ∃l:List (Str×Tok),vs=strValues l/\l.map (·.1)=xs:=by
 intro aH;induction aH with
 | nil=>
  intro vs h;exact by rw [xo]at h;subst h;exact⟨[],rfl,rfl⟩
 | cons x xs ih=>intro vs h;rw [dj]at h;refine gB h λv r q h=>fh q λt=>yu (ih h) λl e=>⟨(x,t)::l,rfl,by rw [dj,e]⟩
theorem xg (h:IsL Z v (xs.map .str)) (hok:JoinOk x xs=true):Ca C k Z (.bi "str.join") [.str x,v] [] (.str (Txt.join x xs)) Z:=by refine oj λW r r' q q'=>fh q λt=>Op.look λA s Q hr I hq=> ?_;refine fq (h.list q' I) λla vs u=>?_;subst u;intro hl ks;refine c12 (FL ks) λl z=>?_;subst z;intro e;exact SC.join hl e hok λt' k=>hq _ _ bN
theorem C8 {ms} (hl:Z l=none) (hv:v.Ba) (h1:Go C k sc ms Z body (.ret v) (Z.set l o)): ∃f aK cP,Ex C k sc ms Z body f aK cP/\Exit Z cP f v Z:=
 gQ h1 ⟨sS hl,λu e=>e,λu w e=> .inl e,.inl ⟨rfl,hv _⟩⟩
theorem set_same:(Z.set l o) l=some o:=by delta St.set;rw [aF rfl]
theorem set_set:(Z.set l o).set l o'=Z.set l o':=by funext x;delta St.set;split<;>rfl
theorem ao (h:l'≠l):(Z.set l o) l'=Z l':=by delta St.set;rw [ay h]
theorem sO (h: ∀df:List Value,df.length=as.length-> ∀rr:List Value,rr.length=rest.length->bindArgs fd ⟨df++rr,[]⟩=(do let t<-newTuple rr;pure ((bs.map (·.1)).zip df++ [(x,t)]))) (hb:bs.map (·.2)=as) (hz:rest.length<=sizeLine):
  Bd C k fd Z (as++rest) [] (bs++ [(x,.tup rest)]) Z:=by
 intro W df fp ha hk A s outer hr hA hS I;subst hk;have cut: ∀{as:List AV} {vs:List Value},aU W (as++rest) vs-> ∃v1 v2,vs=v1++v2/\aU W as v1/\aU W rest v2:=by
  intro as
  induction as with
  | nil=>intro vs h;exact jE ([]) vs rfl (.nil) h
  | cons y ys ih=>intro vs h;rw [AU]at h;refine gB h λv r q h=>gB (ih h) λv1 v2 h1 h2=>jE (v::v1) v2 rfl (.cons q h1) h2
 refine gB (cut ha) λv1 v2 h1 h2=>?_;rw [h v1 h1.length v2 h2.length];refine aj (bH (mP (k:=k) h2 hz A s outer hr hA hS I) (λr s' ⟨W',le,I',q⟩=>aQ ⟨W',le,I',?_⟩) λu w x=>x);have kz:=ja (W:=W') (vs:=bs) (by rw [hb];exact h1.mono le);have app: ∀{bs:List (Str×AV)} {ks:List (Str×Value)},bC W' bs ks->bC W' (bs++ [(x,.tup rest)]) (ks++ [(x,r)]):=by
  intro bs
  induction bs with
  | nil=>intro ks h;subst h;exact jE r ([]) rfl q rfl
  | cons b bs ih=>intro ks h;obtain⟨n,y⟩:=b;refine gB h λv ks' a b=>jE v (ks'++ [(x,r)]) rfl a (ih b)
 exact app kz
noncomputable def Turn (C:Cx) (k:Nat) (sc:Scope) (tgt:Expr) (body:List Stmt) (x:AV) (ms:List (Option AV)) (Z:St) (aK:List (Option AV)) (aB:St):Prop:=
 ∃ai ae me,As C k sc ms Z tgt x ai ae/\Ex C k sc ai ae body me aK aB/\(me= .next\/me= .cont)
theorem cx (ha:As C k sc ms Z tgt x ai ae) (hx:Ex C k sc ai ae body .next aK aB):Turn C k sc tgt body x ms Z aK aB:=⟨_,_,_,ha,hx,.inl rfl⟩
theorem qI (ha:As C k sc ms Z tgt x ai ae) (hx:Ex C k sc ai ae body .cont aK aB):Turn C k sc tgt body x ms Z aK aB:=⟨_,_,_,ha,hx,.inr rfl⟩
theorem iA {α S:Type} {enc:α->AV} {M:S->List (Option AV)} {Sg:S->St} {step:S->α->S} {P:S->List α->Prop} {ok:St->Prop} (hok: ∀s xs,P s xs->ok (Sg s)) (hp: ∀s x xs,P s (x::xs)->P (step s x) xs)
  (h: ∀s x xs,P s (x::xs)->Turn C k sc tgt body (enc x) (M s) (Sg s) (M (step s x)) (Sg (step s x))): ∀(xs:List α) (s:S),P s xs->Lr C k sc ok tgt body (xs.map enc) (M s) (Sg s) .next (M (xs.foldl step s)) (Sg (xs.foldl step s)):=by
 intro aH;induction aH with
 | nil=>exact λs hs=> .nil (hok s [] hs)
 | cons x xs ih=>
  exact λs hs=>by refine lN (h s x xs hs) λai ae me ha hx hf=>.cons (hok s _ hs) ha hx hf (ih (step s x) (hp s x xs hs))
theorem iH {tgt iter:Expr} {body rest:List Stmt} {pos:Pos} {v:AV} {ok:St->Prop} {xs:List AV} {src:AV} {Sh:vZ} {f:AF} (h1:Ev C k sc ms Z iter v ai ae) (I:vK C k ok v xs src Sh tgt) (hok:ok ae) (L:Lr C k sc ok tgt body xs ai ae .next aZ aN)
  (hs: ∀env x,foldedSetIterable iter env x=pure x) (h2:Go C k sc aZ aN rest f aB):Go C k sc ms Z (.For tgt iter body [] pos::rest) f aB:=aE (jq (f:= .next) h1 I hok L hs) h2
theorem iY:Mt C k (Z.set l (.list xs)) (.loc l) "append" (.bi "list.append"):=eu set_same
theorem i8 (hz:xs.length<=sizeLine):Ca C k (Z.set l (.list xs)) (.bi "list.append") [.loc l,x] [] .none (Z.set l (.list (xs++ [x]))):=by
 have:=dJ (C:=C) (k:=k) (Z:=Z.set l (.list xs)) (x:=x) set_same hz
 rwa [set_set]at this
theorem IQ:Mt C k (Z.set l (.list xs)) (.loc l) "pop" (.bi "list.pop"):=BW set_same
theorem HW (hz:xs.length+1<=sizeLine):Ca C k (Z.set l (.list (xs++ [x]))) (.bi "list.pop") [.loc l] [] x (Z.set l (.list xs)):=by
 have:=Cy (C:=C) (k:=k) (Z:=Z.set l (.list (xs++ [x]))) set_same hz
 rwa [set_set]at this
theorem lX (hz:xs.length<=sizeLine) (hc:(!xs.isEmpty)=c):ie C k (Z.set l (.list xs)) truthy (.loc l) (λu r=>r=c) (Z.set l (.list xs)):=fH (.loc set_same) hz hc
theorem oF (h0:i<0) (h1: -(xs.length:Int)<=i) (h2: -1000000<=i) (hx:xs[(i+xs.length).toNat]? =some x):di C k (Z.set l (.list xs)) getItem (.loc l) (.int i) (λW r=>aw W x r) (Z.set l (.list xs)):=kn (.loc set_same) h0 h1 h2 hx
theorem bk (h:IsL Z v xs):Bg C Z v:=λW s ro I q=>by intro A Q E s' hk hq;refine Ep (h.is q I) λla vs n hl ks=>?_;have hT:s'.TypeIs (.ref la) "list":=⟨_,hk _ _ hl,rfl⟩;rw [getitemInPython_of_ne hT.not_modules];exact aj (A1 hT F.slot_list_getitem.lookup (aQ hq))
theorem uM (g:Nat): ∀(xs:List Str) (a:Nat),(∀y∈xs,y.length<=1000)->xs.foldl (λn y=>n+y.length+g) a<=a+xs.length * (1000+g):=by
 intro aH;induction aH with
 | nil=>
  exact λa u=>by exact gZ _ _
 | cons x xs ih=>
  exact λa h=>by rw [cW,cq,Nat.succ_mul];have:=ih (a+x.length+g) (λy hy=>h y (.tail _ hy));have:=h x (.head _);omega
theorem qU (hx:x.length<=10) (h: ∀y∈xs,y.length<=1000) (hl:xs.length<=1000):JoinOk x xs=true:=by
 delta JoinOk tooLong;rw [jf];have e:xs.toArray.foldl (λn y=>n+y.length+x.length) 0<=0+xs.length * (1000+x.length):=by rw [<-Array.foldl_toList];exact uM x.length xs 0 h
 have:xs.length * (1000+x.length)<=1000 * 1010:=wC hl (by omega);rw [BP];exact mE (by omega)
theorem vn (g:Array Nat): ∀(xs:List Str) (a:Array Nat),(xs.foldl (λacc (p:Str)=>acc++g++p.cps) a).size=xs.foldl (λn (p:Str)=>n+p.length+g.size) a.size:=by
 intro aH;induction aH with
 | nil=>exact λa=>rfl
 | cons x xs ih=>
  exact λa=>by
   rw [cW,cW,ih]
   congr 1
   rw [Du,Du];refine(?_:_+_+x.length=_);omega
theorem Hr (hx:x.length<=10) (h: ∀y∈xs,y.length<=1000) (hl:xs.length<=1000):B (Txt.join x xs) 1100000:=by
 delta B Txt.join glued;refine(?_:((xs.drop 1).foldl (λacc p=>acc++x.cps++p.cps) (xs.headD Str.empty).cps).size<=_);rw [vn];have h1:=uM x.cps.size (xs.drop 1) (xs.headD Str.empty).cps.size (λy hy=>h y (List.mem_of_mem_drop hy));have h2:(xs.headD Str.empty).cps.size<=1000:=by
  cases xs with
  | nil=>exact dW _
  | cons y ys=>exact h y (.head _)
 have h3:(xs.drop 1).length<=1000:=by rw [vT];omega
 have h4:(xs.drop 1).length * (1000+x.cps.size)<=1000 * 1010:=wC h3 (by have:x.cps.size<=10:=hx;omega);omega
theorem split_len (h:B x n):(Txt.split x y).length<=n+2/\ ∀z∈Txt.split x y,z.length<=n:=by
 unfold B at h;unfold Txt.split;split
 ·exact⟨by simp,λz hz=>by simp at hz;subst hz;exact h⟩
 ·split
  ·exact⟨by simp,λz hz=>by simp at hz;subst hz;exact h⟩
  ·refine⟨?_,λz hz=> ?_⟩
   ·rw [len_partsBetween];have:=F1 x y 0 x.length (x.length+1);omega
   ·unfold partsBetween at hz;refine kK (bM.mp hz) λq _=>?_;rcases q with⟨i,j⟩
    exact bU (len_strSub x i j) h
theorem qq (h:B x n) (hn:decide (n<=1000)=true):(partsBetween x (occurrences x y 0 x.length (x.length+1)) y.length).length<=sizeLine:=by have:=jB hn;delta B at h;rw [len_partsBetween,jf];have:=F1 x y 0 x.length (x.length+1);omega
theorem aV (h:n<=m) (hm:decide (m<=16777216)=true):n<=sizeLine:=bU h (jf▸jB hm)
theorem i7:(xs++ [x])[((-1:Int)+((xs++ [x]).length:Int)).toNat]? =some x:=by
 have e:((-1:Int)+((xs++ [x]).length:Int)).toNat=xs.length:=by rw [cS,List.length_singleton];omega
 rw [e];simp
end
noncomputable def dh (acc:List Str) (c:Str):List Str:=
 if((c.length:Int) !=0)=false then acc
 else if(c==Str.ofString ".")=true then acc
 else if(c !=Str.ofString "..")=true then acc++ [c]
 else if acc.isEmpty=true then acc
 else if((acc.getLast?.getD Str.empty)==Str.ofString "..")=true then acc++ [c]
 else acc.dropLast
theorem qe (acc:List Str) (c:Str):(dh acc c).length<=acc.length+1/\ ∀z∈dh acc c,z∈acc\/z=c:=by
 delta dh
 repeat' split
 all_goals first
  | exact⟨jm _,λz hz=> .inl hz⟩
  | exact⟨by simp,λz hz=>by simpa using hz⟩
  | exact⟨by rw [List.length_dropLast];omega,λz hz=> .inl (List.dropLast_subset _ hz)⟩
theorem Av: ∀(cs acc:List Str),(cs.foldl dh acc).length<=acc.length+cs.length/\ ∀z∈cs.foldl dh acc,z∈acc\/z∈cs:=by
 intro aH;induction aH with
 | nil=>exact λacc=>⟨by exact gZ _ _,λz hz=> .inl hz⟩
 | cons c cs ih=>
  exact λacc=>by
   rw [cW];refine bI (ih (dh acc c)) λh1 h2=>bI (qe acc c) λh3 h4=>?_;refine⟨by rw [cq];omega,λz hz=> ?_⟩;refine aP (h2 z hz) (λh=>?_) λh=>?_
   ·refine aP (h4 z h) (λh=>?_) λq=>?_
    ·exact .inl h
    ·subst q;exact .inr (.head _)
   ·exact .inr (.tail _ h)
noncomputable def GF (p:Str):Str:=Str.ofString "/"++Txt.join (Str.ofString "/") ((Txt.split (Txt.slice p (some 1) none) (Str.ofString "/")).foldl dh [])
end V
end
section
namespace V
open Builtin Builtin.Str Builtin.Re
theorem pF {ok:Nat->Bool} (tG: ∀c,ok c=true-> ∀seen,∃fC,Sre.inSet m.code c m.code.size 5 true seen= .ok (false,fC)):
  ∀(fuel s:Nat) (seen:Sre.Seen),(∀i,i<m.lim->ok (m.text.getD i 0)=true)-> ∃fC,Sre.M.admitted m fuel s seen= .ok (none,fC):=by
 intro aH;induction aH with
 | zero=>exact λs seen u=>⟨seen,rfl⟩
 | succ fuel ih=>
  exact λs seen h=>by
   unfold Sre.M.admitted;by_cases hs:s≥m.lim
   ·rw [aF hs];exact⟨seen,rfl⟩
   ·rw [ay hs];refine cG (tG _ (h s (by omega)) seen) λfC e=>?_;rw [e];exact ih (s+1) fC h
theorem rG (h1:m.hasFirstSet=true) (h2:Sre.M.admitted m (m.lim+1 - s) s m.seen= .ok (none,fC)):m.attemptFrom s first=({m with seen:=fC}:Sre.M).say false:=by delta Sre.M.attemptFrom;rw [h1,h2];rfl
theorem oX {code text:Array Nat} {ok:Nat->Bool} (tG: ∀c,ok c=true-> ∀seen,∃fC,Sre.inSet code c code.size 5 true seen= .ok (false,fC)) (ht: ∀i,i<text.size->ok (text.getD i 0)=true)
  (h0:Sre.ops[code.getD 0 0]? =some .INFO) (h2:code.getD 2 0=4): ∃m:Sre.M,Sre.forSearch code text 0 0 text.size false=m/\m.answer=some false/\m.frames= []/\m.outcome=none:=by
 have go: ∀m:Sre.M,m.code=code->m.text=text->m.lim=text.size->m.frames= []->m.outcome=none-> ∃m',m.attemptFrom 0 true=m'/\m'.answer=some false/\m'.frames= []/\m'.outcome=none:=λm e1 e2 e3 e4 e5=>by
  have f:m.hasFirstSet=true:=by delta Sre.M.hasFirstSet;rw [e1,h0,h2];rfl
  refine cG (pF (m:=m) (ok:=ok) (by rw [e1];exact tG) (m.lim+1 - 0) 0 m.seen (λi hi=>by rw [e2];exact ht i (by rw [<-e3];exact hi))) λfC e=>GX _ (rG f e) rfl e4 e5
 delta Sre.forSearch;dsimp only;split
 ·exact GX _ rfl rfl rfl rfl
 ·exact go _ rfl rfl rfl rfl rfl
theorem xi {m:Sre.M} (h1:m.answer=some false) (h2:m.frames= []) (h3:m.outcome=none):(m.runFor 4).outcome=some .failed:=by
 have e:m.step={m with outcome:=some .failed}:=by delta Sre.M.step;rw [h3,h1,h2];rfl
 have z: ∀n (m:Sre.M),m.outcome=some .failed->(m.runFor n).outcome=some .failed:=by
  intro n
  induction n with
  | zero=>intro m h;exact h
  | succ n ih=>intro m h;unfold Sre.M.runFor;rw [aF (by rw [h];rfl)];exact h
 refine(?_:(if m.outcome.isSome then m else Sre.M.runFor 3 m.step).outcome=_);rw [h3,ay (by decide),e];exact z 3 _ rfl
section
variable {prog:Program} {w:World} {A:Around} {E:Value->Shared->Prop} {s:Shared}
theorem pJ {m:Sre.M} {Q:Option Sre.M->Shared->Prop} (h1:m.answer=some false) (h2:m.frames= []) (h3:m.outcome=none) (hq:Q none s):wpAny (model prog w) A (reRunToEnd m) Q E s:=by
 have e:=xi h1 h2 h3;have d:reDrive (2 ^ 64) m=pure (m.runFor reTurnSteps):=by
  show(if(m.runFor reTurnSteps).outcome.isSome then pure (m.runFor reTurnSteps)else _)=_
  rw [aF (by refine(?_:(m.runFor 4).outcome.isSome=true);rw [e];rfl)]
 refine aj (eL d ?_);refine aj (wpAny_forIn_list _ (λu v s'=>s'=s) _ (λx rest b s' hs=> ?_) (λb s' hs=> ?_) _ _ rfl)
 ·subst hs;split
  ·exact aj (rL (aQ rfl))
  ·exact aQ rfl
 ·subst hs;have e':(m.runFor reTurnSteps).outcome=some .failed:=e;rw [e'];exact aQ hq
theorem vd {fs:Array Value} {items:Array Value} {code:Array Nat} {ok:Nat->Bool} {Q:Fin->Shared->Prop} (ho:s.heap.get? a=some o) (hd:o.data= .fields fs) (h5:fs.getD 5 .none= .ref ct) (h6:reRawNat (fs.getD 6 .none)=0) (h2:reRawNat (fs.getD 2 .none)=0)
  (hc:s.heap.get? ct=some oc) (hcd:oc.data= .seq items n) (hcode:(items.map reRawOf).map (·.toNat)=code)
  (tG: ∀c,ok c=true-> ∀seen,∃fC,Sre.inSet code c code.size 5 true seen= .ok (false,fC)) (ht: ∀i,i<x.cps.size->ok (x.cps.getD i 0)=true)
  (Nm:Sre.ops[code.getD 0 0]? =some .INFO) (Gk:code.getD 2 0=4) (hx:x.length<=1000000) (hq:Q (.done (.ret .none)) s):wpAny (model prog w) A (Builtin.«re.Pattern.search» ⟨[.ref a,.str x t],[]⟩) Q E s:=by
 unfold Builtin.«re.Pattern.search» reTarget;have e1:reNamed "re.Pattern.search" "search" ["string","pos","endpos"] 1 [.str x t] []=pure [some (.str x t),none,none]:=by rfl
 refine aj (aj (eL e1 ?_));dsimp only;refine aj (aQ ?_);refine aj (aQ ?_);refine aj (wpAny_fieldsOf ho hd ?_);refine aj (m:=reTextOf (.str x t)) (eL (a:=(x.cps,0)) (by rfl) ?_);rw [h6];rw [ay (show¬((((0:Nat)==0) && ((0:Nat)==1))=true) by decide),ay (show¬((((0:Nat)==1) && ((0:Nat)==0))=true) by decide)];refine aj (m:=reNoCollectionInside (.str x t) 0) (eL (a:=()) (by rfl) ?_);rw [h5,h2];refine aj (m:=reRawItems (.ref ct)) ?_;refine aj (uU hc hcd (aQ (aQ ?_)));have ec:Array.map (λ(x:Int)=>x.toNat) (((some items).getD #[]).map reRawOf)=code:=hcode;rw [ec];have el:Min.min (2 ^ 63 - 1:Int).toNat x.cps.size=x.cps.size:=by
  have:x.cps.size<=1000000:=hx;rw [Nat.min_def];split
  ·omega
  ·rfl
 dsimp only;refine CR (oX (code:=code) (text:=x.cps) (ok:=ok) tG ht Nm Gk) λm em a1 a2 a3=>?_;have ep:Min.min (0:Int).toNat x.cps.size=0:=Nat.zero_min _;have O5:Sre.forSearch code x.cps 0 (Min.min (0:Int).toNat x.cps.size) (Min.min (2 ^ 63 - 1:Int).toNat x.cps.size) false=m:=by rw [ep,el];exact em
 refine aj ?_;rw [O5];refine pJ a1 a2 a3 ?_;exact aQ hq
end
end V
end
section
namespace V
open Builtin Builtin.Str Builtin.Re
theorem zA:PlainAttrs "re.Pattern":=
 ⟨⟨"object.__getattribute__",by rw [uV,uY];kernel_rfl,by decide+kernel⟩,by rw [uV,uY];kernel_rfl⟩
theorem mV:Slot "re.Pattern" "search" "re.Pattern.search":=
 .of (owner:="re.Pattern") (n:="search") (by rw [uV,uY];kernel_rfl) (by decide+kernel) (by decide+kernel) (by decide+kernel)
  (by first | exact .inl (by decide+kernel) | exact .inr (by decide+kernel)) (by rw [sr];kernel_rfl)
theorem uC:typeOf (.builtin "re.Pattern.search")=pure (.type "method_descriptor"):=by refine(?_:builtinType _=_);rw [builtinType_eq_fast];kernel_rfl
theorem r7:entryFor table "re.Pattern.search"=some Builtin.«re.Pattern.search» :=entryFor_of_tree (by kernel_rfl)
theorem vk (a b:Value):argsOk "re.Pattern.search" ⟨[a,b],[]⟩:=by delta argsOk;kernel_rfl
noncomputable def codeN:Array Nat:= #[14,10,4,1,1,22,0,31,16,127,0,13,7,22,0,31,16,127,0,1]
noncomputable def codeV:Array Nat:= #[14,14,4,1,1,9,4294966783,0,0,2147483648,0,0,0,0,0,13,11,9,4294966783,0,0,2147483648,0,0,0,0,0,1]
noncomputable def nO (c:Nat):Bool:=decide (32<=c) && (c !=127)
theorem MP (c:Nat) (h:nO c=true) (seen:Sre.Seen): ∃fC,Sre.inSet codeN c codeN.size 5 true seen= .ok (false,fC):=by delta nO at h;rw [mz,pW,bne_iff_ne]at h;refine⟨((seen.add 22).add 16).add 0,?_⟩;refine(?_:(if(decide (0<=c) && decide (c<=31))=true then Except.ok (true,seen.add 22)else(if(c==127)=true then Except.ok (true,(seen.add 22).add 16)else Except.ok (!true,((seen.add 22).add 16).add 0)))=_);rw [ay (by rw [mz,pW,pW];omega),ay (by rw [gJ];omega)];rfl
theorem J9: ∀c:Nat,c<256->nO c=true->((codeV.getD (5+(1+c / 32)) 0).testBit (c % 32))=false:=by decide+kernel
theorem Na (c:Nat) (h:nO c=true) (seen:Sre.Seen): ∃fC,Sre.inSet codeV c codeV.size 5 true seen= .ok (false,fC):=by
 refine⟨(seen.add 9).add 0,?_⟩;refine(?_:(if(decide (c<256) && (codeV.getD (5+(1+c / 32)) 0).testBit (c % 32))=true then Except.ok (true,seen.add 9)else Except.ok (!true,(seen.add 9).add 0))=_);rw [ay]
 ·rfl
 ·rw [mz,pW];intro z;rw [J9 c z.1 h]at z;cases z.2
section
variable {C:Cx} {k:Nat} {W:Wd} {Z aB:St}
theorem Inv.ext (I:Inv C W Z s) (O:C.Ok) (h:C.K.lookup a=some o):s.heap.get? a=some o:=I.kept _ _ (O.tQ _ _ h)
theorem uk (O:C.Ok) (h:C.K.lookup a=some {cls:= .type "re.Pattern",data:=d}):Mt C k Z (.ext a) "search" (.bi "re.Pattern.search"):=by intro W ro pl q;subst q;refine Op.look λA s Q hr I hq=> ?_;have g:=I.ext O h;exact s6 ⟨_,g,rfl⟩ zA mV uC (λb e=>by cases e;exact i12 _ g rfl) (hq _ _ ⟨rfl,by rfl⟩)
theorem vU (O:C.Ok) {a ct:Addr} {x:Str} {fs items:Array Value} {n:Nat} {code:Array Nat} (h:C.K.lookup a=some {cls:= .type "re.Pattern",data:= .fields fs}) (hc:C.K.lookup ct=some {cls:= .type "tuple",data:= .seq items n})
  (h5:fs.getD 5 .none= .ref ct) (h6:reRawNat (fs.getD 6 .none)=0) (h2:reRawNat (fs.getD 2 .none)=0) (hcode:(items.map reRawOf).map (·.toNat)=code) (tG: ∀c,nO c=true-> ∀seen,∃fC,Sre.inSet code c code.size 5 true seen= .ok (false,fC))
  (Nm:Sre.ops[code.getD 0 0]? =some .INFO) (Gk:code.getD 2 0=4) (ht:x.cps.all nO=true) (hx:x.length<=1000000):Ca C k Z (.bi "re.Pattern.search") [.ext a,.str x] [] .none Z:=by
 refine oj λW r r' q q'=> ?_;subst q;refine fh q' λt=>Op.look λA s Q hr I hq=>zN mV ⟨_,I.ext O h,rfl⟩ r7 ?_ (vk _ _);refine vd (I.ext O h) rfl h5 h6 h2 (I.ext O hc) rfl hcode tG (λi hi=> ?_) Nm Gk hx ⟨_,rfl,hq _ _ c5⟩;have:=Array.all_eq_true.mp ht i hi
 rwa [Array.getD_eq_getD_getElem?,Array.getElem?_eq_getElem hi]
end
end V
end
section
namespace V
section
variable {C:Cx} {k:Nat} {sc:Scope} {A:Around} {W:Wd} {env:Env} {ms ai aZ b6 aK:List (Option AV)} {Z ae aN bX aB:St} {s:Shared}
theorem HQ (h: ∀ra rb rc:Value,bindArgs fd ⟨[ra,rb],[(c,rc)]⟩=pure [(a,ra),(b,rb),(c,rc)]):Bd C k fd Z [x,y] [(c,z)] [(a,x),(b,y),(c,z)] Z:=by refine yg λW df fp ha hk=>gB (fF ha) λra rb q1 q2=>gB hk λrc ks q3 hk=>?_;subst hk;exact⟨_,h ra rb rc,ra,_,rfl,q1,rb,_,rfl,q2,rc,_,rfl,q3,rfl⟩
end
end V
end
section
namespace V
open Builtin Builtin.Str
section
variable {C:Cx} {k:Nat} {sc:Scope} {A:Around} {W:Wd} {env:Env} {ms ai aZ b6 aK:List (Option AV)} {Z ae aN bX aB:St} {s:Shared}
theorem ji (h1:Ev C k sc ms Z o (.str x) ai ae) (hlb:0<C.lb) (hyz:(y==z)=false) (hx:B x n) (hn:decide (n<=1000000)=true) (hz:decide (z.length<=14)=true)
  (hb: ∀env t,attributeBase o "replace" env t=t) (hl:(apos.endLine==pos.line)=true):
  Ev C k sc ms Z (.Call (.Attribute o "replace" apos) [.Constant (.str y) n1 p1,.Constant (.str z) n2 p2] [] pos) (.str (Txt.replace x y z)) ai ae:=by
 intro A W env s hr H;rw [jj,hb];refine cX (h1 A W env s hr H) λaR ro aI aA aO qo=>aj (cF ?_);delta methodCall;have hf:methodCallForm ([Expr.Constant (.str y) n1 p1,Expr.Constant (.str z) n2 p2].length+([]:List Keyword).length) (backTo pos (starEach [.Constant (.str y) n1 p1,.Constant (.str z) n2 p2] env)) (backToKw pos (keywordEach [] env))=true:=rfl;rw [hf];refine aj (cE ?_);refine Op.in rfl (Ad (k:=k) _ ro _ (qo.mono (a8 aO.fr))) hr aO λbh r aT ax aG q tk w=> ?_;obtain⟨rf,first⟩:=r;refine bI q λq1 q2=>?_;clear q;dsimp only at q1 q2;subst q2;subst q1;refine fh qo λt=>?_;have hp:methodCallPos true o env apos pos=pure pos:=by delta methodCallPos;simp [hl]
 refine aj (eL hp ?_);have hxx:=jB hn;have Nj:=jB hz;refine cI (dC (by intro x z;cases z) ?_);refine spliced_cons (x:=eval (.Constant (.str y) n1 p1) env) ?_;rw [zo];refine wpAny_mkText (spliced_cons (x:=eval (.Constant (.str z) n2 p2) env) ?_);rw [zo];refine wpAny_mkText (spliced_nil ⟨⟨_,Looks.of_pure rfl⟩,?_⟩);have hpos:=sP hlb aG.inv.pos;refine eT ?_;refine SC.replaceW (x:=x) (y:=y) (z:=z) (u:=aT.toks) (v:=aT.toks+1) (Nat.pos_iff_ne_zero.mp hpos) (Nat.succ_ne_zero _) (Nat.ne_of_lt (Nat.lt_succ_self _)) hyz (by delta B at hx;omega) Nj λt' tk' l=> ?_;have l':aT.toks<=tk':=by have l:aT.toks+1+1<=tk':=l;omega
 exact bz (aA.trans ax) (aG.tok tk' l') bN
end
end V
end
section
namespace V
open Builtin Builtin.Str
noncomputable abbrev PS:=List Value×Writer×List Nat
noncomputable def LB (f:Nat->PS->Sem (ForInStep PS)) (M:Model) (A:Around) (Q:PS->Shared->Prop) (E:Value->Shared->Prop) (s:Shared):Prop:=
 ∀i l v tk P w r,¬tooLong w.total=true->wpAny M A (forIn l (P,w.add ⟨v.cps.toList.toArray⟩ (if r.isEmpty=true then some (.str v tk)else none),r) f) Q E s->wpAny M A (forIn (i::l) (.str v tk::P,w,37::115::r) f) Q E s
noncomputable def Lc (F:PySem.Str) (t:Tok) (f:Nat->PS->Sem (ForInStep PS)) (M:Model) (A:Around) (Q:PS->Shared->Prop) (E:Value->Shared->Prop) (s:Shared):Prop:=
 ∀i l P w c r x y,¬tooLong w.total=true->List.span (· !=37) (c::r)=(x,y)->(!x.isEmpty)=true->wpAny M A (forIn l (P,w.add ⟨x.toArray⟩ (if(x.length==F.length)=true then some (.str F t)else none),y) f) Q E s->wpAny M A (forIn (i::l) (P,w,c::r) f) Q E s
noncomputable def Lf (f:Nat->PS->Sem (ForInStep PS)) (M:Model) (A:Around) (Q:PS->Shared->Prop) (E:Value->Shared->Prop) (s:Shared):Prop:=
 ∀i l P w,¬tooLong w.total=true->Q (P,w,[]) s->wpAny M A (forIn (i::l) (P,w,[]) f) Q E s
theorem DQ {f:Nat->PS->Sem (ForInStep PS)} {g:List Value->Writer->List Nat->Sem (ForInStep PS)} {KK:PySem.Str->Tok->List Value->Writer->List Nat->List Nat×Option Value×Bool->Sem (ForInStep PS)}
 (K: ∀i P w r,¬tooLong w.total=true->f i (P,w,r)=g P w r)
 (h1: ∀v tk P w r,g (Value.str v tk::P) w (37::115::r)=holding [.str v tk] (pure (v.cps.toList,some (.str v tk),false))>>=KK v tk P w r)
 (h2: ∀v tk P w r,KK v tk P w r (v.cps.toList,some (.str v tk),false)=pure (ForInStep.yield (P,w.add ⟨v.cps.toList.toArray⟩ (if r.isEmpty=true then some (.str v tk)else none),r)))
 (h3: ∀P w c r x y,List.span (· !=37) (c::r)=(x,y)->(!x.isEmpty)=true->g P w (c::r)=pure (ForInStep.yield (P,w.add ⟨x.toArray⟩ (if(x.length==F.length)=true then some (.str F t)else none),y)))
 (h4: ∀P w,g P w []=pure (ForInStep.done (P,w,[]))):LB f M A Q E s/\Lc F t f M A Q E s/\Lf f M A Q E s:=by
 refine⟨?_,?_,?_⟩
 ·intro i l v tk P w r hc h;refine KPc.turn ?_;rw [K i _ w _ hc,h1 v tk P w r];refine aj (cE (aQ ?_));rw [h2 v tk P w r];exact aQ h
 ·intro i l P w c r x y hc e hx h;refine KPc.turn ?_;rw [K i _ w _ hc,h3 P w c r x y e hx];exact aQ h
 ·intro i l P w hc h;refine KPc.turn ?_;rw [K i _ w _ hc,h4 P w];exact aQ h
theorem Hh {F T:PySem.Str} {t:Tok} {b:Addr} {its:Array Value}
  (k: ∀f M A Q E s,LB f M A Q E s->Lc F t f M A Q E s->Lf f M A Q E s->(∀w N,KPc.Good w T N->N<=16777216->Q ([],w,[]) s)->wpAny M A (forIn (List.range' 0 F.length 1) (its.toList,({}:Writer),F.cps.toList) f) Q E s):
  Meets («str.__mod__» ⟨[.str F t,.ref b],[]⟩) (λu R s=>IsTup s.heap b its/\ ∀t' k,R (.ok (.ret (.str T t'))) {s with toks:=k}):=by
 apply KPt.meets_tup;intro p w A s Q E H hq;obtain⟨kptO,kptG,kptC,kptN,kptD⟩:=H;rw [KPt.entry_is_r];delta Builtin.Str.percentFormat;refine aj (Bo (T:="tuple") ⟨kptO,kptG,kptC⟩ KPt.sub_tt ?_);refine aj (KPt.asStr_ref kptG kptD ?_);refine aj (KPt.fills_ref ⟨kptO,kptG,kptC⟩ ?_);intro bb;refine aj (uU kptG kptD ?_);refine aj (aQ ?_);refine aj ?_;rw [KPc.range_list];refine nM (DQ (λi P w r h=>ay h) (λv tk P w r=>rfl) (λv tk P w r=>rfl) ?_ (λP w=>rfl)) λz1 z2 z3=>k _ _ _ _ _ _ z1 z2 z3 ?_
 ·intro P w c r x y e hx;rw [e];exact aF hx
 ·intro w N hg hN;exact wpAny_ite (KPc.ite_no dM (KPc.finish_ok hg hN rfl hq))
theorem t4 (x y:PySem.Str) (t t1 t2:Tok) (b:Addr) (hx:x.length<=1000000) (hy:y.length<=1000000):Meets («str.__mod__» ⟨[.str ⟨#[37,115,58,32,37,115]⟩ t,.ref b],[]⟩)
  (λu R s=>IsTup s.heap b #[.str x t1,.str y t2]/\ ∀t' k,R (.ok (.ret (.str (x++PySem.Str.ofString ": "++y) t'))) {s with toks:=k}):=by
 refine Hh λf M A Q E s z1 z2 z3 fin=>KPc.start λw0 g0=>z1 _ _ _ _ _ _ _ (KPc.short_good g0 (by decide)) (KPc.after_str0 g0 hx (KPc.obj_none rfl) λw1 g1=> ?_);refine z2 _ _ _ _ _ _ [58,32] _ (KPc.short_good g1 (by decide)) rfl rfl (KPc.after_add g1 (y:=PySem.Str.ofString ": ") (by kernel_rfl) (KPc.obj_none rfl) λw2 g2=> ?_);refine z1 _ _ _ _ _ _ _ (KPc.short_good g2 (by decide+kernel)) (KPc.after_str g2 hy (KPc.obj_some rfl) λw3 g3=> ?_);exact z3 _ _ _ _ (KPc.short_good g3 (by decide+kernel)) (fin _ _ g3 (by decide+kernel))
end V
end
section
namespace V
open Builtin Builtin.Str
section
variable {C:Cx} {k:Nat} {sc:Scope} {A:Around} {W:Wd} {env:Env} {ms ai aZ b6 aK:List (Option AV)} {Z ae aN bX aB:St} {s:Shared}
theorem Lj (hX:X=X') (hm: ∀(t t1 t2:Tok) (b:Addr),Meets («str.__mod__» ⟨[.str X' t,.ref b],[]⟩) (λg R s=>IsTup s.heap b #[.str x t1,.str y t2]/\ ∀t' k,R (.ok (.ret (.str T t'))) {s with toks:=k})):
  di C k Z (binaryOp .Mod) (.str X) (.tup [.str x,.str y]) (λW r=>aw W (.str T) r) Z:=by
 subst hX;intro W ra rb qa qb;dsimp only [aw]at qa;refine cG qa λt w=>?_;clear qa;subst w;refine Op.look λA s Q hr I hq=> ?_;refine lN (qb.isTup I) λla vs n v=>?_;subst v;intro hl ks;refine fq (fF ks) λv1 v2 u=>?_;subst u;intro q1 q2;dsimp only [aw]at q1 q2;refine cG q1 λt1 z=>?_;clear q1;subst z;refine cG q2 λt2 q=>?_;clear q2;subst q;exact KPt.bin_left (T:="str") (U:="tuple") (op:= .Mod) (by decide) (pX s X t) ⟨_,hl,rfl⟩ F.fills_str_mod KPt.fills_tuple F.slot_str_mod
  (pS F.slot_str_mod (pX s X t) F.entry_str_mod (F.args_str_mod_2 _ _) (hm t t1 t2 la) ⟨⟨_,hl,rfl,n,rfl⟩,λt' k=>⟨(λe=>nomatch e),hq _ _ bN⟩⟩)
theorem A5 (hx:B x a) (hy:B y b) (ha:decide (a<=1000000)=true) (hb:decide (b<=1000000)=true):di C k Z (binaryOp .Mod) (.str (PySem.Str.ofString "%s: %s")) (.tup [.str x,.str y]) (λW r=>aw W (.str (x++PySem.Str.ofString ": "++y)) r) Z:=
 Lj (by decide+kernel) λt t1 t2 b=>t4 x y t t1 t2 b (bU hx (jB ha)) (bU hy (jB hb))
end
end V
end
section
namespace V
section
variable {C:Cx} {k:Nat} {sc:Scope} {A:Around} {W:Wd} {env:Env} {ms ai aZ b6 aK:List (Option AV)} {Z ae aN bX aB:St} {s:Shared}
theorem rY (O:C.Ok) (hK:C.K.lookup da=some {cls:= .type "tuple",data:= .seq items n})
  (h: ∀df:List Value,df.length=as.length-> ∃G,bindArgs fd ⟨df,[]⟩=(seqItems? (.ref da)>>=G)/\G (some items)=pure ((bs.map (·.1)).zip (df++dv))) (hb:bs.map (·.2)=as++Mw) (hd: ∀W,aU W Mw dv):Bd C k fd Z as [] bs Z:=by
 intro W df fp ha hk;subst hk;refine Op.look λA s Q hr I hq=>c12 (h df ha.length) λG e1 e2=>?_;rw [e1];refine aj (uU (I.ext O hK) rfl ?_);rw [e2];exact aQ (hq _ s.toks (ja (by rw [hb];exact ha.append (hd W))))
theorem kc (h:B x n):B (Txt.replace x y z) (n+(n+1) * z.length):=by
 delta B at *;delta Txt.replace;split
 ·omega
 ·have h1:=F1 x y 0 x.length (x.length+1);have hy:(Builtin.Str.glued y (Builtin.Str.partsBetween x (Builtin.Str.occurrences x y 0 x.length (x.length+1)) y.length)).length=x.length:=by rw [StrLaws.glued_between_self]
  rw [size_glued,PySem.length_partsBetween,Nat.add_sub_cancel]at hy;rw [size_glued,PySem.length_partsBetween,Nat.add_sub_cancel];have h2:(Builtin.Str.occurrences x y 0 x.length (x.length+1)).length * z.length<=(x.length+1) * z.length:=Nat.mul_le_mul_right _ h1;have h3:(x.length+1) * z.length<=(n+1) * z.length:=Nat.mul_le_mul_right _ (by omega);omega
theorem xY (h1:Ev C k sc ms Z e (.str x) ai ae) (hx:B x n) (hn:decide (n<=16777216)=true):Ev C k sc ms Z (.FormattedValue e 115 none pos) (.str x) ai ae:=by intro A W env s hr H;refine wpAny_FormattedValue_s (bf (h1 A W env s hr H) λaR r aI aA aO q=> ?_);refine fh q λt=>eT (SB.convS_str (λt' k' l=> ?_) (kG hx hn));have aG:=aO.tok k' l;refine eT (SB.field_str (λt'' O6 O7=> ?_) (kG hx hn));exact bz aA (aG.tok O6 O7) bN
noncomputable def Jn (C:Cx) (k:Nat) (sc:Scope) (ms:List (Option AV)) (Z:St) (es:List Expr) (acc out:Str) (aK:List (Option AV)) (aB:St):Prop:=
 ∀A W env s (Q:Str->Shared->Prop),bY C A k->At C sc A W env ms Z s->(∀W' s',W.le W'->At C sc A W' env aK aB s'->Q out s')->Joins C.M A No (evalEach es env) acc Q s
theorem Hs:Jn C k sc ms Z [] acc acc ms Z:=λA W env s Q hr H hq=>Joins_nil (hq W s (.refl W) H)
theorem nE (h1:Ev C k sc ms Z e (.str y) ai ae) (hb:B (acc++y) n) (hn:decide (n<=16777216)=true) (h2:Jn C k sc ai ae es (acc++y) out aK aB):Jn C k sc ms Z (e::es) acc out aK aB:=by intro A W env s Q hr H hq;refine Joins_cons (bf (h1 A W env s hr H) λaR r aI aA aO q=> ?_);refine fh q λt=>jE y t rfl (kG hb hn) (h2 A aR env aI Q hr aO λW' s' le H'=>hq W' s' (aA.trans le) H')
theorem Ao (h:Jn C k sc ms Z (e1::e2::es) Str.empty out aK aB) (hb:B out n) (hn:decide (n<=16777216)=true):Ev C k sc ms Z (.JoinedStr (e1::e2::es) pos) (.str out) aK aB:=by intro A W env s hr H;refine wpAny_JoinedStr (h A W env s _ hr H λW' s' le H'=>⟨kG hb hn,?_⟩);exact bz le (H'.tok (s'.toks+1)) bN
theorem wB:Str.empty++x=x:=Str.append_left_empty (by rfl)
noncomputable def rowsOf (P:Params):List Str->List (Tok×Value)->List DictEntry
 | k::ks,x::xs=>⟨PyData.keyHash P k,.str k x.1,x.2⟩::rowsOf P ks xs
 | _,_=> []
theorem gk.rows: ∀{es:List (Str×AV)} {ds:List DictEntry},gk C W es ds-> ∃xs:List (Tok×Value),xs.length=es.length/\ds=rowsOf C.w.params (es.map (·.1)) xs/\aU W (es.map (·.2)) (xs.map (·.2)):=by
 intro aH;induction aH with
 | nil=>
  intro u q;exact by dsimp only [gk]at q;subst q;exact tZ ([]) rfl rfl (.nil)
 | cons dQ r ih=>intro u q;obtain⟨k,x⟩:=dQ;refine Ep q λt v ds' a b=>?_;refine fJ (ih b) λxs h1 z=>?_;subst z;intro h3;exact tZ ((t,v)::xs) (by simp [h1]) rfl (.cons a h3)
theorem ye: ∀{es:List (Str×AV)} {xs:List (Tok×Value)},aU W (es.map (·.2)) (xs.map (·.2))->gk C W es (rowsOf C.w.params (es.map (·.1)) xs)
 | [],[],_=>rfl
 | [],_::_,q=>by skip;exact GH q
 | (k,x)::r,[],q=>by rw [dj]at q;refine v8 q λv r e _=>?_;clear q;exact H5 e
 | (k,x)::r,(t,v)::xs,q=>by rw [dj,dj]at q;refine fq q λv' r' e a b=>?_;clear q;cases e;exact zD t v _ rfl a (ye b)
noncomputable def tabOf (P:Params) (ks:List Str) (xs:List (Tok×Value)) (n:Nat):Obj:={cls:= .type "dict",data:= .dict (rowsOf P ks xs).toArray n}
theorem Inv.inst (I:Inv C W Z s) (hl:Z l=some (.inst c d)) (hd:Z d=some (.dict es)) (q:aw W (.loc l) rv):
  ∃x dx xs n,rv= .ref x/\W.ρ d=some dx/\InstAt s.heap x (instObj c dx) c (some (tabOf C.w.params (es.map (·.1)) xs n))/\s.heap.get? dx=some (tabOf C.w.params (es.map (·.1)) xs n)/\xs.length=es.length/\aU W (es.map (·.2)) (xs.map (·.2)):=by
 refine uh q λx e=>?_;obtain⟨ob,h1,dx,hdx,rfl⟩:=I.obj l x _ e hl;obtain⟨od,h2,ds,n,rfl,hr⟩:=I.obj d dx _ hdx hd;refine fJ hr.rows λxs e1 z=>?_;subst z;intro e3;exact⟨x,dx,xs,n,rfl,hdx,⟨h1,rfl,rfl,h2⟩,h2,e1,e3⟩
theorem fb (O:C.Ok) (I:Inv C W Z s):C.K.In s.heap:=λa o h=>I.kept _ _ (O.tQ _ _ h)
theorem qC (q:aw W v r) (hv: ∀id,v≠ .bi id) (ha:v≠ .any):handedIn r=true:=by
 cases v with
 | none=>subst q;rfl
 | any=>exact absurd rfl ha
 | bool b=>subst q;rfl
 | int i=>refine fh q λt=>?_;rfl
 | str i=>refine fh q λt=>?_;rfl
 | bytes i=>refine fh q λt=>?_;rfl
 | ty n=>subst q;rfl
 | bi n=>exact absurd rfl (hv n)
 | ext a=>subst q;rfl
 | loc l=>refine uh q λt _=>?_;rfl
 | mw id l=>refine lN q λa b o _ m=>?_;clear q;subst m;intro g;rfl
 | bm id l=>refine lN q λa b o _ y=>?_;clear q;subst y;intro g;rfl
 | AB a b c=>refine Oz q λb o vx vy vz w=>?_;clear q;subst w;intro g;rfl
 | fld n xs=>obtain⟨_,b,o,vs,rfl,_⟩:=q;rfl
 | tup xs=>refine Mn q λa o vs n u=>?_;clear q;subst u;intro g;rfl
 | lst xs=>refine Mn q λa o vs n z=>?_;clear q;subst z;intro g;rfl
theorem lJ (O:C.Ok) {l d:Loc} {c:Addr} {es:List (Str×AV)} {name:Str} {v:AV} {i:Nat} (hl:Z l=some (.inst c d)) (hd:Z d=some (.dict es)) (hga:findIn C.K (.ref c) "__getattribute__"=some (some (.builtin "object.__getattribute__")))
  (hi:(es.map (·.2))[i]? =some v) (hf: ∀(xs:List (Tok×Value)) (n:Nat) (r:Value),xs.length=es.length->(xs.map (·.2))[i]? =some r->findObj C.K c (some (tabOf C.w.params (es.map (·.1)) xs n)) name=some (.value r)) (hv: ∀id,v≠ .bi id) (ha:v≠ .any):
  ie C k Z (λx=>getAttr x name true) (.loc l) (λW r=>aw W v r) Z:=by
 intro W ra q;refine Op.look λA s Q hr I hq=> ?_;refine Ke (I.inst hl hd q) λx dx xs n hdx IA _ u=>?_;refine bI u λhlen hvs=>?_;refine c12 (hvs.get hi) λr hr' qr=>get_value (fb O I) IA hga (hf xs n r hlen hr') (qC qr hv ha) (hq _ _ qr)
theorem qK (O:C.Ok) (hl:Z l=some (.inst c d)) (hd:Z d=some (.dict es)) (hga:findIn C.K (.ref c) "__getattribute__"=some (some (.builtin "object.__getattribute__"))) (hk:findIn C.K (.ref c) "__getattr__"=some none)
  (hf:findIn C.K (.ref c) name=some (some (.ref f))) (ht:typeIn C.K (.ref f)=some (.type "function")) (hs: ∀(xs:List (Tok×Value)) (n:Nat),xs.length=es.length->shadowIn (some (tabOf C.w.params (es.map (·.1)) xs n)) name=some false):Mt C k Z (.loc l) name (.ext f):=by
 intro W ro pl q;refine Op.look λA s Q hr I hq=> ?_;refine xr (I.inst hl hd q) λx dx xs n z=>?_;subst z;intro hdx IA v u;refine bI u λhlen hvs=>?_;exact method_fn (fb O I) IA hga hk hf ht (hs xs n hlen) (hq _ _ ⟨rfl,rfl⟩)
end
end V
end
section
namespace V
section
variable {prog:Program} {w:World} {A:Around} {E:Value->Shared->Prop} {s:Shared} {K:Frag} {R:Result->Shared->Prop}
set_option tactic.hygienic true in
theorem BQ {x c dx:Addr} {od od':Obj} {name:Str} {tk:Tok} {v:Value} {es:List DictEntry} {n:Nat} (X:K.In s.heap) (I:InstAt s.heap x (instObj c dx) c (some od)) (D:s.heap.get? dx=some od)
  (hp:plainOver K c=true) (ht:takerIn K c name=some none) (hh:(clsIn K c).any (·.hasDict)=true) (hl:(lookIn name od).isSome=true)
  (e:Obj.putName name (PyData.keyHash w.params name) (.str name s.toks) v od=od') (e':od'.data= .dict es.toArray n) (hz:es.length<=1000) (hf:od'.isFreed=false)
  (h:R (.ok (.ret .none)) {s with heap:=s.heap.update dx (Obj.putName name (PyData.keyHash w.params name) (.str name s.toks) v),toks:=s.toks+1}):
  codeAny (model prog w) A (.call (.builtin "object.__setattr__") ⟨[.ref x,.str name tk,v],[]⟩) R s:=by
 refine osa_open X I hp ht λb=> ?_;obtain⟨cd,hc⟩: ∃cd,clsIn K c=some cd:=by
  cases q:clsIn K c with
  | none=>rw [q]at hh;exact tK hh
  | some cd=>exact⟨cd,rfl⟩
 have hd':cd.hasDict=true:=by rw [hc]at hh;exact hh
 have hx:=I.at_;have D':(s.heap.update dx (Obj.putName name (PyData.keyHash w.params name) (.str name s.toks) v)).get? dx=some od':=e▸jt _ D (e▸hf);refine aj (aQ (aj (aj (wpAny_loadPart hx (aj ((looks_clsIn X hc).here ?_))))));rw [hd'];refine aQ (a:=some dx) (aj (aQ (aj ?_)));refine aj (aj (wpAny_askSetting (aQ (aj (wpAny_mkText (aj (wpAny_loadPart D ?_)))))));delta lookIn at hl;split at hl
 ·rename_i G5 Gl q;rw [q];dsimp only;have c0:(!G5.any (·.key.isStr name) && G5.any (·.refKey))=false:=by
   rw [<-Array.any_toList,<-Array.any_toList];split at hl
   ·rename_i en he;rw [zQ.mpr ⟨en,List.mem_of_find?_eq_some he,List.find?_some he⟩];rfl
   ·split at hl
    ·exact tK hl
    ·rename_i z;rw [Bool.not_eq_true]at z;rw [z,Bool.and_false]
  rw [aRefKeyMayBeTheName_at,c0];refine wpAny_updatePart D ?_;refine aj (wpAny_lookBehind D' (by rw [e'];exact pastItsLine_dict (by rw [AL,jf];omega)) ?_);exact aQ h
 ·exact tK hl
end
section
variable {C:Cx} {k:Nat} {W:Wd} {Z aB:St}
theorem xm (O:C.Ok) {l d:Loc} {c:Addr} {es es':List (Str×AV)} {name:Str} {v:AV} (hl:Z l=some (.inst c d)) (hd:Z d=some (.dict es)) (hs:findIn C.K (.ref c) "__setattr__"=some (some (.builtin "object.__setattr__")))
  (hp:plainOver C.K c=true) (ht:takerIn C.K c name=some none) (hh:(clsIn C.K c).any (·.hasDict)=true) (hz:es'.length<=1000)
  (hlook: ∀(xs:List (Tok×Value)) (n:Nat),xs.length=es.length->(lookIn name (tabOf C.w.params (es.map (·.1)) xs n)).isSome=true)
  (Nn: ∀(W:Wd) (xs:List (Tok×Value)) (n:Nat) (tk:Tok) (r:Value),xs.length=es.length->aU W (es.map (·.2)) (xs.map (·.2))->aw W v r->
   ∃xs' n',Obj.putName name (PyData.keyHash C.w.params name) (.str name tk) r (tabOf C.w.params (es.map (·.1)) xs n)=tabOf C.w.params (es'.map (·.1)) xs' n'/\xs'.length=es'.length/\aU W (es'.map (·.2)) (xs'.map (·.2))):
  di C k Z (λx y=>setAttr x name y) (.loc l) v (λg m=>True) (Z.set d (.dict es')):=by
 intro W ra rb q qv A s outer hr hA hS I;refine Ke (I.inst hl hd q) λx dx xs n hdx IA hdo u=>?_;refine bI u λhlen hvs=>?_;refine fq (Nn W xs n (s.toks+1) rb hlen hvs qv) λxs' n' ep el ev=>?_;have len: ∀{ks:List Str} {xs:List (Tok×Value)},(rowsOf C.w.params ks xs).length<=ks.length:=by
  intro ks
  induction ks with
  | nil=>intro xs;exact bT _
  | cons k ks ih=>
   intro xs;cases xs with
   | nil=>exact dW _
   | cons x xs=>exact Nat.succ_le_succ ih
 refine set_plain (fb O I) IA hs ?_;refine BQ (s:={s with toks:=s.toks+1}) (show C.K.In s.heap from fb O I) IA hdo hp ht hh (hlook xs n hlen) ep (es:=rowsOf C.w.params (es'.map (·.1)) xs') (n:=n') rfl (bU len (by rw [bw];exact hz)) rfl ?_;refine⟨W,.refl W,I.upd (t:=s.toks+1+1) (d:=s.drawn) hdx (ez _ _ _) (jt _ hdo (by rw [ep];rfl)) ⟨_,n',ep,ye ev⟩ (by omega),trivial⟩
end
end V
end
section
namespace V
open Builtin Builtin.Str
noncomputable def gO (es:List (Str×AV)) (k:Str):Option AV:=(es.find? λe=>decide (e.1=k)).map (·.2)
noncomputable def dput (es:List (Str×AV)) (k:Str) (v:AV):List (Str×AV):=
 if es.any (λe=>decide (e.1=k))then es.map (λe=>if e.1=k then(e.1,v)else e)else es++ [(k,v)]
noncomputable def AJ (es:List (Str×AV)) (k:Str):List (Str×AV):=es.filter λe=>decide (e.1≠k)
noncomputable def DN (es:List (Str×AV)):Prop:=(es.map (·.1)).Nodup
section
variable {C:Cx} {k:Nat} {sc:Scope} {A:Around} {W:Wd} {env:Env} {ms ai aZ b6 aK:List (Option AV)} {Z ae aN bX aB:St} {s:Shared}
noncomputable abbrev sk (C:Cx):=PySem.strKind C.prog C.w
theorem bC.keys: ∀{es:List (Str×AV)} {kvs:List (Str×Value)},bC W es kvs->kvs.map (·.1)=es.map (·.1):=by
 intro aH;induction aH with
 | nil=>
  intro u h;exact by subst h;rfl
 | cons dQ r ih=>intro u h;obtain⟨n,x⟩:=dQ;refine gB h λv ks _ h=>?_;simp [ih h]
theorem bC.length (h:bC W es kvs):kvs.length=es.length:=by have:=dY List.length h.keys;simpa using this
theorem bC.find: ∀{es:List (Str×AV)} {kvs:List (Str×Value)},bC W es kvs->(gO es key=none/\valueAt kvs key=none)\/ ∃x v,gO es key=some x/\valueAt kvs key=some v/\aw W x v:=by
 intro aH;induction aH with
 | nil=>
  intro u h;exact by subst h;exact .inl ⟨rfl,rfl⟩
 | cons dQ r ih=>
  intro u h;obtain⟨n,x⟩:=dQ;refine gB h λv ks q h=>?_;unfold gO valueAt;by_cases e:n=key
  ·refine .inr ⟨x,v,?_,?_,q⟩<;>simp [e]
  ·have:=ih h;unfold gO valueAt at this;simpa [e]using this
theorem bC.any: ∀{es:List (Str×AV)} {kvs:List (Str×Value)},bC W es kvs->kvs.any (λkv=>decide (kv.1=key))=es.any (λe=>decide (e.1=key)):=by
 intro aH;induction aH with
 | nil=>
  intro u h;exact by subst h;rfl
 | cons dQ r ih=>intro u h;obtain⟨n,x⟩:=dQ;refine gB h λv ks q h=>?_;simp only [List.any_cons];rw [ih h]
theorem bC.Ij (q:aw W x v): ∀{es:List (Str×AV)} {kvs:List (Str×Value)},bC W es kvs->bC W (es.map λe=>if e.1=key then(e.1,x)else e) (kvs.map λkv=>if kv.1=key then(kv.1,v)else kv):=by
 intro aH;induction aH with
 | nil=>
  intro w h;exact by subst h;rfl
 | cons dQ r ih=>
  intro w h;obtain⟨n,y⟩:=dQ;refine gB h λu ks q' h=>?_;by_cases e:n=key
  ·simp only [dj,e,if_true];exact jE v _ rfl q (ih h)
  ·simp only [dj,e,jh];exact jE u _ rfl q' (ih h)
theorem bC.app (q:aw W x v): ∀{es:List (Str×AV)} {kvs:List (Str×Value)},bC W es kvs->bC W (es++ [(key,x)]) (kvs++ [(key,v)]):=by
 intro aH;induction aH with
 | nil=>
  intro w h;exact by subst h;exact jE v ([]) rfl q rfl
 | cons dQ r ih=>intro w h;obtain⟨n,y⟩:=dQ;refine gB h λu ks q' h=>jE u _ rfl q' (ih h)
theorem bC.put (h:bC W es kvs) (q:aw W x v):bC W (dput es key x) (stored kvs key v):=by
 delta dput stored;rw [h.any];split
 ·exact h.Ij q
 ·exact h.app q
theorem bC.del: ∀{es:List (Str×AV)} {kvs:List (Str×Value)},bC W es kvs->bC W (AJ es key) (without kvs key):=by
 intro aH;induction aH with
 | nil=>
  intro v h;exact by subst h;rfl
 | cons dQ r ih=>
  intro v h;obtain⟨n,y⟩:=dQ;refine gB h λu ks q' h=>?_;have ih:=ih h;unfold AJ without at ih⊢;by_cases e:n=key
  ·simpa [e]using ih
  ·simp only [pY,e,ne_eq,not_false_eq_true,decide_true,if_true];exact jE u _ rfl q' ih
theorem BY {es:List (Str×AV)} {n:Nat} {a:Addr} {ob:Obj} {h:Heap} (hn:DN es) (q:fj C W (.map es n) ob) (g:h.get? a=some ob): ∃kvs,h.DictAt (sk C) a kvs n/\bC W es kvs:=by
 refine c12 q λds w=>?_;clear q;subst w;intro r;have key: ∀{es:List (Str×AV)} {ds:List DictEntry},gk C W es ds-> ∃kvs,bC W es kvs/\Pairs (sk C) ds kvs/\ ∀e∈ds,∃k,(sk C).is k e.key=true/\e.hash=(sk C).hash k:=by
  intro es
  induction es with
  | nil=>intro ds r;dsimp only [gk]at r;subst r;exact tZ ([]) rfl (.nil) λe he=>by exact je he
  | cons p es ih=>
   intro ds r;obtain⟨n,x⟩:=p;refine lN r λt v ds' u=>?_;clear r;subst u;intro a b;refine fJ (ih b) λkvs k1 k2 k3=>?_;have hs:(sk C).is n (.str n t)=true:=nW _ _ _ _;refine tZ ((n,v)::kvs) ⟨v,kvs,rfl,a,k1⟩ (.cons hs rfl k2) λe he=>aP (cM.mp he) (λz=>?_) λhe=>?_
   ·subst z;exact i12 n hs rfl
   ·exact k3 e he
 refine fJ (key r) λkvs k1 k2 k3=>?_;refine i12 kvs ⟨_,ds.toArray,g,⟨rfl,rfl,rfl⟩,rfl,λe he=>k3 e (by simpa using he),by simpa using k2,by rw [k1.keys];exact hn⟩ k1
theorem EN {es:List (Str×AV)} {a:Addr} {ob:Obj} {h:Heap} (hn:DN es) (q:fj C W (.dict es) ob) (g:h.get? a=some ob): ∃kvs,h.DictOf (sk C) a kvs/\bC W es kvs:=by refine v8 q λds n e r=>c12 (BY (n:=n) hn ⟨ds,e,r⟩ g) λkvs k1 k2=>i12 kvs k1.dictOf k2
noncomputable def qB (Z:St) (l:Loc) (es:List (Str×AV)):Prop:=Z l=some (.dict es)\/ ∃n,Z l=some (.map es n)
theorem qB.obj (h:qB Z l es) (I:Inv C W Z s) (e:W.ρ l=some a): ∃ob,s.heap.get? a=some ob/\fj C W (.dict es) ob:=by
 refine aP h (λh=>?_) λq=>cG q λn h=>?_
 ·exact I.obj l a _ e h
 ·obtain⟨ob,h1,ds,h2,h3⟩:=I.obj l a _ e h;exact⟨ob,h1,ds,n,h2,h3⟩
theorem yc {es:List (Str×AV)} {a:Addr} {kvs:List (Str×Value)} {h:Heap} (hd:h.DictOf (sk C) a kvs) (q:bC W es kvs): ∃ob,h.get? a=some ob/\fj C W (.dict es) ob:=by
 refine NW hd λo ds ep g u e4 k3 k2 _=>nM u λe1 e2 e3=>?_;clear hd;obtain⟨oc,od,dt,sl⟩:=o;simp only at e1 e2 e3 e4;subst e1 e2 e3 e4;refine⟨_,g,ds.toList,ep,by simp,?_⟩;have key: ∀{es:List (Str×AV)} {kvs:List (Str×Value)} {ds:List DictEntry},bC W es kvs->Pairs (sk C) ds kvs->(∀e∈ds,∃k,(sk C).is k e.key=true/\e.hash=(sk C).hash k)->gk C W es ds:=by
  intro es
  induction es with
  | nil=>intro kvs ds q p w;subst q;cases p;rfl
  | cons p es ih=>
   intro kvs ds q pp hk;obtain⟨n,x⟩:=p;refine fq q λv ks z=>?_;clear q;subst z;intro qv q;cases pp with
   | @cons e _ ds _ h1 h2 h3=>refine c12 (hk e (.head _)) λk' i1 i2=>?_;have ek:k'=n:=(sk C).inj _ _ _ i1 h1;subst ek;refine cG (xy h1) λt ht=>?_;obtain⟨eh,ekk,ev⟩:=e;simp only at ht i2 h2;subst ht i2 h2;exact⟨t,_,ds,rfl,qv,ih q h3 λe he=>hk e (.tail _ he)⟩
 exact key q k2 λe he=>k3 e (by simpa using he)
theorem Inv.Dq (I:Inv C W Z s) (e:W.ρ l=some a):(a==sysModules)=false:=by
 have:=I.high.2 l a e;have h:a≠sysModules:=λz=>by rw [z]at this;exact absurd this (by decide)
 simpa using h
theorem Inv.dict (I:Inv C W Z s) (h:qB Z l es) (hn:DN es) (q:aw W (.loc l) rv):
  ∃a kvs,rv= .ref a/\W.ρ l=some a/\(a==sysModules)=false/\s.heap.DictOf (sk C) a kvs/\bC W es kvs:=by
 refine uh q λa e=>c12 (h.obj I e) λob h1 h2=>c12 (EN hn h2 h1) λkvs k1 k2=>MJ a kvs rfl e (I.Dq e) k1 k2
theorem Inv.wW (I:Inv C W Z s) (e:W.ρ l=some a) (hd:h'.DictOf (sk C) a kvs) (q:bC W es kvs) (hs:Heap.SameBut a s.heap h') (ht:s.toks<=t):Inv C W (Z.set l (.dict es)) {s with heap:=h',toks:=t}:=by refine c12 (yc hd q) λob h1 h2=>?_;exact I.upd (d:=s.drawn) e (λb o n z=>by rw [hs.2 b n];exact z) h1 h2 ht
theorem D0 (h:qB Z l es) (hn:DN es) (hx:gO es key=some x):di C k Z getItem (.loc l) (.str key) (λW r=>aw W x r) Z:=by
 intro W ra rb qa qb;refine fh qb λt=>Op.look λA s Q hr I hq=>Bj (I.dict h hn qa) λa kvs e ns hd hk=>aP (hk.find (key:=key)) (λu=>bI u λz _=>?_) λq=>fq q λy v z1 z2 z3=>?_
 ·rw [z]at hx;exact dF hx
 ·rw [z1]at hx;cases hx;exact wpAny_getItem_of (knd:=sk C) (k:=key) (nW _ _ _ _) hd.mapOf z2 (hq _ _ z3)
theorem D1 (h:qB Z l es) (hn:DN es) (hz:es.length<=sizeLine):K9 C k Z setItem (.loc l) (.str key) x (λu v=>True) (Z.set l (.dict (dput es key x))):=by intro W ra rb rc qa qb qc A s outer hr hA hS I;refine fh qb λt=>Bj (I.dict h hn qa) λa kvs e ns hd hk=>?_;exact wpAny_setItem_pairs (knd:=sk C) (k:=key) (nW _ _ _ _) hd (λh' hd' hs=>⟨W,.refl W,I.wW e hd' (hk.put qc) hs (jm _),trivial⟩) (by rw [hk.length];exact hz)
theorem J4 (h:qB Z l es) (hn:DN es) (hc:(gO es key).isSome=c):di C k Z (compareOp .In) (.str key) (.loc l) (λW r=>aw W (.bool c) r) Z:=by
 intro W ra rb qa qb;refine fh qa λt=>Op.look λA s Q hr I hq=>Bj (I.dict h hn qb) λa kvs e ns hd hk=>wpAny_in_of (knd:=sk C) (k:=key) (nW _ _ _ _) ns hd.mapOf (hq _ _ ?_);refine aP (hk.find (key:=key)) (λu=>bI u λz z'=>?_) λq=>fq q λy v z1 z2 z3=>?_
 ·rw [<-hc,z,z'];rfl
 ·rw [<-hc,z1,z2];rfl
theorem KL (h:qB Z l es) (hn:DN es) (hz:es.length<=sizeLine) (hx:(gO es key).isSome=true):di C k Z delItem (.loc l) (.str key) (λw g=>True) (Z.set l (.dict (AJ es key))):=by
 intro W ra rb qa qb A s outer hr hA hS I;refine fh qb λt=>Bj (I.dict h hn qa) λa kvs e ns hd hk=>?_;have hv:(valueAt kvs key).isSome=true:=by
  refine aP (hk.find (key:=key)) (λu=>bI u λz z'=>?_) λq=>fq q λy v z1 z2 z3=>?_
  ·rw [z]at hx;exact tK hx
  ·rw [z2];rfl
 delta delItem
 try with_reducible refine cE ?_
 refine aj (wpAny_sequenceKey hd.typeIs (by decide) ?_);refine aj (FU (name:=Str.ofString "__delitem__") hd.typeIs PySem.F.slot_dict_delitem
  (call_meetsIn PySem.F.slot_dict_delitem hd.typeIs PySem.F.entry_dict_delitem (PySem.F.args_dict_delitem_2 _ _) (meets_dict_delitem_pairs (sk C) (k:=key) a (nW _ _ _ _)) ⟨kvs,hd,(by rw [hk.length];exact hz),hv,λh' hd' hs=> ?_⟩))
 exact aQ ⟨W,.refl W,I.wW e hd' hk.del hs (jm _),trivial⟩
theorem ti {es:List (Str×AV)} {id:String} (h:qB Z l es) (hg: ∀(A:Around) (s:Shared) (a:Addr) (pl:Sem Bool) (Q:Value×List Value->Shared->Prop) (kvs:List (Str×Value)),(s.TypeIs (.ref a) "dict"/\ ∀b,Value.ref a= .ref b-> ∃ob,s.heap.get? b=some ob/\ob.dict=none)->Q (.builtin id,[.ref a]) s->wpAny C.M A (getMethod (.ref a) name pl) Q No s):Mt C k Z (.loc l) name (.bi id):=by intro W ro pl q;refine Op.look λA s Q hr I hq=> ?_;refine c12 q λa e u=>?_;clear q;subst u;obtain⟨ob,h1,ds,n,rfl,h2⟩:=h.obj I e;exact hg A s a pl _ [] ⟨⟨_,h1,rfl⟩,λb z=>by cases z;exact i12 _ h1 rfl⟩ (hq (.builtin id,[.ref a]) s.toks ⟨rfl,rfl⟩)
theorem wu (h:qB Z l es):Mt C k Z (.loc l) "get" (.bi "dict.get"):=
 ti h λA s a pl Q kvs hh hq=>s6 hh.1 F.plainAttrs_dict F.slot_dict_get F.type_dict_get hh.2 hq
theorem B3 (h:qB Z l es):Mt C k Z (.loc l) "items" (.bi "dict.items"):=
 ti h λA s a pl Q kvs hh hq=>s6 hh.1 F.plainAttrs_dict F.slot_dict_items F.type_dict_items hh.2 hq
theorem qO (h:qB Z l es):Mt C k Z (.loc l) "values" (.bi "dict.values"):=
 ti h λA s a pl Q kvs hh hq=>s6 hh.1 F.plainAttrs_dict F.slot_dict_values F.type_dict_values hh.2 hq
theorem xp (h:qB Z l es) (hn:DN es) (hx:(gO es key).getD .none=x):Ca C k Z (.bi "dict.get") [.loc l,.str key] [] x Z:=by
 refine oj λW r1 r2 qa qb=>fh qb λt=>Op.look λA s Q hr I hq=>Bj (I.dict h hn qa) λa kvs e ns hd hk=>call_meetsIn F.slot_dict_get hd.typeIs F.entry_dict_get (F.args_dict_get_2 _ _) (meets_dict_get (sk C) (k:=key) a (nW _ _ _ _) ns) ⟨_,hd.mapOf,?_⟩;refine hq _ _ ?_;refine aP (hk.find (key:=key)) (λu=>bI u λz z'=>?_) λq=>fq q λy v z1 z2 z3=>?_
 ·rw [z]at hx;rw [z',<-hx];exact c5
 ·rw [z1]at hx;rw [z2,<-hx];exact z3
theorem Inv.map (I:Inv C W Z s) (h:Z l=some (.map es n)) (hn:DN es) (q:aw W (.loc l) rv):
  ∃a kvs,rv= .ref a/\W.ρ l=some a/\(a==sysModules)=false/\s.heap.DictAt (sk C) a kvs n/\bC W es kvs:=by
 refine uh q λa e=>c12 (I.obj l a _ e h) λob h1 h2=>c12 (BY hn h2 h1) λkvs k1 k2=>MJ a kvs rfl e (I.Dq e) k1 k2
theorem bC.get (h:bC W es kvs): ∀{i:Nat} {key:Str} {x:AV},es[i]? =some (key,x)-> ∃v,kvs[i]? =some (key,v)/\aw W x v:=by
 induction es generalizing kvs with
 | nil=>intro i key x e;simp at e
 | cons p r ih=>
  intro i key x e;obtain⟨n,y⟩:=p;refine gB h λv ks q h=>?_;cases i with
  | zero=>simp at e;refine bI e λw=>?_;subst w;intro t;subst t;exact i12 v (by simp) q
  | succ i=>simp at e;refine c12 (ih h e) λu hu z=>?_;exact i12 u (by simpa using hu) z
theorem Inv.count (I:Inv C W Z s) (h:Z l=some (.dict es)): ∃n,Inv C W (Z.set l (.map es n)) s:=by obtain⟨a,ob,e,h1,ds,n,h2,h3⟩:=I.at h;refine⟨n,?_⟩;have:=I.upd (h:=s.heap) (t:=s.toks) (d:=s.drawn) (o':= .map es n) e (λu v w z=>z) h1 ⟨ds,h2,h3⟩;exact this
theorem Inv.EZ (I:Inv C W Z s) (h:Z l=some (.map es n)):Inv C W (Z.set l (.dict es)) s:=by obtain⟨a,ob,e,h1,ds,h2,h3⟩:=I.at h;have:=I.upd (h:=s.heap) (t:=s.toks) (d:=s.drawn) (o':= .dict es) e (λu v w z=>z) h1 ⟨ds,n,h2,h3⟩;exact this
theorem lS {α:Type} {t:Env->Sem α} {R:Wd->α->Prop} (h:Z l=some (.dict es)) (Np:aB l=some (.dict es))
  (g: ∀n,Tr C k sc ms (Z.set l (.map es n)) t R aK (aB.set l (.map es n))):Tr C k sc ms Z t R aK aB:=by
 intro A W env s hr H;refine cG (H.inv.count h) λn I=>bH (g n A W env s hr ⟨I,H.fr⟩) (λr s' ⟨W',le,H',q⟩=>⟨W',le,⟨?_,H'.fr⟩,q⟩) λ_ _ x=>x;have z:=H'.inv.EZ (l:=l) (n:=n) (es:=es) (by delta St.set;simp);have e:(aB.set l (.map es n)).set l (.dict es)=aB:=by
  funext x;delta St.set;split
  ·rename_i z;rw [z,Np]
  ·rfl
 rw [e]at z;exact z
noncomputable def NR (l:Loc) (n m:Nat) (i:Nat) (rs:Value) (ob:Obj):Prop:= ∃a,rs= .ref a/\ob.cls= .type "dict_keyiterator"/\ob.data= .fields #[.ref a,.int i 0,.int m 0,.int n 0]
theorem zh (hn:DN es) (h0:C.hx=none:=by assumption):r6 C k (λZ=>Z l=some (.map es n)) (.loc l) (es.map λp=> .str p.1) (.loc l) (NR l n es.length) where
 jk:=λi rv ob q2=>(by refine fJ q2 λla _ c _=>?_;clear q2;exact⟨λn z=>by rw [c]at z;cases z;decide,by rw [c];decide⟩)
 start:=λW Z rv A s outer ok hr hA hS I q=>by refine v5 (I.map ok hn q) λa kvs j=>?_;subst j;intro e ns hd hk;exact wpAny_pyIter_dict ns hd ⟨W,s.heap.objs.size,_,.ref a,.refl W,I.same (a9 _ _),rfl,dZ _ rfl,I.cz,q,⟨a,rfl,rfl,by rw [hk.length];rfl⟩⟩
 self:=λi rs ob it A s E Q g h hq=>by refine fJ h λla m=>?_;clear h;subst m;intro c d;exact wpAny_pyIter_keyiter (i:=i) (n:=es.length) (ep:=n) ⟨ob,g,c,d⟩ hq
 next:=λi x W Z rs ob it A s outer hx ok hr hA hS I g hf q h=>by
  refine v5 (I.map ok hn q) λa kvs r=>?_;subst r;intro e ns hd hk;refine fJ h λa' ea c d=>?_;clear h;cases ea;rw [gr]at hx;cases hes:es[i]? with
  | none=>rw [hes]at hx;exact dF hx
  | some p=>obtain⟨key,y⟩:=p;rw [hes]at hx;cases hx;refine c12 (hk.get hes) λv hv qv=>wpAny_pyNext_dict_item (i:=i) ⟨ob,g,c,by rw [d,hk.length]⟩ hd hv λkv h' hkv hi' hs'=> ?_;refine fJ hi' λob' g' c' d'=>?_;clear hi';refine cG (xy hkv) λt w=>?_;subst w;exact⟨W,_,ob',.refl W,I.but hf.1 hf.2 (λb o nb e=>(hs'.2 b nb).trans e),rfl,bN,g',hf,⟨a,rfl,c',by rw [d',hk.length]⟩⟩
 stop:=λW Z rs ob it A s outer ok hr hA hS I g hf q h=>by refine v5 (I.map ok hn q) λa kvs u=>?_;subst u;intro e ns hd hk;refine fJ h λa' ea c d=>?_;clear h;cases ea;refine wpAny_pyNext_dict_end (i:=es.length) (hr.none h0) ⟨ob,g,c,by rw [d,hk.length,bw]⟩ hd (by rw [oP,hk.length];exact bT _) λh' hs'=> ?_;exact⟨W,.refl W,I.but hf.1 hf.2 λb o nb e=>hs' b o nb e,rfl⟩
 hZ:=λi W Z rs rx ob it A s tgt I g hf q1=>fJ q1 λla e c d=>d5 g c d (by decide) ⟨ob,I,g,⟨la,e,c,d⟩,λu1 v1 w1 z=>z⟩
theorem C3 (hn:DN es) (h0:C.hx=none:=by assumption):vK C k (λZ=>Z l=some (.map es n)) (.loc l) (es.map λp=> .str p.1) (.loc l) (GD (NR l n es.length)) tgt:=(zh hn h0).Iq
noncomputable def NO (l:Loc) (n m:Nat) (i:Nat) (rs:Value) (ob:Obj):Prop:= ∃a,rs= .ref a/\ob.cls= .type "dict_valueiterator"/\ob.data= .fields #[.ref a,.int i 0,.int m 0,.int n 0]
theorem ur (q:aw W (.fld n [.loc l]) rv) (I:Inv C W Z s) (hn:Lk n=true) (hf:(n=="frame")=false): ∃v rd,rv= .ref v/\s.heap.get? v=some {cls:= .type n,data:= .fields #[rd]}/\aw W (.loc l) rd:=by obtain⟨_,b,o,vs,rfl,f,rfl,ks⟩:=q;refine c12 (du ks) λrd u=>?_;subst u;intro qd;refine jE b rd rfl (I.frozen f ?_) qd;intro z;have z:Value.type n= .type "frame":=z;cases nq z;simp at hf
theorem ub (hn:DN es) (h0:C.hx=none:=by assumption):r6 C k (λZ=>Z l=some (.map es n)) (.fld "dict_values" [.loc l]) (es.map (·.2)) (.loc l) (NO l n es.length) where
 jk:=λi rv ob q1=>(by refine fJ q1 λla _ c _=>?_;clear q1;exact⟨λn z=>by rw [c]at z;cases z;decide,by rw [c];decide⟩)
 start:=λW Z rv A s outer ok hr hA hS I q=>by refine fq (ur q I (by decide) (by decide)) λv rd m=>?_;subst m;intro hv qd;refine v5 (I.map ok hn qd) λa kvs r=>?_;subst r;intro e ns hd hk;exact wpAny_pyIter_values ⟨_,hv,rfl,rfl⟩ hd ⟨W,s.heap.objs.size,_,.ref a,.refl W,I.same (a9 _ _),rfl,dZ _ rfl,I.cz,qd,⟨a,rfl,rfl,by rw [hk.length];rfl⟩⟩
 self:=λi rs ob it A s E Q g h hq=>by refine fJ h λla t=>?_;clear h;subst t;intro c d;exact wpAny_pyIter_valiter (i:=i) (n:=es.length) (ep:=n) ⟨ob,g,c,d⟩ hq
 next:=λi x W Z rs ob it A s outer hx ok hr hA hS I g hf q h=>by
  refine v5 (I.map ok hn q) λa kvs w=>?_;subst w;intro e ns hd hk;refine fJ h λa' ea c d=>?_;clear h;cases ea;rw [gr]at hx;cases hes:es[i]? with
  | none=>rw [hes]at hx;exact dF hx
  | some p=>obtain⟨key,y⟩:=p;rw [hes]at hx;cases hx;refine c12 (hk.get hes) λv hv qv=>wpAny_pyNext_values_item (i:=i) ⟨ob,g,c,by rw [d,hk.length]⟩ hd hv λh' hi' hs'=> ?_;refine fJ hi' λob' g' c' d'=>?_;clear hi';exact⟨W,_,ob',.refl W,I.but hf.1 hf.2 (λb o nb e=>(hs'.2 b nb).trans e),rfl,qv,g',hf,⟨a,rfl,c',by rw [d',hk.length]⟩⟩
 stop:=λW Z rs ob it A s outer ok hr hA hS I g hf q h=>by refine v5 (I.map ok hn q) λa kvs u=>?_;subst u;intro e ns hd hk;refine fJ h λa' ea c d=>?_;clear h;cases ea;refine wpAny_pyNext_values_end (i:=es.length) (hr.none h0) ⟨ob,g,c,by rw [d,hk.length,bw]⟩ hd (by rw [oP,hk.length];exact bT _) λh' hs'=> ?_;exact⟨W,.refl W,I.but hf.1 hf.2 λb o nb e=>hs' b o nb e,rfl⟩
 hZ:=λi W Z rs rx ob it A s tgt I g hf j=>fJ j λla e c d=>d5 g c d (by decide) ⟨ob,I,g,⟨la,e,c,d⟩,λu1 v1 w1 z=>z⟩
theorem wX (hn:DN es) (h0:C.hx=none:=by assumption):vK C k (λZ=>Z l=some (.map es n)) (.fld "dict_values" [.loc l]) (es.map (·.2)) (.loc l) (GD (NO l n es.length)) tgt:=(ub hn h0).Iq
theorem DU {l:Loc} {es:List (Str×AV)} {id n:String} (h:qB Z l es) (hn:DN es) (hf:Lk n=true)
  (hc: ∀(A:Around) (s:Shared) (a:Addr) (kvs:List (Str×Value)) (Q:Value->Shared->Prop),(a==sysModules)=false->s.heap.DictOf (sk C) a kvs->Q (.ref s.heap.objs.size) {s with heap:=s.heap.push {cls:= .type n,data:= .fields #[.ref a]}}->wpAny C.M A (call (.builtin id) [.ref a]) Q No s):
  Ca C k Z (.bi id) [.loc l] [] (.fld n [.loc l]) Z:=by
 intro W rf df fp hf' ha hk A s outer hr hA hS I;dsimp only [aw]at hf';subst hf';subst hk;refine c12 (du ha) λr u=>?_;subst u;intro q;refine v5 (I.dict h hn q) λa kvs z=>?_;subst z;intro e ns hd hk;refine hc A s a kvs _ ns hd ?_;refine bI I.cz λn1 n2=>?_;have g:(s.heap.push {cls:= .type n,data:= .fields #[.ref a]}).get? s.heap.objs.size=some {cls:= .type n,data:= .fields #[.ref a]}:=dZ _ rfl;refine bI (I.f6 (t:=s.toks) (d:=s.drawn) n1 n2 (a9 _ _) g) λle I'=>⟨_,le,I',?_⟩;refine⟨hf,_,{cls:= .type n,data:= .fields #[.ref a]},[.ref a],rfl,?_,rfl,.cons (q.mono le) .nil⟩;show(if _ then _ else _)=_
 rw [aF rfl]
theorem qh (h:qB Z l es) (hn:DN es):Ca C k Z (.bi "dict.values") [.loc l] [] (.fld "dict_values" [.loc l]) Z:=
 DU h hn (by decide) λA s a kvs Q ns hd hq=>call_meetsIn F.slot_dict_values hd.typeIs F.entry_dict_values (F.args_dict_values_1 _) (meets_dict_values (sk C) a ns) ⟨⟨kvs,hd⟩,hq⟩
theorem D7 (h:qB Z l es) (hn:DN es):Ca C k Z (.bi "dict.items") [.loc l] [] (.fld "dict_items" [.loc l]) Z:=
 DU h hn (by decide) λA s a kvs Q ns hd hq=>call_meetsIn F.slot_dict_items hd.typeIs F.entry_dict_items (F.args_dict_items_1 _) (meets_dict_items (sk C) a ns) ⟨⟨kvs,hd⟩,hq⟩
noncomputable def OK (n m:Nat) (i:Nat) (rs:Value) (ob:Obj):Prop:= ∃a ok ov,rs= .ref a/\ob={cls:= .type "dict_itemiterator",dict:=none,data:= .fields #[.none,.bool false,.ref a,.int i 0,.int m 0,.int n 0,ok,ov],slots:= #[]}
structure wF (C:Cx) (k:Nat) (ok:St->Prop) (v:AV) (xs:List AV) (src:AV) (Sh:Nat->Value->Obj->Prop) (Md:Nat->Value->Value->Obj->Prop):Prop where
 jk: ∀i rv ob,Sh i rv ob->Jk ob/\ob.cls≠ .type "frame"
 start: ∀W Z rv A s outer,ok Z->bY C A k->A.frames=some outer->tm C W outer->Inv C W Z s->aw W v rv->
  wpAny C.M A (pyIter rv) (Hk C W Z src (Sh 0)) No s
 next: ∀i x W Z rs ob it A s outer,xs[i]? =some x->ok Z->bY C A k->A.frames=some outer->tm C W outer->Inv C W Z s->s.heap.get? it=some ob->dS W it->aw W src rs->Sh i rs ob->
  wpAny C.M A (pyNext (.ref it)) (EK C W Z x it λrx=>Md (i+1) rx rs) No s
 stop: ∀W Z rs ob it A s outer,ok Z->bY C A k->A.frames=some outer->tm C W outer->Inv C W Z s->s.heap.get? it=some ob->dS W it->aw W src rs->Sh xs.length rs ob->
  wpAny C.M A (pyNext (.ref it)) (Er C W Z λ_ r=>r=none) No s
 hZ: ∀i W Z rs rx ob it A s elts x1 pos,Inv C W Z s->s.heap.get? it=some ob->dS W it->Md i rx rs ob->
  wpAny C.M A (letOwnedTupleGo (.Tuple elts x1 pos) (.ref it) rx) (λ_=>HJ C W Z it (Sh i rs) s.heap) No s
theorem wG {ok:St->Prop} {Sh:Nat->Value->Obj->Prop} {Md:Nat->Value->Value->Obj->Prop} {Q:Value->Shared->Prop} (I:wF C k ok v xs src Sh Md) (hok:ok Z) (hr:bY C A k) (H:At C sc A W env ms Z s) (q:aw W v rv)
  (g: ∀W' it s',W.le W'->At C sc A W' env ms Z s'->nV C W' env src Sh 0 it s'->Q (.ref it) s'):wpAny C.M A (pyIter rv) Q No s:=by
 refine c12 (eU H.fr) λouter ho hs=>bH (I.start _ Z rv A s outer hok hr ho hs (eQ H.inv H.fr) (q.mono (a8 H.fr))) (λr s' hh=> ?_) λu w h=>h;obtain⟨W',it,ob,rs,le,I',rfl,hg,hf,hv,hsh⟩:=hh;refine ve (eE.back H.inv H.fr le I') λl2 I2 F2 v1 _=>?_;have no:=xB H.fr le hf.1;refine g _ it s' l2 ⟨I2,F2⟩ ⟨⟨ob,rs,hg,v1 hv,hsh⟩,⟨?_,hf.2⟩,no,?_⟩
 ·rw [Wd.bB no];exact hf.1
 ·exact I'.mS hf.1
theorem zU {ok:St->Prop} {Sh:Nat->Value->Obj->Prop} {Md:Nat->Value->Value->Obj->Prop} {Q:Option Value->Shared->Prop} (I:wF C k ok v xs src Sh Md) (hx:xs[i]? =some x) (hok:ok Z) (hr:bY C A k)
  (H:At C sc A W env ms Z s) (K:nV C W env src Sh i it s)
  (g: ∀W' rx s',W.le W'->At C sc A W' env ms Z s'->nV C W' env src (λi rs ob=>Md i rx rs ob) (i+1) it s'->aw W' x rx->Q (some rx) s'):wpAny C.M A (pyNext (.ref it)) Q No s:=by
 refine c12 (eU H.fr) λouter ho hs=>fq K.ex λob rs hg hv hsh=>?_;have fa:dS (aside W env s.heap) it:=⟨by
  show(if _ then _ else _)=_
  rw [ay K.own];exact K.fresh.1,K.fresh.2⟩
 refine bH (I.next i x _ Z rs ob it A s outer hx hok hr ho hs (eQ H.inv H.fr) hg fa (hv.mono (a8 H.fr)) hsh) (λr s' hh=> ?_) λu w h=>h;obtain⟨W',rx,ob',le,I',rfl,hx',hg',hf,hsh'⟩:=hh;refine ve (eE.back H.inv H.fr le I') λl2 I2 F2 v1 _=>?_;exact g _ rx s' l2 ⟨I2,F2⟩ ⟨⟨ob',rs,hg',hv.mono l2,hsh'⟩,⟨by rw [Wd.bB K.own];exact hf.1,hf.2⟩,K.own,K.new⟩ (v1 hx')
theorem Ac {ok:St->Prop} {Sh:Nat->Value->Obj->Prop} {Md:Nat->Value->Value->Obj->Prop} {Q:Option Value->Shared->Prop} (I:wF C k ok v xs src Sh Md) (hok:ok Z) (hr:bY C A k)
  (H:At C sc A W env ms Z s) (K:nV C W env src Sh xs.length it s)
  (g: ∀W' s',W.le W'->At C sc A W' env ms Z s'->Q none s'):wpAny C.M A (pyNext (.ref it)) Q No s:=by
 refine c12 (eU H.fr) λouter ho hs=>fq K.ex λob rs hg hv hsh=>?_;have fa:dS (aside W env s.heap) it:=⟨by
  show(if _ then _ else _)=_
  rw [ay K.own];exact K.fresh.1,K.fresh.2⟩
 refine bH (I.stop _ Z rs ob it A s outer hok hr ho hs (eQ H.inv H.fr) hg fa (hv.mono (a8 H.fr)) hsh) (λr s' hh=> ?_) λu w h=>h;obtain⟨W',le,I',rfl⟩:=hh;refine ve (eE.back H.inv H.fr le I') λl2 I2 F2 _ _=>g _ s' l2 ⟨I2,F2⟩
theorem xG {ok:St->Prop} {Sh:Nat->Value->Obj->Prop} {Md:Nat->Value->Value->Obj->Prop} {Q:Unit->Shared->Prop} (I:wF C k ok v xs src Sh Md)
  (H:At C sc A W env ms Z s) (K:nV C W env src (λi rs ob=>Md i rx rs ob) i it s) (g: ∀s',At C sc A W env ms Z s'->nV C W env src Sh i it s'->Q () s'):wpAny C.M A (letOwnedTupleGo (.Tuple elts x1 pos) (.ref it) rx) Q No s:=by
 refine fq K.ex λob rs hg hv hsh=>bH (I.hZ i W Z rs rx ob it A s elts x1 pos H.inv hg K.fresh hsh) (λu s' q=> ?_) λu w h=>h;obtain⟨ob',I',hg',hsh',hk⟩:=q;exact g s' ⟨I',H.fr.keep K.own K.fresh.1 (H.fr.jV K.own K.fresh.1) hk⟩ ⟨⟨ob',rs,hg',hv,hsh'⟩,K.fresh,K.own,K.new⟩
theorem kQ {α:Type} {src:AV} {Sh:Nat->Value->Obj->Prop} {i:Nat} {it:Addr} {t:Sem α} {R:Wd->α->Prop} {Q:α->Shared->Prop} (jk: ∀i rv ob,Sh i rv ob->Jk ob/\ob.cls≠ .type "frame")
  (H:At C sc A W env ms Z s) (K:nV C W env src Sh i it s)
  (h: ∀aR,W.le aR->At C sc A aR env ms Z s->wpAny C.M A t (ic C sc A aR env aK aB R) No s)
  (hR: ∀aR (X:Addr->Prop) r,(∀a o,X a->aR.fz a=some o->Jk o)->R aR r->R (aR.minus X) r)
  (g: ∀W' r s',W.le W'->At C sc A W' env aK aB s'->nV C W' env src Sh i it s'->R W' r->Q r s'):wpAny C.M A t Q No s:=by
 refine fq K.ex λob rs hg hv hsh=>bI (jk i rs ob hsh) λjk nf=>bI (H.freeze hg K.fresh.1 K.fresh.2 K.own) λle1 H1=>bH (h _ le1 H1) (λr s' u=> ?_) λv w h=>h;obtain⟨W',le,H',hr⟩:=u;have e:W'.fz it=some ob:=le.2 _ _ (by show(if _ then _ else _)=_;rw [aF rfl]);obtain⟨H2,ob',hg',rfl⟩:=H'.KJ e jk nf K.new;have hc: ∀a o,a=it->W'.fz a=some o->Jk o:=λa o z q=>by subst z;rw [e]at q;cases q;exact jk
 have le2:W.le (W'.minus (· =it)):=⟨λl a q=>le.1 _ _ (le1.1 _ _ q),λa o q=>by
  rw [Wd.bB (X:=(· =it)) λz=>by
   have z:a=it:=z;subst z;rw [K.fresh.1]at q;exact dF q]
  exact le.2 _ _ (le1.2 _ _ q)⟩
 refine g _ r s' le2 H2 ⟨⟨ob',rs,hg',hv.mono le2,hsh⟩,⟨Wd.d8 (X:=(· =it)) rfl,λl q=> ?_⟩,K.own,K.new⟩ (hR _ _ _ hc hr);have:=H'.inv.apart l it q;rw [e]at this;exact sa this
class inductive H4 (C:Cx) (k:Nat) (sc:Scope) (ok:St->Prop) (tgt:Expr) (body:List Stmt):List AV->List (Option AV)->St->List (Option AV)->St->Prop
 | nil {ms:List (Option AV)} {Z:St} (h:ok Z):H4 C k sc ok tgt body [] ms Z ms Z
 | cons {x:AV} {xs:List AV} {ms ai aZ aK:List (Option AV)} {Z ae aN aB:St} (h:ok Z) (ha:As C k sc ms Z tgt x ai ae) (hx:Ex C k sc ai ae body .next aZ aN)
   (hr:H4 C k sc ok tgt body xs aZ aN aK aB):H4 C k sc ok tgt body (x::xs) ms Z aK aB
theorem Af {ok:St->Prop} {v:AV} {full:List AV} {src:AV} {Sh:Nat->Value->Obj->Prop} {Md:Nat->Value->Value->Obj->Prop} {elts:List Expr} {x1:Nat} {tpos:Pos} {body:List Stmt} (I:wF C k ok v full src Sh Md) {xs:List AV}
  (L:H4 C k sc ok (.Tuple elts x1 tpos) body xs ms Z aK aB): ∀(i:Nat) (A:Around) (W:Wd) (env:Env) (s:Shared) (it:Addr),full.drop i=xs->i<=full.length->bY C A k->At C sc A W env ms Z s->nV C W env src Sh i it s->
  codeAny C.M A (.forLoop (.Tuple elts x1 tpos) (.ref it) body [] env) (λr s'=>match r with | .ok fl=>ic C sc A W env aK aB (λW r=>bQ W .next r) fl s' | .error _=>False) s:=by
 induction L with
 | nil hok=>
  intro i A W env s it hd hi hr H K;have hlen:i=full.length:=by have:=dY List.length hd;rw [vT]at this;simp at this;omega
  subst hlen;refine mB ?_;rw [pK (A:=A) (c:= .forLoop (.Tuple elts x1 tpos) (.ref it) body [] env) rfl];refine(?_:wpAny C.M A ((forTurn (.Tuple elts x1 tpos) (.ref it) body [] env).onRaise _) _ _ s);refine jN (bH ?_ (λu w h=>h) (λ_ _ (h:False)=>h.elim));refine aj (cF (aj (jN (bH (Ac (Q:=λr s'=>r=none/\ ∃W',W.le W'/\At C sc A W' env _ _ s') I hok hr H K λW' s' le H'=>⟨rfl,W',le,H'⟩) (λr s' hh=> ?_) λu w h=>h.elim))));obtain⟨rfl,W',le,H'⟩:=hh;refine aQ ⟨rfl,mB ?_⟩;rw [pK (A:=A) (c:= .block [] env) rfl];refine(?_:wpAny C.M A (do return Fin.done (<-(execs [] env).onRaise _)) _ _ s');exact aj (jN (wpAny_execs_nil (aQ (bz le H' rfl))))
 | @cons x xs' JH JI L2 JK JL JM L3 JN hok ha hx hl ih=>
  intro i A W env s it hd hi hr H K;have hx0:full[i]? =some x:=by
   have e:(full.drop i)[0]? =some x:=by rw [hd];rfl
   rw [xH]at e;simpa using e
  have hd':full.drop (i+1)=xs':=by rw [<-List.drop_drop,hd];rfl
  have hi':i+1<=full.length:=(lF.mp hx0).1;refine mB ?_;rw [pK (A:=A) (c:= .forLoop (.Tuple elts x1 tpos) (.ref it) body [] env) rfl];refine(?_:wpAny C.M A ((forTurn (.Tuple elts x1 tpos) (.ref it) body [] env).onRaise _) _ _ s);refine jN (bH ?_ (λu w h=>h) (λ_ _ (h:False)=>h.elim));refine aj (cF (aj (jN (bH (zU (Q:=λr s'=> ∃W' rx,r=some rx/\W.le W'/\At C sc A W' env _ _ s'/\nV C W' env src (λi rs ob=>Md i rx rs ob) (i+1) it s'/\aw W' x rx) I hx0 hok hr H K
   λW' rx s' le H' K' q=>⟨W',rx,rfl,le,H',K',q⟩) (λr s' hh=> ?_) λu w h=>h.elim))))
  refine Bj hh λW' rx le H' K' q=>aj (xG I H' K' λaI aO tE=> ?_);refine aj (kQ I.jk aO tE (λbh l2 aG=>ha A bh env aI rx hr aG (q.mono l2)) (λu w g m y=>trivial) λbh u aT ax aG jC w=> ?_);refine aj (kQ I.jk aG jC (λbS l3 br=>hx A bS env aT hr br) bQ.minus λbS r bt bg br jJ hfl=> ?_);have rq:=le.trans (ax.trans bg);have go:=ih (i+1) A bS env bt it hd' hi' hr br jJ;have go':codeAny C.M A (.forLoop (.Tuple elts x1 tpos) (.ref it) body [] env) (λr s'=>match r with | .ok fl=>ic C sc A W env JK JN (λW r=>bQ W .next r) fl s' | .error _=>False) bt:=
   kZ go λr s' hh=>by
    cases r with
    | ok fl=>obtain⟨W',l,z,z'⟩:=hh;exact⟨W',rq.trans l,z,z'⟩
    | error e=>exact hh
  unfold bQ at hfl;subst hfl;exact aQ ⟨rfl,go'⟩
theorem EX {elts:List Expr} {x1:Nat} {tpos:Pos} {iter:Expr} {body:List Stmt} {pos:Pos} {v:AV} {ok:St->Prop} {xs:List AV} {src:AV} {Sh:Nat->Value->Obj->Prop} {Md:Nat->Value->Value->Obj->Prop}
  (h1:Ev C k sc ms Z iter v ai ae) (I:wF C k ok v xs src Sh Md) (hok:ok ae) (L:H4 C k sc ok (.Tuple elts x1 tpos) body xs ai ae aK aB)
  (hs: ∀env x,foldedSetIterable iter env x=pure x):X1 C k sc ms Z (.For (.Tuple elts x1 tpos) iter body [] pos) .next aK aB:=by
 intro A W env s hr H;refine(?_:wpAny C.M A (exec (.For (.Tuple elts x1 tpos) iter body [] pos) env) _ _ _);rw [arm_exec_For];refine aj (cF (cX (h1 A W env s hr H) λaR rv aI aA aO q=>aj (eL (hs _ _) (aj (cF (aj (cE ?_)))))));refine wG I hok hr aO q λbh it aT ax aG jC=>wpAny_runOwn (h:=none) ?_;rw [mark_none];refine kZ (Af I L 0 A bh env aT it rfl (dW _) hr aG jC) λr s' hh=> ?_;cases r with
 | ok fl=>obtain⟨W',l,z,z'⟩:=hh;exact⟨W',aA.trans (ax.trans l),z,z'⟩
 | error e=>exact hh.elim
noncomputable def OM (n m:Nat) (i:Nat) (rx:Value) (rs:Value) (ob:Obj):Prop:= ∃t a ok ov,rx= .ref t/\rs= .ref a/\ob={cls:= .type "dict_itemiterator",dict:=none,data:= .fields #[rawInt t,.bool false,.ref a,.int i 0,.int m 0,.int n 0,ok,ov],slots:= #[]}
theorem zO (hn:DN es) (h0:C.hx=none:=by assumption):wF C k (λZ=>Z l=some (.map es n)) (.fld "dict_items" [.loc l]) (es.map λp=> .tup [.str p.1,p.2]) (.loc l) (OK n es.length) (OM n es.length) where
 jk:=λi rv ob q2=>(by refine tC q2 λa ok ov _ e=>?_;clear q2;subst e;exact⟨λn z=>by cases z;decide,λz=>by have:=nq z;revert this;decide⟩)
 start:=λW Z rv A s outer ok hr hA hS I q=>by refine fq (ur q I (by decide) (by decide)) λv rd f=>?_;subst f;intro hv qd;refine v5 (I.map ok hn qd) λa kvs c=>?_;subst c;intro e ns hd hk;exact wpAny_pyIter_items ⟨_,hv,rfl,rfl⟩ hd ⟨W,s.heap.objs.size,_,.ref a,.refl W,I.same (a9 _ _),rfl,dZ _ rfl,I.cz,qd,⟨a,.none,.none,rfl,by rw [hk.length];rfl⟩⟩
 next:=λi x W Z rs ob it A s outer hx ok hr hA hS I g hf q h=>by
  refine v5 (I.map ok hn q) λa kvs j=>?_;subst j;intro e ns hd hk;refine tC h λa' ok1 O8 ea m=>?_;clear h;subst m;cases ea;rw [gr]at hx;cases hes:es[i]? with
  | none=>rw [hes]at hx;exact dF hx
  | some p=>
   obtain⟨key,y⟩:=p;rw [hes]at hx;cases hx;refine c12 (hk.get hes) λv hv qv=>?_;rw [<-hk.length]at g;refine wpAny_pyNext_items_item (i:=i) g hd hv λkv h' hkv hit ht hsz hkeep=> ?_;refine cG (xy hkv) λtk r=>?_;subst r;have I1:Inv C W Z {s with heap:=h'}:=I.but hf.1 hf.2 λb o nb z=>hkeep b o nb z;refine bI I.cz λn1 n2=>bI (I1.f6 (h:=h') (t:=s.toks) (d:=s.drawn) n1 n2 (λu1 v1 z=>z) ht) λle I2=>⟨_,_,_,le,I2,rfl,?_,hit,⟨?_,hf.2⟩,⟨_,a,_,_,rfl,rfl,by rw [hk.length]⟩⟩
   ·refine v7 _ _ ([.str key tk,v]) 0 rfl ?_ rfl rfl (.cons bN (.cons (qv.mono le) .nil));show(if _ then _ else _)=_
    rw [aF rfl]
   ·refine(?_:(if it=_ then _ else W.fz it)=none);have:it≠s.heap.objs.size:=Nat.ne_of_lt (ig g);rw [ay this];exact hf.1
 stop:=λW Z rs ob it A s outer ok hr hA hS I g hf q h=>by refine v5 (I.map ok hn q) λa kvs w=>?_;subst w;intro e ns hd hk;refine tC h λa' ok1 O8 ea u=>?_;clear h;subst u;cases ea;rw [bw,<-hk.length]at g;refine wpAny_pyNext_items_end (i:=kvs.length) (hr.none h0) g hd (by rw [oP];exact bT _) λh' hs'=> ?_;exact⟨W,.refl W,I.but hf.1 hf.2 λb o nb e=>hs' b o nb e,rfl⟩
 hZ:=λi W Z rs rx ob it A s elts x1 pos I g hf q1=>by refine NS q1 λt a ok ov e1 e2 e3=>?_;clear q1;subst e1 e2 e3;refine wpAny_letOwnedTupleGo_items g λh' hi hs=>⟨_,I.but hf.1 hf.2 (λb o nb z=>(hs.2 b nb).trans z),hi,⟨a,ok,ov,rfl,rfl⟩,λb o nb z=>(hs.2 b nb).trans z⟩
theorem Inv.newObj (I:Inv C W Z s) (hl:Z l=none) (g:(s.heap.push ob).get? s.heap.objs.size=some ob) (ht:s.toks<=tk)
  (r: ∀W',W.le W'->fj C W' o ob): ∃W',W.le W'/\Inv C W' (Z.set l o) {s with heap:=s.heap.push ob,toks:=tk}/\aw W' (.loc l) (.ref s.heap.objs.size)/\W'.ρ l=some s.heap.objs.size:=by
 refine bI I.cz λn1 n2=>?_;have L0:W.le (W.name l s.heap.objs.size):=⟨λx b e=>by
  refine(?_:(if x=l then _ else W.ρ x)=some b);split
  ·rename_i z;subst z;rw [I.none_of hl]at e;exact dF e
  ·exact e,λ_ _ e=>e⟩
 refine bI (I.new (t:=tk) (d:=s.drawn) (o:=o) hl n1 n2 I.big (a9 _ _) g (r _ L0) ht) λle I'=>?_;have e:(W.name l s.heap.objs.size).ρ l=some s.heap.objs.size:=by show(if _ then _ else _)=_;rw [aF rfl]
 exact GX _ le I' (i12 _ e rfl) e
theorem xc (hl:Z l=none):Op C k W Z newDict (λW r=>aw W (.loc l) r) (Z.set l (.dict [])):=by intro A s outer hr hA hS I;refine aj (wpAny_alloc (aQ ?_));refine CR (I.newObj (o:= .dict []) (ob:={cls:= .type "dict",data:= .dict #[]}) hl (dZ _ rfl) (bT _) (λW' u=>⟨[],0,rfl,rfl⟩)) λW' le I' q _=>?_;exact⟨W',le,I',q⟩
theorem mY (hl:Z l=none):rJ C Z newDict l (.dict []):=
 ⟨hl,{cls:= .type "dict",data:= .dict #[]},rfl,λW=>⟨[],0,rfl,rfl⟩,λM A E s Q h=>aj (wpAny_alloc (aQ h))⟩
theorem vS (l:Loc) (hl:Z l=none):Ev C k sc ms Z (.Dict [] [] pos) (.loc l) ms (Z.set l (.dict [])):=by intro A W env s hr H;rw [eval_Dict_empty];exact aj (cF (Op.in rfl (xc hl) hr H λbh r aT ax aG q tk u=>bz ax aG (tk q)))
theorem zS (h1:Ev C k sc ms Z o ov ai ae) (h2:Ev C k sc ai ae i iv aZ aN) (h3:di C k aN delItem ov iv (λu v=>True) aB):X1 C k sc ms Z (.Delete [.Subscript o i p] pos) .next aZ aB:=by intro A W env s hr H;refine wpAny_Delete (wpAny_deleteEach_cons (PySem.wpAny_delete_Subscript (bf (h1 A W env s hr H) λaR ro aI aA aO qo=>bf (h2 A aR env aI hr aO) λbh ri aT ax aG qi=> ?_)));have le:=a8 aG.fr;refine Op.in rfl (h3 _ ro ri ((qo.mono ax).mono le) (qi.mono le)) hr aG λbS u bt bg br v w g=>wpAny_deleteEach_nil (bz (aA.trans (ax.trans bg)) br rfl)
theorem jr (h1:Ev C k sc ms Z o ov ai ae) (h2:ie C k ae (λx=>getAttr x attr true) ov (λW r=>aw W a r) ae) (h3:Ev C k sc ai ae value b aZ aN)
  (h4:di C k aN (inplaceOp op) a b (λW r=>aw W c r) bX) (h5:di C k bX (λx y=>setAttr x attr y) ov c (λu v=>True) aB):X1 C k sc ms Z (.AugAssign (.Attribute o attr tpos) op value pos) .next aZ aB:=by
 intro A W env s hr H;refine wpAny_AugAssign_AttributeAny (bf (h1 A W env s hr H) λaR ro aI aA aO qo=> ?_);have la:=a8 aO.fr;refine Op.in rfl (h2 _ ro (qo.mono la)) hr aO λbh ra aT ax aG qa tk u=> ?_;replace qa:=tk qa;refine bf (h3 A _ env aT hr aG) λbS rb bt bg br qb=> ?_;have lb:=a8 br.fr;refine Op.in rfl (h4 _ ra rb ((qa.mono bg).mono lb) (qb.mono lb)) hr br λnD rc jd eW gu qc tk' u=> ?_;replace qc:=tk' qc;have lc:=a8 gu.fr;refine Op.in rfl (h5 _ ro rc ((((qo.mono ax).mono bg).mono eW).mono lc) (qc.mono lc)) hr gu λvX u Gh rt mL v w g=>bz (aA.trans (ax.trans (bg.trans (eW.trans rt)))) mL rfl
theorem wA (h1:Ev C k sc ms Z value v ai ae) (h2:As C k sc ai ae t v aZ aN) (h3:As C k sc aZ aN u v aK aB) (hs: ∀env,swapsWithSole [t,u] value pos.line env=pure false) (hw: ∀env,swappedStores [t,u] value env=pure none)
  (ht: ∀env,(assignEach [t,u] env).map (·.2)= [assign t env,assign u env]):X1 C k sc ms Z (.Assign [t,u] value pos) .next aK aB:=by
 intro A W env s hr H;refine(?_:wpAny C.M A (exec _ env) _ _ _);rw [exec_Assign_arm];refine aj (cF ?_);rw [hs];refine aj (aQ ?_);refine cX (h1 A W env s hr H) λaR r aI aA aO q=>aj (eL (hw env) ?_);rw [ht];refine aj ?_;refine aj (cE (bf (h2 A aR env aI r hr aO q) λbh w aT ax aG g=> ?_));exact bf (h3 A bh env aT r hr aG (q.mono ax)) λbS w bt bg br g=>aQ (bz (aA.trans (ax.trans bg)) br rfl)
theorem sH (h1:Ev C k sc ms Z kx (.str key) ai ae) (h2:Ev C k sc ai ae vx v aK aN) (ho:qB aN la es) (hn:DN es) (hz:es.length<=sizeLine):
  Em C k sc la (.DictComp kx vx gens scope pos) ms Z aK (aN.set la (.dict (dput es key v))):=by
 intro A W env s iR hr H q;refine cX (h1 A W env s hr H) λaR rk aI aA aO qk=>aj (cE (bf (h2 A aR env aI hr aO) λbh rv aT ax aG qv=> ?_));have tG:K9 C k aN (λd x y=>match d with | .ref d=>dictSet d x y | _=>unsupported "internal:dictcomp") (.loc la) (.str key) v (λw g=>True) (aN.set la (.dict (dput es key v))):=by intro W ra rb rc qa qb qc A s outer hr hA hS I;refine fh qb λt=>?_;refine v5 (I.dict ho hn qa) λa kvs u=>?_;subst u;intro e ns hd hk;exact wpAny_dictSet_pairs (knd:=sk C) (k:=key) (nW _ _ _ _) hd (λh' hd' hs=>⟨W,.refl W,I.wW e hd' (hk.put qc) hs (jm _),trivial⟩) (by rw [hk.length];exact hz)
 have le:=a8 aG.fr;have key:=λ{R}=>Op.in (R':=R) rfl (tG _ iR rk rv (((q.mono aA).mono ax).mono le) ((qk.mono ax).mono le) (qv.mono le)) hr aG;refine c12 q λa e z=>?_;subst z;exact aj (cF (cE (key λbS w bt bg br g m r=>bz (aA.trans (ax.trans bg)) br trivial)))
theorem eZ {ok:St->Prop} (la:Loc)
  (K:mJ C k sc ms Z scope link g gs ai ae v src xs ok Sh) (hla:ae la=none)
  (hl:CL C k (bD scope) la (.DictComp kx vx (g::gs) scope cpos) ok g gs xs (eY link ai scope.names.length) (ae.set la (.dict [])) cZ aN)
  (hend:(link.map λp=>(cZ[p.2]?).join)=link.map λp=>(ai[p.1]?).join)
  (hsw: ∀env,∃b,swapsWithSole [t] (.DictComp kx vx (g::gs) scope cpos) pos.line env=pure b) (hw: ∀env,swappedStores [t] (.DictComp kx vx (g::gs) scope cpos) env=pure none) (ht: ∀env,(assignEach [t] env).map (·.2)= [assign t env])
  (ha:As C k sc ai aN t (.loc la) aK aB):X1 C k sc ms Z (.Assign [t] (.DictComp kx vx (g::gs) scope cpos) pos) .next aK aB:=by
 intro A W env s hr H;refine(?_:wpAny C.M A (exec _ env) _ _ _);rw [exec_Assign_arm];refine aj (cF ?_);refine cG (hsw env) λb hb=>?_;rw [hb];refine aj (aQ ?_);obtain⟨tg,it,ifs,as⟩:=g;have ha0:as=0:=K.sync _ (.head _);subst ha0;cases b with
 | false=>refine aj ?_;refine(?_:wpAny C.M A (comprehension _ scope env _ newDict false (eval it env)) _ _ _);refine jL (g:=⟨tg,it,ifs,0⟩) (gd:= .dict []) (use:=none) rfl K.sync K.linked K.free K.ok2 K.comp.st K.comp.it (mY hla) hl hend hr H λW' acc s' le H' q=>aj (eL (hw env) ?_);rw [ht];exact aj (bf (ha A W' env s' acc hr H' q) λbh u aT ax aG w=>aQ (bz (le.trans ax) aG rfl))
 | true=>rw [ht];rw [arm_evalThenUse_DictComp];refine aj (aj ?_);refine(?_:wpAny C.M A (comprehension _ scope env _ newDict false (eval it env) (some _)) _ _ _);refine jL (g:=⟨tg,it,ifs,0⟩) (gd:= .dict []) (use:=some _) rfl K.sync K.linked K.free K.ok2 K.comp.st K.comp.it (mY hla) hl hend hr H ⟨aK,aB,λW' acc s' le H' q=> ?_,λW' s' le H'=>aQ (aQ (bz le H' rfl))⟩;exact bf (ha A W' env s' acc hr H' q) λbh u aT ax aG w=>⟨bh,le.trans ax,ax.2,aG⟩
noncomputable def Cd (C:Cx) (k:Nat) (Z:St) (f:AV) (as:List AV) (kw:List (Str×AV)) (v:AV) (aB:St):Prop:=
 ∀W rf df fp,aw W f rf->aU W as df->bC W kw fp-> ∀A s outer,bY C A k->A.frames=some outer->tm C W outer->Inv C W Z s->
  codeAny C.M A (.call rf ⟨df,fp⟩) (λr s'=>match r with | .ok (.ret r)=>Er C W aB (λW r=>aw W v r) r s' | _=>False) s
theorem Cd.ca (h:Cd C k Z f as kw v aB):Ca C k Z f as kw v aB:=
 λW rf df fp hf ha hk A s outer hr hA hS I=>s8 (kZ (h W rf df fp hf ha hk A s outer hr hA hS I) λr s' z=>by
  rcases r with e | (v | _ | _ | _)<;>first | exact z | exact z.elim)
theorem IL (O:C.Ok) (hF:Fn C fa fd body)
  (h: ∀n,(∀l:Loc,n<=l.tag->Z l=none)-> ∃bs ae f aK cP,Bd C k fd Z as kw bs ae/\(fd.scope.names.take bs.length).map (·.1)=bs.map (·.1)/\(∀p∈fd.scope.names.take bs.length,p.2= .local\/p.2= .cell)/\
   Ex C k fd.scope (rS fd.scope bs) ae body f aK cP/\Exit Z cP f v aB):Cd C (k+1) Z (.ext fa) as kw v aB:=by
 intro W rf df fp hf has hkw A s outer hr hA hS I;subst hf;refine cG I.free λn hn=>Eo (h n hn) λbs ae f aK cP hb hms hkind z=>bI z λhx ex=>Jw hF.here λoc od osl hK=>?_;have ho:=I.kept _ _ (O.tQ _ _ hK);refine codeAny_call_function (fd:=fd) hr.depth ho rfl hF.co hF.gen hF.body (codeRec_of (O.tQ.keeps I.kept) hF.code) ?_;refine bH (hb W df fp has hkw A.in1 s outer hr.in1 hA hS I) (λbinds aI w=> ?_) λg m h=>h.elim;obtain⟨aR,aA,xJ,vW⟩:=w;rw [hF.globals,hF.builtins,hF.closure];refine bH (sW (A:=A) hF.ok xJ hA (hS.mono aA) vW hms hkind (Q:=λenv s'=>At C fd.scope (A.deeper env) aR env (rS fd.scope bs) ae s') λenv s' H=>H) (λenv aT H=> ?_) λg m h=>h.elim;refine⟨O.nolimit.keeps H.inv.kept,codeAny_func ?_⟩;refine bH (hx (A.deeper env) aR env aT hr.deeper H) (λfl s' u=> ?_) λg m h=>h.elim;obtain⟨bh,ax,aG,hf⟩:=u;refine fJ (ex.go I (aA.trans ax) aG.inv hf) λbS bg I7 q=>?_;cases fl<;>exact⟨bS,bg,I7,q⟩
theorem eB (O:C.Ok) (hF:Fn C fa fd body) (names:List (Str×NameKind)) (hsc:fd.scope.names=names) (bs:List (Str×AV)) (ae:St)
  (hb:Bd C k fd Z as kw bs ae) (h1:(names.take bs.length).map (·.1)=bs.map (·.1)) (h2:((names.take bs.length).all λp=>p.2== .local || p.2== .cell)=true)
  (h: ∀sc,Facts sc names 0-> ∀n,(∀l:Loc,n<=l.tag->Z l=none)-> ∃f aK cP,Ex C k sc (bs.map (λp=>some p.2)++List.replicate (names.length - bs.length) none) ae body f aK cP/\Exit Z cP f v aB):Cd C (k+1) Z (.ext fa) as kw v aB:=by
 refine IL O hF λn hn=>tC (h fd.scope (oK hsc) n hn) λf aK cP h3 h4=>?_;refine⟨bs,ae,f,aK,cP,hb,by rw [hsc];exact h1,λp hp=> ?_,?_,h4⟩
 ·rw [hsc]at hp;have:=p6.mp h2 p hp;simpa using this
 ·delta rS;rw [hsc];exact h3
theorem z9:(Z.set l o) x=if x=l then some o else Z x:=rfl
theorem rB (O:C.Ok) (hm:makesIn C.K c=true) (hi:findIn C.K (.ref c) "__init__"=some (some (.ref fi))) (hf:typeIn C.K (.ref fi)=some (.type "function"))
  (hl:Z l=none) (hd:Z d=none) (O9:l≠d) (h:Cd C k ((Z.set d (.dict [])).set l (.inst c d)) (.ext fi) (.loc l::as) kw .none aB):Ca C (k+1) Z (.ext c) as kw (.loc l) aB:=by
 intro W rf df fp qf qa qk A s outer hr hA hS I;subst qf;obtain⟨hh,g,dr,t,os⟩:=s;have X:=fb O I;refine s8 (make_core (makes_of X hm) (looks_findIn X hi) (λself=>bind_fn X self hf) (.inl rfl) ?_);refine CR (I.newObj (l:=d) (o:= .dict []) (ob:=emptyDict) (tk:=t) hd (dZ _ rfl) (bT _) (λW' u=>⟨[],0,rfl,rfl⟩)) λW1 le1 I1 q1 e1=>?_;refine CR (I1.newObj (l:=l) (o:= .inst c d) (ob:=instObj c hh.objs.size) (tk:=t) (by rw [z9,ay O9];exact hl) (dZ _ rfl) (bT _) (λW' le=>⟨_,le.1 _ _ e1,rfl⟩)) λW2 le2 I2 q2 e2=>?_;have hsz:(hh.push emptyDict).objs.size=hh.objs.size+1:=nB ..;dsimp only at I2 q2;rw [hsz]at q2;have le:=le1.trans le2;have hu:bY C (A.under (.builtin "type.__call__" ⟨.ref c::df,fp⟩)) k:=by
  refine m9 ?_ ?_ hr.2.2
  ·have:=hr.1;refine(?_:A.depth+1+2 * k+2<_);omega
  ·have:=hr.2.1;have e:(A.under (Code.builtin "type.__call__" {pos:=Value.ref c::df,kw:=fp})).units<=A.units+4:=by
    refine(?_:A.units+(1+3 * (Code.builtin "type.__call__" {pos:=Value.ref c::df,kw:=fp}).frames)<=_);have:(Code.builtin "type.__call__" {pos:=Value.ref c::df,kw:=fp}).frames=0:=by kernel_rfl
    omega
   omega
 refine kZ (h W2 (.ref fi) (.ref (hh.objs.size+1)::df) fp rfl (.cons q2 (qa.mono le)) (qk.mono le) _ _ outer hu (by exact hA) (hS.mono le) I2) λr s' z=> ?_;rcases r with e | (v | _ | _ | _)<;>first | exact z.elim | skip
 obtain⟨W3,AI,I3,qv⟩:=z;subst qv;exact⟨rfl,W3,le.trans AI,I3,q2.mono AI⟩
noncomputable def AH (Z:St) (l:Loc) (c:Addr) (d:Loc) (vs:List (Option AV)):Prop:=(Z l=some (.inst c d)/\vs= [])\/Z l=some (.slots c d vs)
theorem AH.at (h:AH Z l c d vs) (I:Inv C W Z s) (q:aw W (.loc l) rv):
  ∃x dx sl od,rv= .ref x/\W.ρ l=some x/\s.heap.get? x=some {cls:= .ref c,dict:=some dx,data:= .plain,slots:=List.toArray sl}/\W.ρ d=some dx/\bu W vs sl/\
   InstAt s.heap x {cls:= .ref c,dict:=some dx,data:= .plain,slots:=List.toArray sl} c (some od):=by
 obtain⟨x,e,rfl⟩:=q;have key: ∃dx sl,s.heap.get? x=some {cls:= .ref c,dict:=some dx,data:= .plain,slots:=List.toArray sl}/\W.ρ d=some dx/\bu W vs sl:=by
  rcases h with⟨h,rfl⟩ | h
  ·obtain⟨ob,h1,dx,h2,rfl⟩:=I.obj l x _ e h;exact⟨dx,[],h1,h2,rfl⟩
  ·obtain⟨ob,h1,dx,sl,h2,rfl,h3⟩:=I.obj l x _ e h;exact⟨dx,sl,h1,h2,h3⟩
 obtain⟨dx,sl,h1,h2,h3⟩:=key;have hd:=I.dom d;rw [h2]at hd;obtain⟨o,ho⟩:=vB.mp hd.symm;obtain⟨od,h4,_⟩:=I.obj d dx o h2 ho;exact⟨x,dx,sl,od,rfl,e,h1,h2,h3,⟨h1,rfl,rfl,h4⟩⟩
theorem bu.get (h:bu W vs sl): ∀{i:Nat} {v:AV},vs[i]? =some (some v)-> ∃r,(sl[i]?).join=some r/\aw W v r:=by
 induction vs generalizing sl with
 | nil=>intro i v e;simp at e
 | cons p r ih=>
  intro i v e;cases p with
  | none=>
   refine yu h λvs' h=>?_;cases i with
   | zero=>simp at e
   | succ i=>simp at e;refine c12 (ih h e) λu hu z=>?_;exact i12 u (by simpa using hu) z
  | some y=>
   refine gB h λu vs' q h=>?_;cases i with
   | zero=>simp at e;subst e;exact i12 u (by simp) q
   | succ i=>simp at e;refine c12 (ih h e) λu' hu z=>?_;exact i12 u' (by simpa using hu) z
noncomputable def gG (vs:List (Option AV)) (i:Nat) (v:AV):List (Option AV):=(vs++List.replicate (i+1 - vs.length) none).set i (some v)
theorem bu.length: ∀{vs:List (Option AV)} {sl:List (Option Value)},bu W vs sl->sl.length=vs.length:=by
 intro aH;induction aH with
 | nil=>
  intro u h;exact by dsimp only [bu]at h;subst h;rfl
 | cons gd r ih=>
  cases gd with
  | none=>
   intro u h;exact by dsimp only [bu]at h;refine yu h λvs' h=>?_;simp [ih h]
  | some _=>
   intro u h;exact by dsimp only [bu]at h;refine gB h λ_ vs' _ h=>?_;simp [ih h]
theorem bu.app: ∀{vs:List (Option AV)} {sl:List (Option Value)} (n:Nat),bu W vs sl->bu W (vs++List.replicate n none) (sl++List.replicate n none):=by
 intro aH;induction aH with
 | nil=>
  intro v n h;dsimp only [bu]at h;subst h
  induction n with
  | zero=>rfl
  | succ n ih=>exact i12 _ rfl ih
 | cons gd r ih=>
  cases gd with
  | none=>
   intro v n h;exact by dsimp only [bu]at h;refine yu h λvs' h=>?_;exact i12 _ rfl (ih n h)
  | some _=>
   intro v n h;exact by dsimp only [bu]at h;refine gB h λu vs' q h=>?_;exact jE u _ rfl q (ih n h)
theorem bu.set (q:aw W v r): ∀{vs:List (Option AV)} {sl:List (Option Value)} (i:Nat),bu W vs sl->bu W (vs.set i (some v)) (sl.set i (some r)):=by
 intro aH;induction aH with
 | nil=>
  intro w i h;exact by dsimp only [bu]at h;subst h;rfl
 | cons gd t ih=>
  cases gd with
  | none=>
   intro w i h;refine yu h λvs' h=>?_;cases i with
   | zero=>exact jE r _ rfl q h
   | succ i=>exact i12 _ rfl (ih i h)
  | some _=>
   intro w i h;refine gB h λu vs' q' h=>?_;cases i with
   | zero=>exact jE r _ rfl q h
   | succ i=>exact jE u _ rfl q' (ih i h)
theorem bu.put (h:bu W vs sl) (q:aw W v r):bu W (gG vs i v) ((sl++List.replicate (i+1 - sl.length) none).set i (some r)):=by rw [h.length];exact(h.app _).set q i
theorem tj (O:C.Ok) (hl:AH Z l c d vs) (hga:findIn C.K (.ref c) "__getattribute__"=some (some (.builtin "object.__getattribute__"))) (hk:findIn C.K (.ref c) "__getattr__"=some none)
  (hc:(clsIn C.K c).isSome=true) (ha:findIn C.K (.ref c) name=some (some (.ref p))) (hn:specialIn C.K (.ref p) "__get__"=some (some (.builtin "member_descriptor.__get__"))) (ht:takesIn C.K (.ref p)=some true) (hp:slotIn C.K p c=some i)
  (hi:vs[i]? =some (some v)) (hv: ∀id,v≠ .bi id) (ha':v≠ .any):ie C k Z (λx=>getAttr x name true) (.loc l) (λW r=>aw W v r) Z:=by
 intro W ra q;refine Op.look λA s Q hr I hq=> ?_;refine Ke (hl.at I q) λx dx sl od ex hx hdx u=>?_;refine bI u λhs IA=>?_;refine c12 (hs.get hi) λr hr' qr=>?_;have X:=fb O I;exact get_bind X IA hga (findObj_data hc ha hn ht) hk (s8 (slot_get (s:={s with toks:=s.toks+1}) X IA hp (by simpa using hr') (handed_on (qC qr hv ha') (hq _ _ qr))))
end
section
variable {prog:Program} {w:World} {A:Around} {E:Value->Shared->Prop} {s:Shared} {K:Frag} {R:Result->Shared->Prop}
theorem CS (X:K.In s.heap) (I:InstAt s.heap x ox C od) (hp:slotIn K p C=some i) (hi:i<1000)
  (e:{ox with slots:=(ox.slots++Array.replicate (i+1 - ox.slots.size) none).setIfInBounds i (some v)}=ox')
  (h:R (.ok (.ret .none)) {s with heap:=s.heap.update x λo=>{o with slots:=(o.slots++Array.replicate (i+1 - o.slots.size) none).setIfInBounds i (some v)}}):
  codeAny (model prog w) A (.call (.builtin "member_descriptor.__set__") ⟨[.ref p,.ref x,v],[]⟩) R s:=by
 rcases slot_of X hp with⟨n,tn,owner,behind,tb,d,sl,cd,q⟩;refine ve q λho hc hm hb z=>?_;subst z
 obtain⟨hh,g,dr,t,os⟩:=s;have T:=I.type (M:=model prog w);have M1:=looks_mroIn (M:=model prog w) X hm;have M2:Looks (model prog w) hh (Slots.slotNamesOf (.ref C)) cd.slotNames:=(looks_clsIn X hc).andThen .now;have hx:=I.at_;dsimp only at ho hx T M1;have g0:=looks_field (M:=model prog w) ho 0 (v:= .str n tn) rfl;have g1:=looks_field (M:=model prog w) ho 1 (v:=owner) rfl;have g3:=looks_field (M:=model prog w) ho 3 (v:= .builtin "proto.slot#set") rfl;have g4:=looks_field (M:=model prog w) ho 4 (v:= .int behind tb) rfl;have g5:Looks (model prog w) hh (Builtin.Getset_descriptor.descrItself (.ref p)) [.ref p]:=((Looks.ld (part:=none) ho).andThen .now).andThen (Looks.of_pure (by kernel_rfl));refine codeAny_call_builtin KF.slot_mset.plain KF.entry_mset (KF.slot_mset.check _ _ _ _ _ _ _ _ ⟨_,ho,rfl⟩ (KF.args_mset _ _ _) ?_);delta Builtin.«member_descriptor.__set__» Builtin.Getset_descriptor.descrSet Builtin.Getset_descriptor.descrStoreThrough Builtin.Getset_descriptor.descrCheckInstance Builtin.Getset_descriptor.descrNameAndClass isInstance
 repeat lk
 refine⟨Code.quiet_builtin _ (by decide+kernel),codeAny_builtin KF.entry_slotset ?_⟩;unfold Builtin.«proto.slot#set» Slots.target
 repeat lk
 rw [ay hb];refine aQ (aj ?_);delta setSlotAt;dsimp only;rw [ay (by rw [jf];omega)];exact wpAny_updatePart hx (aQ h)
end
section
variable {C:Cx} {k:Nat} {W:Wd} {Z aB:St}
theorem kT (O:C.Ok) (hl:AH Z l c d vs) (hs:findIn C.K (.ref c) "__setattr__"=some (some (.builtin "object.__setattr__")))
  (hp:plainOver C.K c=true) (ht:takerIn C.K c name=some (some (.ref p))) (hT:typeIn C.K (.ref p)=some (.type "member_descriptor")) (hi:slotIn C.K p c=some i) (hz:i<1000):
  di C k Z (λx y=>setAttr x name y) (.loc l) v (λw g=>True) (Z.set l (.slots c d (gG vs i v))):=by
 intro W ra rb q qv A s outer hr hA hS I;refine Ke (hl.at I q) λx dx sl od ex hx hdx u=>?_;refine bI u λhsl IA=>?_;have X:=fb O I;refine set_plain X IA hs (osa_descr (s:={s with toks:=s.toks+1}) KF.slot_mset (show C.K.In s.heap from X) IA hp ht hT (CS (s:={s with toks:=s.toks+1}) (show C.K.In s.heap from X) IA hi hz rfl ?_));refine⟨W,.refl W,I.upd (t:=s.toks+1) (d:=s.drawn) ex (ez _ _ _) (jt _ hx rfl) ⟨dx,_,hdx,?_,hsl.put qv (i:=i)⟩ (by omega),trivial⟩;have e:(sl++List.replicate (i+1 - sl.length) none).toArray.setIfInBounds i (some rb)=((sl++List.replicate (i+1 - sl.length) none).set i (some rb)).toArray:=by simp
 rw [<-e];have e2:(sl++List.replicate (i+1 - sl.length) none).toArray=sl.toArray++Array.replicate (i+1 - sl.toArray.size) none:=by apply u7;simp
 rw [e2]
end
end V
end
section
namespace V
open Builtin Builtin.Str
section
variable {C:Cx} {k:Nat} {sc:Scope} {A:Around} {W:Wd} {env:Env} {ms ai aZ b6 aK:List (Option AV)} {Z ae aN bX aB:St} {s:Shared}
theorem px (O:C.Ok) (hl:Z l=some (.inst c d)) (hd:Z d=some (.dict es)) (hga:findIn C.K (.ref c) "__getattribute__"=some (some (.builtin "object.__getattribute__"))) (hk:findIn C.K (.ref c) "__getattr__"=some none)
  (ht:typeIn C.K (.ref f)=some (.type "function"))
  (hf: ∀(xs:List (Tok×Value)) (n:Nat),xs.length=es.length->findObj C.K c (some (tabOf C.w.params (es.map (·.1)) xs n)) name=some (.bind (.builtin "function.__get__") (.ref f))):
  ie C k Z (λx=>getAttr x name true) (.loc l) (λW r=>aw W (.bm f l) r) Z:=by
 intro W ra q A s outer hr hA hS I;refine xr (I.inst hl hd q) λx dx xs n z=>?_;subst z;intro hdx IA v u;refine bI u λhlen hvs=>?_;refine c12 q λx' ex Pa=>?_;clear q;cases Pa;have X:=fb O I;refine get_bind X IA hga (hf xs n hlen) hk (s8 (fn_get (s:={s with toks:=s.toks+1}) X ht ?_));refine handed_on rfl ?_;refine bI I.cz λn1 n2=>?_;have g:(s.heap.push (methodObj (.ref f) (.ref x))).get? s.heap.objs.size=some (methodObj (.ref f) (.ref x)):=dZ _ rfl;refine bI (I.f6 (t:=s.toks+1) (d:=s.drawn) n1 n2 (a9 _ _) g) λle I'=>⟨_,le,I',?_⟩;refine Ht x s.heap.objs.size (methodObj (.ref f) (.ref x)) (le.1 _ _ ex) rfl ?_ rfl rfl;show(if _ then _ else _)=_
 rw [aF rfl]
theorem A0 (h:Cd C k Z (.ext f) (.loc l::as) kw v aB):Ca C k Z (.bm f l) as kw v aB:=by
 intro W rf df fp qf qa qk A s outer hr hA hS I;refine Hg qf λa b o e q=>?_;clear qf;subst q;intro hb c1 c2;have ho:=I.frozen hb (by rw [c1];decide);obtain⟨oc,od,dt,sl⟩:=o;simp only at c1 c2;subst c1 c2;refine s8 (mB ?_);refine(?_:wpAny _ A.in1 (callAny (.ref b) _) _ _ _);refine aj (wpAny_load ho ?_);refine aQ ⟨rfl,?_⟩;refine kZ (h W (.ref f) (.ref a::df) fp rfl (.cons (i12 a e rfl) qa) qk A s outer hr hA hS I) λr s' z=> ?_;rcases r with e | (v | _ | _ | _)<;>first | exact z | exact z.elim
theorem ux {Q:List Value->Shared->Prop} (h:IsL Z v xs) (hz:xs.length<=sizeLine) (I:Inv C W Z s) (q:aw W v rv) (g: ∀h' vs,(∀b o,s.heap.get? b=some o->h'.get? b=some o)->aU W xs vs->Q vs {s with heap:=h'}):StarOf C.M A No rv Q s:=by refine Ep (h.is q I) λla vs n hl ks=>?_;have hT:s.TypeIs (.ref la) "list":=⟨_,hl,rfl⟩;refine aj (A1 hT PySem.F.slot_list_iter.lookup (aQ ⟨rfl,?_⟩));exact wpAny_collect_seq la (.inl rfl) hl rfl rfl (λh' hk=>g h' _ hk (by simpa using ks)) (by simp [ks.length];exact hz)
theorem yt {Q:List Value->Shared->Prop} (h:IsL Z v xs) (hz:xs.length<=sizeLine) (H:At C sc A W env ms Z s) (q:aw W v rv) (g: ∀s' vs,At C sc A W env ms Z s'->aU W xs vs->Q vs s'):StarOf C.M A No rv Q s:=by
 refine ux h hz H.inv q λh' vs hk ks=>g _ vs ⟨H.inv.same hk,?_⟩ ks;have F:=H.fr;obtain⟨mr,hn,hv⟩:=F.ns;refine⟨F.scope,F.globals,F.builtins,F.ok,⟨mr,?_,hv⟩,λi x hx=> ?_,F.mi,λx a hx=> ?_,F.iQ,?_,?_⟩
 ·refine lN hn λo es ep ho hd r=>?_;clear hn;exact zD o es ep (hk _ _ ho) hd r
 ·obtain⟨a,ov,h1,⟨o,ho,hd⟩,h3⟩:=F.cells i x hx;exact⟨a,ov,h1,⟨o,hk _ _ ho,hd⟩,h3⟩
 ·obtain⟨h1,h2,h3,ov,o,ho,hd,hc⟩:=F.mZ x a hx;exact⟨h1,h2,h3,ov,o,hk _ _ ho,hd,hc⟩
 ·obtain⟨o,es,n,ho,hc,hd⟩:=F.jc;exact⟨o,es,n,hk _ _ ho,hc,hd⟩
 ·obtain⟨fenv,rest,L,h1,h2,h3,h4,h5,h6,h7⟩:=F.pE;refine⟨fenv,rest,L,h1,h2,h3,h4,h5,h6,?_⟩;refine aP h7 (λu=>?_) λz=>?_
  ·rcases u with⟨rfl,o,es,n,ho,hc1,hd⟩
   exact .inl ⟨rfl,o,es,n,hk _ _ ho,hc1,hd⟩
  ·exact .inr z
theorem Fg (h1:Ev C k sc ms Z e v ai ae) (hl:IsL ae v xs) (hz:xs.length<=sizeLine) (h2:Es C k sc ai ae pos rest vs aK aB)
  (he: ∀env,starEach (.Starred e p::rest) env=(true,eval e env)::starEach rest env):Es C k sc ms Z pos (.Starred e p::rest) (xs++vs) aK aB:=by
 intro A W env s hr H;refine(?_:wpAny C.M A (spliced (backTo pos (starEach (.Starred e p::rest) env))) _ _ _);rw [he];refine ks_spliced (bf (h1 A W env s hr H) λaR r aI aA aO q=>yt hl hz aO q λaT us aG qs=> ?_);exact bf (h2 A aR env aT hr aG) λbh rs bt ax br qr=>bz (aA.trans ax) br ((qs.mono ax).append qr)
theorem jS {Q:Value->Shared->Prop} (h1:Ev C k sc ms Z o ov ai ae) (hm:ie C k ae (λx=>getAttr x name true) ov (λW r=>aw W f r) ae)
  (hb: ∀env t,attributeBase o name env t=t) (hf:methodCallForm (args.length+kws.length) (backTo pos (starEach args env)) (backToKw pos (keywordEach kws env))=false) (hr:bY C A k) (H:At C sc A W env ms Z s)
  (g: ∀W' rf s',W.le W'->At C sc A W' env ai ae s'->aw W' f rf->wpAny C.M A (callWith pos rf [] (backTo pos (starEach args env)) (backToKw pos (keywordEach kws env))) Q No s'):wpAny C.M A (eval (.Call (.Attribute o name apos) args kws pos) env) Q No s:=by
 rw [jj,hb];refine cX (h1 A W env s hr H) λaR ro aI aA aO qo=>aj (cF ?_);delta methodCall;rw [hf];refine aj (cE ?_);refine aj ?_;refine Op.in rfl (hm _ ro (qo.mono (a8 aO.fr))) hr aO λbh r aT ax aG q tk u=>aQ ?_;have hp:methodCallPos false o env apos pos=pure pos:=by delta methodCallPos;simp
 exact aj (eL hp (g _ r aT (aA.trans ax) aG (tk q)))
theorem DE (h1:Ev C k sc ms Z o ov ai ae) (hm:ie C k ae (λx=>getAttr x name true) ov (λW r=>aw W f r) ae) (h2:Ev C k sc ai ae e b aZ aN) (hl:IsL aN b xs) (hz:xs.length<=sizeLine) (hk:Kp C f) (h3:Ca C k aN f xs [] v aB)
  (hb: ∀env t,attributeBase o name env t=t) (hf: ∀env,methodCallForm 1 (backTo pos (starEach [.Starred e p] env)) []=false) (he: ∀env,starEach [.Starred e p] env= [(true,eval e env)]):
  Ev C k sc ms Z (.Call (.Attribute o name apos) [.Starred e p] [] pos) v aZ aB:=by
 intro A W env s hr H;refine jS (kws:= []) h1 hm hb (hf env) hr H λaR rf aI aA aO qf=> ?_;rw [he];refine cI ?_;refine(?_:wpAny C.M A (evalArgs rf true [(true,do let v<-eval e env;standAt pos;pure v)] []) _ _ _);refine ks_lone (bf (h2 A aR env aI hr aO) λbh rb aT ax aG qb=>yt hl hz aG qb λbt us br qs=>⟨hk _ _ _ _ br.inv (qf.mono ax),?_⟩);exact h3.in hr br (qf.mono ax) qs .nil λbS r bt bg br q=>bz (aA.trans (ax.trans bg)) br q
end
end V
end
section
namespace V
open Builtin Builtin.Str
theorem oM {α:Type} {E:Value->Shared->Prop} {f:α->PUnit->Sem (ForInStep PUnit)} (P:Nat->Shared->Prop): ∀(l:List α) (s:Shared) (j:Nat),P j s->
  (∀i x s,l[i]? =some x->P (j+i) s->wpAny M A (f x ⟨⟩) (λr s'=>r= .yield ⟨⟩/\P (j+i+1) s') E s)->wpAny M A (forIn l ⟨⟩ f) (λv s'=>P (j+l.length) s') E s:=by
 intro aH;induction aH with
 | nil=>
  intro s j h0 v;exact by rw [vL];exact aQ h0
 | cons x l ih=>
  intro s j h0 hs;rw [nv];refine aj (bH (hs 0 x s rfl h0) (λr s' u=> ?_) λv w e=>e);refine bI u λe z=>?_;clear u;subst e;refine bH (ih s' (j+1) z λi y s hi hp=> ?_) (λv s'' q=> ?_) λv w e=>e
  ·have e1:j+1+i=j+(i+1):=by omega
   rw [e1]at hp⊢;exact hs (i+1) y s hi hp
  ·have e1:j+(x::l).length=j+1+l.length:=by rw [cq];omega
   rw [e1];exact q
section
variable {prog:Program} {w:World} {A:Around} {E:Value->Shared->Prop} {s:Shared}
noncomputable abbrev K0 (prog:Program) (w:World):=PySem.strKind prog w
noncomputable abbrev tab (es:List DictEntry) (n:Nat):Obj:={cls:= .type "dict",data:= .dict es.toArray n}
theorem EA {Q:Unit->Shared->Prop} (hkey:(K0 prog w).is k key=true) (hd:s.heap.get? d=some (tab es n)) (hk:KeysOf (K0 prog w) es.toArray) (hn:es.any (λe=>(K0 prog w).is k e.key)=false) (hz:es.length<=sizeLine)
  (h: ∀h',h'.get? d=some (tab (es++ [⟨(K0 prog w).hash k,key,v⟩]) (n+1))->Heap.SameBut d s.heap h'->Q () {s with heap:=h'}):wpAny (model prog w) A (dictPut d ((K0 prog w).hash k) key v) Q E s:=by
 refine aj (wpAny_dictFind_of (knd:=K0 prog w) hkey hd rfl hk ?_);have e:(es.toArray.findIdx? λe=>(K0 prog w).is k e.key)=none:=by rw [List.findIdx?_toArray,List.findIdx?_eq_none_iff];intro x hx;have:=zJ.mp hn x hx;simpa using this
 rw [e];refine wpAny_updateDictKeys hd rfl (h _ ?_ (zH ..)) (by simpa using hz) (by simp);rw [jt _ hd rfl];simp [Obj.mapDictKeys,tab]
theorem yZ {Q:Unit->Shared->Prop} (ha:s.heap.get? a=some (tab es n)) (hd:s.heap.get? d=some (tab [] 0)) (hne:a≠d) (ns:(a==sysModules)=false) (hk:KeysOf (K0 prog w) es.toArray) (kvs:List (Str×Value)) (hp:Pairs (K0 prog w) es kvs) (hnd:(kvs.map (·.1)).Nodup) (hz:es.length<=sizeLine)
  (h: ∀h',h'.get? d=some (tab es es.length)->Heap.SameBut d s.heap h'->Q () {s with heap:=h'}):wpAny (model prog w) A (mergeMapping d (.ref a) true) Q E s:=by
 have hT:s.TypeIs (.ref a) "dict":=⟨_,ha,rfl⟩;refine aj (Bo (b:=true) hT (by rw [sr];kernel_rfl) ?_);refine aj (A1 hT PySem.F.slot_dict_iter.lookup (aj (aQ ?_)));have e0:(some (Value.builtin "dict.__iter__")==some (Value.builtin "dict.__iter__"))=true:=by decide
 rw [e0];dsimp only;rw [ns];have hl:kvs.length=es.length:=hp.length.symm;have JC: ∀(i:Nat) (e:DictEntry),es[i]? =some e-> ∃k v,kvs[i]? =some (k,v)/\(K0 prog w).is k e.key=true/\e.val=v/\e.hash=(K0 prog w).hash k:=λi e he=>by
  have hi:i<kvs.length:=by rw [hl];exact(lF.mp he).1
  refine bI (hp.get? (k:=(kvs[i]).1) (v:=(kvs[i]).2) he (ng hi)) λh1 h2=>?_;refine c12 (hk e (by simpa using ik he)) λk' q1 q2=>?_;have:=(K0 prog w).inj _ _ _ q1 h1;exact M6 _ _ (ng hi) h1 h2 (by rw [q2,this];rfl)
 refine aj (Dj hd rfl ?_);have rest:wpAny (model prog w) A (do
   let size:=(<-dictEntries a).size
   let epoch<-dictEpoch a
   for i in List.range size do
    let some e:=(<-dictEntries a)[i]? | unsupported "dict.changed-during-merge"
    holding [e.key,e.val] do
     if true then
      if(<-dictFind d e.key e.hash).isSome then rule "dict.merge.duplicate-key";raiseNew (<-newExc (.type "KeyError") [e.key])
     dictPut d e.hash e.key e.val
    if(<-dictEpoch a) !=epoch then unsupported "dict.changed-during-merge") Q E s:=by
  refine aj (Dj ha rfl (aj (wpAny_dictEpoch ha rfl ?_)))
  let P:Nat->Shared->Prop:=λi s'=>s'.heap.get? d=some (tab (es.take i) i)/\Heap.SameBut d s.heap s'.heap/\s'={s with heap:=s'.heap}
  refine aj (bH (oM P (List.range es.length) s 0 ⟨by simpa using hd,⟨rfl,λu g=>rfl⟩,rfl⟩ λi x s1 hx hP=> ?_) (λu s' hq=>aQ ?_) λu g e=>e)
  ·have hi:i<es.length:=by have:=(lF.mp hx).1;simpa using this
   have hxi:x=i:=by rw [List.getElem?_range hi]at hx;exact(dI hx).symm
   subst hxi;refine nM hP λNq hP2 Pb=>?_;clear hP;rw [oU]at Nq⊢;have ha1:s1.heap.get? a=some (tab es n):=(hP2.2 a hne).trans ha;have he:es[x]? =some es[x]:=ng hi;refine tO (JC x _ he) λk v hkv hkey hval hhash=>aj (Dj ha1 rfl ?_);rw [F4,he];dsimp only;have hk1:KeysOf (K0 prog w) (es.take x).toArray:=λe hm=>hk e (by simpa using List.mem_of_mem_take (by simpa using hm));have hno:(es.take x).any (λe=>(K0 prog w).is k e.key)=false:=by
    rw [zJ];intro e hm hh;refine cG (ui hm) λj hj=>?_;have hjx:j<x:=by have:=(lF.mp hj).1;simp at this;omega
    rw [Fx hjx]at hj;refine tO (JC j e hj) λk2 v2 Nr L6 _ _=>?_;have e2:k2=k:=(K0 prog w).inj _ _ _ L6 (by simpa using hh);have g1:(kvs.map (·.1))[j]? =some k:=by rw [gr,Nr,e2];rfl
    have g2:(kvs.map (·.1))[x]? =some k:=by rw [gr,hkv];rfl
    have lj:=(lF.mp g1).1;have:=(List.getElem?_inj lj hnd).mp (g1.trans g2.symm);omega
   refine aj (cE ?_);rw [hhash];refine aj (wpAny_dictFind_of (knd:=K0 prog w) hkey Nq rfl hk1 ?_);have e:((es.take x).toArray.findIdx? λe=>(K0 prog w).is k e.key)=none:=by rw [List.findIdx?_toArray,List.findIdx?_eq_none_iff];intro y hy;have:=zJ.mp hno y hy;simpa using this
   rw [e];refine EA hkey Nq hk1 hno (by rw [List.length_take];omega) λh' g1 g2=> ?_;have ha2:h'.get? a=some (tab es n):=(g2.2 a hne).trans ha1;refine aj (wpAny_dictEpoch (s:={s1 with heap:=h'}) ha2 rfl ?_);simp only [Cf,iO,jh];have e3:es.take (x+1)=es.take x++ [⟨(K0 prog w).hash k,(es[x]).key,(es[x]).val⟩]:=by
    rw [DR,he];have:es[x]=⟨(K0 prog w).hash k,(es[x]).key,(es[x]).val⟩:=by rw [<-hhash]
    rw [<-this];rfl
   exact aQ ⟨rfl,by rw [e3];exact g1,⟨g2.1.trans hP2.1,λb hb=>(g2.2 b hb).trans (hP2.2 b hb)⟩,by rw [Pb]⟩
  ·refine nM hq λq1 q2 q3=>?_;clear hq;rw [q3];have e4:0+(List.range es.length).length=es.length:=by simp
   rw [e4,List.take_of_length_le (bT _)]at q1;exact h _ q1 q2
 refine aj (Dj ha rfl ?_);rw [<-Array.forIn_toList];refine aj (bH (oM (λu s'=>s'=s) es s 0 rfl λi x s1 hx hP=> ?_) (λu s' hq=> ?_) λu g e=>e)
 ·subst hP;refine fq (JC i x hx) λk v _ hkey _=>cG (xy hkey) λt ht=>?_;rw [ht];exact aQ ⟨rfl,rfl⟩
 ·subst hq;exact rest
theorem rM {Q:Addr->Shared->Prop}
  (h:wpAny (model prog w) A x (λrm aT=>wpAny (model prog w) A (mergeMapping s.heap.objs.size rm true) (λu bt=>Q s.heap.objs.size bt) No aT) No {s with heap:=s.heap.push {cls:= .type "dict",data:= .dict #[]}}):
  wpAny (model prog w) A (mergedKeywords f [(none,x)]) Q No s:=by
 delta mergedKeywords;refine aj (wpAny_alloc (aj (cE ?_)));refine aj ?_;rw [nv];refine aj ?_;dsimp only;refine aj ?_;rw [aF (show([]:List (Str×Sem Value)).isEmpty=true from rfl)];refine aQ ?_;refine aj (bH h (λrm aT jD=> ?_) λu v e=>e.elim);refine aj (jN ?_);refine bH (Q:=λu bt=>Q s.heap.objs.size bt) (E:=No) (cE (wpAny_tryCatch (jN (bH jD (λu v q=>q) λu v e=>e.elim)))) (λu bt q=> ?_) λu v e=>e.elim;refine aQ ?_;dsimp only;rw [vL];refine aQ ?_;rw [aF (show([]:List (Str×Sem Value)).isEmpty=true from rfl)];exact aQ (aQ q)
theorem Bt {Q:List (Str×Value)->Shared->Prop} (hd:s.heap.get? d=some (tab es n)) (hp:Pairs (K0 prog w) es kvs) (h:Q kvs s):wpAny (model prog w) A (keywordsIn f d) Q No s:=by
 refine aj (Dj hd rfl ?_);rw [<-Array.forIn_toList];have key: ∀(es:List DictEntry) (kvs acc:List (Str×Value)) (g:DictEntry->List (Str×Value)->Sem (ForInStep (List (Str×Value)))) (R:List (Str×Value)->Shared->Prop),Pairs (K0 prog w) es kvs->(∀(x:Str) (t:Tok) (hh:Int) (v:Value) acc,g ⟨hh,.str x t,v⟩ acc=pure (.yield (acc++ [(x,v)])))->R (acc++kvs) s->wpAny (model prog w) A (forIn es acc g) R No s:=by
  intro es
  induction es with
  | nil=>intro kvs acc g R hp hg hR;cases hp;rw [vL];rw [iM]at hR;exact aQ hR
  | cons e es ih=>
   intro kvs acc g R hp hg hR;cases hp with
   | @cons _ kv _ kvs h1 h2 h3=>obtain⟨eh,ek,ev⟩:=e;refine cG (xy h1) λt ht=>?_;simp only at ht h2;subst ht h2;rw [nv,hg];refine aj (aQ ?_);refine ih kvs _ g R h3 hg ?_;rw [eX];exact hR
 refine aj (key es kvs [] _ _ hp (λx t hh v acc=>rfl) ?_);exact aQ h
end
section
variable {C:Cx} {k:Nat} {sc:Scope} {A:Around} {W:Wd} {env:Env} {ms ai aZ b6 aK:List (Option AV)} {Z ae aN bX aB:St} {s:Shared}
theorem Dw (I:Inv C W Z s) (h:qB Z l es) (hn:DN es) (q:aw W (.loc l) rv):
  ∃a ds n kvs,rv= .ref a/\(a==sysModules)=false/\s.heap.get? a=some (tab ds n)/\KeysOf (K0 C.prog C.w) ds.toArray/\Pairs (K0 C.prog C.w) ds kvs/\(kvs.map (·.1)).Nodup/\bC W es kvs/\ds.length=es.length:=by
 refine Bj (I.dict h hn q) λa kvs e ns u hk=>?_;refine NW u λo ds n g v c4 h1 h2 h3=>nM v λc1 c2 c3=>?_;obtain⟨oc,od,dt,sl⟩:=o;simp only at c1 c2 c3 c4;subst c1 c2 c3 c4;refine⟨a,ds.toList,n,kvs,rfl,ns,by simpa using g,by simpa using h1,h2,h3,hk,?_⟩;rw [h2.length,hk.length]
theorem Hn (h1:Ev C k sc ms Z o ov ai ae) (hm:ie C k ae (λx=>getAttr x name true) ov (λW r=>aw W f r) ae)
  (h2:Es C k sc ai ae pos args as aZ aN) (h3:Ev C k sc aZ aN e (.loc l) b6 bX) (hd:qB bX l es) (hn:DN es) (hz:es.length<=sizeLine) (hk:Kp C f) (h4:Ca C k bX f as es v aB)
  (hb: ∀env t,attributeBase o name env t=t) (hf: ∀env,methodCallForm (args.length+1) (backTo pos (starEach args env)) (backToKw pos (keywordEach [⟨none,e,p⟩] env))=false) (hs: ∀env,(backTo pos (starEach args env)).any (·.1)=false)
  (he: ∀env,backToKw pos (keywordEach [⟨none,e,p⟩] env)= [(none,do let v<-eval e env;standAt pos;pure v)]):
  Ev C k sc ms Z (.Call (.Attribute o name apos) args [⟨none,e,p⟩] pos) v b6 aB:=by
 intro A W env s hr H;refine jS (kws:= [⟨none,e,p⟩]) h1 hm hb (hf env) hr H λaR rf aI aA aO qf=> ?_;rw [he];refine cI ?_;have key: ∀(vs:List Value) (bh:Wd) (aT:Shared),aR.le bh->At C sc A bh env aZ aN aT->aU bh as vs->wpAny C.M A (mergedKeywords rf [(none,do let v<-eval e env;standAt pos;pure v)]>>=λd=>(pure vs:Sem (List Value))>>=λps=>holding (.ref d::ps) (keywordsIn rf d)>>=λkw=>pure (⟨ps,kw⟩:Args))
   (λa aI=>(∃k,Looks C.M aI.heap (keeperOf rf) k)/\wpAny C.M A (call rf ([]++a.pos) a.kw) (ic C sc A W env b6 aB λW r=>aw W v r) No aI) No aT:=by
  intro vs bh aT ax aG qv;refine aj (rM ?_);have n0:=aG.inv.cz;have own: ¬Own env aT.heap.objs.size:=λq=>by obtain⟨_,_,o,ho,_⟩:=aG.fr.own q;exact absurd (ig ho) (iN _)
  have Pc:=aG.fr.jV own n0.1;have Hp:At C sc A bh env aZ aN {aT with heap:=aT.heap.push (tab [] 0)}:=⟨aG.inv.same (a9 _ _),aG.fr.keep own n0.1 Pc λb o j z=>a9 _ _ _ _ z⟩;have jk: ∀(i:Nat) (rv:Value) (ob:Obj),ob=tab [] 0->Jk ob/\ob.cls≠ .type "frame":=λi rv ob z=>by subst z;exact⟨λn z=>by cases z;decide,λz=>by have:=nq z;revert this;decide⟩
  have Kh:nV C bh env .none (λj u1 ob=>ob=tab [] 0) 0 aT.heap.objs.size {aT with heap:=aT.heap.push (tab [] 0)}:=⟨⟨_,.none,dZ _ rfl,c5,rfl⟩,n0,own,aG.inv.mS n0.1⟩;refine kQ jk Hp Kh (aK:=b6) (aB:=bX) (R:=λW r=>aw W (.loc l) r) (λbS bg br=>aj (bf (h3 A bS env _ hr br) λnD r jd eW gu q=>aj (cF (aQ (bz eW gu q))))) (λbS X r hc q=>q.taken hc) λbS rm bt bg br jJ Ed=> ?_;refine xr (Dw br.inv hd hn Ed) λa ds n kvs m=>?_;subst m;intro ns ga hk1 g;refine kD g λhp1 hnd Pd hlen=>?_;refine fq jJ.ex λob rs hob _ u=>?_;subst u;have hne:a≠aT.heap.objs.size:=λz=>by refine c12 Ed λa' e1 e2=>?_;clear Ed;cases e2;exact jJ.fresh.2 l (z▸e1)
  refine yZ (prog:=C.prog) (w:=C.w) ga hob hne ns hk1 kvs hp1 hnd (by rw [hlen];exact hz) λh' g1 g2=>aj (aQ (aj (cE (Bt g1 hp1 (aQ ?_)))));have mL:At C sc A bS env b6 bX {bt with heap:=h'}:=⟨br.inv.but jJ.fresh.1 jJ.fresh.2 λb o nb z=>(g2.2 b nb).trans z,br.fr.keep jJ.own jJ.fresh.1 (br.fr.jV jJ.own jJ.fresh.1) λb o nb z=>(g2.2 b nb).trans z⟩;refine⟨hk _ _ _ _ mL.inv ((qf.mono ax).mono bg),?_⟩;exact h4.in hr mL ((qf.mono ax).mono bg) (qv.mono bg) Pd λnD r jd eW gu q=>bz (aA.trans (ax.trans (bg.trans eW))) gu q
 have fin: ∀{t:Sem (List Value×Option Value)},wpAny C.M A t (λpl aT=>pl.2=none/\ ∃bh,aR.le bh/\At C sc A bh env aZ aN aT/\aU bh as pl.1) No aI->True:=λj=>trivial;have hpos:wpAny C.M A (spliced (backTo pos (starEach args env))) (ic C sc A aR env aZ aN λW r=>aU W as r) No aI:=h2 A aR env aI hr aO;rcases hargs:backTo pos (starEach args env)with _ | ⟨⟨b,x⟩,r⟩
 ·rw [hargs]at hpos;refine(?_:wpAny C.M A (spliced _>>=_) _ _ _);refine aj (bf hpos λbh df aT ax aG qa=>aj (aQ (cE ?_)));exact key df bh aT ax aG qa
 ·cases b with
  | false=>rw [hargs]at hpos;refine(?_:wpAny C.M A (spliced _>>=_) _ _ _);refine aj (bf hpos λbh df aT ax aG qa=>aj (aQ (cE ?_)));exact key df bh aT ax aG qa
  | true=>
   rcases r with _ | ⟨y,r⟩
   ·exact absurd hargs (qJ (hs env) x)
   ·rw [hargs]at hpos;refine(?_:wpAny C.M A (spliced _>>=_) _ _ _);refine aj (bf hpos λbh df aT ax aG qa=>aj (aQ (cE ?_)));exact key df bh aT ax aG qa
end
end V
end
section
namespace V
open Builtin Builtin.Str
section
variable {prog:Program} {w:World} {A:Around} {E:Value->Shared->Prop} {s:Shared}
theorem ID {Q:Unit->Shared->Prop} (hd:s.heap.get? d=some (tab es n)) (hp:Pairs (K0 prog w) es kvs) (hx:x∉kvs.map (·.1))
  (h: ∀h' t,h'.get? d=some (tab (es++ [⟨(K0 prog w).hash x,.str x t,v⟩]) (n+1))->Heap.SameBut d s.heap h'->Q () {s with heap:=h',toks:=s.toks+1}):wpAny (model prog w) A (nsSet d x v) Q E s:=by
 have hno:es.toArray.findIdx? (λe=>e.key.isStr x)=none:=by
  rw [List.findIdx?_toArray,List.findIdx?_eq_none_iff];intro e he;refine cG (ui he) λi hi=>?_;have hl:i<kvs.length:=by rw [<-hp.length];exact(lF.mp hi).1
  refine bI (hp.get? (k:=(kvs[i]).1) (v:=(kvs[i]).2) hi (ng hl)) λh1 _=>?_;refine cG (xy h1) λt ht=>?_;rw [ht];cases q:(Value.str (kvs[i]).1 t).isStr x with
  | false=>rfl
  | true=>
   have:(kvs[i]).1=x:=by simpa [Value.isStr]using q
   exact absurd (this▸bM.mpr ⟨_,List.getElem_mem hl,rfl⟩) hx
 have href:es.any (·.refKey)=false:=by
  rw [zJ];intro e he hh;refine cG (ui he) λi hi=>?_;have hl:i<kvs.length:=by rw [<-hp.length];exact(lF.mp hi).1
  refine bI (hp.get? (k:=(kvs[i]).1) (v:=(kvs[i]).2) hi (ng hl)) λh1 _=>?_;refine cG (xy h1) λt ht=>?_;delta DictEntry.refKey at hh;rw [ht]at hh;simp at hh
 have hany:es.toArray.any (·.refKey)=false:=by rw [List.any_toArray];exact href
 intro Γ p D9;simp only [nsSet,strHash,vE,Sem.wp_cmd_ask,Sem.wp_pure',Sem.wp_cmd_mkText];rw [Sem.wp_loadPart_of (model prog w) Γ _ p {s with toks:=s.toks+1} (o:=tab es n) _ hd];simp only [aRefKeyMayBeTheName_eq,aRefKeyMayBeTheNameByArray,hany,Bool.and_false,iO,jh,Sem.wp_cmd_updatePart];refine⟨by rw [hd];rfl,?_⟩;have e:Obj.putName x (PyData.keyHash w.params x) (.str x s.toks) v (tab es n)=tab (es++ [⟨(K0 prog w).hash x,.str x s.toks,v⟩]) (n+1):=by simp only [Obj.putName_eq,Obj.putNameByArray,hno];simp;rfl
 have g:=jt (Obj.putName x (PyData.keyHash w.params x) (.str x s.toks) v) hd (by rw [e];rfl);rw [e]at g;exact h _ _ g (zH ..)
end
section
variable {C:Cx} {k:Nat} {sc:Scope} {A:Around} {W:Wd} {env:Env} {ms ai aZ b6 aK:List (Option AV)} {Z ae aN bX aB:St} {s:Shared}
theorem bC.M5 (q:aw W v r): ∀{bs:List (Str×AV)} {ks:List (Str×Value)},bC W bs ks->bC W (bs++ [(x,v)]) (ks++ [(x,r)]):=by
 intro aH;induction aH with
 | nil=>
  intro w h;exact by subst h;exact jE r ([]) rfl q rfl
 | cons dQ bs ih=>intro w h;obtain⟨n,y⟩:=dQ;refine gB h λu ks' a b=>jE u (ks'++ [(x,r)]) rfl a (ih b)
theorem Ap (hl:Z l=none) (hn:DN kw)
  (h: ∀df:List Value,df.length=as.length-> ∀fp:List (Str×Value),fp.map (·.1)=kw.map (·.1)-> ∃f:Addr->Str×Value->PUnit->Sem (ForInStep PUnit),bindArgs fd ⟨df,fp⟩=(alloc {cls:= .type "dict",data:= .dict #[]}>>=λd=>forIn fp ⟨⟩ (f d)>>=λ_=>pure ((bs.map (·.1)).zip df++ [(x,.ref d)]))/\
   ∀d n v u,f d (n,v) u=(nsSet d n v>>=λ_=>pure (.yield ⟨⟩)))
  (hb:bs.map (·.2)=as):Bd C k fd Z as kw (bs++ [(x,.loc l)]) (Z.set l (.dict kw)):=by
 intro W df fp ha hk A s outer hr hA hS I;refine c12 (h df ha.length fp hk.keys) λf e hf=>?_;rw [e];refine aj (wpAny_alloc ?_);refine bI I.cz λn1 n2=>?_;have hnd:(fp.map (·.1)).Nodup:=by rw [hk.keys];exact hn
 have run: ∀(rest done:List (Str×Value)) (es:List DictEntry) (n:Nat) (s':Shared) (P:PUnit->Shared->Prop),done++rest=fp->s'.heap.get? s.heap.objs.size=some (tab es n)->Pairs (sk C) es done->PySem.KeysOf (sk C) es.toArray->
   (∀b o,b≠s.heap.objs.size->s.heap.get? b=some o->s'.heap.get? b=some o)->s.toks<=s'.toks->s'.gens=s.gens->s'.os=s.os->
   (∀(es:List DictEntry) (n:Nat) (s'':Shared),s''.heap.get? s.heap.objs.size=some (tab es n)->Pairs (sk C) es fp->PySem.KeysOf (sk C) es.toArray->(∀b o,b≠s.heap.objs.size->s.heap.get? b=some o->s''.heap.get? b=some o)->s.toks<=s''.toks->s''.gens=s.gens->s''.os=s.os->P ⟨⟩ s'')->
   wpAny C.M A (forIn rest ⟨⟩ (f s.heap.objs.size)) P No s':=by
  intro rest
  induction rest with
  | nil=>intro done es n s' P hd hg hp hk3 hb ht h1 h2 hP;rw [iM]at hd;subst hd;rw [vL];exact aQ (hP es n s' hg hp hk3 hb ht h1 h2)
  | cons p rest ih=>
   intro done es n s' P hd hg hp hk3 hb ht h1 h2 hP;obtain⟨x,v⟩:=p;rw [nv,hf];refine aj (aj (ID (prog:=C.prog) (w:=C.w) hg hp (λhm=> ?_) λh' t g1 g2=>aQ ?_))
   ·rw [<-hd,e9,t9]at hnd;exact hnd.2.2 x hm x (by simp) rfl
   ·refine ih (done++ [(x,v)]) _ _ _ P (by rw [eX];exact hd) g1 ?_ ?_ (λb o nb z=>(g2.2 b nb).trans (hb b o nb z)) (Nat.le_succ_of_le ht) h1 h2 hP
    ·exact hp.append (nW _ _ _ _) _ _
    ·intro e he;rw [List.mem_toArray,cu]at he;refine aP he (λhe=>?_) λhe=>?_
     ·exact hk3 e (by simpa using he)
     ·rw [ju]at he;subst he;exact i12 x (nW _ _ _ _) rfl
 refine aj (run fp [] [] 0 _ _ rfl (dZ _ rfl) .nil (λe he=>by simp at he) (λb o _ z=>a9 _ _ _ _ z) (bT _) rfl rfl λes n s'' g1 hp hk' hb' ht e1 e2=>aQ ?_);obtain⟨hp',gn,dr,tk,os⟩:=s'';dsimp only at e1 e2 g1 hb' ht;subst e1 e2;have hdo:hp'.DictOf (sk C) s.heap.objs.size fp:=⟨_,es.toArray,n,g1,⟨rfl,rfl,rfl⟩,rfl,hk',by simpa using hp,hnd⟩;have L0:W.le (W.name l s.heap.objs.size):=⟨λx b e=>by
  refine(?_:(if x=l then _ else W.ρ x)=some b);split
  ·rename_i z;subst z;rw [I.none_of hl]at e;exact dF e
  ·exact e,λ_ _ e=>e⟩
 refine c12 (yc hdo ((hk.mono L0))) λob o1 o2=>?_;refine bI (I.new (t:=tk) (d:=dr) (o:= .dict kw) hl n1 n2 I.big (λb o z=>hb' b o (λq=>by subst q;exact absurd (ig z) (iN _)) z) o1 o2 ht) λle I'=>⟨_,le,I',?_⟩;refine bC.M5 ?_ (ja (vs:=bs) (by rw [hb];exact ha.mono le));exact i12 _ (by show(if _ then _ else _)=_;rw [aF rfl]) rfl
theorem Inv.setOf (I:Inv C W Z s) (h:Z l=some (.set xs)) (hz:xs.length<scanBound) (q:aw W (.loc l) rv):
  ∃a,rv= .ref a/\W.ρ l=some a/\s.heap.SetOf (sk C) a (λk=>decide (k∈xs)) xs.length:=by
 refine uh q λa e=>c12 (I.obj l a _ e h) λob h1 h2=>?_;have h2:ob.SetObjOf (sk C) (λk=>decide (k∈xs)) xs.length:=h2;exact tZ a rfl e (h2.setOf h1 hz)
theorem Hb (hl:Z l=none):Ca C k Z (.ty "set") [] [] (.loc l) (Z.set l (.set [])):=by
 intro W rf df fp hf ha hk A s outer hr hA hS I;subst hf;subst hk;subst ha;refine call_set_0 λled=>CR (I.newObj (o:= .set []) (ob:={cls:= .type "set",dict:=none,data:= .set #[] 0 (.fresh 0 0 led)}) hl (dZ _ rfl) (bT _) (λW' u=>by
  show Obj.SetObjOf _ _ _ _
  have:=setObjOf_fresh (knd:=sk C) led;simpa using this)) λW' le I' q _=>?_
 exact⟨W',le,I',q⟩
theorem K1 (h:Z l=some (.set xs)) (hz:xs.length<scanBound):Mt C k Z (.loc l) "add" (.bi "set.add"):=by intro W ro pl q;refine Op.look λA s Q hr I hq=> ?_;refine fJ (I.setOf h hz q) λa z=>?_;subst z;intro e hS;exact getMethod_set_add hS (hq _ s.toks ⟨rfl,rfl⟩)
theorem KH (h:Z l=some (.set xs)) (hz:xs.length+1<scanBound) (hy:(if x∈xs then xs else xs++ [x])=ys):Ca C k Z (.bi "set.add") [.loc l,.str x] [] .none (Z.set l (.set ys)):=by
 refine oj λW r1 r2 qa qb A s outer hr hA hS I=>fh qb λt=>NQ (I.setOf h (by omega) qa) λa e Pe=>call_set_add (knd:=sk C) (k:=x) (nW _ _ _ _) rfl Pe hz λh' hs hS'=>c12 hS'.objOf λob g1 g2=>⟨W,.refl W,I.upd (d:=s.drawn) e (λb o n z=>(hs.2 b n).trans z) g1 ?_ (jm _),c5⟩;show Obj.SetObjOf _ _ _ _
 subst hy;have e1:(λk'=>decide (k'∈(if x∈xs then xs else xs++ [x])))=λk'=>decide (k'∈xs) || decide (k'=x):=by
  funext k';by_cases hx:x∈xs
  ·rw [aF hx];by_cases hk':k'=x
   ·subst hk';simp [hx]
   ·simp [hk']
  ·rw [ay hx];simp
 have e2:(if x∈xs then xs else xs++ [x]).length=if decide (x∈xs)=true then xs.length else xs.length+1:=by
  by_cases hx:x∈xs<;>simp [hx]
 rw [e1,e2];exact g2
theorem BO (h:Z l=some (.set xs)) (hz:xs.length<scanBound) (hc:decide (x∈xs)=c):di C k Z (compareOp .In) (.str x) (.loc l) (λW r=>aw W (.bool c) r) Z:=by intro W ra rb qa qb;refine fh qa λt=>?_;refine Op.look λA s Q hr I hq=> ?_;refine NQ (I.setOf h hz qb) λa e hS=>?_;exact wpAny_inSet_of (knd:=sk C) (k:=x) (nW _ _ _ _) rfl hS (hq _ _ (by unfold aw;rw [hc]))
end
end V
end
section
namespace V
open Builtin Builtin.Str
open Sem (wp)
theorem xW:Slot "list_iterator" "__getattribute__" "object.__getattribute__":=
 .of (owner:="object") (n:="__getattribute__") (by rw [uV,uY];kernel_rfl) (by decide+kernel) (by decide+kernel) (by decide+kernel)
  (by first | exact .inl (by decide+kernel) | exact .inr (by decide+kernel)) (by rw [sr];kernel_rfl)
theorem Cb:Slot "wrapper_descriptor" "__get__" "wrapper_descriptor.__get__":=
 .of (owner:="wrapper_descriptor") (n:="__get__") (by rw [uV,uY];kernel_rfl) (by decide+kernel) (by decide+kernel) (by decide+kernel)
  (by first | exact .inl (by decide+kernel) | exact .inr (by decide+kernel)) (by rw [sr];kernel_rfl)
theorem JQ:typeLookup (.type "wrapper_descriptor") "__set__"=pure none:=by rw [uV,uY];kernel_rfl
theorem LJ:typeLookup (.type "wrapper_descriptor") "__delete__"=pure none:=by rw [uV,uY];kernel_rfl
theorem BV:typeOf (.builtin "list_iterator.__next__")=pure (.type "wrapper_descriptor"):=by refine(?_:builtinType _=_);rw [builtinType_eq_fast];kernel_rfl
theorem vw:entryFor table "object.__getattribute__"=some Builtin.«object.__getattribute__» :=entryFor_of_tree (by kernel_rfl)
theorem xj (a b:Value):argsOk "object.__getattribute__" ⟨[a,b],[]⟩:=by delta argsOk;kernel_rfl
theorem vP:entryFor table "wrapper_descriptor.__get__"=some Builtin.«wrapper_descriptor.__get__» :=entryFor_of_tree (by kernel_rfl)
theorem wR (a b c:Value):argsOk "wrapper_descriptor.__get__" ⟨[a,b,c],[]⟩:=by delta argsOk;kernel_rfl
theorem Dz:(Value.type (".".intercalate ("list_iterator.__next__".cutAt '.').dropLast))= .type "list_iterator":=by decide+kernel
theorem HO:isSubtype (.type "list_iterator") (.type (".".intercalate ("list_iterator.__next__".cutAt '.').dropLast))=pure true:=by rw [Dz,sr];kernel_rfl
section
variable {prog:Program} {w:World} {A:Around} {E:Value->Shared->Prop} {h:Heap} {g:Array GenState} {d:Drawn} {t:Nat} {os:OsState} {a:Addr} {vs:Array Value}
noncomputable abbrev oD (vs:Array Value):Obj:={cls:= .type "list_iterator",data:= .fields vs}
noncomputable abbrev qW (a:Addr):Obj:={cls:= .type "method-wrapper",data:= .fields #[.builtin "list_iterator.__next__",.ref a]}
theorem H9 {R:Result->Shared->Prop} (hx:h.get? a=some (oD vs)) (hq:R (.ok (.ret (.ref h.objs.size))) ⟨h.push (qW a),g,d,t,os⟩):
  codeAny (model prog w) A (.call (.builtin "wrapper_descriptor.__get__") ⟨[.builtin "list_iterator.__next__",.ref a,.type "list_iterator"],[]⟩) R ⟨h,g,d,t,os⟩:=by
 have hT:(⟨h,g,d,t,os⟩:Shared).TypeIs (.ref a) "list_iterator":=⟨_,hx,rfl⟩;have hT5:(⟨h,g,d,t,os⟩:Shared).TypeIs (.builtin "list_iterator.__next__") "wrapper_descriptor":=BV;have f8:=HO;refine codeAny_call_builtin Cb.plain vP (Cb.check _ _ _ _ _ _ _ _ hT5 (wR _ _ _) ?_)
 repeat (any_goals (first | assumption | wp_step))
theorem E1 {R:Result->Shared->Prop} (hx:h.get? a=some (oD vs)) (hq:R (.ok (.ret (.ref h.objs.size))) ⟨h.push (qW a),g,d,t,os⟩):
  codeAny (model prog w) A (.call (.builtin "object.__getattribute__") ⟨[.ref a,.str "__next__" tk],[]⟩) R ⟨h,g,d,t,os⟩:=by
 have hT:(⟨h,g,d,t,os⟩:Shared).TypeIs (.ref a) "list_iterator":=⟨_,hx,rfl⟩;have hT5:(⟨h,g,d,t,os⟩:Shared).TypeIs (.builtin "list_iterator.__next__") "wrapper_descriptor":=BV;refine codeAny_call_builtin xW.plain vw (xW.check _ _ _ _ _ _ _ _ hT (xj _ _) ?_);have f1:=Dv.lookup;have f2:=BV;have f3:=Cb.lookup;have f4:=JQ;have f5:=LJ
 repeat (any_goals (first | assumption | wp_step))
 refine H9 hx ?_
 repeat (any_goals (first | assumption | wp_step))
end
end V
end
section
namespace V
open Builtin Builtin.Str
section
variable {C:Cx} {k:Nat} {sc:Scope} {A:Around} {W:Wd} {env:Env} {ms ai aZ b6 aK:List (Option AV)} {Z ae aN bX aB:St} {s:Shared}
noncomputable def lL (C:Cx) (W:Wd) (env:Env) (a:Addr):Prop:=dS W a/\ ¬Own env a/\C.h₀.get? a=none
theorem lL.of_none (H:At C sc A W env ms Z s) (h:s.heap.get? a=none):lL C W env a:=by
 refine m9 ⟨?_,λl e=> ?_⟩ (λq=> ?_) ?_
 ·cases q:W.fz a with
  | none=>rfl
  | some o=>refine c12 (H.inv.fz a o q) λo' z _=>?_;rw [h]at z;exact dF z
 ·have d:=H.inv.dom l;rw [e]at d;cases q:Z l with
  | none=>rw [q]at d;exact zi d
  | some o=>refine c12 (H.inv.obj l a o e q) λob z _=>?_;rw [h]at z;exact dF z
 ·obtain⟨_,_,o,z,_⟩:=H.fr.own q;rw [h]at z;exact dF z
 ·cases q:C.h₀.get? a with
  | none=>rfl
  | some o=>have:=H.inv.kept a o q;rw [h]at this;exact dF this
theorem fj.up (q:fj C W o ob) (u:Up ob ob'):fj C W o ob':=by
 have ne: ∀{x:Obj},(x.cls≠ .type "frame")->x=ob->ob'=ob:=λh e=>u.exact (by rw [<-e];exact h);cases o with
 | list xs=>obtain⟨c,vs,n,e,r⟩:=q;have:ob'=ob:=u.exact (by rw [c];decide);rw [this];exact⟨c,vs,n,e,r⟩
 | dict es=>refine v8 q λds n e r=>?_;clear q;have:ob'=ob:=u.exact (by rw [e];intro z;have:=nq z;revert this;decide);rw [this];exact GP ds n e r
 | map es n=>refine c12 q λds e r=>?_;clear q;have:ob'=ob:=u.exact (by rw [e];intro z;have:=nq z;revert this;decide);rw [this];exact i12 ds e r
 | set xs=>have q:ob.SetObjOf _ _ _:=q;have:ob'=ob:=u.exact (by rw [q.1.1];decide);rw [this];exact q
 | inst c d=>refine c12 q λdx e r=>?_;clear q;have:ob'=ob:=u.exact (by rw [r];intro z;cases z);rw [this];exact i12 dx e r
 | slots c d vs=>refine fq q λdx sl e r z=>?_;clear q;have:ob'=ob:=u.exact (by rw [r];intro z;cases z);rw [this];exact jE dx sl e r z
 | junk=>trivial
 | exc n xs=>obtain⟨hn,c,vs,t,d,z,q⟩:=q;have:ob'=ob:=u.exact (by rw [c];intro z;rw [nq z]at hn;simp at hn);rw [this];exact⟨hn,c,vs,t,d,z,q⟩
 | iter l i=>refine c12 q λa e r=>?_;have:ob'=ob:=u.exact (by rw [r];intro z;have:=nq z;revert this;decide);rw [this];exact i12 a e r
theorem At.stir {X:Addr->Prop} (H:At C sc A W env ms Z s) (hX: ∀a,X a->lL C W env a) (K: ∀b o,¬X b->s.heap.get? b=some o-> ∃o',h'.get? b=some o'/\Up o o')
  (K0: ∀b o,C.h₀.get? b=some o->h'.get? b=some o) (ht:s.toks<=t):At C sc A W env ms Z ⟨h',s.gens,d,t,s.os⟩:=by
 have I:=H.inv;have F:=H.fr;refine⟨⟨I.dom,I.inj,λl a o e q=> ?_,I.apart,λa o e=> ?_,K0,I.base,I.gens,I.os,bU I.pos ht,I.high⟩,?_⟩
 ·refine c12 (I.obj l a o e q) λob h1 h2=>c12 (K a ob (λx=>(hX a x).1.2 l e) h1) λob' h3 u=>i12 ob' h3 (h2.up u)
 ·refine c12 (I.fz a o e) λo' h1 u=>?_;refine c12 (K a o' (λx=>by rw [(hX a x).1.1]at e;exact dF e) h1) λo2 h3 u2=>i12 o2 h3 (u.trans u2)
 ·obtain⟨mr,hn,hv⟩:=F.ns;have own: ∀a,Own env a-> ¬X a:=λa q x=>(hX a x).2.1 q;refine⟨F.scope,F.globals,F.builtins,F.ok,⟨mr,?_,hv⟩,λi x hx=> ?_,F.mi,λx a hx=> ?_,F.iQ,?_,?_⟩
  ·refine lN hn λo es ep ho hd r=>?_;clear hn;refine c12 (K _ _ (own _ (.inl rfl)) ho) λo' ho' u=>zD o' es ep ho' (u.data▸hd) r
  ·obtain⟨a,ov,h1,⟨o,ho,hd⟩,h3⟩:=F.cells i x hx;refine c12 (K _ _ (own _ (.inr (bM.mpr ⟨(x,a),mem_of_lookup h1,rfl⟩))) ho) λo' ho' u=>⟨a,ov,h1,⟨o',ho',u.data▸hd⟩,h3⟩
  ·obtain⟨h1,h2,h3,ov,o,ho,hd,hc⟩:=F.mZ x a hx;refine c12 (K _ _ (own _ (.inr (bM.mpr ⟨(x,a),hx,rfl⟩))) ho) λo' ho' u=>⟨h1,h2,h3,ov,o',ho',u.data▸hd,u.cls▸hc⟩
  ·obtain⟨o,es,n,ho,hc,hd⟩:=F.jc;refine c12 (K _ _ (own _ (.inl rfl)) ho) λo' ho' u=>⟨o',es,n,ho',u.cls▸hc,u.data▸hd⟩
  ·obtain⟨fenv,rest,L,h1,h2,h3,h4,h5,h6,h7⟩:=F.pE;refine⟨fenv,rest,L,h1,h2,h3,h4,h5,h6,?_⟩;refine aP h7 (λv=>?_) λz=>?_
   ·rcases v with⟨rfl,o,es,n,ho,hc1,hd⟩
    refine c12 (K _ _ (own _ (.inl rfl)) ho) λo' ho' u=>.inl ⟨rfl,o',es,n,ho',u.cls▸hc1,u.data▸hd⟩
   ·exact .inr z
inductive MK (e:Addr) (cls:Value) (t:Addr) (v:Value) (FT:Addr->Prop) (h:Heap):Prop
 | mk (oe:Obj) (vs:Array Value) (T:Addr) (oT:Obj) (ts:Array Value) (y1:h.get? e=some oe) (y2:oe.cls=cls) (y3:oe.data= .fields vs) (y4:vs[0]? =some (.ref t)) (y5:vs[1]? =some (.ref T)) (y6:FT T) (y7:T≠e) (y8:h.get? T=some oT) (y9:oT.data= .fields ts) (y10:ts[3]? =some v) (y11:vs[2]? =some .none):MK e cls t v FT h
noncomputable def XH (C:Cx) (W:Wd) (env:Env) (e:Addr) (cls:Value) (t:Addr) (fl:Option Value) (h:Heap):Prop:=match fl with
 | none=>h.get? e=some {cls:=cls,data:= .fields #[.ref t,.none,.none,.none,.bool false,.none]}
 | some v=>MK e cls t v (lL C W env) h
structure wV (C:Cx) (sc:Scope) (A:Around) (W:Wd) (env:Env) (ms:List (Option AV)) (Z:St) (cls:Value) (as:List AV) (fl:Option Value) (e:Addr) (s:Shared):Prop where
 at_:At C sc A W env ms Z s
 free:lL C W env e
 x: ∃t,aw W (.tup as) (.ref t)/\XH C W env e cls t fl s.heap
theorem wV.flight (X:wV C sc A W env ms Z cls as (some v) e s) {Q:Unit->Shared->Prop}
  (g: ∀s',wV C sc A W env ms Z cls as (some (fr.elim .none λf=>rawInt f)) e s'->Q () s'):wpAny C.M A (setFlight (.ref e) fr) Q No s:=by
 obtain⟨H,fe,t,qt,oe,vs,T,oT,ts,he,hc,hd,h0,h1,fT,hTe,hT,hdT,h3,My⟩:=X;refine aj (iJ he hd h1 ?_);rw [aF (show(Value.ref T !=Value.none)=true from by simp)];have sz:3<ts.size:=(E3.mp h3).1;refine rQ hT hdT sz (g _ ?_);have other: ∀b,b≠T->(s.heap.update T (Obj.mapFields (·.setIfInBounds 3 (fr.elim .none λf=>rawInt f)))).get? b=s.heap.get? b:=λb hb=>nu _ _ (f7 hb);obtain⟨cT,dT,Pf,sT⟩:=oT;simp only at hdT;subst hdT;have nf:(Obj.mapFields (·.setIfInBounds 3 (fr.elim .none λf=>rawInt f)) ⟨cT,dT,.fields ts,sT⟩).isFreed=false:=rfl;refine⟨H.stir (X:=(· =T)) (λa q=>q▸fT) (λb o nb hb=>⟨o,by rw [other b nb];exact hb,.refl o⟩) (λb o hb=> ?_) (bT _),fe,t,qt,oe,vs,T,_,_,(other e (f7 hTe)).trans he,hc,hd,h0,h1,fT,hTe,jt _ hT nf,rfl,?_,My⟩
 ·rw [other b λq=>by rw [q,fT.2.2]at hb;exact dF hb];exact H.inv.kept b o hb
 ·simp [De,sz]
theorem wV.again {cls:Value} {as:List AV} {L:Addr} {e:Addr} (X:wV C sc A W env ms Z cls as (some (rawInt L)) e s) (hf:env.frame=some L) {Q:Unit->Shared->Prop} (g:Q () s):wpAny C.M A (noteFrame (.ref e) env) Q No s:=by obtain⟨H,fe,t,qt,oe,vs,T,oT,ts,he,hc,hd,h0,h1,fT,hTe,hT,hdT,h3,My⟩:=X;delta noteFrame;simp only [hf];refine aj (iJ he hd h1 ?_);rw [aF (show(Value.ref T !=Value.none)=true from by simp)];refine aj (iJ hT hdT h3 ?_);rw [aF (show(rawInt L==rawInt L)=true from by simp)];exact aQ g
theorem FK (h:env.frame=fenv.frame):noteFrame e env=noteFrame e fenv:=by delta noteFrame PySem.frameOf;rw [h]
theorem sA: ∀{l:List Env},tm C W l->Inv C W Z s->(∀env∈l,∀L,env.frame=some L->base.get? L=none)->s.heap.FunFrames base l:=by
 intro aH;induction aH with
 | nil=>intro v w g;exact trivial
 | cons env rest ih=>
  intro S I hb;rcases S env (.head _)with⟨k1,L,o,es,n,k2,k3,k4,z⟩;refine bI z λk5 k6=>c12 (I.fz L o k4) λo' h1 u=>?_
  exact m9 k1 ⟨L,o',k2,hb env (.head _) L k2,h1,λvs q=>by rw [u.data,k6]at q;cases q⟩ (ih (λe he=>S e (.tail _ he)) I λe he=>hb e (.tail _ he))
noncomputable def GW (h:Heap) (e:Addr):Prop:= ∀o vs,h.get? e=some o->o.data= .fields vs->vs[2]? =some .none
noncomputable def sy (base:Heap) (l:List Env) (e:Addr) (cls a0:Value) (L:Addr) (h h':Heap):Prop:=Heap.NotedW base l e cls a0 (rawInt L) h h'/\GW h' e
theorem C4 {E:Value->Shared->Prop} {Q:Unit->Shared->Prop}
  (hA:A.frames=some (fenv::outer)) (hl:s.heap.FunFrames base (fenv::outer)) (hf:fenv.frame=some L) (he:s.heap.get? e=some oe) (hkb:base.StaysIn s.heap) (hen:base.get? e=none) (hd:oe.data= .fields vs)
  (hsz:1<vs.size) (h0:vs[0]? =some a0) (h2:vs[2]? =some .none) (h: ∀h',sy base (fenv::outer) e oe.cls a0 L s.heap h'->Q () {s with heap:=h'}):
  wpAny M A (do let a<-frameOf fenv;let pl<-entryPlaceOf L hadNext;let b<-EntryCells.newEntry head a .none (rawInt L) .none pl;setField (.ref e) 1 b) Q E s:=by
 have L7: ∀a∈(fenv::outer).filterMap (·.frame),base.get? a=none/\a≠e:=λa hm=>by obtain⟨z,o,ho,hnf⟩:=hl.mem hm;exact⟨z,λq=>by rw [q,he]at ho;cases ho;exact hnf vs hd⟩
 refine aj (wpAny_frameOf_fun hA hl hf λiq yP=>aj (wpAny_entryPlaceOf λpl hpl=> ?_));delta EntryCells.newEntry newFields;refine aj (oI ?_ (hpl.sizeOk5 _ _ _ _ _));generalize hob:({cls:= .type "traceback",dict:=none,data:= .fields ([head,.ref L,.none,rawInt L,.none]++(if pl.isEmpty then List.replicate 6 Value.none else pl)).toArray}:Obj)=tb;have e1:iq.get? e=some oe:=(yP.2.1 e λq=>(L7 e q).2 rfl).trans he;have e2:(iq.push tb).get? e=some oe:=mG _ e1;have hT:(iq.push tb).get? iq.objs.size=some tb:=dZ iq (by rw [<-hob];rfl);have ne:iq.objs.size≠e:=Nat.ne_of_gt (ig e1);refine rQ e2 hd hsz (h _ ?_);have d3:=Obj.data_mapFields hd (·.setIfInBounds 1 (Value.ref iq.objs.size));have e3:=jt (Obj.mapFields (·.setIfInBounds 1 (Value.ref iq.objs.size))) e2 (Obj.isFreed_of_fields d3);have keep: ∀b o,b≠e->iq.get? b=some o->((iq.push tb).update e (Obj.mapFields (·.setIfInBounds 1 (Value.ref iq.objs.size)))).get? b=some o:=λb o nb z=>
  (nu _ _ (f7 nb)).trans (mG _ z)
 have sb:base.StaysIn iq:=λb o z=>(yP.2.1 b λq=>by rw [(L7 b q).1]at z;exact dF z).trans (hkb b o z);have L8: ∀b o,s.heap.get? b=some o->(∀vs,o.data≠ .fields vs)->b≠e:=λb o z n q=>by subst q;rw [he]at z;cases z;exact n vs hd
 refine⟨⟨λb o z=>keep b o (λq=>by subst q;rw [hen]at z;exact dF z) (sb b o z),hl.of_keeps λb o z n=> ?_,?_,λb o z n=> ?_⟩,λo' vs' g' d'=> ?_⟩
 ·refine cG (yP.2.2 b o z) λsl q=>i12 _ (keep b _ (L8 b o z n) q) rfl
 ·refine⟨_,_,iq.objs.size,tb,([head,.ref L,.none,rawInt L,.none]++(if pl.isEmpty then List.replicate 6 Value.none else pl)).toArray,e3,⟨Obj.cls_mapFields _ _,?_⟩,d3,?_,sb.fresh,ne,(nu _ _ (f7 ne)).trans hT,by rw [<-hob],?_⟩
  ·rw [Array.getElem?_setIfInBounds_ne (by decide)];exact h0
  ·rw [De];simp [hsz]
  ·simp
 ·refine cG (yP.2.2 b o z) λsl q=>⟨sl,keep b _ (L8 b o z n) q⟩
 ·rw [e3]at g';cases g';rw [d3]at d';cases d';rw [Array.getElem?_setIfInBounds_ne (by decide)];exact h2
theorem OR {E:Value->Shared->Prop} {Q:Unit->Shared->Prop}
  (hA:A.frames=some (fenv::outer)) (hl:s.heap.FunFrames base (fenv::outer)) (hf:fenv.frame=some L) (ht:s.heap.TracedW base e cls a0) (hkb:base.StaysIn s.heap) (hen:base.get? e=none) (hn:GW s.heap e)
  (h: ∀h',sy base (fenv::outer) e cls a0 L s.heap h'->Q () {s with heap:=h'}):wpAny M A (noteFrame (.ref e) fenv) Q E s:=by
 refine Eo ht λoe vs T oT ts he u hd v=>bI u λhcls h0=>GU v λh1 hnT hTe hT hdT h3=>?_;clear ht;subst hcls;delta noteFrame;simp only [hf];refine aj (iJ he hd h1 ?_);rw [aF (show(Value.ref T !=Value.none)=true from by simp)];refine aj (iJ hT hdT h3 ?_);rw [ay (show¬((Value.none==rawInt L)=true)from by simp [rawInt])];refine aj (rQ hT hdT (E3.mp h3).1 ?_);have o1: ∀b,b≠T->(s.heap.update T (Obj.mapFields (·.setIfInBounds 3 Value.none))).get? b=s.heap.get? b:=λb hb=>nu _ _ (f7 hb);have nr: ∀b o,s.heap.get? b=some o->(∀vs,o.data≠ .fields vs)->b≠T:=λb o z n q=>by subst q;rw [hT]at z;cases z;exact n ts hdT
 refine C4 hA (hl.of_keeps λb o z n=>⟨o,(o1 b (nr b o z n)).trans z,rfl⟩) hf ((o1 e (f7 hTe)).trans he) (λb o z=>(o1 b λq=>by subst q;rw [hnT]at z;exact dF z).trans (hkb b o z)) hen hd
  (E3.mp h1).1 h0 (hn _ _ he hd) λh' w=>bI w λy x5=>kD y λx1 x2 x3 x4=>h h' ⟨⟨x1,x2,x3,λb o z n=>x4 b o ((o1 b (nr b o z n)).trans z) n⟩,x5⟩
theorem wV.note (X:wV C sc A W env ms Z cls as fl e s) (hfl:fl=none\/fl=some .none) {Q:Unit->Shared->Prop}
  (g: ∀s' L,env.frame=some L->wV C sc A W env ms Z cls as (some (rawInt L)) e s'->Q () s'):wpAny C.M A (noteFrame (.ref e) env) Q No s:=by
 obtain⟨H,fe,t,qt,hx⟩:=X;obtain⟨fenv,rest,L,hA,hS,hk,Gn,heL,hL0,hLf⟩:=H.fr.pE;rw [FK (env:=env) (fenv:=fenv) (heL.trans Gn.symm)];have main: ∀(tl:List Addr),(∀T∈tl,lL C W env T)->(∀base:Heap,base.StaysIn s.heap->base.get? e=none->(∀T∈tl,base.get? T=none)->s.heap.FunFrames base (fenv::rest)->
   wpAny C.M A (noteFrame (.ref e) fenv) (λi s'=>sy base (fenv::rest) e cls (.ref t) L s.heap s'.heap/\s'={s with heap:=s'.heap}) No s)->wpAny C.M A (noteFrame (.ref e) fenv) Q No s:=by
  intro tl htl hrun
  let frs:=(fenv::rest).filterMap (·.frame)
  let base:=hideAll s.heap (e::(tl++frs))
  have b1:base.StaysIn s.heap:=λb o z=>of_hideAll _ z;have hid: ∀a,a∈e::(tl++frs)->base.get? a=none:=λa h=>hideAll_none _ h;have out: ∀a o,a∉e::(tl++frs)->s.heap.get? a=some o->base.get? a=some o:=λa o n z=>hideAll_get _ z n;have ff:s.heap.FunFrames base (fenv::rest):=by
   have hfr: ∀env∈fenv::rest,∀L,env.frame=some L->base.get? L=none:=λenv he L z=>hid L (by
    refine .tail _ (List.mem_append_right _ (List.mem_filterMap.mpr ⟨env,he,z⟩)))
   refine m9 hk ⟨L,?_⟩ (sA hS H.inv λenv he=>hfr env (.tail _ he));refine aP hLf (λf=>?_) λd=>lN d λo es n ho hc hd=>?_
   ·rcases f with⟨rfl,o,es,n,ho,hc,hd⟩
    exact GX o Gn (hfr fenv (.head _) _ Gn) ho λvs q=>by rw [hd]at q;cases q
   ·refine c12 (H.inv.fz L o ho) λo' h1 u=>?_;exact GX o' Gn (hfr fenv (.head _) _ Gn) h1 λvs q=>by rw [u.data,hd]at q;cases q
  have after: ∀hp,sy base (fenv::rest) e cls (.ref t) L s.heap hp->Q () {s with heap:=hp}:=by
   intro hp hN;refine bI hN λk k5=>kD k λk1 k2 l k4=>Eo l λoe vs T oT ts he j hd c=>bI j λhc h0=>GU c λh1 hbT hTe hT hdT h3=>?_;clear hN;have Ef: ∀a∈frs,∃o,s.heap.get? a=some o/\o.cls= .type "frame"/\(∀vs,o.data≠ .fields vs)/\C.h₀.get? a=none:=by
    intro a ha;refine c12 (List.mem_filterMap.mp ha) λenv' he' z=>aP (cM.mp he') (λp=>?_) λhe'=>?_
    ·subst p;rw [Gn]at z;cases z;refine aP hLf (λm=>?_) λr=>lN r λo es n ho hc hd=>?_
     ·rcases m with⟨rfl,o,es,n,ho,hc,hd⟩
      exact GX o ho hc (λvs q=>by rw [hd]at q;cases q) hL0
     ·refine c12 (H.inv.fz _ o ho) λo' h1 u=>?_;exact GX o' h1 (u.cls.trans hc) (λvs q=>by rw [u.data,hd]at q;cases q) hL0
    ·rcases hS env' he' with⟨k1,L',o,es,n,k2,k3,k4,y⟩;refine bI y λk5 k6=>?_
     rw [k2]at z;cases z;refine c12 (H.inv.fz _ o k4) λo' h1 u=>?_;exact GX o' h1 (u.cls.trans k5) (λvs q=>by rw [u.data,k6]at q;cases q) k3
   have fT:lL C W env T:=by
    cases q:s.heap.get? T with
    | none=>exact lL.of_none H q
    | some o=>
     have hm:T∈e::(tl++frs):=DW λn=>by rw [out T o n q]at hbT;exact sa hbT
     refine aP (cM.mp hm) (λz=>?_) λhm=>?_
     ·exact absurd z hTe
     ·refine aP (cu.mp hm) (λhm=>?_) λhm=>?_
      ·exact htl T hm
      ·refine CR (Ef T hm) λo' z1 _ z3 _=>cG (k4 T o' z1 z3) λsl z5=>?_;rw [hT]at z5;cases z5;exact absurd hdT (z3 ts)
   refine g _ L heL ⟨H.stir (X:=λa=>a=e\/a∈tl) (λa q=>q.elim (λz=>z▸fe) (htl a)) (λb o nb hb=> ?_) (λb o hb=> ?_) (bT _),fe,t,qt,oe,vs,T,oT,ts,he,hc,hd,h0,h1,fT,hTe,hT,hdT,h3,k5 _ _ he hd⟩
   ·by_cases hm:b∈frs
    ·refine CR (Ef b hm) λo' z1 z2 z3 _=>?_;rw [hb]at z1;cases z1;refine cG (k4 b o hb z3) λsl z5=>i12 _ z5 (.inr ⟨z2,sl,rfl⟩)
    ·have:base.get? b=some o:=out b o (λq=>by
      refine aP (cM.mp q) (λz=>?_) λq=>?_
      ·exact nb (.inl z)
      ·refine aP (cu.mp q) (λq=>?_) λq=>?_
       ·exact nb (.inr q)
       ·exact hm q) hb
     exact i12 o (k1 b o this) (.refl o)
   ·have hb':=H.inv.kept b o hb;refine k1 b o (out b o (λq=> ?_) hb');refine aP (cM.mp q) (λz=>?_) λq=>?_
    ·rw [z,fe.2.2]at hb;exact dF hb
    ·refine aP (cu.mp q) (λq=>?_) λq=>?_
     ·rw [(htl b q).2.2]at hb;exact dF hb
     ·refine CR (Ef b q) λ_ _ _ _ z=>?_;rw [z]at hb;exact dF hb
  exact bH (hrun base b1 (hid e (.head _)) (λT hT=>hid T (.tail _ (List.mem_append_left _ hT))) ff) (λi s' h=>by rw [h.2];exact after _ h.1) λi u1 z=>z
 refine aP hfl (λw=>?_) λv=>?_
 ·subst w;have hx:s.heap.get? e=some {cls:=cls,data:= .fields #[.ref t,.none,.none,.none,.bool false,.none]}:=hx;refine main [] (λT h=>by exact je h) λbase b1 b2 b3 b4=> ?_;delta noteFrame;simp only [Gn];refine aj (iJ hx rfl (x:= .none) rfl ?_);exact C4 (oe:={cls:=cls,data:= .fields #[.ref t,.none,.none,.none,.bool false,.none]}) hA b4 Gn hx b1 b2 rfl (Nat.lt_of_sub_pos (Nat.zero_lt_succ _)) rfl rfl λh' hN=>⟨hN,rfl⟩
 ·subst v;obtain⟨oe,vs,T,oT,ts,he,hc,hd,h0,h1,fT,hTe,hT,hdT,h3,My⟩:=hx;refine main [T] (λT' h=>by rw [ju]at h;exact h▸fT) λbase b1 b2 b3 b4=> ?_;exact OR hA b4 Gn ⟨oe,vs,T,oT,ts,he,⟨hc,h0⟩,hd,h1,b3 T (by simp),hTe,hT,hdT,h3⟩ b1 b2 (λo' vs' g' d'=>by rw [he]at g';cases g';rw [hd]at d';cases d';exact My) λh' hN=>⟨hN,rfl⟩
noncomputable def M9 (env:Env) (fl:Option Value):Prop:=fl=none\/fl=some .none\/ ∃L,env.frame=some L/\fl=some (rawInt L)
inductive N3 (C:Cx) (sc:Scope) (A:Around) (W:Wd) (env:Env) (ms:List (Option AV)) (Z:St) (cls:Value) (as:List AV) (e:Value) (s:Shared):Prop
 | mk (W':Wd) (a:Addr) (fl:Option Value) (le:W.le W') (he:e= .ref a) (hf:M9 env fl) (x:wV C sc A W' env ms Z cls as fl a s):N3 C sc A W env ms Z cls as e s
noncomputable def XP (C:Cx) (sc:Scope) (A:Around) (W:Wd) (env:Env) (ms:List (Option AV)) (Z:St) (cls:Value) (as:List AV) (e:Value) (s:Shared):Prop:=
 N3 C sc A W env ms Z cls as e s
noncomputable def Rz {α:Type} (C:Cx) (k:Nat) (sc:Scope) (ms:List (Option AV)) (Z:St) (t:Env->Sem α) (cls:Value) (as:List AV) (aK:List (Option AV)) (aB:St):Prop:=
 ∀A W env s,bY C A k->At C sc A W env ms Z s->wpAny C.M A (t env) (λ_ _=>False) (XP C sc A W env aK aB cls as) s
theorem XP.le (le:W.le aR) (h:XP C sc A aR env ms Z cls as e s):XP C sc A W env ms Z cls as e s:=by obtain⟨W',a,fl,l,x,y,r⟩:=h;exact⟨W',a,fl,le.trans l,x,y,r⟩
theorem gq {α:Type} {E:Value->Shared->Prop} {t:Sem α} {R:Wd->α->Prop} {Q:α->Shared->Prop} (h:wpAny C.M A t (ic C sc A W env ai ae R) No s)
  (g: ∀aR r aI,W.le aR->At C sc A aR env ai ae aI->R aR r->Q r aI):wpAny C.M A t Q E s:=
 bH h (λr aI z=>(by obtain⟨aR,le,H,q⟩:=z;exact g aR r aI le H q)) λu v x=>x.elim
theorem rz {α:Type} {E:Value->Shared->Prop} {t:Sem α} {Q:α->Shared->Prop} (le:W.le aR) (h:wpAny C.M A t (λu v=>False) (XP C sc A aR env aK aB cls as) s) (g: ∀e s,XP C sc A W env aK aB cls as e s->E e s):wpAny C.M A t Q E s:=
 bH h (λu v x=>x.elim) λe s x=>g e s (x.le le)
noncomputable def JB (C:Cx) (W:Wd) (a:Addr):Prop:=dS W a/\C.h₀.get? a=none
noncomputable def XO (C:Cx) (W:Wd) (e:Addr) (cls:Value) (t:Addr) (h:Heap):Prop:=
 h.get? e=some {cls:=cls,data:= .fields #[.ref t,.none,.none,.none,.bool false,.none]}\/
 MK e cls t .none (JB C W) h
inductive KV (C:Cx) (W:Wd) (Z:St) (cls:Value) (as:List AV) (e:Value) (s:Shared):Prop
 | mk (W':Wd) (a t:Addr) (le:W.le W') (inv:Inv C W' Z s) (he:e= .ref a) (fr:JB C W' a) (v:aw W' (.tup as) (.ref t)) (x:XO C W' a cls t s.heap):KV C W Z cls as e s
noncomputable def KP {α:Type} (C:Cx) (k:Nat) (W:Wd) (Z:St) (t:Sem α) (cls:Value) (as:List AV) (aB:St):Prop:=
 ∀A s outer,bY C A k->A.frames=some outer->tm C W outer->Inv C W Z s->
  wpAny C.M A t (λ_ _=>False) (KV C W aB cls as) s
noncomputable def Jx (C:Cx) (k:Nat) (Z:St) (f:AV) (as:List AV) (cls:Value) (xs:List AV) (aB:St):Prop:=
 ∀W rf df,aw W f rf->aU W as df->KP C k W Z (call rf df []) cls xs aB
theorem JB.free (F:eE C sc A W env ms h) (le:(aside W env h).le W') (q:JB C W' a):lL C (taken W' env) env a:=by have no:=xB F le q.1.1;refine m9 ⟨?_,q.1.2⟩ no q.2;rw [Wd.bB no];exact q.1.1
theorem KP.in {α:Type} {t:Sem α} (hX:X=aside W env s.heap) (h:KP C k X Z t cls as aB) (hr:bY C A k) (H:At C sc A W env ms Z s):wpAny C.M A t (λu v=>False) (XP C sc A W env ms aB cls as) s:=by
 subst hX;refine c12 (eU H.fr) λouter ho hs=>bH (h A s outer hr ho hs (eQ H.inv H.fr)) (λu v x=>x) λe s' q=> ?_;obtain⟨W',a,t,le,I',he,hf,qt,hx⟩:=q;refine ve (eE.back H.inv H.fr le I') λl2 I2 F2 v1 v2=>?_;rcases hx with hx | ⟨oe,vs,T,oT,ts,x1,x2,x3,x4,x5,x6,x7,x8,x9,x10,x11⟩
 ·exact⟨_,a,none,l2,he,.inl rfl,⟨I2,F2⟩,hf.free H.fr le,t,v1 qt,hx⟩
 ·exact⟨_,a,some .none,l2,he,.inr (.inl rfl),⟨I2,F2⟩,hf.free H.fr le,t,v1 qt,oe,vs,T,oT,ts,x1,x2,x3,x4,x5,x6.free H.fr le,x7,x8,x9,x10,x11⟩
theorem FX (h1:Ev C k sc ms Z o ov ai ae) (hm:Mt C k ae ov name f) (h2:Es C k sc ai ae pos args as aZ aN)
  (hk:Kp C f) (h3:Jx C k aN f (ov::as) cls xs aB) (hb: ∀env t,attributeBase o name env t=t) (hf: ∀env,methodCallForm args.length (backTo pos (starEach args env)) []=true) (hl:(apos.endLine==pos.line)=true)
  (hs: ∀env,(backTo pos (starEach args env)).any (·.1)=false):Rz C k sc ms Z (eval (.Call (.Attribute o name apos) args [] pos)) cls xs aZ aB:=by
 intro A W env s hr H;rw [jj,hb];refine aj (gq (h1 A W env s hr H) λaR ro aI aA aO qo=>aj (cF ?_));delta methodCall;have hf':methodCallForm (args.length+([]:List Keyword).length) (backTo pos (starEach args env)) (backToKw pos (keywordEach [] env))=true:=hf env;rw [hf'];refine aj (cE ?_);refine bH (Op.in (R':=λr aT=> ∃bh,aR.le bh/\At C sc A bh env ai ae aT/\aw bh f r.1/\r.2= [ro]) rfl (hm _ ro _ (qo.mono (a8 aO.fr))) hr aO λbh r aT ax aG q tk u=>⟨_,ax,aG,tk q.1,q.2⟩) (λr aT hh=> ?_) λu v x=>x.elim;refine CR hh λbh ax aG q1 q2=>?_;clear hh;obtain⟨rf,first⟩:=r;dsimp only at q1 q2;subst q2;have hp:methodCallPos true o env apos pos=pure pos:=by delta methodCallPos;simp [hl]
 refine aj (eL hp ?_);refine cI (dC (qJ (hs env)) (gq (h2 A _ env aT hr aG) λbS df bt bg br qa=>⟨hk _ _ _ _ br.inv (q1.mono bg),?_⟩));have le:=a8 br.fr;exact rz (aA.trans (ax.trans bg)) (KP.in rfl (h3 _ rf (ro::df) ((q1.mono bg).mono le) (.cons (((qo.mono ax).mono bg).mono le) (qa.mono le))) hr br) λu v x=>x
theorem H0 (h1:Ev C k sc ms Z fn f ai ae) (h2:Es C k sc ai ae pos args as aZ aN) (hk:Kp C f) (h3:Jx C k aN f as cls xs aB)
  (hs: ∀env,(backTo pos (starEach args env)).any (·.1)=false)
  (he: ∀env,eval (.Call fn args [] pos) env=(do callWith pos (<-eval fn env) [] (backTo pos (starEach args env)) (backToKw pos (keywordEach [] env)))):Rz C k sc ms Z (eval (.Call fn args [] pos)) cls xs aZ aB:=by
 intro A W env s hr H;rw [he];refine aj (gq (h1 A W env s hr H) λaR rf aI aA aO qf=>cI (dC (qJ (hs env)) (gq (h2 A aR env aI hr aO) λbh df aT ax aG qa=>⟨hk _ _ _ _ aG.inv (qf.mono ax),?_⟩)));have le:=a8 aG.fr;exact rz (aA.trans ax) (KP.in rfl (h3 _ rf df ((qf.mono ax).mono le) (qa.mono le)) hr aG) λu v x=>x
theorem wY {op:CmpOp} (h:Rz C k sc ms Z (eval l) cls xs aK aB) (hm:behindInMarks op r=false):Rz C k sc ms Z (λenv=>isTrue (.Compare l [op] [r] pos) env (eval (.Compare l [op] [r] pos) env)) cls xs aK aB:=by intro A W env s hr H;exact wpAny_isTrue_Compare1 (rz (.refl W) (h A W env s hr H) λu v x=>x) hm
theorem zY (h:Rz C k sc ms Z (λenv=>isTrue x env (eval x env)) cls xs aK aB):Rz C k sc ms Z (λenv=>isTrue (.BoolOp .Or (x::rest) pos) env (eval (.BoolOp .Or (x::rest) pos) env)) cls xs aK aB:=by intro A W env s hr H;exact wpAny_isTrue_BoolOp (wpAny_allTrue_Or_cons (rz (.refl W) (h A W env s hr H) λu v x=>x))
theorem Bs (h:Rz C k sc ms Z (λenv=>isTrue test env (eval test env)) cls xs aK aB):Rz C k sc ms Z (exec (.If test x y pos)) cls xs aK aB:=by intro A W env s hr H;exact wpAny_If (rz (.refl W) (h A W env s hr H) λu v x=>x)
theorem C0 (h:Rz C k sc ms Z (eval value) cls xs aK aB) (hs: ∀env,swapsWithSole [t] value pos.line env=pure false):Rz C k sc ms Z (exec (.Assign [t] value pos)) cls xs aK aB:=by intro A W env s hr H;rw [exec_Assign_arm];refine aj (cF ?_);rw [hs];refine aj (aQ ?_);exact aj (rz (.refl W) (h A W env s hr H) λu v x=>x)
theorem F9 {st:Stmt} {rest:List Stmt} {cls:Value} {xs:List AV} (h1:X1 C k sc ms Z st .next ai ae) (h2:Rz C k sc ai ae (execs rest) cls xs aK aB):Rz C k sc ms Z (execs (st::rest)) cls xs aK aB:=by intro A W env s hr H;refine CA (gq (h1 A W env s hr H) λaR r aI aA aO q=> ?_);unfold bQ at q;subst q;exact rz aA (h2 A aR env aI hr aO) λu v x=>x
theorem rF {st:Stmt} {rest:List Stmt} {cls:Value} {xs:List AV} (h:Rz C k sc ms Z (exec st) cls xs aK aB):Rz C k sc ms Z (execs (st::rest)) cls xs aK aB:=by intro A W env s hr H;exact CA (rz (.refl W) (h A W env s hr H) λu v x=>x)
theorem Gz {b:Bool} (h1:Tv C k sc ms Z test b ai ae) (h2:Rz C k sc ai ae (execs ((if b then x else y)++rest)) cls xs aK aB):Rz C k sc ms Z (execs (.If test x y pos::rest)) cls xs aK aB:=by
 intro A W env s hr H;have key:wpAny C.M A (isTrue test env (eval test env)) (λb aI=>wpAny C.M A (execs ((if b then x else y)++rest) env) (λu v=>False) (XP C sc A W env aK aB cls xs) aI) (XP C sc A W env aK aB cls xs) s:=by refine gq (h1 A W env s hr H) λaR rb aI aA aO qb=> ?_;subst qb;exact rz aA (h2 A aR env aI hr aO) λu v x=>x
 intro Γ p D9;rw [execs_cons,vE,exec_If];simp only [vE,Sem.wp_cmd_standAt];refine Sem.wp_mono C.M Γ _ (λb Je aT jD=> ?_) (λu v w h'=>h') _ _ (key Γ _ D9);have jD:=jD Γ Je D9;cases b
 ·exact eJ jD
 ·exact eJ jD
theorem H7 (h1:Tv C k sc ms Z test true ai ae) (h2:Rz C k sc ai ae (execs (x++rest)) cls xs aK aB):Rz C k sc ms Z (execs (.If test x y pos::rest)) cls xs aK aB:=Gz h1 h2
theorem IU (h1:Tv C k sc ms Z test false ai ae) (h2:Rz C k sc ai ae (execs (y++rest)) cls xs aK aB):Rz C k sc ms Z (execs (.If test x y pos::rest)) cls xs aK aB:=Gz h1 h2
theorem raised {vs:List Value} (H:At C sc A W env ms Z s) (q:aU W as vs) (hm:Heap.MadeExcOf s.heap h' e cls vs):XP C sc A W env ms Z cls as (.ref e) {s with heap:=h'}:=by
 refine fJ hm.there λt he hn ht=>?_;have H1:At C sc A W env ms Z {s with heap:=h'}:=H.stir (X:=λu=>False) (λu x=>x.elim) (λb o u hb=>⟨o,hm.keeps b o hb,.refl o⟩) (λb o hb=>hm.keeps b o (H.inv.kept b o hb)) (bT _);have fe:=lL.of_none H hm.new;have ft:=lL.of_none H hn;have hne:e≠t:=λz=>by subst z;rw [he]at ht;cases ht
 refine bI (H1.freeze ht ft.1.1 ft.1.2 ft.2.1) λle H2=>⟨_,e,none,le,rfl,.inl rfl,H2,⟨⟨?_,fe.1.2⟩,fe.2.1,fe.2.2⟩,t,?_,he⟩
 ·refine(?_:(if e=t then _ else W.fz e)=none);rw [ay hne];exact fe.1.1
 ·skip
  refine v7 t _ vs 0 rfl ?_ rfl rfl (q.mono le);show(if _ then _ else _)=_
  rw [aF rfl]
theorem B9 (X:XP C sc A W env ms Z cls as e s) {Q:Unit->Shared->Prop}
  (g: ∀s' W' a,e= .ref a->W.le W'->wV C sc A W' env ms Z cls as (some .none) a s'->Q () s'):wpAny C.M A (leaving env e) Q No s:=by
 obtain⟨W',a,fl,le,rfl,hfl,X⟩:=X;rcases hfl with h | h | ⟨L,hL,h⟩
 ·exact aj (X.note (.inl h) λs' L hL X'=>X'.flight (fr:=none) λs'' L9=>g s'' W' a rfl le L9)
 ·exact aj (X.note (.inr h) λs' L hL X'=>X'.flight (fr:=none) λs'' L9=>g s'' W' a rfl le L9)
 ·subst h;exact aj (X.again hL (X.flight (fr:=none) λs'' L9=>g s'' W' a rfl le L9))
noncomputable def Ds (Z cP:St) (as:List AV) (aB:St):Prop:=
 (∀l o,aB l=some o->cP l=some o)/\(∀l,(Z l).isSome=true->(aB l).isSome=true)/\(∀l o,aB l=some o->Z l=some o\/o.In λl=>(aB l).isSome=true)/\AV.mh (λl=>(aB l).isSome=true) as
theorem EH {fd:FuncData} (O:C.Ok) (hF:Fn C fa fd body) (names:List (Str×NameKind)) (hsc:fd.scope.names=names) (bs:List (Str×AV)) (ae:St)
  (hb:Bd C k fd Z as [] bs ae) (h1:(names.take bs.length).map (·.1)=bs.map (·.1)) (h2:((names.take bs.length).all λp=>p.2== .local || p.2== .cell)=true)
  (h: ∀sc,Facts sc names 0-> ∀n,(∀l:Loc,n<=l.tag->Z l=none)-> ∃aK cP,Rz C k sc (bs.map (λp=>some p.2)++List.replicate (names.length - bs.length) none) ae (execs body) cls xs aK cP/\Ds Z cP xs aB):Jx C (k+1) Z (.ext fa) as cls xs aB:=by
 intro W rf df hf has A s outer hr hA hS I;subst hf;refine cG I.free λn hn=>v5 (h fd.scope (oK hsc) n hn) λaK cP hx x1 x2 x3 x4=>Jw hF.here λoc od osl hK=>?_;have ho:=I.kept _ _ (O.tQ _ _ hK);refine s8 (codeAny_call_function (fd:=fd) hr.depth ho rfl hF.co hF.gen hF.body (codeRec_of (O.tQ.keeps I.kept) hF.code) ?_);refine bH (hb W df [] has rfl A.in1 s outer hr.in1 hA hS I) (λbinds aI u=> ?_) λv w h=>h.elim;obtain⟨aR,aA,xJ,vW⟩:=u;rw [hF.globals,hF.builtins,hF.closure];have hms:(fd.scope.names.take bs.length).map (·.1)=bs.map (·.1):=by rw [hsc];exact h1
 have hkd: ∀p∈fd.scope.names.take bs.length,p.2= .local\/p.2= .cell:=λp hp=>by rw [hsc]at hp;have:=p6.mp h2 p hp;simpa using this
 refine bH (sW (A:=A) hF.ok xJ hA (hS.mono aA) vW hms hkd (Q:=λenv s'=>At C fd.scope (A.deeper env) aR env (rS fd.scope bs) ae s') λenv s' H=>H) (λenv aT H=> ?_) λv w h=>h.elim;refine⟨O.nolimit.keeps H.inv.kept,codeAny_func ?_⟩;have hx':Rz C k fd.scope (rS fd.scope bs) ae (execs body) cls xs aK cP:=by delta rS;rw [hsc];exact hx
 refine bH (hx' (A.deeper env) aR env aT hr.deeper H) (λv w x=>x.elim) λe bt X=>bH (B9 X (Q:=λv s'=> ∃W' a,e= .ref a/\aR.le W'/\wV C fd.scope (A.deeper env) W' env aK cP cls xs (some .none) a s') λs' W' a he le X'=>(⟨W',a,he,le,X'⟩)) (λv jd z=> ?_) λv w h=>h.elim;refine fq z λW' a he le X'=>?_;clear z;subst he;obtain⟨H',fe,t,qt,oe,vs,T,oT,ts,y1,y2,y3,y4,y5,y6,y7,y8,y9,y10,y11⟩:=X';have closed: ∀l o,aB l=some o->o.In λl=>(aB l).isSome=true:=λl o e=>by
  refine aP (x3 l o e) (λq=>?_) λq=>?_
  ·refine fq (I.at q) λa ob e1 e2 e3=>?_;have:=e3.dq;exact AO.In.mono (λl q=>x2 l (by rw [<-I.dom l];exact q)) this
  ·exact q
 have dom: ∀l,(W.ρ l).isSome=true->(aB l).isSome=true:=λl q=>x2 l (by rw [<-I.dom l];exact q);have only: ∀l a,(W'.only aB).ρ l=some a->W'.ρ l=some a:=λl a e=>by
  have e:(if(aB l).isSome then W'.ρ l else none)=some a:=e;split at e
  ·exact e
  ·exact dF e
 have N9: ∀{b},lL C W' env b->JB C (W'.only aB) b:=λf=>⟨⟨f.1.1,λl e=>f.1.2 l (only l _ e)⟩,f.2.2⟩;exact⟨W'.only aB,a,t,Wd.si (aA.trans le) dom,H'.inv.only x1 closed,rfl,N9 fe,qt.cut (W'.i0 aB) (by exact x4),.inr ⟨oe,vs,T,oT,ts,y1,y2,y3,y4,y5,N9 y6,y7,y8,y9,y10,y11⟩⟩
end
end V
end
section
namespace V
open Builtin Builtin.Str
noncomputable abbrev Cx.h (C:Cx):Cx:={C with hx:=some 0}
theorem Cx.Ok.h {C:Cx} (O:C.Ok):C.h.Ok:=⟨O.tQ,O.g,O.b,O.boot,O.nolimit⟩
section
variable {C:Cx} {k:Nat} {sc:Scope} {A:Around} {W:Wd} {env:Env} {ms ai aZ b6 aK:List (Option AV)} {Z ae aN bX aB:St} {s:Shared}
theorem rP: ∀{es:List (Str×AV)} {ds:List DictEntry},gk C W es ds↔gk {C with h₀:=h,hx:=x,lb:=b} W es ds:=by
 intro aH;induction aH with
 | nil=>intro u;exact Iff.rfl
 | cons dQ _ ih=>
  intro u;obtain⟨_,_⟩:=dQ;constructor
  ·rintro ⟨t,v,ds',e,a,b⟩;exact zD t v ds' e a (ih.mp b)
  ·rintro ⟨t,v,ds',e,a,b⟩;exact zD t v ds' e a (ih.mpr b)
theorem nZ:fj C W o ob↔fj {C with h₀:=h,hx:=x,lb:=b} W o ob:=by
 cases o with
 | dict es=>exact⟨λv=>(by refine v8 v λds n e r=>?_;clear v;exact⟨ds,n,e,rP.mp r⟩),λu=>(by refine v8 u λds n e r=>?_;clear u;exact⟨ds,n,e,rP.mpr r⟩)⟩
 | map es n=>exact⟨λz=>(by refine c12 z λds e r=>?_;clear z;exact⟨ds,e,rP.mp r⟩),λq=>(by refine c12 q λds e r=>?_;clear q;exact⟨ds,e,rP.mpr r⟩)⟩
 | _=>exact Iff.rfl
theorem Cr:fj C W o ob↔fj C.h W o ob:=nZ (h:=C.h₀) (x:=some 0) (b:=C.lb)
theorem Inv.h (I:Inv C W Z s):Inv C.h W Z s:=⟨I.dom,I.inj,λl a o e q=>c12 (I.obj l a o e q) λob h1 h2=>⟨ob,h1,Cr.mp h2⟩,I.apart,I.fz,I.kept,I.base,I.gens,I.os,I.pos,I.high⟩
theorem Inv.Jy (I:Inv C.h W Z s):Inv C W Z s:=⟨I.dom,I.inj,λl a o e q=>c12 (I.obj l a o e q) λob h1 h2=>⟨ob,h1,Cr.mpr h2⟩,I.apart,I.fz,I.kept,I.base,I.gens,I.os,I.pos,I.high⟩
theorem At.h (H:At C sc A W env ms Z s):At C.h sc (A.mark (some x)) W env ms Z s:=⟨H.inv.h,H.fr.scope,H.fr.globals,H.fr.builtins,H.fr.ok,H.fr.ns,H.fr.cells,H.fr.mi,H.fr.mZ,H.fr.iQ,H.fr.jc,H.fr.pE⟩
theorem At.Jy (H:At C.h sc (A.mark (some x)) W env ms Z s):At C sc A W env ms Z s:=⟨H.inv.Jy,H.fr.scope,H.fr.globals,H.fr.builtins,H.fr.ok,H.fr.ns,H.fr.cells,H.fr.mi,H.fr.mZ,H.fr.iQ,H.fr.jc,H.fr.pE⟩
theorem bY.h (hr:bY C A k):bY C.h (A.mark (some x)) k:=⟨hr.1,hr.2.1,(λz=>by exact sa z),λz=>absurd rfl z⟩
noncomputable def Mx (C:Cx) (cls:Value) (c:AV):Prop:= ∀(W:Wd) (Z:St) (s:Shared) (A:Around) (E:Value->Shared->Prop) (rc:Value) (e:Addr) (oe:Obj) (Q:Bool->Shared->Prop),Inv C W Z s->aw W c rc->s.heap.get? e=some oe->oe.cls=cls->Q true s->wpAny C.M A (excMatches (.ref e) rc) Q E s
theorem Fm (hexc:isSubtype (.type T) (.type "BaseException")=pure true) (hnt:isSubtype (.type ((Manifest.find? T).elim "type" λx=>x.metatype)) (.type "tuple")=pure false) (hsub:isSubtype (.type X) (.type T)=pure true):Mx C (.type X) (.ty T):=by intro W Z s A E rc e oe Q I q he hc h;subst q;exact wpAny_excMatches_type (X:=X) ⟨oe,he,hc⟩ hexc hnt hsub h
inductive Kl (C:Cx) (sc:Scope) (A:Around) (W:Wd) (env:Env) (ms:List (Option AV)) (Z:St) (cls:Value) (as:List AV) (e:Addr) (s:Shared):Prop
 | mk (W':Wd) (oe:Obj) (vs:Array Value) (T:Addr) (oT:Obj) (ts:Array Value) (le:W.le W') (H:At C sc A W' env ms Z s) (y1:W'.fz e=some oe) (y2:oe.cls=cls) (y3:oe.data= .fields vs) (y4: ∃t,vs[0]? =some (.ref t)/\aw W' (.tup as) (.ref t)) (y5:vs[1]? =some (.ref T)) (y6:T≠e) (y7:W'.fz T=some oT) (y8:oT.data= .fields ts) (y9:ts[3]? =some .none) (y10:vs[2]? =some .none):Kl C sc A W env ms Z cls as e s
theorem wV.settle (X:wV C sc A W env ms Z cls as (some .none) e s):Kl C sc A W env ms Z cls as e s:=by
 obtain⟨H,fe,t,qt,oe,vs,T,oT,ts,y1,y2,y3,y4,y5,y6,y7,y8,y9,y10,y11⟩:=X;refine bI (H.freeze y1 fe.1.1 fe.1.2 fe.2.1) λle1 H1=>?_;have hT1:(W.freeze e oe).fz T=none:=by refine(?_:(if T=e then _ else W.fz T)=none);rw [ay y7];exact y6.1.1
 refine bI (H1.freeze y8 hT1 y6.1.2 y6.2.1) λle2 H2=>?_;refine⟨_,oe,vs,T,oT,ts,le1.trans le2,H2,le2.2 _ _ (by show(if _ then _ else _)=_;rw [aF rfl]),y2,y3,⟨t,y4,(qt.mono le1).mono le2⟩,y5,y7,by show(if _ then _ else _)=_;rw [aF rfl],y9,y10,y11⟩
theorem gV {E:Value->Shared->Prop} {Q:Unit->Shared->Prop} (he:s.heap.get? e=some oe) (hd:oe.data= .fields vs) (h1:vs[1]? =some (.ref T)) (hT:s.heap.get? T=some oT) (hdT:oT.data= .fields ts) (h3:ts[3]? =some .none)
  (g: ∀h',(∀b o,s.heap.get? b=some o->h'.get? b=some o)->Q () {s with heap:=h'}):wpAny M A (setFlight (.ref e) none) Q E s:=by
 refine aj (iJ he hd h1 ?_);rw [aF (show(Value.ref T !=Value.none)=true from by simp)];have sz:3<ts.size:=(E3.mp h3).1;refine rQ hT hdT sz (g _ λb o hb=> ?_);obtain⟨cT,dT,Pf,sT⟩:=oT;simp only at hdT;subst hdT;by_cases q:b=T
 ·subst q;rw [hT]at hb;cases hb;rw [jt _ hT rfl];have e1:ts.setIfInBounds 3 Value.none=ts:=by
   apply Array.ext_getElem?;intro i;by_cases hi:3=i
   ·subst hi;rw [h3];simp [De,sz]
   ·simp [De,hi]
  refine(?_:some (⟨cT,dT,.fields (ts.setIfInBounds 3 Value.none),sT⟩:Obj)=_);rw [e1]
 ·rw [nu _ _ (f7 q)];exact hb
theorem Br (hb:Rz C k sc ms Z (execs body) cls as ai ae) (hcf:cls≠ .type "frame") (ht:Ev C.h k sc ai ae t c ai ae) (hm:Mx C cls c)
  (hx:Ex C.h k sc ai ae (Jf::suite) f aK aB):X1 C k sc ms Z (.Try body [.ExceptHandler (some t) none (Jf::suite) hpos] [] [] pos) f aK aB:=by
 intro A W env s hr H;refine wpAny_Try_except (bH (hb A W env s hr H) (λu v x=>x.elim) λe aI hX=> ?_);obtain⟨aR,a,fl,aA,rfl,hfl,X⟩:=hX;have step: ∀{Q:Unit->Shared->Prop},(∀s' L,wV C sc A aR env ai ae cls as (some (rawInt L)) a s'->Q () s')->wpAny C.M A (noteFrame (.ref a) env) Q No aI:=λg=>by
  rcases hfl with h | h | ⟨L,hL,h⟩
  ·exact X.note (.inl h) λs' L hL X'=>g s' L X'
  ·exact X.note (.inr h) λs' L hL X'=>g s' L X'
  ·subst h;exact X.again hL (g _ L X)
 refine step λaT L Jg=>Jg.flight (fr:=none) λbt Gp=> ?_;obtain⟨bh,oe,vs,T,oT,ts,ax,aG,ze,zc,zd,_,z1,Nt,zT,Nu,z3,_⟩:=Gp.settle;refine wpAny_handleBy_cons (codeAny_handlers_test (gq (C:=C.h) (ht (A.mark (some (.ref a))) bh env bt hr.h aG.h) λbS rc jd bg br qc=> ?_)) (by intro q;cases q);have he:=br.inv.frozen (bg.2 _ _ ze) (by rw [zc];exact hcf);refine c12 (br.inv.fz _ _ (bg.2 _ _ zT)) λoT' hT uT=>hm bS ae jd _ _ rc a oe _ br.Jy.inv qc he zc ?_;refine codeAny_handlers_suite ?_;refine gV he zd z1 hT (uT.data.trans Nu) z3 λh' hk=> ?_;have gu:At C.h sc (A.mark (some (.ref a))) bS env ai ae {jd with heap:=h'}:=br.stir (X:=λu=>False) (λu x=>x.elim) (λb o u z=>⟨o,hk b o z,.refl o⟩) (λb o z=>hk b o (br.inv.kept b o z)) (bT _);exact gq (C:=C.h) (hx (A.mark (some (.ref a))) bS env _ hr.h gu) λnD fl Gh eW mL qf=>⟨nD,aA.trans (ax.trans (bg.trans eW)),mL.Jy,qf⟩
end
end V
end
section
namespace V
open Builtin Builtin.Str
theorem AW (a:Value):checkBoundCall "list_iterator.__next__" ⟨[a],[]⟩=pure ():=by kernel_rfl
theorem BF (a:Args):(Code.builtin "list_iterator.__next__" a).quiet=true:=Code.quiet_builtin _ (by decide+kernel)
section
variable {prog:Program} {w:World} {A:Around} {E:Value->Shared->Prop} {s:Shared}
theorem Fs {it l:Addr} {i:Nat} {items:Array Value} {x:Value} {Q:Fin->Shared->Prop} (ho:s.heap.get? it=some (oD #[.ref l,.int i 0])) (hl:s.heap.IsList l items) (hx:items[i]? =some x)
  (hQ: ∀h',h'.get? it=some (oD #[.ref l,.int ((i+1:Nat):Int) 0])->Heap.SameBut it s.heap h'->Q (.done (.ret x)) {s with heap:=h'}):wpAny (model prog w) A (Builtin.«list_iterator.__next__» ⟨[.ref it],[]⟩) Q E s:=by
 obtain⟨ol,hol,_,nl,hdl⟩:=hl;refine(?_:wpAny _ _ (field (.ref it) 0>>=_) _ _ s);refine aj (iJ ho rfl (x:= .ref l) rfl ?_);refine(?_:wpAny _ _ (if(Value.ref l==Value.none)=true then _ else _) _ _ s);rw [ay (show¬((Value.ref l==Value.none)=true)from dM)];refine(?_:wpAny _ _ (field (.ref it) 1>>=_) _ _ s);refine aj (iJ ho rfl (x:= .int i 0) rfl ?_);refine(?_:wpAny _ _ (seqItems? (.ref l)>>=_) _ _ s);refine aj (uU hol hdl ?_);simp only [tS,hx];refine aj (rQ ho rfl (by simp) (aQ (hQ _ ?_ (zH ..))));rw [jt _ ho rfl];simp [Obj.mapFields,rawInt]
theorem Im {it l:Addr} {i:Nat} {items:Array Value} {Q:Fin->Shared->Prop} (hh:A.handled=none) (ho:s.heap.get? it=some (oD #[.ref l,.int i 0])) (hl:s.heap.IsList l items) (hx:items[i]? =none)
  (hE: ∀h' e t,(∀b o,b≠it->s.heap.get? b=some o->h'.get? b=some o)->(∃o',h'.get? it=some o')->s.heap.get? e=none->s.heap.get? t=none->e≠t->h'.get? t=some {cls:= .type "tuple",data:= .seq #[]}->
   h'.get? e=some {cls:= .type "StopIteration",data:= .fields #[.ref t,.none,.none,.none,.bool false,.none]}->E (.ref e) {s with heap:=h'}):wpAny (model prog w) A (Builtin.«list_iterator.__next__» ⟨[.ref it],[]⟩) Q E s:=by
 obtain⟨ol,hol,_,nl,hdl⟩:=hl;refine(?_:wpAny _ _ (field (.ref it) 0>>=_) _ _ s);refine aj (iJ ho rfl (x:= .ref l) rfl ?_);refine(?_:wpAny _ _ (if(Value.ref l==Value.none)=true then _ else _) _ _ s);rw [ay (show¬((Value.ref l==Value.none)=true)from dM)];refine(?_:wpAny _ _ (field (.ref it) 1>>=_) _ _ s);refine aj (iJ ho rfl (x:= .int i 0) rfl ?_);refine(?_:wpAny _ _ (seqItems? (.ref l)>>=_) _ _ s);refine aj (uU hol hdl ?_);simp only [tS,hx];refine aj (rL (aj (rQ ho rfl (by exact gZ _ _) ?_)));refine(?_:wpAny _ _ (newExc (.type "StopIteration") []>>=_) _ _ _);refine aj ?_;refine aj (oI ?_ (by size_fits));refine aj (m:=firstArgMember _ _) (eL (a:=Value.none) (by first | rfl | (simp only [firstArgMember];rfl)) ?_);refine oI ?_ (by size_fits);refine aj (wpAny_handled ?_);rw [hh];refine aj (aQ (wpAny_throw ?_));have other: ∀b o,b≠it->s.heap.get? b=some o->(s.heap.update it (Obj.mapFields (·.setIfInBounds 0 Value.none))).get? b=some o:=λb o nb z=>by rw [nu _ _ (f7 nb)];exact z
 have sz:(s.heap.update it (Obj.mapFields (·.setIfInBounds 0 Value.none))).objs.size=s.heap.objs.size:=(show Heap.SameBut it s.heap (s.heap.update it (Obj.mapFields (·.setIfInBounds 0 Value.none)))from zH ..).1;refine hE _ _ _ (λb o nb z=>mG _ (mG _ (other b o nb z))) ⟨_,mG _ (mG _ (jt _ ho rfl))⟩ (Heap.get?_none_of_le ?_) (Heap.get?_none_of_le ?_) ?_ (mG _ (dZ _ rfl)) (dZ _ rfl)
 ·simp only [nB];rw [sz];exact jm _
 ·rw [sz];exact bT _
 ·simp only [nB];exact Nat.succ_ne_self _
theorem xS {R:Result->Shared->Prop} (hb:s.heap.get? b=some ob) (hc:ob.cls= .type "method-wrapper") (hd:ob.data= .fields #[.builtin "list_iterator.__next__",.ref it])
  (h:wpAny (model prog w) A.in1 (Builtin.«list_iterator.__next__» ⟨[.ref it],[]⟩) (λfin s'=>match fin with | .done f=>R (.ok f) s' | .again c'=>c'.quiet=true/\codeAny (model prog w) A c' R s') (λe s'=>R (.error e) s') s):
  codeAny (model prog w) A (.call (.ref b) ⟨[],[]⟩) R s:=by
 obtain⟨oc,od,dt,sl⟩:=ob;simp only at hc hd;subst hc hd;refine mB ?_;refine(?_:wpAny _ A.in1 (callAny (.ref b) ⟨[],[]⟩) _ _ s);refine aj (wpAny_load hb ?_);refine(?_:wpAny _ _ (checkBoundCall "list_iterator.__next__" ⟨[.ref it],[]⟩>>=_) _ _ _);refine aj (eL (a:=()) (AW _) ?_);refine aj (aQ (aQ ⟨BF _,?_⟩));refine codeAny_builtin entry_listiter_next ?_;refine(?_:wpAny _ (A.under (.builtin "list_iterator.__next__" ⟨[.ref it],[]⟩)) _ _ _ _);rw [Around.under_plainId Dv.plain];exact h
end
section
variable {C:Cx} {k:Nat} {sc:Scope} {A:Around} {W:Wd} {env:Env} {ms ai aZ b6 aK:List (Option AV)} {Z ae aN bX aB:St} {s:Shared}
theorem Inv.iter (I:Inv C W Z s) (h:Z l=some (.iter ll i)) (q:aw W (.loc l) rv): ∃it la,rv= .ref it/\W.ρ l=some it/\W.ρ ll=some la/\s.heap.get? it=some (oD #[.ref la,.int i 0]):=by refine uh q λit e=>?_;obtain⟨ob,h1,a,h2,rfl⟩:=I.obj l it _ e h;exact M6 it a rfl e h2 h1
theorem Hc (hll:Z ll=some (.list xs)) (hl:Z l=none):Ca C k Z (.bi "iter") [.loc ll] [] (.loc l) (Z.set l (.iter ll 0)):=by refine xq λW r q A s outer hr hA hS I=> ?_;refine fq ((IsL.loc hll).list q I) λla vs z=>?_;subst z;intro hL ks;refine c12 q λEe Pg e2=>?_;clear q;cases e2;refine call_function_entry (by decide+kernel) (by decide+kernel) kdk_entry_iter (kdk_args_iter _) ?_;delta Builtin.«iter»;refine aj (m:=someArgs "iter" 1 2 _) (eL (a:= [Value.ref la]) (by first | rfl | kernel_rfl!) ?_);refine(?_:wpAny _ _ (pyIter (.ref la)>>=_) _ _ _);refine aj (wpAny_pyIter_list hL (aQ ⟨_,rfl,?_⟩));refine CR (I.newObj (o:= .iter ll 0) (ob:=oD #[.ref la,.int 0 0]) hl (dZ _ rfl) (bT _) (λW' le=>⟨la,le.1 _ _ Pg,rfl⟩)) λW' le I' q _=>?_;exact⟨W',le,I',q⟩
theorem Gd (h:Z l=some (.iter ll i)):ie C k Z (λx=>getAttr x "__next__" true) (.loc l) (λW r=>aw W (.mw "list_iterator.__next__" l) r) Z:=by
 intro W ra q A s outer hr hA hS I;refine tO (I.iter h q) λit la z=>?_;subst z;intro e e2 ho;obtain⟨hp,gn,dr,tk,os⟩:=s;dsimp only at ho;refine bI I.cz λn1 n2=>?_;have g:(hp.push (qW it)).get? hp.objs.size=some (qW it):=dZ _ rfl;refine bI (I.f6 (t:=tk+1) (d:=dr) n1 n2 (a9 _ _) g) λle I'=>?_;have hq:Er C W Z (λW r=>aw W (.mw "list_iterator.__next__" l) r) (.ref hp.objs.size) ⟨hp.push (qW it),gn,dr,tk+1,os⟩:=by
  refine⟨_,le,I',?_⟩;refine Ht it hp.objs.size (qW it) (le.1 _ _ e) rfl ?_ rfl rfl;show(if _ then _ else _)=_
  rw [aF rfl]
 have hT:(⟨hp,gn,dr,tk+1,os⟩:Shared).TypeIs (.ref it) "list_iterator":=⟨_,ho,rfl⟩;have f2:=xW.lookup;have f3:=xW.bind (.ref it)
 repeat (any_goals (first | assumption | wp_step))
 refine E1 ho ?_
 repeat (any_goals (first | assumption | wp_step))
theorem IJ (h:Z l=some (.iter ll i)) (hll:Z ll=some (.list xs)) (hx:xs[i]? =some x):Ca C k Z (.mw "list_iterator.__next__" l) [] [] x (Z.set l (.iter ll (i+1))):=by intro W rf df fp hf ha hk A s outer hr hA hS I;subst hk;subst ha;refine Hg hf λit b o e q=>?_;clear hf;subst q;intro hb c1 c2;refine tO (I.iter (rv:= .ref it) h (i12 it e rfl)) λit' la e0 e1 e2 ho=>?_;cases e0;refine fq ((IsL.loc hll).list (rv:= .ref la) (i12 la e2 rfl) I) λEe vs e3 hL ks=>?_;cases e3;refine c12 (ks.get hx) λv hv qv=>?_;refine s8 (xS (I.frozen hb (by rw [c1];decide)) c1 c2 (Fs ho hL (by simpa using hv) λh' g1 g2=> ?_));exact⟨W,.refl W,I.upd (t:=s.toks) (d:=s.drawn) e (λb o n z=>(g2.2 b n).trans z) g1 ⟨la,e2,rfl⟩,qv⟩
theorem Fb (h:Z l=some (.iter ll i)) (hll:Z ll=some (.list xs)) (hx:xs.length<=i) (h0:C.hx=none:=by assumption):Jx C k Z (.mw "list_iterator.__next__" l) [] (.type "StopIteration") [] (Z.set l .junk):=by
 intro W rf df hf ha A s outer hr hA hS I;subst ha;refine Hg hf λit b o e u=>?_;clear hf;subst u;intro hb c1 c2;refine tO (I.iter (rv:= .ref it) h (i12 it e rfl)) λit' la e0 e1 e2 ho=>?_;cases e0;refine fq ((IsL.loc hll).list (rv:= .ref la) (i12 la e2 rfl) I) λEe vs e3 hL ks=>?_;cases e3;refine s8 (xS (I.frozen hb (by rw [c1];decide)) c1 c2 (Im (hr.none h0) ho hL (by rw [F4,oP,ks.length];exact hx) λh' ea t k1 k2 ne nt Ph ht he=> ?_));refine cG k2 λoi hoi=>?_;clear k2;have I1:=I.upd (h:=h') (t:=s.toks) (d:=s.drawn) (o':= .junk) e (λb o n z=>k1 b o n z) hoi trivial;have fr: ∀{a},s.heap.get? a=none->JB C W a:=λ{a} z=>by
  refine⟨⟨?_,λl' e'=> ?_⟩,?_⟩
  ·cases q:W.fz a with
   | none=>rfl
   | some o=>refine c12 (I.fz a o q) λo' z' _=>?_;rw [z]at z';exact dF z'
  ·have d:=I.dom l';rw [e']at d;cases q:Z l' with
   | none=>rw [q]at d;exact zi d
   | some o=>refine c12 (I.obj l' a o e' q) λob z' _=>?_;rw [z]at z';exact dF z'
  ·cases q:C.h₀.get? a with
   | none=>rfl
   | some o=>have:=I.kept a o q;rw [z]at this;exact dF this
 have f1:=fr ne;have f2:=fr nt;refine bI (I1.f6 (h:=h') (t:=s.toks) (d:=s.drawn) f2.1.1 f2.1.2 (λv w z=>z) ht) λle I2=>⟨_,ea,t,le,I2,rfl,⟨⟨?_,f1.1.2⟩,f1.2⟩,?_,.inl he⟩
 ·refine(?_:(if ea=t then _ else W.fz ea)=none);rw [ay Ph];exact f1.1.1
 ·refine v7 t _ ([]) 0 rfl ?_ rfl rfl (.nil);show(if _ then _ else _)=_
  rw [aF rfl]
end
end V
end
section
namespace V
open Builtin Builtin.Str
inductive ExcAt (K:Frag) (c:Addr) (bmB:List Value) (newId:String):Prop
 | mk (bm:List Value) (N:Addr) (nm qn:Str) (bs:List Value) (hd:Bool) (sn:List Str) (sub:List Value) (ab:Bool) (col:Option Bool) (dd:Option Addr) (k0 k1 k2 k3 k5:Option Value)
  (ho:K.lookup c=some (excClassObj nm qn c N bs bm hd sn sub ab col dd k0 k1 k2 k3 k5 newId)) (ht:tailIn K bmB bm=true) (hok:nsOkIn K N=true) (hni:nsIn K N "__init__"=some none):ExcAt K c bmB newId
inductive K5 (h:Heap) (c:Addr) (bmB:List Value) (newId:String):Prop
 | mk (bm:List Value) (N:Addr) (nm qn:Str) (bs:List Value) (hd:Bool) (sn:List Str) (sub:List Value) (ab:Bool) (col:Option Bool) (dd:Option Addr) (k0 k1 k2 k3 k5:Option Value) (mN:Str->Option Value)
  (hC:h.get? c=some (excClassObj nm qn c N bs bm hd sn sub ab col dd k0 k1 k2 k3 k5 newId)) (hN:h.Ns N mN) (hni:mN "__init__"=none) (T:OwnTail h bmB bm):K5 h c bmB newId
theorem yl {K:Frag} {h:Heap} {c:Addr} {bmB:List Value} {newId:String} (X:K.In h) (q:ExcAt K c bmB newId):K5 h c bmB newId:=by obtain⟨bm,N,nm,qn,bs,hd,sn,sub,ab,col,dd,k0,k1,k2,k3,k5,ho,ht,hok,hni⟩:=q;exact⟨bm,N,nm,qn,bs,hd,sn,sub,ab,col,dd,k0,k1,k2,k3,k5,_,X _ _ ho,.of_isNs (isNs_of_in X hok),nsMap_none_of_in X hok hni,tail_of_in X ht⟩
section
variable {C:Cx} {k:Nat} {sc:Scope} {A:Around} {W:Wd} {env:Env} {ms ai aZ b6 aK:List (Option AV)} {Z ae aN bX aB:St} {s:Shared}
theorem HC (O:C.Ok) {c:Addr} {bmB:List Value} {newId:String} (q:ExcAt C.K c bmB newId) (hb:bmB.contains (.type "BaseException")=true):Mx C (.ref c) (.ext c):=by intro W Z s A E rc e oe Q I qr he hc h;subst qr;obtain⟨bm,N,nm,qn,bs,hd,sn,sub,ab,col,dd,k0,k1,k2,k3,k5,mN,hC,hN,hni,TL⟩:=yl (fb O I) q;obtain⟨hp,g,d,t,os⟩:=s;exact wpAny_excMatches_sub_self hC he hc (TL.hasType hb) h
theorem xk (O:C.Ok) {c:Addr} {B Bn newId nid initId inN:String} {bmB bmN:List Value} (Fn:ExcBaseFacts Bn newId inN bmN) (hBn:bmB.contains (.type Bn)=true) (F:ExcBaseFacts B nid initId bmB) (q:ExcAt C.K c bmB newId) (hb:bmB.contains (.type "BaseException")=true)
  {x:Str} {np cpos pos:Pos} {args:List Expr} {as:List AV} (h1:Ev C k sc ms Z (.Name x np) (.ext c) ai ae) (h2:Es C k sc ai ae cpos args as aK aB)
  (hz:as.length<=sizeLine) (hp: ∀env,(backTo cpos (starEach args env)).any (·.1)=false) (h0:C.hx=none:=by assumption):Rz C k sc ms Z (exec (.Raise (some (.Call (.Name x np) args [] cpos)) none pos)) (.ref c) as aK aB:=by
 intro A W env s hr H;have I0:=H.inv;obtain⟨bm,N,nm,qn,bs,hd,sn,sub,ab,col,dd,k0,k1,k2,k3,k5,mN,hC,hN,hni,TL⟩:=yl (O.tQ) q;refine wpAny_Raise_call_subU (C:=c) (nm:=nm) (q:=qn) (N:=N) (bs:=bs) (bm:=bm) (hdct:=hd) (sn:=sn) (sub:=sub) (ab:=ab) (col:=col) (dd:=dd) (k0:=k0) (k1:=k1) (k2:=k2) (k3:=k3) (k5:=k5) (newId:=newId) (mN:=mN) Fn hBn F (TL.hasType hb) (hr.none h0) (hp env) hni (gq (h1 A W env s hr H) λaR r aI aA aO q=>⟨by dsimp only [aw]at q;exact q,?_⟩);refine dC (λy z=>by have:=hp env;rw [z]at this;simp at this) (gq (h2 A aR env aI hr aO) λbh vs aT ax aG qs=>⟨rfl,by rw [qs.length];exact hz,aG.inv.kept _ _ hC,hN.keeps aG.inv.kept,TL.keeps aG.inv.kept,λh' e hm=> ?_⟩);exact(raised aG qs ⟨hm.keeps,hm.new,hm.there⟩).le (aA.trans ax)
noncomputable def Rd (C:Cx) (Z:St) (a:AV) (d:PyData):Prop:= ∀(W:Wd) (s:Shared) (v:Value),Inv C W Z s->aw W a v-> ∃as,Reads s.heap v d as
noncomputable def Iv (C:Cx) (Z:St) (a:List AV) (d:List PyData):Prop:= ∀(W:Wd) (s:Shared) (v:List Value),Inv C W Z s->aU W a v-> ∃as,ReadsAll s.heap v d as
theorem yw:Rd C Z .none .none:=λW s v I q=>by subst q;exact⟨_,.none⟩
theorem jx:Rd C Z (.str x) (.str x):=λW s v I q=>by refine fh q λt=>?_;exact⟨_,.str x t⟩
theorem gF:Iv C Z [] []:=λW s v I q=>by subst q;exact⟨_,.nil⟩
theorem d6 (h1:Rd C Z a d) (h2:Iv C Z as ds):Iv C Z (a::as) (d::ds):=λW s v I q=>by refine gB q λu r q1 q2=>cG (h1 W s u I q1) λx hx=>cG (h2 W s r I q2) λy hy=>⟨_,.cons hx hy⟩
theorem yr {α:Type} {f:α->AV} {g:α->PyData} (h: ∀x,Rd C Z (f x) (g x)): ∀l:List α,Iv C Z (l.map f) (l.map g):=by
 intro aH;induction aH with
 | nil=>exact gF
 | cons x l ih=>exact d6 (h x) (ih)
theorem mH (h:Iv C Z xs ds):Rd C Z (.tup xs) (.tuple ds):=λW s v I q=>by refine Ep (q.isTup I) λa vs n hl ks=>cG (h W s vs I ks) λy hy=>⟨_,.tuple hl rfl rfl (by simpa using hy)⟩
theorem gI (hl:IsL Z v xs) (h:Iv C Z xs ds):Rd C Z v (.list ds):=λW s v I q=>by refine Ep (hl.is q I) λa vs n hl ks=>cG (h W s vs I ks) λy hy=>⟨_,.list hl rfl rfl (by simpa using hy)⟩
theorem nN (ha:Rd C Z a d) (hb:Rd C Z b d) (hc:d.canLay0=true) (hd:d.depth<=9):di C k Z (compareOp .NotEq) a b (λW r=>aw W (.bool false) r) Z:=by
 intro W ra rb qa qb;refine Op.look λA s Q hr I hq=>cG (ha W s ra I qa) λx hx=>cG (hb W s rb I qb) λy hy=>?_;refine SeqAt.compareNe_reads hx hy hc hc (by have:=hr.2.1;rw [Nat.min_self];omega) (hq _ s.toks ?_);have e:PyData.eqv d d=true:=by first | exact SeqAt.eqv_refl d hc | exact eqv_refl d hc
 rw [e];exact rfl
theorem yy (ha:Rd C Z a d) (hb:Rd C Z b d) (hc:d.canLay0=true) (hd:d.depth<=9):di C k Z (compareOp .Eq) a b (λW r=>aw W (.bool true) r) Z:=by
 intro W ra rb qa qb;refine Op.look λA s Q hr I hq=>cG (ha W s ra I qa) λx hx=>cG (hb W s rb I qb) λy hy=>?_;refine SeqAt.compareEq_reads hx hy hc hc (by have:=hr.2.1;rw [Nat.min_self];omega) (hq _ s.toks ?_);have e:PyData.eqv d d=true:=by first | exact SeqAt.eqv_refl d hc | exact eqv_refl d hc
 rw [e];exact rfl
end
end V
end
section
namespace V
theorem nc (l:Addr) (items:Array Value) (hfit:(items.size:Int)<2 ^ 63):
  Meets (Builtin.«bool.__new__» ⟨[.type "bool",.ref l],[]⟩) (λu R s=>s.heap.IsList l items/\R (.ok (.ret (.bool (!items.isEmpty)))) {s with toks:=s.toks+1+1}):=
 Meets.of_wp λprog w A R s hs=>by
  refine bI hs λhl hs=>?_;obtain⟨hp,g,d,tk,os⟩:=s;have f1:=F.conv_sub_bool
  repeat (any_goals (first | assumption | (with_reducible refine wpAny_truthy_list hl hfit ?_) | wp_step))
  all_goals first | exact i12 _ rfl hs | exact hs | skip
section
variable {C:Cx} {k:Nat} {sc:Scope} {A:Around} {W:Wd} {env:Env} {ms ai aZ b6 aK:List (Option AV)} {Z ae aN bX aB:St} {s:Shared}
theorem xe (h:IsL Z v xs) (hz:xs.length<=sizeLine) (hc:(!xs.isEmpty)=c):Ca C k Z (.ty "bool") [v] [] (.bool c) Z:=by
 intro W rf df fp hf ha hk;dsimp only [aw]at hf;subst hf;dsimp only [bC]at hk;subst hk;refine c12 (du ha) λr w=>?_;subst w;intro q;refine Op.look λA s Q hr I hq=> ?_;refine fq (h.list q I) λla vs u=>?_;subst u;intro hl ks;have e:(List.toArray vs).size=xs.length:=by simp [ks.length]
 have hb:(!(List.toArray vs).isEmpty)=c:=by
  rw [<-hc];cases xs with
  | nil=>dsimp only [aU]at ks;subst ks;rfl
  | cons y ys=>dsimp only [aU]at ks;refine v8 ks λv r z=>?_;clear ks;subst z;intro g;simp
 refine call_bool_1 (nc la _ (by rw [e];rw [jf]at hz;omega)) ⟨hl,?_⟩;refine(?_:_/\_);refine⟨rfl,?_⟩;rw [hb];exact hq _ _ (by unfold aw;rfl)
theorem sU (h:qB Z l es):Bg C Z (.loc l):=λW s ro I q=>by intro A Q E s' hk hq;refine uh q λa e=>?_;obtain⟨ob,h1,ds,n,rfl,h2⟩:=h.obj I e;have hT:s'.TypeIs (.ref a) "dict":=⟨_,hk _ _ h1,rfl⟩;rw [getitemInPython_of_ne hT.not_modules];exact aj (A1 hT F.slot_dict_getitem.lookup (aQ hq))
end
end V
end
section
namespace V
section
variable {C:Cx} {k:Nat} {sc:Scope}
theorem lZ {α:Type} {enc val:α->AV} {p:α->Bool} {M:Option α->List (Option AV)} {Sg:List AV->St} {ok:St->Prop} {la:Loc} {elt:Expr} {gens:List Comprehension} {scope:Scope} {pos:Pos} {g:Comprehension} {gw:List α}
  (hok: ∀out,ok (Sg out)) (hl: ∀out,Sg out la=some (.list out)) (hs: ∀out out',(Sg out).set la (.list out')=Sg out')
  (ha: ∀o x out,x∈gw->As C k sc (M o) (Sg out) g.target (enc x) (M (some x)) (Sg out))
  (hc:(g.ifs= []/\ ∀x,p x=true)\/ ∃c,g.ifs= [c]/\ ∀x out,x∈gw->Tv C k sc (M (some x)) (Sg out) c (p x) (M (some x)) (Sg out))
  (hv: ∀x out,x∈gw->p x=true->Ev C k sc (M (some x)) (Sg out) elt (val x) (M (some x)) (Sg out)):
  ∀(xs:List α) (out:List AV) (o:Option α),(∀x∈xs,x∈gw)->out.length+xs.length<=sizeLine->
   CL C k sc la (.ListComp elt gens scope pos) ok g [] (xs.map enc) (M o) (Sg out) (M (xs.foldl (λw x=>some x) o)) (Sg (out++(xs.filter p).map val)):=by
 intro aH;induction aH with
 | nil=>intro out o w m;simp only [List.filter_nil,xo,iM];exact .nil (hok out)
 | cons x xs ih=>
  intro out o hm hz;rw [cq]at hz;have hx:=hm x (.head _);have hm': ∀y∈xs,y∈gw:=λy hy=>hm y (.tail _ hy);rcases hp:p x with _ | _
  ·refine aP hc (λv=>bI v λ_ h=>?_) λu=>c12 u λc hi h=>?_
   ·rw [h x]at hp;exact zi hp
   ·have ih:=ih out (some x) hm' (by omega);rw [List.filter_cons_of_neg (by rw [hp];decide)];have t:=h x out hx;rw [hp]at t;exact .skip (hok out) (ha o x out hx) hi t ih
  ·have ih:=ih (out++ [val x]) (some x) hm' (by rw [cS];simp only [cq,ip];omega);rw [List.filter_cons_of_pos hp,dj];rw [eX]at ih;have em:=nF (gens:=gens) (scope:=scope) (pos:=pos) (la:=la) (hv x out hx hp) (hl out) (by omega);rw [hs]at em;refine .take (hok out) (ha o x out hx) ?_ (.emit em) ih;refine aP hc (λz=>bI z λh _=>?_) λq=>c12 q λc hi h=>?_
   ·exact .inl ⟨h,rfl,rfl⟩
   ·have t:=h x out hx;rw [hp]at t;exact .inr ⟨c,hi,t⟩
theorem jP {Z:St} {l l':Loc} {o o':AO} (h:l≠l'):(Z.set l o).set l' o'=(Z.set l' o').set l o:=by
 funext x;delta St.set;by_cases h1:x=l
 ·subst h1;simp [h]
 ·simp [h1]
end
end V
end
section
namespace V
section
variable {C:Cx} {k:Nat} {sc:Scope} {Z:St}
end
end V
end
section
namespace V
section
variable {C:Cx} {k:Nat} {sc:Scope} {Z ae aN aB:St} {ms ai aZ aK:List (Option AV)}
theorem Bk {α S:Type} {enc:α->AV} {M:S->List (Option AV)} {Sg:S->St} {step:S->α->S} {P:S->List α->Prop} {ok:St->Prop} (hok: ∀s xs,P s xs->ok (Sg s)) (hp: ∀s x xs,P s (x::xs)->P (step s x) xs)
  (h: ∀s x xs,P s (x::xs)-> ∃ai ae,As C k sc (M s) (Sg s) tgt (enc x) ai ae/\Ex C k sc ai ae body .next (M (step s x)) (Sg (step s x))): ∀(xs:List α) (s:S),P s xs->H4 C k sc ok tgt body (xs.map enc) (M s) (Sg s) (M (xs.foldl step s)) (Sg (xs.foldl step s)):=by
 intro aH;induction aH with
 | nil=>intro s hs;exact .nil (hok s [] hs)
 | cons x xs ih=>intro s hs;refine v8 (h s x xs hs) λm1 s1 ha hx=>.cons (hok s _ hs) ha hx (ih (step s x) (hp s x xs hs))
end
end V
end
section
namespace V
section
variable {M:Model} {A:Around} {E:Value->Shared->Prop} {s:Shared}
end
section
variable {C:Cx} {k:Nat} {sc:Scope} {A:Around} {W:Wd} {env:Env} {ms ai aZ b6 aK:List (Option AV)} {Z ae aN bX aB:St} {s:Shared}
end
end V
end
section
namespace V
section
variable {C:Cx} {k:Nat} {sc:Scope}
theorem xV {α β:Type} {enc:α->AV} {f:α->List AV} {M:Option α->Option β->List (Option AV)} {nx:α->Option β->Option β} {Sg:List AV->St} {ok:St->Prop} {la:Loc} {e:Expr} {g:Comprehension} {gs:List Comprehension} {gw:List α} {K:Nat}
  (hok: ∀out,ok (Sg out)) (hi:g.ifs= [])
  (ha: ∀o o2 x out,x∈gw->As C k sc (M o o2) (Sg out) g.target (enc x) (M (some x) o2) (Sg out))
  (hK: ∀x,(f x).length<=K)
  (hb: ∀x o2 out,x∈gw->out.length+K<=sizeLine->CB C k sc la e gs (M (some x) o2) (Sg out) (M (some x) (nx x o2)) (Sg (out++f x))):
  ∀(xs:List α) (out:List AV) (o:Option α) (o2:Option β),(∀x∈xs,x∈gw)->out.length+xs.length * K<=sizeLine->
   CL C k sc la e ok g gs (xs.map enc) (M o o2) (Sg out) (M (xs.foldl (λs x=>(some x,nx x s.2)) (o,o2)).1 (xs.foldl (λs x=>(some x,nx x s.2)) (o,o2)).2) (Sg (out++xs.flatMap f)):=by
 intro aH;induction aH with
 | nil=>intro out o o2 u v;simp only [List.flatMap_nil,iM];exact .nil (hok out)
 | cons x xs ih=>intro out o o2 hm hz;rw [cq,Nat.succ_mul]at hz;have hx:=hm x (.head _);have ih:=ih (out++f x) (some x) (nx x o2) (λy hy=>hm y (.tail _ hy)) (by have:=hK x;rw [cS];omega);rw [gj,<-eX];exact .take (hok out) (ha o o2 x out hx) (.inl ⟨hi,rfl,rfl⟩) (hb x o2 out hx (by omega)) ih
end
end V
end
section
namespace V
section
variable {C:Cx} {k:Nat} {sc:Scope} {Z:St}
theorem MX (hc:(a==b)=c):di C k Z (compareOp .Is) (.bool a) (.bool b) (λW r=>aw W (.bool c) r) Z:=by intro W ra rb qa qb;subst qa;subst qb;exact Op.look λA s Q hr I hq=>is_bool (hq _ _ (hc▸bO))
theorem yn (hc:(a !=b)=c):di C k Z (compareOp .IsNot) (.bool a) (.bool b) (λW r=>aw W (.bool c) r) Z:=by intro W ra rb qa qb;subst qa;subst qb;exact Op.look λA s Q hr I hq=>isnot_bool (hq _ _ (hc▸bO))
theorem iZ (l:List Str):Iv C Z (l.map .str) (l.map .str):=yr (λu=>jx) l
theorem oC: ∀(l:List Str),(∀x∈l,PyData.strOk x=true)->PyData.canLayAll0 (l.map .str)=true:=by
 intro aH;induction aH with
 | nil=>intro u;exact rfl
 | cons x l ih=>intro h;refine(?_:(PyData.strOk x && PyData.canLayAll0 (l.map .str))=true);rw [h x (.head _),ih λy hy=>h y (.tail _ hy)];rfl
end
end V
end
section
namespace V
section
variable {C:Cx} {k:Nat} {sc:Scope} {A:Around} {W:Wd} {env:Env} {ms ai aZ b6 aK:List (Option AV)} {Z ae aN bX aB:St} {s:Shared}
end
end V
end
section
namespace V
section
variable {C:Cx} {k:Nat} {sc:Scope} {Z:St}
theorem BS {v:AV} {ns:List Int} (h:IsL Z v (ns.map .int)) (h0:C.hx=none):Ca C k Z (.bi "sum") [v] [] (.int ns.sum) Z:=by
 refine xq λW r q A s outer hr hA hS I=>gB (h.list q I) λla vs hl ks=>?_;have hi:=kY ks;refine cG hi.allInts.items λxs ex=>?_;have hn:=hi.numsOf;have e2:vs=(intItems xs).toList:=by rw [<-ex]
 rw [e2,nums_intItems]at hn;rw [ex]at hl;refine eT (sum_intListG (hr.none h0) hl λh' tk t' hk' ht=> ?_);refine⟨W,.refl W,I.same hk' ht,?_⟩;exact⟨t',by rw [preSum_eq,List.take_of_length_le (by simp),hn]⟩
theorem Aj {α β:Type} (f:α->β) (xs:List α) (a b c:Option Int):eP (xs.map f) a b c=(eP xs a b c).map f:=by
 delta eP;rw [bw,List.map_filterMap]
 congr 1
 funext i;rw [gr]
end
end V
end
section
namespace V
noncomputable def Ay (name:Str) (v:AV):List (Str×AV)->List (Str×AV)
 | []=> [(name,v)]
 | e::r=>if e.1=name then(e.1,v)::r else e::Ay name v r
theorem CW (q:aw W v r): ∀{es:List (Str×AV)} {xs:List (Tok×Value)},xs.length=es.length->aU W (es.map (·.2)) (xs.map (·.2))->
  ∃xs',putIn (·.key.isStr name) (λe=>{e with val:=r}) ⟨PyData.keyHash P name,.str name tk,r⟩ (rowsOf P (es.map (·.1)) xs)=rowsOf P ((Ay name v es).map (·.1)) xs'/\xs'.length=(Ay name v es).length/\aU W ((Ay name v es).map (·.2)) (xs'.map (·.2)):=by
 intro es
 induction es with
 | nil=>exact λg m=>⟨[(tk,r)],rfl,rfl,.cons q .nil⟩
 | cons e es ih=>
  intro xs hl h;cases xs with
  | nil=>cases hl
  | cons x xs=>
   rw [dj,dj]at h;refine fq h λv' r' z a b=>?_;clear h;refine bI (List.cons.inj z) λu=>?_;subst u;intro w;subst w;refine(?_: ∃xs',putIn _ _ _ (⟨PyData.keyHash P e.1,.str e.1 x.1,x.2⟩::rowsOf P (es.map (·.1)) xs)=_/\_);unfold Ay;by_cases c:e.1=name
   ·have k1:(λd:DictEntry=>d.key.isStr name) ⟨PyData.keyHash P e.1,.str e.1 x.1,x.2⟩=true:=by simp [Value.isStr,c]
    rw [putIn_hit (λd:DictEntry=>d.key.isStr name) _ _ _ _ k1,aF c];exact tZ ((x.1,r)::xs) rfl (by simpa using hl) (.cons q b)
   ·have k1:(λd:DictEntry=>d.key.isStr name) ⟨PyData.keyHash P e.1,.str e.1 x.1,x.2⟩=false:=by simp [Value.isStr,c]
    rw [putIn_miss (λd:DictEntry=>d.key.isStr name) _ _ _ _ k1,ay c];refine fJ (ih (Nat.succ.inj hl) b) λxs' h1 h2 h3=>?_;exact tZ (x::xs') (by rw [h1];rfl) (by simp [h2]) (.cons a h3)
theorem zt:(lookIn name (tabOf P ks xs n)).isSome=true:=by
 have key: ∀(ks:List Str) (xs:List (Tok×Value)),(rowsOf P ks xs).any (·.refKey)=false:=by
  intro ks
  induction ks with
  | nil=>exact λu=>rfl
  | cons k ks ih=>
   intro xs;cases xs with
   | nil=>rfl
   | cons x xs=>exact ih xs
 delta lookIn tabOf;dsimp only;cases (rowsOf P ks xs).toArray.toList.find? (·.key.isStr name)with
 | some e=>rfl
 | none=>refine(?_:(if(rowsOf P ks xs).any (·.refKey)=true then none else some none:Option (Option Value)).isSome=true);rw [key];rfl
theorem iD (O:C.Ok) (hl:Z l=some (.inst c d)) (hd:Z d=some (.dict es)) (hs:findIn C.K (.ref c) "__setattr__"=some (some (.builtin "object.__setattr__")))
  (hp:plainOver C.K c=true) (ht:takerIn C.K c name=some none) (hh:(clsIn C.K c).any (·.hasDict)=true) (he:Ay name v es=es') (hz:es'.length<=1000):
  di C k Z (λx y=>setAttr x name y) (.loc l) v (λu g=>True) (Z.set d (.dict es')):=by
 refine xm O hl hd hs hp ht hh hz (λu g m=>zt) λW xs n tk r hl h q=> ?_;obtain⟨xs',h1,h2,h3⟩:=CW (P:=C.w.params) (tk:=tk) q hl h;subst he;refine jE xs' (if(rowsOf C.w.params (es.map (·.1)) xs).any (·.key.isStr name)then n else n+1) ?_ h2 h3;delta tabOf;rw [putName_eq,h1]
end V
end
section
namespace V
open Builtin Builtin.Str
noncomputable def gH (h:Heap) (e:Addr) (oe:Obj):Heap:=⟨(h.objs++Array.replicate (e+1 - h.objs.size) ({cls:= .none,data:= .freed}:Obj)).setIfInBounds e oe,h.life⟩
theorem get?_def (h:Heap) (a:Addr):h.get? a=(match h.objs[a]? with | some ⟨_,_,.freed,_⟩=>none | o=>o):=rfl
theorem fZ (hf:oe.isFreed=false) (a:Addr):(gH h e oe).get? a=if a=e then some oe else h.get? a:=by
 have key:(gH h e oe).objs[a]? =if a=e then some oe else if a<h.objs.size then h.objs[a]? else(Array.replicate (e+1 - h.objs.size) ({cls:= .none,data:= .freed}:Obj))[a - h.objs.size]? :=by
  delta gH;rw [De,Array.getElem?_append];by_cases q:a=e
  ·subst q;rw [aF rfl,aF rfl,aF (by rw [Du,Array.size_replicate];omega)]
  ·rw [ay (f7 q),ay q]
 rw [get?_def,key];by_cases q:a=e
 ·rw [aF q,aF q];obtain⟨c,d,dt,sl⟩:=oe;cases dt<;>first | rfl | exact zi hf
 ·rw [ay q,ay q,get?_def];by_cases z:a<h.objs.size
  ·rw [aF z]
  ·rw [ay z,Array.getElem?_eq_none (xs:=h.objs) (Nat.le_of_not_lt z),Array.getElem?_replicate];by_cases z':a - h.objs.size<e+1 - h.objs.size
   ·rw [aF z']
   ·rw [ay z']
noncomputable abbrev Cx.hd (C:Cx) (e:Addr) (oe:Obj):Cx:={C with h₀:=gH C.h₀ e oe,hx:=some e}
section
variable {C:Cx} {k:Nat} {sc:Scope} {A:Around} {W:Wd} {env:Env} {ms ai aZ b6 aK:List (Option AV)} {Z ae aN bX aB:St} {s:Shared} {e:Addr} {oe:Obj}
theorem lD (hf:oe.isFreed=false) (h0:C.h₀.get? e=none) (h:C.h₀.get? a=some o):(C.hd e oe).h₀.get? a=some o:=by refine(?_:(gH C.h₀ e oe).get? a=some o);rw [fZ hf,ay λq=>by rw [q,h0]at h;exact dF h];exact h
theorem GZ (hf:oe.isFreed=false) (h:(C.hd e oe).h₀.get? a=some o):(a=e/\o=oe)\/C.h₀.get? a=some o:=by
 have h:(gH C.h₀ e oe).get? a=some o:=h;rw [fZ hf]at h;split at h
 ·rename_i q;cases h;exact .inl ⟨q,rfl⟩
 ·exact .inr h
theorem Cx.Ok.hd (O:C.Ok) (hf:oe.isFreed=false) (h0:C.h₀.get? e=none):(C.hd e oe).Ok:=by have k: ∀a o,C.h₀.get? a=some o->(C.hd e oe).h₀.get? a=some o:=λa o=>lD hf h0;refine c12 O.nolimit λmc n1 n2=>⟨λa o q=>k a o (O.tQ a o q),O.g.keeps k,O.b.keeps k,O.boot,mc,n1.keeps k,n2⟩
theorem At.hd (H:At C sc A W env ms Z s) (hf:oe.isFreed=false) (h0:C.h₀.get? e=none) (hc:oe.cls≠ .type "frame") (z:W.fz e=some oe):At (C.hd e oe) sc (A.mark (some (.ref e))) W env ms Z s:=by
 have I:=H.inv;have F:=H.fr;have ne: ∀L o,W.fz L=some o->o.cls= .type "frame"->C.h₀.get? L=none->(C.hd e oe).h₀.get? L=none:=λL o q c g=>by refine(?_:(gH C.h₀ e oe).get? L=none);rw [fZ hf,ay λx=>by subst x;rw [z]at q;cases q;exact hc c];exact g
 refine⟨⟨I.dom,I.inj,λl a o e q=>c12 (I.obj l a o e q) λob h1 h2=>⟨ob,h1,nZ.mp h2⟩,I.apart,I.fz,λa o q=> ?_,λa o q=> ?_,I.gens,I.os,I.pos,⟨?_,I.high.2⟩⟩,
  ⟨F.scope,F.globals,F.builtins,F.ok,F.ns,F.cells,F.mi,F.mZ,F.iQ,F.jc,?_⟩⟩
 ·refine aP (GZ hf q) (λp=>bI p λk=>?_) λq=>?_
  ·subst k;intro j;subst j;exact I.frozen z hc
  ·exact I.kept a o q
 ·refine aP (GZ hf q) (λt=>bI t λr=>?_) λq=>?_
  ·subst r;intro m;subst m;exact z
  ·exact I.base a o q
 ·refine cG I.high.1 λo q=>⟨o,lD hf h0 q⟩
 ·obtain⟨fenv,rest,L,h1,h2,h3,h4,h5,h6,h7⟩:=F.pE;refine⟨fenv,rest,L,h1,λenv' he'=> ?_,h3,h4,h5,?_,h7⟩
  ·rcases h2 env' he' with⟨k1,L',o,es,n,k2,k3,k4,y⟩;refine bI y λk5 k6=>⟨k1,L',o,es,n,k2,ne _ _ k4 k5 k3,k4,k5,k6⟩
  ·refine aP h7 (λv=>bI v λw=>?_) λu=>lN u λo _ _ q c _=>?_
   ·subst w;intro i;refine(?_:(gH C.h₀ e oe).get? _=none);rw [fZ hf,ay λx=>by have q:=F.mi.1;rw [x,z]at q;exact sa q];exact h6
   ·exact ne _ _ q c h6
theorem At.MS (H:At (C.hd e oe) sc (A.mark (some x)) W env ms Z s) (hf:oe.isFreed=false) (h0:C.h₀.get? e=none) (hi: ∃o,C.h₀.get? mainGlobals=some o):At C sc A W env ms Z s:=by
 have I:=H.inv;have F:=H.fr;have back: ∀L,(C.hd e oe).h₀.get? L=none->C.h₀.get? L=none:=λL q=>by
  cases g:C.h₀.get? L with
  | none=>rfl
  | some o=>rw [lD hf h0 g]at q;exact sa q
 refine⟨⟨I.dom,I.inj,λl a o e q=>c12 (I.obj l a o e q) λob h1 h2=>⟨ob,h1,nZ.mpr h2⟩,I.apart,I.fz,λa o q=>I.kept a o (lD hf h0 q),λa o q=>I.base a o (lD hf h0 q),I.gens,I.os,I.pos,hi,I.high.2⟩,
  ⟨F.scope,F.globals,F.builtins,F.ok,F.ns,F.cells,F.mi,F.mZ,F.iQ,F.jc,?_⟩⟩
 obtain⟨fenv,rest,L,h1,h2,h3,h4,h5,h6,h7⟩:=F.pE;refine⟨fenv,rest,L,h1,λenv' he'=> ?_,h3,h4,h5,back _ h6,h7⟩;rcases h2 env' he' with⟨k1,L',o,es,n,k2,k3,k4,z⟩;refine bI z λk5 k6=>⟨k1,L',o,es,n,k2,back _ k3,k4,k5,k6⟩
theorem zE (O:C.Ok) (hb:Rz C k sc ms Z (execs body) cls as ai ae) (hcf:cls≠ .type "frame") (ht:Ev C.h k sc ai ae t c ai ae) (hm:Mx C cls c)
  (hx: ∀e oe,e≠0->(C.hd e oe).Ok->Ex (C.hd e oe) k sc ai ae (Jf::suite) f aK aB):X1 C k sc ms Z (.Try body [.ExceptHandler (some t) none (Jf::suite) hpos] [] [] pos) f aK aB:=by
 intro A W env s hr H;refine wpAny_Try_except (bH (hb A W env s hr H) (λu v x=>x.elim) λe aI hX=> ?_);obtain⟨aR,a,fl,aA,rfl,hfl,X⟩:=hX;have step: ∀{Q:Unit->Shared->Prop},(∀s' L,wV C sc A aR env ai ae cls as (some (rawInt L)) a s'->Q () s')->wpAny C.M A (noteFrame (.ref a) env) Q No aI:=λg=>by
  rcases hfl with h | h | ⟨L,hL,h⟩
  ·exact X.note (.inl h) λs' L hL X'=>g s' L X'
  ·exact X.note (.inr h) λs' L hL X'=>g s' L X'
  ·subst h;exact X.again hL (g _ L X)
 refine step λaT L Jg=>Jg.flight (fr:=none) λbt Gp=> ?_;obtain⟨bh,oe,vs,T,oT,ts,ax,aG,ze,zc,zd,_,z1,Nt,zT,Nu,z3,z2⟩:=Gp.settle;refine wpAny_handleBy_cons (codeAny_handlers_test (gq (C:=C.h) (ht (A.mark (some (.ref a))) bh env bt hr.h aG.h) λbS rc jd bg br qc=> ?_)) (by intro q;cases q);have Oa:=bg.2 _ _ ze;have he:=br.inv.frozen Oa (by rw [zc];exact hcf);refine c12 (br.inv.fz _ _ (bg.2 _ _ zT)) λoT' hT uT=>hm bS ae jd _ _ rc a oe _ br.Jy.inv qc he zc ?_;dsimp only;refine codeAny_handlers_suite ?_;refine gV he zd z1 hT (uT.data.trans Nu) z3 λh' hk=> ?_;have gu:At C sc A bS env ai ae {jd with heap:=h'}:=br.Jy.stir (X:=λu=>False) (λu x=>x.elim) (λb o u z=>⟨o,hk b o z,.refl o⟩) (λb o z=>hk b o (br.inv.kept b o z)) (bT _);have h0:C.h₀.get? a=none:=Gp.free.2.2;have hf:oe.isFreed=false:=Obj.isFreed_of_fields zd;have n0:a≠0:=λq=>by refine tC O.b λo _ _ g _=>?_;have g:C.h₀.get? 0=some o:=g;rw [q,g]at h0;exact sa h0
 have hr':bY (C.hd a oe) (A.mark (some (.ref a))) k:=⟨hr.1,hr.2.1,(λz=>by exact sa z),λu=> .inr ⟨a,oe,vs,rfl,by refine(?_:(gH C.h₀ a oe).get? a=_);rw [fZ hf,aF rfl],zd,z2⟩⟩;exact gq (C:=C.hd a oe) (hx a oe n0 (O.hd hf h0) (A.mark (some (.ref a))) bS env _ hr' (gu.hd hf h0 (by rw [zc];exact hcf) Oa)) λnD fl Gh eW mL qf=>⟨nD,aA.trans (ax.trans (bg.trans eW)),mL.MS hf h0 aG.inv.high.1,qf⟩
end
end V
end
section
namespace V
open Builtin Builtin.Str
noncomputable abbrev u4 (f0:Value) (f1:Bool) (TI TO:Addr):Obj:={cls:= .type "zip",dict:=none,data:= .fields #[f0,.bool f1,.bool false,.ref TI,.ref TO],slots:= #[]}
noncomputable abbrev iu (a b:Value):Obj:={cls:= .type "tuple",data:= .seq #[a,b]}
section
variable {prog:Program} {w:World} {A:Around} {E:Value->Shared->Prop} {s:Shared}
theorem vJ {Q:Option Obj->Shared->Prop} (h:Q (s.heap.get? a) s):wpAny M A (loadIfAlive a) Q E s:=λΓ p u=>h
theorem uL {z TI TO i1 i2 T:Addr} {f1:Bool} {oT:Obj} {Q:Fin->Shared->Prop}
  (hz:s.heap.get? z=some (u4 (rawInt T) f1 TI TO)) (hTI:s.heap.get? TI=some (iu (.ref i1) (.ref i2))) (hT:s.heap.get? T=some oT)
  (h: ∀h',h'.get? z=some (u4 (rawInt T) true TI TO)->(∀b o,b≠z->s.heap.get? b=some o->h'.get? b=some o)->
   wpAny (model prog w) A (Builtin.SmallTypes.nextOf (.ref i1)) (λx aI=>wpAny (model prog w) A (Builtin.SmallTypes.nextOf (.ref i2)) (λy aT=>wpAny (model prog w) A (newTuple [x,y]) (λr bt=>Q (.done (.ret r)) bt) E aT) E aI) E {s with heap:=h'}):
  wpAny (model prog w) A (Builtin.«zip.__next__» ⟨[.ref z],[]⟩) Q E s:=by
 refine(?_:wpAny _ _ (field (.ref z) 2>>=_) _ _ _);refine aj (iJ hz rfl (x:= .bool false) rfl ?_);refine aj (iJ hz rfl (x:= .ref TI) rfl ?_);refine aj (uU hTI rfl ?_);refine aj (bH (Q:=λb s'=> ∃h',b=false/\s'={s with heap:=h'}/\h'.get? z=some (u4 (rawInt T) true TI TO)/\ ∀b o,b≠z->s.heap.get? b=some o->h'.get? b=some o) ?_ (λb s' hh=> ?_) λv m x=>x)
 ·delta Builtin.SmallTypes.ownedTupleIsFree;refine aj (iJ hz rfl (x:=rawInt T) rfl ?_);refine aj (vJ ?_);rw [show((T:Int).toNat)=T from rfl,hT];refine(?_:wpAny _ _ (field (.ref z) 1>>=_) _ _ _);refine aj (iJ hz rfl (x:= .bool f1) rfl ?_);cases f1 with
  | true=>exact aQ ⟨s.heap,rfl,rfl,hz,λv m t e=>e⟩
  | false=>
   refine aj (rQ hz rfl (by simp) (aQ ⟨_,rfl,rfl,?_,λb o nb e=> ?_⟩))
   ·rw [jt _ hz rfl];rfl
   ·rw [nu _ _ (f7 nb)];exact e
 ·refine CR hh λh' q=>?_;subst q;intro u;subst u;intro g k;refine aj ?_;rw [<-Array.forIn_toList];refine aj (aj (cE ?_));refine aj (bH (h h' g k) (λx aI hx=>aQ (aQ ?_)) λv m x=>x);refine aj (aj (cE ?_));refine aj (bH hx (λy aT hy=>aQ (aQ (aQ ?_))) λv m x=>x);exact aj (bH hy (λr bt hr=>aQ hr) λv m x=>x)
end
section
variable {C:Cx} {k:Nat} {sc:Scope} {A:Around} {W:Wd} {env:Env} {ms ai aZ b6 aK:List (Option AV)} {Z ae aN bX aB:St} {s:Shared}
noncomputable def ni (X Y:List AV):List AV:=(X.zip Y).map λp=> .tup [p.1,p.2]
theorem DC {X Y:List AV} {i:Nat} {x:AV} (h:(ni X Y)[i]? =some x): ∃a b,X[i]? =some a/\Y[i]? =some b/\x= .tup [a,b]:=by
 delta ni at h;rw [gr]at h;cases q:(X.zip Y)[i]? with
 | none=>rw [q]at h;exact dF h
 | some p=>rw [q]at h;cases h;refine bI (List.getElem?_zip_eq_some.mp q) λa b=>?_;exact jE _ _ a b rfl
theorem C9:X[(ni X Y).length]? =none\/Y[(ni X Y).length]? =none:=by
 delta ni;rw [bw,List.length_zip];refine aP (Nat.le_total X.length Y.length) (λh=>?_) λh=>?_
 ·left;rw [Nat.min_eq_left h];exact List.getElem?_eq_none (bT _)
 ·right;rw [Nat.min_eq_right h];exact List.getElem?_eq_none (bT _)
noncomputable abbrev Kz (o:Obj) (l:Addr) (i:Nat):Prop:=o.cls= .type "list_iterator"/\o.data= .fields #[.ref l,.int i 0]
structure ZF (X Y:List AV) (W:Wd) (TI i1 i2 l1 l2:Addr):Prop where
 x:aw W (.lst X) (.ref l1)
 y:aw W (.lst Y) (.ref l2)
 t:W.fz TI=some (iu (.ref i1) (.ref i2))
 ne:i1≠i2
inductive ZB (W:Wd) (i it i1 i2 TI TO:Nat) (o1 o2:Obj) (st:List (Addr×Obj)):Prop
 | mk (h:0<i) (T:Addr) (f1:Bool) (oT:Obj) (q:W.fz T=some oT) (r:oT.cls= .type "tuple") (u:st= [(it,u4 (rawInt T) f1 TI TO),(i1,o1),(i2,o2)]):ZB W i it i1 i2 TI TO o1 o2 st
inductive ZS (X Y:List AV) (W:Wd) (i:Nat) (it:Addr) (st:List (Addr×Obj)):Prop
 | mk (TI TO i1 i2 l1 l2:Addr) (o1 o2:Obj) (zf:ZF X Y W TI i1 i2 l1 l2) (e1:it≠i1) (e2:it≠i2) (e3:Kz o1 l1 i) (e4:Kz o2 l2 i)
  (h:(i=0/\TO≠it/\TO≠i1/\TO≠i2/\st= [(it,u4 .none false TI TO),(i1,o1),(i2,o2),(TO,iu .none .none)])\/ZB W i it i1 i2 TI TO o1 o2 st):ZS X Y W i it st
noncomputable def N2 (X Y:List AV):vZ:=λW i it _ st=>ZS X Y W i it st
theorem B4 {α:Type} {P:α->Prop} {a b c:α} (ha:P a) (hb:P b) (hc:P c): ∀p∈ [a,b,c],P p:=vD ha (all2 hb hc)
theorem KR {α:Type} {P:α->Prop} {a b c d:α} (ha:P a) (hb:P b) (hc:P c) (hd:P d): ∀p∈ [a,b,c,d],P p:=vD ha (B4 hb hc hd)
theorem Ly {l:List (Addr×Obj)}:Sub [(x,a'),(y,b'),(z,c')] ((x,a)::(y,b)::(z,c)::l):=
 B4 ⟨_,.head _,rfl⟩ ⟨_,.tail _ (.head _),rfl⟩ ⟨_,.tail _ (.tail _ (.head _)),rfl⟩
theorem Gy (h:Kz o l i):Jk o/\o.cls≠ .type "frame":=⟨λn z=>by rw [h.1]at z;cases z;decide,by rw [h.1];decide⟩
theorem HX (h:o.cls= .type "tuple"): ¬Jk o:=λj=>by have:=j _ h;revert this;decide
theorem Kz.it {o:Obj} {l a:Addr} {i:Nat} {h:Heap} (x:Kz o l i) (g:h.get? a=some o):h.IsListIter a l i:=⟨o,g,x.1,x.2⟩
theorem oS {n i j:Nat} (h:i≠j):n+i≠n+j:=by omega
theorem jA (h:W.fz a=some o) (f:dS W b):a≠b:=λe=>by rw [e,f.1]at h;exact dF h
theorem aw.FO (q:aw W (.lst xs) (.ref a)): ∃o,W.fz a=some o:=by
 refine NS q λa' o vs n e f _=>?_;clear q
 injection e with e
 subst e;exact⟨o,f⟩
theorem aw.listAt (q:aw W (.lst xs) (.ref a)) (I:Inv C W Z s): ∃vs,s.heap.IsList a (List.toArray vs)/\aU W xs vs:=by
 refine fq (q.isList I) λa' vs e h k=>?_
 injection e with e
 subst e;exact i12 vs h k
theorem Inv.HN {X:Addr->Prop} (I:Inv C W Z s) (n: ∀a,X a->W.fz a=none/\ ∀l,W.ρ l≠some a) {h:Heap} (k: ∀b o,¬X b->s.heap.get? b=some o->h.get? b=some o):Inv C W Z {s with heap:=h}:=
 ⟨I.dom,I.inj,λl a o e q=>c12 (I.obj l a o e q) λob h1 h2=>⟨ob,k _ _ (λz=>(n _ z).2 _ e) h1,h2⟩,I.apart,λa o e=>c12 (I.fz a o e) λo' h1 u=>⟨o',k _ _ (λz=>by rw [(n _ z).1]at e;exact dF e) h1,u⟩,
  λa o e=>k _ _ (λz=>by have:=I.base a o e;rw [(n _ z).1]at this;exact dF this) (I.kept a o e),I.base,I.gens,I.os,I.pos,I.high⟩
theorem Fl {X Y:List AV} {x:Str} {p:Pos} (hne:ni X Y≠ []) (h0:C.hx≠some 0):ItrN C k (λv=>True) (ni X Y) .none (N2 X Y) (.Name x p) where
 mono:=λW W' i it rs st le hz=>by obtain⟨TI,TO,i1,i2,l1,l2,o1,o2,zf,e1,e2,e3,e4,h⟩:=hz;refine⟨TI,TO,i1,i2,l1,l2,o1,o2,⟨zf.x.mono le,zf.y.mono le,le.2 _ _ zf.t,zf.ne⟩,e1,e2,e3,e4,h.imp id λh=> ?_⟩;obtain⟨z,T,f1,oT,q,r,u⟩:=h;exact⟨z,T,f1,oT,le.2 _ _ q,r,u⟩
 less:=λW X' i it rs st hX hz=>by
  obtain⟨TI,TO,i1,i2,l1,l2,o1,o2,zf,e1,e2,e3,e4,h⟩:=hz;have out: ∀a o,W.fz a=some o->o.cls= .type "tuple"->(W.minus X').fz a=some o:=λa o z q=>by rw [Wd.bB λn=>HX q (hX a o n z)];exact z
  refine⟨TI,TO,i1,i2,l1,l2,o1,o2,⟨zf.x.taken hX,zf.y.taken hX,out _ _ zf.t rfl,zf.ne⟩,e1,e2,e3,e4,h.imp id λh=> ?_⟩;obtain⟨z,T,f1,oT,q,r,u⟩:=h;exact⟨z,T,f1,oT,out _ _ q r,r,u⟩
 jk:=λW i it rs st hz p hp=>by
  obtain⟨TI,TO,i1,i2,l1,l2,o1,o2,zf,e1,e2,e3,e4,h⟩:=hz;refine aP h (λq9=>bI q9 λz _=>?_) λq8=>?_
  ·cases z
  ·rcases q8 with⟨_,T,f1,oT,_,_,rfl⟩
   exact B4 (P:=λp=>Jk p.2/\p.2.cls≠ .type "frame") ⟨λn z=>by cases z;decide,show Value.type "zip"≠ .type "frame" by decide⟩ (Gy e3) (Gy e4) p hp
 self:=λW i rs st it A s E Q g hz q=>by
  obtain⟨TI,TO,i1,i2,l1,l2,o1,o2,zf,e1,e2,e3,e4,h⟩:=hz;have hT:s.TypeIs (.ref it) "zip":=by
   rcases h with⟨_,_,_,_,rfl⟩ | ⟨_,_,_,_,_,_,rfl⟩<;>exact i12 _ (g _ (.head _)) rfl
  refine wpAny_pyIter_slot hT F.slot_zip_iter (zN F.slot_zip_iter hT F.entry_zip_iter ?_ (F.args_zip_iter_1 _));exact aQ ⟨_,rfl,"zip",_,hT,F.slot_zip_next.lookup,q⟩
 next:=λi x W Z rs st it A s outer hx v hr hA hS I g w hz=>by
  obtain⟨TI,TO,i1,i2,l1,l2,o1,o2,zf,e1,e2,e3,e4,h⟩:=hz;refine fq (DC hx) λa b xa yb q4=>?_;subst q4;refine c12 (zf.x.listAt I) λva hla ka=>c12 (zf.y.listAt I) λvb hlb kb=>c12 (ka.get xa) λra ga qa=>c12 (kb.get yb) λrb gb qb=>?_;have hTI:=I.frozen zf.t (show Value.type "tuple"≠ .type "frame" by decide);refine cG zf.x.FO λox fx=>cG zf.y.FO λoy fy=>aP h (λj=>ve j λq0=>?_) λm=>?_
  ·subst q0;intro n1 n2 n3 q3;subst q3;refine bI (g _ (.head _)) λz1 z2=>bI (g _ (.tail _ (.head _))) λp1 p2=>bI (g _ (.tail _ (.tail _ (.head _)))) λq1 q2=>bI (g _ (.tail _ (.tail _ (.tail _ (.head _))))) λt1 t2=>wpAny_pyNext_zip_item (a:= .none) (b:= .none) ⟨jA zf.t z2,n1,f7 e1,f7 e2,jA zf.t t2,jA zf.t p2,jA zf.t q2,n2,n3,zf.ne,jA fx z2,jA fx t2,jA fx p2,jA fx q2,jA fy z2,jA fy t2,jA fy p2,jA fy q2⟩
    z1 hTI t1 (e3.it p1) (e4.it q1) hla hlb (by simpa using ga) (by simpa using gb) λh' a1 a2 a3 a4 a5 a6 a7=> ?_
   have I1:Inv C W Z {s with heap:=h'}:=I.HN (X:=λc=>c=it\/c=TO\/c=i1\/c=i2) (λc hc=>by rcases hc with rfl | rfl | rfl | rfl<;>assumption) λc o hc z=>a7 c o (λq=>hc (.inl q)) (λq=>hc (.inr (.inl q))) (λq=>hc (.inr (.inr (.inl q)))) (λq=>hc (.inr (.inr (.inr q)))) z;refine bI I.cz λNv Nw=>bI (I1.f6 (h:=h') (t:=s.toks) (d:=s.drawn) Nv Nw (λv w e=>e) a5) λle I2=>?_;refine fJ a3 λo1' b1 b2 b3=>?_;clear a3;refine fJ a4 λo2' c1 c2 c3=>?_;clear a4;have fr: ∀{a o},s.heap.get? a=some o->dS W a->dS (W.freeze s.heap.objs.size (iu ra rb)) a:=λ{a o} e f=>⟨by
    refine(?_:(if a=s.heap.objs.size then _ else W.fz a)=none);rw [ay (Nat.ne_of_lt (ig e))];exact f.1,f.2⟩
   have ft:(W.freeze s.heap.objs.size (iu ra rb)).fz s.heap.objs.size=some (iu ra rb):=by
    show(if _ then _ else _)=_;rw [aF rfl]
   refine⟨_,_,[(it,u4 (rawInt s.heap.objs.size) false TI TO),(i1,o1'),(i2,o2')],le,I2,rfl,⟨_,_,[ra,rb],0,rfl,ft,rfl,rfl,.cons (qa.mono le) (.cons (qb.mono le) .nil)⟩,B4 ⟨a1,fr z1 z2⟩ ⟨b1,fr p1 p2⟩ ⟨c1,fr q1 q2⟩,Ly,?_⟩
   ·exact⟨TI,TO,i1,i2,l1,l2,o1',o2',⟨zf.x.mono le,zf.y.mono le,le.2 _ _ zf.t,zf.ne⟩,e1,e2,⟨b2,b3⟩,⟨c2,c3⟩,.inr ⟨Nat.succ_pos _,_,false,_,ft,rfl,rfl⟩⟩
  ·rcases m with⟨hi,T,f1,oT,hT,cT,rfl⟩
   refine bI (g _ (.head _)) λz1 z2=>bI (g _ (.tail _ (.head _))) λp1 p2=>bI (g _ (.tail _ (.tail _ (.head _)))) λq1 q2=>?_;have hTy:s.TypeIs (.ref it) "zip":=⟨_,z1,rfl⟩;refine aj (wpAny_attempt (FU (name:=Str.ofString "__next__") hTy F.slot_zip_next
    (zN F.slot_zip_next hTy F.entry_zip_next (uL z1 hTI (I.frozen hT (by rw [cT];decide)) λiq G6 k₁=> ?_) (F.args_zip_next_1 _))))
   have m4: ∀{h h':Heap} {l:Addr} {items:Array Value} {c:Addr},h.IsList l items->(∀b o,b≠c->h.get? b=some o->h'.get? b=some o)->l≠c->h'.IsList l items:=λq6 k n=>(by refine c12 q6 λo e r=>?_;clear q6;exact⟨o,k _ _ n e,r⟩);refine wpAny_nextOf_list_item (e3.it (k₁ _ _ (f7 e1) p1)) (m4 hla k₁ (jA fx z2)) (by simpa using ga) λjD Eg Eh=> ?_;have k₂: ∀b o,b≠i1->iq.get? b=some o->jD.get? b=some o:=λb o n e=>(Eh.2 b n).trans e;refine wpAny_nextOf_list_item (e4.it (k₂ _ _ (f7 zf.ne) (k₁ _ _ (f7 e2) q1))) (m4 (m4 hlb k₁ (jA fy z2)) k₂ (jA fy p2)) (by simpa using gb) λmM G7 Ma=> ?_;have Ei: ∀b o,b≠i2->jD.get? b=some o->mM.get? b=some o:=λb o n e=>(Ma.2 b n).trans e;refine oI ?_ (by refine(?_:(2:Nat)<=sizeLine);decide);have I1:Inv C W Z {s with heap:=mM}:=I.HN (X:=λc=>c=it\/c=i1\/c=i2) (λc hc=>by rcases hc with rfl | rfl | rfl<;>assumption) λc o hc z=>Ei c o (λq=>hc (.inr (.inr q))) (k₂ c o (λq=>hc (.inr (.inl q))) (k₁ c o (λq=>hc (.inl q)) z));refine bI I1.cz λNv Nw=>?_;have a5:(mM.push (iu ra rb)).get? mM.objs.size=some (iu ra rb):=dZ _ rfl;refine bI (I1.f6 (h:=mM.push (iu ra rb)) (t:=s.toks) (d:=s.drawn) Nv Nw (a9 _ _) a5) λle I2=>?_;have fr: ∀{a o},mM.get? a=some o->dS W a->dS (W.freeze mM.objs.size (iu ra rb)) a:=λ{a o} e f=>⟨by
    refine(?_:(if a=mM.objs.size then _ else W.fz a)=none);rw [ay (Nat.ne_of_lt (ig e))];exact f.1,f.2⟩
   have ft:(W.freeze mM.objs.size (iu ra rb)).fz mM.objs.size=some (iu ra rb):=by
    show(if _ then _ else _)=_;rw [aF rfl]
   have z3:=Ei _ _ e2 (k₂ _ _ e1 G6);refine fJ Eg λo1' b1 b2 b3=>?_;clear Eg;refine fJ G7 λo2' c1 c2 c3=>?_;clear G7;have Ob:=Ei _ _ zf.ne b1;refine i12 _ rfl (aQ ⟨_,_,[(it,u4 (rawInt T) true TI TO),(i1,o1'),(i2,o2')],le,I2,rfl,⟨_,_,[ra,rb],0,rfl,ft,rfl,rfl,.cons (qa.mono le) (.cons (qb.mono le) .nil)⟩,B4 ⟨a9 _ _ _ _ z3,fr z3 z2⟩ ⟨a9 _ _ _ _ Ob,fr Ob p2⟩ ⟨a9 _ _ _ _ c1,fr c1 q2⟩,Ly,?_⟩)
   ·exact⟨TI,TO,i1,i2,l1,l2,o1',o2',⟨zf.x.mono le,zf.y.mono le,le.2 _ _ zf.t,zf.ne⟩,e1,e2,⟨b2,b3⟩,⟨c2,c3⟩,.inr ⟨Nat.succ_pos _,T,true,oT,le.2 _ _ hT,cT,rfl⟩⟩
 stop:=λW Z rs st it A s outer v hr hA hS I g w hz=>by
  obtain⟨TI,TO,i1,i2,l1,l2,o1,o2,zf,e1,e2,e3,e4,h⟩:=hz;rcases h with⟨z,_⟩ | ⟨hi,T,f1,oT,hT,cT,rfl⟩
  ·exact absurd (List.eq_nil_of_length_eq_zero z) hne
  refine c12 (zf.x.listAt I) λva hla ka=>c12 (zf.y.listAt I) λvb hlb kb=>?_;have hTI:=I.frozen zf.t (show Value.type "tuple"≠ .type "frame" by decide);refine cG zf.x.FO λox fx=>cG zf.y.FO λoy fy=>bI (g _ (.head _)) λz1 z2=>bI (g _ (.tail _ (.head _))) λp1 p2=>bI (g _ (.tail _ (.tail _ (.head _)))) λq1 q2=>?_;have hTy:s.TypeIs (.ref it) "zip":=⟨_,z1,rfl⟩;have m4: ∀{h h':Heap} {l:Addr} {items:Array Value} {c:Addr},h.IsList l items->(∀b o,b≠c->h.get? b=some o->h'.get? b=some o)->l≠c->h'.IsList l items:=λq5 k n=>(by refine c12 q5 λo e r=>?_;clear q5;exact⟨o,k _ _ n e,r⟩);have Gq: ∀{h h':Heap} {c:Addr},Inv C W Z {s with heap:=h}->dS W c->(∀b o,b≠c->h.get? b=some o->h'.get? b=some o)->Inv C W Z {s with heap:=h'}:=λJ f k=>J.HN (X:=(· =_)) (λa q=>q▸f) k;refine mu hTy F.slot_zip_next F.entry_zip_next (F.args_zip_next_1 _) (uL z1 hTI (I.frozen hT (by rw [cT];decide)) λiq G6 k₁=> ?_);have I1:=Gq I z2 k₁;refine bI (hr.hd h0 I1) λd1 n1=>?_;cases hx:X[(ni X Y).length]? with
  | none=>refine mX (A:=A.in1) d1 (e3.it (k₁ _ _ (f7 e1) p1)) (m4 hla k₁ (jA fx z2)) (by rw [F4,oP,ka.length];exact oP.mp hx) (λe o vs a b c d q=>n1 e o vs a b c d (q▸p2.1)) λjD a k₂ ⟨oa,ga,ca⟩=> ?_;exact⟨a,oa,rfl,ga,ca,W,.refl W,Gq I1 p2 k₂,rfl⟩
  | some xa=>
   have hy:Y[(ni X Y).length]? =none:=by
    refine aP (C9 (X:=X) (Y:=Y)) (λh=>?_) λh=>?_
    ·rw [hx]at h;exact sa h
    ·exact h
   refine c12 (ka.get hx) λra ga qa=>wpAny_nextOf_list_item (e3.it (k₁ _ _ (f7 e1) p1)) (m4 hla k₁ (jA fx z2)) (by simpa using ga) λjD Eg Eh=> ?_;have k₂: ∀b o,b≠i1->iq.get? b=some o->jD.get? b=some o:=λb o n e=>(Eh.2 b n).trans e;have I2:=Gq I1 p2 k₂;refine bI (hr.hd h0 I2) λd2 n2=>?_;refine mX (A:=A.in1) d2 (e4.it (k₂ _ _ (f7 zf.ne) (k₁ _ _ (f7 e2) q1))) (m4 (m4 hlb k₁ (jA fy z2)) k₂ (jA fy p2)) (by rw [F4,oP,kb.length];exact oP.mp hy) (λe o vs a b c d q=>n2 e o vs a b c d (q▸q2.1)) λmM a Ei ⟨oa,gb,ca⟩=> ?_;exact⟨a,oa,rfl,gb,ca,W,.refl W,Gq I2 q2 Ei,rfl⟩
 hZ:=λi W Z rs rx st it A s I g h=>aQ ⟨st,I,g,λp hp=>⟨p,hp,rfl⟩,h,λv w u1 e=>e⟩
theorem xu {fn a b:Expr} {x:Str} {pos:Pos} {np:Pos} {X Y:List AV} (h1:Ev C k sc ms Z (.Name x np) (.ty "zip") ai ae) (h2:Es C k sc ai ae pos [a,b] [.lst X,.lst Y] aK aB)
  (hs: ∀env,(backTo pos (starEach [a,b] env)).any (·.1)=false) (he: ∀env,eval (.Call (.Name x np) [a,b] [] pos) env=(do callWith pos (<-eval (.Name x np) env) [] (backTo pos (starEach [a,b] env)) (backToKw pos (keywordEach [] env))))
  (hf: ∀env x',foldedSetIterable (.Call (.Name x np) [a,b] [] pos) env x'=pure x'):oB C k sc ms Z (.Call (.Name x np) [a,b] [] pos) aK aB .none (N2 X Y):=by
 intro β A W env s p rest Q hr H g;rw [he];refine aj (cX (h1 A W env s hr H) λaR rf aI aA aO p9=> ?_);subst p9;refine cI (dC (qJ (hs env)) (bf (h2 A aR env aI hr aO) λbh df aT ax aG qa=>⟨cK _ _ _ _ aG.inv rfl,?_⟩));refine gB (fF qa) λra rb va vb=>?_;refine Mn (id va) λl1 o1 _ _ u=>?_;subst u;intro v;refine Mn (id vb) λl2 o2 _ _ q=>?_;subst q;intro v;refine c12 (va.listAt aG.inv) λPN hla ka=>c12 (vb.listAt aG.inv) λPO hlb kb=>call_zip_2 hla hlb λh' hz hTI hTO hi1 hi2 hsz hk=> ?_;have new: ∀j,aT.heap.get? (aT.heap.objs.size+j)=none:=λj=>by rw [Heap.get?,Array.getElem?_eq_none (gZ _ _)]
 have fr: ∀j,lL C bh env (aT.heap.objs.size+j):=λj=>lL.of_none aG (new j);have br:At C sc A bh env aK aB {aT with heap:=h'}:=aG.stir (X:=λv=>False) (λv x=>x.elim) (λb o v z=>⟨o,hk b o z,.refl o⟩) (λb o z=>hk b o (aG.inv.kept b o z)) (bT _);refine bI (br.freeze hTI (fr 2).1.1 (fr 2).1.2 (fr 2).2.1) λAI gu=>?_;have fz: ∀j,j≠2->dS (bh.freeze (aT.heap.objs.size+2) (iu (.ref aT.heap.objs.size) (.ref (aT.heap.objs.size+1)))) (aT.heap.objs.size+j):=λj hj=>⟨by
  refine(?_:(if aT.heap.objs.size+j=aT.heap.objs.size+2 then _ else _)=none);rw [ay (oS hj)];exact(fr j).1.1,(fr j).1.2⟩
 refine fJ hi1 λoa a1 a2 a3=>?_;clear hi1;refine fJ hi2 λob b1 b2 b3=>?_;clear hi2;refine aj (cF (aj (eL (hf _ _) (aj (cE (wpAny_pyIter_zip hz ?_))))));refine g _ _ _ (aA.trans (ax.trans AI)) gu ⟨[(aT.heap.objs.size+4,u4 .none false (aT.heap.objs.size+2) (aT.heap.objs.size+3)),(aT.heap.objs.size,oa),(aT.heap.objs.size+1,ob),(aT.heap.objs.size+3,iu .none .none)],.none,KR ⟨hz,fz 4 (by decide)⟩ ⟨a1,fz 0 (by decide)⟩ ⟨b1,fz 1 (by decide)⟩ ⟨hTO,fz 3 (by decide)⟩,KR ⟨(fr 4).2.1,(fr 4).2.2⟩ ⟨(fr 0).2.1,(fr 0).2.2⟩ ⟨(fr 1).2.1,(fr 1).2.2⟩ ⟨(fr 3).2.1,(fr 3).2.2⟩,c5,?_⟩
 ·refine⟨aT.heap.objs.size+2,aT.heap.objs.size+3,aT.heap.objs.size,aT.heap.objs.size+1,l1,l2,oa,ob,⟨va.mono AI,vb.mono AI,?_,oS (i:=0) (by decide)⟩,oS (j:=0) (by decide),oS (by decide),⟨a2,a3⟩,⟨b2,b3⟩,.inl ⟨rfl,oS (by decide),oS (j:=0) (by decide),oS (by decide),rfl⟩⟩;show(if _ then _ else _)=_;rw [aF rfl]
theorem jZ:typeLookup (.type "list") (dunderI "add")=pure (some (.builtin "list.__iadd__")):=by rw [uV,uY];kernel_rfl
theorem AM (h:Z l=some (.list xs)) (hv:IsL Z v ys) (hz:xs.length+ys.length<=1000000) (hne:v≠ .loc l):di C k Z (inplaceOp .Add) (.loc l) v (λW r=>aw W (.loc l) r) (Z.set l (.list (xs++ys))):=by
 intro W ra rb qa qb A s outer hr hA hS I;refine lN ((IsL.loc h).is qa I) λla vs n z=>?_;subst z;intro hl ks;refine lN (hv.is qb I) λlb us m q=>?_;subst q;intro hl' ks';have h1:s.TypeIs (.ref la) "list":=⟨_,hl,rfl⟩;have h2:s.TypeIs (.ref lb) "list":=⟨_,hl',rfl⟩;refine cE ?_;have hfi:fillsInplaceSlot (.type "list") "add" (Operator.Add== .Add)=pure false:=by refine(?_:(typeLookup (.type "list") (dunderI "add")>>=λfi=>pure (fi.isSome && !isSeqSlot fi))=pure false);rw [jZ];refine(?_:(pure _:Sem Bool)=pure false);exact dY pure (by decide+kernel)
 have hsi:seqSlot? (.type "list") (dunderI "add")=pure (some (.builtin "list.__iadd__")):=PySem.seqSlot_of jZ (by decide+kernel);refine aj (wpAny_typeOf h1 (aj (eL hfi ?_)));refine(?_:wpAny _ A (if false=true then _ else _) _ _ s);rw [ay dM];refine aj (wpAny_binaryOp1_none (nm:="add") h1 h2 noFill_list_add ?_);refine aj (eL hsi (aj (rL ?_)));have zl:vs.length+us.length<=1000000:=by rw [ks.length,ks'.length];exact hz
 have sz:1000000<=sizeLine:=by decide
 refine(pS F.slot_list_iadd h1 F.entry_list_iadd (F.args_list_iadd_2 _ _) (AutoSeq1.list___iadd___list_list_0 la _ n lb _ m (by simp [Builtin.List.listTooLong];intro u;omega) (by simp;omega) (by simp;omega)) ⟨hl,hl',?_⟩);refine c12 qa λa e ea=>?_;clear qa
 injection ea with ea
 subst ea;refine cG (mK (λx=>x++us.toArray) (List.toArray vs) n) λn' en=>⟨W,.refl W,I.upd (t:=s.toks) (d:=s.drawn) e (ez _ _ _) (jt _ hl rfl) ⟨rfl,vs++us,n',?_,ks.append ks'⟩,?_⟩
 ·rw [en];simp
 ·exact i12 _ e rfl
theorem Cc (h:IsL Z v xs):Mt C k Z v "count" (.bi "list.count"):=by intro W ro pl q;refine Op.look λA s Q hr I hq=> ?_;refine lN (h.is q I) λla vs n z=>?_;subst z;intro hl ks;exact s6 ⟨_,hl,rfl⟩ F.plainAttrs_list F.slot_list_count F.type_list_count (λa e=>by cases e;exact i12 _ hl rfl) (hq _ _ ⟨rfl,rfl⟩)
theorem countIn_strs (x:Str): ∀ns:List Str,Spec.countIn (.str x) (ns.map PyData.str)=(ns.countP (· ==x):Nat):=by
 intro aH;induction aH with
 | nil=>exact rfl
 | cons y r ih=>
  refine(?_:(if Spec.same (.str y) (.str x)then(1:Int)else 0)+Spec.countIn (.str x) (r.map PyData.str)=_);rw [ih,An];have e:Spec.same (.str y) (.str x)=(y==x):=by first | rfl | (unfold Spec.same;rfl)
  rw [e];cases (y==x)<;>simp<;>omega
theorem wO {v:AV} {ns:List Str} {x:Str} {c:Int} (h:IsL Z v (ns.map .str)) (hc:(ns.countP (· ==x):Nat)=c):Ca C k Z (.bi "list.count") [v,.str x] [] (.int c) Z:=by refine oj λW rv rx qa qb=>fh qb λt=>Op.look λA s Q hr I hq=>gB (h.list qa I) λla vs hl ks=>count_list_strs hl (wK ks) (hq _ _ ?_);rw [countIn_strs,hc];exact b8
theorem uW (h:Rd C Z v (.list ds)) (hx:Rd C Z x d) (hds:PyData.canLayAll0 ds=true) (hd:d.canLay0=true) (hz:d.depth<=8) (hc:(!(ds.any λy=>PyData.eqv y d))=c):di C k Z (compareOp .NotIn) x v (λW r=>aw W (.bool c) r) Z:=by intro W ra rb qa qb;refine Op.look λA s Q hr I hq=>cG (h W s rb I qb) λa1 h1=>cG (hx W s ra I qa) λa2 h2=>?_;exact SeqAt.notIn_list_reads h1 h2 hds hd (by have:=hr.2.1;have:=Nat.min_le_right (PyData.depthAll ds) d.depth;omega) (hq _ s.toks (by rw [hc];exact bO))
theorem qE (h:i.natAbs.log2<1920):Ca C k Z (.ty "str") [.int i] [] (.str (Str.ofString (toString i))) Z:=by intro W rf df fp hf ha hk;dsimp only [aw]at hf;subst hf;dsimp only [bC]at hk;subst hk;refine c12 (du ha) λr u=>?_;subst u;intro q;dsimp only [aw]at q;refine cG q λt z=>?_;subst z;exact Op.look λA s Q hr I hq=>P.str_of_int h (hq _ _ bN)
theorem v_not (h:ie C k Z truthy v (λu r=>r=c) aB) (hd:(!c)=d):ie C k Z (unaryOp .Not) v (λW r=>aw W (.bool d) r) aB:=by intro W ra qa A s outer hr hA hS I;refine not_of (bH (h W ra qa A s outer hr hA hS I) (λr s' ⟨W',le,I',e⟩=>⟨W',le,I',?_⟩) λu w z=>z);rw [e,hd];exact bO
theorem mC (h1:Ev C k sc ms Z e u ai ae) (h2:ie C k ae truthy u (λw r=>r=true) aN) (h3:Bv C k sc ai aN pos .And (e2::rest) v aK aB):Bv C k sc ms Z pos .And (e::e2::rest) v aK aB:=by
 intro A W env s hr H;refine(?_:wpAny C.M A (do
  let v<-eval e env
  standAt pos
  let t<-holding [v] (truthy v)
  match BoolOp.And,t with
  | .And,false | .Or,true=>pure v
  | _,_=>boolOp pos .And (evalEach (e2::rest) env)) _ _ _)
 refine cX (h1 A W env s hr H) λaR r aI aA aO q=>aj (cF (aj (cE ?_)));refine Op.in rfl (h2 _ r (q.mono (a8 aO.fr))) hr aO λbh b aT ax aG qb w g=> ?_;subst qb;exact bf (h3 A _ env aT hr aG) λbS r bt bg br q=>bz ((aA.trans ax).trans bg) br q
theorem Inv.yo (I:Inv C W Z s) (ks:aU W xs vs) (ht:s.toks<=tk):Er C W Z (λW r=>aw W (.tup xs) r) (.ref s.heap.objs.size) {s with heap:=s.heap.push {cls:= .type "tuple",data:= .seq (List.toArray vs)},toks:=tk}:=by refine bI I.cz λn1 n2=>bI (I.f6 (t:=tk) (d:=s.drawn) n1 n2 (a9 _ _) (dZ s.heap (o:={cls:= .type "tuple",data:= .seq (List.toArray vs)}) rfl) ht) λle I'=>?_;exact⟨_,le,I',_,_,vs,0,rfl,by show(if _ then _ else _)=_;rw [aF rfl],rfl,rfl,ks.mono le⟩
theorem Ig (hy:(y.length==0)=false) (hx:B x n) (hn:decide (n<=16777216)=true) (hp:Txt.partition x y=p):Ca C k Z (.bi "str.partition") [.str x,.str y] [] (.tup [.str p.1,.str p.2.1,.str p.2.2]) Z:=by
 refine oj λW rx ry qa qb A s outer hr hA hS I=>fh qa λt=>fh qb λu=>pS F.slot_str_partition (pX _ _ _) F.entry_str_partition (F.args_str_partition_2 _ _) (meets_str_partition x y t u hy (kG hx hn)) ?_;subst hp;delta Txt.partition;cases occurrences x y 0 x.length 1 with
 | nil=>exact I.yo (.cons bN (.cons bN (.cons bN .nil))) (jm _)
 | cons i r=>exact I.yo (.cons bN (.cons bN (.cons bN .nil))) (bU (jm _) (jm _))
end
end V
end
section
namespace V
open Builtin Builtin.Str Builtin._codecs
noncomputable abbrev lat:PySem.Str:=PySem.Str.ofString "iso-8859-1"
theorem DO (id:String) (self:Value) (x:PySem.Str):encodeRoad id self x lat none=(encodeNarrow id latin1Codec none self x>>=λb=>mkBytes b):=by kernel_rfl
theorem BK (x:PySem.Str) (t u:Tok): «str.encode» ⟨[.str x t,.str lat u],[]⟩=(encodeRoad "str.encode" (.str x t) x lat none>>=λv=>ret v):=by kernel_rfl
theorem Cs {id:String} {b:Array UInt8}:decodeRoad id b lat none []=(runDecoder id latin1Decoder none true b 0 []>>=λr=>mkStr ⟨r.1⟩):=by kernel_rfl
theorem CH: «bytes.decode» ⟨[.bytes (c::cs).toArray t,.str lat u],[]⟩=(mkStr (PySem.Str.ofString "utf-8")>>=λw=>mkStr lat>>=λe=>mkStr (PySem.Str.ofString "bytes.decode")>>=λd=>
  call (.builtin "_codecs.decode.text") [.bytes (c::cs).toArray t,e,.none,d]>>=λv=>ret v):=by kernel_rfl
noncomputable def jY (x:PySem.Str):Array UInt8:=x.cps.map (·.toUInt8)
theorem Fz (h:c<256):latin1Codec.bad c=false:=by
 show decide _=false
 simp;omega
noncomputable abbrev LS:=Nat×Array UInt8×Faults
theorem Ai {x:PySem.Str} {r:Array UInt8} {f:Nat->LS->Sem (ForInStep LS)} {K:LS->Sem (Array UInt8)} {g:Nat->Array UInt8->Faults->Sem (ForInStep LS)}
  (hz:x.length<=sizeLine) (hr:r.size=x.length) (hf: ∀u i o w,¬o.size>sizeLine->f u (i,o,w)=g i o w) (h0: ∀w c,x.cps[0]? =some c->g 0 #[] w=pure (.yield (x.cps.size,r,w))) (h1: ∀w,x.cps[x.cps.size]? =none->g x.cps.size r w=pure (.done (x.cps.size,r,w))) (hk: ∀i w,K (i,r,w)=pure r):
  (forIn [:x.length] (0,#[],{}) f>>=K)=pure r:=by
 rw [KPc.range_list];have f1: ∀u w,f u (x.cps.size,r,w)=pure (.done (x.cps.size,r,w)):=λu w=>(hf u _ _ _ (by rw [hr];omega)).trans (h1 w (Array.getElem?_eq_none (bT _)));obtain⟨n,hn⟩: ∃n,n=x.length:=⟨_,rfl⟩;have hs:x.cps.size=n:=hn.symm;rw [<-hn];cases n with
 | zero=>have er:r= #[]:=Array.eq_empty_of_size_eq_zero (hr.trans hn.symm);rw [er]at hk⊢;exact hk 0 {}
 | succ n=>
  have f0:=(hf 0 0 #[] {} (by rw [jf];decide)).trans (h0 {} _ (Array.getElem?_eq_getElem (by rw [hs];exact Nat.succ_pos _)));rw [List.range'_succ,nv,f0];refine(?_:(forIn (List.range' (0+1) n) (x.cps.size,r,{}) f>>=K)=pure r);cases n with
  | zero=>exact hk _ _
  | succ n=>rw [List.range'_succ,nv,f1];exact hk _ _
theorem zB {S:Type} {f:Nat->S->Sem (ForInStep S)} (inv:Nat->S) (h: ∀p,p<N-> ∀u,f u (inv p)=pure (.yield (inv (p+1)))): ∀(k p a:Nat),p+k=N->forIn (List.range' a k) (inv p) f=pure (inv N):=by
 intro aH;induction aH with
 | zero=>
  intro p a e;exact by rw [show p=N by omega];rfl
 | succ k ih=>intro p a e;rw [List.range'_succ,nv,h p (by omega)];exact ih (p+1) (a+1) (by omega)
theorem FW {id:String} {x:PySem.Str} (hz:x.length<=sizeLine) (h: ∀c∈x.cps.toList,c<256):encodeNarrow id latin1Codec none self x=pure (jY x):=by
 have hb: ∀c∈x.cps.toList,latin1Codec.bad c=false:=λc hc=>Fz (h c hc);have ff:Array.findIdx? latin1Codec.bad x.cps=none:=by rw [Array.findIdx?_eq_none_iff];intro c hc;exact hb c (by simpa using hc)
 have fold:Array.foldl (λacc y=>acc++(latin1Codec.bytesOf y).toArray) #[] x.cps=jY x:=by
  rw [<-Array.foldl_toList];delta jY;have: ∀(l:List Nat) (a:Array UInt8),l.foldl (λacc y=>acc++(latin1Codec.bytesOf y).toArray) a=a++(l.map (·.toUInt8)).toArray:=by
   intro l
   induction l with
   | nil=>intro a;simp
   | cons c l ih=>intro a;rw [cW,ih];refine(?_:a++ [c.toUInt8].toArray++_=_);simp
  rw [this];apply u7;simp
 have e0:x.cps.extract 0=x.cps:=by simp
 have e1:x.cps.extract 0 x.cps.size=x.cps:=by simp
 refine Ai hz (by delta jY;rw [Array.size_map];rfl) (λu i o w h=>ay h) ?_ ?_ (λi w=>rfl)
 ·intro w c hn;rw [hn];have fin: ∀(a:Nat) (b:Array UInt8),a=x.cps.size->b=jY x->(pure (.yield (a,b,w)):Sem (ForInStep LS))=pure (.yield (x.cps.size,jY x,w)):=λa b e1 e2=>by rw [e1,e2]
  refine(aF (by rw [hb c (ik (by simpa using hn))];rfl)).trans (fin _ _ ?_ ?_)
  ·rw [e0,ff];exact oU _
  ·rw [e0,ff];refine(?_:Array.foldl _ #[] (x.cps.extract 0 x.cps.size)=_);rw [e1,fold]
 ·intro w e;rw [e]
theorem FZ {id:String} {b:Array UInt8} (hz:b.size<=sizeLine):runDecoder id latin1Decoder none true b 0 []=pure (b.map (·.toNat),b.size):=by
 unfold runDecoder;simp only [Std.Legacy.Range.forIn_eq_forIn_range',Std.Legacy.Range.size];have key:=λf h=>zB (S:=Nat×Array Nat×Faults) (N:=b.size) (f:=f) (λp=>(p,(b.extract 0 p).map (·.toNat),{held:= []})) h b.size 0 0 (oU _);have e:(b.size - 0+1 - 1) / 1=b.size:=by omega
 rw [e];have e0:((0,#[],{held:= []}):Nat×Array Nat×Faults)=(0,(b.extract 0 0).map (·.toNat),{held:= []}):=by simp
 rw [e0,key]
 ·refine(?_:(pure _:Sem _)=pure _);simp
 ·intro p hp u;dsimp only;have sz:((b.extract 0 p).map (·.toNat)).size<=sizeLine:=by rw [Array.size_map,Array.size_extract];omega
  rw [ay (by omega),ay (by omega)];refine(?_:(pure (ForInStep.yield (p+1,(b.extract 0 p).map (·.toNat)++ [(b.getD p 0).toNat].toArray,_)):Sem _)=_);have e1:((b.extract 0 p).map (·.toNat)++ [(b.getD p 0).toNat].toArray)=(b.extract 0 (p+1)).map (·.toNat):=by apply u7;simp [Array.getD,hp,DR]
  rw [e1]
structure Mg (x:PySem.Str):Prop where
 lt: ∀c∈x.cps.toList,c<256
 ne:x.cps.toList≠ []
theorem yX (h: ∀c∈x.cps.toList,c<256):(jY x).map (·.toNat)=x.cps:=by
 apply u7;delta jY;simp only [Array.toList_map,dP]
 conv=>rhs;rw [<-wb x.cps.toList]
 refine pM λc hc=>(?_:(c.toUInt8).toNat=c);have:=h c hc;simp;omega
section
variable {C:Cx} {k:Nat} {sc:Scope} {A:Around} {W:Wd} {env:Env} {ms ai aZ b6 aK:List (Option AV)} {Z ae aN bX aB:St} {s:Shared}
theorem B6:Mt C k Z (.str x) "encode" (.bi "str.encode"):=iI λA s t pl Q h=>s6 (pX _ _ _) F.plainAttrs_str F.slot_str_encode F.type_str_encode (λa e=>nomatch e) h
theorem CK:Mt C k Z (.bytes b) "decode" (.bi "bytes.decode"):=by intro W ro pl q;refine fh q λt=>Op.look λA s Q hr I hq=>PySem.W.KBd.method (hq _ s.toks ⟨rfl,rfl⟩)
theorem zP (hz:x.length<=sizeLine) (h: ∀c∈x.cps.toList,c<256):Meets («str.encode» ⟨[.str x t,.str lat u],[]⟩) (λv R s=> ∀t' k,R (.ok (.ret (.bytes (jY x) t'))) {s with toks:=k}):=by refine .of_wp λprog w A R s hq=> ?_;rw [BK,DO,FW hz h];exact aj (aj (aQ (wpAny_mkBytes (aQ ⟨_,rfl,hq _ _⟩) (by delta jY;rw [Array.size_map];exact hz))))
theorem uR (hz:b.size<=sizeLine):
  Meets («_codecs.decode.text» ⟨[.bytes b t,.str lat t1,.none,.str d t2],[]⟩) (λu R s=> ∀t' k,R (.ok (.ret (.str ⟨b.map (·.toNat)⟩ t'))) {s with toks:=k}):=by
 refine .of_wp λprog w A R s h=>(?_:wpAny _ _ (Bytes.bytesLike _ (.bytes b t)>>=λr=>_) _ _ s);refine aj (eL PySem.W.KBd.like_eq ?_);refine aj (eL PySem.W.KBd.held_eq ?_);refine(?_:wpAny _ _ (_codecs.decodeRoad _ b lat none []>>=λv=>_) _ _ s);rw [Cs,FZ hz];refine aj (aj (aQ ?_));exact wpAny_mkStr (aQ ⟨_,rfl,h _ _⟩) (by refine(?_:(b.map (·.toNat)).size<=sizeLine);rw [Array.size_map];exact hz)
theorem yU (hz:(c::cs).toArray.size<=sizeLine):Meets («bytes.decode» ⟨[.bytes (c::cs).toArray t,.str lat u],[]⟩) (λv R s=> ∀t' k,R (.ok (.ret (.str ⟨(c::cs).toArray.map (·.toNat)⟩ t'))) {s with toks:=k}):=by refine .of_wp λprog w A R s h=> ?_;rw [CH];refine aj (wpAny_mkStr ?_ (by decide));refine aj (wpAny_mkStr ?_ (by decide));refine aj (wpAny_mkStr ?_ (by decide));exact aj (call_function_meets PySem.W.KBd.kind_text PySem.W.KBd.plain_text PySem.W.KBd.entry_text (PySem.W.KBd.args_text _ _ _ _) (uR hz) λt' k=>aQ ⟨_,rfl,h _ _⟩)
theorem zj (a b:Value):argsOk "bytes.decode" ⟨[a,b],[]⟩:=by delta argsOk;kernel_rfl
theorem DB (hx:B x n) (hn:decide (n<=16777216)=true) (h: ∀c∈x.cps.toList,c<256):Ca C k Z (.bi "str.encode") [.str x,.str lat] [] (.bytes (jY x)) Z:=
 qG λA s Q t u hr hq=>pS F.slot_str_encode (pX _ _ _) F.entry_str_encode (F.args_str_encode_2 _ _) (zP (kG hx hn) h) λt' k=>hq _ _ λW=>oR
theorem Df (hx:B x n) (hn:decide (n<=16777216)=true) (h:Mg x):Ca C k Z (.bi "bytes.decode") [.bytes (jY x),.str lat] [] (.str x) Z:=by
 refine oj λW rx ry qa qb=>fh qa λt=>fh qb λu=>Op.look λA s Q hr I hq=> ?_;have hz:(jY x).size<=sizeLine:=by delta jY;rw [Array.size_map];exact kG hx hn
 have e:=yX h.lt;obtain⟨l,hb⟩: ∃l:List UInt8,jY x=l.toArray:=⟨(jY x).toList,by simp⟩;rw [hb];cases l with
 | nil=>
  have:x.cps= #[]:=by rw [<-e,hb];simp
  exact absurd (by rw [this]) h.ne
 | cons c cs=>rw [hb]at e hz;refine pS FB.slot_bytes_decode (typeIs_bytes _ _ _) FB.entry_bytes_decode (zj _ _) (yU hz) λt' k=>hq _ _ ?_;rw [e];exact bN
end
end V
end
section
namespace V
open Builtin Builtin.Str
section
variable {C:Cx} {k:Nat} {sc:Scope} {A:Around} {W:Wd} {env:Env} {ms ai aZ b6 aK:List (Option AV)} {Z ae aN bX aB:St} {s:Shared}
theorem yR (O:C.Ok) (hl:Z l=some (.inst c d)) (hd:Z d=some (.dict es)) (hs:findIn C.K (.ref c) "__str__"=some (some (.ref f))) (hf:typeIn C.K (.ref f)=some (.type "function"))
  (h:Ca C k Z (.ext f) [.loc l] [] (.str x) aB):Ca C (k+2) Z (.ty "str") [.loc l] [] (.str x) aB:=by
 intro W rf df fp qf qa qk A s outer hr hA hS I;subst qf;subst qk;refine c12 (du qa) λro m=>?_;subst m;intro qo;refine xr (I.inst hl hd qo) λy dx xs n v=>?_;subst v;intro hdx IA u w;refine bI w λhlen hvs=>?_;have X:=fb O I;refine callType_newIn (S:=λA R s=>wpAny C.M A.in1 (Builtin.Str.strOf (.ref y)) (λr s'=>R (.ok (.ret r)) s') (λe s'=>R (.error e) s') s) F.called_str (by decide) (F.typeCall_str_1 _) (F.newCall_str_1 _) (λobj=>F.args_object_init_2 obj _) F.entry_str_new
  (MeetsIn.of_wp λA R s h=> ?_) ?_
 ·rw [str_new_tree];refine aj (aQ ?_);refine aj (eL isSubtype_str_str ?_);exact aj (bH h (λr s' h'=>aQ ⟨_,rfl,h'⟩) λu g e=>e)
 ·delta Builtin.Str.strOf;rw [ay (show¬isExactStr (Value.ref y)=true from dM)];have hr2:bY C A.in1.in1 k:=(bY.in1 (k:=k+1) hr).in1;refine aj (wpAny_cRoomFor hr2.units (aj (special_fn X IA hs hf ?_)));refine bH (h W (.ref f) [.ref y] [] (rfl) (.cons qo .nil) .nil A.in1.in1 s outer hr2 hA hS I) (λr s' ⟨W',le,I',q⟩=> ?_) λu g z=>z.elim;refine fh q λt=>aQ ⟨pX _ _ _,W',le,I',bN⟩
theorem uF (O:C.Ok) (hl:Z l=some (.inst c d)) (hd:Z d=some (.dict es)) (hs:findIn C.K (.ref c) "__bytes__"=some (some (.ref f))) (hf:typeIn C.K (.ref f)=some (.type "function"))
  (h:Ca C k Z (.ext f) [.loc l] [] (.bytes b) aB):Ca C (k+2) Z (.ty "bytes") [.loc l] [] (.bytes b) aB:=by
 intro W rf df fp qf qa qk A s outer hr hA hS I;subst qf;subst qk;refine c12 (du qa) λro p=>?_;subst p;intro qo;refine xr (I.inst hl hd qo) λy dx xs n w=>?_;subst w;intro hdx IA u m;refine bI m λhlen hvs=>?_;have X:=fb O I;have hr2:bY C A.in1.in1 k:=(bY.in1 (k:=k+1) hr).in1;refine callType_newIn (S:=λA R s=>wpAny C.M A.in1 (Builtin.«bytes.__new__» ⟨[.type "bytes",.ref y],[]⟩) (λfin s'=> ∃v,fin= .done (.ret v)/\R (.ok (.ret v)) s') (λe s'=>R (.error e) s') s) F.bm_called (by decide) (F.bm_typeCall _) (F.bm_newCall _) (λobj=>F.args_object_init_2 obj _) F.bm_entry
  (MeetsIn.of_wp λA R s h=>h) ?_
 delta Builtin.«bytes.__new__»;refine aj (eL (a:=true) rfl ?_);refine bm_if_false rfl ?_;refine aj (eL F.bm_sub ?_);refine bm_if_false rfl ?_;refine aj (eL (F.bm_bind _) ?_);refine aj (eL (a:=()) rfl ?_);refine aj (eL (a:=()) rfl ?_);refine bm_if_false rfl ?_;refine aj (aj (IA.type.here ((looks_findIn X hs).here ?_)));refine aj (rL (aj (special_fn X IA hs hf ?_)));refine bH (h W (.ref f) [.ref y] [] (rfl) (.cons qo .nil) .nil A.in1.in1 s outer hr2 hA hS I) (λr s' ⟨W',le,I',q⟩=> ?_) λu g z=>z.elim;refine fh q λt=>aj (Bo (T:="bytes") (b:=true) (typeIs_bytes _ _ _) F.bm_sub ?_);refine bm_if_false rfl ?_;exact aQ ⟨_,rfl,typeIs_bytes _ _ _,W',le,I',oR⟩
noncomputable abbrev Cx.up (C:Cx):Cx:={C with lb:=C.lb+1}
theorem Cx.Ok.up (O:C.Ok):C.up.Ok:=⟨O.tQ,O.g,O.b,O.boot,O.nolimit⟩
theorem At.up (H:At C sc A W env ms Z s) (h:C.lb+1<=s.toks):At C.up sc A W env ms Z s:=
 ⟨⟨H.inv.dom,H.inv.inj,λl a o e q=>c12 (H.inv.obj l a o e q) λob h1 h2=>⟨ob,h1,nZ.mp h2⟩,H.inv.apart,H.inv.fz,H.inv.kept,H.inv.base,H.inv.gens,H.inv.os,h,H.inv.high⟩,
  ⟨H.fr.scope,H.fr.globals,H.fr.builtins,H.fr.ok,H.fr.ns,H.fr.cells,H.fr.mi,H.fr.mZ,H.fr.iQ,H.fr.jc,H.fr.pE⟩⟩
theorem At.down (H:At C.up sc A W env ms Z s):At C sc A W env ms Z s:=
 ⟨⟨H.inv.dom,H.inv.inj,λl a o e q=>c12 (H.inv.obj l a o e q) λob h1 h2=>⟨ob,h1,nZ.mpr h2⟩,H.inv.apart,H.inv.fz,H.inv.kept,H.inv.base,H.inv.gens,H.inv.os,zq H.inv.pos,H.inv.high⟩,
  ⟨H.fr.scope,H.fr.globals,H.fr.builtins,H.fr.ok,H.fr.ns,H.fr.cells,H.fr.mi,H.fr.mZ,H.fr.iQ,H.fr.jc,H.fr.pE⟩⟩
theorem Kn (hi:sc.names[i]? =some (x,NameKind.local)) (h1:Ev C k sc ms Z value v ai ae)
  (hs: ∀env,swapsWithSole [.Name x np] value pos.line env=pure false) (hw: ∀env,swappedStores [.Name x np] value env=pure none)
  (h2:Go C.up k sc (ai.set i (some v)) ae rest f aB):Go C k sc ms Z (.Assign [.Name x np] value pos::rest) f aB:=by
 refine cG h2 λaK hx=>⟨aK,λA W env s hr H=>CA (wpAny_Assign_stores (bf (h1 A W env s hr H) λaR r aI aA aO q=> ?_) (hs env) (hw env))⟩;refine(?_:wpAny C.M A (assign (.Name x np) env r) _ _ _);rw [arm_assign_Name];refine aj (cF (xv (lK hi aO q λaT aG lt=> ?_)));exact bf (C:=C.up) (hx A aR env aT ⟨hr.1,hr.2.1,hr.2.2⟩ (aG.up (Nat.lt_of_le_of_lt aO.inv.pos lt))) λbh fl bt ax br qf=>bz (aA.trans ax) br.down qf
theorem qN (a g:Nat): ∀(xs:List Str) (b:Nat),(∀y∈xs,y.length<=a)->xs.foldl (λn y=>n+y.length+g) b<=b+xs.length * (a+g):=by
 intro aH;induction aH with
 | nil=>
  intro b u;exact by exact gZ _ _
 | cons x xs ih=>intro b h;rw [cW,cq,Nat.succ_mul];have:=ih (b+x.length+g) (λy hy=>h y (.tail _ hy));have:=h x (.head _);omega
theorem wc (h: ∀y∈xs,y.length<=a) (hm:xs.length * (a+x.length)<=16000000):JoinOk x xs=true:=by
 delta JoinOk tooLong;rw [jf];have e:xs.toArray.foldl (λn y=>n+y.length+x.length) 0<=0+xs.length * (a+x.length):=by rw [<-Array.foldl_toList];exact qN a x.length xs 0 h
 rw [BP];exact mE (by omega)
theorem yq (h: ∀y∈xs,y.length<=a):B (Txt.join x xs) (xs.length * (a+x.length)+a):=by
 delta B Txt.join glued;refine(?_:((xs.drop 1).foldl (λacc p=>acc++x.cps++p.cps) (xs.headD Str.empty).cps).size<=_);rw [vn];have h1:=qN a x.cps.size (xs.drop 1) (xs.headD Str.empty).cps.size (λy hy=>h y (List.mem_of_mem_drop hy));have h2:(xs.headD Str.empty).cps.size<=a:=by
  cases xs with
  | nil=>exact dW _
  | cons y ys=>exact h y (.head _)
 have h3:(xs.drop 1).length * (a+x.cps.size)<=xs.length * (a+x.length):=wC (by rw [vT];omega) (bT _);omega
theorem tu:(AV.bytes b).Ba:=λD=>trivial
noncomputable def eF {α:Type} (xs:List α):Option α:=xs.foldl (λ_ x=>some x) none
theorem g8 {α:Type} {enc val:α->AV} {M:Option α->List (Option AV)} {Sg:List AV->St} {ok:St->Prop} {la:Loc} {elt:Expr} {gens:List Comprehension} {scope:Scope} {pos:Pos} {g:Comprehension} {xs:List α}
  (hz:xs.length<=1000000) (hok: ∀out,ok (Sg out)) (hl: ∀out,Sg out la=some (.list out)) (hs: ∀out out',(Sg out).set la (.list out')=Sg out') (hi:g.ifs= []) (ha: ∀o x out,x∈xs->As C k sc (M o) (Sg out) g.target (enc x) (M (some x)) (Sg out))
  (hv: ∀x out,x∈xs->Ev C k sc (M (some x)) (Sg out) elt (val x) (M (some x)) (Sg out)):CL C k sc la (.ListComp elt gens scope pos) ok g [] (xs.map enc) (M none) (Sg []) (M (eF xs)) (Sg (xs.map val)):=by
 have z:=lZ (C:=C) (k:=k) (sc:=sc) (enc:=enc) (val:=val) (p:=λu=>true) (M:=M) (Sg:=Sg) (ok:=ok) (la:=la) (elt:=elt) (gens:=gens) (scope:=scope) (pos:=pos) (g:=g) (gw:=xs) hok hl hs ha (.inl ⟨hi,λu=>rfl⟩) (λx out hx u=>hv x out hx) xs [] none (λu z=>z) (by simp only [ip,oU];exact bU hz (by decide));rw [Cv.mpr λu v=>rfl]at z;exact z
theorem fE {α:Type} {enc val:α->AV} {p:α->Bool} {M:Option α->List (Option AV)} {Sg:List AV->St} {ok:St->Prop} {la:Loc} {elt c:Expr} {gens:List Comprehension} {scope:Scope} {pos:Pos} {g:Comprehension} {xs:List α}
  (hz:xs.length<=1000000) (hok: ∀out,ok (Sg out)) (hl: ∀out,Sg out la=some (.list out)) (hs: ∀out out',(Sg out).set la (.list out')=Sg out') (hi:g.ifs= [c]) (ha: ∀o x out,x∈xs->As C k sc (M o) (Sg out) g.target (enc x) (M (some x)) (Sg out))
  (hc: ∀x out,x∈xs->Tv C k sc (M (some x)) (Sg out) c (p x) (M (some x)) (Sg out)) (hv: ∀x out,x∈xs->p x=true->Ev C k sc (M (some x)) (Sg out) elt (val x) (M (some x)) (Sg out)):CL C k sc la (.ListComp elt gens scope pos) ok g [] (xs.map enc) (M none) (Sg []) (M (eF xs)) (Sg ((xs.filter p).map val)):=
 lZ (C:=C) (k:=k) (sc:=sc) (enc:=enc) (val:=val) (p:=p) (M:=M) (Sg:=Sg) (ok:=ok) (la:=la) (elt:=elt) (gens:=gens) (scope:=scope) (pos:=pos) (g:=g) (gw:=xs) hok hl hs ha (.inr ⟨c,hi,hc⟩) hv xs [] none (λu z=>z) (by simp only [ip,oU];exact bU hz (by decide))
theorem wk (hi:sc.names[i]? =some (x,NameKind.cell)) (hv:ms[i]? =some (some a)) (h1:Ev C k sc ms Z value b ai ae)
  (h2:di C k ae (inplaceOp op) a b (λW r=>aw W c r) aN) (hm:ai.set i (some c)=aK):X1 C k sc ms Z (.AugAssign (.Name x npos) op value pos) .next aK aN:=by
 subst hm;intro A W env s hr H;refine(?_:wpAny C.M A (exec (.AugAssign (.Name x npos) op value pos) env) _ _ _);rw [arm_exec_AugAssign];refine aj (cF (aj ?_));obtain⟨ca,ov,hc,hcell,Pj⟩:=H.fr.cells i x hi;refine c12 (Pj a hv) λr z=>?_;subst z;intro q;have hl:env.kindOf x=some .cell:=by delta Env.kindOf;rw [H.fr.scope];exact bK (cQ.nodup H.fr.ok) hi
 refine wpAny_loadName_cell (by rw [H.fr.scope];exact cQ.kind H.fr.ok) hl hc hcell ?_;refine aj (cE (bf (h1 A W env s hr H) λaR rb aI aA aO qb=> ?_));refine aj (cF (aj (Co ?_)));have le:=a8 aO.fr;refine Op.in rfl (h2 _ r rb ((q.mono aA).mono le) (qb.mono le)) hr aO λbh rc aT ax aG qc tk u=>aj (cF (aj (xv (k7 hi aG (tk qc) λbt br=> ?_))));exact aQ (bz (aA.trans ax) br rfl)
theorem FP (h1:Ev C k sc ms Z o ov ai ae) (hm:ie C k ae (λx=>getAttr x name true) ov (λW r=>aw W f r) ae) (h2:Es C k sc ai ae pos args as aZ aN) (hk:Kp C f) (h3:Ca C k aN f as [] v aB)
  (hb: ∀env t,attributeBase o name env t=t) (hf: ∀env,methodCallForm args.length (backTo pos (starEach args env)) []=false) (hs: ∀env x,backTo pos (starEach args env)≠ [(true,x)]):
  Ev C k sc ms Z (.Call (.Attribute o name apos) args [] pos) v aZ aB:=by
 intro A W env s hr H;refine jS (kws:= []) h1 hm hb (hf env) hr H λaR rf aI aA aO qf=>cI (dC (hs env) (bf (h2 A aR env aI hr aO) λbh df aT ax aG qa=>⟨hk _ _ _ _ aG.inv (qf.mono ax),?_⟩));exact h3.in hr aG (qf.mono ax) qa .nil λbS r bt bg br q=>bz (aA.trans (ax.trans bg)) br q
end
end V
end
open V
section
namespace HD
noncomputable def grow:BT->Nat->List Obj->Option BT
 | t,_,[]=>some t
 | t,n,o::l=>match ((t.ins n o).get n).isSome with
  | true=>grow (t.ins n o) (n+1) l
  | false=>none
theorem CT {life:Life}: ∀(l:List Obj) (t t':BT) (n:Nat),grow t n l=some t'->absHeap t' (n+l.length) life=⟨((absHeap t n life).objs.toList++l).toArray,(absHeap t n life).life⟩:=by
 intro l
 induction l with
 | nil=>intro t t' n h;cases h;rw [iM];rfl
 | cons o l ih=>
  intro t t' n h;unfold grow at h;cases g:((t.ins n o).get n).isSome with
  | false=>rw [g]at h;cases h
  | true=>
   rw [g]at h;have z:=ih _ _ _ h;rw [cq,show n+(l.length+1)=n+1+l.length by omega,z,absHeap_ins g];show Heap.mk (((absHeap t n life).objs.push o).toList++l).toArray _=Heap.mk _ _
   rw [Array.toList_push,eX];rfl
noncomputable def grown (h:Heap):Option BT:=grow .nil 0 h.objs.toList
theorem zM {h:Heap} {t:BT} (e:grown h=some t):absHeap t h.objs.toList.length h.life=h:=by have z:=CT (life:=h.life) _ _ _ _ e;rw [oU]at z;rw [z];rfl
noncomputable def yi (s:Shared):Option SharedT:=(grown s.heap).map λt=>⟨t,s.heap.objs.toList.length,s.heap.life,s.gens,s.drawn,s.toks,s.os⟩
theorem qQ {s:Shared} {x:SharedT} (e:yi s=some x):x.abs=s:=by
 delta yi at e;obtain⟨t,g,rfl⟩:=Option.map_eq_some_iff.mp e;obtain⟨h,gens,drawn,toks,os⟩:=s;show Shared.mk _ _ _ _ _=_
 rw [zM g]
noncomputable def run (st:SharedT->Thread->Option (SharedT×Thread)) (ok:Thread->Bool):Nat->SharedT->Thread->Option SharedT
 | 0,_,_=>none
 | n+1,s,t=>match through t with
  | true=>some s
  | false=>match ok t with
   | false=>none
   | true=>match st s t with
    | some r=>run st ok n r.1 r.2
    | none=>none
noncomputable def imp (st:SharedT->Thread->Option (SharedT×Thread)) (ex:Thread->Option Bool):Nat->SharedT->Thread->Option SharedT
 | 0,_,_=>none
 | n+1,s,t=>match ex t with
  | some true=>some s
  | some false=>none
  | none=>match st s t with
   | some r=>imp st ex n r.1 r.2
   | none=>none
section
variable {tb:String->Option Builtin} {p:Program} {w:World} {Gl:Nat} {ann:Option Value}
theorem HA: ∀{n:Nat} {s s':SharedT} {t:Thread},run (stepT (denote tb) p w) (stepOk Gl ann) n s t=some s'->topRun tb p w Gl ann n s.abs t=some s'.abs:=by
 intro aH;induction aH with
 | zero=>
  intro u v g h;exact by cases h
 | succ n ih=>
  intro s s' t h;unfold run at h;unfold topRun;cases he:through t with
  | true=>rw [he]at h;cases h;rfl
  | false=>
   rw [he]at h;cases hk:stepOk Gl ann t with
   | false=>rw [hk]at h;cases h
   | true=>
    rw [hk]at h;cases hs:stepT (denote tb) p w s t with
    | none=>rw [hs]at h;cases h
    | some r=>rw [hs]at h;rw [stepT_spec (s':=r.1) (t':=r.2) hs];exact ih h
theorem H8: ∀{n:Nat} {s s':SharedT} {t:Thread},imp (stepT (denote tb) p w) (λt=>t.atExitBegin.map List.isEmpty) n s t=some s'->importEnds tb p w n s.abs t=some s'.abs:=by
 intro aH;induction aH with
 | zero=>
  intro u v g h;exact by cases h
 | succ n ih=>
  intro s s' t h;unfold imp at h;unfold importEnds;cases he:t.atExitBegin with
  | some l=>
   rw [he]at h;cases l with
   | nil=>cases h;rfl
   | cons=>cases h
  | none=>
   rw [he]at h;cases hs:stepT (denote tb) p w s t with
   | none=>rw [Option.map_none]at h;simp only [hs]at h;cases h
   | some r=>rw [Option.map_none]at h;simp only [hs]at h;dsimp only;rw [stepT_spec (s':=r.1) (t':=r.2) hs];exact ih h
end
noncomputable def top (p:Program) (st0 st1:SharedT->Thread->Option (SharedT×Thread)) (ex:Thread->Option Bool) (ok:Nat->Option Value->Thread->Bool) (q0:Shared×Thread) (fence:Shared->Option Shared) (ns:Heap->Addr->Str->Option Value) (N:Nat):Option (Shared×SharedT):=
 (yi q0.1).bind λx=>(imp st0 ex N x q0.2).bind λs=>(fence s.abs).bind λs0=>(yi s0).bind λy=>
  match s0.heap.isNs mainGlobals && s0.gens.size==0 with
  | true=>(run st1 (ok s0.heap.objs.size (ns s0.heap mainGlobals "__annotations__")) N y (topStub p)).bind λs1=>some (s0,s1)
  | false=>none
theorem Hm {tb:String->Option Builtin} {p:Program} {w:World} {N:Nat} {α:Type} {F:Shared->Shared->α} {G:α}
  (e:(top p (stepT (denote tb) (opening p) w) (stepT (denote tb) p w) (λt=>t.atExitBegin.map List.isEmpty) stepOk (start (opening p)) (fenceModules? p) Heap.nsMap N).map (λr=>(staticsOk (importedModules p.main.body) r.1.heap r.2.abs.heap && namesBound p r.2.abs.heap && gensDone r.2.abs && laidKept r.1.heap r.2.abs.heap,F r.1 r.2.abs))=some (true,G)):
  ∃s0 s1,(openEnds tb p w N)=some s1/\F s0 s1=G:=by
 obtain⟨⟨s0,s1⟩,e1,e2⟩:=Option.map_eq_some_iff.mp e;obtain⟨z1,z2⟩:=Prod.mk.inj e2;delta top at e1;obtain⟨x,a1,e1⟩:=Aw.mp e1;obtain⟨s,a2,e1⟩:=Aw.mp e1;obtain⟨Mz,a3,e1⟩:=Aw.mp e1;obtain⟨y,a4,e1⟩:=Aw.mp e1;cases hc:Mz.heap.isNs mainGlobals && Mz.gens.size==0 with
 | false=>rw [hc]at e1;cases e1
 | true=>
  rw [hc]at e1;obtain⟨Pk,a5,e1⟩:=Aw.mp e1;obtain⟨rfl,rfl⟩:=Prod.mk.inj (dI e1);have b2:=H8 a2;have b5:=HA a5;rw [qQ a1]at b2;rw [qQ a4]at b5;refine⟨Mz,Pk.abs,?_,z2⟩;delta openEnds fencedOpening;rw [b2];show(((some s.abs).bind (fenceModules? p)).bind (topFrom tb p w N))=_
  rw [Option.bind_some,a3,Option.bind_some];delta topFrom;rw [hc];show(topRun tb p w _ _ N Mz (topStub p)).bind _=_
  rw [b5,Option.bind_some];dsimp only at z1⊢;rw [z1]
end HD
end
section
namespace H1
open PySem.Challenge
noncomputable def sv (s:String) (t:Nat):Value:= .str (Str.ofString s) t
noncomputable def tp (i:Nat):Option Stmt:=(pw_ik0233_01.main.body.drop i).head?
noncomputable def mt (i j:Nat):Option Stmt:=(tp i).elim none λs=>if h:s.ctorIdx=2 then Stmt.ClassDef.elim (motive_2:=λ_=>Option Stmt) s h λ_ _ _ b _ _ _ _ _ _ _=>(b.drop j).head? else none
noncomputable def fO (s:Option Stmt) (q:String) (d:Value) (m:String) (t c:Nat):Obj:=s.elim {cls:= .none,data:= .freed} λs=>if h:s.ctorIdx=0 then Stmt.FunctionDef.elim (motive_2:=λ_=>Obj) s h λn a b _ _ _ sc _ _ _=>{cls:= .type "function",data:= .func {name:=n,qualname:=Str.ofString q,params:=a,body:= .stmts b,scope:=sc,globals:=3,closure:= [],defaults:=d,kwdefaults:= .none,pyModule:=sv m t,code:= .ref c}}else{cls:= .none,data:= .freed}
noncomputable def cO (a:Nat) (n q:String) (t:Nat) (l x y z f:Int) (u:Int) (l2:Int):Obj:=
 {cls:= .type "code",data:= .fields #[sv n t,sv q (t+1),sv "/claim/cut.py" (t+2),.int l 0,.int x 0,.int y 0,.int z 0,.int f 0,.ref (a - 5),.bool true,.int 276 0,.ref (a - 4),.none,.ref (a - 3),.ref (a - 2),.ref (a - 1),.int u 0,.int l2 0,sv "/claim/cut.py" (u.toNat+1)]}
noncomputable def cN (a:Nat) (n q:String) (t:Nat) (l x y z f:Int) (u:Int) (l2:Int):Obj:=
 {cls:= .type "code",data:= .fields #[sv n t,sv q (t+1),sv "/claim/cut.py" (t+2),.int l 0,.int x 0,.int y 0,.int z 0,.int f 0,.ref (a - 3),.bool true,.int 276 0,.ref (a - 2),.none,.none,.none,.ref (a - 1),.int u 0,.int l2 0,sv "/claim/cut.py" (u.toNat+1)]}
noncomputable def en (P:Params) (k:String) (t:Nat) (v:Value):DictEntry:={hash:=PyData.keyHash P (Str.ofString k),key:=sv k t,val:=v}
noncomputable def dO (c:Value) (es:Array DictEntry) (n:Nat):Obj:={cls:=c,data:= .dict es n}
noncomputable def mO (n:String) (t c:Nat) (i:Int):Obj:={cls:= .type "member_descriptor",data:= .fields #[sv n t,.ref c,.builtin "proto.slot",.builtin "proto.slot#set",.int i 0]}
noncomputable def K (P:Params):Frag:= [
 (3,dO (.type "dict") #[en P "__name__" 165 (sv "law_ik0233_01" 902),en P "__doc__" 166 (.none),en P "__package__" 167 (.none),en P "__loader__" 168 (.builtin "__main__.__loader__#opaque"),en P "__spec__" 169 (.none),en P "__annotations__" 170 (.ref 6),en P "__builtins__" 171 (.ref 4),en P "__file__" 173 (sv "/claim/cut.py" 172),en P "__cached__" 174 (.none),en P "_sre" 275 (.ref 12),en P "_wall" 288 (.ref 38),en P "tspecials" 324 (.ref 43),en P "_name_disallowed_re" 350 (.ref 48),en P "_value_disallowed_re" 384 (.ref 53),en P "_formatparam" 394 (.ref 61),en P "Headers" 553 (.ref 184),en P "_NODE_OUT" 558 (.int (-1) 557),en P "_NODE_DONE" 561 (.int (-2) 560),en P "_NodeInfo" 598 (.ref 207),en P "CycleError" 616 (.ref 222),en P "TopologicalSorter" 735 (.ref 304),en P "_plain_name" 746 (.ref 315),en P "ABCMeta" 772 (.ref 332),en P "_ABCLike" 815 (.ref 365),en P "_abc_plain_meta" 822 (.ref 374),en P "fspath" 834 (.ref 381),en P "_check_arg_types" 847 (.ref 388),en P "_get_sep" 856 (.ref 395),en P "join" 867 (.ref 402),en P "splitroot" 876 (.ref 409),en P "dirname" 886 (.ref 416),en P "normpath" 901 (.ref 423),en P "_law_pages" 914 (.ref 430),en P "_law_text" 924 (.ref 437),en P "_law_lay" 930 (.ref 442),en P "_law_parts" 936 (.ref 447),en P "_law_signs" 948 (.ref 454),en P "_law_told" 954 (.ref 459),en P "_law_rounds" 960 (.ref 464),en P "_law_begun" 966 (.ref 469),en P "_law_driven" 972 (.ref 474),en P "law" 978 (.ref 479)] 42),
 (37,cO 37 "_wall" "_wall" 282 2 1 0 0 3 286 2),
 (38,fO (tp 1) "_wall" .none "__main__" 164 37),
 (42,({cls:= .type "tuple",data:= .seq #[ .int 14 0,.int 14 0,.int 4 0,.int 1 0,.int 1 0,.int 9 0,.int 0 0,.int 4227896069 0,.int 939524097 0,.int 0 0,.int 0 0,.int 0 0,.int 0 0,.int 0 0,.int 0 0,.int 13 0,.int 11 0,.int 9 0,.int 0 0,.int 4227896069 0,.int 939524097 0,.int 0 0,.int 0 0,.int 0 0,.int 0 0,.int 0 0,.int 0 0,.int 1 0]}:Obj)),
 (43,({cls:= .type "re.Pattern",data:= .fields #[sv "[ \\(\\)<>@,;:\\\\\"/\\[\\]\\?=]" 292,.int 32 323,.int 0 0,.none,.none,.ref 42,.int 0 0]}:Obj)),
 (47,({cls:= .type "tuple",data:= .seq #[ .int 14 0,.int 10 0,.int 4 0,.int 1 0,.int 1 0,.int 22 0,.int 0 0,.int 31 0,.int 16 0,.int 127 0,.int 0 0,.int 13 0,.int 7 0,.int 22 0,.int 0 0,.int 31 0,.int 16 0,.int 127 0,.int 0 0,.int 1 0]}:Obj)),
 (48,({cls:= .type "re.Pattern",data:= .fields #[sv "[\\x00-\\x1F\\x7F]" 326,.int 32 349,.int 0 0,.none,.none,.ref 47,.int 0 0]}:Obj)),
 (52,({cls:= .type "tuple",data:= .seq #[ .int 14 0,.int 14 0,.int 4 0,.int 1 0,.int 1 0,.int 9 0,.int 4294966783 0,.int 0 0,.int 0 0,.int 2147483648 0,.int 0 0,.int 0 0,.int 0 0,.int 0 0,.int 0 0,.int 13 0,.int 11 0,.int 9 0,.int 4294966783 0,.int 0 0,.int 0 0,.int 2147483648 0,.int 0 0,.int 0 0,.int 0 0,.int 0 0,.int 0 0,.int 1 0]}:Obj)),
 (53,({cls:= .type "re.Pattern",data:= .fields #[sv "[\\x00-\\x08\\x0A-\\x1F\\x7F]" 352,.int 32 383,.int 0 0,.none,.none,.ref 52,.int 0 0]}:Obj)),
 (54,({cls:= .type "tuple",data:= .seq #[ .none,.int 1 385]}:Obj)),
 (60,cO 60 "_formatparam" "_formatparam" 386 9 3 0 0 3 392 9),
 (61,fO (tp 6) "_formatparam" (.ref 54) "cpy313.wsgiref.headers" 289 60),
 (69,({cls:= .type "tuple",data:= .seq #[ .none]}:Obj)),
 (75,cO 75 "__init__" "Headers.__init__" 407 20 2 0 0 3 414 20),
 (76,fO (mt 7 0) "Headers.__init__" (.ref 69) "cpy313.wsgiref.headers" 289 75),
 (82,cO 82 "_convert_string_type" "Headers._convert_string_type" 417 30 2 0 1 3 424 30),
 (83,fO (mt 7 1) "Headers._convert_string_type" .none "cpy313.wsgiref.headers" 289 82),
 (89,cO 89 "__len__" "Headers.__len__" 427 38 1 0 0 3 431 38),
 (90,fO (mt 7 2) "Headers.__len__" .none "cpy313.wsgiref.headers" 289 89),
 (96,cO 96 "__setitem__" "Headers.__setitem__" 434 41 3 0 0 3 440 41),
 (97,fO (mt 7 3) "Headers.__setitem__" .none "cpy313.wsgiref.headers" 289 96),
 (101,cN 101 "__delitem__" "Headers.__delitem__" 443 45 2 0 0 3 446 45),
 (102,fO (mt 7 4) "Headers.__delitem__" .none "cpy313.wsgiref.headers" 289 101),
 (108,cO 108 "__getitem__" "Headers.__getitem__" 449 49 2 0 0 3 454 49),
 (109,fO (mt 7 5) "Headers.__getitem__" .none "cpy313.wsgiref.headers" 289 108),
 (115,cO 115 "__contains__" "Headers.__contains__" 457 52 2 0 0 3 462 52),
 (116,fO (mt 7 6) "Headers.__contains__" .none "cpy313.wsgiref.headers" 289 115),
 (122,cO 122 "get_all" "Headers.get_all" 465 55 2 0 0 3 470 55),
 (123,fO (mt 7 7) "Headers.get_all" .none "cpy313.wsgiref.headers" 289 122),
 (124,({cls:= .type "tuple",data:= .seq #[ .none]}:Obj)),
 (130,cO 130 "get" "Headers.get" 473 58 3 0 0 3 481 58),
 (131,fO (mt 7 8) "Headers.get" (.ref 124) "cpy313.wsgiref.headers" 289 130),
 (135,cN 135 "keys" "Headers.keys" 484 65 1 0 0 3 487 65),
 (136,fO (mt 7 9) "Headers.keys" .none "cpy313.wsgiref.headers" 289 135),
 (140,cN 140 "values" "Headers.values" 490 68 1 0 0 3 493 68),
 (141,fO (mt 7 10) "Headers.values" .none "cpy313.wsgiref.headers" 289 140),
 (147,cO 147 "items" "Headers.items" 496 71 1 0 0 3 500 71),
 (148,fO (mt 7 11) "Headers.items" .none "cpy313.wsgiref.headers" 289 147),
 (154,cO 154 "__repr__" "Headers.__repr__" 503 74 1 0 0 3 507 74),
 (155,fO (mt 7 12) "Headers.__repr__" .none "cpy313.wsgiref.headers" 289 154),
 (159,cN 159 "__str__" "Headers.__str__" 510 77 1 0 0 3 513 77),
 (160,fO (mt 7 13) "Headers.__str__" .none "cpy313.wsgiref.headers" 289 159),
 (166,cO 166 "__bytes__" "Headers.__bytes__" 516 80 1 0 0 3 520 80),
 (167,fO (mt 7 14) "Headers.__bytes__" .none "cpy313.wsgiref.headers" 289 166),
 (173,cO 173 "setdefault" "Headers.setdefault" 523 83 3 0 0 3 529 83),
 (174,fO (mt 7 15) "Headers.setdefault" .none "cpy313.wsgiref.headers" 289 173),
 (180,cO 180 "add_header" "Headers.add_header" 532 86 3 0 0 11 542 86),
 (181,fO (mt 7 16) "Headers.add_header" .none "cpy313.wsgiref.headers" 289 180),
 (183,dO (.type "dict") #[en P "__module__" 402 (sv "cpy313.wsgiref.headers" 289),en P "__firstlineno__" 406 (.int 18 405),en P "__init__" 416 (.ref 76),en P "_convert_string_type" 426 (.ref 83),en P "__len__" 433 (.ref 90),en P "__setitem__" 442 (.ref 97),en P "__delitem__" 448 (.ref 102),en P "__getitem__" 456 (.ref 109),en P "__contains__" 464 (.ref 116),en P "get_all" 472 (.ref 123),en P "get" 483 (.ref 131),en P "keys" 489 (.ref 136),en P "values" 495 (.ref 141),en P "items" 502 (.ref 148),en P "__repr__" 509 (.ref 155),en P "__str__" 515 (.ref 160),en P "__bytes__" 522 (.ref 167),en P "setdefault" 531 (.ref 174),en P "add_header" 544 (.ref 181),en P "__static_attributes__" 546 (.ref 182),en P "__dict__" 548 (.ref 185),en P "__weakref__" 550 (.ref 186),en P "__doc__" 551 (.none)] 4),
 (184,({cls:= .type "type",data:= .cls {name:=Str.ofString "Headers",bases:= [ .type "object"],mro:= [ .ref 184,.type "object"],ns:=183,qualname:=Str.ofString "Headers"},slots:= #[none,none,some (sv "Headers" 395),some (sv "Headers" 403),some (.builtin "object.__new__"),some (.bool true)]}:Obj)),
 (202,cO 202 "__init__" "_NodeInfo.__init__" 578 105 2 0 0 3 583 105),
 (203,fO (mt 11 1) "_NodeInfo.__init__" .none "cpy313.graphlib" 554 202),
 (206,dO (.type "dict") #[en P "__module__" 569 (sv "cpy313.graphlib" 554),en P "__firstlineno__" 573 (.int 102 572),en P "__slots__" 577 (.ref 196),en P "__init__" 585 (.ref 203),en P "__static_attributes__" 589 (.ref 204),en P "node" 591 (.ref 208),en P "npredecessors" 593 (.ref 209),en P "successors" 595 (.ref 210),en P "__doc__" 596 (.none)] 5),
 (207,({cls:= .type "type",data:= .cls {name:=Str.ofString "_NodeInfo",bases:= [ .type "object"],mro:= [ .ref 207,.type "object"],ns:=206,qualname:=Str.ofString "_NodeInfo",hasDict:=false,slotNames:= [Str.ofString "node",Str.ofString "npredecessors",Str.ofString "successors"]},slots:= #[none,none,some (sv "_NodeInfo" 562),some (sv "_NodeInfo" 570),some (.builtin "object.__new__"),some (.bool false)]}:Obj)),
 (208,mO "node" 590 207 2),
 (209,mO "npredecessors" 592 207 1),
 (210,mO "successors" 594 207 0),
 (221,dO (.type "dict") #[en P "__module__" 606 (sv "cpy313.graphlib" 554),en P "__firstlineno__" 610 (.int 109 609),en P "__static_attributes__" 611 (.ref 220),en P "__weakref__" 613 (.ref 223),en P "__doc__" 614 (.none)] 3),
 (222,({cls:= .type "type",data:= .cls {name:=Str.ofString "CycleError",bases:= [ .type "ValueError"],mro:= [ .ref 222,.type "ValueError",.type "Exception",.type "BaseException",.type "object"],ns:=221,qualname:=Str.ofString "CycleError"},slots:= #[some (.ref 213),none,some (sv "CycleError" 599),some (sv "CycleError" 607),some (.builtin "ValueError.__new__"),some (.bool true)]}:Obj)),
 (233,({cls:= .type "tuple",data:= .seq #[ .none]}:Obj)),
 (239,cO 239 "__init__" "TopologicalSorter.__init__" 629 113 2 0 0 3 636 113),
 (240,fO (mt 13 0) "TopologicalSorter.__init__" (.ref 233) "cpy313.graphlib" 554 239),
 (246,cO 246 "_get_nodeinfo" "TopologicalSorter._get_nodeinfo" 639 122 2 0 0 3 645 122),
 (247,fO (mt 13 1) "TopologicalSorter._get_nodeinfo" .none "cpy313.graphlib" 554 246),
 (253,cO 253 "add" "TopologicalSorter.add" 648 127 2 0 0 7 657 127),
 (254,fO (mt 13 2) "TopologicalSorter.add" .none "cpy313.graphlib" 554 253),
 (258,cN 258 "prepare" "TopologicalSorter.prepare" 660 136 1 0 0 3 663 136),
 (259,fO (mt 13 3) "TopologicalSorter.prepare" .none "cpy313.graphlib" 554 258),
 (265,cO 265 "get_ready" "TopologicalSorter.get_ready" 666 144 1 0 0 3 673 144),
 (266,fO (mt 13 4) "TopologicalSorter.get_ready" .none "cpy313.graphlib" 554 265),
 (272,cO 272 "is_active" "TopologicalSorter.is_active" 676 155 1 0 0 3 680 155),
 (273,fO (mt 13 5) "TopologicalSorter.is_active" .none "cpy313.graphlib" 554 272),
 (279,cO 279 "__bool__" "TopologicalSorter.__bool__" 683 160 1 0 0 3 687 160),
 (280,fO (mt 13 6) "TopologicalSorter.__bool__" .none "cpy313.graphlib" 554 279),
 (286,cO 286 "done" "TopologicalSorter.done" 690 163 1 0 0 7 701 163),
 (287,fO (mt 13 7) "TopologicalSorter.done" .none "cpy313.graphlib" 554 286),
 (293,cO 293 "_find_cycle" "TopologicalSorter._find_cycle" 704 186 1 0 0 3 714 186),
 (294,fO (mt 13 8) "TopologicalSorter._find_cycle" .none "cpy313.graphlib" 554 293),
 (300,cO 300 "static_order" "TopologicalSorter.static_order" 717 215 1 0 0 3 721 215),
 (301,fO (mt 13 9) "TopologicalSorter.static_order" .none "cpy313.graphlib" 554 300),
 (303,dO (.type "dict") #[en P "__module__" 624 (sv "cpy313.graphlib" 554),en P "__firstlineno__" 628 (.int 111 627),en P "__init__" 638 (.ref 240),en P "_get_nodeinfo" 647 (.ref 247),en P "add" 659 (.ref 254),en P "prepare" 665 (.ref 259),en P "get_ready" 675 (.ref 266),en P "is_active" 682 (.ref 273),en P "__bool__" 689 (.ref 280),en P "done" 703 (.ref 287),en P "_find_cycle" 716 (.ref 294),en P "static_order" 723 (.ref 301),en P "__static_attributes__" 728 (.ref 302),en P "__dict__" 730 (.ref 305),en P "__weakref__" 732 (.ref 306),en P "__doc__" 733 (.none)] 4),
 (304,({cls:= .type "type",data:= .cls {name:=Str.ofString "TopologicalSorter",bases:= [ .type "object"],mro:= [ .ref 304,.type "object"],ns:=303,qualname:=Str.ofString "TopologicalSorter"},slots:= #[none,none,some (sv "TopologicalSorter" 617),some (sv "TopologicalSorter" 625),some (.builtin "object.__new__"),some (.bool true)]}:Obj)),
 (314,cO 314 "_plain_name" "_plain_name" 738 218 2 0 0 3 744 218),
 (315,fO (tp 15) "_plain_name" .none "os" 736 314),
 (328,cO 328 "register" "ABCMeta.register" 761 226 2 0 0 3 766 226),
 (329,fO (mt 17 0) "ABCMeta.register" .none "abc" 747 328),
 (331,dO (.type "dict") #[en P "__module__" 756 (sv "abc" 747),en P "__firstlineno__" 760 (.int 224 759),en P "register" 768 (.ref 329),en P "__static_attributes__" 769 (.ref 330),en P "__doc__" 770 (.none)] 2),
 (332,({cls:= .type "type",data:= .cls {name:=Str.ofString "ABCMeta",bases:= [ .type "type"],mro:= [ .ref 332,.type "type",.type "object"],ns:=331,qualname:=Str.ofString "ABCMeta",subclasses:= [ .ref 365]},slots:= #[some (.ref 316),none,some (sv "ABCMeta" 749),some (sv "ABCMeta" 757),some (.builtin "type.__new__"),some (.bool true)]}:Obj)),
 (347,cO 347 "__instancecheck__" "_ABCLike.__instancecheck__" 787 231 2 0 0 3 793 231),
 (348,fO (mt 19 0) "_ABCLike.__instancecheck__" .none "collections.abc" 773 347),
 (354,cO 354 "__subclasscheck__" "_ABCLike.__subclasscheck__" 796 237 2 0 0 3 801 237),
 (355,fO (mt 19 1) "_ABCLike.__subclasscheck__" .none "collections.abc" 773 354),
 (361,cO 361 "register" "_ABCLike.register" 804 242 2 0 0 3 809 242),
 (362,fO (mt 19 2) "_ABCLike.register" .none "collections.abc" 773 361),
 (364,dO (.type "dict") #[en P "__module__" 782 (sv "collections.abc" 773),en P "__firstlineno__" 786 (.int 229 785),en P "__instancecheck__" 795 (.ref 348),en P "__subclasscheck__" 803 (.ref 355),en P "register" 811 (.ref 362),en P "__static_attributes__" 812 (.ref 363),en P "__doc__" 813 (.none)] 2),
 (365,({cls:= .type "type",data:= .cls {name:=Str.ofString "_ABCLike",bases:= [ .ref 332],mro:= [ .ref 365,.ref 332,.type "type",.type "object"],ns:=364,qualname:=Str.ofString "_ABCLike"},slots:= #[some (.ref 335),none,some (sv "_ABCLike" 775),some (sv "_ABCLike" 783),some (.builtin "type.__new__"),some (.bool true)]}:Obj)),
 (373,cO 373 "_abc_plain_meta" "_abc_plain_meta" 816 244 1 0 0 3 820 244),
 (374,fO (tp 20) "_abc_plain_meta" .none "collections.abc" 773 373),
 (380,cO 380 "fspath" "fspath" 825 248 1 0 0 3 832 248),
 (381,fO (tp 22) "fspath" .none "os" 823 380),
 (387,cO 387 "_check_arg_types" "_check_arg_types" 837 265 1 0 0 7 845 265),
 (388,fO (tp 24) "_check_arg_types" .none "cpy313.genericpath" 835 387),
 (394,cO 394 "_get_sep" "_get_sep" 850 277 1 0 0 3 854 277),
 (395,fO (tp 26) "_get_sep" .none "cpy313.posixpath" 848 394),
 (401,cO 401 "join" "join" 857 282 1 0 0 7 865 282),
 (402,fO (tp 27) "join" .none "cpy313.posixpath" 848 401),
 (408,cO 408 "splitroot" "splitroot" 868 299 1 0 0 3 874 299),
 (409,fO (tp 28) "splitroot" .none "cpy313.posixpath" 848 408),
 (415,cO 415 "dirname" "dirname" 877 313 1 0 0 3 884 313),
 (416,fO (tp 29) "dirname" .none "cpy313.posixpath" 848 415),
 (422,cO 422 "normpath" "normpath" 887 321 1 0 0 3 899 321),
 (423,fO (tp 30) "normpath" .none "cpy313.posixpath" 848 422),
 (429,cO 429 "_law_pages" "_law_pages" 904 347 1 0 0 3 912 347),
 (430,fO (tp 32) "_law_pages" .none "law_ik0233_01" 902 429),
 (436,cO 436 "_law_text" "_law_text" 915 354 3 0 0 3 922 354),
 (437,fO (tp 33) "_law_text" .none "law_ik0233_01" 902 436),
 (441,cN 441 "_law_lay" "_law_lay" 925 361 4 0 0 3 928 361),
 (442,fO (tp 34) "_law_lay" .none "law_ik0233_01" 902 441),
 (446,cN 446 "_law_parts" "_law_parts" 931 368 2 0 0 3 934 368),
 (447,fO (tp 35) "_law_parts" .none "law_ik0233_01" 902 446),
 (453,cO 453 "_law_signs" "_law_signs" 937 374 1 0 0 3 946 374),
 (454,fO (tp 36) "_law_signs" .none "law_ik0233_01" 902 453),
 (458,cN 458 "_law_told" "_law_told" 949 389 5 0 0 3 952 389),
 (459,fO (tp 37) "_law_told" .none "law_ik0233_01" 902 458),
 (463,cN 463 "_law_rounds" "_law_rounds" 955 404 3 0 0 3 958 404),
 (464,fO (tp 38) "_law_rounds" .none "law_ik0233_01" 902 463),
 (468,cN 468 "_law_begun" "_law_begun" 961 417 4 0 0 3 964 417),
 (469,fO (tp 39) "_law_begun" .none "law_ik0233_01" 902 468),
 (473,cN 473 "_law_driven" "_law_driven" 967 428 4 0 0 3 970 428),
 (474,fO (tp 40) "_law_driven" .none "law_ik0233_01" 902 473),
 (478,cN 478 "law" "law" 973 435 1 0 0 3 976 435),
 (479,fO (tp 41) "law" .none "law_ik0233_01" 902 478)]
noncomputable def MZ:List Addr:= [3,37,38,42,43,47,48,52,53,54,60,61,69,75,76,82,83,89,90,96,97,101,102,108,109,115,116,122,123,124,130,131,135,136,140,141,147,148,154,155,159,160,166,167,173,174,180,181,183,184,202,203,206,207,208,209,210,221,222,233,239,240,246,247,253,254,258,259,265,266,272,273,279,280,286,287,293,294,300,301,303,304,314,315,328,329,331,332,347,348,354,355,361,362,364,365,373,374,380,381,387,388,394,395,401,402,408,409,415,416,422,423,429,430,436,437,441,442,446,447,453,454,458,459,463,464,468,469,473,474,478,479]
end H1
end
section
namespace L1
open Builtin Builtin.Str
noncomputable def lo (s:String):Str×NameKind:=(Str.ofString s,.local)
noncomputable def gi (s:String):Str×NameKind:=(Str.ofString s,.globalImplicit)
noncomputable def ce (s:String):Str×NameKind:=(Str.ofString s,.cell)
structure Is (C:V.Cx):Prop where
 ok:C.Ok
 K:C.K=H1.K C.w.params
 hx:C.hx=none
theorem mg (h:Is C) (x:Str):C.mg x=nsFind (V.dictOf ((H1.K C.w.params).lookup 3)) x:=V.mg_of h.ok (by rw [h.K];exact rfl) rfl x
theorem KX (h:Is C) (e:keepIn (H1.K C.w.params) (.ref a)=true):V.Kp C (.ext a):=Hl h.ok (by rw [h.K];exact e)
theorem l7 (h:Is C):V.Glob C "CycleError" (.ext 222):=bW (by decide+kernel) ((mg h _).trans (by kernel_rfl))
theorem zw (h:Is C):V.Glob C "Headers" (.ext 184):=bW (by decide+kernel) ((mg h _).trans (by kernel_rfl))
theorem m6 (h:Is C):V.Glob C "StopIteration" (.ty "StopIteration"):=fI h.ok (by decide+kernel) ((mg h _).trans (by kernel_rfl)) (by decide+kernel) (by kernel_rfl)
theorem kC (h:Is C):V.Glob C "TopologicalSorter" (.ext 304):=bW (by decide+kernel) ((mg h _).trans (by kernel_rfl))
theorem rO (h:Is C):V.Glob C "_NODE_DONE" (.int (-2)):=um (t:=560) (by decide+kernel) ((mg h _).trans (by kernel_rfl))
theorem mW (h:Is C):V.Glob C "_NODE_OUT" (.int (-1)):=um (t:=557) (by decide+kernel) ((mg h _).trans (by kernel_rfl))
theorem vf (h:Is C):V.Glob C "_NodeInfo" (.ext 207):=bW (by decide+kernel) ((mg h _).trans (by kernel_rfl))
theorem oJ (h:Is C):V.Glob C "_formatparam" (.ext 61):=bW (by decide+kernel) ((mg h _).trans (by kernel_rfl))
theorem oH (h:Is C):V.Glob C "_get_sep" (.ext 395):=bW (by decide+kernel) ((mg h _).trans (by kernel_rfl))
theorem rN (h:Is C):V.Glob C "_law_begun" (.ext 469):=bW (by decide+kernel) ((mg h _).trans (by kernel_rfl))
theorem pZ (h:Is C):V.Glob C "_law_driven" (.ext 474):=bW (by decide+kernel) ((mg h _).trans (by kernel_rfl))
theorem w5 (h:Is C):V.Glob C "_law_lay" (.ext 442):=bW (by decide+kernel) ((mg h _).trans (by kernel_rfl))
theorem sq (h:Is C):V.Glob C "_law_pages" (.ext 430):=bW (by decide+kernel) ((mg h _).trans (by kernel_rfl))
theorem p7 (h:Is C):V.Glob C "_law_rounds" (.ext 464):=bW (by decide+kernel) ((mg h _).trans (by kernel_rfl))
theorem sX (h:Is C):V.Glob C "_law_signs" (.ext 454):=bW (by decide+kernel) ((mg h _).trans (by kernel_rfl))
theorem u9 (h:Is C):V.Glob C "_law_told" (.ext 459):=bW (by decide+kernel) ((mg h _).trans (by kernel_rfl))
theorem jI (h:Is C):V.Glob C "_name_disallowed_re" (.ext 48):=bW (by decide+kernel) ((mg h _).trans (by kernel_rfl))
theorem jw (h:Is C):V.Glob C "_value_disallowed_re" (.ext 53):=bW (by decide+kernel) ((mg h _).trans (by kernel_rfl))
theorem g_bool (h:Is C):V.Glob C "bool" (.ty "bool"):=fI h.ok (by decide+kernel) ((mg h _).trans (by kernel_rfl)) (by decide+kernel) (by kernel_rfl)
theorem lI (h:Is C):V.Glob C "bytes" (.ty "bytes"):=fI h.ok (by decide+kernel) ((mg h _).trans (by kernel_rfl)) (by decide+kernel) (by kernel_rfl)
theorem gc (h:Is C):V.Glob C "fspath" (.ext 381):=bW (by decide+kernel) ((mg h _).trans (by kernel_rfl))
theorem jg (h:Is C):V.Glob C "isinstance" (.bi "isinstance"):=lA h.ok (by decide+kernel) ((mg h _).trans (by kernel_rfl)) (by decide+kernel) (by kernel_rfl)
theorem tw (h:Is C):V.Glob C "issubclass" (.bi "issubclass"):=lA h.ok (by decide+kernel) ((mg h _).trans (by kernel_rfl)) (by decide+kernel) (by kernel_rfl)
theorem Ic (h:Is C):V.Glob C "iter" (.bi "iter"):=lA h.ok (by decide+kernel) ((mg h _).trans (by kernel_rfl)) (by decide+kernel) (by kernel_rfl)
theorem fB (h:Is C):V.Glob C "len" (.bi "len"):=lA h.ok (by decide+kernel) ((mg h _).trans (by kernel_rfl)) (by decide+kernel) (by kernel_rfl)
theorem He (h:Is C):V.Glob C "list" (.ty "list"):=fI h.ok (by decide+kernel) ((mg h _).trans (by kernel_rfl)) (by decide+kernel) (by kernel_rfl)
theorem dA (h:Is C):V.Glob C "range" (.ty "range"):=fI h.ok (by decide+kernel) ((mg h _).trans (by kernel_rfl)) (by decide+kernel) (by kernel_rfl)
theorem Kf (h:Is C):V.Glob C "set" (.ty "set"):=fI h.ok (by decide+kernel) ((mg h _).trans (by kernel_rfl)) (by decide+kernel) (by kernel_rfl)
theorem vu (h:Is C):V.Glob C "splitroot" (.ext 409):=bW (by decide+kernel) ((mg h _).trans (by kernel_rfl))
theorem kE (h:Is C):V.Glob C "str" (.ty "str"):=fI h.ok (by decide+kernel) ((mg h _).trans (by kernel_rfl)) (by decide+kernel) (by kernel_rfl)
theorem C5 (h:Is C):V.Glob C "sum" (.bi "sum"):=lA h.ok (by decide+kernel) ((mg h _).trans (by kernel_rfl)) (by decide+kernel) (by kernel_rfl)
theorem yB (h:Is C):V.Glob C "tuple" (.ty "tuple"):=fI h.ok (by decide+kernel) ((mg h _).trans (by kernel_rfl)) (by decide+kernel) (by kernel_rfl)
theorem rW (h:Is C):V.Glob C "type" (.ty "type"):=fI h.ok (by decide+kernel) ((mg h _).trans (by kernel_rfl)) (by decide+kernel) (by kernel_rfl)
theorem KW (h:Is C):V.Glob C "zip" (.ty "zip"):=fI h.ok (by decide+kernel) ((mg h _).trans (by kernel_rfl)) (by decide+kernel) (by kernel_rfl)
theorem KG {C:V.Cx} {k:Nat} {sc:Scope} {α S:Type} {enc:α->V.AV} {M:S->List (Option V.AV)} {Sg:S->V.St} {step:S->α->S} {P:S->List α->Prop} {ok:V.St->Prop} {tgt:Expr} {body:List Stmt} (hok: ∀s xs,P s xs->ok (Sg s)) (hp: ∀s x xs,P s (x::xs)->P (step s x) xs)
  (h: ∀s x xs,P s (x::xs)->V.Turn C k sc tgt body (enc x) (M s) (Sg s) (M (step s x)) (Sg (step s x))) (xs:List α) (s:S) (hs:P s xs) {z:S} (hz:xs.foldl step s=z):V.Lr C k sc ok tgt body (xs.map enc) (M s) (Sg s) .next (M z) (Sg z):=hz▸iA hok hp h xs s hs
theorem ML {C:V.Cx} {k:Nat} {sc:Scope} {α S:Type} {enc:α->V.AV} {M:S->List (Option V.AV)} {Sg:S->V.St} {step:S->α->S} {P:S->List α->Prop} {ok:V.St->Prop} {tgt:Expr} {body:List Stmt} (hok: ∀s xs,P s xs->ok (Sg s)) (hp: ∀s x xs,P s (x::xs)->P (step s x) xs)
  (h: ∀s x xs,P s (x::xs)-> ∃ai ae,V.As C k sc (M s) (Sg s) tgt (enc x) ai ae/\V.Ex C k sc ai ae body .next (M (step s x)) (Sg (step s x))) (xs:List α) (s:S) (hs:P s xs) {z:S} (hz:xs.foldl step s=z):H4 C k sc ok tgt body (xs.map enc) (M s) (Sg s) (M z) (Sg z):=hz▸Bk hok hp h xs s hs
theorem ib (h:Nat.beq i j=false):(⟨b+i,x⟩:V.Loc)≠⟨b+j,y⟩:=λe=>Nat.ne_of_beq_eq_false h (Nat.add_left_cancel (dY V.Loc.tag e))
theorem ku (h:Nat.beq 0 j=false):(⟨b,x⟩:V.Loc)≠⟨b+j,y⟩:=ib (i:=0) h
theorem sd (h:Nat.beq i 0=false):(⟨b+i,x⟩:V.Loc)≠⟨b,y⟩:=ib (j:=0) h
theorem fU (h:Is C):V.Ca C (k+1) Z (.ext 381) [.str p] [] (.str p) Z:=by
 have hx0:=h.hx;refine lQ h.ok ⟨⟨_,_,_,by rw [h.K];exact rfl⟩,rfl,rfl,rfl,rfl,by rw [h.K];rfl,rfl,rfl,by decide+kernel⟩ [lo "path",lo "kind",lo "hook",lo "given",gi "type",gi "issubclass",gi "str",gi "bytes",gi "_abc_plain_meta",gi "getattr",gi "TypeError",gi "_plain_name",gi "_wall",gi "len"] rfl [("path",.str p)] _
  (bR (gx λa0=>rfl) rfl) rfl rfl λsc hF n hn=> ?_
 refine tJ hF λn0 n1 n2 n3 n4 n5 n6 n7 q=>JW q λn8 n9 n10 AD n12 n13 _=>?_;clear hF;refine iF ?_;refine aE (au (aD (ar h.ok n4 (rW h)) (af (aa n0 rfl) ak) cK (s7 rE.at (by decide))) (ag n1 rfl)) ?_;refine fD (aX (b:=true) (aD (ar h.ok n5 (tw h)) (af (aa n1 rfl) (af (cU (af (ar h.ok n6 (kE h)) (af (ar h.ok n7 (lI h)) ak)) (dX rfl)) ak)) bp E4) cp) ?_;exact bP (aa n0 rfl)
theorem oY (h:Is C):V.Ca C (k+1) Z (.ext 395) [.str p] [] (.str "/") Z:=by
 have hx0:=h.hx;refine lQ h.ok ⟨⟨_,_,_,by rw [h.K];exact rfl⟩,rfl,rfl,rfl,rfl,by rw [h.K];rfl,rfl,rfl,by decide+kernel⟩ [lo "path",gi "isinstance",gi "bytes"] rfl [("path",.str p)] _
  (bR (gx λa0=>rfl) rfl) rfl rfl λsc hF n hn=> ?_
 refine kD hF λn0 n1 n2 _=>?_;clear hF;refine iF ?_;refine cw (aX (b:=false) (aD (ar h.ok n1 (jg h)) (af (aa n0 rfl) (af (ar h.ok n2 (lI h)) ak)) bp mF) cp) ?_;exact bP aW
noncomputable def fk (p:Str):Str:=Txt.slice p none (some (Txt.rfind p "/"+1))
noncomputable def dc (p:Str):Str:=if(((fk p).length:Int) !=0) && (fk p !=Txt.mul "/" (fk p).length)then Txt.rstripChars (fk p) "/"else fk p
theorem Ah (h:Is C) (hp:V.B p 200):V.Ca C (k+2) Z (.ext 416) [.str p] [] (.str (dc p)) Z:=by
 have hx0:=h.hx;refine lQ h.ok ⟨⟨_,_,_,by rw [h.K];exact rfl⟩,rfl,rfl,rfl,rfl,by rw [h.K];rfl,rfl,rfl,by decide+kernel⟩ [lo "p",lo "sep",lo "i",lo "head",gi "fspath",gi "_get_sep",gi "len"] rfl [("p",.str p)] _
  (bR (gx λa0=>rfl) rfl) rfl rfl λsc hF n hn=> ?_
 refine OT hF λn0 n1 n2 n3 n4 n5 n6 _=>?_;clear hF;refine iF ?_;refine aE (au (aD (ar h.ok n4 (gc h)) (af (aa n0 rfl) ak) (KX h rfl) (fU h)) (ag n0 rfl)) ?_;refine aE (au (aD (ar h.ok n5 (oH h)) (af (aa n0 rfl) ak) (KX h rfl) (oY h)) (ag n1 rfl)) ?_;refine aE (au (az (aL (aa n0 rfl) Gb (af (aa n1 rfl) ak) bp FN) aC qm) (ag n2 rfl)) ?_;refine aE (au (aS (aa n0 rfl) (bL bc (bJ (aa n2 rfl)) bc) eg (cH fw.none (fw.int _) (by kln_le) (by decide))) (ag n3 rfl)) ?_;delta dc;rcases h1:(((fk p).length:Int) !=0)with _ | _
 ·simp only [Bool.false_and,iO,↓reduceIte];delta fk at *;refine cw (aY (b7 (aX (b:=false) (aa n3 rfl) (c7 (by kln_le) (by decide) (by first | with_reducible assumption | rfl))))) ?_;exact bP (aa n3 rfl)
 ·rcases h2:(fk p !=Txt.mul "/" (fk p).length)with _ | _
  ·simp only [Bool.true_and,iO,↓reduceIte];delta fk at *;refine cw (aY (cg (aX (b:=true) (aa n3 rfl) (c7 (by kln_le) (by decide) (by first | with_reducible assumption | rfl))) (b7 (aq (c:=false) (aa n3 rfl) (az (aa n1 rfl) (aD (ar h.ok n6 (fB h)) (af (aa n3 rfl) ak) bp (kf (by kln_le) (by decide))) (vo (by kln_le) (by kln_le) (by decide) (by decide))) (l5 (by first | with_reducible assumption | rfl)) rfl)))) ?_;exact bP (aa n3 rfl)
  ·simp only [Bool.true_and,↓reduceIte];delta fk at *;refine fD (aY (cg (aX (b:=true) (aa n3 rfl) (c7 (by kln_le) (by decide) (by first | with_reducible assumption | rfl))) (cg (aq (c:=true) (aa n3 rfl) (az (aa n1 rfl) (aD (ar h.ok n6 (fB h)) (af (aa n3 rfl) ak) bp (kf (by kln_le) (by decide))) (vo (by kln_le) (by kln_le) (by decide) (by decide))) (l5 (by first | with_reducible assumption | rfl)) rfl) f9))) ?_;refine aE (au (aL (aa n3 rfl) Bu (af (aa n1 rfl) ak) bp (zr (by kln_le) (by decide))) (ag n3 rfl)) ?_;exact bP (aa n3 rfl)
noncomputable def c1 (p:Str):Bool:=Txt.slice p none (some 1) !="/"
noncomputable def c2 (p:Str):Bool:=Txt.slice p (some 1) (some 2) !="/"
noncomputable def c3 (p:Str):Bool:=Txt.slice p (some 2) (some 3)=="/"
noncomputable def tc (p:Str):Str×Str:=if c1 p then("",p)else if c2 p then("/",Txt.slice p (some 1) none)else if c3 p then("/",Txt.slice p (some 1) none)else(Txt.slice p none (some 2),Txt.slice p (some 2) none)
theorem vG (h:Is C) (hp:V.B p 400):V.Ca C (k+2) Z (.ext 409) [.str p] [] (.tup [.str "",.str (tc p).1,.str (tc p).2]) Z:=by
 have hx0:=h.hx;refine lQ h.ok ⟨⟨_,_,_,by rw [h.K];exact rfl⟩,rfl,rfl,rfl,rfl,by rw [h.K];rfl,rfl,rfl,by decide+kernel⟩ [lo "p",lo "sep",lo "empty",gi "fspath",gi "isinstance",gi "bytes"] rfl [("p",.str p)] _
  (bR (gx λa0=>rfl) rfl) rfl rfl λsc hF n hn=> ?_
 refine JW hF λn0 n1 n2 n3 n4 n5 _=>?_;clear hF;refine Gf (λD=>⟨True.intro,True.intro,True.intro,True.intro⟩) ?_;refine aE (au (aD (ar h.ok n3 (gc h)) (af (aa n0 rfl) ak) (KX h rfl) (fU h)) (ag n0 rfl)) ?_;refine cw (aX (b:=false) (aD (ar h.ok n4 (jg h)) (af (aa n0 rfl) (af (ar h.ok n5 (lI h)) ak)) bp mF) cp) ?_;refine aE (au aW (ag n1 rfl)) ?_;refine aE (au aW (ag n2 rfl)) ?_;delta tc;rcases h1:c1 p with _ | _
 ·rcases h2:c2 p with _ | _
  ·rcases h3:c3 p with _ | _
   ·simp only [iO,↓reduceIte];delta c1 c2 c3 at *;refine cw (aq (c:=false) (aS (aa n0 rfl) (bL bc (bJ aC) bc) eg (cH fw.none (fw.int _) (by kln_le) (by decide))) (aa n1 rfl) (l5 (by first | with_reducible assumption | rfl)) rfl) ?_;refine cw (aY (ba (aq (c:=false) (aS (aa n0 rfl) (bL (bJ aC) (bJ aC) bc) eg (cH (fw.int _) (fw.int _) (by kln_le) (by decide))) (aa n1 rfl) (l5 (by first | with_reducible assumption | rfl)) rfl) (ba (aq (c:=false) (aS (aa n0 rfl) (bL (bJ aC) (bJ aC) bc) eg (cH (fw.int _) (fw.int _) (by kln_le) (by decide))) (aa n1 rfl) (V.s_eq (by first | with_reducible assumption | rfl)) rfl) cj))) ?_;exact bP (cU (af (aa n2 rfl) (af (aS (aa n0 rfl) (bL bc (bJ aC) bc) eg (cH fw.none (fw.int _) (by kln_le) (by decide))) (af (aS (aa n0 rfl) (bL (bJ aC) bc bc) eg (cH (fw.int _) fw.none (by kln_le) (by decide))) ak))) (dX rfl))
   ·simp only [iO,↓reduceIte];delta c1 c2 c3 at *;refine cw (aq (c:=false) (aS (aa n0 rfl) (bL bc (bJ aC) bc) eg (cH fw.none (fw.int _) (by kln_le) (by decide))) (aa n1 rfl) (l5 (by first | with_reducible assumption | rfl)) rfl) ?_;refine fD (aY (ba (aq (c:=false) (aS (aa n0 rfl) (bL (bJ aC) (bJ aC) bc) eg (cH (fw.int _) (fw.int _) (by kln_le) (by decide))) (aa n1 rfl) (l5 (by first | with_reducible assumption | rfl)) rfl) (c8 (aq (c:=true) (aS (aa n0 rfl) (bL (bJ aC) (bJ aC) bc) eg (cH (fw.int _) (fw.int _) (by kln_le) (by decide))) (aa n1 rfl) (V.s_eq (by first | with_reducible assumption | rfl)) rfl)))) ?_;exact bP (cU (af (aa n2 rfl) (af (aa n1 rfl) (af (aS (aa n0 rfl) (bL (bJ aC) bc bc) eg (cH (fw.int _) fw.none (by kln_le) (by decide))) ak))) (dX rfl))
  ·simp only [iO,↓reduceIte];delta c1 c2 at *;refine cw (aq (c:=false) (aS (aa n0 rfl) (bL bc (bJ aC) bc) eg (cH fw.none (fw.int _) (by kln_le) (by decide))) (aa n1 rfl) (l5 (by first | with_reducible assumption | rfl)) rfl) ?_;refine fD (aY (c8 (aq (c:=true) (aS (aa n0 rfl) (bL (bJ aC) (bJ aC) bc) eg (cH (fw.int _) (fw.int _) (by kln_le) (by decide))) (aa n1 rfl) (l5 (by first | with_reducible assumption | rfl)) rfl))) ?_;exact bP (cU (af (aa n2 rfl) (af (aa n1 rfl) (af (aS (aa n0 rfl) (bL (bJ aC) bc bc) eg (cH (fw.int _) fw.none (by kln_le) (by decide))) ak))) (dX rfl))
 ·simp only [↓reduceIte];delta c1 at *;refine fD (aq (c:=true) (aS (aa n0 rfl) (bL bc (bJ aC) bc) eg (cH fw.none (fw.int _) (by kln_le) (by decide))) (aa n1 rfl) (l5 (by first | with_reducible assumption | rfl)) rfl) ?_;exact bP (cU (af (aa n2 rfl) (af (aa n2 rfl) (af (aa n0 rfl) ak))) (dX rfl))
noncomputable def ej (a b:Str):Str:=if Txt.startswith b "/"then b else if(a.length:Int) !=0 then(if Txt.endswith a "/"then a++b else a++("/"++b))else b
theorem Hq (h:Is C) (ha:V.B a 200) (hb:V.B b 200):V.Ca C (k+2) Z (.ext 402) [.str a,.str b] [] (.str (ej a b)) Z:=by
 have hx0:=h.hx;refine lQ h.ok ⟨⟨_,_,_,by rw [h.K];exact rfl⟩,rfl,rfl,rfl,rfl,by rw [h.K];rfl,rfl,rfl,by decide+kernel⟩ [lo "a",lo "p",lo "sep",lo "path",lo "b",gi "fspath",gi "_get_sep",gi "TypeError",gi "AttributeError",gi "BytesWarning",gi "_check_arg_types"] rfl ([(Str.ofString "a",.str a)]++ [(Str.ofString "p",.tup [.str b])]) _
  (sO (as:= [.str a]) (rest:= [.str b]) (gx λx=>gx λy=>rfl) rfl (dX rfl)) rfl rfl λsc hF n hn=> ?_
 refine tJ hF λn0 n1 n2 n3 n4 n5 n6 n7 q=>kD q λn8 n9 n10 _=>?_;clear hF;refine iF ?_;refine aE (au (aD (ar h.ok n5 (gc h)) (af (aa n0 rfl) ak) (KX h rfl) (fU h)) (ag n0 rfl)) ?_;refine aE (au (aD (ar h.ok n6 (oH h)) (af (aa n0 rfl) ak) (KX h rfl) (oY h)) (ag n2 rfl)) ?_;refine aE (au (aa n0 rfl) (ag n3 rfl)) ?_;delta ej;rcases h1:Txt.startswith b (Str.ofString "/")with _ | _
 ·rcases h2:((a.length:Int) !=0)with _ | _
  ·simp only [iO,↓reduceIte];refine aE (ml (aJ (jq (f:= .next) (aa n1 rfl) iw trivial (V.Lr.cons trivial (ag n4 rfl) (aJ (au (aD (ar h.ok n5 (gc h)) (af (aa n4 rfl) ak) (KX h rfl) (fU h)) (ag n4 rfl)) (dy (aY (ba (aX (b:=false) (aL (aa n4 rfl) gy (af (aa n2 rfl) ak) bp (gK (by first | with_reducible assumption | rfl))) cp) (c8 (d4 (aX (b:=false) (aa n3 rfl) (c7 (by kln_le) (by decide) (by first | with_reducible assumption | rfl))))))) (aJ (au (aa n4 rfl) (ag n3 rfl)) (bA)))) (.inl rfl) (V.Lr.nil trivial)) (λu v=>rfl)) (bA))) ?_;exact bP (aa n3 rfl)
  ·rcases h3:Txt.endswith a (Str.ofString "/")with _ | _
   ·simp only [iO,↓reduceIte];refine aE (ml (aJ (jq (f:= .next) (aa n1 rfl) iw trivial (V.Lr.cons trivial (ag n4 rfl) (aJ (au (aD (ar h.ok n5 (gc h)) (af (aa n4 rfl) ak) (KX h rfl) (fU h)) (ag n4 rfl)) (ck (aY (ba (aX (b:=false) (aL (aa n4 rfl) gy (af (aa n2 rfl) ak) bp (gK (by first | with_reducible assumption | rfl))) cp) (ba (d4 (aX (b:=true) (aa n3 rfl) (c7 (by kln_le) (by decide) (by first | with_reducible assumption | rfl)))) cj))) (ck (aX (b:=false) (aL (aa n3 rfl) pw (af (aa n2 rfl) ak) bp (pz (by first | with_reducible assumption | rfl))) cp) (aJ (kW n3 rfl (az (aa n2 rfl) (aa n4 rfl) (dD (by kln_le) (by kln_le) (by decide))) (nT (by kln_le) (by kln_le) (by decide)) rfl) (bA))))) (.inl rfl) (V.Lr.nil trivial)) (λu v=>rfl)) (bA))) ?_;exact bP (aa n3 rfl)
   ·simp only [iO,↓reduceIte];refine aE (ml (aJ (jq (f:= .next) (aa n1 rfl) iw trivial (V.Lr.cons trivial (ag n4 rfl) (aJ (au (aD (ar h.ok n5 (gc h)) (af (aa n4 rfl) ak) (KX h rfl) (fU h)) (ag n4 rfl)) (ck (aY (ba (aX (b:=false) (aL (aa n4 rfl) gy (af (aa n2 rfl) ak) bp (gK (by first | with_reducible assumption | rfl))) cp) (ba (d4 (aX (b:=true) (aa n3 rfl) (c7 (by kln_le) (by decide) (by first | with_reducible assumption | rfl)))) cj))) (dy (aX (b:=true) (aL (aa n3 rfl) pw (af (aa n2 rfl) ak) bp (pz (by first | with_reducible assumption | rfl))) cp) (aJ (kW n3 rfl (aa n4 rfl) (nT (by kln_le) (by kln_le) (by decide)) rfl) (bA))))) (.inl rfl) (V.Lr.nil trivial)) (λu v=>rfl)) (bA))) ?_;exact bP (aa n3 rfl)
 ·simp only [↓reduceIte];refine aE (ml (aJ (jq (f:= .next) (aa n1 rfl) iw trivial (V.Lr.cons trivial (ag n4 rfl) (aJ (au (aD (ar h.ok n5 (gc h)) (af (aa n4 rfl) ak) (KX h rfl) (fU h)) (ag n4 rfl)) (dy (aY (c8 (aX (b:=true) (aL (aa n4 rfl) gy (af (aa n2 rfl) ak) bp (gK (by first | with_reducible assumption | rfl))) cp))) (aJ (au (aa n4 rfl) (ag n3 rfl)) (bA)))) (.inl rfl) (V.Lr.nil trivial)) (λu v=>rfl)) (bA))) ?_;exact bP (aa n3 rfl)
noncomputable def gf (p:Str):Str:=GF p
theorem hsp (h:Is C) (hp:V.B p 400) (h1:c1 p=false) (h2:c2 p=true):V.Ca C (k+2) Z (.ext 409) [.str p] [] (.tup [.str "",.str "/",.str (Txt.slice p (some 1) none)]) Z:=by have:=vG h (k:=k) (Z:=Z) hp;unfold tc at this;simpa only [h1,h2,iO,↓reduceIte]using this
theorem BI:(((Str.ofString "/"++y).length:Int) !=0)=true:=by
 rw [size_cat];have:(Str.ofString "/").length=1:=by rfl
 rw [bne_iff_ne];omega
theorem w7 (h:Is C) (hp:V.B p 400) (h0:((p.length:Int) !=0)=true) (h1:c1 p=false) (h2:c2 p=true):V.Ca C (k+3) Z (.ext 423) [.str p] [] (.str (gf p)) Z:=by
 have hx0:=h.hx;refine lQ h.ok ⟨⟨_,_,_,by rw [h.K];exact rfl⟩,rfl,rfl,rfl,rfl,by rw [h.K];rfl,rfl,rfl,by decide+kernel⟩ [lo "path",lo "sep",lo "dot",lo "dotdot",lo "_",lo "initial_slashes",lo "comps",lo "new_comps",lo "comp",gi "fspath",gi "isinstance",gi "bytes",gi "splitroot"] rfl [("path",.str p)] _
  (bR (gx λa0=>rfl) rfl) rfl rfl λsc hF n hn=> ?_
 refine tJ hF λn0 n1 n2 n3 n4 n5 n6 n7 t=>GU t λn8 n9 n10 AD n12 _=>?_;clear hF;have hl:Z ⟨n,Str.empty⟩=none:=hn _ (bT _);have hs:=V.split_len (y:="/") (xU (l:=some 1) (u:=none) hp);have hf:=Av (Txt.split (Txt.slice p (some 1) none) "/") [];have hf1:((Txt.split (Txt.slice p (some 1) none) "/").foldl dh []).length<=1000:=by have:=hf.1;simp only [ip]at this;omega
 have hf2: ∀y∈(Txt.split (Txt.slice p (some 1) none) "/").foldl dh [],y.length<=1000:=λy hy=>by
  refine aP (hf.2 y hy) (λz=>?_) λz=>?_
  ·exact je z
  ·have:=hs.2 y z;omega
 have Pl:=Hr (x:="/") (by decide) hf2 hf1;refine C8 (l:=⟨n,Str.empty⟩) (o:= .list (((Txt.split (Txt.slice p (some 1) none) "/").foldl dh []).map .str)) hl cc ?_;refine aE (au (aD (ar h.ok n9 (gc h)) (af (aa n0 rfl) ak) (KX h rfl) (fU h)) (ag n0 rfl)) ?_;refine cw (aX (b:=false) (aD (ar h.ok n10 (jg h)) (af (aa n0 rfl) (af (ar h.ok AD (lI h)) ak)) bp mF) cp) ?_;refine aE (au aW (ag n1 rfl)) ?_;refine aE (au aW (ag n2 rfl)) ?_;refine aE (au aW (ag n3 rfl)) ?_;refine cw (d4 (aX (b:=true) (aa n0 rfl) (c7 (by kln_le) (by decide) (by first | with_reducible assumption | rfl)))) ?_;refine aE (au (aD (ar h.ok n12 (vu h)) (af (aa n0 rfl) ak) (KX h rfl) (hsp h hp h1 h2)) (iT (cC (ag n4 rfl) (cC (ag n5 rfl) (cC (ag n0 rfl) ke))) rfl (λv=>rfl) (λv=>rfl))) ?_;refine aE (au (aL (aa n0 rfl) rH (af (aa n1 rfl) ak) bp (rI rfl (by kln_le) (by decide) (qq (by kln_le) (by decide)) rfl)) (ag n6 rfl)) ?_;refine aE (au (dU ⟨n,Str.empty⟩ ak (dW _) hl) (ag n7 rfl)) ?_;refine iH (aa n6 rfl) iU (.lst _) (iA (C:=C) (k:=k+2) (sc:=sc) (ok:=λaB=>V.IsL aB (.lst ((Txt.split (Txt.slice p (some 1) none) "/").map .str)) ((Txt.split (Txt.slice p (some 1) none) "/").map .str)) (enc:=V.AV.str)
    (M:=λ(a:List Str×Option V.AV)=> [some (.str (Txt.slice p (some 1) none)),some (.str "/"),some (.str "."),some (.str ".."),some (.str ""),some (.str "/"),some (.lst ((Txt.split (Txt.slice p (some 1) none) "/").map .str)),some (.loc ⟨n,Str.empty⟩),a.2,none,none,none,none])
    (Sg:=λa=>Z.set ⟨n,Str.empty⟩ (.list (a.1.map .str))) (step:=λa c=>(dh a.1 c,some (.str c))) (P:=λa xs=>a.1.length+xs.length<=1000/\ ∀y∈xs,V.B y 400)
    (λv w g=> .lst _) (λa x xs hP=>by
     refine⟨?_,λy hy=>hP.2 y (.tail _ hy)⟩;have h8:=(qe a.1 x).1;have h9:=hP.1;rw [cq]at h9;refine(?_:(dh a.1 x).length+_<=_);omega) ?_ (Txt.split (Txt.slice p (some 1) none) "/") ([],none) ⟨by have:=hs.1;simp only [ip];omega,λy hy=>hs.2 y hy⟩) (λv w=>rfl) ?_
 ·rintro ⟨acc,o⟩ c xs hP
  refine bI hP λhP hB=>?_;have hP:acc.length+(c::xs).length<=1000:=hP;rw [cq]at hP;have hc:V.B c 400:=hB c (.head _);have hz:(acc.map V.AV.str).length<=1000:=by rw [bw];omega
  have line: ∀{n:Nat},n<=1000->n<=sizeLine:=λh=>aV h (by decide);change V.Turn _ _ _ _ _ (.str c) [_,_,_,_,_,_,_,_,o,none,none,none,none] (Z.set ⟨n,Str.empty⟩ (.list (acc.map V.AV.str))) [_,_,_,_,_,_,_,_,some (.str c),none,none,none,none] (Z.set ⟨n,Str.empty⟩ (.list ((dh acc c).map V.AV.str)));rcases q1:((c.length:Int) !=0)with _ | _
  ·have e:dh acc c=acc:=by delta dh;rw [aF q1]
   rw [e];refine qI (ag n8 rfl) ?_;refine dy (aY (c8 (d4 (aX (b:=false) (aa n8 rfl) (c7 (by kln_le) (by decide) (by first | with_reducible assumption | rfl)))))) ?_;exact td
  rcases q2:(c==".")with _ | _
  rotate_left
  ·have e:dh acc c=acc:=by delta dh;rw [ay (by rw [q1];decide),aF q2]
   rw [e];refine qI (ag n8 rfl) ?_;refine dy (aY (ba (d4 (aX (b:=true) (aa n8 rfl) (c7 (by kln_le) (by decide) (by first | with_reducible assumption | rfl)))) (c8 (aq (c:=true) (aa n8 rfl) (aa n2 rfl) (V.s_eq (by first | with_reducible assumption | rfl)) rfl)))) ?_;exact td
  rcases q3:(c !="..")with _ | _
  rotate_left
  ·have e:dh acc c=acc++ [c]:=by delta dh;rw [ay (by rw [q1];decide),ay (by rw [q2];decide),aF q3]
   rw [e];simp only [e9,dj,xo];refine cx (ag n8 rfl) ?_;refine ck (aY (ba (d4 (aX (b:=true) (aa n8 rfl) (c7 (by kln_le) (by decide) (by first | with_reducible assumption | rfl)))) (ba (aq (c:=false) (aa n8 rfl) (aa n2 rfl) (V.s_eq (by first | with_reducible assumption | rfl)) rfl) cj))) ?_;refine dy (aY (c8 (aq (c:=true) (aa n8 rfl) (aa n3 rfl) (l5 (by first | with_reducible assumption | rfl)) rfl))) ?_;refine aJ (cv (aL (aa n7 rfl) iY (af (aa n8 rfl) ak) bp (i8 (line (by simp at hz hP⊢ <;>omega))))) ?_;exact bA
  have q4:(("/".length:Int) !=0)=true:=by rfl
  have Pm:acc= []\/ ∃L l0,acc=L++ [l0]:=by
   by_cases hne:acc= []
   ·exact .inl hne
   ·exact .inr ⟨acc.dropLast,acc.getLast hne,(List.dropLast_concat_getLast hne).symm⟩
  rcases Pm with rfl | ⟨L,l0,rfl⟩
  ·have e:dh [] c= []:=by delta dh;rw [ay (by rw [q1];decide),ay (by rw [q2];decide),ay (by rw [q3];decide),aF (show([]:List Str).isEmpty=true from rfl)]
   rw [e];refine cx (ag n8 rfl) ?_;refine ck (aY (ba (d4 (aX (b:=true) (aa n8 rfl) (c7 (by kln_le) (by decide) (by first | with_reducible assumption | rfl)))) (ba (aq (c:=false) (aa n8 rfl) (aa n2 rfl) (V.s_eq (by first | with_reducible assumption | rfl)) rfl) cj))) ?_;refine ck (aY (ba (aq (c:=false) (aa n8 rfl) (aa n3 rfl) (l5 (by first | with_reducible assumption | rfl)) rfl) (ba (aY (b7 (d4 (aX (b:=true) (aa n5 rfl) (c7 (by kln_le) (by decide) (by first | with_reducible assumption | rfl)))))) (ba (aY (b7 (aX (b:=false) (aa n7 rfl) (lX (line (by simp at hz hP⊢ <;>omega)) (by first | with_reducible assumption | rfl))))) cj)))) ?_;refine ck (aX (b:=false) (aa n7 rfl) (lX (line (by simp at hz hP⊢ <;>omega)) (by first | with_reducible assumption | rfl))) ?_;exact bA
  have em:(L++ [l0]).isEmpty=false:=by simp
  have PQ:(!(L.map V.AV.str++ [V.AV.str l0]).isEmpty)=true:=by simp
  have gl:((L++ [l0]).getLast?.getD Str.empty)=l0:=by simp
  rcases q5:(l0=="..")with _ | _
  ·have e:dh (L++ [l0]) c=L:=by delta dh;rw [ay (by rw [q1];decide),ay (by rw [q2];decide),ay (by rw [q3];decide),ay (by rw [em];decide),gl,ay (by rw [q5];decide),List.dropLast_concat]
   rw [e];simp only [e9,dj,xo];refine cx (ag n8 rfl) ?_;refine ck (aY (ba (d4 (aX (b:=true) (aa n8 rfl) (c7 (by kln_le) (by decide) (by first | with_reducible assumption | rfl)))) (ba (aq (c:=false) (aa n8 rfl) (aa n2 rfl) (V.s_eq (by first | with_reducible assumption | rfl)) rfl) cj))) ?_;refine ck (aY (ba (aq (c:=false) (aa n8 rfl) (aa n3 rfl) (l5 (by first | with_reducible assumption | rfl)) rfl) (ba (aY (b7 (d4 (aX (b:=true) (aa n5 rfl) (c7 (by kln_le) (by decide) (by first | with_reducible assumption | rfl)))))) (ba (aY (cg (aX (b:=true) (aa n7 rfl) (lX (line (by simp at hz hP⊢ <;>omega)) (by first | with_reducible assumption | rfl))) (b7 (aq (c:=false) (aS (aa n7 rfl) (dB aC qY) (bk (.loc V.set_same)) (oF (x:= .str l0) (by decide) (by simp<;>omega) (by decide) i7)) (aa n3 rfl) (V.s_eq (by first | with_reducible assumption | rfl)) rfl)))) cj)))) ?_;refine dy (aX (b:=true) (aa n7 rfl) (lX (line (by simp at hz hP⊢ <;>omega)) (by first | with_reducible assumption | rfl))) ?_;refine aJ (cv (aL (aa n7 rfl) IQ ak bp (HW (line (by simp at hz hP⊢ <;>omega))))) ?_;exact bA
  ·have e:dh (L++ [l0]) c=L++ [l0]++ [c]:=by delta dh;rw [ay (by rw [q1];decide),ay (by rw [q2];decide),ay (by rw [q3];decide),ay (by rw [em];decide),gl,aF q5]
   rw [e];simp only [e9,dj,xo];refine cx (ag n8 rfl) ?_;refine ck (aY (ba (d4 (aX (b:=true) (aa n8 rfl) (c7 (by kln_le) (by decide) (by first | with_reducible assumption | rfl)))) (ba (aq (c:=false) (aa n8 rfl) (aa n2 rfl) (V.s_eq (by first | with_reducible assumption | rfl)) rfl) cj))) ?_;refine dy (aY (ba (aq (c:=false) (aa n8 rfl) (aa n3 rfl) (l5 (by first | with_reducible assumption | rfl)) rfl) (ba (aY (b7 (d4 (aX (b:=true) (aa n5 rfl) (c7 (by kln_le) (by decide) (by first | with_reducible assumption | rfl)))))) (c8 (aY (cg (aX (b:=true) (aa n7 rfl) (lX (line (by simp at hz hP⊢ <;>omega)) (by first | with_reducible assumption | rfl))) (cg (aq (c:=true) (aS (aa n7 rfl) (dB aC qY) (bk (.loc V.set_same)) (oF (x:= .str l0) (by decide) (by simp<;>omega) (by decide) i7)) (aa n3 rfl) (V.s_eq (by first | with_reducible assumption | rfl)) rfl) f9))))))) ?_;refine aJ (cv (aL (aa n7 rfl) iY (af (aa n8 rfl) ak) bp (i8 (line (by simp at hz hP⊢ <;>omega))))) ?_;exact bA
 ·have pr: ∀(xs:List Str) (a:List Str×Option V.AV),(xs.foldl (λa c=>(dh a.1 c,some (V.AV.str c))) a).1=xs.foldl dh a.1:=by
   intro xs
   induction xs with
   | nil=>intro a;rfl
   | cons x xs ih=>intro a;exact ih _
  rw [pr];have hbn:V.B (gf p) 1100001:=fQ (iV rfl) Pl;have hne:(((gf p).length:Int) !=0)=true:=BI;refine aE (au (aa n7 rfl) (ag n6 rfl)) ?_;refine aE (au (az (aa n5 rfl) (aL (aa n1 rfl) we (af (aa n6 rfl) ak) bp (xg (.loc V.set_same) (qU (by decide) hf2 hf1))) (dD (by kln_le) (by kln_le) (by decide))) (ag n0 rfl)) ?_;exact bP (eR (mm (aa n0 rfl) (c7 (by kln_le) (by decide) (by first | with_reducible assumption | rfl))))
theorem zk (h:Is C) (hok:x.cps.all nO=true) (hx:x.length<=1000000):V.Ca C k Z (.bi "re.Pattern.search") [.ext 48,.str x] [] .none Z:=
 vU h.ok (ct:=47) (code:=V.codeN) (by rw [h.K];exact rfl) (by rw [h.K];exact rfl) (by exact rfl) (by exact rfl) (by exact rfl) (by kernel_rfl) MP rfl rfl hok hx
theorem yW (h:Is C):V.Mt C k Z (.ext 48) "search" (.bi "re.Pattern.search"):=uk h.ok (by rw [h.K];exact rfl)
theorem Ak (h:Is C) (hok:x.cps.all nO=true) (hx:x.length<=1000000):V.Ca C k Z (.bi "re.Pattern.search") [.ext 53,.str x] [] .none Z:=
 vU h.ok (ct:=52) (code:=V.codeV) (by rw [h.K];exact rfl) (by rw [h.K];exact rfl) (by exact rfl) (by exact rfl) (by exact rfl) (by kernel_rfl) Na rfl rfl hok hx
theorem zV (h:Is C):V.Mt C k Z (.ext 53) "search" (.bi "re.Pattern.search"):=uk h.ok (by rw [h.K];exact rfl)
theorem sQ (h:Is C) (hx:x.length<=1000000) (hok:x.cps.all nO=true):V.Ca C (k+1) Z (.ext 83) [sv,.str x] [("name",.bool b)] (.str x) Z:=by
 have hx0:=h.hx;refine lQ h.ok ⟨⟨_,_,_,by rw [h.K];exact rfl⟩,rfl,rfl,rfl,rfl,by rw [h.K];rfl,rfl,rfl,by decide+kernel⟩ [lo "self",lo "value",lo "name",lo "regex",gi "type",gi "str",gi "_name_disallowed_re",gi "_value_disallowed_re",gi "ValueError",gi "AssertionError",gi "repr"] rfl [("self",sv),("value",.str x),("name",.bool b)] Z
  (HQ (λa0 a1 a2=>by kernel_rfl)) rfl rfl λsc hF n hn=> ?_
 refine tJ hF λn0 n1 n2 n3 n4 n5 n6 n7 q=>kD q λn8 n9 n10 _=>?_;clear hF;refine iF ?_;cases b
 ·skip
  refine fD (aq (c:=true) (aD (ar h.ok n4 (rW h)) (af (aa n1 rfl) ak) cK (s7 rE.at (by decide))) (ar h.ok n5 (kE h)) (GB rfl rfl) rfl) ?_;refine aE (au (b9 (aX (b:=false) (aa n2 rfl) cp) (ar h.ok n7 (jw h))) (ag n3 rfl)) ?_;refine cw (aX (b:=false) (aL (aa n3 rfl) (zV h) (af (aa n1 rfl) ak) bp (Ak h (by assumption) (by assumption))) tv) ?_;exact bP (aa n1 rfl)
 ·skip
  refine fD (aq (c:=true) (aD (ar h.ok n4 (rW h)) (af (aa n1 rfl) ak) cK (s7 rE.at (by decide))) (ar h.ok n5 (kE h)) (GB rfl rfl) rfl) ?_;refine aE (au (b9 (aX (b:=true) (aa n2 rfl) cp) (ar h.ok n6 (jI h))) (ag n3 rfl)) ?_;refine cw (aX (b:=false) (aL (aa n3 rfl) (yW h) (af (aa n1 rfl) ak) bp (zk h (by assumption) (by assumption))) tv) ?_;exact bP (aa n1 rfl)
theorem DX (h:Is C):V.ExcAt C.K 222 [.type "ValueError",.type "Exception",.type "BaseException",.type "object"] "ValueError.__new__":=by rw [h.K];exact⟨_,221,_,_,_,_,_,_,_,_,_,_,_,_,_,_,rfl,by kernel_rfl,by kernel_rfl,by kernel_rfl⟩
theorem eV (h:Is C) (hl:Z l=some (.inst 304 d)) (hd:Z d=some (.dict [("_node2info",v0),("_ready_nodes",v1),("_npassedout",v2),("_nfinished",v3)])) (hv: ∀id,v0≠ .bi id) (ha:v0≠ .any):
  ie C k Z (λx=>getAttr x "_node2info" true) (.loc l) (λW r=>aw W v0 r) Z:=by
 refine lJ h.ok hl hd (i:=0) (by rw [h.K];kernel_rfl) rfl ?_ hv ha;intro xs n r
 revert xs
 refine kU ?_;intro x0 x1 x2 x3 hr;obtain rfl:x0.2=r:=dI hr;rw [h.K];kernel_rfl
theorem kH (h:Is C) (hl:Z l=some (.inst 304 d)) (hd:Z d=some (.dict [("_node2info",v0),("_ready_nodes",v1),("_npassedout",v2),("_nfinished",v3)])) (hv: ∀id,v1≠ .bi id) (ha:v1≠ .any):
  ie C k Z (λx=>getAttr x "_ready_nodes" true) (.loc l) (λW r=>aw W v1 r) Z:=by
 refine lJ h.ok hl hd (i:=1) (by rw [h.K];kernel_rfl) rfl ?_ hv ha;intro xs n r
 revert xs
 refine kU ?_;intro x0 x1 x2 x3 hr;obtain rfl:x1.2=r:=dI hr;rw [h.K];kernel_rfl
theorem sG (h:Is C) (hl:Z l=some (.inst 304 d)) (hd:Z d=some (.dict [("_node2info",v0),("_ready_nodes",v1),("_npassedout",v2),("_nfinished",v3)])) (hv: ∀id,v2≠ .bi id) (ha:v2≠ .any):
  ie C k Z (λx=>getAttr x "_npassedout" true) (.loc l) (λW r=>aw W v2 r) Z:=by
 refine lJ h.ok hl hd (i:=2) (by rw [h.K];kernel_rfl) rfl ?_ hv ha;intro xs n r
 revert xs
 refine kU ?_;intro x0 x1 x2 x3 hr;obtain rfl:x2.2=r:=dI hr;rw [h.K];kernel_rfl
theorem tR (h:Is C) (hl:Z l=some (.inst 304 d)) (hd:Z d=some (.dict [("_node2info",v0),("_ready_nodes",v1),("_npassedout",v2),("_nfinished",v3)])) (hv: ∀id,v3≠ .bi id) (ha:v3≠ .any):
  ie C k Z (λx=>getAttr x "_nfinished" true) (.loc l) (λW r=>aw W v3 r) Z:=by
 refine lJ h.ok hl hd (i:=3) (by rw [h.K];kernel_rfl) rfl ?_ hv ha;intro xs n r
 revert xs
 refine kU ?_;intro x0 x1 x2 x3 hr;obtain rfl:x3.2=r:=dI hr;rw [h.K];kernel_rfl
theorem kN (h:Is C) (hl:Z l=some (.inst 304 d)) (hd:Z d=some (.dict [("_node2info",v0),("_ready_nodes",v1),("_npassedout",v2),("_nfinished",v3)])):
  di C k Z (λx y=>setAttr x "_ready_nodes" y) (.loc l) v (λu w=>True) (Z.set d (.dict [("_node2info",v0),("_ready_nodes",v),("_npassedout",v2),("_nfinished",v3)])):=by
 exact iD h.ok hl hd (by rw [h.K];kernel_rfl) (by rw [h.K];kernel_rfl) (by rw [h.K];kernel_rfl) (by rw [h.K];kernel_rfl) (by kernel_rfl) (dX rfl)
theorem sC (h:Is C) (hl:Z l=some (.inst 304 d)) (hd:Z d=some (.dict [("_node2info",v0),("_ready_nodes",v1),("_npassedout",v2),("_nfinished",v3)])):
  di C k Z (λx y=>setAttr x "_npassedout" y) (.loc l) v (λu w=>True) (Z.set d (.dict [("_node2info",v0),("_ready_nodes",v1),("_npassedout",v),("_nfinished",v3)])):=by
 exact iD h.ok hl hd (by rw [h.K];kernel_rfl) (by rw [h.K];kernel_rfl) (by rw [h.K];kernel_rfl) (by rw [h.K];kernel_rfl) (by kernel_rfl) (dX rfl)
theorem tV (h:Is C) (hl:Z l=some (.inst 304 d)) (hd:Z d=some (.dict [("_node2info",v0),("_ready_nodes",v1),("_npassedout",v2),("_nfinished",v3)])):
  di C k Z (λx y=>setAttr x "_nfinished" y) (.loc l) v (λu w=>True) (Z.set d (.dict [("_node2info",v0),("_ready_nodes",v1),("_npassedout",v2),("_nfinished",v)])):=by
 exact iD h.ok hl hd (by rw [h.K];kernel_rfl) (by rw [h.K];kernel_rfl) (by rw [h.K];kernel_rfl) (by rw [h.K];kernel_rfl) (by kernel_rfl) (dX rfl)
theorem u3 (h:Is C) (hl:Z l=some (.inst 304 d)) (hd:Z d=some (.dict [])):
  di C k Z (λx y=>setAttr x "_node2info" y) (.loc l) v (λu w=>True) (Z.set d (.dict [("_node2info",v)])):=by
 exact iD h.ok hl hd (by rw [h.K];kernel_rfl) (by rw [h.K];kernel_rfl) (by rw [h.K];kernel_rfl) (by rw [h.K];kernel_rfl) (by kernel_rfl) (dX rfl)
theorem pU (h:Is C) (hl:Z l=some (.inst 304 d)) (hd:Z d=some (.dict [("_node2info",v0)])):
  di C k Z (λx y=>setAttr x "_ready_nodes" y) (.loc l) v (λu w=>True) (Z.set d (.dict [("_node2info",v0),("_ready_nodes",v)])):=by
 exact iD h.ok hl hd (by rw [h.K];kernel_rfl) (by rw [h.K];kernel_rfl) (by rw [h.K];kernel_rfl) (by rw [h.K];kernel_rfl) (by kernel_rfl) (dX rfl)
theorem s9 (h:Is C) (hl:Z l=some (.inst 304 d)) (hd:Z d=some (.dict [("_node2info",v0),("_ready_nodes",v1)])):
  di C k Z (λx y=>setAttr x "_npassedout" y) (.loc l) v (λu w=>True) (Z.set d (.dict [("_node2info",v0),("_ready_nodes",v1),("_npassedout",v)])):=by
 exact iD h.ok hl hd (by rw [h.K];kernel_rfl) (by rw [h.K];kernel_rfl) (by rw [h.K];kernel_rfl) (by rw [h.K];kernel_rfl) (by kernel_rfl) (dX rfl)
theorem t6 (h:Is C) (hl:Z l=some (.inst 304 d)) (hd:Z d=some (.dict [("_node2info",v0),("_ready_nodes",v1),("_npassedout",v2)])):
  di C k Z (λx y=>setAttr x "_nfinished" y) (.loc l) v (λu w=>True) (Z.set d (.dict [("_node2info",v0),("_ready_nodes",v1),("_npassedout",v2),("_nfinished",v)])):=by
 exact iD h.ok hl hd (by rw [h.K];kernel_rfl) (by rw [h.K];kernel_rfl) (by rw [h.K];kernel_rfl) (by rw [h.K];kernel_rfl) (by kernel_rfl) (dX rfl)
theorem ql (h:Is C) (hl:Z l=some (.inst 184 d)) (hd:Z d=some (.dict [("_headers",v0)])) (hv: ∀id,v0≠ .bi id) (ha:v0≠ .any):
  ie C k Z (λx=>getAttr x "_headers" true) (.loc l) (λW r=>aw W v0 r) Z:=by
 refine lJ h.ok hl hd (i:=0) (by rw [h.K];kernel_rfl) rfl ?_ hv ha;intro xs n r
 revert xs
 refine gx ?_;intro x0 hr;obtain rfl:x0.2=r:=dI hr;rw [h.K];kernel_rfl
theorem zb (h:Is C) (hl:Z l=some (.inst 184 d)) (hd:Z d=some (.dict [])):
  di C k Z (λx y=>setAttr x "_headers" y) (.loc l) v (λu w=>True) (Z.set d (.dict [("_headers",v)])):=by
 exact iD h.ok hl hd (by rw [h.K];kernel_rfl) (by rw [h.K];kernel_rfl) (by rw [h.K];kernel_rfl) (by rw [h.K];kernel_rfl) (by kernel_rfl) (dX rfl)
theorem jF (h:Is C) (hl:Z l=some (.inst 304 d)) (hd:Z d=some (.dict [("_node2info",v0),("_ready_nodes",v1),("_npassedout",v2),("_nfinished",v3)])):V.Mt C k Z (.loc l) "_get_nodeinfo" (.ext 247):=
 qK h.ok hl hd (by rw [h.K];kernel_rfl) (by rw [h.K];kernel_rfl) (by rw [h.K];kernel_rfl) (by rw [h.K];kernel_rfl) (λxs n=>by revert xs;exact kU λx0 x1 x2 x3=>by kernel_rfl)
theorem qR (h:Is C) (hl:Z l=some (.inst 304 d)) (hd:Z d=some (.dict [("_node2info",v0),("_ready_nodes",v1),("_npassedout",v2),("_nfinished",v3)])):V.Mt C k Z (.loc l) "prepare" (.ext 259):=
 qK h.ok hl hd (by rw [h.K];kernel_rfl) (by rw [h.K];kernel_rfl) (by rw [h.K];kernel_rfl) (by rw [h.K];kernel_rfl) (λxs n=>by revert xs;exact kU λx0 x1 x2 x3=>by kernel_rfl)
theorem mU (h:Is C) (hl:Z l=some (.inst 304 d)) (hd:Z d=some (.dict [("_node2info",v0),("_ready_nodes",v1),("_npassedout",v2),("_nfinished",v3)])):V.Mt C k Z (.loc l) "get_ready" (.ext 266):=
 qK h.ok hl hd (by rw [h.K];kernel_rfl) (by rw [h.K];kernel_rfl) (by rw [h.K];kernel_rfl) (by rw [h.K];kernel_rfl) (λxs n=>by revert xs;exact kU λx0 x1 x2 x3=>by kernel_rfl)
theorem jT (h:Is C) (hl:Z l=some (.inst 304 d)) (hd:Z d=some (.dict [("_node2info",v0),("_ready_nodes",v1),("_npassedout",v2),("_nfinished",v3)])):V.Mt C k Z (.loc l) "is_active" (.ext 273):=
 qK h.ok hl hd (by rw [h.K];kernel_rfl) (by rw [h.K];kernel_rfl) (by rw [h.K];kernel_rfl) (by rw [h.K];kernel_rfl) (λxs n=>by revert xs;exact kU λx0 x1 x2 x3=>by kernel_rfl)
theorem fM (h:Is C) (hl:Z l=some (.inst 304 d)) (hd:Z d=some (.dict [("_node2info",v0),("_ready_nodes",v1),("_npassedout",v2),("_nfinished",v3)])):V.Mt C k Z (.loc l) "_find_cycle" (.ext 294):=
 qK h.ok hl hd (by rw [h.K];kernel_rfl) (by rw [h.K];kernel_rfl) (by rw [h.K];kernel_rfl) (by rw [h.K];kernel_rfl) (λxs n=>by revert xs;exact kU λx0 x1 x2 x3=>by kernel_rfl)
theorem cJ (h:Is C) (hl:Z l=some (.inst 184 d)) (hd:Z d=some (.dict [("_headers",v0)])):V.Mt C k Z (.loc l) "_convert_string_type" (.ext 83):=
 qK h.ok hl hd (by rw [h.K];kernel_rfl) (by rw [h.K];kernel_rfl) (by rw [h.K];kernel_rfl) (by rw [h.K];kernel_rfl) (λxs n=>by revert xs;exact gx λx0=>by kernel_rfl)
theorem yG (h:Is C) (hl:AH Z l 207 d vs) (hi:vs[0]? =some (some v)) (hv: ∀id,v≠ .bi id) (ha:v≠ .any):
  ie C k Z (λx=>getAttr x "node" true) (.loc l) (λW r=>aw W v r) Z:=
 tj (p:=208) h.ok hl (by rw [h.K];kernel_rfl) (by rw [h.K];kernel_rfl) (by rw [h.K];kernel_rfl) (by rw [h.K];kernel_rfl) (by rw [h.K];kernel_rfl) (by rw [h.K];kernel_rfl) (by rw [h.K];kernel_rfl) hi hv ha
theorem Fc (h:Is C) (hl:AH Z l 207 d vs):
  di C k Z (λx y=>setAttr x "node" y) (.loc l) v (λu w=>True) (Z.set l (.slots 207 d (gG vs 0 v))):=
 kT (p:=208) (i:=0) h.ok hl (by rw [h.K];kernel_rfl) (by rw [h.K];kernel_rfl) (by rw [h.K];kernel_rfl) (by rw [h.K];kernel_rfl) (by rw [h.K];kernel_rfl) (by decide)
theorem sM (h:Is C) (hl:AH Z l 207 d vs) (hi:vs[1]? =some (some v)) (hv: ∀id,v≠ .bi id) (ha:v≠ .any):
  ie C k Z (λx=>getAttr x "npredecessors" true) (.loc l) (λW r=>aw W v r) Z:=
 tj (p:=209) h.ok hl (by rw [h.K];kernel_rfl) (by rw [h.K];kernel_rfl) (by rw [h.K];kernel_rfl) (by rw [h.K];kernel_rfl) (by rw [h.K];kernel_rfl) (by rw [h.K];kernel_rfl) (by rw [h.K];kernel_rfl) hi hv ha
theorem xR (h:Is C) (hl:AH Z l 207 d vs):
  di C k Z (λx y=>setAttr x "npredecessors" y) (.loc l) v (λu w=>True) (Z.set l (.slots 207 d (gG vs 1 v))):=
 kT (p:=209) (i:=1) h.ok hl (by rw [h.K];kernel_rfl) (by rw [h.K];kernel_rfl) (by rw [h.K];kernel_rfl) (by rw [h.K];kernel_rfl) (by rw [h.K];kernel_rfl) (by decide)
theorem ym (h:Is C) (hl:AH Z l 207 d vs) (hi:vs[2]? =some (some v)) (hv: ∀id,v≠ .bi id) (ha:v≠ .any):
  ie C k Z (λx=>getAttr x "successors" true) (.loc l) (λW r=>aw W v r) Z:=
 tj (p:=210) h.ok hl (by rw [h.K];kernel_rfl) (by rw [h.K];kernel_rfl) (by rw [h.K];kernel_rfl) (by rw [h.K];kernel_rfl) (by rw [h.K];kernel_rfl) (by rw [h.K];kernel_rfl) (by rw [h.K];kernel_rfl) hi hv ha
theorem EU (h:Is C) (hl:AH Z l 207 d vs):
  di C k Z (λx y=>setAttr x "successors" y) (.loc l) v (λu w=>True) (Z.set l (.slots 207 d (gG vs 2 v))):=
 kT (p:=210) (i:=2) h.ok hl (by rw [h.K];kernel_rfl) (by rw [h.K];kernel_rfl) (by rw [h.K];kernel_rfl) (by rw [h.K];kernel_rfl) (by rw [h.K];kernel_rfl) (by decide)
end L1
end
section
namespace L1
open V (AV AO)
noncomputable abbrev e0:Str:=Str.empty
structure SS where
 ks:List Str
 np:Str->Int
 su:Str->List Str
 rd:Option (List Str)
 po:Int
 nf:Int
noncomputable def sD (b:Nat) (q:SS):List (Str×AV):= [("_node2info",.loc ⟨b+2,e0⟩),("_ready_nodes",(if q.rd.isSome then .loc ⟨b+6,e0⟩else .none)),("_npassedout",.int q.po),("_nfinished",.int q.nf)]
noncomputable def sN (b:Nat) (q:SS):List (Str×AV):=q.ks.map λx=>(x,.loc ⟨b+3,x⟩)
noncomputable def sI (b:Nat) (q:SS) (x:Str):List (Option AV):= [some (.str x),some (.int (q.np x)),some (.loc ⟨b+5,x⟩)]
noncomputable def bx (b:Nat) (q:SS) (Z:V.St):V.St:=λl=>
 if l=⟨b,e0⟩then some (.inst 304 ⟨b+1,e0⟩)
 else if l=⟨b+1,e0⟩then some (.dict (sD b q))
 else if l=⟨b+2,e0⟩then some (.dict (sN b q))
 else if l.tag=b+3/\l.key∈q.ks then some (.slots 207 ⟨b+4,l.key⟩ (sI b q l.key))
 else if l.tag=b+4/\l.key∈q.ks then some (.dict [])
 else if l.tag=b+5/\l.key∈q.ks then some (.list ((q.su l.key).map .str))
 else if l=⟨b+6,e0⟩/\q.rd.isSome=true then some (.list ((q.rd.getD []).map .str))
 else Z l
variable {b:Nat} {q:SS} {Z:V.St} {x:Str}
theorem ew:bx b q Z ⟨b,e0⟩=some (.inst 304 ⟨b+1,e0⟩):=by delta bx;rw [aF rfl]
theorem dN:bx b q Z ⟨b+1,e0⟩=some (.dict (sD b q)):=by delta bx;rw [ay (by exact L1.sd rfl),aF rfl]
theorem gW:bx b q Z ⟨b+2,e0⟩=some (.dict (sN b q)):=by delta bx;rw [ay (by exact L1.sd rfl),ay (by exact L1.ib rfl),aF rfl]
theorem oz (h:x∈q.ks):bx b q Z ⟨b+3,x⟩=some (.slots 207 ⟨b+4,x⟩ (sI b q x)):=by delta bx;rw [ay (by exact L1.sd rfl),ay (by exact L1.ib rfl),ay (by exact L1.ib rfl),aF ⟨rfl,h⟩]
theorem AA (h:x∈q.ks):bx b q Z ⟨b+4,x⟩=some (.dict []):=by delta bx;rw [ay (by exact L1.sd rfl),ay (by exact L1.ib rfl),ay (by exact L1.ib rfl),ay (by simp),aF ⟨rfl,h⟩]
theorem m5 (h:x∈q.ks):bx b q Z ⟨b+5,x⟩=some (.list ((q.su x).map .str)):=by delta bx;rw [ay (by exact L1.sd rfl),ay (by exact L1.ib rfl),ay (by exact L1.ib rfl),ay (by simp),ay (by simp),aF ⟨rfl,h⟩]
theorem mx (h:q.rd=some r):bx b q Z ⟨b+6,e0⟩=some (.list (r.map .str)):=by delta bx;rw [ay (by exact L1.sd rfl),ay (by exact L1.ib rfl),ay (by exact L1.ib rfl),ay (by simp),ay (by simp),ay (by simp),aF ⟨rfl,by rw [h];rfl⟩,h];rfl
noncomputable def Ow (b:Nat) (q:SS) (l:V.Loc):Prop:=l=⟨b,e0⟩\/l=⟨b+1,e0⟩\/l=⟨b+2,e0⟩\/(l.tag=b+3/\l.key∈q.ks)\/(l.tag=b+4/\l.key∈q.ks)\/(l.tag=b+5/\l.key∈q.ks)\/(l=⟨b+6,e0⟩/\q.rd.isSome=true)
theorem Ow.el {Q:Prop} (h:Ow b q l) (h0:l=⟨b,e0⟩->Q) (h1:l=⟨b+1,e0⟩->Q) (h2:l=⟨b+2,e0⟩->Q) (h3:l.tag=b+3->l.key∈q.ks->Q) (h4:l.tag=b+4->l.key∈q.ks->Q) (h5:l.tag=b+5->l.key∈q.ks->Q) (h6:l=⟨b+6,e0⟩->q.rd.isSome=true->Q):Q:=
 aP h h0 λh=>aP h h1 λh=>aP h h2 λh=>aP h (λc=>h3 c.1 c.2) λh=>aP h (λc=>h4 c.1 c.2) λh=>aP h (λc=>h5 c.1 c.2) λc=>h6 c.1 c.2
theorem gD (h: ¬Ow b q l):bx b q Z l=Z l:=
 (ay λc=>h (.inl c)).trans ((ay λc=>h (.inr (.inl c))).trans ((ay λc=>h (.inr (.inr (.inl c)))).trans ((ay λc=>h (.inr (.inr (.inr (.inl c))))).trans ((ay λc=>h (.inr (.inr (.inr (.inr (.inl c)))))).trans ((ay λc=>h (.inr (.inr (.inr (.inr (.inr (.inl c))))))).trans (ay λc=>h (.inr (.inr (.inr (.inr (.inr (.inr c))))))))))))
theorem Ow.tag (h:Ow b q l):b<=l.tag/\l.tag<=b+6:=by
 have key: ∀i,i<=6->l.tag=b+i->b<=l.tag/\l.tag<=b+6:=λi hi e=>by rw [e];exact⟨gZ _ _,Nat.add_le_add_left hi _⟩
 exact h.el (λc=>key 0 (by decide) (dY V.Loc.tag c)) (λc=>key 1 (by decide) (dY V.Loc.tag c)) (λc=>key 2 (by decide) (dY V.Loc.tag c)) (λc u=>key 3 (by decide) c) (λc u=>key 4 (by decide) c) (λc u=>key 5 (by decide) c) λc u=>key 6 (by decide) (dY V.Loc.tag c)
theorem AK (h:l.tag<b):bx b q Z l=Z l:=gD λo=>absurd h (Nat.not_lt_of_le o.tag.1)
theorem oG {x y:Str} (h:i≠j) (e:(⟨b+i,x⟩:V.Loc)=⟨b+j,y⟩) {Q:Prop}:Q:=absurd (Nat.add_left_cancel (dY V.Loc.tag e)) h
theorem r5 (h:x∉q.ks) (hi:i=3\/i=4\/i=5):bx b q Z ⟨b+i,x⟩=Z ⟨b+i,x⟩:=gD λo=>
 o.el (λc=>oG (j:=0) (by omega) c) (λc=>oG (by omega) c) (λc=>oG (by omega) c) (λu m=>h m) (λu m=>h m) (λu m=>h m) λc u=>oG (by omega) c
theorem CC (h:q.rd=none):bx b q Z ⟨b+6,e0⟩=Z ⟨b+6,e0⟩:=gD λo=>by
 have no: ∀{i} {Q:Prop},i≠6->b+6=b+i->Q:=λn e=>absurd (Nat.add_left_cancel e).symm n;exact o.el (λc=>oG (j:=0) (by decide) c) (λc=>oG (by decide) c) (λc=>oG (by decide) c) (λc u=>no (by decide) c) (λc u=>no (by decide) c) (λc u=>no (by decide) c) λu m=>by rw [h]at m;exact tK m
theorem Ow.is (h:Ow b q l):(bx b q Z l).isSome=true:=by
 have key: ∀{l':V.Loc} {o:V.AO},l=l'->bx b q Z l'=some o->(bx b q Z l).isSome=true:=λe h=>by rw [e,h];rfl
 have at': ∀{i},l.tag=b+i->l=⟨b+i,l.key⟩:=λe=>by rw [<-e]
 refine h.el (λc=>key c ew) (λc=>key c dN) (λc=>key c gW) (λc m=>key (at' c) (oz m)) (λc m=>key (at' c) (AA m)) (λc m=>key (at' c) (m5 m)) λc m=> ?_;refine cG (vB.mp m) λr e=>key c (mx e)
theorem Ow.mono (hk: ∀y∈q.ks,y∈q'.ks) (hr:q.rd.isSome=true->q'.rd.isSome=true) (h:Ow b q l):Ow b q' l:=
 h.el .inl (λc=> .inr (.inl c)) (λc=> .inr (.inr (.inl c))) (λc m=> .inr (.inr (.inr (.inl ⟨c,hk _ m⟩)))) (λc m=> .inr (.inr (.inr (.inr (.inl ⟨c,hk _ m⟩))))) (λc m=> .inr (.inr (.inr (.inr (.inr (.inl ⟨c,hk _ m⟩)))))) λc m=> .inr (.inr (.inr (.inr (.inr (.inr ⟨c,hr m⟩)))))
theorem EM {f:V.St} (h0:f ⟨b,e0⟩=some (.inst 304 ⟨b+1,e0⟩)) (h1:f ⟨b+1,e0⟩=some (.dict (sD b q))) (h2:f ⟨b+2,e0⟩=some (.dict (sN b q))) (h3: ∀y∈q.ks,f ⟨b+3,y⟩=some (.slots 207 ⟨b+4,y⟩ (sI b q y))) (h4: ∀y∈q.ks,f ⟨b+4,y⟩=some (.dict [])) (h5: ∀y∈q.ks,f ⟨b+5,y⟩=some (.list ((q.su y).map .str))) (h6: ∀r,q.rd=some r->f ⟨b+6,e0⟩=some (.list (r.map .str))) (h7: ∀l,¬Ow b q l->f l=Z l):f=bx b q Z:=by
 funext l;by_cases o:Ow b q l
 ·have key: ∀{l':V.Loc} {v:V.AO},l=l'->f l'=some v->bx b q Z l'=some v->f l=bx b q Z l:=λe a c=>by rw [e,a,c]
  have at': ∀{i},l.tag=b+i->l=⟨b+i,l.key⟩:=λe=>by rw [<-e]
  exact o.el (λc=>key c h0 ew) (λc=>key c h1 dN) (λc=>key c h2 gW) (λc m=>key (at' c) (h3 _ m) (oz m)) (λc m=>key (at' c) (h4 _ m) (AA m)) (λc m=>key (at' c) (h5 _ m) (m5 m)) λc m=>cG (vB.mp m) λr e=>key c (h6 r e) (mx e)
 ·rw [gD o];exact h7 l o
theorem nQ {L:V.Loc} {v:V.AO} (hL:bx b q' Z L=some v) (hO:Ow b q' L) (hk:q'.ks=q.ks) (hr:q.rd.isSome=q'.rd.isSome) (e1:⟨b+1,e0⟩≠L->sD b q=sD b q') (e3: ∀y,⟨b+3,y⟩≠L->q.np y=q'.np y) (e5: ∀y,⟨b+5,y⟩≠L->q.su y=q'.su y) (e6:⟨b+6,e0⟩≠L->q.rd=q'.rd):(bx b q Z).set L v=bx b q' Z:=by
 have go: ∀{l:V.Loc} {w:V.AO},bx b q' Z l=some w->(l≠L->bx b q Z l=some w)->((bx b q Z).set L v) l=some w:=λ{l w} a c=>by
  by_cases e:l=L
  ·rw [e,V.set_same,<-hL,<-e,a]
  ·rw [ao e,c e]
 have mk: ∀{y},y∈q'.ks->y∈q.ks:=λm=>by rw [<-hk];exact m
 refine EM (go ew λu=>ew) (go dN λn=> ?_) (go gW λu=> ?_) (λy m=>go (oz m) λn=> ?_) (λy m=>go (AA m) λu=>AA (mk m)) (λy m=>go (m5 m) λn=> ?_) (λr e=>go (mx e) λn=>mx ((e6 n).trans e)) λl o=> ?_
 ·rw [dN,e1 n]
 ·rw [gW];delta sN;rw [hk]
 ·rw [oz (mk m)];delta sI;rw [e3 y n]
 ·rw [m5 (mk m),e5 y n]
 ·rw [ao λe=>o (by rw [e];exact hO)];exact gD λw=>o (w.mono (λy m=>by rw [hk];exact m) λm=>by rw [<-hr];exact m)
theorem vh (h1:q'.ks=q.ks) (h2:q'.np=q.np) (h3:q'.su=q.su) (h4:q'.rd=q.rd) (he:es=sD b q'):(bx b q Z).set ⟨b+1,e0⟩ (.dict es)=bx b q' Z:=
 nQ (by rw [he];exact dN) (.inr (.inl rfl)) h1 (by rw [h4]) (λn=>absurd rfl n) (λy u=>by rw [h2]) (λy u=>by rw [h3]) λu=>h4.symm
theorem BM (hx:x∈q.ks) (h1:q'.ks=q.ks) (h2: ∀y,y≠x->q'.np y=q.np y) (h3:q'.su=q.su) (h4:q'.rd=q.rd) (h5:q'.po=q.po) (h6:q'.nf=q.nf) (he:vs=sI b q' x):(bx b q Z).set ⟨b+3,x⟩ (.slots 207 ⟨b+4,x⟩ vs)=bx b q' Z:=
 nQ (by rw [he];exact oz (by rw [h1];exact hx)) (.inr (.inr (.inr (.inl ⟨rfl,by rw [h1];exact hx⟩)))) h1 (by rw [h4]) (λu=>by delta sD;rw [h4,h5,h6]) (λy n=>(h2 y λz=>n (by rw [z])).symm) (λy u=>by rw [h3]) λu=>h4.symm
theorem Cj (hx:x∈q.ks) (h1:q'.ks=q.ks) (h2:q'.np=q.np) (h3: ∀y,y≠x->q'.su y=q.su y) (h4:q'.rd=q.rd) (h5:q'.po=q.po) (h6:q'.nf=q.nf) (he:vs=(q'.su x).map .str):(bx b q Z).set ⟨b+5,x⟩ (.list vs)=bx b q' Z:=
 nQ (by rw [he];exact m5 (by rw [h1];exact hx)) (.inr (.inr (.inr (.inr (.inr (.inl ⟨rfl,by rw [h1];exact hx⟩)))))) h1 (by rw [h4]) (λu=>by delta sD;rw [h4,h5,h6]) (λy u=>by rw [h2]) (λy n=>(h3 y λz=>n (by rw [z])).symm) λu=>h4.symm
theorem vN (h1:q'.ks=q.ks) (h2:q'.np=q.np) (h3:q'.su=q.su) (h4:q.rd.isSome=true) (h4':q'.rd=some r) (h5:q'.po=q.po) (h6:q'.nf=q.nf) (he:vs=r.map .str):(bx b q Z).set ⟨b+6,e0⟩ (.list vs)=bx b q' Z:=
 nQ (by rw [he];exact mx h4') (.inr (.inr (.inr (.inr (.inr (.inr ⟨rfl,by rw [h4'];rfl⟩)))))) h1 (by rw [h4,h4'];rfl) (λu=>by delta sD;rw [h4',h4,h5,h6];rfl) (λy u=>by rw [h2]) (λy u=>by rw [h3]) λn=>absurd rfl n
theorem ug (h:bx b q Z l=some o):Z l=some o/\ ¬Ow b q l\/o.In λl=>(bx b q Z l).isSome=true:=by
 by_cases z:Ow b q l
 ·right;have key: ∀{l':V.Loc} {o':V.AO},l=l'->bx b q Z l'=some o'->(o'.In λl=>(bx b q Z l).isSome=true)->o.In λl=>(bx b q Z l).isSome=true:=λe e2 w=>by rw [e,e2]at h;rw [<-dI h];exact w
  have at': ∀{i},l.tag=b+i->l=⟨b+i,l.key⟩:=λe=>by rw [<-e]
  refine z.el (λc=>key c ew (Ow.is (.inr (.inl rfl)))) (λc=>key c dN ?_) (λc=>key c gW ?_) (λc m=>key (at' c) (oz m) ⟨Ow.is (.inr (.inr (.inr (.inr (.inl ⟨rfl,m⟩))))),?_⟩) (λc m=>key (at' c) (AA m) λp hp=>je hp) (λc m=>key (at' c) (m5 m) (bo (λx=>cc) _)) λc m=> ?_
  ·intro p hp;rcases hp with _ | ⟨_,_ | ⟨_,_ | ⟨_,_ | ⟨_,hp⟩⟩⟩⟩
   ·exact Ow.is (.inr (.inr (.inl rfl)))
   ·refine(?_:V.AV.In _ (if q.rd.isSome then .loc ⟨b+6,e0⟩else .none));by_cases r:q.rd.isSome=true
    ·rw [aF r];exact Ow.is (.inr (.inr (.inr (.inr (.inr (.inr ⟨rfl,r⟩))))))
    ·rw [ay r];trivial
   ·trivial
   ·trivial
   ·exact je hp
  ·intro p hp;exact kK (bM.mp hp) λy hy=>Ow.is (.inr (.inr (.inr (.inl ⟨rfl,hy⟩))))
  ·intro v hv;rcases hv with _ | ⟨_,_ | ⟨_,_ | ⟨_,hv⟩⟩⟩
   ·trivial
   ·trivial
   ·exact Ow.is (.inr (.inr (.inr (.inr (.inr (.inl ⟨rfl,m⟩))))))
   ·exact je hv
  ·refine cG (vB.mp m) λr e=>key c (mx e) (bo (λx=>cc) _)
 ·left;exact⟨(gD z).symm.trans h,z⟩
theorem kh (hk: ∀y∈q.ks,y∈q'.ks) (hr:q.rd.isSome=true->q'.rd.isSome=true):
  (∀l,(bx b q Z l).isSome=true->(bx b q' Z l).isSome=true)/\(∀l o,bx b q' Z l=some o->bx b q Z l=some o\/o.In λl=>(bx b q' Z l).isSome=true):=by
 refine⟨λl h=> ?_,λl o h=> ?_⟩
 ·by_cases z:Ow b q' l
  ·exact z.is
  ·rw [gD z];rw [gD λw=>z (w.mono hk hr)]at h;exact h
 ·refine aP (ug h) (λz=> .inl ?_) .inr;rw [gD λw=>z.2 (w.mono hk hr)];exact z.1
end L1
end
section
namespace L1
open Builtin Builtin.Str
open V (AV AO)
noncomputable def Gm (Z aB:V.St):Prop:= ∀l,(Z l).isSome=true->(aB l).isSome=true
noncomputable def Gr (D:V.Loc->Prop) (Z aB:V.St):Prop:= ∀l o,aB l=some o->Z l=some o\/o.In D
theorem Gm.refl:Gm Z Z:=λu h=>h
theorem Gr.refl {D:V.Loc->Prop}:Gr D Z Z:=λu v h=> .inl h
theorem Gm.set (g:Gm Z aB):Gm Z (aB.set l o):=λx h=>by
 delta V.St.set;split
 ·rfl
 ·exact g x h
theorem Gr.set {D:V.Loc->Prop} (g:Gr D Z aB) (h:o.In D):Gr D Z (aB.set l o):=λx o' e=>by
 delta V.St.set at e;split at e
 ·obtain rfl:=dI e;exact .inr h
 ·exact g x o' e
theorem l9 (h1:V.Go C k sc ms Z body .next aB) (a:Gm pC aB) (b:Gr (λl=>(aB l).isSome=true) pC aB): ∃f aK cP,V.Ex C k sc ms Z body f aK cP/\V.Exit pC cP f .none aB:=
 gQ h1 ⟨λu v h=>h,a,b,.inr (.inr ⟨rfl,rfl⟩)⟩
theorem zR (h1:V.Go C k sc ms Z body (.ret v) aB) (a:Gm pC aB) (b:Gr (λl=>(aB l).isSome=true) pC aB) (c:v.In λl=>(aB l).isSome=true): ∃f aK cP,V.Ex C k sc ms Z body f aK cP/\V.Exit pC cP f v aB:=
 gQ h1 ⟨λu w h=>h,a,b,.inl ⟨rfl,c⟩⟩
noncomputable def upd {α:Type} (f:Str->α) (x:Str) (v:α):Str->α:=λy=>if y=x then v else f y
theorem gY {α:Type} {f:Str->α} {x:Str} {v:α}:upd f x v x=v:=by delta upd;rw [aF rfl]
theorem fG {α:Type} {f:Str->α} {x y:Str} {v:α} (h:y≠x):upd f x v y=f y:=by delta upd;rw [ay h]
theorem MT {C:V.Cx} (h:Is C) {k:Nat} {Z:V.St} {l d ll:V.Loc} {x:Str} (hl:Z l=none) (hd:Z d=none) (hll:Z ll=none) (h1:l≠d) (h2:l≠ll) (h3:d≠ll):
  V.Cd C (k+1) ((Z.set d (.dict [])).set l (.inst 207 d)) (.ext 203) [.loc l,.str x] [] .none (((Z.set d (.dict [])).set ll (.list [])).set l (.slots 207 d [some (.str x),some (.int 0),some (.loc ll)])):=by
 have hx0:=h.hx;refine eB h.ok ⟨⟨_,_,_,by rw [h.K];exact rfl⟩,rfl,rfl,rfl,rfl,by rw [h.K];rfl,rfl,rfl,by decide+kernel⟩ [lo "self",lo "node"] rfl [("self",.loc l),("node",.str x)] _
  (bR (Aq λa0 a1=>rfl) rfl) rfl rfl λsc hF n hn=> ?_
 refine nM hF λn0 n1 _=>?_;clear hF;have e1:(((((Z.set d (.dict [])).set l (.inst 207 d)).set l (.slots 207 d (gG [] 0 (.str x)))).set l (.slots 207 d (gG (gG [] 0 (.str x)) 1 (.int 0)))).set ll (.list [])).set l (.slots 207 d (gG (gG (gG [] 0 (.str x)) 1 (.int 0)) 2 (.loc ll)))=(((Z.set d (.dict [])).set ll (.list [])).set l (.slots 207 d [some (.str x),some (.int 0),some (.loc ll)])):=by
  funext y;by_cases y1:y=l
  ·subst y1;rw [V.set_same,V.set_same];rfl
  ·rw [ao y1,ao y1];delta V.St.set;simp only [y1,jh]
 have hI:AH ((Z.set d (.dict [])).set l (.inst 207 d)) l 207 d []:= .inl ⟨V.set_same,rfl⟩;have Nx:((((Z.set d (.dict [])).set l (.inst 207 d)).set l (.slots 207 d (gG [] 0 (.str x)))).set l (.slots 207 d (gG (gG [] 0 (.str x)) 1 (.int 0)))) ll=none:=by rw [ao h2.symm,ao h2.symm,ao h2.symm,ao h3.symm];exact hll
 refine l9 (aB:=(((Z.set d (.dict [])).set ll (.list [])).set l (.slots 207 d [some (.str x),some (.int 0),some (.loc ll)]))) ?_ ?_ ?_
 ·rw [<-e1];refine aE (au (aa n1 rfl) (eI (aa n0 rfl) (Fc h hI))) ?_;refine aE (au aC (eI (aa n0 rfl) (xR h (.inr V.set_same)))) ?_;refine aE (au (dU ll ak (dW _) Nx) (eI (aa n0 rfl) (EU h (.inr (by rw [ao h2,V.set_same]))))) ?_;exact j0
 ·rw [<-e1];exact .set (.set (.set (.set .refl)))
 ·rw [<-e1];have hd':((((((Z.set d (.dict [])).set l (.inst 207 d)).set l (.slots 207 d (gG [] 0 (.str x)))).set l (.slots 207 d (gG (gG [] 0 (.str x)) 1 (.int 0)))).set ll (.list [])).set l (.slots 207 d (gG (gG (gG [] 0 (.str x)) 1 (.int 0)) 2 (.loc ll))) d).isSome=true:=by rw [ao h1.symm,ao h3,ao h1.symm,ao h1.symm,ao h1.symm,V.set_same];rfl
  refine .set (.set (.set (.set .refl ⟨hd',?_⟩) ⟨hd',?_⟩) ?_) ⟨hd',?_⟩
  ·intro z hz;simp [gG]at hz;subst hz;exact True.intro
  ·intro z hz;simp [gG]at hz;rcases hz with rfl | rfl<;>exact True.intro
  ·exact True.intro
  ·intro z hz;simp [gG]at hz;rcases hz with rfl | rfl | rfl
   ·exact True.intro
   ·exact True.intro
   ·refine(?_:Option.isSome _=true);rw [ao h2.symm,V.set_same];rfl
noncomputable def q0:SS:=⟨[],λ_=>0,λ_=> [],none,0,0⟩
theorem qF:((((((Z.set ⟨b+1,e0⟩ (.dict [])).set ⟨b,e0⟩ (.inst 304 ⟨b+1,e0⟩)).set ⟨b+2,e0⟩ (.dict [])).set ⟨b+1,e0⟩ (.dict [("_node2info",.loc ⟨b+2,e0⟩)])).set ⟨b+1,e0⟩ (.dict [("_node2info",.loc ⟨b+2,e0⟩),("_ready_nodes",.none)])).set ⟨b+1,e0⟩ (.dict [("_node2info",.loc ⟨b+2,e0⟩),("_ready_nodes",.none),("_npassedout",.int 0)])).set ⟨b+1,e0⟩ (.dict [("_node2info",.loc ⟨b+2,e0⟩),("_ready_nodes",.none),("_npassedout",.int 0),("_nfinished",.int 0)])=bx b q0 Z:=by
 funext l;delta bx V.St.set;by_cases h0:l=⟨b,e0⟩
 ·subst h0;simp
 by_cases h1:l=⟨b+1,e0⟩
 ·subst h1;simp;rfl
 by_cases h2:l=⟨b+2,e0⟩
 ·subst h2;simp;rfl
 simp [h0,h1,h2,q0]
theorem M3 (h:Is C) (h2:Z ⟨b+2,e0⟩=none):
  V.Cd C (k+1) ((Z.set ⟨b+1,e0⟩ (.dict [])).set ⟨b,e0⟩ (.inst 304 ⟨b+1,e0⟩)) (.ext 240) [.loc ⟨b,e0⟩] [] .none (bx b q0 Z):=by
 have hx0:=h.hx;refine eB h.ok ⟨⟨_,_,_,by rw [h.K];exact rfl⟩,rfl,rfl,rfl,rfl,by rw [h.K];rfl,rfl,rfl,by decide+kernel⟩ [lo "self",lo "graph",lo "node",lo "predecessors"] rfl [("self",.loc ⟨b,e0⟩),("graph",.none)] _
  (rY h.ok (da:=233) (as:= [.loc ⟨b,e0⟩]) (Mw:= [.none]) (dv:= [.none]) (by rw [h.K];exact rfl) (gx λa0=>⟨_,by exact rfl,by exact rfl⟩) rfl (λW=> .cons c5 .nil)) rfl rfl λsc hF n hn=> ?_
 refine ve hF λn0 n1 n2 n3 _=>?_;clear hF;have m1:(⟨b,e0⟩:V.Loc)≠⟨b+1,e0⟩:=by exact L1.ku rfl
 have m2:(⟨b,e0⟩:V.Loc)≠⟨b+2,e0⟩:=by exact L1.ku rfl
 have m3:(⟨b+1,e0⟩:V.Loc)≠⟨b+2,e0⟩:=by exact L1.ib rfl
 refine l9 (aB:=bx b q0 Z) ?_ ?_ ?_
 ·rw [<-qF];refine aE (au (vS ⟨b+2,e0⟩ (by rw [ao m2.symm,ao m3.symm];exact h2)) (eI (aa n0 rfl) (u3 h (d:=⟨b+1,e0⟩) (by rw [ao m2,V.set_same]) (by rw [ao m3,ao m1.symm,V.set_same])))) ?_;refine aE (au bV (eI (aa n0 rfl) (pU h (d:=⟨b+1,e0⟩) (by rw [ao m1,ao m2,V.set_same]) V.set_same))) ?_;refine aE (au aC (eI (aa n0 rfl) (s9 h (d:=⟨b+1,e0⟩) (by rw [ao m1,ao m1,ao m2,V.set_same]) V.set_same))) ?_;refine aE (au aC (eI (aa n0 rfl) (t6 h (d:=⟨b+1,e0⟩) (by rw [ao m1,ao m1,ao m1,ao m2,V.set_same]) V.set_same))) ?_;refine cw (aq (c:=false) (aa n1 rfl) bV (cV fK) rfl) ?_;exact j0
 ·rw [<-qF];exact .set (.set (.set (.set (.set .refl))))
 ·intro l o hl;by_cases h0:l=⟨b,e0⟩
  ·subst h0;rw [ew]at hl;obtain rfl:=dI hl;right;refine(?_:(bx b q0 Z ⟨b+1,e0⟩).isSome=true);rw [dN];rfl
  ·by_cases h1:l=⟨b+1,e0⟩
   ·subst h1;rw [dN]at hl;obtain rfl:=dI hl;right;intro p hp;rcases hp with _ | ⟨_,_ | ⟨_,_ | ⟨_,_ | ⟨_,hp⟩⟩⟩⟩
    ·refine(?_:(bx b q0 Z ⟨b+2,e0⟩).isSome=true);rw [gW];rfl
    ·exact True.intro
    ·exact True.intro
    ·exact True.intro
    ·exact je hp
   ·by_cases Gk:l=⟨b+2,e0⟩
    ·subst Gk;rw [gW]at hl;obtain rfl:=dI hl;right;intro p hp;exact je hp
    ·left;rw [ao h0,ao h1];delta bx at hl;simpa [h0,h1,Gk,q0]using hl
noncomputable def SS.ins (q:SS) (x:Str):SS:=if x∈q.ks then q else{q with ks:=q.ks++ [x],np:=upd q.np x 0,su:=upd q.su x []}
theorem nI (h:x∈q.ks):gO (sN b q) x=some (.loc ⟨b+3,x⟩):=by
 delta gO sN;rw [List.find?_map];have:(List.find? ((λe:Str×AV=>decide (e.1=x)) ∘ λx=>(x,AV.loc ⟨b+3,x⟩)) q.ks)=some x:=by
  have e:((λe:Str×AV=>decide (e.1=x)) ∘ λx=>(x,AV.loc ⟨b+3,x⟩))=λy=>decide (y=x):=rfl;rw [e];generalize q.ks=l at h⊢
  induction l with
  | nil=>exact je h
  | cons y l ih=>
   by_cases hy:y=x
   ·subst hy;rw [List.find?_cons_of_pos (by simp)]
   ·rw [List.find?_cons_of_neg (by simpa using hy)];exact ih (by refine aP (cM.mp h) (λz=>?_) λz=>?_;exact absurd z.symm hy;exact z)
 rw [this];rfl
theorem Dn (h:x∉q.ks):gO (sN b q) x=none:=by
 delta gO sN;rw [List.find?_map];have:(List.find? ((λe:Str×AV=>decide (e.1=x)) ∘ λx=>(x,AV.loc ⟨b+3,x⟩)) q.ks)=none:=by rw [List.find?_eq_none];intro y hy e;simp at e;subst e;exact h hy
 rw [this];rfl
theorem kI (h:q.ks.Nodup):V.DN (sN b q):=by delta V.DN sN;rw [dP];have:((λx:Str×AV=>x.1) ∘ λx=>(x,AV.loc ⟨b+3,x⟩))=_root_.id:=rfl;rw [this,wb];exact h
theorem EF (h:x∉q.ks):V.dput (sN b q) x (.loc ⟨b+3,x⟩)=sN b (q.ins x):=by
 delta V.dput;rw [ay]
 ·delta sN SS.ins;rw [ay h,e9];rfl
 ·delta sN;simp only [List.any_map,zQ,not_exists,not_and];intro y hy e;simp at e;subst e;exact h hy
theorem Fi (h:x∉q.ks):((((bx b q Z).set ⟨b+4,x⟩ (.dict [])).set ⟨b+5,x⟩ (.list [])).set ⟨b+3,x⟩ (.slots 207 ⟨b+4,x⟩ [some (.str x),some (.int 0),some (.loc ⟨b+5,x⟩)])).set ⟨b+2,e0⟩ (.dict (V.dput (sN b q) x (.loc ⟨b+3,x⟩)))=bx b (q.ins x) Z:=by
 rw [EF h];funext l;by_cases h0:l=⟨b,e0⟩
 ·subst h0;rw [ao (by exact L1.ku rfl),ao (by exact L1.ku rfl),ao (by exact L1.ku rfl),ao (by exact L1.ku rfl),ew,ew]
 by_cases h1:l=⟨b+1,e0⟩
 ·subst h1;rw [ao (by exact L1.ib rfl),ao (by exact L1.ib rfl),ao (by exact L1.ib rfl),ao (by exact L1.ib rfl),dN,dN];delta sD SS.ins;rw [ay h]
 by_cases h2:l=⟨b+2,e0⟩
 ·subst h2;rw [V.set_same,gW]
 rw [ao h2];by_cases h3:l=⟨b+3,x⟩
 ·subst h3;rw [V.set_same,oz (by delta SS.ins;rw [ay h];simp)];delta sI SS.ins;rw [ay h];simp [gY]
 rw [ao h3];by_cases h5:l=⟨b+5,x⟩
 ·subst h5;rw [V.set_same,m5 (by delta SS.ins;rw [ay h];simp)];delta SS.ins;rw [ay h];simp [gY]
 rw [ao h5];by_cases h4:l=⟨b+4,x⟩
 ·subst h4;rw [V.set_same,AA (by delta SS.ins;rw [ay h];simp)]
 rw [ao h4];have e: ∀i,(∀y,y=(⟨b+i,x⟩:V.Loc)->l≠y)->(l.tag=b+i/\l.key∈q.ks++ [x])=(l.tag=b+i/\l.key∈q.ks):=by
  intro i hi;apply propext;constructor
  ·intro ⟨a,c⟩;refine⟨a,?_⟩;refine aP (cu.mp c) (λz=>?_) λz=>?_
   ·exact z
   ·refine absurd ?_ (hi _ rfl);cases l;simp at a z;rw [a,z]
  ·intro ⟨a,c⟩;exact⟨a,cu.mpr (.inl c)⟩
 delta bx SS.ins;rw [ay h];simp only [h0,h1,h2,jh];have e3:=e 3 (λy hy=>by rw [hy];exact h3);have e4:=e 4 (λy hy=>by rw [hy];exact h4);have e5:=e 5 (λy hy=>by rw [hy];exact h5);simp only [e3,e4,e5];by_cases k3:l.tag=b+3/\l.key∈q.ks
 ·rw [aF k3,aF k3];have:l.key≠x:=λz=>h (by rw [<-z];exact k3.2);delta sI;dsimp only;rw [fG this]
 rw [ay k3,ay k3];by_cases k4:l.tag=b+4/\l.key∈q.ks
 ·rw [aF k4,aF k4]
 rw [ay k4,ay k4];by_cases k5:l.tag=b+5/\l.key∈q.ks
 ·rw [aF k5,aF k5];have:l.key≠x:=λz=>h (by rw [<-z];exact k5.2);rw [fG this]
 rw [ay k5,ay k5]
noncomputable def Cl (b:Nat) (Z:V.St):Prop:= ∀l:V.Loc,b<=l.tag->Z l=none
theorem xw {q:SS} {x y:Str} (h:y∈q.ks):y∈(q.ins x).ks:=by
 delta SS.ins;split
 ·exact h
 ·exact cu.mpr (.inl h)
theorem iX {q:SS} {x:Str}:x∈(q.ins x).ks:=by
 delta SS.ins;split
 ·assumption
 ·exact cu.mpr (.inr (.head _))
theorem Dr {q:SS} {x:Str}:(q.ins x).rd=q.rd:=by
 delta SS.ins;split<;>rfl
theorem j6 {q:SS} {x:Str} (h:q.ks.Nodup):(q.ins x).ks.Nodup:=by
 delta SS.ins;split
 ·exact h
 ·rename_i hx;rw [t9];refine m9 h (by simp) ?_;intro a ha c hc;simp at hc;subst hc;intro e;subst e;exact hx ha
theorem gP: ∀id,AV.loc l≠ .bi id:=λu e=>by cases e
theorem g9:AV.loc l≠ .any:=λe=>by cases e
theorem pf: ∀id,AV.int i≠ .bi id:=λu e=>by cases e
theorem nX:AV.int i≠ .any:=λe=>by cases e
theorem Cp: ∀id,AV.str i≠ .bi id:=λu e=>by cases e
theorem A2:AV.str i≠ .any:=λe=>by cases e
theorem F6: ∀id,AV.none≠ .bi id:=λu e=>by cases e
theorem Ff:AV.none≠ .any:=λe=>by cases e
theorem r3 (hk: ∀y∈q.ks,y∈q'.ks) (hr:q.rd.isSome=true->q'.rd.isSome=true) (h1:V.Go C k sc ms (bx b q Z) body .next (bx b q' Z)): ∃f aK cP,V.Ex C k sc ms (bx b q Z) body f aK cP/\V.Exit (bx b q Z) cP f .none (bx b q' Z):=
 l9 h1 (kh hk hr).1 (kh hk hr).2
theorem lW (hk: ∀y∈q.ks,y∈q'.ks) (hr:q.rd.isSome=true->q'.rd.isSome=true) (h1:V.Go C k sc ms (bx b q Z) body (.ret v) (bx b q' Z)) (c:v.In λl=>(bx b q' Z l).isSome=true): ∃f aK cP,V.Ex C k sc ms (bx b q Z) body f aK cP/\V.Exit (bx b q Z) cP f v (bx b q' Z):=
 zR h1 (kh hk hr).1 (kh hk hr).2 c
theorem GO {C:V.Cx} (h:Is C) {k:Nat} {Z:V.St} {b:Nat} {q:SS} {x:Str} (hb:Cl b Z) (hq:q.ks.Nodup) (hz:q.ks.length<=1000):
  V.Cd C (k+3) (bx b q Z) (.ext 247) [.loc ⟨b,e0⟩,.str x] [] (.loc ⟨b+3,x⟩) (bx b (q.ins x) Z):=by
 have hx0:=h.hx;refine eB h.ok ⟨⟨_,_,_,by rw [h.K];exact rfl⟩,rfl,rfl,rfl,rfl,by rw [h.K];rfl,rfl,rfl,by decide+kernel⟩ [lo "self",lo "node",lo "result",gi "_NodeInfo"] rfl [("self",.loc ⟨b,e0⟩),("node",.str x)] _
  (bR (Aq λa0 a1=>rfl) rfl) rfl rfl λsc hF n hn=> ?_
 refine ve hF λn0 n1 n2 n3 _=>?_;clear hF;have hv:(AV.loc ⟨b+3,x⟩).In λl=>(bx b (q.ins x) Z l).isSome=true:=by refine(?_:Option.isSome _=true);rw [oz iX];rfl
 refine lW (λy hy=>xw hy) (λz=>by rw [Dr];exact z) ?_ hv;by_cases hx:x∈q.ks
 ·have e:q.ins x=q:=by delta SS.ins;rw [aF hx]
  rw [e];refine cw (aq (c:=false) (pA (aL (bE (aa n0 rfl) (eV h ew dN gP g9)) (wu (.inl gW)) (af (aa n1 rfl) ak) bp (xp (.inl gW) (kI hq) (by rw [nI hx];rfl))) (ag n2 rfl)) bV (gA (b:=false) mn) rfl) ?_;exact bP (aa n2 rfl)
 ·rw [<-Fi hx];refine fD (aq (c:=true) (pA (aL (bE (aa n0 rfl) (eV h ew dN gP g9)) (wu (.inl gW)) (af (aa n1 rfl) ak) bp (xp (.inl gW) (kI hq) (by rw [Dn hx];rfl))) (ag n2 rfl)) bV (gA (b:=true) fK) rfl) ?_;have k3:(bx b q Z) ⟨b+3,x⟩=none:=(r5 hx (.inl rfl)).trans (hb _ (by exact gZ _ _));have k4:(bx b q Z) ⟨b+4,x⟩=none:=(r5 hx (.inr (.inl rfl))).trans (hb _ (by exact gZ _ _));have k5:(bx b q Z) ⟨b+5,x⟩=none:=(r5 hx (.inr (.inr rfl))).trans (hb _ (by exact gZ _ _));have mk:=rB h.ok (c:=207) (fi:=203) (kw:= []) (by rw [h.K];kernel_rfl) (by rw [h.K];kernel_rfl) (by rw [h.K];kernel_rfl) k3 k4 (by exact L1.ib rfl) (MT h (k:=k) (x:=x) k3 k4 k5 (by exact L1.ib rfl) (by exact L1.ib rfl) (by exact L1.ib rfl));have g0:((((bx b q Z).set ⟨b+4,x⟩ (.dict [])).set ⟨b+5,x⟩ (.list [])).set ⟨b+3,x⟩ (.slots 207 ⟨b+4,x⟩ [some (.str x),some (.int 0),some (.loc ⟨b+5,x⟩)])) ⟨b,e0⟩=some (.inst 304 ⟨b+1,e0⟩):=by rw [ao (by exact L1.ku rfl),ao (by exact L1.ku rfl),ao (by exact L1.ku rfl),ew]
  have g1:((((bx b q Z).set ⟨b+4,x⟩ (.dict [])).set ⟨b+5,x⟩ (.list [])).set ⟨b+3,x⟩ (.slots 207 ⟨b+4,x⟩ [some (.str x),some (.int 0),some (.loc ⟨b+5,x⟩)])) ⟨b+1,e0⟩=some (.dict (sD b q)):=by rw [ao (by exact L1.ib rfl),ao (by exact L1.ib rfl),ao (by exact L1.ib rfl),dN]
  have g2:((((bx b q Z).set ⟨b+4,x⟩ (.dict [])).set ⟨b+5,x⟩ (.list [])).set ⟨b+3,x⟩ (.slots 207 ⟨b+4,x⟩ [some (.str x),some (.int 0),some (.loc ⟨b+5,x⟩)])) ⟨b+2,e0⟩=some (.dict (sN b q)):=by rw [ao (by exact L1.ib rfl),ao (by exact L1.ib rfl),ao (by exact L1.ib rfl),gW]
  refine aE (wA (aD (ar h.ok n3 (vf h)) (af (aa n1 rfl) ak) (KX h rfl) mk) (tq (bE (aa n0 rfl) (eV h g0 g1 gP g9)) (aa n1 rfl) (D1 (.inl g2) (kI hq) (aV (n:=(sN b q).length) (m:=1000) (by delta sN;rw [bw];exact hz) (by decide)))) (ag n2 rfl) (λu=>rfl) (λu=>rfl) (λu=>rfl)) ?_;exact bP (aa n2 rfl)
noncomputable def SS.cf (q:SS) (x:Str) (v:Int):SS:={q with np:=upd q.np x v}
noncomputable def SS.yz (q:SS) (x p:Str):SS:={q with su:=upd q.su x (q.su x++ [p])}
noncomputable def SS.rh (q:SS) (x:Str):SS:={q with rd:=q.rd.map (· ++ [x])}
section
variable {C:V.Cx} {k:Nat} {Z:V.St} {b:Nat} {q:SS} {x p:Str}
theorem wQ (h:Is C):ie C k (bx b q Z) (λx=>getAttr x "_node2info" true) (.loc ⟨b,e0⟩) (λW r=>aw W (.loc ⟨b+2,e0⟩) r) (bx b q Z):=eV h ew dN gP g9
theorem J6 (hr:q.rd=none):bx b q Z ⟨b+1,e0⟩=some (.dict [("_node2info",.loc ⟨b+2,e0⟩),("_ready_nodes",.none),("_npassedout",.int q.po),("_nfinished",.int q.nf)]):=by rw [dN];delta sD;rw [hr];rfl
theorem KU (hr:q.rd=some r):bx b q Z ⟨b+1,e0⟩=some (.dict [("_node2info",.loc ⟨b+2,e0⟩),("_ready_nodes",.loc ⟨b+6,e0⟩),("_npassedout",.int q.po),("_nfinished",.int q.nf)]):=by rw [dN];delta sD;rw [hr];rfl
theorem xf (h:Is C) (hr:q.rd=none):ie C k (bx b q Z) (λx=>getAttr x "_ready_nodes" true) (.loc ⟨b,e0⟩) (λW r=>aw W .none r) (bx b q Z):=kH h ew (J6 hr) F6 Ff
theorem oZ (h:Is C) (hr:q.rd=some r):ie C k (bx b q Z) (λx=>getAttr x "_ready_nodes" true) (.loc ⟨b,e0⟩) (λW r=>aw W (.loc ⟨b+6,e0⟩) r) (bx b q Z):=kH h ew (KU hr) gP g9
theorem Bb (h:Is C):ie C k (bx b q Z) (λx=>getAttr x "_npassedout" true) (.loc ⟨b,e0⟩) (λW r=>aw W (.int q.po) r) (bx b q Z):=sG h ew dN pf nX
theorem Bp (h:Is C):ie C k (bx b q Z) (λx=>getAttr x "_nfinished" true) (.loc ⟨b,e0⟩) (λW r=>aw W (.int q.nf) r) (bx b q Z):=tR h ew dN pf nX
theorem Ll (h:Is C):di C k (bx b q Z) (λx y=>setAttr x "_npassedout" y) (.loc ⟨b,e0⟩) (.int v) (λu w=>True) (bx b {q with po:=v} Z):=by have z:=sC h (k:=k) (v:= .int v) (ew (b:=b) (q:=q) (Z:=Z)) dN;rw [<-vh (b:=b) (q:=q) (Z:=Z) (q':={q with po:=v}) rfl rfl rfl rfl rfl];exact z
theorem Li (h:Is C):di C k (bx b q Z) (λx y=>setAttr x "_nfinished" y) (.loc ⟨b,e0⟩) (.int v) (λu w=>True) (bx b {q with nf:=v} Z):=by have z:=tV h (k:=k) (v:= .int v) (ew (b:=b) (q:=q) (Z:=Z)) dN;rw [<-vh (b:=b) (q:=q) (Z:=Z) (q':={q with nf:=v}) rfl rfl rfl rfl rfl];exact z
theorem isI (hx:x∈q.ks):AH (bx b q Z) ⟨b+3,x⟩ 207 ⟨b+4,x⟩ (sI b q x):= .inr (oz hx)
theorem tW (h:Is C) (hx:x∈q.ks):ie C k (bx b q Z) (λx=>getAttr x "npredecessors" true) (.loc ⟨b+3,x⟩) (λW r=>aw W (.int (q.np x)) r) (bx b q Z):=sM h (isI hx) rfl pf nX
theorem ld_su (h:Is C) (hx:x∈q.ks):ie C k (bx b q Z) (λx=>getAttr x "successors" true) (.loc ⟨b+3,x⟩) (λW r=>aw W (.loc ⟨b+5,x⟩) r) (bx b q Z):=ym h (isI hx) rfl gP g9
theorem yk (h:Is C) (hx:x∈q.ks):di C k (bx b q Z) (λx y=>setAttr x "npredecessors" y) (.loc ⟨b+3,x⟩) (.int v) (λu w=>True) (bx b (q.cf x v) Z):=by have z:=xR h (k:=k) (v:= .int v) (isI (b:=b) (q:=q) (Z:=Z) hx);rw [<-BM (b:=b) (q:=q) (Z:=Z) (q':=q.cf x v) (vs:=gG (sI b q x) 1 (.int v)) hx rfl (λy hy=>fG hy) rfl rfl rfl rfl (by delta sI SS.cf;dsimp only;rw [gY];rfl)];exact z
theorem MM (hx:x∈q.ks):V.Mt C k (bx b q Z) (.loc ⟨b+5,x⟩) "append" (.bi "list.append"):=eu (m5 hx)
theorem LL (hx:x∈q.ks) (hz:(q.su x).length<=1000):V.Ca C k (bx b q Z) (.bi "list.append") [.loc ⟨b+5,x⟩,.str p] [] .none (bx b (q.yz x p) Z):=by have z:=dJ (C:=C) (k:=k) (x:= .str p) (m5 (b:=b) (q:=q) (Z:=Z) hx) (aV (m:=1000) (by rw [bw];exact hz) (by decide));rw [<-Cj (b:=b) (q:=q) (Z:=Z) (q':=q.yz x p) (vs:=(q.su x).map .str++ [.str p]) hx rfl rfl (λy hy=>fG hy) rfl rfl rfl (by delta SS.yz;dsimp only;rw [gY,e9];rfl)];exact z
theorem MV (hr:q.rd=some r):V.Mt C k (bx b q Z) (.loc ⟨b+6,e0⟩) "append" (.bi "list.append"):=eu (mx hr)
theorem Ln (hr:q.rd=some r) (hz:r.length<=1000):V.Ca C k (bx b q Z) (.bi "list.append") [.loc ⟨b+6,e0⟩,.str x] [] .none (bx b (q.rh x) Z):=by have z:=dJ (C:=C) (k:=k) (x:= .str x) (mx (b:=b) (q:=q) (Z:=Z) hr) (aV (m:=1000) (by rw [bw];exact hz) (by decide));rw [<-vN (b:=b) (q:=q) (Z:=Z) (q':=q.rh x) (r:=r++ [x]) (vs:=r.map .str++ [.str x]) rfl rfl rfl (by rw [hr];rfl) (by delta SS.rh;rw [hr];rfl) rfl rfl (by rw [e9];rfl)];exact z
theorem LH (hr:q.rd=some r):V.Mt C k (bx b q Z) (.loc ⟨b+6,e0⟩) "clear" (.bi "list.clear"):=EB (mx hr)
theorem Kv (hr:q.rd=some r) (hz:r.length<=1000):V.Ca C k (bx b q Z) (.bi "list.clear") [.loc ⟨b+6,e0⟩] [] .none (bx b {q with rd:=some []} Z):=by have z:=Fe (C:=C) (k:=k) (mx (b:=b) (q:=q) (Z:=Z) hr) (aV (m:=1000) (by rw [bw];exact hz) (by decide));rw [<-vN (b:=b) (q:=q) (Z:=Z) (q':={q with rd:=some []}) (r:= []) (vs:= []) rfl rfl rfl (by rw [hr];rfl) rfl rfl rfl rfl];exact z
theorem DI (hq:q.ks.Nodup) (hx:x∈q.ks):di C k (bx b q Z) getItem (.loc ⟨b+2,e0⟩) (.str x) (λW r=>aw W (.loc ⟨b+3,x⟩) r) (bx b q Z):=D0 (.inl gW) (kI hq) (nI hx)
theorem Dt:V.Bg C (bx b q Z) (.loc ⟨b+2,e0⟩):=sU (.inl gW)
end
noncomputable def SS.uK (q:SS) (p:Str) (n:Nat):SS:=(q.ins p).cf p ((q.ins p).np p+n)
noncomputable def SS.il (p:Str) (q:SS) (g:Str):SS:=(q.ins g).yz g p
noncomputable def SS.add (q:SS) (p:Str) (gs:List Str):SS:=gs.foldl (SS.il p) (q.uK p gs.length)
theorem rV {q:SS} {y:Str} {n:Nat} (hs: ∀x,(q.su x).length<=n) (x:Str):((q.ins y).su x).length<=n:=by
 delta SS.ins;split
 ·exact hs x
 ·simp only [upd];split
  ·exact dW _
  ·exact hs x
theorem nP {q:SS} {y:Str}:(q.ins y).ks.length<=q.ks.length+1:=by
 delta SS.ins;split
 ·omega
 ·simp
theorem vV {q:SS} {p g:Str} {n:Nat} (hs: ∀x,(q.su x).length<=n) (x:Str):((SS.il p q g).su x).length<=n+1:=by
 refine(?_:(upd (q.ins g).su g ((q.ins g).su g++ [p]) x).length<=_);have:=rV (y:=g) hs;delta upd;split
 ·rw [cS];have:=this g;simp only [cq,ip];omega
 ·exact Nat.le_succ_of_le (this x)
theorem E2: ∀{gs:List Str} {q:SS} {y:Str},y∈q.ks->y∈(gs.foldl (SS.il p) q).ks:=by
 intro aH;induction aH with
 | nil=>intro u v h;exact h
 | cons g gs ih=>intro q y h;exact ih (q:=SS.il p q g) (xw (x:=g) h)
theorem Kq {C:V.Cx} (h:Is C) {k:Nat} {Z:V.St} {b:Nat} {q:SS} {p:Str} {gs:List Str} (hb:Cl b Z) (hq:q.ks.Nodup) (hz:q.ks.length+gs.length<=900) (hr:q.rd=none) (hs: ∀x,(q.su x).length+gs.length<=1000):
  V.Cd C (k+4) (bx b q Z) (.ext 254) (.loc ⟨b,e0⟩:: .str p::gs.map .str) [] .none (bx b (q.add p gs) Z):=by
 have hx0:=h.hx;refine eB h.ok ⟨⟨_,_,_,by rw [h.K];exact rfl⟩,rfl,rfl,rfl,rfl,by rw [h.K];rfl,rfl,rfl,by decide+kernel⟩ [lo "self",lo "node",lo "predecessors",lo "nodeinfo",lo "pred",lo "pred_info",gi "ValueError",gi "len"] rfl ([(Str.ofString "self",.loc ⟨b,e0⟩),(Str.ofString "node",.str p)]++ [(Str.ofString "predecessors",.tup (gs.map .str))]) _
  (sO (as:= [.loc ⟨b,e0⟩,.str p]) (rest:=gs.map .str) (Aq λx y rr u=>by cases rr<;>rfl) rfl (aV (m:=1000) (by rw [bw];omega) (by decide))) rfl rfl λsc hF n hn=> ?_
 refine tJ hF λn0 n1 n2 n3 n4 n5 n6 n7 _=>?_;clear hF;have G8:(q.ins p).ks.Nodup:=j6 hq;have z1:(q.ins p).ks.length<=q.ks.length+1:=nP;have r1:(q.uK p gs.length).rd=none:=Dr.trans hr;refine r3 (λy hy=>E2 (q:=q.uK p gs.length) (xw hy)) (λz=>by rw [hr]at z;exact tK z) ?_;refine cw (aq (c:=false) (bE (aa n0 rfl) (xf h hr)) bV (cV fK) rfl) ?_;refine aE (au (aL (aa n0 rfl) (jF h ew dN) (af (aa n1 rfl) ak) (KX h rfl) (V.Cd.ca (GO h hb hq (by omega)))) (ag n3 rfl)) ?_;refine aE (jr (aa n3 rfl) (tW h iX) (aD (ar h.ok n7 (fB h)) (af (aa n2 rfl) ak) bp (uH (aV (m:=1000) (by rw [bw];omega) (by decide)))) w6 (yk h iX)) ?_;rw [bw];have pr: ∀(ys:List Str) (z:SS×Option AV×Option AV),(ys.foldl (λ(a:SS×Option AV×Option AV) g=>(SS.il p a.1 g,some (AV.str g),some (AV.loc ⟨b+3,g⟩))) z).1=ys.foldl (SS.il p) z.1:=by
  intro ys
  induction ys with
  | nil=>intro z;rfl
  | cons y ys ih=>intro z;exact ih _
 refine iH (aa n2 rfl) iw trivial (iA (C:=C) (k:=k+3) (sc:=sc) (ok:=λu=>True) (enc:=AV.str)
    (M:=λ(a:SS×Option AV×Option AV)=> [some (.loc ⟨b,e0⟩),some (.str p),some (.tup (gs.map .str)),some (.loc ⟨b+3,p⟩),a.2.1,a.2.2,none,none])
    (Sg:=λa=>bx b a.1 Z) (step:=λ(a:SS×Option AV×Option AV) g=>(SS.il p a.1 g,some (.str g),some (.loc ⟨b+3,g⟩)))
    (P:=λa xs=>a.1.ks.Nodup/\a.1.ks.length+xs.length<=950/\ ∀x,(a.1.su x).length<=1000 - xs.length)
    (λu v w=>trivial) (λa g xs hP=>⟨j6 hP.1,by
     have h1:(SS.il p a.1 g).ks.length<=a.1.ks.length+1:=nP (y:=g);have h2:=hP.2.1;simp only [cq]at h2;refine(?_:(SS.il p a.1 g).ks.length+_<=_);omega,λx=>by
     have h1:=vV (p:=p) (g:=g) hP.2.2 x;have h2:=hP.2.1;simp only [cq]at h1 h2;refine(?_:((SS.il p a.1 g).su x).length<=_);omega⟩) ?_ gs (q.uK p gs.length,none,none)
    ⟨G8,(by refine(?_:(q.ins p).ks.length+gs.length<=950);omega),λx=>rV (n:=1000 - gs.length) (λx=>by have:=hs x;omega) x⟩) (λu v=>rfl) ?_
 ·rintro ⟨a,o1,o2⟩ g xs ⟨h1,h2,h3⟩
  have h1:a.ks.Nodup:=h1;have h2:a.ks.length+(g::xs).length<=950:=h2;have h3: ∀x,(a.su x).length<=1000:=λx=>bU (h3 x) (Nat.sub_le _ _);refine cx (ag n4 rfl) ?_;exact aJ (au (aL (aa n0 rfl) (jF h ew dN) (af (aa n4 rfl) ak) (KX h rfl) (V.Cd.ca (GO h hb h1 (by omega)))) (ag n5 rfl)) (aJ (cv (aL (bE (aa n5 rfl) (ld_su h iX)) (MM iX) (af (aa n1 rfl) ak) bp (LL iX (rV h3 g)))) bA)
 ·rw [pr];exact j0
theorem o6 (h:Is C) (hr:q.rd=some r) (hz:r.length<=1000):
  V.Cd C (k+3) (bx b q Z) (.ext 273) [.loc ⟨b,e0⟩] [] (.bool (decide (q.nf<q.po) || !r.isEmpty)) (bx b q Z):=by
 have hx0:=h.hx;refine eB h.ok ⟨⟨_,_,_,by rw [h.K];exact rfl⟩,rfl,rfl,rfl,rfl,by rw [h.K];rfl,rfl,rfl,by decide+kernel⟩ [lo "self",gi "ValueError",gi "bool"] rfl [("self",.loc ⟨b,e0⟩)] _
  (bR (gx λa0=>rfl) rfl) rfl rfl λsc hF n hn=> ?_
 refine kD hF λn0 n1 n2 _=>?_;clear hF;refine DF ?_;refine cw (aq (c:=false) (bE (aa n0 rfl) (oZ h hr)) bV (gA (b:=false) mn) rfl) ?_;rcases hc:decide (q.nf<q.po)with _ | _
 ·rw [Bool.false_or];exact bP (eR (GN (d0 (bE (aa n0 rfl) (Bp h)) (bE (aa n0 rfl) (Bb h)) (GR hc) rfl) cp (lx (aD (ar h.ok n2 (g_bool h)) (af (bE (aa n0 rfl) (oZ h hr)) ak) cK (xe (.loc (mx hr)) (aV (m:=1000) (by rw [bw];exact hz) (by decide)) (by rw [List.isEmpty_map]))))))
 ·rw [Bool.true_or];exact bP (eR (mm (d0 (bE (aa n0 rfl) (Bp h)) (bE (aa n0 rfl) (Bb h)) (GR hc) rfl) cp))
noncomputable def SS.out (q:SS) (r:List Str):SS:={(r.foldl (λq x=>q.cf x (-1)) q)with rd:=some [],po:=q.po+r.length}
theorem nH (r:List Str) (v:Int): ∀q:SS,(r.foldl (λq x=>q.cf x v) q)={q with np:=(r.foldl (λq x=>q.cf x v) q).np}:=by
 induction r with
 | nil=>intro q;rfl
 | cons x r ih=>intro q;rw [cW,ih];rfl
theorem yE (h:Is C) (hr:q.rd=some r) (hz:r.length<=1000) (hq:q.ks.Nodup) (hx: ∀x∈r,x∈q.ks):
  V.Cd C (k+3) (bx b q Z) (.ext 266) [.loc ⟨b,e0⟩] [] (.tup (r.map .str)) (bx b (q.out r) Z):=by
 have hx0:=h.hx;refine eB h.ok ⟨⟨_,_,_,by rw [h.K];exact rfl⟩,rfl,rfl,rfl,rfl,by rw [h.K];rfl,rfl,rfl,by decide+kernel⟩ [lo "self",lo "result",lo "n2i",lo "node",gi "ValueError",gi "tuple",gi "_NODE_OUT",gi "len"] rfl [("self",.loc ⟨b,e0⟩)] _
  (bR (gx λa0=>rfl) rfl) rfl rfl λsc hF n hn=> ?_
 refine tJ hF λn0 n1 n2 n3 n4 n5 n6 n7 _=>?_;clear hF;have e1:=nH r (-1) q;have hr':(r.foldl (λq x=>q.cf x (-1)) q).rd=some r:=by rw [e1];exact hr
 have hk':(r.foldl (λq x=>q.cf x (-1)) q).ks=q.ks:=by rw [e1]
 have hz':(r.map AV.str).length<=sizeLine:=aV (m:=1000) (by rw [bw];exact hz) (by decide);have ek:(q.out r).ks=q.ks:=by delta SS.out;exact hk'
 refine lW (λy hy=>by rw [ek];exact hy) (λu=>rfl) ?_ (bo (λx=>cc) _);refine cw (aq (c:=false) (bE (aa n0 rfl) (oZ h hr)) bV (gA (b:=false) mn) rfl) ?_;refine aE (au (aD (ar h.ok n5 (yB h)) (af (bE (aa n0 rfl) (oZ h hr)) ak) cK (qT (.loc (mx hr)) hz')) (ag n1 rfl)) ?_;refine aE (au (bE (aa n0 rfl) (wQ h)) (ag n2 rfl)) ?_;refine iH (aa n1 rfl) iw trivial (iA (C:=C) (k:=k+2) (sc:=sc) (ok:=λu=>True) (enc:=AV.str)
    (M:=λ(a:SS×Option AV)=> [some (.loc ⟨b,e0⟩),some (.tup (r.map .str)),some (.loc ⟨b+2,e0⟩),a.2,none,none,none,none])
    (Sg:=λa=>bx b a.1 Z) (step:=λa c=>(a.1.cf c (-1),some (.str c))) (P:=λa xs=>a.1.ks=q.ks/\ ∀x∈xs,x∈q.ks)
    (λu v w=>trivial) (λa x xs hP=>⟨hP.1,λy hy=>hP.2 y (.tail _ hy)⟩) ?_ r (q,none) ⟨rfl,hx⟩) (λu v=>rfl) ?_
 ·rintro ⟨a,o⟩ c xs hP
  have hc:c∈a.ks:=by rw [show a.ks=q.ks from hP.1];exact hP.2 c (.head _)
  have hn':a.ks.Nodup:=by rw [show a.ks=q.ks from hP.1];exact hq
  refine cx (ag n3 rfl) ?_;exact aJ (au (ar h.ok n6 (mW h)) (eI (aS (aa n2 rfl) (aa n3 rfl) Dt (DI hn' hc)) (yk h hc))) bA
 ·have pr: ∀(xs:List Str) (a:SS×Option AV),(xs.foldl (λa c=>(a.1.cf c (-1),some (AV.str c))) a).1=xs.foldl (λq x=>q.cf x (-1)) a.1:=by
   intro xs
   induction xs with
   | nil=>intro a;rfl
   | cons x xs ih=>intro a;exact ih _
  simp only [pr];refine aE (cv (aL (bE (aa n0 rfl) (oZ h hr')) (LH hr') ak bp (Kv hr' hz))) ?_;have e2:(r.foldl (λq x=>q.cf x (-1)) q).po=q.po:=by rw [e1]
  have eo:{(r.foldl (λq x=>q.cf x (-1)) q)with rd:=some [],po:=(r.foldl (λq x=>q.cf x (-1)) q).po+((r.map AV.str).length:Int)}=q.out r:=by delta SS.out;rw [e2,bw]
  rw [<-eo];refine aE (jr (aa n0 rfl) (Bb h) (aD (ar h.ok n7 (fB h)) (af (aa n1 rfl) ak) bp (uH hz')) w6 (Ll h)) ?_;exact bP (aa n1 rfl)
noncomputable def SS.dec (q:SS) (y:Str):SS:=if(q.cf y (q.np y - 1)).np y==0 then(q.cf y (q.np y - 1)).rh y else q.cf y (q.np y - 1)
noncomputable def SS.tB (q:SS):SS:={q with nf:=q.nf+1}
noncomputable def SS.p5 (q:SS) (x:Str):SS:=((q.su x).foldl SS.dec (q.cf x (-2))).tB
noncomputable def SS.tP (q:SS) (xs:List Str):SS:=xs.foldl SS.p5 q
theorem D2 (q:SS) (y:Str):(q.dec y).ks=q.ks:=by delta SS.dec;split<;>rfl
theorem wM (q:SS) (y:Str):(q.dec y).su=q.su:=by delta SS.dec;split<;>rfl
theorem HL (q:SS) (y z:Str) (h:z≠y):(q.dec y).np z=q.np z:=by delta SS.dec;split<;>exact fG h
theorem BA (q:SS) (y:Str) (h:q.rd=some r): ∃r',(q.dec y).rd=some r'/\r'.length<=r.length+1:=by
 delta SS.dec;split
 ·exact V.i12 (r++ [y]) (by delta SS.rh SS.cf;simp [h]) (by simp)
 ·exact V.i12 r h (by omega+splitDisjunctions)
theorem decs (ys:List Str): ∀(q:SS),(ys.foldl SS.dec q).ks=q.ks/\(ys.foldl SS.dec q).su=q.su/\(∀z,z∉ys->(ys.foldl SS.dec q).np z=q.np z)/\ ∀r,q.rd=some r-> ∃r',(ys.foldl SS.dec q).rd=some r'/\r'.length<=r.length+ys.length:=by
 induction ys with
 | nil=>intro q;exact tI rfl rfl (λu v=>rfl) λr h=>⟨r,h,by exact gZ _ _⟩
 | cons y ys ih=>
  intro q;refine kD (ih (q.dec y)) λa b c d=>tI (a.trans (D2 q y)) (b.trans (wM q y)) (λz hz=> ?_) λr h=> ?_
  ·rw [cM,not_or]at hz;exact(c z hz.2).trans (HL q y z hz.1)
  ·refine V.c12 (BA q y h) λr1 h1 l1=>V.c12 (d r1 h1) λr2 h2 l2=>?_;exact V.i12 r2 h2 (by simp only [cq];omega)
theorem k9 (q:SS) (x:Str):(q.p5 x).ks=q.ks/\(q.p5 x).su=q.su/\(∀z,z≠x->z∉q.su x->(q.p5 x).np z=q.np z)/\ ∀r,q.rd=some r-> ∃r',(q.p5 x).rd=some r'/\r'.length<=r.length+(q.su x).length:=by refine kD (decs (q.su x) (q.cf x (-2))) λa b c d=>tI a b (λz h1 h2=>(c z h2).trans (fG h1)) d
structure DP (q:SS) (xs:List Str):Prop where
 rd: ∃r,q.rd=some r/\r.length+(xs.flatMap q.su).length<=1000
 nd:q.ks.Nodup
 cl: ∀x∈q.ks,∀y∈q.su x,y∈q.ks
 out: ∀x∈xs,x∈q.ks/\q.np x= -1
 Oc:xs.Nodup
 far: ∀x∈xs,∀y∈xs,y∉q.su x
theorem DP.step (h:DP q (x::xs)):DP (q.p5 x) xs:=by
 refine kD (k9 q x) λa b c d=>V.c12 h.rd λr hr hl=>V.c12 (d r hr) λr' hr' hl'=>?_;refine⟨⟨r',hr',?_⟩,by rw [a];exact h.nd,λz hz y hy=> ?_,λz hz=> ?_,(hH.mp h.Oc).2,λz hz y hy=> ?_⟩
 ·rw [b];simp only [gj,cS]at hl;omega
 ·rw [a]at hz⊢;rw [b]at hy;exact h.cl z hz y hy
 ·rw [a];refine⟨(h.out z (.tail _ hz)).1,?_⟩;rw [c z (λe=>(hH.mp h.Oc).1 (by rw [<-e];exact hz)) (h.far x (.head _) z (.tail _ hz))];exact(h.out z (.tail _ hz)).2
 ·rw [b];exact h.far z (.tail _ hz) y (.tail _ hy)
theorem DP.all: ∀{xs:List Str} {q:SS},DP q xs->(q.tP xs).ks=q.ks/\(q.tP xs).su=q.su/\ ∃r,(q.tP xs).rd=some r:=by
 intro aH;induction aH with
 | nil=>intro q h;exact m9 rfl rfl (h.rd.elim λr z=>⟨r,z.1⟩)
 | cons x xs ih=>intro q h;refine nM (ih h.step) λa b c=>m9 (a.trans (k9 q x).1) (b.trans (k9 q x).2.1) c
theorem Ik (h:Is C) (hp:DP q gs) (hz:gs.length<=1000):
  V.Cd C (k+3) (bx b q Z) (.ext 287) (.loc ⟨b,e0⟩::gs.map .str) [] .none (bx b (q.tP gs) Z):=by
 have hx0:=h.hx;refine eB h.ok ⟨⟨_,_,_,by rw [h.K];exact rfl⟩,rfl,rfl,rfl,rfl,by rw [h.K];rfl,rfl,rfl,by decide+kernel⟩ [lo "self",lo "nodes",lo "n2i",lo "node",lo "nodeinfo",lo "stat",lo "successor",lo "successor_info",gi "ValueError",gi "_NODE_OUT",gi "_NODE_DONE"] rfl ([(Str.ofString "self",.loc ⟨b,e0⟩)]++ [(Str.ofString "nodes",.tup (gs.map .str))]) _
  (sO (as:= [.loc ⟨b,e0⟩]) (rest:=gs.map .str) (gx λx rr g=>by cases rr<;>rfl) rfl (aV (m:=1000) (by rw [bw];exact hz) (by decide))) rfl rfl λsc hF n hn=> ?_
 refine tJ hF λn0 n1 n2 n3 n4 n5 n6 n7 w=>kD w λn8 n9 n10 _=>?_;clear hF;refine V.c12 hp.rd λr hr hrl=>?_;obtain⟨ek,es,rr,er⟩:=hp.all;refine r3 (λy hy=>by rw [ek];exact hy) (λg=>by rw [er];rfl) ?_;refine cw (aq (c:=false) (bE (aa n0 rfl) (oZ h hr)) bV (gA (b:=false) mn) rfl) ?_;refine aE (au (bE (aa n0 rfl) (wQ h)) (ag n2 rfl)) ?_;refine iH (aa n1 rfl) iw trivial (iA (C:=C) (k:=k+2) (sc:=sc) (ok:=λg=>True) (enc:=AV.str)
    (M:=λ(a:SS×Option AV×Option AV×Option AV×Option AV×Option AV)=> [some (.loc ⟨b,e0⟩),some (.tup (gs.map .str)),some (.loc ⟨b+2,e0⟩),a.2.1,a.2.2.1,a.2.2.2.1,a.2.2.2.2.1,a.2.2.2.2.2,none,none,none])
    (Sg:=λa=>bx b a.1 Z) (step:=λa c=>(a.1.p5 c,some (.str c),some (.loc ⟨b+3,c⟩),some (.int (-1)),((a.1.su c).foldl (λ(a:SS×Option AV×Option AV) y=>(a.1.dec y,some (.str y),some (.loc ⟨b+3,y⟩))) (a.1.cf c (-2),a.2.2.2.2)).2)) (P:=λa xs=>DP a.1 xs)
    (λg t p=>trivial) (λa x xs hP=>hP.step) ?_ gs (q,none,none,none,none,none) hp) (λg t=>rfl) ?_
 ·rintro ⟨a,o1,o2,o3,o4,o5⟩ c xs hP
  have hP:DP a (c::xs):=hP;refine V.c12 hP.rd λr1 hr1 hl1=>?_;have hnd:=hP.nd;refine bI (hP.out c (.head _)) λhc hnp=>cx (ag n3 rfl) ?_;refine ck (aq (c:=false) (pA (aL (aa n2 rfl) (wu (.inl gW)) (af (aa n3 rfl) ak) bp (xp (.inl gW) (kI hnd) (by rw [nI hc];rfl))) (ag n4 rfl)) bV (gA (b:=false) mn) rfl) ?_;refine aJ (au (bE (aa n4 rfl) (tW h hc)) (ag n5 rfl)) ?_;rw [hnp];refine ck (aq (c:=false) (aa n5 rfl) (ar h.ok n9 (mW h)) (Gx rfl) rfl) ?_;refine aJ (au (ar h.ok n10 (rO h)) (eI (aa n4 rfl) (yk h hc))) ?_;have hc2:c∈(a.cf c (-2)).ks:=hc;have pr: ∀(ys:List Str) (z:SS×Option AV×Option AV),(ys.foldl (λ(a:SS×Option AV×Option AV) y=>(a.1.dec y,some (AV.str y),some (AV.loc ⟨b+3,y⟩))) z).1=ys.foldl SS.dec z.1:=by
   intro ys
   induction ys with
   | nil=>intro z;rfl
   | cons y ys ih=>intro z;exact ih _
  refine aJ (jq (f:= .next) (bE (aa n4 rfl) (ld_su h hc2)) iU (.loc (m5 hc2)) (iA (C:=C) (k:=k+2) (sc:=sc) (ok:=λaB=>V.IsL aB (.loc ⟨b+5,c⟩) ((a.su c).map .str)) (enc:=AV.str)
     (M:=λ(z:SS×Option AV×Option AV)=> [some (.loc ⟨b,e0⟩),some (.tup (gs.map .str)),some (.loc ⟨b+2,e0⟩),some (.str c),some (.loc ⟨b+3,c⟩),some (.int (-1)),z.2.1,z.2.2,none,none,none])
     (Sg:=λz=>bx b z.1 Z) (step:=λ(a:SS×Option AV×Option AV) y=>(a.1.dec y,some (.str y),some (.loc ⟨b+3,y⟩)))
     (P:=λz ys=>z.1.ks=a.ks/\z.1.su=a.su/\(∃r,z.1.rd=some r/\r.length+ys.length<=1000)/\ ∀y∈ys,y∈a.ks)
     (λz ys hz=> .loc (by rw [m5 (by rw [hz.1];exact hc),hz.2.1])) (λz y ys hz=>by
      refine kD hz λz1 z2 v z5=>V.c12 v λr z3 z4=>?_;clear hz;refine V.c12 (BA z.1 y z3) λr' y1 y2=>?_;exact tI ((D2 _ _).trans z1) ((wM _ _).trans z2) ⟨r',y1,by simp only [cq]at z4;omega⟩ λy hy=>z5 y (.tail _ hy)) ?_ (a.su c) (a.cf c (-2),o4,o5)
     ⟨rfl,rfl,⟨r1,hr1,by simp only [gj,cS]at hl1;omega⟩,λy hy=>hP.cl c hc y hy⟩) (λg t=>rfl)) ?_
  ·rintro ⟨z,p1,p2⟩ y ys hz
   refine kD hz λz1 z2 u z5=>V.c12 u λrz z3 z4=>?_;clear hz;have z1:z.ks=a.ks:=z1;have z3:z.rd=some rz:=z3;have hy:y∈z.ks:=by rw [z1];exact z5 y (.head _)
   have hn':z.ks.Nodup:=by rw [z1];exact hnd
   refine cx (ag n6 rfl) ?_;refine aJ (au (aS (aa n2 rfl) (aa n6 rfl) Dt (DI hn' hy)) (ag n7 rfl)) ?_;refine aJ (jr (aa n7 rfl) (tW h hy) aC Hi (yk h hy)) ?_;have hy2:y∈(z.cf y (z.np y - 1)).ks:=hy;have zl:rz.length<=1000:=by simp only [cq]at z4;omega
   rcases ht:((z.cf y (z.np y - 1)).np y==0)with _ | _
   ·have e:z.dec y=z.cf y (z.np y - 1):=by delta SS.dec;rw [ay (by rw [ht];decide)]
    dsimp only;rw [e];exact ck (aq (c:=false) (bE (aa n7 rfl) (tW h hy2)) aC (lM ht) rfl) bA
   ·have e:z.dec y=(z.cf y (z.np y - 1)).rh y:=by delta SS.dec;rw [aF ht]
    dsimp only;rw [e];have Ny:(z.cf y (z.np y - 1)).rd=some rz:=z3;exact dy (aq (c:=true) (bE (aa n7 rfl) (tW h hy2)) aC (lM ht) rfl) (aJ (cv (aL (bE (aa n0 rfl) (oZ h Ny)) (MV Ny) (af (aa n6 rfl) ak) bp (Ln Ny zl))) bA)
  ·dsimp only;delta SS.p5 SS.tB;have Pn:(a.su c).foldl SS.dec (a.cf c (-2))=((a.su c).foldl (λ(a:SS×Option AV×Option AV) y=>(a.1.dec y,some (AV.str y),some (AV.loc ⟨b+3,y⟩))) (a.cf c (-2),o4,o5)).1:=(pr (a.su c) (a.cf c (-2),o4,o5)).symm;rw [Pn];exact aJ (jr (aa n0 rfl) (Bp h) aC w6 (Li h)) bA
 ·have pr: ∀(xs:List Str) (z:SS×Option AV×Option AV×Option AV×Option AV×Option AV) (f:SS×Option AV×Option AV×Option AV×Option AV×Option AV->Str->Option AV×Option AV×Option AV×Option AV×Option AV),(xs.foldl (λa c=>(a.1.p5 c,f a c)) z).1=xs.foldl SS.p5 z.1:=by
   intro xs
   induction xs with
   | nil=>intro z f;rfl
   | cons x xs ih=>intro z f;exact ih _ f
  rw [pr];exact j0
noncomputable def qt (x:Str):Str:="'"++x++"'"
noncomputable def Rq (C:V.Cx) (k:Nat) (sc:Scope) (ms:List (Option AV)) (Z:V.St) (ss:List Stmt) (cls:Value) (as:List AV) (aB:V.St):Prop:= ∃aK,V.Rz C k sc ms Z (execs ss) cls as aK aB
section
variable {C:V.Cx} {k:Nat} {sc:Scope} {ms ai aZ aK:List (Option AV)} {Z ae aN aB:V.St} {cls:Value} {as:List AV}
theorem xZ {st:Stmt} {rest:List Stmt} (h1:V.X1 C k sc ms Z st .next ai ae) (h2:Rq C k sc ai ae rest cls as aB):Rq C k sc ms Z (st::rest) cls as aB:=h2.elim λm z=>⟨m,F9 h1 z⟩
theorem Ip (h1:V.Tv C k sc ms Z test true ai ae) (h2:Rq C k sc ai ae (x++rest) cls as aB):Rq C k sc ms Z (.If test x y pos::rest) cls as aB:=h2.elim λm z=>⟨m,H7 h1 z⟩
theorem IB (h1:V.Tv C k sc ms Z test false ai ae) (h2:Rq C k sc ai ae (y++rest) cls as aB):Rq C k sc ms Z (.If test x y pos::rest) cls as aB:=h2.elim λm z=>⟨m,IU h1 z⟩
theorem EJ {st:Stmt} {rest:List Stmt} (h:V.Rz C k sc ms Z (exec st) cls as aK aB):Rq C k sc ms Z (st::rest) cls as aB:=⟨_,rF h⟩
theorem M7 (h:Rq C k sc ms ae body cls as aB) (e:Ds pC aB as aB): ∃aK cP,V.Rz C k sc ms ae (execs body) cls as aK cP/\Ds pC cP as aB:=h.elim λm z=>⟨m,_,z,e⟩
end
end L1
end
section
namespace L1
open V (AV AO)
noncomputable def fc (m:Nat) (A B:List AV) (S:List Str) (D:List (Str×AV)) (I:Str->Option AO) (Z:V.St):V.St:=λl=>
 if l=⟨m,e0⟩then some (.list A)else if l=⟨m+1,e0⟩then some (.list B)else if l=⟨m+2,e0⟩then some (.set S)else if l=⟨m+3,e0⟩then some (.dict D)else if l.tag=m+4 then I l.key else Z l
section
variable {m:Nat} {A A' B B':List AV} {S S':List Str} {D D':List (Str×AV)} {I:Str->Option AO} {Z:V.St} {x:Str} {o:AO}
theorem N1:(fc m A B S D I Z).set ⟨m,e0⟩ (.list A')=fc m A' B S D I Z:=by
 funext l;by_cases h:l=⟨m,e0⟩
 ·subst h;rw [V.set_same];delta fc;simp
 ·rw [ao h];delta fc;rw [ay h,ay h]
theorem NT:(fc m A B S D I Z).set ⟨m+1,e0⟩ (.list B')=fc m A B' S D I Z:=by
 funext l;by_cases h:l=⟨m+1,e0⟩
 ·subst h;rw [V.set_same];delta fc;simp
 ·rw [ao h];delta fc;rw [ay h,ay h]
theorem OA:(fc m A B S D I Z).set ⟨m+2,e0⟩ (.set S')=fc m A B S' D I Z:=by
 funext l;by_cases h:l=⟨m+2,e0⟩
 ·subst h;rw [V.set_same];delta fc;simp
 ·rw [ao h];delta fc;rw [ay h,ay h]
theorem NP:(fc m A B S D I Z).set ⟨m+3,e0⟩ (.dict D')=fc m A B S D' I Z:=by
 funext l;by_cases h:l=⟨m+3,e0⟩
 ·subst h;rw [V.set_same];delta fc;simp
 ·rw [ao h];delta fc;rw [ay h,ay h]
theorem MW:(fc m A B S D I Z).set ⟨m+4,x⟩ o=fc m A B S D (upd I x (some o)) Z:=by
 funext l;by_cases h:l=⟨m+4,x⟩
 ·subst h;rw [V.set_same];delta fc;simp [upd]
 ·rw [ao h];delta fc;by_cases k:l.tag=m+4
  ·have:l.key≠x:=λe=>h (by cases l;simp at k e;rw [k,e]);rw [fG this]
  ·simp only [k,jh]
theorem JU (h:l.tag<m):(fc m A B S D I Z).set l o=fc m A B S D I (Z.set l o):=by
 funext y;by_cases e:y=l
 ·subst e;rw [V.set_same];delta fc;rw [ay (λe=>by rw [e]at h;exact absurd h (iN _)),ay (λe=>by rw [e]at h;simp only at h;omega),ay (λe=>by rw [e]at h;simp only at h;omega),ay (λe=>by rw [e]at h;simp only at h;omega),ay (by omega),V.set_same]
 ·rw [ao e];delta fc;rw [ao e]
theorem Fp:fc m A B S D I Z ⟨m,e0⟩=some (.list A):=by delta fc;simp
theorem GQ:fc m A B S D I Z ⟨m+1,e0⟩=some (.list B):=by delta fc;simp
theorem HM:fc m A B S D I Z ⟨m+2,e0⟩=some (.set S):=by delta fc;simp
theorem JG:fc m A B S D I Z ⟨m+3,e0⟩=some (.dict D):=by delta fc;simp
theorem Mq:fc m A B S D I Z ⟨m+4,x⟩=I x:=by delta fc;simp
theorem JF (h:l.tag<m):fc m A B S D I Z l=Z l:=by delta fc;rw [ay (λe=>by rw [e]at h;exact absurd h (iN _)),ay (λe=>by rw [e]at h;simp only at h;omega),ay (λe=>by rw [e]at h;simp only at h;omega),ay (λe=>by rw [e]at h;simp only at h;omega),ay (by omega)]
theorem B7 (h: ∀l:V.Loc,m<=l.tag->Z l=none):(((Z.set ⟨m,e0⟩ (.list [])).set ⟨m+1,e0⟩ (.list [])).set ⟨m+2,e0⟩ (.set [])).set ⟨m+3,e0⟩ (.dict [])=fc m [] [] [] [] (λu=>none) Z:=by
 funext l;delta fc V.St.set;by_cases h3:l=⟨m+3,e0⟩
 ·subst h3;simp
 by_cases h2:l=⟨m+2,e0⟩
 ·subst h2;simp
 by_cases h1:l=⟨m+1,e0⟩
 ·subst h1;simp
 by_cases h0:l=⟨m,e0⟩
 ·subst h0;simp
 simp only [h0,h1,h2,h3,jh];by_cases k:l.tag=m+4
 ·rw [aF k];exact h l (by omega)
 ·rw [ay k]
end
noncomputable def rX:List (Str×Nat)->List (Str×AV)
 | []=> []
 | (x,_)::t=>rX t++ [(x,.int t.length)]
noncomputable def Al (t:List (Str×Nat)):List AV:=t.reverse.map λp=> .str p.1
noncomputable def GY (m:Nat) (t:List (Str×Nat)):List AV:=t.reverse.map λp=> .mw "list_iterator.__next__" ⟨m+4,p.1⟩
theorem jW:Al (p::t)=Al t++ [.str p.1]:=by delta Al;simp
theorem lY:GY m (p::t)=GY m t++ [.mw "list_iterator.__next__" ⟨m+4,p.1⟩]:=by delta GY;simp
theorem iW: ∀t:List (Str×Nat),(rX t).map (·.1)=(t.map (·.1)).reverse
 | []=>rfl
 | (x,i)::t=>by unfold rX;rw [e9,iW t];simp
theorem tA: ∀t:List (Str×Nat),(rX t).length=t.length
 | []=>rfl
 | (x,i)::t=>by unfold rX;rw [cS,tA t];rfl
theorem oV (h:(t.map (·.1)).Nodup):V.DN (rX t):=by delta V.DN;rw [iW];exact List.pairwise_reverse.mpr (List.Pairwise.imp (λz=>z.symm) h)
theorem ta (h:x∉es.map (·.1)):gO es x=none:=by
 delta gO;have:es.find? (λe=>decide (e.1=x))=none:=by rw [List.find?_eq_none];intro e he z;simp at z;exact h (bM.mpr ⟨e,he,z⟩)
 rw [this];rfl
theorem sm (h:x∈es.map (·.1)):(gO es x).isSome=true:=by delta gO;rw [Option.isSome_map,List.find?_isSome];refine V.c12 (bM.mp h) λe he z=>V.i12 e he (by simp [z])
theorem t8 (h:gO es x=some v):gO (es++fs) x=some v:=by
 delta gO at h⊢;rw [List.find?_append];rcases e:es.find? (λe=>decide (e.1=x))with _ | y
 ·rw [e]at h;exact dF h
 ·rw [e]at h;rw [e];exact h
theorem DZ (h:x∉es.map (·.1)):V.dput es x v=es++ [(x,v)]:=by delta V.dput;rw [ay];intro z;rw [zQ]at z;refine V.c12 z λe he z=>h (bM.mpr ⟨e,he,by simpa using z⟩)
theorem CO (h:x∉es.map (·.1)):AJ (es++ [(x,v)]) x=es:=by
 delta AJ;rw [CI];have:es.filter (λe=>decide (e.1≠x))=es:=by rw [Cv];intro e he;simp only [pW];intro z;exact h (bM.mpr ⟨e,he,z⟩)
 rw [this];simp
class inductive Bl (su:Str->List Str):List Str->Prop
 | nil:Bl su []
 | cons {x:Str} {fl:List Str} (h: ∀y∈su x,y∈fl) (n:x∉fl) (t:Bl su fl):Bl su (x::fl)
class inductive Eu (su:Str->List Str) (fl:List Str):Str->List (Str×Nat)->Prop
 | nil {a:Str}:Eu su fl a []
 | cons {a x:Str} {i:Nat} {t:List (Str×Nat)} (h:(su x)[i]? =some a) (p: ∀y∈(su x).take i,y∈fl) (u:Eu su fl x t):Eu su fl a ((x,i+1)::t)
class inductive sL (su:Str->List Str):List Str->Prop
 | one {x:Str}:sL su [x]
 | cons {x y:Str} {t:List Str} (h:y∈su x) (l:sL su (y::t)):sL su (x::y::t)
noncomputable def wo (su:Str->List Str) (L:List Str):Prop:= ∃y M,L=y::(M++ [y])/\(M++ [y]).Nodup/\sL su L
theorem sL.snoc {su:Str->List Str} (h:y∈su x): ∀{l:List Str},sL su (l++ [x])->sL su (l++ [x]++ [y])
 | [],_=> .cons h .one
 | [a],z=>by cases z with | cons q z=>exact .cons q (.cons h .one)
 | a::c::l,z=>by cases z with | cons q z=>exact .cons q (sL.snoc h (l:=c::l) z)
theorem Eu.mono {su:Str->List Str} (m: ∀x∈fl,x∈Po) (h:Eu su fl a t):Eu su Po a t:=by
 induction h with
 | nil=>exact .nil
 | cons h p _ ih=>exact .cons h (λy hy=>m y (p y hy)) ih
theorem Eu.ring {su:Str->List Str} (h:Eu su fl a t): ∀{seg rest:List Str} {y:Str},t.map (·.1)=seg++y::rest->sL su (y::seg.reverse++ [a]):=by
 induction h with
 | nil=>intro seg rest y e;cases seg<;>exact H5 e
 | @cons a x i t h p u ih=>
  intro seg rest y e;have ha:a∈su x:=ik h;cases seg with
  | nil=>injection e with e1 e2;subst e1;exact .cons ha .one
  | cons z seg=>
   injection e with e1 e2
   have e1:x=z:=e1;subst e1;rw [List.reverse_cons,<-AU];exact sL.snoc (l:=y::seg.reverse) ha (ih e2)
noncomputable def Mi (su:Str->List Str) (ks:List Str):Option (List Str)->Prop
 | none=> ∃fl,Bl su fl/\ ∀x∈ks,x∈fl
 | some L=>wo su L
structure FS where
 se:List Str
 t:List (Str×Nat)
 I:Str->Option AO
noncomputable def fS (b m:Nat) (q:SS) (Z:V.St) (cnt:Nat) (s:FS):V.St:=fc m (Al s.t) (GY m s.t) s.se (rX s.t) s.I ((bx b q Z).set ⟨b+2,e0⟩ (.map (sN b q) cnt))
noncomputable def FS.pO (b:Nat) (s:FS) (x:Str) (i:Nat) (t:List (Str×Nat)):FS:=⟨s.se,(x,i+1)::t,upd s.I x (some (.iter ⟨b+5,x⟩ (i+1)))⟩
noncomputable def FS.push (b:Nat) (s:FS) (y:Str):FS:=⟨s.se++ [y],(y,0)::s.t,upd s.I y (some (.iter ⟨b+5,y⟩ 0))⟩
noncomputable def FS.pop (s:FS) (x:Str) (t:List (Str×Nat)):FS:=⟨s.se,t,upd s.I x (some .junk)⟩
structure WF (q:SS) (b:Nat) (s:FS):Prop where
 nd:(s.t.map (·.1)).Nodup
 sub: ∀x∈s.t.map (·.1),x∈s.se
 ks: ∀x∈s.se,x∈q.ks
 send:s.se.Nodup
 it: ∀p∈s.t,s.I p.1=some (.iter ⟨b+5,p.1⟩ p.2)
 inn: ∀x,x∉s.se->s.I x=none
structure JJ (q:SS) (fl:List Str) (s:FS):Prop where
 top: ∀x i t,s.t=(x,i)::t->(∀y∈(q.su x).take i,y∈fl)/\Eu q.su fl x t
 se: ∀x∈s.se,x∈fl\/x∈s.t.map (·.1)
 fin:Bl q.su fl
 fs: ∀x∈fl,x∈s.se/\x∉s.t.map (·.1)
structure CX (q:SS):Prop where
 nd:q.ks.Nodup
 su: ∀x∈q.ks,∀y∈q.su x,y∈q.ks
 len:q.ks.length<=1000
variable {q:SS} {b:Nat} {s:FS}
theorem WF.pO (w:WF q b s) (e:s.t=(x,i)::t):WF q b (s.pO b x i t):=by
 have em:(s.pO b x i t).t.map (·.1)=s.t.map (·.1):=by rw [e];rfl
 have hn:=w.nd;refine⟨by rw [em];exact hn,by rw [em];exact w.sub,w.ks,w.send,?_,?_⟩
 ·intro p hp;refine aP (cM.mp hp) (λu=>?_) λhp=>?_
  ·subst u;exact gY
  ·rw [e]at hn;have:p.1≠x:=λz=>(hH.mp hn).1 (bM.mpr ⟨p,hp,z⟩);refine(?_:upd s.I x _ p.1=_);rw [fG this];exact w.it p (by rw [e];exact .tail _ hp)
 ·intro z hz;have:z≠x:=λe2=>hz (by rw [e2];exact w.sub x (by rw [e];exact .head _));refine(?_:upd s.I x _ z=_);rw [fG this];exact w.inn z hz
theorem WF.push (w:WF q b s) (hy:y∉s.se) (hk:y∈q.ks):WF q b (s.push b y):=by
 have hy':y∉s.t.map (·.1):=λz=>hy (w.sub y z);refine⟨hH.mpr ⟨hy',w.nd⟩,?_,?_,?_,?_,?_⟩
 ·intro x hx;refine aP (cM.mp hx) (λv=>?_) λhx=>?_
  ·subst v;exact cu.mpr (.inr (.head _))
  ·exact cu.mpr (.inl (w.sub x hx))
 ·intro x hx;refine aP (cu.mp hx) (λz=>?_) λz=>?_
  ·exact w.ks x z
  ·simp at z;rw [z];exact hk
 ·refine(?_:(s.se++ [y]).Nodup);rw [t9];refine m9 w.send (by simp) ?_;intro a ha c hc;simp at hc;subst hc;intro e;subst e;exact hy ha
 ·intro p hp;refine aP (cM.mp hp) (λu=>?_) λhp=>?_
  ·subst u;exact gY
  ·have:p.1≠y:=λz=>hy' (bM.mpr ⟨p,hp,z⟩);refine(?_:upd s.I y _ p.1=_);rw [fG this];exact w.it p hp
 ·intro z hz;have:z≠y:=λe2=>hz (cu.mpr (.inr (by rw [e2];exact .head _)));refine(?_:upd s.I y _ z=_);rw [fG this];exact w.inn z λh=>hz (cu.mpr (.inl h))
theorem WF.pop (w:WF q b s) (e:s.t=(x,i)::t):WF q b (s.pop x t):=by
 have hn:=w.nd;rw [e]at hn;refine⟨(hH.mp hn).2,λz hz=>w.sub z (by rw [e];exact .tail _ hz),w.ks,w.send,?_,?_⟩
 ·intro p hp;have:p.1≠x:=λz=>(hH.mp hn).1 (bM.mpr ⟨p,hp,z⟩);refine(?_:upd s.I x _ p.1=_);rw [fG this];exact w.it p (by rw [e];exact .tail _ hp)
 ·intro z hz;have:z≠x:=λe2=>hz (by rw [e2];exact w.sub x (by rw [e];exact .head _));refine(?_:upd s.I x _ z=_);rw [fG this];exact w.inn z hz
noncomputable def Rest (C:V.Cx) (k:Nat) (sc:Scope) (te j5:Expr) (bd ob kr:List Stmt) (M:Option AV->List (Option AV)) (F:FS->V.St) (o:Option AV) (s:FS) (f:V.AF) (o':Option AV) (s':FS):Prop:=
 (∃o1 s1,V.Wr C k sc te bd ob (M o) (F s) .next (M o1) (F s1)/\V.Wr C k sc j5 kr [] (M o1) (F s1) f (M o') (F s'))\/(V.Wr C k sc te bd ob (M o) (F s) .brk (M o') (F s')/\f= .next)
noncomputable def ph:Option (List Str)->V.AF
 | none=> .next
 | some L=> .ret (.lst (L.map .str))
structure PR (q:SS) (b:Nat) (s:FS):Prop where
 t:s.t= []
 w:WF q b s
 j: ∃fl,JJ q fl s
noncomputable def qV (q:SS) (b:Nat) (s s':FS):Option (List Str)->Prop
 | none=>PR q b s'/\ ∀x∈s.se,x∈s'.se
 | some L=>wo q.su L
theorem qV.up (h:qV q b s1 s' res) (m: ∀x∈s0.se,x∈s1.se):qV q b s0 s' res:=by
 cases res with
 | none=>exact⟨h.1,λx hx=>h.2 x (m x hx)⟩
 | some L=>exact h
noncomputable def rem (q:SS):List (Str×Nat)->Nat
 | []=>0
 | (x,i)::t=>(q.su x).length - i+1+rem q t
structure HH (q:SS) (b:Nat) (C:V.Cx) (k:Nat) (sc:Scope) (tgt te j5:Expr) (bd ob kr lu:List Stmt) (eH p2:Pos) (ok:V.St->Prop) (M:Option AV->List (Option AV)) (F:FS->V.St):Prop where
 out: ∀o s,s.t= []->V.Tv C k sc (M o) (F s) te false (M o) (F s)/\V.Ex C k sc (M o) (F s) ob .brk (M o) (F s)
 test: ∀o s p t,s.t=p::t->WF q b s->V.Tv C k sc (M o) (F s) te true (M o) (F s)
 next: ∀o s x i t y,s.t=(x,i)::t->WF q b s->(q.su x)[i]? =some y->V.Ex C k sc (M o) (F s) bd .brk (M (some (.str y))) (F (s.pO b x i t))
 stop: ∀o s x i t,s.t=(x,i)::t->WF q b s->(q.su x).length<=i->V.Ex C k sc (M o) (F s) bd .next (M o) (F (s.pop x t))
 Ej: ∀o s,V.Tv C k sc (M o) (F s) j5 true (M o) (F s)
 push: ∀y s f aK aB,WF q b s->y∉s.se->y∈q.ks->V.Ex C k sc (M (some (.str y))) (F (s.push b y)) [.While te bd ob eH] f aK aB->V.Ex C k sc (M (some (.str y))) (F s) kr f aK aB
 seen: ∀y s f aK aB,WF q b s->y∈s.se->y∉s.t.map (·.1)->V.Ex C k sc (M (some (.str y))) (F s) [.While te bd ob eH] f aK aB->V.Ex C k sc (M (some (.str y))) (F s) kr f aK aB
 ret: ∀s seg y rest,WF q b s->s.t.map (·.1)=seg++y::rest->V.Ex C k sc (M (some (.str y))) (F s) kr (.ret (.lst ((y::seg.reverse++ [y]).map .str))) (M (some (.str y))) (F s)
 has: ∀o x s,V.As C k sc (M o) (F s) tgt (.str x) (M (some (.str x))) (F s)
 ok: ∀s,ok (F s)
 skip: ∀x s,WF q b s->x∈s.se->V.Ex C k sc (M (some (.str x))) (F s) lu .cont (M (some (.str x))) (F s)
 go: ∀x s f aK aB,WF q b s->x∉s.se->V.Ex C k sc (M (some (.str x))) (F s) [.While j5 kr [] p2] f aK aB->V.Ex C k sc (M (some (.str x))) (F s) lu f aK aB
section
variable {C:V.Cx} {k:Nat} {sc:Scope} {tgt te j5:Expr} {bd ob kr lu:List Stmt} {eH p2:Pos} {ok:V.St->Prop} {M:Option AV->List (Option AV)} {F:FS->V.St}
theorem HH.Ia (H:HH q b C k sc tgt te j5 bd ob kr lu eH p2 ok M F)
  (R:Rest C k sc te j5 bd ob kr M F (some (.str y)) s f o' s') (E: ∀f aK aB,V.Ex C k sc (M (some (.str y))) (F s) [.While te bd ob eH] f aK aB->V.Ex C k sc (M (some (.str y))) (F I5) kr f aK aB):
  V.Wr C k sc j5 kr [] (M (some (.str y))) (F I5) f (M o') (F s'):=by
 refine aP R (λw=>v8 w λo1 s1 w1 w2=>?_) λu=>bI u λw1 v=>?_
 ·exact .turn (H.Ej _ _) (E _ _ _ (aJ (j4 w1) bA)) (.inl rfl) w2
 ·subst v;exact .brk (H.Ej _ _) (E _ _ _ (iy (j4 w1) (λz=>by cases z)))
end
noncomputable def Walks (q:SS) (b:Nat) (o:Option AV) (s:FS) (res:Option (List Str)) (o':Option AV) (s':FS):Prop:=
 ∀(C:V.Cx) (k:Nat) (sc:Scope) (tgt te j5:Expr) (bd ob kr lu:List Stmt) (eH p2:Pos) (ok:V.St->Prop) (M:Option AV->List (Option AV)) (F:FS->V.St),HH q b C k sc tgt te j5 bd ob kr lu eH p2 ok M F->Rest C k sc te j5 bd ob kr M F o s (ph res) o' s'
theorem IK (G:CX q):
  ∀(N m:Nat) (o:Option AV) (s:FS) (fl:List Str),q.ks.length - s.se.length=N->rem q s.t=m->WF q b s->JJ q fl s->
   ∃s' o' res,qV q b s s' res/\Walks q b o s res o' s':=by
 intro N
 induction N using Nat.strongRecOn with
 | _ N Pp=>
 intro m
 induction m using Nat.strongRecOn with
 | _ m Od=>
 intro o s fl hN hm w j;rcases ht:s.t with _ | ⟨⟨x,i⟩,t⟩
 ·exact D5 s o none ⟨⟨ht,w,fl,j⟩,λg z=>z⟩ λC k sc tgt te j5 bd ob kr lu eH p2 ok M F H=> .inr ⟨.out (H.out o s ht).1 (H.out o s ht).2,rfl⟩
 have hxs:x∈s.se:=w.sub x (by rw [ht];exact .head _);have hxk:x∈q.ks:=w.ks x hxs;refine bI (j.top x i t ht) λhpos Jh=>?_;have hnd:=w.nd;rw [ht]at hnd;have hxf:x∉fl:=λz=>(j.fs x z).2 (by rw [ht];exact .head _);rcases hy:(q.su x)[i]? with _ | y
 ·have hle:(q.su x).length<=i:=oP.mp hy;rw [List.take_of_length_le hle]at hpos;have w2:=w.pop ht;have j2:JJ q (x::fl) (s.pop x t):=by
   refine⟨λz i' t' e=> ?_,λz hz=> ?_,.cons hpos hxf j.fin,λz hz=> ?_⟩
   ·have e:t=(z,i')::t':=e;subst e;cases Jh with
    | cons h p u=>
     refine⟨λy hy=> ?_,u.mono λg h=> .tail _ h⟩;rw [DR,h]at hy;refine aP (cu.mp hy) (λhy=>?_) λhy=>?_
     ·exact .tail _ (p y hy)
     ·simp at hy;subst hy;exact .head _
   ·refine aP (j.se z hz) (λh=>?_) λh=>?_
    ·exact .inl (.tail _ h)
    ·rw [ht]at h;refine aP (cM.mp h) (λh=>?_) λh=>?_
     ·exact .inl (by rw [h];exact .head _)
     ·exact .inr h
   ·refine aP (cM.mp hz) (λn=>?_) λhz=>?_
    ·subst n;exact⟨hxs,(hH.mp hnd).1⟩
    ·have:=j.fs z hz;rw [ht]at this;exact⟨this.1,λh=>this.2 (.tail _ h)⟩
  refine tC (Od (rem q t) (by rw [<-hm,ht];refine(?_:_<(q.su x).length - i+1+rem q t);omega) o (s.pop x t) (x::fl) hN rfl w2 j2) λs' o' res hf hR=>?_;refine D5 s' o' res (hf.up (λg z=>z)) λC k sc tgt te j5 bd ob kr lu eH p2 ok M F H=> ?_;have st:=H.stop o s x i t ht w hle;have te:=H.test o s _ t ht w;refine aP (hR _ _ _ _ _ _ _ _ _ _ _ _ _ _ _ H) (λr=>v8 r λo1 s1 w1 w2=>?_) λv=>bI v λw1 e=>?_
  ·exact .inl ⟨o1,s1,.turn te st (.inl rfl) w1,w2⟩
  ·exact .inr ⟨.turn te st (.inl rfl) w1,e⟩
 ·have hlt:i<(q.su x).length:=by
   refine aP (oh i (q.su x).length) (λz=>?_) λz=>?_
   ·exact z
   ·rw [oP.mpr z]at hy;exact dF hy
  have hys:y∈q.su x:=ik hy;have JO:=G.su x hxk y hys;have w1:=w.pO (b:=b) ht;have em:(s.pO b x i t).t.map (·.1)=s.t.map (·.1):=by rw [ht];rfl
  have hu:Eu q.su fl y ((x,i+1)::t):= .cons hy hpos Jh;have htk:(q.su x).take (i+1)=(q.su x).take i++ [y]:=by rw [DR,hy];rfl
  by_cases hse:y∈s.se
  ·by_cases hst:y∈s.t.map (·.1)
   ·-- the ring closes
    refine V.c21 (List.append_of_mem hst) λseg rest e=>?_;have e':((x,i+1)::t).map (·.1)=seg++y::rest:=by rw [<-e,<-em];rfl
    refine D5 (s.pO b x i t) (some (.str y)) (some (y::seg.reverse++ [y])) ⟨y,seg.reverse,rfl,?_,hu.ring e'⟩ λC k sc tgt te j5 bd ob kr lu eH p2 ok M F H=> ?_
    ·have hn:=w.nd;rw [e,t9]at hn;rw [t9];exact m9 (List.pairwise_reverse.mpr (List.Pairwise.imp (λz=>z.symm) hn.1)) (by simp) λa ha c hc=>hn.2.2 a (wx.mp ha) c (by simp at hc;rw [hc];exact .head _)
    ·exact .inl ⟨some (.str y),s.pO b x i t,.brk (H.test o s _ t ht w) (H.next o s x i t y ht w hy),.ret (H.Ej _ _) (H.ret (s.pO b x i t) seg y rest w1 e')⟩
   ·have hyf:y∈fl:=(j.se y hse).resolve_right hst;have j1:JJ q fl (s.pO b x i t):=by
     refine⟨λz i' t' e=> ?_,by rw [em];exact j.se,j.fin,by rw [em];exact j.fs⟩;have e:(x,i+1)::t=(z,i')::t':=e;obtain⟨⟨rfl,rfl⟩,rfl⟩:(x=z/\i+1=i')/\t=t':=by simpa using e
     refine⟨λz hz=> ?_,Jh⟩;rw [htk]at hz;refine aP (cu.mp hz) (λhz=>?_) λhz=>?_
     ·exact hpos z hz
     ·simp at hz;subst hz;exact hyf
    refine tC (Od (rem q ((x,i+1)::t)) (by rw [<-hm,ht];refine(?_:(q.su x).length - (i+1)+1+rem q t<(q.su x).length - i+1+rem q t);omega) (some (.str y)) (s.pO b x i t) fl hN rfl w1 j1) λs' o' res hf hR=>?_;refine D5 s' o' res (hf.up (λg z=>z)) λC k sc tgt te j5 bd ob kr lu eH p2 ok M F H=> ?_;exact .inl ⟨some (.str y),s.pO b x i t,.brk (H.test o s _ t ht w) (H.next o s x i t y ht w hy),H.Ia (hR _ _ _ _ _ _ _ _ _ _ _ _ _ _ _ H) (λf aK aB=>H.seen y (s.pO b x i t) f aK aB w1 hse (by rw [em];exact hst))⟩
  ·have w2:WF q b ((s.pO b x i t).push b y):=w1.push hse JO;have up: ∀z,z∈s.se->z∈((s.pO b x i t).push b y).se:=λz hz=>cu.mpr (.inl hz);have j2:JJ q fl ((s.pO b x i t).push b y):=by
    refine⟨λz i' t' e=> ?_,λz hz=> ?_,j.fin,λz hz=> ?_⟩
    ·have e:(y,0)::(x,i+1)::t=(z,i')::t':=e;obtain⟨⟨rfl,rfl⟩,rfl⟩:(y=z/\0=i')/\(x,i+1)::t=t':=by simpa using e
     exact⟨λz hz=>by simp at hz,hu⟩
    ·refine aP (cu.mp hz) (λhz=>?_) λhz=>?_
     ·refine aP (j.se z hz) (λh=>?_) λh=>?_
      ·exact .inl h
      ·exact .inr (.tail _ (by rw [em];exact h))
     ·simp at hz;exact .inr (by rw [hz];exact .head _)
    ·have:=j.fs z hz;refine⟨up z this.1,λh=> ?_⟩;refine aP (cM.mp h) (λh=>?_) λh=>?_
     ·exact hse ((show z=y from h)▸this.1)
     ·exact this.2 (by rw [<-em];exact h)
   have hlen:(s.se++ [y]).length<=q.ks.length:=uy w2.send λz hz=>w2.ks z hz;have hlen2:s.se.length+1<=q.ks.length:=by simpa using hlen
   refine tC (Pp (q.ks.length - ((s.pO b x i t).push b y).se.length) (by
    refine(?_:q.ks.length - (s.se++ [y]).length<N);rw [cS];simp only [cq,ip];omega) _ (some (.str y)) ((s.pO b x i t).push b y) fl rfl rfl w2 j2) λs' o' res hf hR=>?_
   refine D5 s' o' res (hf.up up) λC k sc tgt te j5 bd ob kr lu eH p2 ok M F H=>.inl ⟨some (.str y),s.pO b x i t,.brk (H.test o s _ t ht w) (H.next o s x i t y ht w hy),H.Ia (hR _ _ _ _ _ _ _ _ _ _ _ _ _ _ _ H) (λf aK aB=>H.push y (s.pO b x i t) f aK aB w1 hse JO)⟩
theorem PR.start (h:PR q b s) (hr:r∉s.se) (hk:r∈q.ks):WF q b (s.push b r)/\ ∃fl,JJ q fl (s.push b r):=by
 refine cG h.j λfl j=>⟨h.w.push hr hk,fl,λz i' t' e=> ?_,λz hz=> ?_,j.fin,λz hz=> ?_⟩
 ·have e:(r,0)::s.t=(z,i')::t':=e;obtain⟨⟨rfl,rfl⟩,rfl⟩:(r=z/\0=i')/\s.t=t':=by simpa using e
  rw [h.t];exact⟨λz hz=>by simp at hz,.nil⟩
 ·refine aP (cu.mp hz) (λhz=>?_) λhz=>?_
  ·refine aP (j.se z hz) (λh=>?_) λh=>?_
   ·exact .inl h
   ·exact .inr (.tail _ h)
  ·simp at hz;exact .inr (by rw [hz];exact .head _)
 ·have:=j.fs z hz;refine⟨cu.mpr (.inl this.1),λh=> ?_⟩;refine aP (cM.mp h) (λh=>?_) λh=>?_
  ·exact hr ((show z=r from h)▸this.1)
  ·exact this.2 h
theorem BH (G:CX q): ∀(G9:List Str) (s:FS) (o:Option AV),PR q b s->(∀x∈G9,x∈q.ks)-> ∃s' o' res,qV q b {s with se:=s.se++G9} s' res/\
  ∀(C:V.Cx) (k:Nat) (sc:Scope) (tgt te j5:Expr) (bd ob kr lu:List Stmt) (eH p2:Pos) (ok:V.St->Prop) (M:Option AV->List (Option AV)) (F:FS->V.St),HH q b C k sc tgt te j5 bd ob kr lu eH p2 ok M F->V.Lr C k sc ok tgt lu (G9.map .str) (M o) (F s) (ph res) (M o') (F s'):=by
 intro G9
 induction G9 with
 | nil=>intro s o P hk;exact D5 s o none ⟨P,λx hx=>by simpa using hx⟩ λC k sc tgt te j5 bd ob kr lu eH p2 ok M F H=> .nil (H.ok s)
 | cons x G9 ih=>
  intro s o P hk;have more: ∀(s1:FS) (o1:Option AV),PR q b s1->(∀y∈s.se,y∈s1.se)->x∈s1.se->(∀(C:V.Cx) (k:Nat) (sc:Scope) (tgt te j5:Expr) (bd ob kr lu:List Stmt) (eH p2:Pos) (ok:V.St->Prop) (M:Option AV->List (Option AV)) (F:FS->V.St),HH q b C k sc tgt te j5 bd ob kr lu eH p2 ok M F-> ∃f,(f= .next\/f= .cont)/\V.Ex C k sc (M (some (.str x))) (F s) lu f (M o1) (F s1))-> ∃s' o' res,qV q b {s with se:=s.se++x::G9} s' res/\
    ∀(C:V.Cx) (k:Nat) (sc:Scope) (tgt te j5:Expr) (bd ob kr lu:List Stmt) (eH p2:Pos) (ok:V.St->Prop) (M:Option AV->List (Option AV)) (F:FS->V.St),HH q b C k sc tgt te j5 bd ob kr lu eH p2 ok M F->V.Lr C k sc ok tgt lu ((x::G9).map .str) (M o) (F s) (ph res) (M o') (F s'):=by
   intro s1 o1 P1 hm hx1 hE;refine tC (ih s1 o1 P1 (λy hy=>hk y (.tail _ hy))) λs' o' res hc hL=>D5 s' o' res (hc.up λy hy=> ?_) λC k sc tgt te j5 bd ob kr lu eH p2 ok M F H=> ?_
   ·refine aP (cu.mp hy) (λhy=>?_) λhy=>?_
    ·exact cu.mpr (.inl (hm y hy))
    ·refine aP (cM.mp hy) (λu=>?_) λhy=>?_
     ·subst u;exact cu.mpr (.inl hx1)
     ·exact cu.mpr (.inr hy)
   ·refine V.c12 (hE _ _ _ _ _ _ _ _ _ _ _ _ _ _ _ H) λf hf hE=>.cons (H.ok s) (H.has o x s) hE hf (hL _ _ _ _ _ _ _ _ _ _ _ _ _ _ _ H)
  by_cases hx:x∈s.se
  ·exact more s (some (.str x)) P (λv z=>z) hx (λC k sc tgt te j5 bd ob kr lu eH p2 ok M F H=>⟨.cont,.inr rfl,H.skip x s P.w hx⟩)
  ·obtain⟨w1,fl,j1⟩:=P.start (b:=b) hx (hk x (.head _));refine tC (IK G _ _ (some (.str x)) (s.push b x) fl rfl rfl w1 j1) λs1 o1 res hf hR=>?_;have hw:=λC k sc tgt te j5 bd ob kr lu eH p2 ok M F (H:HH q b C k sc tgt te j5 bd ob kr lu eH p2 ok M F)=>H.Ia (hR _ _ _ _ _ _ _ _ _ _ _ _ _ _ _ H) (λf aK aB=>H.push x s f aK aB P.w hx (hk x (.head _)));cases res with
   | none=>exact more s1 o1 hf.1 (λy hy=>hf.2 y (cu.mpr (.inl hy))) (hf.2 x (cu.mpr (.inr (.head _)))) (λC k sc tgt te j5 bd ob kr lu eH p2 ok M F H=>⟨.next,.inl rfl,H.go x s _ _ _ P.w hx (aJ (j4 (hw _ _ _ _ _ _ _ _ _ _ _ _ _ _ _ H)) bA)⟩)
   | some L=>refine D5 s1 o1 (some L) hf λC k sc tgt te j5 bd ob kr lu eH p2 ok M F H=>.stop (H.ok s) (H.has o x s) (H.go x s _ _ _ P.w hx (iy (j4 (hw _ _ _ _ _ _ _ _ _ _ _ _ _ _ _ H)) (λz=>by cases z))) (.inr ⟨_,rfl⟩)
section
variable {q:SS} {b:Nat}
theorem ly {C:V.Cx} {k:Nat} {sc:Scope} {ms ai:List (Option AV)} {Z ae:V.St} {st:Stmt} {rest:List Stmt} {P:V.AF->V.St->Prop} (h1:V.X1 C k sc ms Z st .next ai ae) (h2: ∃f aK cP,V.Ex C k sc ai ae rest f aK cP/\P f cP): ∃f aK cP,V.Ex C k sc ms Z (st::rest) f aK cP/\P f cP:=by refine tC h2 λf aK cP h hp=>D5 f aK cP (aJ h1 h) hp
noncomputable def Dy (b m:Nat) (q:SS) (Z:V.St) (s:FS):V.St:=fc m (Al s.t) (GY m s.t) s.se (rX s.t) s.I (bx b q Z)
theorem uX {m:Nat} {Z:V.St} {s:FS} (hm:b+6<m) {cnt:Nat}:(Dy b m q Z s).set ⟨b+2,e0⟩ (.map (sN b q) cnt)=fS b m q Z cnt s:=by delta Dy fS;exact JU (by refine(?_:b+2<m);omega)
theorem J0 (G:CX q) (hm:b+6<m) (hW: ∀(C:V.Cx) (k:Nat) (sc:Scope) (tgt te j5:Expr) (bd ob kr lu:List Stmt) (eH p2:Pos) (ok:V.St->Prop) (M:Option AV->List (Option AV)) (F:FS->V.St),HH q b C k sc tgt te j5 bd ob kr lu eH p2 ok M F->V.Lr C k sc ok tgt lu (q.ks.map .str) (M none) (F ⟨[],[],λu=>none⟩) (ph res) (M o') (F s'))
  (h0:C.hx=none) {P:V.AF->V.St->Prop} {M:Option AV->List (Option AV)}
  (H: ∀cnt,HH q b C k sc tgt te j5 bd ob [st2,.While te bd ob eH] [st1,.While j5 [st2,.While te bd ob eH] [] p2] eH p2 (λaB=>aB ⟨b+2,e0⟩=some (.map (sN b q) cnt)) M (fS b m q Z cnt))
  (Mb: ∀cnt s,V.Ev C k sc (M none) (fS b m q Z cnt s) iter (.loc ⟨b+2,e0⟩) (M none) (fS b m q Z cnt s)) (hs: ∀env x,foldedSetIterable iter env x=pure x)
  (hN:res=none-> ∃f aK cP,V.Ex C k sc (M o') (Dy b m q Z s') rest f aK cP/\P f cP)
  (hL: ∀L,res=some L->P (.ret (.lst (L.map .str))) (Dy b m q Z s')):
  ∃f aK cP,V.Ex C k sc (M none) (fc m [] [] [] [] (λu=>none) (bx b q Z)) (.For tgt iter [st1,.While j5 [st2,.While te bd ob eH] [] p2] [] pos::rest) f aK cP/\P f cP:=by
 let s0:FS:=⟨[],[],λu=>none⟩
 have lk: ∀s,Dy b m q Z s ⟨b+2,e0⟩=some (.dict (sN b q)):=λs=>by delta Dy;rw [JF (by refine(?_:b+2<m);omega),gW]
 have JT: ∀cnt s,fS b m q Z cnt s ⟨b+2,e0⟩=some (.map (sN b q) cnt):=λcnt s=>by delta fS;rw [JF (by refine(?_:b+2<m);omega),V.set_same]
 have X:V.X1 C k sc (M none) (Dy b m q Z s0) (.For tgt iter [st1,.While j5 [st2,.While te bd ob eH] [] p2] [] pos) (ph res).after (M o') (Dy b m q Z s'):=by
  refine lS (l:=⟨b+2,e0⟩) (lk s0) (lk s') (λcnt=> ?_);rw [uX hm,uX hm];have I:=C3 (tgt:=tgt) (C:=C) (k:=k) (l:=⟨b+2,e0⟩) (n:=cnt) (es:=sN b q) (kI G.nd) h0;have em:(sN b q).map (λp=>AV.str p.1)=q.ks.map .str:=by delta sN;rw [dP];rfl
  rw [em]at I;exact jq (Mb cnt s0) I (JT cnt s0) (hW _ _ _ _ _ _ _ _ _ _ _ _ _ _ _ (H cnt)) hs
 have e0':Dy b m q Z s0=fc m [] [] [] [] (λu=>none) (bx b q Z):=rfl;rw [<-e0'];cases res with
 | none=>refine tC (hN rfl) λf aK cP h hp=>D5 f aK cP (aJ X h) hp
 | some L=>exact D5 _ _ _ (iy X (λz=>by cases z)) (hL L rfl)
end
section
variable {C:V.Cx} {k:Nat} {m:Nat} {A:List AV} {B:List AV} {S:List Str} {D:List (Str×AV)} {I:Str->Option AO} {Z:V.St} {x:Str} {v:AV}
theorem Ld (hz:A.length<=1000):V.Ca C k (fc m A B S D I Z) (.bi "list.append") [.loc ⟨m,e0⟩,v] [] .none (fc m (A++ [v]) B S D I Z):=by
 have z:=dJ (C:=C) (k:=k) (x:=v) (Fp (m:=m) (A:=A) (B:=B) (S:=S) (D:=D) (I:=I) (Z:=Z)) (aV hz (by decide))
 rwa [N1]at z
theorem KO (hz:B.length<=1000):V.Ca C k (fc m A B S D I Z) (.bi "list.append") [.loc ⟨m+1,e0⟩,v] [] .none (fc m A (B++ [v]) S D I Z):=by
 have z:=dJ (C:=C) (k:=k) (x:=v) (GQ (m:=m) (A:=A) (B:=B) (S:=S) (D:=D) (I:=I) (Z:=Z)) (aV hz (by decide))
 rwa [NT]at z
theorem J8 (hz:A.length<=1000):V.Ca C k (fc m (A++ [v]) B S D I Z) (.bi "list.pop") [.loc ⟨m,e0⟩] [] v (fc m A B S D I Z):=by
 have z:=Cy (C:=C) (k:=k) (x:=v) (Fp (m:=m) (A:=A++ [v]) (B:=B) (S:=S) (D:=D) (I:=I) (Z:=Z)) (aV (n:=A.length+1) (m:=1001) (by omega) (by decide))
 rwa [N1]at z
theorem Kk (hz:B.length<=1000):V.Ca C k (fc m A (B++ [v]) S D I Z) (.bi "list.pop") [.loc ⟨m+1,e0⟩] [] v (fc m A B S D I Z):=by
 have z:=Cy (C:=C) (k:=k) (x:=v) (GQ (m:=m) (A:=A) (B:=B++ [v]) (S:=S) (D:=D) (I:=I) (Z:=Z)) (aV (n:=B.length+1) (m:=1001) (by omega) (by decide))
 rwa [NT]at z
theorem MH (hx:x∉S) (hz:S.length<=1000):V.Ca C k (fc m A B S D I Z) (.bi "set.add") [.loc ⟨m+2,e0⟩,.str x] [] .none (fc m A B (S++ [x]) D I Z):=by
 have z:=KH (C:=C) (k:=k) (x:=x) (ys:=S++ [x]) (HM (m:=m) (A:=A) (B:=B) (S:=S) (D:=D) (I:=I) (Z:=Z)) (by refine(?_:_<4096);omega) (by rw [ay hx])
 rwa [OA]at z
theorem LO (hd:V.DN D) (hz:D.length<=1000) (hx:x∉D.map (·.1)):K9 C k (fc m A B S D I Z) setItem (.loc ⟨m+3,e0⟩) (.str x) v (λu w=>True) (fc m A B S (D++ [(x,v)]) I Z):=by
 have z:=D1 (C:=C) (k:=k) (key:=x) (x:=v) (.inl (JG (m:=m) (A:=A) (B:=B) (S:=S) (D:=D) (I:=I) (Z:=Z))) hd (aV hz (by decide))
 rwa [NP,DZ hx]at z
theorem Kj (hd:V.DN (D++ [(x,v)])) (hz:D.length<=1000) (hx:x∉D.map (·.1)):di C k (fc m A B S (D++ [(x,v)]) I Z) delItem (.loc ⟨m+3,e0⟩) (.str x) (λu w=>True) (fc m A B S D I Z):=by
 have z:=KL (C:=C) (k:=k) (key:=x) (.inl (JG (m:=m) (A:=A) (B:=B) (S:=S) (D:=D++ [(x,v)]) (I:=I) (Z:=Z))) hd (aV (n:=(D++ [(x,v)]).length) (m:=1001) (by simp;omega) (by decide)) (sm (by simp))
 rwa [NP,CO hx]at z
theorem LI (h:fc m A B S D I Z ll=some (.list xs)) (hI:I x=none):V.Ca C k (fc m A B S D I Z) (.bi "iter") [.loc ll] [] (.loc ⟨m+4,x⟩) (fc m A B S D (upd I x (some (.iter ll 0))) Z):=by
 have z:=Hc (C:=C) (k:=k) (l:=⟨m+4,x⟩) h (by rw [Mq];exact hI)
 rwa [MW]at z
theorem F5 (hI:I x=some (.iter ll i)):ie C k (fc m A B S D I Z) (λx=>getAttr x "__next__" true) (.loc ⟨m+4,x⟩) (λW r=>aw W (.mw "list_iterator.__next__" ⟨m+4,x⟩) r) (fc m A B S D I Z):=Gd (by rw [Mq];exact hI)
theorem Kx (hI:I x=some (.iter ll i)) (h:fc m A B S D I Z ll=some (.list xs)) (hx:xs[i]? =some v):V.Ca C k (fc m A B S D I Z) (.mw "list_iterator.__next__" ⟨m+4,x⟩) [] [] v (fc m A B S D (upd I x (some (.iter ll (i+1)))) Z):=by
 have z:=IJ (C:=C) (k:=k) (l:=⟨m+4,x⟩) (by rw [Mq];exact hI) h hx
 rwa [MW]at z
theorem KY (h0:C.hx=none) (hI:I x=some (.iter ll i)) (h:fc m A B S D I Z ll=some (.list xs)) (hx:xs.length<=i):Jx C k (fc m A B S D I Z) (.mw "list_iterator.__next__" ⟨m+4,x⟩) [] (.type "StopIteration") [] (fc m A B S D (upd I x (some .junk)) Z):=by
 have z:=Fb (C:=C) (k:=k) (l:=⟨m+4,x⟩) (by rw [Mq];exact hI) h hx h0
 rwa [MW]at z
end
theorem ou {α:Type}: ∀(xs:List α),(List.range xs.length).filterMap (xs[·]?)=xs:=by
 intro aH;induction aH with
 | nil=>exact rfl
 | cons x xs ih=>
  rw [cq,List.range_succ_eq_map,lH,List.filterMap_map];have e:((λi=>(x::xs)[i]?) ∘ Nat.succ)=λi=>xs[i]? :=by funext i;simp
  rw [e,ih];rfl
theorem K7 {α:Type} (xs:List α):(sliceRange 0 (xs.length:Int) 1).filterMap (xs[·]?)=xs:=by
 have e:sliceRange 0 (xs.length:Int) 1=List.range xs.length:=by
  have:(if(1:Int)>0 then(if(0:Int)<xs.length then((xs.length:Int) - 0+1 - 1) / 1 else 0)else(if(0:Int)>xs.length then(0 - (xs.length:Int) - 1 - 1) / (-1)else 0)).toNat=xs.length:=by
   rw [aF (by decide)];split
   ·rw [Int.ediv_one];omega
   ·omega
  refine(dY (λn=>(List.range n).map λ(k:Nat)=>((0:Int)+1 * (k:Int)).toNat) this).trans ?_;refine(?_:((List.range xs.length).map λ(k:Nat)=>((0:Int)+1 * (k:Int)).toNat)=_);have:(λk:Nat=>((0:Int)+1 * (k:Int)).toNat)=_root_.id:=by funext k;simp
  rw [this,wb]
 rw [e,ou]
theorem uA {α β:Type} {f g:α->Option β}: ∀{l:List α},(∀x∈l,f x=g x)->l.filterMap f=l.filterMap g:=by
 intro aH;induction aH with
 | nil=>intro u;exact rfl
 | cons x l ih=>
  intro h;exact by rw [lH,lH,h x (.head _),ih λy hy=>h y (.tail _ hy)]
theorem JY (k n:Nat) (h:k<=n):sliceRange (k:Int) (n:Int) 1=(List.range (n - k)).map (k+ ·):=by
 have:(if(1:Int)>0 then(if(k:Int)<n then((n:Int) - k+1 - 1) / 1 else 0)else(if(k:Int)>n then((k:Int) - (n:Int) - 1 - 1) / (-1)else 0)).toNat=n - k:=by
  rw [aF (by decide)];split
  ·rw [Int.ediv_one];omega
  ·omega
 refine(dY (λn=>(List.range n).map λ(j:Nat)=>((k:Int)+1 * (j:Int)).toNat) this).trans ?_;apply pM;intro j u;omega
theorem jv {α:Type} (xs:List α) (k:Nat) (h:k<=xs.length):eP xs (some k) none none=xs.drop k:=by
 delta eP;have e:sliceBounds (some (k:Int)) none none xs.length=((k:Int),(xs.length:Int),1):=by delta sliceBounds;simp;omega
 rw [e];refine(?_:(sliceRange (k:Int) (xs.length:Int) 1).filterMap (xs[·]?)=_);rw [JY k xs.length h,List.filterMap_map,<-ou (xs.drop k),vT];apply uA;intro j u;refine(?_:xs[k+j]? =(xs.drop k)[j]?);rw [xH]
theorem zI {α:Type} (xs:List α):eP xs none none (some 1)=xs:=by
 delta eP;have e:sliceBounds none none (some 1) xs.length=(0,(xs.length:Int),1):=by delta sliceBounds;simp
 rw [e];exact K7 xs
theorem zW {α:Type} (xs:List α):eP xs none none (some (-1))=xs.reverse:=by
 delta eP;have e:sliceBounds none none (some (-1)) xs.length=((xs.length:Int) - 1,-1,-1):=by delta sliceBounds;simp
 rw [e];have e:sliceRange ((xs.length:Int) - 1) (-1) (-1)=(List.range xs.length).map λk=>xs.length - 1 - k:=by
  have:(if(-1:Int)>0 then(if(xs.length:Int) - 1< -1 then((-1:Int) - ((xs.length:Int) - 1)+ -1 - 1) / -1 else 0)else(if(xs.length:Int) - 1> -1 then((xs.length:Int) - 1 - -1 - -1 - 1) / (- -1)else 0)).toNat=xs.length:=by
   rw [ay (by decide)];split
   ·refine(?_:(((xs.length:Int) - 1 - -1 - -1 - 1) / 1).toNat=_);rw [Int.ediv_one];omega
   ·omega
  refine(dY (λn=>(List.range n).map λ(k:Nat)=>((xs.length:Int) - 1+ -1 * (k:Int)).toNat) this).trans ?_;apply pM;intro k hk;rw [zG]at hk;omega
 refine(?_:(sliceRange ((xs.length:Int) - 1) (-1) (-1)).filterMap (xs[·]?)=_);rw [e,List.filterMap_map];have h:=ou xs.reverse;rw [List.length_reverse]at h;rw [<-h];apply uA;intro k hk;rw [zG]at hk;refine(?_:xs[xs.length - 1 - k]? =xs.reverse[k]?);rw [List.getElem?_reverse hk]
end L1
end
section
namespace L1
open Builtin Builtin.Str
open V (AV AO)
noncomputable def LF:Option (List Str)->AV
 | none=> .none
 | some L=> .lst (L.map .str)
section
variable {m cnt:Nat} {A B:List AV} {S:List Str} {D:List (Str×AV)} {I:Str->Option AO} {Z:V.St} {b:Nat} {q:SS} {x:Str}
theorem JT (hm:b+6<m):fc m A B S D I ((bx b q Z).set ⟨b+2,e0⟩ (.map (sN b q) cnt)) ⟨b+2,e0⟩=some (.map (sN b q) cnt):=by rw [JF (by refine(?_:b+2<m);omega),V.set_same]
theorem OG (hm:b+6<m) (hx:x∈q.ks):fc m A B S D I ((bx b q Z).set ⟨b+2,e0⟩ (.map (sN b q) cnt)) ⟨b+3,x⟩=some (.slots 207 ⟨b+4,x⟩ (sI b q x)):=by rw [JF (by refine(?_:b+3<m);omega),ao (by exact L1.ib rfl),oz hx]
theorem MU (hm:b+6<m) (hx:x∈q.ks):fc m A B S D I ((bx b q Z).set ⟨b+2,e0⟩ (.map (sN b q) cnt)) ⟨b+5,x⟩=some (.list ((q.su x).map .str)):=by rw [JF (by refine(?_:b+5<m);omega),ao (by exact L1.ib rfl),m5 hx]
theorem ir:(Al t).length=t.length:=by delta Al;simp
theorem tf:(GY m t).length=t.length:=by delta GY;simp
theorem CQ:Al t=(t.map (·.1)).reverse.map .str:=by delta Al;rw [<-List.map_reverse,dP];rfl
theorem WF.lens (G:CX q) (w:WF q b s):s.t.length<=1000/\s.se.length<=1000:=by have h1:=uy w.send λz hz=>w.ks z hz;have h2:=uy w.nd λz hz=>w.sub z hz;rw [bw]at h2;have:=G.len;omega
end
theorem Ag (h:x∉es.map (·.1)):gO (es++ [(x,v)]) x=some v:=by
 delta gO;have:es.find? (λe=>decide (e.1=x))=none:=by rw [List.find?_eq_none];intro e he z;simp at z;exact h (bM.mpr ⟨e,he,z⟩)
 rw [List.find?_append,this];simp
theorem BL: ∀{t:List (Str×Nat)} {seg rest:List Str},(t.map (·.1)).Nodup->t.map (·.1)=seg++y::rest->gO (rX t) y=some (.int rest.length)
 | [],seg,rest,_,e=>by cases seg<;>exact H5 e
 | (x,i)::t,[],rest,hn,e=>by
  injection e with e1 e2
  have e1:x=y:=e1;subst e1;have hx:x∉(rX t).map (·.1):=by rw [iW,wx];exact(hH.mp hn).1
  have:rest.length=t.length:=by rw [<-e2,bw]
  rw [this];exact Ag hx
 | (x,i)::t,z::seg,rest,hn,e=>by
  injection e with e1 e2
  exact t8 (BL (hH.mp hn).2 e2)
theorem uq (e:t.map (·.1)=seg++y::rest):(Al t).drop rest.length=(y::seg.reverse).map .str:=by
 rw [CQ,e,List.reverse_append,List.reverse_cons,eX,e9];have:rest.length=(rest.reverse.map AV.str).length:=by simp
 rw [this,List.drop_left];rfl
theorem Ky (G:CX q) (b:Nat): ∃res,Mi q.su q.ks res/\ ∀(C:V.Cx),Is C-> ∀(k:Nat) (Z:V.St),
  V.Cd C (k+1) (bx b q Z) (.ext 294) [.loc ⟨b,e0⟩] [] (LF res) (bx b q Z):=by
 have P0:PR q b ⟨[],[],λg=>none⟩:=⟨rfl,⟨pV,λx hx=>(by exact je hx),λx hx=>(by exact je hx),pV,λx hx=>(by exact je hx),λg r=>rfl⟩,[],λx i t e=>(by exact H5 e),λx hx=>(by exact je hx),.nil,λx hx=>(by exact je hx)⟩;refine tC (BH G q.ks _ none P0 (λg z=>z)) λs' o' res hF hW=>V.i12 res ?_ λC h k Z=> ?_
 ·cases res with
  | none=>
   refine bI hF λv hs=>?_;clear hF;rcases v with⟨ht,w,fl,j⟩
   refine V.i12 fl j.fin λx hx=>(j.se x (hs x hx)).resolve_right λz=> ?_;rw [ht]at z;exact je z
  | some L=>exact hF
 have hx0:=h.hx;refine eB h.ok ⟨⟨_,_,_,by rw [h.K];exact rfl⟩,rfl,rfl,rfl,rfl,by rw [h.K];rfl,rfl,rfl,by decide+kernel⟩ [lo "self",lo "n2i",lo "stack",lo "itstack",lo "seen",lo "node2stacki",lo "node",gi "set",gi "iter",gi "len",gi "StopIteration"] rfl [("self",.loc ⟨b,e0⟩)] _
  (bR (gx λa0=>rfl) rfl) rfl rfl λsc hF n hn=> ?_
 refine tJ hF λn0 n1 n2 n3 n4 n5 n6 n7 u=>kD u λn8 n9 n10 _=>?_;clear hF;have gS:V.Glob C "StopIteration" (.ty "StopIteration"):=m6 h;have hb2:b+2<n:=by
  refine aP (oh (b+2) n) (λz=>?_) λz=>?_
  ·exact z
  ·have:=hn ⟨b+2,e0⟩ z;rw [gW]at this;exact sa this
 have hm:b+6<n+10:=by omega
 have keep: ∀s' l o,bx b q Z l=some o->Dy b (n+10) q Z s' l=some o:=λs' l o z=>by
  have:l.tag<n:=by
   refine aP (oh l.tag n) (λy=>?_) λy=>?_
   ·exact y
   ·rw [hn l y]at z;exact dF z
  delta Dy;rw [JF (by omega)];exact z
 have hfree: ∀l:V.Loc,n+10<=l.tag->bx b q Z l=none:=λl hl=>hn l (by omega);refine ly (au (bE (aa n0 rfl) (wQ h)) (ag n1 rfl)) ?_;refine ly (au (dU ⟨n+10,e0⟩ ak (dW _) (hfree _ (bT _))) (ag n2 rfl)) ?_;refine ly (au (dU ⟨n+10+1,e0⟩ ak (dW _) (by rw [ao (by exact L1.sd rfl)];exact hfree _ (by exact gZ _ _))) (ag n3 rfl)) ?_;refine ly (au (aD (ar h.ok n7 (Kf h)) ak cK (Hb (l:=⟨n+10+2,e0⟩) (by rw [ao (by exact L1.ib rfl),ao (by exact L1.sd rfl)];exact hfree _ (by refine(?_:n+10<=n+10+2);omega)))) (ag n4 rfl)) ?_;refine ly (au (vS ⟨n+10+3,e0⟩ (by rw [ao (by exact L1.ib rfl),ao (by exact L1.ib rfl),ao (by exact L1.sd rfl)];exact hfree _ (by refine(?_:n+10<=n+10+3);omega))) (ag n5 rfl)) ?_;rw [B7 hfree];refine J0 G hm hW hx0 (M:=λo=> [some (.loc ⟨b,e0⟩),some (.loc ⟨b+2,e0⟩),some (.loc ⟨n+10,e0⟩),some (.loc ⟨n+10+1,e0⟩),some (.loc ⟨n+10+2,e0⟩),some (.loc ⟨n+10+3,e0⟩),o,none,none,none,none]) ?_ ?_ (λg r=>rfl) ?_ ?_
 ·intro cnt;refine⟨?_,?_,?_,?_,?_,?_,?_,?_,?_,?_,?_,?_⟩
  ·rintro o ⟨se,t,I⟩ ht
   obtain rfl:t= []:=ht;exact⟨(aX (b:=false) (aa n2 rfl) (fH (.loc Fp) (dW _) rfl)),CZ⟩
  ·rintro o ⟨se,t,I⟩ p t' ht w
   refine bI (w.lens G) λl1 l2=>?_;obtain rfl:t=p::t':=ht;exact(aX (b:=true) (aa n2 rfl) (fH (.loc Fp) (aV (m:=1000) (by rw [ir];exact l1) (by decide)) (by rw [jW];simp)))
  ·rintro o ⟨se,t,I⟩ x i t' y ht w hy
   refine bI (w.lens G) λl1 l2=>?_;obtain rfl:t=(x,i)::t':=ht;have hI:I x=some (.iter ⟨b+5,x⟩ i):=w.it (x,i) (.head _);have hxk:x∈q.ks:=w.ks x (w.sub x (.head _));have e2:Al ((x,i+1)::t')=Al ((x,i)::t'):=by rw [jW,jW]
   delta fS FS.pO;rw [e2,lY,lY];have hl1:(GY (n+10) t').length<=1000:=by rw [tf];simp only [cq]at l1;omega
   exact iy (ml (aJ (au (aD (aS (aa n3 rfl) (dB aC qY) (bk (.loc GQ)) (kn (.loc GQ) (by decide) (by simp<;>omega) (by decide) i7)) ak GG (Kx hI (MU hm hxk) (by rw [gr,hy];rfl))) (ag n6 rfl)) CZ)) (λz=>by cases z)
  ·rintro o ⟨se,t,I⟩ x i t' ht w hy
   refine bI (w.lens G) λl1 l2=>?_;obtain rfl:t=(x,i)::t':=ht;have hI:I x=some (.iter ⟨b+5,x⟩ i):=w.it (x,i) (.head _);have hxk:x∈q.ks:=w.ks x (w.sub x (.head _));have hnd:=w.nd;have hnx:x∉(rX t').map (·.1):=by rw [iW,wx];exact(hH.mp hnd).1
   have hlt:t'.length<=999:=by simp only [cq]at l1;omega
   have hdn:V.DN (rX t'++ [(x,.int t'.length)]):=oV (t:=(x,i)::t') hnd;delta fS FS.pop;dsimp only;rw [jW,lY,show rX ((x,i)::t')=rX t'++ [(x,.int t'.length)]from rfl];refine aJ (Br (rF (C0 (H0 (aS (aa n3 rfl) (dB aC qY) (bk (.loc GQ)) (kn (.loc GQ) (by decide) (by simp<;>omega) (by decide) i7)) ak GG (KY hx0 hI (MU hm hxk) (by rw [bw];exact hy)) (λg=>rfl) (λg=>rfl)) (λg=>rfl))) (by intro z;injection z with z;exact absurd z (by decide)) (ar h.ok.h n10 gS) (Fm (by rw [sr];kernel_rfl) (by rw [sr];kernel_rfl) (by rw [sr];kernel_rfl)) (aJ (zS (aa n5 rfl) (aL (aa n2 rfl) (BW Fp) ak bp (J8 (by rw [ir];omega))) (Kj hdn (by rw [tA];omega) hnx)) (aJ (cv (aL (aa n3 rfl) (BW GQ) ak bp (Kk (by rw [tf];omega)))) bA))) bA
  ·intro o s;exact(aX (b:=true) dR cp)
  ·rintro y ⟨se,t,I⟩ f aK aB w hse JO E
   refine bI (w.lens G) λl1 l2=>?_;have hI:I y=none:=w.inn y hse;have hse:y∉se:=hse;have hnx:y∉(rX t).map (·.1):=by rw [iW,wx];exact λz=>hse (w.sub y z)
   have hlt:t.length<=1000:=l1;have hlz:se.length<=1000:=l2;delta fS FS.push at E;dsimp only at E;rw [jW,lY,show rX ((y,0)::t)=rX t++ [(y,.int t.length)]from rfl]at E;delta fS;dsimp only;refine ck (aq (c:=false) (aa n6 rfl) (aa n4 rfl) (BO HM (by refine(?_:_<4096);omega) (by simp [hse])) rfl) ?_;refine aJ (cv (aL (aa n4 rfl) (K1 HM (by refine(?_:_<4096);omega)) (af (aa n6 rfl) ak) bp (MH hse hlz))) ?_;refine aJ (cv (aL (aa n3 rfl) (eu GQ) (af (bE (aD (ar h.ok n8 (Ic h)) (af (bE (aS (aa n1 rfl) (aa n6 rfl) (sU (.inr ⟨_,JT hm⟩)) (D0 (.inr ⟨_,JT hm⟩) (kI G.nd) (nI JO))) (ym h (.inr (OG hm JO)) rfl gP g9)) ak) bp (LI (MU hm JO) hI)) (F5 gY)) ak) bp (KO (by rw [tf];omega)))) ?_;refine aJ (au (aD (ar h.ok n9 (fB h)) (af (aa n2 rfl) ak) bp (c6 (.loc Fp) (aV (m:=1000) (by rw [ir];omega) (by decide)))) (tq (aa n5 rfl) (aa n6 rfl) (LO (oV w.nd) (by rw [tA];omega) hnx))) ?_;rw [ir];exact aJ (cv (aL (aa n2 rfl) (eu Fp) (af (aa n6 rfl) ak) bp (Ld (by rw [ir];omega)))) E
  ·rintro y ⟨se,t,I⟩ f aK aB w hse Pq E
   refine bI (w.lens G) λl1 l2=>?_;have hse:y∈se:=hse;have hlz:se.length<=1000:=l2;have hnx:y∉(rX t).map (·.1):=by rw [iW,wx];exact Pq
   delta fS at E⊢;dsimp only at E⊢;refine dy (aq (c:=true) (aa n6 rfl) (aa n4 rfl) (BO HM (by refine(?_:_<4096);omega) (by simp [hse])) rfl) ?_;refine ck (aq (c:=false) (aa n6 rfl) (aa n5 rfl) (J4 (.inl JG) (oV w.nd) (by rw [ta hnx];rfl)) rfl) ?_;exact E
  ·rintro ⟨se,t,I⟩ seg y rest w e
   refine bI (w.lens G) λl1 l2=>?_;have e:t.map (·.1)=seg++y::rest:=e;have hse:y∈se:=w.sub y (by refine(?_:y∈t.map (·.1));rw [e];simp);have hlz:se.length<=1000:=l2;have hlt:t.length<=1000:=l1;have hd:gO (rX t) y=some (.int rest.length):=BL w.nd e;have hle:rest.length<=(Al t).length:=by have:=dY List.length e;rw [ir];simp at this;omega
   delta fS;dsimp only;rw [e9];refine dy (aq (c:=true) (aa n6 rfl) (aa n4 rfl) (BO HM (by refine(?_:_<4096);omega) (by simp [hse])) rfl) ?_;refine dy (aq (c:=true) (aa n6 rfl) (aa n5 rfl) (J4 (.inl JG) (oV w.nd) (by rw [hd];rfl)) rfl) ?_;have hll:((y::seg.reverse).map AV.str).length<=1000:=by rw [<-uq e,vT,ir];omega
   exact r8 (az (aS (aa n2 rfl) (bL (bJ (aS (aa n5 rfl) (aa n6 rfl) (sU (.inl JG)) (D0 (.inl JG) (oV w.nd) hd))) bc bc) (bk (.loc Fp)) (e8 (.loc Fp) (fw.int _) .none .none (by decide) (aV (m:=1000) (by rw [ir];omega) (by decide)) ((jv _ _ hle).trans (uq e)))) (hU (af (aa n6 rfl) ak) (dX rfl)) (uN (.lst _) (.lst _) (aV (n:=((y::seg.reverse).map AV.str).length+1) (m:=1001) (by omega) (by decide))))
  ·intro o x s;exact(ag n6 rfl)
  ·intro s;exact JT hm
  ·rintro x ⟨se,t,I⟩ w hse
   have hlz:se.length<=1000:=(w.lens G).2;have hse:x∈se:=hse;delta fS;dsimp only;exact dy (aq (c:=true) (aa n6 rfl) (aa n4 rfl) (BO HM (by refine(?_:_<4096);omega) (by simp [hse])) rfl) td
  ·rintro x ⟨se,t,I⟩ f aK aB w hse E
   have hlz:se.length<=1000:=(w.lens G).2;have hse:x∉se:=hse;delta fS at E⊢;dsimp only at E⊢;exact ck (aq (c:=false) (aa n6 rfl) (aa n4 rfl) (BO HM (by refine(?_:_<4096);omega) (by simp [hse])) rfl) E
 ·intro cnt s;exact(aa n1 rfl)
 ·rintro rfl
  exact Ht _ _ _ (r8 bV) (keep s') (λl z=>z) (λl o z=> .inl z) (.inl ⟨rfl,True.intro⟩)
 ·rintro L rfl
  exact tI (keep s') (λl z=>z) (λl o z=> .inl z) (.inl ⟨rfl,by exact bo (λx=>cc) _⟩)
noncomputable def SS.prep (q:SS):SS:={q with rd:=some (q.ks.filter λx=>q.np x==0)}
theorem wH (h:V.Ev C k sc ms Z e v aK aB):V.Ev C k sc ms Z (.JoinedStr [e] pos) v aK aB:=λA W env s hr H=>
 BJ (by rfl) (h A W env s hr H)
theorem vI (hr:q.rd=none):((bx b q Z).set ⟨b+6,e0⟩ (.list (r.map .str))).set ⟨b+1,e0⟩ (.dict (sD b {q with rd:=some r}))=bx b {q with rd:=some r} Z:=by
 funext l;by_cases h1:l=⟨b+1,e0⟩
 ·subst h1;rw [V.set_same,dN]
 rw [ao h1];by_cases h6:l=⟨b+6,e0⟩
 ·subst h6;rw [V.set_same,mx rfl]
 rw [ao h6];delta bx;simp only [h1,h6,jh,false_and];rfl
section
variable {cnt:Nat} {Z:V.St} {b:Nat} {q:SS} {x:Str}
theorem Mm:((bx b q Z).set ⟨b+2,e0⟩ (.map (sN b q) cnt)) ⟨b,e0⟩=some (.inst 304 ⟨b+1,e0⟩):=by rw [ao (by exact L1.ku rfl),ew]
theorem Mk:((bx b q Z).set ⟨b+2,e0⟩ (.map (sN b q) cnt)) ⟨b+1,e0⟩=some (.dict (sD b q)):=by rw [ao (by exact L1.ib rfl),dN]
theorem Jz:((bx b q Z).set ⟨b+2,e0⟩ (.map (sN b q) cnt)) ⟨b+2,e0⟩=some (.map (sN b q) cnt):=V.set_same
theorem sm3 (h:x∈q.ks):((bx b q Z).set ⟨b+2,e0⟩ (.map (sN b q) cnt)) ⟨b+3,x⟩=some (.slots 207 ⟨b+4,x⟩ (sI b q x)):=by rw [ao (by exact L1.ib rfl),oz h]
theorem EP:(sN b q).map (·.2)=q.ks.map λx=>AV.loc ⟨b+3,x⟩:=by delta sN;rw [dP];rfl
end
theorem qZ {C:V.Cx} (h:Is C) {k:Nat} {sc:Scope} {Z:V.St} {b:Nat} {q:SS} {cnt:Nat} (G:CX q) (hb:Cl b Z) (hr:q.rd=none) {elt c tgt:Expr} {iter:Expr} {scope:Scope} {pos:Pos} {ms:List (Option AV)} {M:Option Str->List (Option AV)}
  (Mc: ∀g'∈ [(⟨tgt,iter,[c],0⟩:Comprehension)],g'.is_async=0) (hfree:l8 scope= []) (xK:cQ (bD scope)=true) (hM:eY [] ms scope.names.length=M none)
  (hit:V.Ev C k sc ms ((bx b q Z).set ⟨b+2,e0⟩ (.map (sN b q) cnt)) iter (.fld "dict_values" [.loc ⟨b+2,e0⟩]) ms ((bx b q Z).set ⟨b+2,e0⟩ (.map (sN b q) cnt))) (Me: ∀env x,foldedSetIterable iter env x=pure x)
  (ha: ∀o x out,x∈q.ks->V.As C k (bD scope) (M o) (((bx b q Z).set ⟨b+2,e0⟩ (.map (sN b q) cnt)).set ⟨b+6,e0⟩ (.list out)) tgt (.loc ⟨b+3,x⟩) (M (some x)) (((bx b q Z).set ⟨b+2,e0⟩ (.map (sN b q) cnt)).set ⟨b+6,e0⟩ (.list out)))
  (hc: ∀x out,x∈q.ks->V.Tv C k (bD scope) (M (some x)) (((bx b q Z).set ⟨b+2,e0⟩ (.map (sN b q) cnt)).set ⟨b+6,e0⟩ (.list out)) c (q.np x==0) (M (some x)) (((bx b q Z).set ⟨b+2,e0⟩ (.map (sN b q) cnt)).set ⟨b+6,e0⟩ (.list out)))
  (hv: ∀x out,x∈q.ks->V.Ev C k (bD scope) (M (some x)) (((bx b q Z).set ⟨b+2,e0⟩ (.map (sN b q) cnt)).set ⟨b+6,e0⟩ (.list out)) elt (.str x) (M (some x)) (((bx b q Z).set ⟨b+2,e0⟩ (.map (sN b q) cnt)).set ⟨b+6,e0⟩ (.list out))):
  V.Ev C k sc ms ((bx b q Z).set ⟨b+2,e0⟩ (.map (sN b q) cnt)) (.ListComp elt [⟨tgt,iter,[c],0⟩] scope pos) (.loc ⟨b+6,e0⟩) ms (((bx b q Z).set ⟨b+2,e0⟩ (.map (sN b q) cnt)).set ⟨b+6,e0⟩ (.list ((q.ks.filter λx=>q.np x==0).map .str))):=by
 have hx0:=h.hx;have I:=wX (tgt:=tgt) (C:=C) (k:=k) (l:=⟨b+2,e0⟩) (n:=cnt) (es:=sN b q) (kI G.nd) hx0;rw [EP]at I;have e6:((bx b q Z).set ⟨b+2,e0⟩ (.map (sN b q) cnt)) ⟨b+6,e0⟩=none:=by rw [ao (by exact L1.ib rfl),CC hr];exact hb _ (by exact gZ _ _)
 have hcl:=lZ (C:=C) (k:=k) (sc:=bD scope) (enc:=λx=>AV.loc ⟨b+3,x⟩) (val:=AV.str) (p:=λx=>q.np x==0) (M:=M) (Sg:=λout=>((bx b q Z).set ⟨b+2,e0⟩ (.map (sN b q) cnt)).set ⟨b+6,e0⟩ (.list out)) (ok:=λaB=>aB ⟨b+2,e0⟩=some (.map (sN b q) cnt)) (la:=⟨b+6,e0⟩) (elt:=elt) (gens:= [⟨tgt,iter,[c],0⟩]) (scope:=scope) (pos:=pos) (g:=⟨tgt,iter,[c],0⟩) (gw:=q.ks)
  (λout=>by rw [ao (by exact L1.ib rfl)];exact Jz) (λout=>V.set_same) (λout out'=>V.set_set) ha (.inr ⟨c,rfl,hc⟩) (λx out hx u=>hv x out hx) q.ks [] none (λu z=>z) (aV (n:=([]:List AV).length+q.ks.length) (m:=1000) (by have:=G.len;simpa using this) (by decide))
 rw [<-hM]at hcl;exact oW (link:= []) ⟨b+6,e0⟩ ⟨Mc,xb,hfree,xK,hit,I,Jz,Me⟩ e6 hcl rfl
theorem HS {C:V.Cx} (h:Is C) {k:Nat} {Z:V.St} {b:Nat} {q:SS} (G:CX q) (hb:Cl b Z) (hr:q.rd=none) (hfc:V.Cd C (k+1) (bx b q.prep Z) (.ext 294) [.loc ⟨b,e0⟩] [] .none (bx b q.prep Z)):
  V.Cd C (k+2) (bx b q Z) (.ext 259) [.loc ⟨b,e0⟩] [] .none (bx b q.prep Z):=by
 have hx0:=h.hx;refine eB h.ok ⟨⟨_,_,_,by rw [h.K];exact rfl⟩,rfl,rfl,rfl,rfl,by rw [h.K];rfl,rfl,rfl,by decide+kernel⟩ [lo "self",lo "cycle",gi "ValueError",gi "CycleError"] rfl [(Str.ofString "self",.loc ⟨b,e0⟩)] _
  (bR (gx λa0=>rfl) rfl) rfl rfl λsc hF n hn=> ?_
 refine ve hF λn0 n1 n2 n3 _=>?_;clear hF;have hD:sD b q= [(Str.ofString "_node2info",.loc ⟨b+2,e0⟩),(Str.ofString "_ready_nodes",.none),(Str.ofString "_npassedout",.int q.po),(Str.ofString "_nfinished",.int q.nf)]:=by delta sD;rw [hr];rfl
 have hr2:q.prep.rd=some (q.ks.filter λx=>q.np x==0):=rfl;have eN:sN b q.prep=sN b q:=rfl;refine r3 (λy hy=>hy) (λz=>rfl) ?_;refine cw (aq (c:=false) (bE (aa n0 rfl) (xf h hr)) bV (cV fK) rfl) ?_;refine aE (lS (l:=⟨b+2,e0⟩) gW (gW (q:=q.prep)) (λcnt=>by
   have ec:(((((bx b q Z).set ⟨b+2,e0⟩ (.map (sN b q) cnt)).set ⟨b+6,e0⟩ (.list ((q.ks.filter λx=>q.np x==0).map .str))).set ⟨b+1,e0⟩ (.dict (sD b q.prep))))=(bx b q.prep Z).set ⟨b+2,e0⟩ (.map (sN b q) cnt):=by rw [jP (l:=⟨b+2,e0⟩) (l':=⟨b+6,e0⟩) (by exact L1.ib rfl),jP (l:=⟨b+2,e0⟩) (l':=⟨b+1,e0⟩) (by exact L1.ib rfl)];have:=vI (b:=b) (q:=q) (Z:=Z) (r:=q.ks.filter λx=>q.np x==0) hr;rw [show({q with rd:=some (q.ks.filter λx=>q.np x==0)}:SS)=q.prep from rfl]at this;rw [this]
   rw [<-ec];exact(au (qZ h (M:=λo=> [none,o.map λx=>AV.loc ⟨b+3,x⟩]) G hb hr (V.all1 rfl) rfl (by decide+kernel) rfl (aL (bE (aa n0 rfl) (eV h Mm Mk gP g9)) (qO (.inr ⟨cnt,Jz⟩)) ak bp (qh (.inr ⟨cnt,Jz⟩) (kI G.nd))) (λu v=>rfl) (λo x out hx=>(ag (i:=1) rfl rfl)) (λx out hx=>(aq (c:=_) (bE (aa (i:=1) rfl rfl) (sM h (.inr (by rw [ao (by exact L1.ib rfl)];exact sm3 hx)) rfl pf nX)) aC (lM rfl) rfl)) (λx out hx=>(bE (aa (i:=1) rfl rfl) (yG h (.inr (by rw [ao (by exact L1.ib rfl)];exact sm3 hx)) rfl Cp A2)))) (eI (aa n0 rfl) (kN h (d:=⟨b+1,e0⟩) (by rw [ao (by exact L1.ku rfl)];exact Mm) (by rw [ao (by exact L1.ib rfl)];exact Mk)))))) ?_
 refine aE (au (aL (aa n0 rfl) (fM h ew dN) ak (KX h rfl) (V.Cd.ca hfc)) (ag n1 rfl)) ?_;refine cw (aX (b:=false) (aa n1 rfl) tv) ?_;exact j0
theorem Ie {C:V.Cx} (h:Is C) {k:Nat} {Z:V.St} {b:Nat} {q:SS} {L:List Str} (G:CX q) (hb:Cl b Z) (hr:q.rd=none) (hfc:V.Cd C (k+1) (bx b q.prep Z) (.ext 294) [.loc ⟨b,e0⟩] [] (.lst (L.map .str)) (bx b q.prep Z)) (hL:L.isEmpty=false) (hz:L.length<=1000):
  Jx C (k+2) (bx b q Z) (.ext 259) [.loc ⟨b,e0⟩] (.ref 222) [.str (Str.ofString "nodes are in a cycle"),.lst (L.map .str)] (bx b q.prep Z):=by
 have hx0:=h.hx;refine EH h.ok ⟨⟨_,_,_,by rw [h.K];exact rfl⟩,rfl,rfl,rfl,rfl,by rw [h.K];rfl,rfl,rfl,by decide+kernel⟩ [lo "self",lo "cycle",gi "ValueError",gi "CycleError"] rfl [(Str.ofString "self",.loc ⟨b,e0⟩)] _
  (bR (gx λa0=>rfl) rfl) rfl rfl λsc ⟨n0,n1,n2,n3,_⟩ n hn=>M7 (aB:=bx b q.prep Z) ?_ ⟨λu v z=>z,(kh (q:=q) (q':=q.prep) (λy hy=>hy) (λz=>rfl)).1,(kh (q:=q) (q':=q.prep) (λy hy=>hy) (λz=>rfl)).2,?_⟩
 have hD:sD b q= [(Str.ofString "_node2info",.loc ⟨b+2,e0⟩),(Str.ofString "_ready_nodes",.none),(Str.ofString "_npassedout",.int q.po),(Str.ofString "_nfinished",.int q.nf)]:=by delta sD;rw [hr];rfl
 have hr2:q.prep.rd=some (q.ks.filter λx=>q.np x==0):=rfl;have eN:sN b q.prep=sN b q:=rfl;refine IB (aq (c:=false) (bE (aa n0 rfl) (xf h hr)) bV (cV fK) rfl) ?_;refine xZ (lS (l:=⟨b+2,e0⟩) gW (gW (q:=q.prep)) (λcnt=>by
   have ec:(((((bx b q Z).set ⟨b+2,e0⟩ (.map (sN b q) cnt)).set ⟨b+6,e0⟩ (.list ((q.ks.filter λx=>q.np x==0).map .str))).set ⟨b+1,e0⟩ (.dict (sD b q.prep))))=(bx b q.prep Z).set ⟨b+2,e0⟩ (.map (sN b q) cnt):=by rw [jP (l:=⟨b+2,e0⟩) (l':=⟨b+6,e0⟩) (by exact L1.ib rfl),jP (l:=⟨b+2,e0⟩) (l':=⟨b+1,e0⟩) (by exact L1.ib rfl)];have:=vI (b:=b) (q:=q) (Z:=Z) (r:=q.ks.filter λx=>q.np x==0) hr;rw [show({q with rd:=some (q.ks.filter λx=>q.np x==0)}:SS)=q.prep from rfl]at this;rw [this]
   rw [<-ec];exact(au (qZ h (M:=λo=> [none,o.map λx=>AV.loc ⟨b+3,x⟩]) G hb hr (V.all1 rfl) rfl (by decide+kernel) rfl (aL (bE (aa n0 rfl) (eV h Mm Mk gP g9)) (qO (.inr ⟨cnt,Jz⟩)) ak bp (qh (.inr ⟨cnt,Jz⟩) (kI G.nd))) (λu v=>rfl) (λo x out hx=>(ag (i:=1) rfl rfl)) (λx out hx=>(aq (c:=_) (bE (aa (i:=1) rfl rfl) (sM h (.inr (by rw [ao (by exact L1.ib rfl)];exact sm3 hx)) rfl pf nX)) aC (lM rfl) rfl)) (λx out hx=>(bE (aa (i:=1) rfl rfl) (yG h (.inr (by rw [ao (by exact L1.ib rfl)];exact sm3 hx)) rfl Cp A2)))) (eI (aa n0 rfl) (kN h (d:=⟨b+1,e0⟩) (by rw [ao (by exact L1.ku rfl)];exact Mm) (by rw [ao (by exact L1.ib rfl)];exact Mk)))))) ?_
 refine xZ (au (aL (aa n0 rfl) (fM h ew dN) ak (KX h rfl) (V.Cd.ca hfc)) (ag n1 rfl)) ?_;refine Ip (aX (b:=true) (aa n1 rfl) (fH (.lst _) (aV (m:=1000) (by rw [bw];exact hz) (by decide)) (by rw [List.isEmpty_map,hL];rfl))) ?_;exact EJ (xk h.ok (c:=222) (newId:="ValueError.__new__") PySem.F.excBase_ValueError (by decide) PySem.F.excBase_ValueError (DX h) (by decide) (ar h.ok n3 (l7 h)) (af (wH aW) (af (aa n1 rfl) ak)) (dX rfl) (λu=>rfl) hx0)
 ·exact⟨True.intro,bo (λx=>cc) _,True.intro⟩
noncomputable def hd (p:Str×Str):AV:= .tup [.str p.1,.str p.2]
noncomputable def cB (t:Nat) (hs:List (Str×Str)) (Z:V.St):V.St:=λl=>
 if l=⟨t,e0⟩then some (.inst 184 ⟨t+1,e0⟩)else if l=⟨t+1,e0⟩then some (.dict [("_headers",.loc ⟨t+2,e0⟩)])else if l=⟨t+2,e0⟩then some (.list (hs.map hd))else Z l
section
variable {t:Nat} {hs hs':List (Str×Str)} {Z:V.St}
theorem m7:cB t hs Z ⟨t,e0⟩=some (.inst 184 ⟨t+1,e0⟩):=by delta cB;simp
theorem mj:cB t hs Z ⟨t+1,e0⟩=some (.dict [("_headers",.loc ⟨t+2,e0⟩)]):=by delta cB;simp
theorem kS:cB t hs Z ⟨t+2,e0⟩=some (.list (hs.map hd)):=by delta cB;simp
theorem F3:(cB t hs Z).set ⟨t+2,e0⟩ (.list (hs'.map hd))=cB t hs' Z:=by
 funext l;by_cases h:l=⟨t+2,e0⟩
 ·subst h;rw [V.set_same,kS]
 ·rw [ao h];delta cB;simp only [h,jh]
theorem lV (h:l.tag<t\/t+2<l.tag):cB t hs Z l=Z l:=by delta cB;rw [ay (λe=>by rw [e]at h;simp only at h;omega),ay (λe=>by rw [e]at h;simp only at h;omega),ay (λe=>by rw [e]at h;simp only at h;omega)]
theorem fX (h:l.tag<t\/t+2<l.tag):(cB t hs Z).set l o=cB t hs (Z.set l o):=by
 funext x;by_cases e:x=l
 ·subst e;rw [V.set_same,lV h,V.set_same]
 ·rw [ao e];delta cB;rw [ao e]
theorem ot:(cB t hs Z l).isSome=(cB t hs' Z l).isSome:=by delta cB;split;rfl;split;rfl;split;rfl;rfl
theorem CD:(hd p).Ba:=xT λD=>⟨True.intro,True.intro,True.intro⟩
theorem H3:Gm (cB t hs Z) (cB t hs' Z):=λl h=>by rw [ot (hs':=hs)];exact h
theorem IG:Gr (λl=>(cB t hs' Z l).isSome=true) (cB t hs Z) (cB t hs' Z):=λl o h=>by
 by_cases h0:l=⟨t,e0⟩
 ·subst h0;left;rw [m7]at h⊢;exact h
 by_cases h1:l=⟨t+1,e0⟩
 ·subst h1;left;rw [mj]at h⊢;exact h
 by_cases h2:l=⟨t+2,e0⟩
 ·subst h2;rw [kS]at h;obtain rfl:=dI h;right;exact bo (λp=>CD) _
 left;delta cB at h⊢;simpa only [h0,h1,h2,jh]using h
theorem oq {Nz Oe:V.St} {l:V.Loc} {o:AO} (h: ∀x y,Nz x=some y->Oe x=some y) (hn:Nz l=none): ∀x y,Nz x=some y->(Oe.set l o) x=some y:=λx y e=>by rw [ao (λz=>by rw [z,hn]at e;exact dF e)];exact h x y e
end
theorem yH (h1:V.Go C k sc ms ae body .next cP) (hk: ∀l o,cB t hs' Z l=some o->cP l=some o): ∃f aK cP,V.Ex C k sc ms ae body f aK cP/\V.Exit (cB t hs Z) cP f .none (cB t hs' Z):=
 gQ h1 ⟨hk,H3,IG,.inr (.inr ⟨rfl,rfl⟩)⟩
structure Ka (x:Str):Prop where
 len:x.length<=200
 ok:x.cps.all nO=true
theorem Am (h:Z l=some (.list xs)):IM C Z (.loc l) "list":=λW s ro I q=>by refine gB ((V.IsL.loc h).list q I) λla vs hl ks=>hl.typeIs
theorem FC (h:Is C) (h2:Z ⟨t+2,e0⟩=none):
  V.Cd C (k+1) ((Z.set ⟨t+1,e0⟩ (.dict [])).set ⟨t,e0⟩ (.inst 184 ⟨t+1,e0⟩)) (.ext 76) [.loc ⟨t,e0⟩] [] .none (cB t [] Z):=by
 have hx0:=h.hx;refine eB h.ok ⟨⟨_,_,_,by rw [h.K];exact rfl⟩,rfl,rfl,rfl,rfl,by rw [h.K];rfl,rfl,rfl,by decide+kernel⟩ [lo "self",lo "headers",lo "k",lo "v",gi "type",gi "list",gi "TypeError",gi "__debug__"] rfl [("self",.loc ⟨t,e0⟩),("headers",.none)] _
  (rY h.ok (da:=69) (as:= [.loc ⟨t,e0⟩]) (Mw:= [.none]) (by rw [h.K];exact rfl) (gx λa0=>⟨_,by exact rfl,by exact rfl⟩) rfl (λW=> .cons c5 .nil)) rfl rfl λsc hF n hn=> ?_
 refine tJ hF λn0 n1 n2 n3 n4 n5 n6 n7 _=>?_;clear hF;have m1:(⟨t,e0⟩:V.Loc)≠⟨t+1,e0⟩:=by exact L1.ku rfl
 have m2:(⟨t,e0⟩:V.Loc)≠⟨t+2,e0⟩:=by exact L1.ku rfl
 have m3:(⟨t+1,e0⟩:V.Loc)≠⟨t+2,e0⟩:=by exact L1.ib rfl
 have st:(((Z.set ⟨t+1,e0⟩ (.dict [])).set ⟨t,e0⟩ (.inst 184 ⟨t+1,e0⟩)).set ⟨t+2,e0⟩ (.list [])).set ⟨t+1,e0⟩ (.dict [("_headers",.loc ⟨t+2,e0⟩)])=cB t [] Z:=by
  funext l;delta cB V.St.set;by_cases h0:l=⟨t,e0⟩
  ·subst h0;simp
  by_cases h1:l=⟨t+1,e0⟩
  ·subst h1;simp
  by_cases h2:l=⟨t+2,e0⟩
  ·subst h2;simp
  simp [h0,h1,h2]
 have hl2:(((Z.set ⟨t+1,e0⟩ (.dict [])).set ⟨t,e0⟩ (.inst 184 ⟨t+1,e0⟩)).set ⟨t+2,e0⟩ (.list [])) ⟨t+2,e0⟩=some (.list []):=V.set_same;refine l9 (aB:=cB t [] Z) ?_ ?_ ?_
 ·refine aE (au (b9 (b:=false) (aq (c:=false) (aa n1 rfl) bV (cV fK) rfl) (dU ⟨t+2,e0⟩ ak (dW _) (by rw [ao m2.symm,ao m3.symm];exact h2))) (ag n1 rfl)) ?_;refine cw (aq (c:=false) (aD (ar h.ok n4 (rW h)) (af (aa n1 rfl) ak) cK (s7 (Am hl2) (by decide))) (ar h.ok n5 (He h)) (CP rfl rfl) rfl) ?_;refine aE (au (aa n1 rfl) (eI (aa n0 rfl) (zb h (d:=⟨t+1,e0⟩) (by rw [ao m2,V.set_same]) (by rw [ao m3,ao m1.symm,V.set_same])))) ?_;rw [st];refine fD (aX (b:=true) dR cp) ?_;exact aE (jq (f:= .next) (aa n1 rfl) (iU (xs:= [])) (.loc kS) (V.Lr.nil (.loc kS)) (λu w=>rfl)) j0
 ·rw [<-st];exact .set (.set .refl)
 ·intro l o hl;by_cases h0:l=⟨t,e0⟩
  ·subst h0;rw [m7]at hl;obtain rfl:=dI hl;right;refine(?_:(cB t [] Z ⟨t+1,e0⟩).isSome=true);rw [mj];rfl
  ·by_cases h1:l=⟨t+1,e0⟩
   ·subst h1;rw [mj]at hl;obtain rfl:=dI hl;right;intro p hp;rcases hp with _ | ⟨_,hp⟩
    ·refine(?_:(cB t [] Z ⟨t+2,e0⟩).isSome=true);rw [kS];rfl
    ·exact je hp
   ·by_cases Gk:l=⟨t+2,e0⟩
    ·subst Gk;rw [kS]at hl;obtain rfl:=dI hl;right;simp [V.AO.In,V.AV.mh]
    ·left;rw [ao h0,ao h1];delta cB at hl;simpa only [h0,h1,Gk,jh]using hl
structure Mu (C:V.Cx):Prop extends Is C where
 lb:0<C.lb
noncomputable def esc (v:Str):Str:=Txt.replace (Txt.replace v "\\" "\\\\") "\"" "\\\""
noncomputable def uB (p v:Str):Str:=if decide ((v.length:Int)>0)=true then p++"=\""++esc v++"\""else p
theorem yx (h:v.length<=n):(esc v).length<=9 * n+8:=by
 have z:=kc (y:=Str.ofString "\"") (z:=Str.ofString "\\\"") (kc (y:=Str.ofString "\\") (z:=Str.ofString "\\\\") (x:=v) h);have e1:(Str.ofString "\\\\").length=2:=by rfl
 have e2:(Str.ofString "\\\"").length=2:=by rfl
 rw [e1,e2]at z;delta esc;delta V.B at z;omega
theorem JR (h:Mu C) (hp:V.B p 100) (hv:V.B v 100):
  V.Ca C (k+1) Z (.ext 61) [.str p,.str v] [] (.str (uB p v)) Z:=by
 have hx0:=h.hx;refine lQ h.ok ⟨⟨_,_,_,by rw [h.K];exact rfl⟩,rfl,rfl,rfl,rfl,by rw [h.K];rfl,rfl,rfl,by decide+kernel⟩ [lo "param",lo "value",lo "quote",gi "len",gi "tspecials"] rfl [("param",.str p),("value",.str v),("quote",.int 1)] _
  (rY h.ok (as:= [.str p,.str v]) (Mw:= [.int 1]) (da:=54) (by rw [h.K];exact rfl) (Aq λa0 a1=>⟨_,by exact rfl,by exact rfl⟩) rfl (λW=> .cons b8 .nil)) rfl rfl λsc hF n hn=> ?_
 refine GU hF λn0 n1 n2 n3 n4 _=>?_;clear hF;refine iF ?_;have Of:V.B (esc v) 1000:=bU (yx hv) (by decide);have hv2:V.B (Txt.replace (Txt.replace v "\\" "\\\\") "\"" "\\\"") 1000:=Of;have he:V.B Str.empty 0:=bT _;delta uB;rcases hne:decide ((v.length:Int)>0)with _ | _
 ·rw [ay dM];refine cw (aY (cg (aq (c:=true) (aa n1 rfl) bV (cV rD) rfl) (b7 (aq (c:=false) (aD (ar h.ok n3 (fB h.toIs)) (af (aa n1 rfl) ak) bp (kf hv (by decide))) aC (Cw hne) rfl)))) ?_;exact bP (aa n0 rfl)
 ·rw [aF rfl];refine fD (aY (cg (aq (c:=true) (aa n1 rfl) bV (cV rD) rfl) (cg (aq (c:=true) (aD (ar h.ok n3 (fB h.toIs)) (af (aa n1 rfl) ak) bp (kf hv (by decide))) aC (Cw hne) rfl) f9))) ?_;refine fD (aY (c8 (aX (b:=true) (aa n2 rfl) (cY rfl)))) ?_;refine aE (au (ji (ji (aa n1 rfl) h.lb (by decide+kernel) hv (by decide) (by decide+kernel) (λu w=>rfl) rfl) h.lb (by decide+kernel) (kc hv) (by decide) (by decide+kernel) (λu w=>rfl) rfl) (ag n1 rfl)) ?_;rw [show p++"=\""++esc v++"\""=Str.empty++p++"=\""++esc v++"\"" by rw [wB]];exact bP (Ao (nE (xY (aa n0 rfl) hp (by decide)) (by kln_le) (by decide) (nE aW (by kln_le) (by decide) (nE (xY (aa n1 rfl) Of (by decide)) (by kln_le) (by decide) (nE aW (by kln_le) (by decide) Hs)))) (by kln_le) (by decide))
noncomputable def ov (v:Option Str):AV:=v.elim .none .str
noncomputable def pj (k:Str):Str:=Txt.replace k "_" "-"
noncomputable def fv (p:Str×Option Str):Str:=p.2.elim (pj p.1) (uB (pj p.1))
noncomputable def hval (own:Option Str) (kw:List (Str×Option Str)):Str:=Txt.join "; " (own.toList++kw.map fv)
structure KQ (p:Str×Option Str):Prop where
 kl:p.1.length<=20
 ko:p.1.cps.all nO=true
 vl: ∀v,p.2=some v->v.length<=100/\v.cps.all nO=true
noncomputable def tN:Str:="by_0"
noncomputable def AG:Str:="by_1"
noncomputable def gM:Str:="as_it_is"
noncomputable def keysOk (kw:List (Str×Option Str)):Prop:=kw.map (·.1)= []\/kw.map (·.1)= [tN]\/kw.map (·.1)= [tN,AG]\/kw.map (·.1)= [gM]\/kw.map (·.1)= [tN,gM]\/kw.map (·.1)= [tN,AG,gM]
noncomputable def jG (kw:List (Str×Option Str)):List (Str×AV):=kw.map λp=>(p.1,ov p.2)
theorem uj (kw:List (Str×Option Str)):(jG kw).map (·.1)=kw.map (·.1):=by delta jG;rw [dP];rfl
theorem keysOk.dn (h:keysOk kw):V.DN (jG kw):=by
 delta V.DN;rw [uj];rcases h with h | h | h | h | h | h<;>rw [h]<;>decide+kernel
theorem keysOk.len (h:keysOk kw):kw.length<=3:=by
 rw [<-bw (f:=(·.1))];rcases h with h | h | h | h | h | h<;>rw [h]<;>decide
theorem vO {α:Type} {l:List (Str×α)} {a:Str} (h:l.map (·.1)= [a]): ∃v,l= [(a,v)]:=by
 cases l with
 | nil=>exact H5 h
 | cons p r=>
  cases r with
  | nil=>simp at h;exact⟨p.2,by rw [<-h]⟩
  | cons=>simp at h
theorem xQ {α:Type} {l:List (Str×α)} {a:Str} {r:List Str} (h:l.map (·.1)=a::r): ∃v t,l=(a,v)::t/\t.map (·.1)=r:=by
 cases l with
 | nil=>exact H5 h
 | cons p t=>simp at h;exact GP p.2 t (by rw [<-h.1]) h.2
theorem uo (h:k.length<=20):(pj k).length<=41:=by
 have z:=kc (y:=Str.ofString "_") (z:=Str.ofString "-") (x:=k) h;have e1:(Str.ofString "-").length=1:=by rfl
 rw [e1]at z;delta pj;delta V.B at z;omega
theorem CV (hp:p.length<=41) (hv:v.length<=100):(uB p v).length<=960:=by
 have z:=yx hv;delta uB;split
 ·have b:V.B (p++"=\""++esc v++"\"") (41+2+908+1):=fQ (fQ (fQ hp (iV rfl)) z) (iV rfl);exact bU b (by decide)
 ·omega
theorem vM (h:KQ p):(fv p).length<=1000:=by
 obtain⟨a,v⟩:=p;have z:=uo h.kl;cases v with
 | none=>exact bU z (by decide)
 | some v=>exact bU (CV z (h.vl v rfl).1) (by decide)
theorem HE {C:V.Cx} (h:Mu C) {k:Nat} {Z:V.St} {t d:Nat} {hs:List (Str×Str)} {x:Str} {own:Option Str} {kw:List (Str×Option Str)} (hd0:cB t hs Z ⟨d,e0⟩=none) (hx:Ka x) (hy: ∀y,own=some y->Ka y) (hkw: ∀p∈kw,KQ p) (hks:keysOk kw) (hz:hs.length<=1000):
  V.Cd C (k+2) (cB t hs Z) (.ext 181) [.loc ⟨t,e0⟩,.str x,ov own] (jG kw) .none (cB t (hs++ [(x,hval own kw)]) Z):=by
 have hx0:=h.hx;have hdn:=hks.dn;refine eB h.ok ⟨⟨_,_,_,by rw [h.K];exact rfl⟩,rfl,rfl,rfl,rfl,by rw [h.K];rfl,rfl,rfl,by decide+kernel⟩ [lo "self",lo "_name",lo "_value",lo "_params",lo "parts",lo "k",lo "v",gi "_formatparam"] rfl ([(Str.ofString "self",.loc ⟨t,e0⟩),(Str.ofString "_name",.str x),(Str.ofString "_value",ov own)]++ [(Str.ofString "_params",.loc ⟨d,e0⟩)]) _
  (Ap (as:= [.loc ⟨t,e0⟩,.str x,ov own]) (bs:= [(Str.ofString "self",.loc ⟨t,e0⟩),(Str.ofString "_name",.str x),(Str.ofString "_value",ov own)]) (kw:=jG kw) hd0 hdn (Fy λa0 a1 a2 fp hk=>⟨λd p u=>nsSet d p.1 p.2>>=λu=>pure (.yield ⟨⟩),by
   rw [uj]at hk;rcases hks with e | e | e | e | e | e
   ·obtain rfl:=List.map_eq_nil_iff.mp (hk.trans e);rfl
   ·refine fh (vO (hk.trans e)) λv=>?_;rfl
   ·refine LP (xQ (hk.trans e)) λv t e1=>fh (vO e1) λv'=>?_;rfl
   ·refine fh (vO (hk.trans e)) λv=>?_;rfl
   ·refine LP (xQ (hk.trans e)) λv t e1=>fh (vO e1) λv'=>?_;rfl
   ·refine LP (xQ (hk.trans e)) λv t e1=>LP (xQ e1) λv' t' e2=>fh (vO e2) λv''=>?_;rfl,λu w g r=>rfl⟩) rfl) rfl rfl λsc hF n hn=> ?_
 refine tJ hF λn0 n1 n2 n3 n4 n5 n6 n7 _=>?_;clear hF;have hkz:=hks.len;have dn: ∀i,i<=2->d≠t+i:=λi hi e=>by
  rcases i with _ | _ | _ | i
  ·rw [e]at hd0;exact absurd (m7.symm.trans hd0) (by simp)
  ·rw [e]at hd0;exact absurd (mj.symm.trans hd0) (by simp)
  ·rw [e]at hd0;exact absurd (kS.symm.trans hd0) (by simp)
  ·omega
 have dd:d<t\/t+2<d:=by have:=dn 0 (by decide);have:=dn 1 (by decide);have:=dn 2 (by decide);omega
 have hnt:t+2<n:=by
  refine aP (oh (t+2) n) (λz=>?_) λz=>?_
  ·exact z
  ·have:=hn ⟨t+2,e0⟩ z;rw [kS]at this;exact sa this
 have m0:n+d+1≠d:=by omega
 have mt:t+2<n+d+1:=by omega
 have fm:((cB t hs Z).set ⟨d,e0⟩ (.dict (jG kw))) ⟨n+d+1,e0⟩=none:=by rw [ao (by simpa using m0)];exact hn _ (by refine(?_:n<=n+d+1);omega)
 rw [fX (l:=⟨d,e0⟩) dd]at fm⊢;have lp: ∀(o:AO) (vs:List AV),(cB t hs ((Z.set ⟨d,e0⟩ o).set ⟨n+d+1,e0⟩ (.list vs))) ⟨n+d+1,e0⟩=some (.list vs):=λo vs=>by rw [lV (.inr mt),V.set_same]
 have ld: ∀(o:AO) (vs:List AV),(cB t hs ((Z.set ⟨d,e0⟩ o).set ⟨n+d+1,e0⟩ (.list vs))) ⟨d,e0⟩=some o:=λo vs=>by rw [lV dd,ao (by simp;omega),V.set_same]
 have em: ∀(o:AO) (vs:List AV),((cB t hs ((Z.set ⟨d,e0⟩ (.dict (jG kw))).set ⟨n+d+1,e0⟩ (.list vs)))).set ⟨d,e0⟩ o=(cB t hs ((Z.set ⟨d,e0⟩ o).set ⟨n+d+1,e0⟩ (.list vs))):=λo vs=>by rw [fX (l:=⟨d,e0⟩) dd,jP (by simp;omega),V.set_set]
 have ap: ∀(o:AO) (vs:List AV) (v:AV),vs.length<=1000->V.Ca C (k+1) (cB t hs ((Z.set ⟨d,e0⟩ o).set ⟨n+d+1,e0⟩ (.list vs))) (.bi "list.append") [.loc ⟨n+d+1,e0⟩,v] [] .none (cB t hs ((Z.set ⟨d,e0⟩ o).set ⟨n+d+1,e0⟩ (.list (vs++ [v])))):=λo vs v hv=>by
  have z:=dJ (C:=C) (k:=k+1) (x:=v) (lp o vs) (aV hv (by decide))
  rwa [fX (l:=⟨n+d+1,e0⟩) (.inr mt),V.set_set]at z
 refine yH (cP:=cB t (hs++ [(x,hval own kw)]) ((Z.set ⟨d,e0⟩ (.dict (jG kw))).set ⟨n+d+1,e0⟩ (.list ((own.toList++kw.map fv).map .str)))) ?_ ?_
 ·refine aE (au (dU ⟨n+d+1,e0⟩ ak (dW _) fm) (ag n4 rfl)) ?_;rw [fX (l:=⟨n+d+1,e0⟩) (.inr mt)];refine aE (ai:= [some (.loc ⟨t,e0⟩),some (.str x),some (ov own),some (.loc ⟨d,e0⟩),some (.loc ⟨n+d+1,e0⟩),none,none,none]) (ae:=(cB t hs ((Z.set ⟨d,e0⟩ (.dict (jG kw))).set ⟨n+d+1,e0⟩ (.list (own.toList.map .str))))) ?_ ?_
  ·cases own with
   | none=>exact rj (b:=false) (aq (c:=false) (aa n2 rfl) bV (cV fK) rfl) bA
   | some y=>have hy1:=hy y rfl;exact rj (b:=true) (aq (c:=true) (aa n2 rfl) bV (cV rD) rfl) (aJ (au (gR (aa n0 rfl) (cJ h.toIs m7 mj) (af (aa n2 rfl) ak) (nK (n:=Str.ofString "name") dR nY) (KX h.toIs rfl) (sQ h.toIs (b:=false) (bU hy1.len (by decide)) hy1.ok) (λu w=>rfl) (λu=>rfl) rfl (λu=>rfl) (λu=>rfl) (λu=>rfl)) (ag n2 rfl)) (aJ (cv (aL (aa n4 rfl) (eu (lp _ _)) (af (aa n2 rfl) ak) bp (ap _ [] (.str y) (dW _)))) bA))
  have ol:own.toList.length<=1:=by cases own<;>simp
  have oy: ∀y∈own.toList,y.length<=1000:=λy hy'=>bU (hy y (by simpa using hy')).len (by decide);have pr: ∀(xs:List (Str×Option Str)) (z:List Str×Option (Str×Option Str)),(xs.foldl (λ(a:List Str×Option (Str×Option Str)) p=>(a.1++ [fv p],some p)) z).1=z.1++xs.map fv:=by
   intro xs
   induction xs with
   | nil=>intro z;simp
   | cons x xs ih=>intro z;rw [cW,ih];simp
  obtain⟨zl,Pr⟩: ∃zl:Option (Str×Option Str),zl=(kw.foldl (λ(a:List Str×Option (Str×Option Str)) p=>(a.1++ [fv p],some p)) (own.toList,none)).2:=⟨_,rfl⟩;have ek:(jG kw).map (λp=>AV.tup [.str p.1,p.2])=kw.map λp=>AV.tup [.str p.1,ov p.2]:=by delta jG;rw [dP];rfl
  refine aE (ai:= [some (.loc ⟨t,e0⟩),some (.str x),some (ov own),some (.loc ⟨d,e0⟩),some (.loc ⟨n+d+1,e0⟩),zl.map λp=> .str p.1,zl.map λp=>ov p.2,none]) (ae:=(cB t hs ((Z.set ⟨d,e0⟩ (.dict (jG kw))).set ⟨n+d+1,e0⟩ (.list ((own.toList++kw.map fv).map .str))))) (lS (l:=⟨d,e0⟩) (ld _ _) (ld _ _) (λcnt=> ?_)) ?_
  ·rw [em,em];have I:=zO (C:=C) (k:=k+1) (l:=⟨d,e0⟩) (n:=cnt) hdn hx0;rw [ek]at I;refine EX (aL (aa n3 rfl) (B3 (.inr ⟨cnt,ld _ _⟩)) ak bp (D7 (.inr ⟨cnt,ld _ _⟩) hdn)) I (ld _ _) (ML (C:=C) (k:=k+1) (sc:=sc) (ok:=λaB=>aB ⟨d,e0⟩=some (.map (jG kw) cnt)) (enc:=λp:Str×Option Str=>AV.tup [.str p.1,ov p.2])
     (M:=λ(a:List Str×Option (Str×Option Str))=> [some (.loc ⟨t,e0⟩),some (.str x),some (ov own),some (.loc ⟨d,e0⟩),some (.loc ⟨n+d+1,e0⟩),a.2.map λp=> .str p.1,a.2.map λp=>ov p.2,none])
     (Sg:=λa=>(cB t hs ((Z.set ⟨d,e0⟩ (.map (jG kw) cnt)).set ⟨n+d+1,e0⟩ (.list (a.1.map .str))))) (step:=λa p=>(a.1++ [fv p],some p)) (P:=λa xs=>a.1.length+xs.length<=100/\ ∀p∈xs,KQ p)
     (λu w g=>ld _ _) (λa p xs hP=>⟨by have:=hP.1;simp only [cS,cq,ip]at this⊢;omega,λq hq=>hP.2 q (.tail _ hq)⟩) ?_ kw (own.toList,none) ⟨by refine(?_:own.toList.length+kw.length<=100);omega,hkw⟩ (z:=(own.toList++kw.map fv,zl)) (Prod.ext (pr _ _) Pr.symm)) (λu w=>rfl)
   rintro ⟨a,o⟩ ⟨kk,vv⟩ xs ⟨hl,hok⟩
   have hp:=hok _ (.head _);have al:(a.map AV.str).length<=1000:=by rw [bw];have:a.length+((kk,vv)::xs).length<=100:=hl;omega
   refine GP _ _ (iT (cC (ag n5 rfl) (cC (ag n6 rfl) ke)) rfl (λu=>rfl) (λu=>rfl) hx0) ?_;refine aJ (au (gR (aa n0 rfl) (cJ h.toIs m7 mj) (af (aa n5 rfl) ak) (nK (n:=Str.ofString "name") dR nY) (KX h.toIs rfl) (sQ h.toIs (b:=true) (bU hp.kl (by decide)) hp.ko) (λu w=>rfl) (λu=>rfl) rfl (λu=>rfl) (λu=>rfl) (λu=>rfl)) (ag n5 rfl)) ?_;have kb:V.B kk 20:=hp.kl;have ea: ∀y,(a++ [y]).map AV.str=a.map AV.str++ [.str y]:=λy=>by rw [e9];rfl
   have hpv:=hp.vl;cases vv with
   | none=>refine dy (aq (c:=true) (aa n6 rfl) bV (gA fK) rfl) ?_;dsimp only [fv,Option.elim];rw [ea];exact aJ (cv (aL (aa n4 rfl) (eu (lp _ _)) (af (ji (aa n5 rfl) h.lb (by decide+kernel) kb (by decide) (by decide+kernel) (λu w=>rfl) rfl) ak) bp (ap _ _ (.str (pj kk)) al))) bA
   | some vs=>have hv:=hpv vs rfl;refine ck (aq (c:=false) (aa n6 rfl) bV (gA rD) rfl) ?_;refine aJ (au (gR (aa n0 rfl) (cJ h.toIs m7 mj) (af (aa n6 rfl) ak) (nK (n:=Str.ofString "name") dR nY) (KX h.toIs rfl) (sQ h.toIs (b:=false) (bU hv.1 (by decide)) hv.2) (λu w=>rfl) (λu=>rfl) rfl (λu=>rfl) (λu=>rfl) (λu=>rfl)) (ag n6 rfl)) ?_;dsimp only [fv,Option.elim];rw [ea];have db:V.B (pj kk) 100:=bU (uo hp.kl) (by decide);exact aJ (cv (aL (aa n4 rfl) (eu (lp _ _)) (af (aD (ar h.ok n7 (oJ h.toIs)) (af (ji (aa n5 rfl) h.lb (by decide+kernel) kb (by decide) (by decide+kernel) (λu w=>rfl) rfl) (af (aa n6 rfl) ak)) (KX h.toIs rfl) (JR h (k:=k) db hv.1)) ak) bp (ap _ _ (.str (uB (pj kk) vs)) al))) bA
  have z:=dJ (C:=C) (k:=k+1) (x:=hd (x,hval own kw)) (kS (t:=t) (hs:=hs) (Z:=(Z.set ⟨d,e0⟩ (.dict (jG kw))).set ⟨n+d+1,e0⟩ (.list ((own.toList++kw.map fv).map .str)))) (aV (m:=1000) (by rw [bw];exact hz) (by decide));rw [show hs.map hd++ [hd (x,hval own kw)]=(hs++ [(x,hval own kw)]).map hd by rw [e9];rfl,F3]at z;have jn:=xg (C:=C) (k:=k+1) (x:=Str.ofString "; ") (xs:=own.toList++kw.map fv) (.loc (lp (.dict (jG kw)) ((own.toList++kw.map fv).map .str))) (qU (by decide) (λy hy'=>by
   refine aP (cu.mp hy') (λq=>?_) λq=>?_
   ·exact oy y q
   ·refine kK (bM.mp q) λp hp=>?_;exact vM (hkw p hp)) (by rw [cS,bw];omega))
  exact aE (cv (aL (bE (aa n0 rfl) (ql h.toIs m7 mj gP g9)) (eu kS) (af (cU (af (gR (aa n0 rfl) (cJ h.toIs m7 mj) (af (aa n1 rfl) ak) (nK (n:=Str.ofString "name") dR nY) (KX h.toIs rfl) (sQ h.toIs (b:=true) (bU hx.len (by decide)) hx.ok) (λu w=>rfl) (λu=>rfl) rfl (λu=>rfl) (λu=>rfl) (λu=>rfl)) (af (aL aW we (af (aa n4 rfl) ak) bp jn) ak)) (dX rfl)) ak) bp z)) j0
 ·intro l o e;have i1:(cB t hs Z l).isSome=true:=by rw [ot (hs':=hs++ [(x,hval own kw)]),e];rfl
  have e1:l≠⟨n+d+1,e0⟩:=λz=>by rw [z,hn _ (by refine(?_:n<=n+d+1);omega)]at i1;exact tK i1
  have e2:l≠⟨d,e0⟩:=λz=>by rw [z,hd0]at i1;exact tK i1
  rw [<-fX (l:=⟨n+d+1,e0⟩) (.inr mt),<-fX (l:=⟨d,e0⟩) dd,ao e1,ao e2];exact e
noncomputable def lineOf (p:Str×Str):Str:=p.1++": "++p.2
noncomputable def kB (hs:List (Str×Str)):Str:=Txt.join (Str.ofString "\r\n") (hs.map lineOf++ [Str.ofString "",Str.ofString ""])
structure wh (hs:List (Str×Str)):Prop where
 len:hs.length<=100
 row: ∀p∈hs,p.1.length<=200/\p.2.length<=10000
theorem uP (h:wh hs): ∀y∈hs.map lineOf++ [Str.ofString "",Str.ofString ""],y.length<=10202:=λy hy=>by
 refine aP (cu.mp hy) (λq=>?_) λq=>?_
 ·refine kK (bM.mp q) λp hp=>bI (h.row p hp) λa b=>fQ (fQ a (iV (n:=2) rfl)) b
 ·have:y=Str.ofString "":=by simpa using q
  subst this;decide
theorem ma (h:wh hs):V.B (kB hs) 1100000:=by
 have z:=yq (x:=Str.ofString "\r\n") (uP h);refine bU z ?_;have e:(Str.ofString "\r\n").length=2:=by rfl
 have l:(hs.map lineOf++ [Str.ofString "",Str.ofString ""]).length<=102:=by rw [cS,bw];have:=h.len;refine(?_:hs.length+2<=102);omega
 have:=wC l (bT (10202+(Str.ofString "\r\n").length));rw [e]at this⊢;omega
theorem J7 (h:Is C) (ho:wh hs):
  V.Cd C (k+1) (cB t hs Z) (.ext 160) [.loc ⟨t,e0⟩] [] (.str (kB hs)) (cB t hs Z):=by
 have hx0:=h.hx;refine eB h.ok ⟨⟨_,_,_,by rw [h.K];exact rfl⟩,rfl,rfl,rfl,rfl,by rw [h.K];rfl,rfl,rfl,by decide+kernel⟩ [lo "self"] rfl [(Str.ofString "self",.loc ⟨t,e0⟩)] _
  (bR (gx λa0=>rfl) rfl) rfl rfl λsc hF n hn=> ?_
 refine bI hF λn0 _=>?_;clear hF;refine iF ?_;have zl:(hs.map lineOf++ [Str.ofString "",Str.ofString ""]).length<=102:=by rw [cS,bw];have:=ho.len;refine(?_:hs.length+2<=102);omega
 have jn:=xg (C:=C) (k:=k) (Z:=cB t hs Z) (x:=Str.ofString "\r\n") (xs:=hs.map lineOf++ [Str.ofString "",Str.ofString ""]) (v:= .lst (((hs.map lineOf).map .str)++ [.str (Str.ofString ""),.str (Str.ofString "")])) (by rw [e9];exact .lst _) (wc (uP ho) (by
  have e:(Str.ofString "\r\n").length=2:=by rfl
  rw [e];exact bU (wC zl (bT _)) (by decide)))
 refine bP (aL aW we (af (az (cm (out:=(hs.map lineOf).map .str) (link:= []) (cZ:= [none,(eF hs).map hd]) ⟨V.all1 rfl,xb,rfl,by decide+kernel,(bE (aa n0 rfl) (ql h m7 mj gP g9)),iU,.loc kS,λu w=>rfl⟩ (λla hla=> ?_) rfl (bo (λx=>cc))) (hU (af aW (af aW ak)) (dX rfl)) (uN (.lst _) (.lst _) (aV (m:=102) (by have:=zl;simp only [cS,bw,cq,ip]at this⊢;exact this) (by decide)))) ak) bp jn);have W:=λ(elt:Expr) (scope:Scope) (pos:Pos) (gens:List Comprehension) (g:Comprehension) e ha hv=>g8 (C:=C) (k:=k) (sc:=bD scope) (enc:=hd) (val:=λp=>AV.str (lineOf p)) (M:=λo:Option (Str×Str)=> [none,o.map hd]) (Sg:=λout=>(cB t hs Z).set la (.list out)) (ok:=λaB=>V.IsL aB (.loc ⟨t+2,e0⟩) (hs.map hd)) (la:=la) (elt:=elt) (gens:=gens) (scope:=scope) (pos:=pos) (g:=g) (xs:=hs) (bU ho.len (by decide))
  (λout=> .loc (by rw [ao (λe=>by rw [<-e,kS]at hla;exact sa hla)];exact kS)) (λout=>V.set_same) (λout out'=>V.set_set) e ha hv
 rw [show hs.map (λp=>AV.str (lineOf p))=(hs.map lineOf).map AV.str by rw [dP];rfl]at W;refine W _ _ _ _ _ rfl (λo x out hx=>ag (i:=1) rfl rfl) (λx out hx=> ?_);refine bI (ho.row x hx) λa b=>az aW (aa (i:=1) rfl rfl) (A5 a b (by decide) (by decide))
theorem ET (h:Is C) (ho:wh hs) (hl: ∀c∈(kB hs).cps.toList,c<256):
  V.Cd C (k+4) (cB t hs Z) (.ext 167) [.loc ⟨t,e0⟩] [] (.bytes (jY (kB hs))) (cB t hs Z):=by
 have hx0:=h.hx;refine eB h.ok ⟨⟨_,_,_,by rw [h.K];exact rfl⟩,rfl,rfl,rfl,rfl,by rw [h.K];rfl,rfl,rfl,by decide+kernel⟩ [lo "self",gi "str"] rfl [("self",.loc ⟨t,e0⟩)] _
  (bR (gx λa0=>rfl) rfl) rfl rfl λsc hF n hn=> ?_
 refine nM hF λn0 n1 _=>?_;clear hF;refine nG (tu) ?_;have cs:=yR (k:=k+1) h.ok (m7 (t:=t) (hs:=hs) (Z:=Z)) mj (f:=160) (by rw [h.K];kernel_rfl) (by rw [h.K];kernel_rfl) (V.Cd.ca (J7 h (k:=k) ho));exact bP (aL (aD (ar h.ok n1 (kE h)) (af (aa n0 rfl) ak) cK cs) B6 (af aW ak) bp (DB (ma ho) (by decide) hl))
end L1
end
section
namespace L1
open Builtin Builtin.Str
noncomputable def fP (page goal:Str) (q:Int):Str:=
 if q.fmod 3==0 then "/.."++goal
 else if q.fmod 3==1 then Txt.mul "../" (Txt.count page "/" - 1)++Txt.slice goal (some 1) none
 else("./"++Txt.mul "../" (Txt.count page "/" - 1+1))++Txt.slice goal (some 1) none
theorem HU (h:Is C) (hp:V.B page 100) (hg:V.B goal 100) (hc:0<=Txt.count page "/"/\Txt.count page "/"<100):
  V.Ca C (k+1) Z (.ext 437) [.str page,.str goal,.int q] [] (.str (fP page goal q)) Z:=by
 have hx0:=h.hx;refine lQ h.ok ⟨⟨_,_,_,by rw [h.K];exact rfl⟩,rfl,rfl,rfl,rfl,by rw [h.K];rfl,rfl,rfl,by decide+kernel⟩ [lo "page",lo "goal",lo "q",lo "ups"] rfl [("page",.str page),("goal",.str goal),("q",.int q)] _
  (bR (Fy λa0 a1 a2=>rfl) rfl) rfl rfl λsc hF n hn=> ?_
 refine ve hF λn0 n1 n2 n3 _=>?_;clear hF;refine iF ?_;refine aE (au (az (aL (aa n0 rfl) FI (af aW ak) bp EW) aC LC) (ag n3 rfl)) ?_;delta fP;rcases hq:(q.fmod 3==0)with _ | _
 ·rcases hq1:(q.fmod 3==1)with _ | _
  ·simp only [iO,↓reduceIte];refine cw (aq (c:=false) (az (aa n2 rfl) aC (dm (by decide) rfl)) aC (lM (by first | with_reducible assumption | rfl)) rfl) ?_;refine cw (aq (c:=false) (az (aa n2 rfl) aC (dm (by decide) rfl)) aC (lM (by first | with_reducible assumption | rfl)) rfl) ?_;exact bP (az (az aW (az aW (az (aa n3 rfl) aC qm) (BG (by kln_le) (by decide) (by omega) (by omega))) (dD (by kln_le) (by kln_le) (by decide))) (aS (aa n1 rfl) (bL (bJ aC) bc bc) eg (cH (fw.int _) fw.none (by kln_le) (by decide))) (dD (by kln_le) (by kln_le) (by decide)))
  ·simp only [iO,↓reduceIte];refine cw (aq (c:=false) (az (aa n2 rfl) aC (dm (by decide) rfl)) aC (lM (by first | with_reducible assumption | rfl)) rfl) ?_;refine fD (aq (c:=true) (az (aa n2 rfl) aC (dm (by decide) rfl)) aC (lM (by first | with_reducible assumption | rfl)) rfl) ?_;exact bP (az (az aW (aa n3 rfl) (BG (by kln_le) (by decide) (by omega) (by omega))) (aS (aa n1 rfl) (bL (bJ aC) bc bc) eg (cH (fw.int _) fw.none (by kln_le) (by decide))) (dD (by kln_le) (by kln_le) (by decide)))
 ·simp only [↓reduceIte];refine fD (aq (c:=true) (az (aa n2 rfl) aC (dm (by decide) rfl)) aC (lM (by first | with_reducible assumption | rfl)) rfl) ?_;exact bP (az aW (aa n1 rfl) (dD (by kln_le) (by kln_le) (by decide)))
end L1
end
section
namespace L1
open Builtin Builtin.Str
open V (AV AO)
theorem w8 (hl:Z l=none) (hx:AV.p8 xs) (h1:V.Go C k sc ms Z body (.ret (.loc l)) (Z.set l (.list xs))): ∃f aK cP,V.Ex C k sc ms Z body f aK cP/\V.Exit Z cP f (.lst xs) Z:=
 gQ h1 ⟨oq (λu v z=>z) hl,λu z=>z,λu v z=> .inl z,.inr (.inl ⟨l,xs,rfl,rfl,V.set_same,hl,hx _⟩)⟩
theorem k8 {q:Int} {m:Nat} (hm:0<m): ∃f:Nat,f<m/\q.fmod m=f:=by have h1:=Fh q (show(0:Int)<(m:Int) by omega);have h2:=Int.fmod_lt_of_pos q (show(0:Int)<(m:Int) by omega);exact V.i12 (q.fmod m).toNat (by omega+splitDisjunctions) (by omega+splitDisjunctions)
theorem kj {n:Int} {m:Nat} (hm:0<m) (h:m<=1000):0<=n.fmod m/\n.fmod m<1000000:=by refine V.c12 (k8 (q:=n) (m:=m) hm) λf hf e=>?_;rw [e];omega
noncomputable def bq:List Int:= [0,1,2,3,4,5]
noncomputable def j3 (f:Int->Str):AV:= .lst (bq.map λk=> .str (f k))
noncomputable def inV (f:Int->Int):AV:= .lst (bq.map λk=> .int (f k))
noncomputable def yC (f:Int->List Str):AV:= .lst (bq.map λk=> .lst ((f k).map .str))
theorem ER:sE 0 6=bq.map .int:=by rfl
theorem bG: ∀k∈bq,0<=k/\k<1000000:=by decide
theorem Lh: ∀k∈bq,0<=k/\k<6:=by decide
theorem C7 (h0:0<=k) (h1:k<6):k∈bq:=by
 have:k=0\/k=1\/k=2\/k=3\/k=4\/k=5:=by omega
 rcases this with rfl | rfl | rfl | rfl | rfl | rfl<;>decide
theorem lO {α:Type} (f:Int->α) (h:k∈bq):(bq.map f)[k.toNat]? =some (f k):=by
 rw [gr];have: ∀k∈bq,bq[k.toNat]? =some k:=by decide
 rw [this k h];rfl
noncomputable def gU:List Str:= ["","/x","/x/y","/é"]
noncomputable def pa:List Str:= ["","\"","\\","; "]
noncomputable def Hj (n:Int):Str:=gU[(n.fmod 4).toNat]?.getD Str.empty
noncomputable def MQ (n:Int):Str:=pa[((n.fdiv 4).fmod 4).toNat]?.getD Str.empty
noncomputable def F7 (k:Int):Str:=Txt.item "abcABC" k
noncomputable def DG (k n:Int):Str:=Hj n++"/"++F7 k++MQ n
theorem FV {l:List Str} (hl:l.length=4) (m:Int):l[(m.fmod 4).toNat]? =some (l[(m.fmod 4).toNat]?.getD Str.empty)/\l[(m.fmod 4).toNat]?.getD Str.empty∈l:=by
 refine V.c12 (k8 (q:=m) (m:=4) (by decide)) λf hf e=>?_;have e:m.fmod 4=(f:Int):=e;rw [e];have:(f:Int).toNat=f:=by omega
 rw [this];have hl:f<l.length:=by omega
 rw [ng hl];exact⟨rfl,List.getElem_mem hl⟩
theorem rC (n:Int):Hj n∈gU:=(FV rfl n).2
theorem xd (n:Int):MQ n∈pa:=(FV rfl (n.fdiv 4)).2
theorem KN: ∀f∈gU,V.B f 10:=by delta V.B;decide+kernel
theorem MY: ∀f∈pa,V.B f 10:=by delta V.B;decide+kernel
theorem MR: ∀k∈bq,V.B (F7 k) 1/\fitsSsize k=true/\(Txt.charAt "abcABC" k).isSome=true:=by delta V.B;decide+kernel
theorem EV {C:V.Cx} (h:Is C) {nA:Int->Int}:
  V.Cd C (k+1) Z (.ext 430) [inV nA] [] (.lst (bq.map λk=> .str (DG k (nA k)))) Z:=by
 have hx0:=h.hx;refine eB h.ok ⟨⟨_,_,_,by rw [h.K];exact rfl⟩,rfl,rfl,rfl,rfl,by rw [h.K];rfl,rfl,rfl,by decide+kernel⟩ [lo "numbers",lo "pages",lo "k",lo "n",lo "folder",gi "range"] rfl [("numbers",inV nA)] _
  (bR (gx λa0=>rfl) rfl) rfl rfl λsc hF n hn=> ?_
 refine JW hF λn0 n1 n2 n3 n4 n5 _=>?_;clear hF;have hl:Z ⟨n,e0⟩=none:=hn _ (bT _);refine w8 (l:=⟨n,e0⟩) hl (bo (λp=>cc)) ?_;refine aE (au (dU ⟨n,e0⟩ ak (dW _) hl) (ag n1 rfl)) ?_;have I6:=λtgt=>cL (tgt:=tgt) (C:=C) (k:=k) (a:=0) (b:=6) (by decide) (by decide) (by decide);simp only [ER]at I6;refine iH (aD (ar h.ok n5 (dA h)) (af aC ak) cK cR) (I6 _) trivial (KG (C:=C) (k:=k) (sc:=sc) (ok:=λu=>True) (enc:=AV.int)
    (M:=λ(a:List Int×Option Int)=> [some (inV nA),some (.loc ⟨n,e0⟩),a.2.map .int,a.2.map λk=> .int (nA k),a.2.map λk=> .str (Hj (nA k)),none])
    (Sg:=λa=>Z.set ⟨n,e0⟩ (.list (a.1.map λk=> .str (DG k (nA k))))) (step:=λa c=>(a.1++ [c],some c)) (P:=λa xs=>a.1.length+xs.length<=1000/\ ∀x∈xs,x∈bq)
    (λu v w=>trivial) (λa x xs hP=>⟨by have:=hP.1;simp only [cS,cq,ip]at this⊢;omega,λy hy=>hP.2 y (.tail _ hy)⟩) ?_ bq ([],none) ⟨by decide,λu z=>z⟩ (z:=(bq,some 5)) rfl) (λu v=>rfl) ?_
 ·rintro ⟨a,o⟩ c xs ⟨hl2,hP⟩
  have hc:=hP c (.head _);refine bI (bG c hc) λc0 c1=>nM (MR c hc) λl1 l2 l3=>?_;have f1:=KN _ (rC (nA c));have s1:=MY _ (xd (nA c));have MA:V.B "/" 1:=iV rfl;have al:(a.map λk=>AV.str (DG k (nA k))).length<=sizeLine:=aV (m:=1000) (by rw [bw];have:a.length+(c::xs).length<=1000:=hl2;omega) (by decide);refine cx (ag n2 rfl) ?_;refine aJ (au (aS (aa n0 rfl) (aa n2 rfl) (bk (.lst _)) (bF (.lst _) c0 c1 (lO _ hc))) (ag n3 rfl)) ?_;refine aJ (au (aS (hU (af aW (af aW (af aW (af aW ak)))) (dX rfl)) (az (aa n3 rfl) aC (dm (by decide) rfl)) (bk (.lst (gU.map .str))) (bF (x:= .str (Hj (nA c))) (.lst (gU.map .str)) (kj (m:=4) (by decide) (by decide)).1 (kj (m:=4) (by decide) (by decide)).2 (by rw [gr,(FV (l:=gU) rfl (nA c)).1];rfl))) (ag n4 rfl)) ?_;refine(?_:V.Ex _ _ _ _ _ _ _ _ (Z.set ⟨n,e0⟩ (.list ((a++ [c]).map λk=> .str (DG k (nA k))))));rw [e9];exact aJ (cv (aL (aa n1 rfl) iY (af (az (az (az (aa n4 rfl) aW (dD (by kln_le) (by kln_le) (by decide))) (aS aW (aa n2 rfl) eg (Ib (y:=F7 c) l2 l3 rfl)) (dD (by kln_le) (by kln_le) (by decide))) (aS (hU (af aW (af aW (af aW (af aW ak)))) (dX rfl)) (az (az (aa n3 rfl) aC (gv (by decide) rfl rfl)) aC (dm (by decide) rfl)) (bk (.lst (pa.map .str))) (bF (x:= .str (MQ (nA c))) (.lst (pa.map .str)) (kj (m:=4) (by decide) (by decide)).1 (kj (m:=4) (by decide) (by decide)).2 (by rw [gr,(FV (l:=pa) rfl ((nA c).fdiv 4)).1];rfl))) (dD (by kln_le) (by kln_le) (by decide))) ak) bp (i8 al))) bA
 ·exact bP (aa n1 rfl)
structure SG where
 parts:List Str
 part:Str
 marked:Bool
 held:Bool
 last:Option Nat
noncomputable def ch (c:Nat):Str:=⟨#[c]⟩
noncomputable def SG.step (s:SG) (c:Nat):SG:=
 if s.held then{s with part:=s.part++(if Txt.contains "\\\"" (ch c)then ch c else "\r"),held:=false,last:=some c}
 else if ch c=="\\"then{s with held:=true,last:=some c}
 else if ch c=="\""then{s with part:=s.part++"\n",marked:= !s.marked,last:=some c}
 else if(ch c==";") && !s.marked then{s with parts:=s.parts++ [s.part],part:="",last:=some c}
 else{s with part:=s.part++ch c,last:=some c}
noncomputable def JE:SG:=⟨[],"",false,false,none⟩
noncomputable def signs (value:Str):List Str:=(λs:SG=>s.parts++ [s.part]) (value.cps.toList.foldl SG.step JE)
theorem ue (s:SG) (c:Nat):(s.step c).parts.length<=s.parts.length+1/\(s.step c).part.length<=s.part.length+1/\(s.step c).last=some c:=by
 have b1: ∀y:Str,y.length<=1->(s.part++y).length<=s.part.length+1:=λy hy=>fQ (bT _) hy;have b2:(ch c).length<=1:=bT _;delta SG.step;split
 ·refine m9 (jm _) (b1 _ ?_) rfl;split
  ·exact b2
  ·decide
 split
 ·exact m9 (jm _) (jm _) rfl
 split
 ·exact m9 (jm _) (b1 _ (by decide)) rfl
 split
 ·refine m9 ?_ ?_ rfl
  ·rw [cS];exact bT _
  ·exact dW _
 ·exact m9 (jm _) (b1 _ b2) rfl
theorem FQ (h:Is C) (hz:value.length<=100000):
  V.Cd C (k+1) Z (.ext 454) [.str value] [] (.lst ((signs value).map .str)) Z:=by
 have hx0:=h.hx;refine eB h.ok ⟨⟨_,_,_,by rw [h.K];exact rfl⟩,rfl,rfl,rfl,rfl,by rw [h.K];rfl,rfl,rfl,by decide+kernel⟩ [lo "value",lo "parts",lo "part",lo "marked",lo "held",lo "sign"] rfl [("value",.str value)] _
  (bR (gx λa0=>rfl) rfl) rfl rfl λsc hF n hn=> ?_
 refine JW hF λn0 n1 n2 n3 n4 n5 _=>?_;clear hF;have hl:Z ⟨n,e0⟩=none:=hn _ (bT _);refine gQ (cP:=Z.set ⟨n,e0⟩ (.list ((value.cps.toList.foldl SG.step JE).parts.map .str))) ?_ ⟨oq (λu v z=>z) hl,λu z=>z,λu v z=> .inl z,.inl ⟨rfl,j8 (bo λp=>cc) _⟩⟩;refine aE (au (cU (af (dU ⟨n,e0⟩ ak (dW _) hl) (af aW (af dR (af dR ak)))) (dX rfl)) (iT (cC (ag n1 rfl) (cC (ag n2 rfl) (cC (ag n3 rfl) (cC (ag n4 rfl) ke)))) rfl (λu=>rfl) (λu=>rfl) hx0)) ?_;refine iH (aa n0 rfl) E8 trivial (iA (C:=C) (k:=k) (sc:=sc) (ok:=λu=>True) (enc:=λc:Nat=>AV.str (ch c))
    (M:=λ(a:SG)=> [some (.str value),some (.loc ⟨n,e0⟩),some (.str a.part),some (.bool a.marked),some (.bool a.held),a.last.map λc=> .str (ch c)])
    (Sg:=λa=>Z.set ⟨n,e0⟩ (.list (a.parts.map .str))) (step:=SG.step) (P:=λa xs=>a.parts.length+xs.length<=100000/\a.part.length+xs.length<=100000)
    (λu v w=>trivial) (λa x xs hP=>by
     refine nM (ue a x) λe1 e2 _=>?_;have h1:=hP.1;have h2:=hP.2;simp only [cq]at h1 h2;exact⟨by omega,by omega⟩) ?_ value.cps.toList JE ⟨by refine(?_:0+_<=_);rw [oU,iP];exact hz,by refine(?_:0+_<=_);rw [oU,iP];exact hz⟩) (λu v=>rfl) ?_
 ·rintro ⟨ps,pt,mk,hd,la⟩ c xs ⟨hl2,hP⟩
  have pb:V.B pt 100000:=by have:pt.length+(c::xs).length<=100000:=hP;delta V.B;omega
  have pl:(ps.map AV.str).length<=sizeLine:=aV (m:=100000) (by rw [bw];have:ps.length+(c::xs).length<=100000:=hl2;omega) (by decide);have cb:V.B (ch c) 1:=bT _;refine cx (ag n5 rfl) ?_;delta SG.step;cases hd with
  | true=>
   refine dy (aX (b:=true) (aa n4 rfl) cp) ?_;rw [aF rfl];rcases hc:Txt.contains "\\\"" (ch c)with _ | _
   ·rw [ay dM];exact aJ (ow n2 n4 (cU (af (az (aa n2 rfl) (b9 (b:=false) (aq (c:=false) (aa n5 rfl) aW (IP hc) rfl) aW) (dD (by kln_le) (by kln_le) (by decide))) (af dR ak)) (dX rfl)) rfl rfl rfl rfl rfl rfl) bA
   ·rw [aF rfl];exact aJ (ow n2 n4 (cU (af (az (aa n2 rfl) (b9 (b:=true) (aq (c:=true) (aa n5 rfl) aW (IP hc) rfl) (aa n5 rfl)) (dD (by kln_le) (by kln_le) (by decide))) (af dR ak)) (dX rfl)) rfl rfl rfl rfl rfl rfl) bA
  | false=>
   refine ck (aX (b:=false) (aa n4 rfl) cp) ?_;rw [ay dM];rcases h1:(ch c=="\\")with _ | _
   ·refine ck (aq (c:=false) (aa n5 rfl) aW (V.s_eq h1) rfl) ?_;rw [ay dM];rcases h2:(ch c=="\"")with _ | _
    ·refine ck (aq (c:=false) (aa n5 rfl) aW (V.s_eq h2) rfl) ?_;rw [ay dM];rcases h3:(ch c==";")with _ | _
     ·rw [ay (by simp)];refine ck (aY (b7 (aq (c:=false) (aa n5 rfl) aW (V.s_eq h3) rfl))) ?_;exact aJ (kW n2 rfl (aa n5 rfl) (nT pb cb (by decide)) rfl) bA
     ·cases mk with
      | true=>rw [ay (by simp)];refine ck (aY (cg (aq (c:=true) (aa n5 rfl) aW (V.s_eq h3) rfl) (b7 (d4 (b:=true) (aX (b:=true) (aa n3 rfl) cp))))) ?_;exact aJ (kW n2 rfl (aa n5 rfl) (nT pb cb (by decide)) rfl) bA
      | false=>rw [aF (by simp)];refine dy (aY (cg (aq (c:=true) (aa n5 rfl) aW (V.s_eq h3) rfl) (cg (d4 (b:=false) (aX (b:=false) (aa n3 rfl) cp)) f9))) ?_;dsimp only;rw [e9];exact aJ (cv (aL (aa n1 rfl) iY (af (aa n2 rfl) ak) bp (i8 pl))) (aJ (au aW (ag n2 rfl)) bA)
    ·refine dy (aq (c:=true) (aa n5 rfl) aW (V.s_eq h2) rfl) ?_;rw [aF rfl];exact aJ (ow n2 n3 (cU (af (az (aa n2 rfl) aW (dD (by kln_le) (by kln_le) (by decide))) (af (dB (aa n3 rfl) (V.v_not cp rfl)) ak)) (dX rfl)) rfl rfl rfl rfl rfl rfl) bA
   ·refine dy (aq (c:=true) (aa n5 rfl) aW (V.s_eq h1) rfl) ?_;rw [aF rfl];exact aJ (au dR (ag n4 rfl)) bA
 ·have fl: ∀(xs:List Nat) (a:SG),(xs.foldl SG.step a).parts.length<=a.parts.length+xs.length:=by
   intro xs
   induction xs with
   | nil=>intro a;exact bT _
   | cons c xs ih=>intro a;have h1:=ih (a.step c);have h2:=(ue a c).1;rw [cW,cq];omega
  have pl:((value.cps.toList.foldl SG.step JE).parts.map AV.str).length+1<=sizeLine:=aV (m:=100001) (by
   have:=fl value.cps.toList JE;rw [bw];have z:value.cps.toList.length<=100000:=by rw [iP];exact hz
   have e:JE.parts.length=0:=rfl;omega) (by decide)
  delta signs;rw [e9];exact bP (az (aa n1 rfl) (hU (af (aa n2 rfl) ak) (dX rfl)) (uN (.loc V.set_same) (.lst _) pl))
theorem uG (h:Is C):V.Glob C "_law_text" (.ext 437):=bW (by decide+kernel) ((mg h _).trans (by kernel_rfl))
theorem sj (h:Is C):V.Glob C "_law_parts" (.ext 447):=bW (by decide+kernel) ((mg h _).trans (by kernel_rfl))
theorem wJ (h:Is C):V.Glob C "normpath" (.ext 423):=bW (by decide+kernel) ((mg h _).trans (by kernel_rfl))
theorem It (h:Is C):V.Glob C "join" (.ext 402):=bW (by decide+kernel) ((mg h _).trans (by kernel_rfl))
theorem zF (h:Is C):V.Glob C "dirname" (.ext 416):=bW (by decide+kernel) ((mg h _).trans (by kernel_rfl))
theorem DS (h:Is C):ie C k (cB t hs Z) (λx=>getAttr x "add_header" true) (.loc ⟨t,e0⟩) (λW r=>aw W (.bm 181 ⟨t,e0⟩) r) (cB t hs Z):=
 px h.ok m7 mj (by rw [h.K];kernel_rfl) (by rw [h.K];kernel_rfl) (by rw [h.K];kernel_rfl) (λxs n=>by revert xs;exact gx λx0=>by rw [h.K];kernel_rfl)
theorem NY:"by_"++Str.ofString (toString (0:Int))=tN:=by kernel_rfl
theorem OL:"by_"++Str.ofString (toString (1:Int))=AG:=by kernel_rfl
noncomputable def own1:Str:="own: 1"
noncomputable def bit (q:Int):Bool:=q.fmod 2 !=0
noncomputable def mf (texts:List Str):List (Str×Option Str):= [tN,AG].zip (texts.map some)
noncomputable def fV (q:Int) (texts:List Str):List (Str×Option Str):=mf texts++(if bit (q.fdiv 2)then [(gM,if bit (q.fdiv 4)then some Str.empty else none)]else [])
noncomputable def eC (q:Int):Option Str:=if bit q then some (if bit (q.fdiv 2)then Str.empty else own1)else none
noncomputable def lay (q:Int) (texts:List Str):Str:=hval (eC q) (fV q texts)
theorem vF (texts:List Str) (h:texts.length<=2):(mf texts).map (·.1)= []\/(mf texts).map (·.1)= [tN]\/(mf texts).map (·.1)= [tN,AG]:=by
 rcases texts with _ | ⟨a,_ | ⟨b,_ | ⟨c,r⟩⟩⟩
 ·exact .inl rfl
 ·exact .inr (.inl rfl)
 ·exact .inr (.inr rfl)
 ·simp at h
theorem pe (q:Int) (texts:List Str) (h:texts.length<=2):keysOk (fV q texts):=by
 delta fV keysOk;split<;>rcases vF texts h with e | e | e<;>rw [e9,e]<;>simp
theorem IT (h: ∀x∈texts,x.length<=100/\x.cps.all nO=true): ∀p∈mf texts,KQ p:=by
 intro p hp;obtain⟨a,b⟩:=p;delta mf at hp;have h1:=(vq hp).1;have h2:=(vq hp).2;refine kK (bM.mp h2) λx hx=>?_;have k1: ∀a∈ [tN,AG],a.length<=20/\a.cps.all nO=true:=by decide+kernel
 exact⟨(k1 a h1).1,(k1 a h1).2,λv e=>by cases e;exact h x hx⟩
theorem uf (h: ∀x∈texts,x.length<=100/\x.cps.all nO=true): ∀p∈fV q texts,KQ p:=by
 intro p hp;delta fV at hp;refine aP (cu.mp hp) (λz=>?_) λz=>?_
 ·exact IT h p z
 ·split at z
  ·obtain rfl:=ju.mp z;refine⟨by refine(?_:gM.length<=20);decide+kernel,by refine(?_:gM.cps.all nO=true);decide+kernel,λv e=> ?_⟩;split at e
   ·cases e;decide+kernel
   ·exact dF e
  ·exact je z
theorem N4:(tN=gM)=False:=eq_false (by decide+kernel)
theorem na1:(AG=gM)=False:=eq_false (by decide+kernel)
theorem CG (texts:List Str) (h:texts.length<=2) (v:Option Str):V.dput (jG (mf texts)) gM (ov v)=jG (mf texts++ [(gM,v)]):=by
 rcases texts with _ | ⟨a,_ | ⟨b,_ | ⟨c,r⟩⟩⟩
 ·rfl
 ·refine(?_:V.dput [(tN,ov (some a))] gM (ov v)= [(tN,ov (some a)),(gM,ov v)]);delta V.dput;simp only [List.any_cons,List.any_nil,N4,na1,decide_false,Bool.or_false,iO,jh];rfl
 ·refine(?_:V.dput [(tN,ov (some a)),(AG,ov (some b))] gM (ov v)= [(tN,ov (some a)),(AG,ov (some b)),(gM,ov v)]);delta V.dput;simp only [List.any_cons,List.any_nil,N4,na1,decide_false,Bool.or_false,iO,jh];rfl
 ·simp at h
theorem qp (q:Int): ∀y,eC q=some y->Ka y:=by
 intro y e;delta eC at e;split at e
 ·obtain rfl:=dI e;split
  ·exact⟨by decide,by decide+kernel⟩
  ·exact⟨by decide+kernel,by decide+kernel⟩
 ·exact dF e
theorem Ft (texts:List Str) (h:bit (q.fdiv 2)=true):fV q texts=mf texts++ [(gM,if bit (q.fdiv 4)then some Str.empty else none)]:=by delta fV;rw [aF h]
theorem Fw (texts:List Str) (h:bit (q.fdiv 2)=false):fV q texts=mf texts:=by delta fV;rw [ay (by rw [h];decide),iM]
theorem K2 (h:Mu C) (wa:Ka page) (htx: ∀x∈texts,x.length<=100/\x.cps.all nO=true) (hl:texts.length<=2) (hsz:hs.length<=1000):
  V.Cd C (k+3) (cB t hs Z) (.ext 442) [.loc ⟨t,e0⟩,.str page,.int q,.lst (texts.map .str)] [] .none (cB t (hs++ [(page,lay q texts)]) Z):=by
 have hx0:=h.hx;refine eB h.ok ⟨⟨_,_,_,by rw [h.K];exact rfl⟩,rfl,rfl,rfl,rfl,by rw [h.K];rfl,rfl,rfl,by decide+kernel⟩ [lo "table",lo "page",lo "q",ce "texts",lo "params",lo "own",gi "range",gi "len"] rfl [("table",.loc ⟨t,e0⟩),("page",.str page),("q",.int q),("texts",.lst (texts.map .str))] _
  (bR (kU λa0 a1 a2 a3=>rfl) rfl) rfl rfl λsc hF n hn=> ?_
 refine tJ hF λn0 n1 n2 n3 n4 n5 n6 n7 _=>?_;clear hF;have mt:t+2<n:=by
  refine aP (oh (t+2) n) (λz=>?_) λz=>?_
  ·exact z
  ·have e:cB t hs Z ⟨t+2,e0⟩=_:=kS;rw [hn ⟨t+2,e0⟩ z]at e;exact dF e
 have em: ∀o:AO,(cB t hs Z).set ⟨n,e0⟩ o=cB t hs (Z.set ⟨n,e0⟩ o):=λo=>fX (.inr mt);have ld: ∀o:AO,cB t hs (Z.set ⟨n,e0⟩ o) ⟨n,e0⟩=some o:=λo=>by rw [<-em];exact V.set_same
 have NA: ∀kw,qB (cB t hs (Z.set ⟨n,e0⟩ (.dict (jG kw)))) ⟨n,e0⟩ (jG kw):=λkw=> .inl (ld _);have hd1: ∀o:AO,cB t hs (Z.set ⟨n,e0⟩ o) ⟨n+1,e0⟩=none:=λo=>by rw [<-em,ao (by intro z;have:=dY V.Loc.tag z;simp at this)];exact hn _ (jm _)
 have dz: ∀kw,keysOk kw->(jG kw).length<=sizeLine:=λkw hk=>aV (m:=3) (by delta jG;rw [bw];exact hk.len) (by decide);have hks:=pe q texts hl;refine yH (hs':=hs++ [(page,lay q texts)]) (cP:=cB t (hs++ [(page,lay q texts)]) (Z.set ⟨n,e0⟩ (.dict (jG (fV q texts))))) ?_ ?_
 ·refine aE (ai:= [some (.loc ⟨t,e0⟩),some (.str page),some (.int q),some (.lst (texts.map .str)),some (.loc ⟨n,e0⟩),none,none,none]) (ae:=cB t hs (Z.set ⟨n,e0⟩ (.dict (jG (mf texts))))) ?_ ?_
  ·have MB: ∀a,(cB t hs (Z.set ⟨n,e0⟩ (.dict []))).set ⟨n,e0⟩ (.dict (V.dput [] tN (.str a)))=cB t hs (Z.set ⟨n,e0⟩ (.dict (jG (mf [a])))):=λa=>by rw [<-em,V.set_set,em];rfl
   have es1: ∀a b,(cB t hs (Z.set ⟨n,e0⟩ (.dict (jG (mf [a]))))).set ⟨n,e0⟩ (.dict (V.dput (jG (mf [a])) AG (.str b)))=cB t hs (Z.set ⟨n,e0⟩ (.dict (jG (mf [a,b])))):=λa b=>by rw [<-em,V.set_set,em];rfl
   rcases texts with _ | ⟨a,_ | ⟨b,_ | ⟨c,r⟩⟩⟩
   ·refine eZ (link:= [(3,3)]) (cZ:= [none,none,none,some (.lst [])]) (aN:=cB t hs (Z.set ⟨n,e0⟩ (.dict []))) ⟨n,e0⟩ ⟨V.all1 rfl,V.all1 ⟨_,n3,rfl⟩,rfl,by decide+kernel,(aD (ar h.ok n6 (dA h.toIs)) (af (aD (ar h.ok n7 (fB h.toIs)) (af (aM n3 rfl) ak) bp (c6 (.lst _) (aV (m:=2) (by rw [bw];exact hl) (by decide)))) ak) cK cR),(cL (a:=0) (b:=0) (by decide) (by decide) (by decide)),trivial,λu w=>rfl⟩ (hn _ (bT _)) ?_ rfl (λenv=>⟨_,rfl⟩) (λu=>rfl) (λu=>rfl) (ag n4 rfl);rw [em];exact .nil trivial
   ·refine eZ (link:= [(3,3)]) (cZ:= [none,some (.int 0),none,some (.lst [.str a])]) (aN:=cB t hs (Z.set ⟨n,e0⟩ (.dict (jG (mf [a]))))) ⟨n,e0⟩ ⟨V.all1 rfl,V.all1 ⟨_,n3,rfl⟩,rfl,by decide+kernel,(aD (ar h.ok n6 (dA h.toIs)) (af (aD (ar h.ok n7 (fB h.toIs)) (af (aM n3 rfl) ak) bp (c6 (.lst _) (aV (m:=2) (by rw [bw];exact hl) (by decide)))) ak) cK cR),(cL (a:=0) (b:=1) (by decide) (by decide) (by decide)),trivial,λu w=>rfl⟩ (hn _ (bT _)) ?_ rfl (λenv=>⟨_,rfl⟩) (λu=>rfl) (λu=>rfl) (ag n4 rfl);rw [em];refine .take trivial (ag (i:=1) rfl rfl) (.inl ⟨rfl,rfl,rfl⟩) (.emit ?_) (.nil trivial);rw [<-MB];exact sH (key:=tN) (by rw [<-NY];exact az aW (aD (ar h.ok (i:=2) rfl (kE h.toIs)) (af (aa (i:=1) rfl rfl) ak) cK (qE (by decide))) (kM (by decide+kernel))) (aS (aM (i:=3) rfl rfl) (aa (i:=1) rfl rfl) (bk (.lst _)) (bF (.lst _) (by decide) (by decide) rfl)) (.inl (ld _)) pV (dW _)
   ·refine eZ (link:= [(3,3)]) (cZ:= [none,some (.int 1),none,some (.lst [.str a,.str b])]) (aN:=cB t hs (Z.set ⟨n,e0⟩ (.dict (jG (mf [a,b]))))) ⟨n,e0⟩ ⟨V.all1 rfl,V.all1 ⟨_,n3,rfl⟩,rfl,by decide+kernel,(aD (ar h.ok n6 (dA h.toIs)) (af (aD (ar h.ok n7 (fB h.toIs)) (af (aM n3 rfl) ak) bp (c6 (.lst _) (aV (m:=2) (by rw [bw];exact hl) (by decide)))) ak) cK cR),(cL (a:=0) (b:=2) (by decide) (by decide) (by decide)),trivial,λu w=>rfl⟩ (hn _ (bT _)) ?_ rfl (λenv=>⟨_,rfl⟩) (λu=>rfl) (λu=>rfl) (ag n4 rfl);rw [em];refine .take (b6:= [none,some (.int 0),none,some (.lst [.str a,.str b])]) (bX:=cB t hs (Z.set ⟨n,e0⟩ (.dict (jG (mf [a]))))) trivial (ag (i:=1) rfl rfl) (.inl ⟨rfl,rfl,rfl⟩) (.emit ?_) (.take trivial (ag (i:=1) rfl rfl) (.inl ⟨rfl,rfl,rfl⟩) (.emit ?_) (.nil trivial))
    ·rw [<-MB];exact sH (key:=tN) (by rw [<-NY];exact az aW (aD (ar h.ok (i:=2) rfl (kE h.toIs)) (af (aa (i:=1) rfl rfl) ak) cK (qE (by decide))) (kM (by decide+kernel))) (aS (aM (i:=3) rfl rfl) (aa (i:=1) rfl rfl) (bk (.lst _)) (bF (.lst _) (by decide) (by decide) rfl)) (.inl (ld _)) pV (dW _)
    ·rw [<-es1];exact sH (key:=AG) (by rw [<-OL];exact az aW (aD (ar h.ok (i:=2) rfl (kE h.toIs)) (af (aa (i:=1) rfl rfl) ak) cK (qE (by decide))) (kM (by decide+kernel))) (aS (aM (i:=3) rfl rfl) (aa (i:=1) rfl rfl) (bk (.lst _)) (bF (.lst _) (by decide) (by decide) rfl)) (NA (mf [a])) (keysOk.dn (kw:=mf [a]) (.inr (.inl rfl))) (aV (m:=3) (show 1<=3 by decide) (by decide))
   ·simp at hl
  ·refine aE (ai:= [some (.loc ⟨t,e0⟩),some (.str page),some (.int q),some (.lst (texts.map .str)),some (.loc ⟨n,e0⟩),some (ov (if bit q then some own1 else none)),none,none]) (ae:=cB t hs (Z.set ⟨n,e0⟩ (.dict (jG (mf texts))))) ?_ ?_
   ·rcases hb:bit q with _ | _
    ·exact(au (b9 (b:=false) (aX (b:=false) (az (aa n2 rfl) aC (dm (by decide) rfl)) (cY hb)) bV) (ag n5 rfl))
    ·exact(au (b9 (b:=true) (aX (b:=true) (az (aa n2 rfl) aC (dm (by decide) rfl)) (cY hb)) aW) (ag n5 rfl))
   ·refine aE (ai:= [some (.loc ⟨t,e0⟩),some (.str page),some (.int q),some (.lst (texts.map .str)),some (.loc ⟨n,e0⟩),some (ov (eC q)),none,none]) (ae:=cB t hs (Z.set ⟨n,e0⟩ (.dict (jG (fV q texts))))) ?_ ?_
    ·rcases hb:bit (q.fdiv 2)with _ | _
     ·rw [Fw texts hb];have eo:eC q=if bit q then some own1 else none:=by delta eC;rw [hb];rfl
      rw [eo];exact rj (b:=false) (aX (b:=false) (az (az (aa n2 rfl) aC (gv (by decide) rfl rfl)) aC (dm (by decide) rfl)) (cY hb)) bA
     ·rw [Ft texts hb];have eo:eC q=if bit q then some Str.empty else none:=by delta eC;rw [hb];rfl
      rw [eo];refine rj (b:=true) (aX (b:=true) (az (az (aa n2 rfl) aC (gv (by decide) rfl rfl)) aC (dm (by decide) rfl)) (cY hb)) (aJ (ai:= [some (.loc ⟨t,e0⟩),some (.str page),some (.int q),some (.lst (texts.map .str)),some (.loc ⟨n,e0⟩),some (ov (if bit q then some own1 else none)),none,none]) (ae:=cB t hs (Z.set ⟨n,e0⟩ (.dict (jG (mf texts++ [(gM,if bit (q.fdiv 4)then some Str.empty else none)]))))) ?_ (aJ (ai:= [some (.loc ⟨t,e0⟩),some (.str page),some (.int q),some (.lst (texts.map .str)),some (.loc ⟨n,e0⟩),some (ov (if bit q then some Str.empty else none)),none,none]) (ae:=cB t hs (Z.set ⟨n,e0⟩ (.dict (jG (mf texts++ [(gM,if bit (q.fdiv 4)then some Str.empty else none)]))))) ?_ bA))
      ·have st: ∀v:Option Str,K9 C (k+2) (cB t hs (Z.set ⟨n,e0⟩ (.dict (jG (mf texts))))) setItem (.loc ⟨n,e0⟩) (.str gM) (ov v) (λu w=>True) (cB t hs (Z.set ⟨n,e0⟩ (.dict (jG (mf texts++ [(gM,v)]))))):=λv=>by have z:=D1 (C:=C) (k:=k+2) (key:=gM) (x:=ov v) (NA (mf texts)) (keysOk.dn (by rcases vF texts hl with e | e | e<;>delta keysOk<;>simp [e])) (aV (m:=3) (by delta jG;rw [bw];delta mf;rw [List.length_zip];simp;omega) (by decide));rw [CG texts hl,<-em,V.set_set,em,em]at z;exact z
       rcases hb4:bit (q.fdiv 4)with _ | _
       ·exact(au (b9 (b:=false) (aX (b:=false) (az (az (aa n2 rfl) aC (gv (by decide) rfl rfl)) aC (dm (by decide) rfl)) (cY hb4)) bV) (tq (aa n4 rfl) aW (st none)))
       ·exact(au (b9 (b:=true) (aX (b:=true) (az (az (aa n2 rfl) aC (gv (by decide) rfl rfl)) aC (dm (by decide) rfl)) (cY hb4)) aW) (tq (aa n4 rfl) aW (st (some Str.empty))))
      ·rcases hb:bit q with _ | _
       ·exact(au (b9 (b:=false) (aX (b:=false) (az (aa n2 rfl) aC (dm (by decide) rfl)) (cY hb)) bV) (ag n5 rfl))
       ·exact(au (b9 (b:=true) (aX (b:=true) (az (aa n2 rfl) aC (dm (by decide) rfl)) (cY hb)) aW) (ag n5 rfl))
    ·exact aE (cv (Hn (aa n0 rfl) (DS h.toIs) (af (aa n1 rfl) (af (aa n5 rfl) ak)) (aa n4 rfl) (NA _) (hks.dn) (dz _ hks) (BC h.ok ⟨_,_,_,_,by rw [h.K];exact rfl⟩) (A0 (HE h (d:=n+1) (hd1 _) wa (qp q) (uf htx) hks hsz)) (λu w=>rfl) (λu=>rfl) (λu=>rfl) (λu=>rfl))) j0
 ·intro l o e;have i1:(cB t hs Z l).isSome=true:=by rw [ot (hs':=hs++ [(page,lay q texts)]),e];rfl
  have e1:l≠⟨n,e0⟩:=λz=>by rw [z,hn _ (bT _)]at i1;exact tK i1
  rw [<-fX (l:=⟨n,e0⟩) (.inr mt),ao e1];exact e
theorem wm {α:Type} (x:α) (xs:List α):eP (x::xs) none (some 1) none= [x]:=by
 delta eP;have e:sliceBounds none (some 1) none (x::xs).length=(0,1,1):=by delta sliceBounds;simp;omega
 rw [e];rfl
theorem pv {α:Type} (x:α) (xs:List α):eP (x::xs) (some 1) none none=xs:=jv (x::xs) 1 (by simp)
noncomputable def Ew:Str:="by-0=\n"
noncomputable def Jv:Str:="by-1=\n"
noncomputable def nl:Str:="\n"
noncomputable def sp:Str:=" "
noncomputable def gX:Str:="as-it-is"
theorem Kr:"by-"++Str.ofString (toString (0:Int))++"=\n"=Ew:=by kernel_rfl
theorem MF:"by-"++Str.ofString (toString (1:Int))++"=\n"=Jv:=by kernel_rfl
noncomputable def qL (texts:List Str):List Str:=([Ew,Jv].zip texts).map λp=>p.1++p.2++nl
noncomputable def fR (q:Int):List Str:=if bit q then [if bit (q.fdiv 2)then Str.empty else own1]else []
noncomputable def iL (q:Int) (texts:List Str):List Str:=fR q++qL texts++(if bit (q.fdiv 2)then [gX]else [])
noncomputable def jK:List Str->List Str
 | []=> [Str.empty]
 | x::r=>x::r.map λp=>sp++p
noncomputable def partsOf (q:Int) (texts:List Str):List Str:=jK (iL q texts)
theorem ya (hl:texts.length<=2):(qL texts).length<=2:=by delta qL;rw [bw,List.length_zip];simp;omega
theorem u6 (q:Int):(fR q).length<=1:=by delta fR;split<;>simp
theorem uQ (hl:texts.length<=2):(iL q texts).length<=4:=by
 have:=ya hl;have:=u6 q;delta iL;rw [cS,cS];split<;>simp<;>omega
theorem LA (hb: ∀x∈texts,x.length<=100): ∀y∈qL texts,y.length<=120:=by
 intro y hy;delta qL at hy;refine kK (bM.mp hy) λp hp=>?_;obtain⟨a,b⟩:=p;have h1:=(vq hp).1;have h2:V.B b 100:=hb b (vq hp).2;have k1:V.B a 10:=by
  have: ∀a∈ [Ew,Jv],V.B a 10:=by delta V.B;decide+kernel
  exact this a h1
 exact bU (fQ (fQ k1 h2) (iV (x:=nl) rfl):V.B _ (10+100+1)) (by decide)
theorem Il (hb: ∀x∈texts,x.length<=100): ∀y∈iL q texts,y.length<=120:=by
 intro y hy;unfold iL at hy;refine aP (cu.mp hy) (λhy=>?_) λhy=>?_
 ·refine aP (cu.mp hy) (λhy=>?_) λhy=>?_
  ·unfold fR at hy;split at hy
   ·obtain rfl:=ju.mp hy;split
    ·exact dW _
    ·decide+kernel
   ·exact je hy
  ·exact LA hb y hy
 ·split at hy
  ·obtain rfl:=ju.mp hy;decide+kernel
  ·exact je hy
theorem Fo (h:Is C) (hb: ∀x∈texts,x.length<=100) (hl:texts.length<=2):
  V.Cd C (k+1) Z (.ext 447) [.int q,.lst (texts.map .str)] [] (.lst ((partsOf q texts).map .str)) Z:=by
 have hx0:=h.hx;refine eB h.ok ⟨⟨_,_,_,by rw [h.K];exact rfl⟩,rfl,rfl,rfl,rfl,by rw [h.K];rfl,rfl,rfl,by decide+kernel⟩ [lo "q",ce "texts",lo "parts",gi "range",gi "len"] rfl [("q",.int q),("texts",.lst (texts.map .str))] _
  (bR (Aq λa0 a1=>rfl) rfl) rfl rfl λsc hF n hn=> ?_
 refine GU hF λn0 n1 n2 n3 n4 _=>?_;clear hF;have hl0:Z ⟨n,e0⟩=none:=hn _ (bT _);have rl:=uQ (q:=q) hl;have bl:=ya hl;have ol:=u6 q;refine gQ (v:= .lst ((partsOf q texts).map .str)) (cP:=Z.set ⟨n,e0⟩ (.list ((iL q texts).map .str))) ?_ ⟨oq (λu w z=>z) hl0,λu z=>z,λu w z=> .inl z,.inl ⟨rfl,j8 (bo λp=>cc) _⟩⟩;refine aE (ai:= [some (.int q),some (.lst (texts.map .str)),some (.loc ⟨n,e0⟩),none,none]) (ae:=Z.set ⟨n,e0⟩ (.list ((fR q).map .str))) ?_ ?_
 ·rcases hb1:bit q with _ | _
  ·have eo:fR q= []:=by delta fR;rw [hb1];rfl
   rw [eo];exact(au (b9 (b:=false) (aX (b:=false) (az (aa n0 rfl) aC (dm (by decide) rfl)) (cY hb1)) (dU ⟨n,e0⟩ ak (dW _) hl0)) (ag n2 rfl))
  ·have eo:fR q= [if bit (q.fdiv 2)then Str.empty else own1]:=by delta fR;rw [hb1];rfl
   rw [eo];rcases hb2:bit (q.fdiv 2)with _ | _
   ·exact(au (b9 (b:=true) (aX (b:=true) (az (aa n0 rfl) aC (dm (by decide) rfl)) (cY hb1)) (dU ⟨n,e0⟩ (af (b9 (b:=false) (aX (b:=false) (az (az (aa n0 rfl) aC (gv (by decide) rfl rfl)) aC (dm (by decide) rfl)) (cY hb2)) aW) ak) (by decide) hl0)) (ag n2 rfl))
   ·exact(au (b9 (b:=true) (aX (b:=true) (az (aa n0 rfl) aC (dm (by decide) rfl)) (cY hb1)) (dU ⟨n,e0⟩ (af (b9 (b:=true) (aX (b:=true) (az (az (aa n0 rfl) aC (gv (by decide) rfl rfl)) aC (dm (by decide) rfl)) (cY hb2)) aW) ak) (by decide) hl0)) (ag n2 rfl))
 refine aE (ai:= [some (.int q),some (.lst (texts.map .str)),some (.loc ⟨n,e0⟩),none,none]) (ae:=Z.set ⟨n,e0⟩ (.list ((fR q++qL texts).map .str))) ?_ ?_
 ·have ia:di C k (Z.set ⟨n,e0⟩ (.list ((fR q).map .str))) (inplaceOp .Add) (.loc ⟨n,e0⟩) (.lst ((qL texts).map .str)) (λW r=>aw W (.loc ⟨n,e0⟩) r) (Z.set ⟨n,e0⟩ (.list ((fR q++qL texts).map .str))):=by have z:=AM (C:=C) (k:=k) (v:= .lst ((qL texts).map .str)) (l:=⟨n,e0⟩) (V.set_same (Z:=Z) (o:= .list ((fR q).map .str))) (.lst _) (by rw [bw,bw];omega) (by intro z;cases z);rw [V.set_set,<-e9]at z;exact z
  rcases texts with _ | ⟨a,_ | ⟨b,_ | ⟨c,r⟩⟩⟩
  ·refine kW n2 rfl (cm (out:=(qL []).map .str) (link:= [(1,3)]) (cZ:= [none,none,none,some (.lst [])]) ⟨V.all1 rfl,V.all1 ⟨_,n1,rfl⟩,rfl,by decide+kernel,(aD (ar h.ok n3 (dA h)) (af (aD (ar h.ok n4 (fB h)) (af (aM n1 rfl) ak) bp (c6 (.lst _) (aV (m:=2) (by rw [bw];exact hl) (by decide)))) ak) cK cR),(cL (a:=0) (b:=0) (by decide) (by decide) (by decide)),trivial,λu w=>rfl⟩ (λla hla=> ?_) rfl (bo (f:=AV.str) (λx=>cc))) ia rfl;exact .nil trivial
  ·refine kW n2 rfl (cm (out:=(qL [a]).map .str) (link:= [(1,3)]) (cZ:= [none,some (.int 0),none,some (.lst [.str a])]) ⟨V.all1 rfl,V.all1 ⟨_,n1,rfl⟩,rfl,by decide+kernel,(aD (ar h.ok n3 (dA h)) (af (aD (ar h.ok n4 (fB h)) (af (aM n1 rfl) ak) bp (c6 (.lst _) (aV (m:=2) (by rw [bw];exact hl) (by decide)))) ak) cK cR),(cL (a:=0) (b:=1) (by decide) (by decide) (by decide)),trivial,λu w=>rfl⟩ (λla hla=> ?_) rfl (bo (f:=AV.str) (λx=>cc))) ia rfl;have MB:((Z.set ⟨n,e0⟩ (.list ((fR q).map .str))).set la (.list [])).set la (.list ([]++ [.str (Ew++a++nl)]))=(Z.set ⟨n,e0⟩ (.list ((fR q).map .str))).set la (.list ((qL [a]).map .str)):=V.set_set;rw [<-MB];exact .take trivial (ag (i:=1) rfl rfl) (.inl ⟨rfl,rfl,rfl⟩) (.emit (nF (v:= .str (Ew++a++nl)) (by rw [<-Kr];exact az (az (az (az aW (aD (ar h.ok (i:=2) rfl (kE h)) (af (aa (i:=1) rfl rfl) ak) cK (qE (by decide))) (kM (by decide+kernel))) aW (kM (by decide+kernel))) (aS (aM (i:=3) rfl rfl) (aa (i:=1) rfl rfl) (bk (.lst _)) (bF (.lst _) (by decide) (by decide) rfl)) (dD (a:=10) (b:=100) (by delta V.B;decide+kernel) (hb _ (by simp)) (by decide))) aW (dD (a:=110) (b:=1) (fQ (a:=10) (b:=100) (by delta V.B;decide+kernel) (hb _ (by simp))) (iV rfl) (by decide))) V.set_same (by decide))) (.nil trivial)
  ·refine kW n2 rfl (cm (out:=(qL [a,b]).map .str) (link:= [(1,3)]) (cZ:= [none,some (.int 1),none,some (.lst [.str a,.str b])]) ⟨V.all1 rfl,V.all1 ⟨_,n1,rfl⟩,rfl,by decide+kernel,(aD (ar h.ok n3 (dA h)) (af (aD (ar h.ok n4 (fB h)) (af (aM n1 rfl) ak) bp (c6 (.lst _) (aV (m:=2) (by rw [bw];exact hl) (by decide)))) ak) cK cR),(cL (a:=0) (b:=2) (by decide) (by decide) (by decide)),trivial,λu w=>rfl⟩ (λla hla=> ?_) rfl (bo (f:=AV.str) (λx=>cc))) ia rfl;have es1:(((Z.set ⟨n,e0⟩ (.list ((fR q).map .str))).set la (.list [])).set la (.list ([]++ [.str (Ew++a++nl)]))).set la (.list (([]++ [.str (Ew++a++nl)])++ [.str (Jv++b++nl)]))=(Z.set ⟨n,e0⟩ (.list ((fR q).map .str))).set la (.list ((qL [a,b]).map .str)):=by rw [V.set_set,V.set_set];rfl
   rw [<-es1];exact .take (b6:= [none,some (.int 0),none,some (.lst [.str a,.str b])]) trivial (ag (i:=1) rfl rfl) (.inl ⟨rfl,rfl,rfl⟩) (.emit (nF (v:= .str (Ew++a++nl)) (by rw [<-Kr];exact az (az (az (az aW (aD (ar h.ok (i:=2) rfl (kE h)) (af (aa (i:=1) rfl rfl) ak) cK (qE (by decide))) (kM (by decide+kernel))) aW (kM (by decide+kernel))) (aS (aM (i:=3) rfl rfl) (aa (i:=1) rfl rfl) (bk (.lst _)) (bF (.lst _) (by decide) (by decide) rfl)) (dD (a:=10) (b:=100) (by delta V.B;decide+kernel) (hb _ (by simp)) (by decide))) aW (dD (a:=110) (b:=1) (fQ (a:=10) (b:=100) (by delta V.B;decide+kernel) (hb _ (by simp))) (iV rfl) (by decide))) V.set_same (by decide))) (.take trivial (ag (i:=1) rfl rfl) (.inl ⟨rfl,rfl,rfl⟩) (.emit (nF (v:= .str (Jv++b++nl)) (by rw [<-MF];exact az (az (az (az aW (aD (ar h.ok (i:=2) rfl (kE h)) (af (aa (i:=1) rfl rfl) ak) cK (qE (by decide))) (kM (by decide+kernel))) aW (kM (by decide+kernel))) (aS (aM (i:=3) rfl rfl) (aa (i:=1) rfl rfl) (bk (.lst _)) (bF (.lst _) (by decide) (by decide) rfl)) (dD (a:=10) (b:=100) (by delta V.B;decide+kernel) (hb _ (by simp)) (by decide))) aW (dD (a:=110) (b:=1) (fQ (a:=10) (b:=100) (by delta V.B;decide+kernel) (hb _ (by simp))) (iV rfl) (by decide))) V.set_same (show([]++ [AV.str (Ew++a++nl)]).length<=sizeLine from aV (m:=1) (bT _) (by decide)))) (.nil trivial))
  ·simp at hl
 refine aE (ai:= [some (.int q),some (.lst (texts.map .str)),some (.loc ⟨n,e0⟩),none,none]) (ae:=Z.set ⟨n,e0⟩ (.list ((iL q texts).map .str))) ?_ ?_
 ·rcases hb2:bit (q.fdiv 2)with _ | _
  ·have eo:iL q texts=fR q++qL texts:=by delta iL;rw [hb2];exact iM _
   rw [eo];exact rj (b:=false) (aX (b:=false) (az (az (aa n0 rfl) aC (gv (by decide) rfl rfl)) aC (dm (by decide) rfl)) (cY hb2)) bA
  ·have eo:iL q texts=(fR q++qL texts)++ [gX]:=by delta iL;rw [hb2];rfl
   rw [eo,e9 (l₁:=fR q++qL texts)];exact rj (b:=true) (aX (b:=true) (az (az (aa n0 rfl) aC (gv (by decide) rfl rfl)) aC (dm (by decide) rfl)) (cY hb2)) (aJ (cv (aL (aa n2 rfl) iY (af aW ak) bp (i8 (aV (m:=3) (by rw [bw,cS];omega) (by decide))))) bA)
 have lz:((iL q texts).map AV.str).length<=sizeLine:=aV (m:=4) (by rw [bw];exact rl) (by decide);have rb:=Il (q:=q) hb
 revert rl lz rb
 delta partsOf;generalize iL q texts=R;intro rl lz rb;rcases R with _ | ⟨x,r⟩
 ·exact bP (b9 (b:=false) (aX (b:=false) (aa n2 rfl) (fH (.loc V.set_same) lz rfl)) (hU (af aW ak) (dX rfl)))
 ·have MA:eP ((x::r).map AV.str) none (some 1) none= [.str x]:=wm _ _;have sl2:eP ((x::r).map AV.str) (some 1) none none=r.map .str:=pv _ _;have zl: [AV.str x].length+(r.map λp=>AV.str (sp++p)).length<=sizeLine:=aV (m:=4) (by rw [bw];simp only [cq,ip]at rl⊢;omega) (by decide);have er:(jK (x::r)).map AV.str= [AV.str x]++r.map λp=>AV.str (sp++p):=by delta jK;rw [dj,dP];rfl
  rw [er];refine bP (b9 (b:=true) (aX (b:=true) (aa n2 rfl) (fH (.loc V.set_same) lz rfl)) (az (aS (aa n2 rfl) (bL bc (bJ aC) bc) (bk (.loc V.set_same)) (e8 (.loc V.set_same) .none (fw.int _) .none (by decide) lz MA)) (cm (out:=r.map λp=>AV.str (sp++p)) (link:= []) (cZ:= [none,(eF r).map .str]) ⟨V.all1 rfl,xb,rfl,by decide+kernel,(aS (aa n2 rfl) (bL (bJ aC) bc bc) (bk (.loc V.set_same)) (e8 (.loc V.set_same) (fw.int _) .none .none (by decide) lz sl2)),iU,.lst _,λu w=>rfl⟩ (λla hla=> ?_) rfl (bo (λx=>cc))) (uN (.lst _) (.lst _) zl)));exact g8 (enc:=AV.str) (val:=λp=>AV.str (sp++p)) (M:=λo=> [none,o.map AV.str]) (Sg:=λout=>(Z.set ⟨n,e0⟩ (.list ((x::r).map .str))).set la (.list out)) (by simp only [cq]at rl;omega) (λu=> .lst _) (λu=>V.set_same) (λu w=>V.set_set) rfl (λo y out hy=>ag (i:=1) rfl rfl)
   (λy out hy=>az aW (aa (i:=1) rfl rfl) (dD (a:=1) (b:=120) (iV rfl) (rb y (.tail _ hy)) (by decide)))
theorem AN (h:V.Tv C k sc ms Z x b aK aB):Et C k sc ms Z .And [x] b aK aB:=by
 cases b with
 | false=>exact b7 h
 | true=>exact cg h f9
noncomputable def tri (n:Nat) (a r e:List AV) (Z:V.St):V.St:=λl=>
 if l=⟨n,e0⟩then some (.list a)else if l=⟨n+1,e0⟩then some (.list r)else if l=⟨n+2,e0⟩then some (.list e)else Z l
section
variable {n:Nat} {a r e x:List AV} {Z:V.St}
theorem Lp:(⟨n+1,e0⟩:V.Loc)≠⟨n,e0⟩:=λz=>by have:=dY V.Loc.tag z;simp at this
theorem Ml:(⟨n+2,e0⟩:V.Loc)≠⟨n,e0⟩:=λz=>by have:=dY V.Loc.tag z;simp at this
theorem Mp:(⟨n+2,e0⟩:V.Loc)≠⟨n+1,e0⟩:=λz=>by have:=dY V.Loc.tag z;simp at this
theorem xl:tri n a r e Z ⟨n,e0⟩=some (.list a):=aF rfl
theorem HI:tri n a r e Z ⟨n+1,e0⟩=some (.list r):=by delta tri;rw [ay Lp,aF rfl]
theorem HZ:tri n a r e Z ⟨n+2,e0⟩=some (.list e):=by delta tri;rw [ay Ml,ay Mp,aF rfl]
theorem K6:(tri n a r e Z).set ⟨n,e0⟩ (.list x)=tri n x r e Z:=by
 funext l;delta V.St.set tri;by_cases h:l=⟨n,e0⟩
 ·rw [aF h,aF h]
 ·rw [ay h,ay h,ay h]
theorem KI:(tri n a r e Z).set ⟨n+1,e0⟩ (.list x)=tri n a x e Z:=by
 funext l;delta V.St.set tri;by_cases h:l=⟨n+1,e0⟩
 ·subst h;rw [aF rfl,ay Lp,aF rfl]
 ·rw [ay h,ay h,ay h]
theorem KD:(tri n a r e Z).set ⟨n+2,e0⟩ (.list x)=tri n a r x Z:=by
 funext l;delta V.St.set tri;by_cases h:l=⟨n+2,e0⟩
 ·subst h;rw [aF rfl,ay Ml,ay Mp,aF rfl]
 ·rw [ay h,ay h,ay h]
theorem FA:((Z.set ⟨n,e0⟩ (.list [])).set ⟨n+1,e0⟩ (.list [])).set ⟨n+2,e0⟩ (.list [])=tri n [] [] [] Z:=by
 funext l;delta V.St.set tri;by_cases h:l=⟨n,e0⟩
 ·subst h;rw [ay Ml.symm,ay Lp.symm,aF rfl,aF rfl]
 ·by_cases h1:l=⟨n+1,e0⟩
  ·subst h1;rw [ay Mp.symm,aF rfl,ay Lp,aF rfl]
  ·by_cases h2:l=⟨n+2,e0⟩
   ·rw [aF h2,ay h,ay h1,aF h2]
   ·rw [ay h2,ay h1,ay h,ay h,ay h1,ay h2]
theorem FF (h0:l≠⟨n,e0⟩) (h1:l≠⟨n+1,e0⟩) (h2:l≠⟨n+2,e0⟩):tri n a r e Z l=Z l:=by delta tri;rw [ay h0,ay h1,ay h2]
end
noncomputable def fu (N:List Int) (j:Int):List Int:=if N.any (· ==j)then N else N++ [j]
noncomputable def de (ord:List Int) (nd:Int->List Int):List Int:=ord.foldl (λN k=>([k]++nd k).foldl fu N) []
noncomputable def cA (st:Int) (g:List Int):List Int:=if st=1 then g else g.reverse
theorem C1 {st:Int} (hst:st=1\/st= -1) (g:List Int):eP (g.map AV.int) none none (some st)=(cA st g).map .int:=by
 delta cA;refine aP hst (λz=>?_) λq=>?_
 ·subst z;rw [aF rfl,zI]
 ·subst q;rw [ay (by decide),zW,List.map_reverse]
theorem eO {st:Int} {g:List Int}:(cA st g).length=g.length:=by delta cA;split<;>simp
noncomputable def met (nd:Int->List Int) (E:List Int) (k:Int):Bool:=((nd k).filter λi=> !(E.any (· ==i))).isEmpty
noncomputable def mA (st:Int) (ord:List Int) (nd:Int->List Int) (E g:List Int):List Int:=(cA st g).flatMap λj=>ord.filter λk=>(nd k).any (· ==j) && met nd E k
noncomputable def gh:List Int->List Int
 | []=> []
 | x::r=>if r.any (· ==x)then gh r else x::gh r
class inductive th (st:Int) (ord:List Int) (nd:Int->List Int):List Int->List Int->List (List Int)->Prop
 | nil {E:List Int}:th st ord nd E [] []
 | cons {E g:List Int} {rs:List (List Int)} (h:g≠ []) (hz:g.length<=1000) (hE:E.length<=1000) (r:th st ord nd (E++g) (gh (mA st ord nd (E++g) g)) rs):th st ord nd E g (g::rs)
noncomputable def HV (nd:Int->List Int) (N:List Int):List Int:=N.filter λk=>(nd k).isEmpty
noncomputable def ix (n:Nat):List Int:=(List.range n).map λ(i:Nat)=>(i:Int)
theorem yD (n:Nat):sE 0 n=(ix n).map .int:=by delta sE ix;rw [dP,Int.sub_zero,tS];exact pM λi u=>dY AV.int (Int.zero_add _)
theorem IF (D:List Int):((ix D.length).filter λi=> !((D.drop (i.toNat+1)).any (· ==D[i.toNat]?.getD 0))).map (λi=>D[i.toNat]?.getD 0)=gh D:=by
 induction D with
 | nil=>simp [ix,gh]
 | cons x D ih=>
  have e:ix (x::D).length=0::(ix D.length).map (λi=>i+1):=by delta ix;rw [cq,List.range_succ_eq_map,dj,dP,dP];rfl
  have h0: ∀i∈ix D.length,0<=i:=λi hi=>by delta ix at hi;refine kK (bM.mp hi) λj _=>?_;exact Int.natCast_nonneg j
  have Og: ∀i∈ix D.length,(i+1).toNat=i.toNat+1:=λi hi=>by have:=h0 i hi;omega
  rw [e,pY,List.filter_map];have f:(ix D.length).filter ((λi=> !(((x::D).drop (i.toNat+1)).any (· ==(x::D)[i.toNat]?.getD 0))) ∘ λi=>i+1)=(ix D.length).filter λi=> !((D.drop (i.toNat+1)).any (· ==D[i.toNat]?.getD 0)):=by apply zX;intro i hi;refine(?_:(!(((x::D).drop ((i+1).toNat+1)).any (· ==(x::D)[(i+1).toNat]?.getD 0)))=_);rw [Og i hi];rfl
  have g: ∀l:List Int,(∀i∈l,i∈ix D.length)->(l.map λi=>i+1).map (λi=>(x::D)[i.toNat]?.getD 0)=l.map λi=>D[i.toNat]?.getD 0:=λl hl=>by rw [dP];apply pM;intro i hi;refine(?_:(x::D)[(i+1).toNat]?.getD 0=_);rw [Og i (hl i hi)];rfl
  have z:(!(((x::D).drop ((0:Int).toNat+1)).any (· ==(x::D)[(0:Int).toNat]?.getD 0)))= !(D.any (· ==x)):=rfl;rw [z,f];unfold gh;cases D.any (· ==x)
  ·rw [aF (by rfl),ay (by decide),dj,g _ (λi hi=>(kO.mp hi).1),ih];rfl
  ·rw [ay (by decide),aF rfl,g _ (λi hi=>(kO.mp hi).1),ih]
theorem pI {st:Int} {ord:List Int} {nd:Int->List Int} {C:V.Cx} {k:Nat} {sc:Scope} {te:Expr} {bd:List Stmt} {M:List Int->Option AV->List (Option AV)} {S:List (List Int)->List Int->V.St}
  (Ji: ∀acc E d,V.Tv C k sc (M [] d) (S acc E) te false (M [] d) (S acc E))
  (Ek: ∀acc E g d,g≠ []->g.length<=1000->V.Tv C k sc (M g d) (S acc E) te true (M g d) (S acc E))
  (NB: ∀acc E g d,acc.length<=1000->g.length<=1000->E.length<=1000->V.Ex C k sc (M g d) (S acc E) bd .next (M (gh (mA st ord nd (E++g) g)) (some (.lst ((mA st ord nd (E++g) g).map .int)))) (S (acc++ [g]) (E++g))):
  ∀{E g:List Int} {rs:List (List Int)} (acc:List (List Int)) (d:Option AV),th st ord nd E g rs->acc.length+rs.length<=1000-> ∃d',V.Wr C k sc te bd [] (M g d) (S acc E) .next (M [] d') (S (acc++rs) (E++rs.flatten)):=by
 intro E g rs acc d R
 induction R generalizing acc d with
 | nil=>intro u;rw [iM,List.flatten_nil,iM];exact⟨_,.out (Ji acc _ d) bA⟩
 | @cons E g rs h hz hE r ih=>intro hl;simp only [cq]at hl;refine cG (ih (acc++ [g]) (some (.lst ((mA st ord nd (E++g) g).map .int))) (by rw [cS];simp only [cq,ip];omega)) λd' w=>?_;rw [eX,eX,<-List.flatten_cons]at w;exact⟨d',.turn (Ek acc E g d h hz) (NB acc E g d (by omega) hz hE) (.inl rfl) w⟩
theorem zz {st:Int} {ord:List Int} {nd:Int->List Int} {C:V.Cx} {k:Nat} {sc:Scope} {te:Expr} {bd rest:List Stmt} {pos:Pos} {f:V.AF} {aB:V.St} {M:List Int->Option AV->List (Option AV)} {S:List (List Int)->List Int->V.St} {g:List Int} {rs:List (List Int)} {d:Option AV}
  (R:th st ord nd [] g rs) (hz:rs.length<=1000)
  (Ji: ∀acc E d,V.Tv C k sc (M [] d) (S acc E) te false (M [] d) (S acc E))
  (Ek: ∀acc E g d,g≠ []->g.length<=1000->V.Tv C k sc (M g d) (S acc E) te true (M g d) (S acc E))
  (NB: ∀acc E g d,acc.length<=1000->g.length<=1000->E.length<=1000->V.Ex C k sc (M g d) (S acc E) bd .next (M (gh (mA st ord nd (E++g) g)) (some (.lst ((mA st ord nd (E++g) g).map .int)))) (S (acc++ [g]) (E++g)))
  (hr: ∀d',V.Go C k sc (M [] d') (S rs rs.flatten) rest f aB):V.Go C k sc (M g d) (S [] []) (.While te bd [] pos::rest) f aB:=by
 refine cG (pI Ji Ek NB [] d R (by simpa using hz)) λd' w=>aE (j4 w) (hr d')
noncomputable def dH (nd:Int->List Int):AV:= .lst (bq.map λk=> .lst ((nd k).map .int))
noncomputable def wy (a:List Int×Option Int) (j:Int):List Int×Option Int:=(fu a.1 j,some j)
noncomputable def vQ (nd:Int->List Int) (a:List Int×Option Int×Option Int) (k:Int):List Int×Option Int×Option Int:=((([k]++nd k).foldl wy (a.1,a.2.2)).1,some k,(([k]++nd k).foldl wy (a.1,a.2.2)).2)
theorem Ce: ∀(xs:List Int) (a:List Int×Option Int),(xs.foldl wy a).1=xs.foldl fu a.1:=by
 intro aH;induction aH with
 | nil=>intro u;exact rfl
 | cons x xs ih=>intro a;exact ih (wy a x)
theorem EI (nd:Int->List Int): ∀(xs:List Int) (a:List Int×Option Int×Option Int),(xs.foldl (vQ nd) a).1=xs.foldl (λN k=>([k]++nd k).foldl fu N) a.1:=by
 intro aH;induction aH with
 | nil=>intro u;exact rfl
 | cons x xs ih=>
  intro a;rw [cW,ih,cW]
  congr 1
  exact Ce _ _
theorem u5 (N:List Int) (j:Int):(fu N j).length<=N.length+1:=by delta fu;split<;>simp
theorem yj: ∀(xs:List Int) (N:List Int),(xs.foldl fu N).length<=N.length+xs.length:=by
 intro aH;induction aH with
 | nil=>intro u;exact bT _
 | cons x xs ih=>intro N;have:=ih (fu N x);have:=u5 N x;rw [cW,cq];omega
theorem zp {nd:Int->List Int} (h: ∀k,(nd k).length<=2): ∀(xs:List Int) (N:List Int),(xs.foldl (λN k=>([k]++nd k).foldl fu N) N).length<=N.length+3 * xs.length:=by
 intro aH;induction aH with
 | nil=>intro u;exact bT _
 | cons x xs ih=>intro N;have h1:=ih (([x]++nd x).foldl fu N);have h2:=yj ([x]++nd x) N;have h3:=h x;simp only [cS,cq,ip]at h2;rw [cW,cq];omega
theorem Lg {C:V.Cx} {k:Nat} {sc:Scope} {la:V.Loc} {e:Expr} {ok:V.St->Prop} {g:Comprehension} {gs:List Comprehension} {xs:List AV} {m0 m1:List (Option AV)} {s0:V.St} {Sg:List AV->V.St} {o o':List AV} (h:o=o') (z:V.CL C k sc la e ok g gs xs m0 s0 m1 (Sg o)):V.CL C k sc la e ok g gs xs m0 s0 m1 (Sg o'):=h▸z
theorem Dg {C:V.Cx} (h:Is C) {k:Nat} {Z:V.St} {ord:List Int} {nd:Int->List Int} {st:Int} {rs:List (List Int)} (hord: ∀x∈ord,x∈bq) (hol:ord.length<=10) (hnd: ∀k,(nd k).length<=2) (hnk: ∀x∈de ord nd,x∈bq) (hst:st=1\/st= -1) (hR:th st ord nd [] (HV nd (de ord nd)) rs) (hrs:rs.length<=1000):
  V.Cd C (k+1) Z (.ext 464) [.lst (ord.map .int),dH nd,.int st] [] (.lst (rs.map λg=> .lst (g.map .int))) Z:=by
 have hx0:=h.hx;refine eB h.ok ⟨⟨_,_,_,by rw [h.K];exact rfl⟩,rfl,rfl,rfl,rfl,by rw [h.K];rfl,rfl,rfl,by decide+kernel⟩ [ce "order",ce "needs",lo "step",lo "named",lo "rounds",ce "ended",lo "k",lo "j",lo "group",ce "due",gi "range",gi "len"] rfl [("order",.lst (ord.map .int)),("needs",dH nd),("step",.int st)] _
  (bR (Fy λa0 a1 a2=>rfl) rfl) rfl rfl λsc hF n hn=> ?_
 refine tJ hF λn0 n1 n2 n3 n4 n5 n6 n7 q0=>ve q0 λn8 n9 n10 AD _=>?_;clear hF;have hl0:Z ⟨n,e0⟩=none:=hn _ (bT _);have hl1:(Z.set ⟨n,e0⟩ (.list [])) ⟨n+1,e0⟩=none:=by rw [ao Lp];exact hn _ (jm _)
 have hl2:((Z.set ⟨n,e0⟩ (.list [])).set ⟨n+1,e0⟩ (.list [])) ⟨n+2,e0⟩=none:=by rw [ao Mp,ao Ml];exact hn _ (gZ n 2)
 obtain⟨kz,hkz⟩: ∃kz,kz=(ord.foldl (vQ nd) ([],none,none)).2.1:=⟨_,rfl⟩;obtain⟨jz,Pu⟩: ∃jz,jz=(ord.foldl (vQ nd) ([],none,none)).2.2:=⟨_,rfl⟩;have nm:(ord.foldl (vQ nd) ([],none,none)).1=de ord nd:=EI nd ord _;have PT:(de ord nd).length<=100:=by have:=zp hnd ord [];delta de;simp only [ip]at this;omega
 refine gQ (v:= .lst (rs.map λg=> .lst (g.map .int))) (cP:=(tri n ((de ord nd).map .int) ((rs).map λg:List Int=>AV.lst (g.map .int)) ((rs.flatten).map .int) Z)) ?_ ⟨λl o z=> ?_,λu z=>z,λu w z=> .inl z,.inr (.inl ⟨⟨n+1,e0⟩,_,rfl,rfl,HI,hn _ (jm _),bo (λg=>j8 (bo (λx=>fN))) _⟩)⟩;rotate_left
 ·rw [FF (λq=>by rw [q,hl0]at z;exact dF z) (λq=>by rw [q,hn _ (jm _)]at z;exact dF z) (λq=>by rw [q,hn _ (gZ n 2)]at z;exact dF z)];exact z
 refine aE (ai:= [some (.lst (ord.map .int)),some (dH nd),some (.int st),some (.loc ⟨n,e0⟩),some (.loc ⟨n+1,e0⟩),some (.loc ⟨n+2,e0⟩),none,none,none,none,none,none]) (ae:=tri n [] [] [] Z) ?_ ?_
 ·rw [<-FA];exact o9 (cU (af (dU ⟨n,e0⟩ ak (dW _) hl0) (af (dU ⟨n+1,e0⟩ ak (dW _) hl1) (af (dU ⟨n+2,e0⟩ ak (dW _) hl2) ak))) (dX rfl)) (iT (cC (ag n3 rfl) (cC (ag n4 rfl) (cC (dw n5 rfl) ke))) rfl (λu=>rfl) (λu=>rfl) hx0) (λu=>rfl) (λenv hk hb=>wN (by rw [hk 5 "ended" .cell n5];rfl) hb rfl) (λu=>rfl)
 refine iH (aM n0 rfl) dG trivial (KG (C:=C) (k:=k) (sc:=sc) (ok:=λu=>True) (enc:=AV.int)
    (M:=λ(a:List Int×Option Int×Option Int)=> [some (.lst (ord.map .int)),some (dH nd),some (.int st),some (.loc ⟨n,e0⟩),some (.loc ⟨n+1,e0⟩),some (.loc ⟨n+2,e0⟩),a.2.1.map .int,a.2.2.map .int,none,none,none,none])
    (Sg:=λa=>(tri n ((a.1).map .int) (([]).map λg:List Int=>AV.lst (g.map .int)) (([]).map .int) Z)) (step:=vQ nd) (P:=λa xs=>a.1.length+3 * xs.length<=1000/\ ∀x∈xs,x∈bq)
    (λu w t=>trivial) (λa x xs hP=>⟨by
     have h1:=hP.1;have h2:=yj ([x]++nd x) a.1;have h3:=hnd x;simp only [cS,cq,ip]at h1 h2;refine(?_:(([x]++nd x).foldl wy (a.1,a.2.2)).1.length+_<=_);rw [Ce];refine(?_:(([x]++nd x).foldl fu a.1).length+_<=_);simp only [AU,kR]at h2⊢;omega,λy hy=>hP.2 y (.tail _ hy)⟩) ?_ ord ([],none,none) ⟨by refine(?_:0+3 * ord.length<=1000);omega,hord⟩ (z:=(de ord nd,kz,jz)) (Prod.ext nm (Prod.ext hkz.symm Pu.symm))) (λu w=>rfl) ?_
 ·rintro ⟨N,ko,jo⟩ x xs ⟨hl,hP⟩
  have hx:=hP x (.head _);have hl:N.length+3 * (xs.length+1)<=1000:=hl;have h2:=hnd x;refine cx (ag n6 rfl) ?_;have Ha:=λ(tgt:Expr) (body:List Stmt) hturn=>iA (C:=C) (k:=k) (sc:=sc) (ok:=λu=>True) (tgt:=tgt) (body:=body) (enc:=AV.int)
   (M:=λ(a:List Int×Option Int)=> [some (.lst (ord.map .int)),some (dH nd),some (.int st),some (.loc ⟨n,e0⟩),some (.loc ⟨n+1,e0⟩),some (.loc ⟨n+2,e0⟩),some (.int x),a.2.map .int,none,none,none,none])
   (Sg:=λa=>(tri n ((a.1).map .int) (([]).map λg:List Int=>AV.lst (g.map .int)) (([]).map .int) Z)) (step:=wy) (P:=λa xs=>a.1.length+xs.length<=1000)
   (λu w t=>trivial) (λa j xs hP=>by have:=u5 a.1 j;simp only [cq]at hP;refine(?_:(fu a.1 j).length+_<=_);omega) hturn ([x]++nd x) (N,jo) (by simp only [cS,cq,ip];omega)
  rw [e9]at Ha;refine aJ (jq (az (hU (af (aa n6 rfl) ak) (dX rfl)) (aS (aM n1 rfl) (aa n6 rfl) (bk (.lst _)) (bF (x:= .lst ((nd x).map .int)) (.lst _) (bG _ hx).1 (bG _ hx).2 (lO _ hx))) (uN (.lst _) (.lst _) (aV (m:=3) (by rw [bw];simp only [cq,ip];omega) (by decide)))) dG trivial (Ha _ _ ?_) (λu w=>rfl)) bA
  rintro ⟨N,jo⟩ j ys hP
  have hP:N.length+(ys.length+1)<=1000:=hP;refine cx (ag n7 rfl) ?_;delta wy fu;rcases hj:N.any (· ==j)with _ | _
  ·rw [ay dM];refine dy (aq (c:=true) (aa n7 rfl) (aa n3 rfl) (iB (.loc xl) (by rw [hj];rfl)) rfl) ?_;dsimp only;have z:=dJ (C:=C) (k:=k) (x:= .int j) (xl (n:=n) (a:=N.map .int) (r:=([]:List (List Int)).map λg=>AV.lst (g.map .int)) (e:=([]:List Int).map .int) (Z:=Z)) (aV (m:=1000) (by rw [bw];omega) (by decide));rw [K6,show N.map AV.int++ [.int j]=(N++ [j]).map .int by rw [e9];rfl]at z;exact aJ (cv (aL (aa n3 rfl) (eu xl) (af (aa n7 rfl) ak) bp z)) bA
  ·rw [aF rfl];exact ck (aq (c:=false) (aa n7 rfl) (aa n3 rfl) (iB (.loc xl) (by rw [hj];rfl)) rfl) bA
 refine aE (bZ (link:= [(1,2)]) (out:=(HV nd (de ord nd)).map .int) (cZ:= [none,(eF (de ord nd)).map .int,some (dH nd)]) ⟨V.all1 rfl,V.all1 ⟨_,n1,rfl⟩,rfl,by decide+kernel,(aa n3 rfl),iU,.loc xl,λu w=>rfl⟩ (λla hla=> ?_) rfl (bo (f:=AV.int) (λx=>fN)) (λenv=>⟨_,rfl⟩) (λu=>rfl) (λu=>rfl) (ag n8 rfl)) ?_
 ·have Pw:la≠⟨n,e0⟩:=λz=>by rw [z,xl]at hla;exact sa hla
  refine fE (enc:=AV.int) (val:=AV.int) (p:=λk=>(nd k).isEmpty) (M:=λo=> [none,o.map .int,some (dH nd)]) (Sg:=λout=>(tri n ((de ord nd).map .int) (([]).map λg:List Int=>AV.lst (g.map .int)) (([]).map .int) Z).set la (.list out)) (by omega) (λu=> .loc (by rw [ao Pw.symm];exact xl)) (λu=>V.set_same) (λu w=>V.set_set) rfl (λo y out hy=>ag (i:=1) rfl rfl) (λy out hy=> ?_) (λy out hy u=>aa (i:=1) rfl rfl);have vY:y∈bq:=hnk y hy;have e:(nd y).isEmpty= !(!((nd y).map AV.int).isEmpty):=by cases nd y<;>rfl
  rw [e];exact d4 (aX (aS (aM (i:=2) rfl rfl) (aa (i:=1) rfl rfl) (bk (.lst _)) (bF (x:= .lst ((nd y).map .int)) (.lst _) (bG _ vY).1 (bG _ vY).2 (lO _ vY))) (fH (.lst _) (aV (m:=2) (by rw [bw];exact hnd y) (by decide)) rfl))
 refine zz (M:=λg d=> [some (.lst (ord.map .int)),some (dH nd),some (.int st),some (.loc ⟨n,e0⟩),some (.loc ⟨n+1,e0⟩),some (.loc ⟨n+2,e0⟩),kz.map .int,jz.map .int,some (.lst (g.map .int)),d,none,none]) (S:=λacc E=>(tri n ((de ord nd).map .int) ((acc).map λg:List Int=>AV.lst (g.map .int)) ((E).map .int) Z)) hR hrs (λacc E d=> ?_) (λacc E g d hg NC=> ?_) (λacc E g d ha NC hE=> ?_) (λd'=>bP (aa n4 rfl))
 ·exact aX (b:=false) (aa n8 rfl) (fH (.lst _) (dW _) rfl)
 ·exact aX (b:=true) (aa n8 rfl) (fH (.lst _) (aV (m:=1000) (by rw [bw];exact NC) (by decide)) (by cases g with | nil=>exact absurd rfl hg | cons=>rfl))
 have z:=dJ (C:=C) (k:=k) (x:= .lst (g.map .int)) (HI (n:=n) (a:=(de ord nd).map .int) (r:=acc.map λg=>AV.lst (g.map .int)) (e:=E.map .int) (Z:=Z)) (aV (m:=1000) (by rw [bw];exact ha) (by decide));rw [KI,show(acc.map λg=>AV.lst (g.map .int))++ [AV.lst (g.map .int)]=(acc++ [g]).map λg=>AV.lst (g.map .int) by rw [e9];rfl]at z;refine aJ (cv (aL (aa n4 rfl) (eu HI) (af (aa n8 rfl) ak) bp z)) ?_;clear z;generalize acc++ [g]=acc;have z:=AM (C:=C) (k:=k) (v:= .lst (g.map .int)) (HZ (n:=n) (a:=(de ord nd).map .int) (r:=acc.map λg=>AV.lst (g.map .int)) (e:=E.map .int) (Z:=Z)) (.lst _) (by rw [bw,bw];omega) (by intro q;cases q);rw [KD,<-e9]at z;refine aJ (wk n5 rfl (aa n8 rfl) z rfl) ?_;clear z;have hF:(E++g).length<=2000:=by rw [cS];omega
 generalize E++g=F at *;have Oh: ∀{la:V.Loc} {o:AO},(tri n ((de ord nd).map .int) ((acc).map λg:List Int=>AV.lst (g.map .int)) ((F).map .int) Z) la=none->(tri n ((de ord nd).map .int) ((acc).map λg:List Int=>AV.lst (g.map .int)) ((F).map .int) Z).set la o ⟨n+2,e0⟩=some (.list (F.map .int)):=λ{la o} hz=>by rw [ao (λq=>by rw [<-q,HZ]at hz;exact sa hz)];exact HZ
 generalize (tri n ((de ord nd).map .int) ((acc).map λg:List Int=>AV.lst (g.map .int)) ((F).map .int) Z)=τ at *;have hdl:(mA st ord nd F g).length<=10000:=by
  delta mA;have: ∀l:List Int,(l.flatMap λj=>ord.filter λk=>(nd k).any (· ==j) && met nd F k).length<=l.length * 10:=by
   intro l
   induction l with
   | nil=>exact bT _
   | cons x l ih=>rw [gj,cS,cq,Nat.succ_mul];have:=CF (λk=>(nd k).any (· ==x) && met nd F k) ord;omega
  have:=this (cA st g);rw [eO]at this;omega
 obtain⟨D,hD⟩: ∃D,D=mA st ord nd F g:=⟨_,rfl⟩;rw [<-hD]at hdl⊢;refine aJ (ai:= [some (.lst (ord.map .int)),some (dH nd),some (.int st),some (.loc ⟨n,e0⟩),some (.loc ⟨n+1,e0⟩),some (.loc ⟨n+2,e0⟩),kz.map .int,jz.map .int,some (.lst (g.map .int)),some (.lst (D.map .int)),none,none]) (ae:=τ) ?_ ?_
 ·have en:(cA st g).flatMap (λj=>(ord.filter λk=>(nd k).any (· ==j) && met nd F k).map AV.int)=D.map .int:=by rw [hD];delta mA;rw [List.map_flatMap]
  refine bZ (link:= [(5,3),(1,4),(0,5)]) (cZ:= [none,((cA st g).foldl (λ(s:Option Int×Option Int) x=>(some x,ord.foldl (λu x=>some x) s.2)) (none,none)).1.map AV.int,((cA st g).foldl (λ(s:Option Int×Option Int) x=>(some x,ord.foldl (λu x=>some x) s.2)) (none,none)).2.map AV.int,some (.loc ⟨n+2,e0⟩),some (dH nd),some (.lst (ord.map .int))]) ⟨V.all2 rfl rfl,vD ⟨_,n5,rfl⟩ (V.all2 ⟨_,n1,rfl⟩ ⟨_,n0,rfl⟩),rfl,by decide+kernel,(aS (aa n8 rfl) (bL bc bc (bJ (aa n2 rfl))) (bk (.lst _)) (e8 (.lst _) .none .none (fw.int _) (by rcases hst with rfl | rfl<;>decide) (aV (m:=1000) (by rw [bw];exact NC) (by decide)) (C1 hst g))),dG,trivial,λu w=>rfl⟩ (out:=D.map .int) (λla hla=> ?_) rfl (bo (f:=AV.int) (λx=>fN)) (λenv=>⟨_,rfl⟩) (λu=>rfl) (λu=>rfl) (dw n9 rfl);refine Lg (Sg:=λo=>τ.set la (.list o)) ((kR _).trans en) (xV (C:=C) (k:=k) (sc:=_) (enc:=AV.int) (f:=λj=>(ord.filter λk=>(nd k).any (· ==j) && met nd F k).map AV.int) (M:=λ(o o2:Option Int)=> [none,o.map AV.int,o2.map AV.int,some (.loc ⟨n+2,e0⟩),some (dH nd),some (.lst (ord.map .int))]) (nx:=λu o2=>ord.foldl (λu x=>some x) o2) (Sg:=λout=>τ.set la (.list out)) (ok:=λu=>True) (la:=la) (g:=_) (gw:=cA st g) (K:=10) (λout=>trivial) rfl (λo o2 x out hx=> ?_) (λx=>by rw [bw];exact bU (CF _ _) hol) (λx o2 out hx hlen=> ?_) (cA st g) [] none none (λu z=>z) (aV (n:=([]:List AV).length+(cA st g).length * 10) (m:=10000) (by rw [eO,ip];omega) (by decide)))
  ·exact ag (i:=1) rfl rfl
  ·refine V.CB.gen (aM (i:=5) rfl rfl) dG trivial (λu w=>rfl) (lZ (C:=C) (k:=k) (sc:=bD _) (enc:=AV.int) (val:=AV.int) (p:=λk=>(nd k).any (· ==x) && met nd F k) (M:=λo:Option Int=> [none,some (.int x),o.map AV.int,some (.loc ⟨n+2,e0⟩),some (dH nd),some (.lst (ord.map .int))]) (Sg:=λout=>τ.set la (.list out)) (ok:=λu=>True) (la:=la) (gw:=ord) (λout=>trivial) (λout=>V.set_same) (λout out'=>V.set_set) (λo y out hy=> ?_) (.inr ⟨_,rfl,(λy out hy=> ?_)⟩) (λy out hy u=> ?_) ord out o2 (λu z=>z) (bU (Nat.add_le_add_left hol _) hlen))
   ·exact ag (i:=2) rfl rfl
   ·have vY:=hord y hy;rcases h1:(nd y).any (· ==x)with _ | _
    ·exact aY (b7 (aq (c:=false) (aa (i:=1) rfl rfl) (aS (aM (i:=4) rfl rfl) (aa (i:=2) rfl rfl) (bk (.lst _)) (bF (x:= .lst ((nd y).map .int)) (.lst _) (bG _ vY).1 (bG _ vY).2 (lO _ vY))) (tY (.lst _) h1) rfl))
    ·rw [Bool.true_and];have e2:(!(!(((nd y).filter λi=> !(F.any (· ==i))).map AV.int).isEmpty))=met nd F y:=by delta met;cases (nd y).filter λi=> !(F.any (· ==i))<;>rfl
     refine aY (cg (aq (c:=true) (aa (i:=1) rfl rfl) (aS (aM (i:=4) rfl rfl) (aa (i:=2) rfl rfl) (bk (.lst _)) (bF (x:= .lst ((nd y).map .int)) (.lst _) (bG _ vY).1 (bG _ vY).2 (lO _ vY))) (tY (.lst _) h1) rfl) (AN ?_));rw [<-e2];refine d4 (aX (cm (out:=((nd y).filter λi=> !(F.any (· ==i))).map AV.int) (link:= [(3,2)]) (cZ:= [none,(eF (nd y)).map .int,some (.loc ⟨n+2,e0⟩)]) ⟨V.all1 rfl,V.all1 ⟨_,rfl,rfl⟩,rfl,by decide+kernel,(aS (aM (i:=4) rfl rfl) (aa (i:=2) rfl rfl) (bk (.lst _)) (bF (x:= .lst ((nd y).map .int)) (.lst _) (bG _ vY).1 (bG _ vY).2 (lO _ vY))),dG,trivial,λu w=>rfl⟩ (λEe hla'=>fE (C:=C) (k:=k) (sc:=bD _) (la:=Ee) (enc:=AV.int) (val:=AV.int) (p:=λi=> !(F.any (· ==i))) (M:=λo=> [none,o.map .int,some (.loc ⟨n+2,e0⟩)]) (Sg:=λo=>(τ.set la (.list out)).set Ee (.list o)) (ok:=λu=>True) (xs:=nd y) (bU (hnd y) (by decide)) (λu=>trivial) (λu=>V.set_same) (λu w=>V.set_set) rfl (λo i o' hi=> ?_) (λi o' hi=> ?_) (λi o' hi u=> ?_)) rfl (bo (f:=AV.int) (λx=>fN))) (fH (.lst _) (aV (m:=2) (by rw [bw];exact bU (CF _ _) (hnd y)) (by decide)) rfl))
     ·exact ag (i:=1) rfl rfl
     ·exact aq (aa (i:=1) rfl rfl) (aM (i:=2) rfl rfl) (iB (.loc (by rw [ao (λq=>by rw [<-q,Oh hla]at hla';exact sa hla')];exact Oh hla)) rfl) rfl
     ·exact aa (i:=1) rfl rfl
   ·exact aa (i:=2) rfl rfl
 ·have bd: ∀i∈ix D.length,0<=i/\i<1000000/\D[i.toNat]? =some (D[i.toNat]?.getD 0)/\i.toNat+1<=D.length:=λi hi=>by delta ix at hi;refine kK (bM.mp hi) λj hj=>?_;rw [zG]at hj;rw [tS,ng hj];exact tI (Int.natCast_nonneg j) (by omega) rfl hj
  have Jj:(ix D.length).length=D.length:=by delta ix;rw [bw,AZ]
  have dl:(D.map AV.int).length<=sizeLine:=aV (m:=10000) (by rw [bw];exact hdl) (by decide);have IR:=λtgt=>cL (tgt:=tgt) (C:=C) (k:=k) (a:=0) (b:=(D.length:Int)) (by decide) (by omega) (by omega);simp only [yD]at IR;refine aJ (bZ (link:= [(9,2)]) (out:=(gh D).map .int) (cZ:= [none,(eF (ix D.length)).map .int,some (.lst (D.map .int))]) ⟨V.all1 rfl,V.all1 ⟨_,n9,rfl⟩,rfl,by decide+kernel,(by have z:=c6 (C:=C) (k:=k) (Z:=τ) (.lst (D.map .int)) dl;rw [bw]at z;exact(aD (ar h.ok n10 (dA h)) (af (aD (ar h.ok AD (fB h)) (af (aM n9 rfl) ak) bp z) ak) cK cR)),IR _,trivial,λu w=>rfl⟩ (λla hla=> ?_) rfl (bo (f:=AV.int) (λx=>fN)) (λenv=>⟨_,rfl⟩) (λu=>rfl) (λu=>rfl) (ag n8 rfl)) bA;have ed:((ix D.length).filter λi=> !((D.drop (i.toNat+1)).any (· ==D[i.toNat]?.getD 0))).map (λi=>AV.int (D[i.toNat]?.getD 0))=(gh D).map .int:=by rw [<-IF,dP];rfl
  have at1: ∀i∈ix D.length,(D.map AV.int)[i.toNat]? =some (.int (D[i.toNat]?.getD 0)):=λi hi=>by rw [gr,(bd i hi).2.2.1];rfl
  refine Lg (Sg:=λo=>τ.set la (.list o)) ed (fE (C:=C) (k:=k) (sc:=bD _) (la:=la) (enc:=AV.int) (val:=λi:Int=>AV.int (D[i.toNat]?.getD 0)) (p:=λi=> !((D.drop (i.toNat+1)).any (· ==D[i.toNat]?.getD 0))) (M:=λo=> [none,o.map .int,some (.lst (D.map .int))]) (Sg:=λo=>τ.set la (.list o)) (ok:=λu=>True) (xs:=ix D.length) (by rw [Jj];omega) (λu=>trivial) (λu=>V.set_same) (λu w=>V.set_set) rfl (λo i o' hi=> ?_) (λi o' hi=> ?_) (λi o' hi u=> ?_))
  ·exact ag (i:=1) rfl rfl
  ·have MA:eP (D.map AV.int) (some (i+1)) none none=(D.drop (i.toNat+1)).map .int:=by have:=jv (D.map AV.int) (i.toNat+1) (by rw [bw];exact(bd i hi).2.2.2);rw [show((i.toNat+1:Nat):Int)=i+1 by have:=(bd i hi).1;omega]at this;rw [this,List.map_drop]
   exact aq (aS (aM (i:=2) rfl rfl) (aa (i:=1) rfl rfl) (bk (.lst _)) (bF (.lst _) (bd i hi).1 (bd i hi).2.1 (at1 i hi))) (aS (aM (i:=2) rfl rfl) (bL (bJ (az (aa (i:=1) rfl rfl) aC qm)) bc bc) (bk (.lst _)) (e8 (.lst _) (fw.int _) .none .none (by decide) dl MA)) (iB (.lst _) rfl) rfl
  ·exact(aS (aM (i:=2) rfl rfl) (aa (i:=1) rfl rfl) (bk (.lst _)) (bF (.lst _) (bd i hi).1 (bd i hi).2.1 (at1 i hi)))
noncomputable def crlf:Str:="\r\n"
noncomputable def Mr:Str:=": "
theorem yv {q:SS} {x:Str}:(q.ins x).rd=q.rd:=by delta SS.ins;split<;>rfl
theorem zu:(SS.il p q g).ks.length<=q.ks.length+1:=nP (q:=q) (y:=g)
theorem ED {p:Str}: ∀(gs:List Str) (q:SS) (N:Nat),q.ks.Nodup->(∀x,(q.su x).length<=N)->(gs.foldl (SS.il p) q).ks.Nodup/\(gs.foldl (SS.il p) q).ks.length<=q.ks.length+gs.length/\(gs.foldl (SS.il p) q).rd=q.rd/\ ∀x,((gs.foldl (SS.il p) q).su x).length<=N+gs.length:=by
 intro aH;induction aH with
 | nil=>intro q N h1 h2;exact tI h1 (bT _) rfl h2
 | cons g gs ih=>
  intro q N h1 h2;refine kD (ih (SS.il p q g) (N+1) (j6 (q:=q) (x:=g) h1) (λx=>vV h2 x)) λa b c d=>?_;have e:=zu (q:=q) (p:=p) (g:=g);refine tI a ?_ (c.trans (yv (q:=q) (x:=g))) λx=> ?_
  ·rw [cW,cq];omega
  ·have:=d x;rw [cW,cq];omega
theorem IE {q:SS} {p:Str} {gs:List Str} {N:Nat} (h1:q.ks.Nodup) (h2: ∀x,(q.su x).length<=N):(q.add p gs).ks.Nodup/\(q.add p gs).ks.length<=q.ks.length+1+gs.length/\(q.add p gs).rd=q.rd/\ ∀x,((q.add p gs).su x).length<=N+gs.length:=by refine kD (ED (p:=p) gs (q.uK p gs.length) N (j6 (q:=q) (x:=p) h1) (λx=>rV (y:=p) h2 x)) λa b c d=>?_;have e:(q.uK p gs.length).ks.length<=q.ks.length+1:=nP (q:=q) (y:=p);exact tI a (bU b (by omega)) (c.trans (yv (q:=q) (x:=p))) d
noncomputable def tx (part:Str):Str:=(Txt.split part nl)[1]?.getD Str.empty
noncomputable def tg (path part:Str):Str:=gf (ej (dc path) (tx part))
noncomputable def kq (path:Str) (Jl:List Str):List Str:=(Jl.filter λpart=>Txt.contains part nl).map (tg path)
structure Cn (path val:Str) (Jl gs:List Str):Prop where
 pl:V.B path 200
 po:PyData.strOk path=true
 pc:Txt.partition (lineOf (path,val)) Mr=(path,Mr,val)
 ll:V.B (lineOf (path,val)) 11000
 vl:val.length<=10000
 sg:signs val=Jl
 ok: ∀part∈Jl,V.B part 300/\PyData.strOk part=true
 np:Jl.length<=100
 dl:V.B (dc path) 200
 it: ∀part∈Jl,Txt.contains part nl=true->1<(Txt.split part nl).length/\V.B (tx part) 200/\V.B (ej (dc path) (tx part)) 400/\(((ej (dc path) (tx part)).length:Int) !=0)=true/\c1 (ej (dc path) (tx part))=false/\c2 (ej (dc path) (tx part))=true
 ah:kq path Jl=gs
 go: ∀g∈gs,PyData.strOk g=true
 gn:gs.length<=2
theorem Au (h:V.B x n) (hn:decide (n<=10000000)=true):(partsBetween x (occurrences x y 0 x.length (x.length+1)) y.length).length<=sizeLine:=by have:=jB hn;delta V.B at h;rw [PyProof.Rows.len_partsBetween,jf];have:=F1 x y 0 x.length (x.length+1);omega
noncomputable def hV (L:List (Str×List Str)) (q:SS):SS:=L.foldl (λq p=>q.add p.1 p.2) q
theorem EG (h:Is C):ie C k (bx b q Z) (λx=>getAttr x "add" true) (.loc ⟨b,e0⟩) (λW r=>aw W (.bm 254 ⟨b,e0⟩) r) (bx b q Z):=
 px h.ok ew dN (by rw [h.K];kernel_rfl) (by rw [h.K];kernel_rfl) (by rw [h.K];kernel_rfl) (λxs n=>by revert xs;exact kU λx0 x1 x2 x3=>by rw [h.K];kernel_rfl)
theorem lq (l:List Str):(PyData.list (l.map .str)).depth<=9:=by
 refine(?_:PyData.depthAll (l.map PyData.str)+1<=9);have:PyData.depthAll (l.map PyData.str)<=1:=by
  induction l with
  | nil=>decide
  | cons x l ih=>exact Nat.max_le.mpr ⟨by simp [PyData.depth],ih⟩
 omega
theorem M0 {α:Type} {P:List α->Prop} (h: ∀a b c d e,P [a,b,c,d,e]): ∀l:List α,l.length=5->P l:=CE λa=>kU (h a)
theorem HR (h:bx b q Z l=some o):Z l=some o\/o.In λl=>(bx b q Z l).isSome=true:=aP (ug h) (λz=> .inl z.1) .inr
theorem CU (hb:Cl b Z) (h:(Z l).isSome=true):(bx b q Z l).isSome=true:=by
 have:l.tag<b:=by
  refine aP (oh l.tag b) (λz=>?_) λz=>?_
  ·exact z
  ·rw [hb l z]at h;exact tK h
 rw [AK this];exact h
theorem Iz {C:V.Cx} (h:Is C) {k:Nat} {Z:V.St} {t b:Nat} {oA:Int->Int} {pg vl:Int->Str} {pt:Int->List Str} {nd:Int->List Int}
  (hcl:Cl b (cB t (bq.map λi=>(pg (oA i),vl (oA i))) Z)) (ho:wh (bq.map λi=>(pg (oA i),vl (oA i)))) (h2: ∀c∈(kB (bq.map λi=>(pg (oA i),vl (oA i)))).cps.toList,c<256) (ND:Mg (kB (bq.map λi=>(pg (oA i),vl (oA i)))))
  (hsp:Txt.split (kB (bq.map λi=>(pg (oA i),vl (oA i)))) crlf=(bq.map λi=>lineOf (pg (oA i),vl (oA i)))++ [Str.empty,Str.empty]) (tH: ∀i∈bq,oA i∈bq) (hnd: ∀k,(nd k).length<=2) (hnk: ∀k∈bq,∀j∈nd k,j∈bq)
  (T: ∀k∈bq,Cn (pg k) (vl k) (pt k) ((nd k).map pg)):
  V.Cd C (k+7) (cB t (bq.map λi=>(pg (oA i),vl (oA i))) Z) (.ext 459) [.loc ⟨t,e0⟩,inV oA,j3 pg,dH nd,yC pt] [] (.loc ⟨b,e0⟩) (bx b (hV (bq.map λi=>(pg (oA i),(nd (oA i)).map pg)) q0) (cB t (bq.map λi=>(pg (oA i),vl (oA i))) Z)):=by
 have hx0:=h.hx;refine eB h.ok ⟨⟨_,_,_,by rw (occs:= .all) [h.K];exact rfl⟩,rfl,rfl,rfl,rfl,by rw (occs:= .all) [h.K];rfl,rfl,rfl,by decide+kernel⟩ [lo "table",lo "order",ce "pages",lo "needs",lo "parts",lo "lines",lo "sorter",lo "i",ce "path",lo "colon",lo "value",lo "read",lo "ahead",gi "bytes",gi "len",gi "TopologicalSorter",gi "range",gi "_law_signs"] rfl [("table",.loc ⟨t,e0⟩),("order",inV oA),("pages",j3 pg),("needs",dH nd),("parts",yC pt)] _
  (bR (M0 λa0 a1 a2 a3 a4=>rfl) rfl) rfl rfl λsc hF n hn=> ?_
 refine tJ hF λn0 n1 n2 n3 n4 n5 n6 n7 u=>tJ u λn8 n9 n10 AD n12 n13 n14 n15 w=>nM w λn16 n17 _=>?_;clear hF;obtain⟨LN,hLN⟩: ∃LN,LN=(bq.map λi=>lineOf (pg (oA i),vl (oA i)))++ [Str.empty,Str.empty]:=⟨_,rfl⟩;have NF:LN.length=8:=by rw (occs:= .all) [hLN];rfl
 have Oi:(LN.map AV.str).length<=sizeLine:=aV (m:=8) (by rw (occs:= .all) [bw,NF];exact bT _) (by decide);have hdr:eP (LN.map AV.str) (some 6) none none= [.str Str.empty,.str Str.empty]:=by have:=jv (LN.map AV.str) 6 (by rw (occs:= .all) [bw,NF];decide);refine this.trans ?_;rw (occs:= .all) [hLN];rfl
 have NG: ∀i∈bq,(LN.map AV.str)[i.toNat]? =some (.str (lineOf (pg (oA i),vl (oA i)))):=λi hi=>by
  have hlt:i.toNat<6:=by have:=Lh i hi;omega+splitDisjunctions
  rw (occs:= .all) [hLN,gr,List.getElem?_append_left (by rw (occs:= .all) [bw];exact hlt),lO (λi=>lineOf (pg (oA i),vl (oA i))) hi];rfl
 have mk:=rB h.ok (k:=k+5) (c:=304) (fi:=240) (kw:= []) (as:= []) (l:=⟨b,e0⟩) (d:=⟨b+1,e0⟩) (by rw (occs:= .all) [h.K];kernel_rfl) (by rw (occs:= .all) [h.K];kernel_rfl) (by rw (occs:= .all) [h.K];kernel_rfl) (hcl _ (bT _)) (hcl _ (by exact gZ _ _)) (by exact L1.ku rfl) (M3 h (k:=k+4) (Z:=cB t (bq.map λi=>(pg (oA i),vl (oA i))) Z) (b:=b) (hcl _ (by exact gZ _ _)));have hbt:t+2<b:=by
  refine aP (oh (t+2) b) (λz=>?_) λz=>?_
  ·exact z
  ·have e:cB t (bq.map λi=>(pg (oA i),vl (oA i))) Z ⟨t+2,e0⟩=_:=kS;rw [hcl ⟨t+2,e0⟩ z]at e;exact dF e
 refine gQ (v:= .loc ⟨b,e0⟩) (cP:=bx b (hV (bq.map λi=>(pg (oA i),(nd (oA i)).map pg)) q0) (cB t (bq.map λi=>(pg (oA i),vl (oA i))) Z)) ?_ ⟨λg r z=>z,λl z=>CU hcl z,λl o z=>HR z,.inl ⟨rfl,Ow.is (.inl rfl)⟩⟩;refine aE (ai:= [some (.loc ⟨t,e0⟩),some (inV oA),some (j3 pg),some (dH nd),some (yC pt),some (.lst (LN.map .str)),none,none,none,none,none,none,none,none,none,none,none,none]) (ae:=cB t (bq.map λi=>(pg (oA i),vl (oA i))) Z) (au (aL (aL (aD (ar h.ok n13 (lI h)) (af (aa n0 rfl) ak) cK (uF (f:=167) h.ok m7 mj (by rw (occs:= .all) [h.K];kernel_rfl) (by rw (occs:= .all) [h.K];kernel_rfl) (V.Cd.ca (ET (k:=k) h ho h2)))) CK (af aW ak) bp (Df (ma ho) (by decide) ND)) rH (af aW ak) bp (rI (ys:=LN.map .str) (by decide+kernel) (ma ho) (by decide) (Au (ma ho) (by decide)) (by rw (occs:= .all) [hLN,<-hsp];rfl))) (ag n5 rfl)) ?_;refine cw (aY (ba (aq (c:=false) (aD (ar h.ok n14 (fB h)) (af (aa n5 rfl) ak) bp (c6 (.lst _) Oi)) aC (Gx (by rw (occs:= .all) [bw,NF];rfl)) rfl) (ba (aq (c:=false) (aS (aa n5 rfl) (bL (bJ aC) bc bc) (bk (.lst _)) (e8 (.lst _) (fw.int _) .none .none (by decide) Oi hdr)) (hU (af aW (af aW ak)) (dX rfl)) (nN (d:= .list [.str Str.empty,.str Str.empty]) (gI (.lst _) (d6 jx (d6 jx gF))) (gI (.lst _) (d6 jx (d6 jx gF))) (by decide+kernel) (by decide+kernel)) rfl) cj))) ?_;refine aE (ai:= [some (.loc ⟨t,e0⟩),some (inV oA),some (j3 pg),some (dH nd),some (yC pt),some (.lst (LN.map .str)),some (.loc ⟨b,e0⟩),none,none,none,none,none,none,none,none,none,none,none]) (ae:=bx b q0 (cB t (bq.map λi=>(pg (oA i),vl (oA i))) Z)) (au (aD (ar h.ok n15 (kC h)) ak (KX h rfl) mk) (ag n6 rfl)) ?_;have Px:(bq.foldl (λ(a:SS×Option Int) i=>(a.1.add (pg (oA i)) ((nd (oA i)).map pg),some i)) (q0,none)).1=hV (bq.map λi=>(pg (oA i),(nd (oA i)).map pg)) q0:=by
  have: ∀(xs:List Int) (a:SS×Option Int),(xs.foldl (λ(a:SS×Option Int) i=>(a.1.add (pg (oA i)) ((nd (oA i)).map pg),some i)) a).1=hV (xs.map λi=>(pg (oA i),(nd (oA i)).map pg)) a.1:=by
   intro xs
   induction xs with
   | nil=>intro a;rfl
   | cons x xs ih=>intro a;rw (occs:= .all) [cW,ih];rfl
  exact this _ _
 obtain⟨lo,hlo⟩: ∃lo:Option Int,bq.foldl (λ(a:SS×Option Int) i=>(a.1.add (pg (oA i)) ((nd (oA i)).map pg),some i)) (q0,none)=(hV (bq.map λi=>(pg (oA i),(nd (oA i)).map pg)) q0,lo):=⟨_,Prod.ext Px rfl⟩;have I6:=λtgt=>cL (tgt:=tgt) (C:=C) (k:=k+6) (a:=0) (b:=6) (by decide) (by decide) (by decide);simp only [ER]at I6;refine iH (aD (ar h.ok n16 (dA h)) (af aC ak) cK cR) (I6 _) trivial (KG (C:=C) (k:=k+6) (sc:=sc) (ok:=λg=>True) (enc:=AV.int)
    (M:=λ(a:SS×Option Int)=> [some (.loc ⟨t,e0⟩),some (inV oA),some (j3 pg),some (dH nd),some (yC pt),some (.lst (LN.map .str)),some (.loc ⟨b,e0⟩),a.2.map .int,a.2.map λi=> .str (pg (oA i)),a.2.map λg=> .str Mr,a.2.map λi=> .str (vl (oA i)),a.2.map λi=> .lst ((pt (oA i)).map .str),a.2.map λi=> .lst (((nd (oA i)).map pg).map .str),none,none,none,none,none])
    (Sg:=λa=>bx b a.1 (cB t (bq.map λi=>(pg (oA i),vl (oA i))) Z)) (step:=λa i=>(a.1.add (pg (oA i)) ((nd (oA i)).map pg),some i)) (P:=λa xs=>(∀i∈xs,i∈bq)/\a.1.ks.Nodup/\a.1.ks.length+3 * xs.length<=100/\a.1.rd=none/\ ∀x,(a.1.su x).length+2 * xs.length<=100)
    (λg r u1=>trivial) (λa i xs hP=>by
     refine ve hP λp0 p1 p2 p3 p4=>?_;clear hP;simp only [cq]at p2 p4;have gn:=(T (oA i) (tH i (p0 i (.head _)))).gn;refine kD (IE (q:=a.1) (p:=pg (oA i)) (gs:=(nd (oA i)).map pg) (N:=100 - 2 * (xs.length+1)) p1 (λx=>by have:=p4 x;omega+splitDisjunctions)) λa1 a2 a3 a4=>?_;exact NZ (λj hj=>p0 j (.tail _ hj)) a1 (by refine(?_:(a.1.add _ _).ks.length+_<=_);omega+splitDisjunctions) (a3.trans p3) λx=>by have:=a4 x;have:=p4 x;refine(?_:((a.1.add _ _).su x).length+_<=_);omega+splitDisjunctions) ?_ bq (q0,none) ⟨λg z=>z,pV,by decide,rfl,λx=>by refine(?_:0+2 * bq.length<=100);decide⟩ hlo) (λg r=>rfl) (bP (aa n6 rfl))
 rintro ⟨q,io⟩ i xs ⟨p0,p1,p2,p3,p4⟩
 have hi:=p0 i (.head _);have hk:=tH i hi;have R:=T (oA i) hk;simp only [cq]at p2 p4;refine cx (ag n7 rfl) ?_;refine aJ (au (aL (aS (aa n5 rfl) (aa n7 rfl) (bk (.lst _)) (bF (.lst _) (bG _ hi).1 (bG _ hi).2 (NG i hi))) uc (af aW ak) bp (Ig (by decide+kernel) R.ll (by decide) R.pc)) (iT (cC (dw n8 rfl) (cC (ag n9 rfl) (cC (ag n10 rfl) ke))) rfl (λg=>rfl) (λg=>rfl) hx0)) ?_;have cs:=V.Cd.ca (FQ h (k:=k+5) (Z:=bx b q (cB t (bq.map λi=>(pg (oA i),vl (oA i))) Z)) (value:=vl (oA i)) (bU R.vl (by decide)));rw [R.sg]at cs;refine aJ (au (aD (ar h.ok n17 (sX h)) (af (aa n10 rfl) ak) (KX h rfl) cs) (ag AD rfl)) ?_;refine ck (aY (ba (aq (c:=false) (aM n8 rfl) (aS (aM n2 rfl) (aS (aa n1 rfl) (aa n7 rfl) (bk (.lst _)) (bF (x:= .int (oA i)) (.lst _) (bG _ hi).1 (bG _ hi).2 (lO (λi=>AV.int (oA i)) hi))) (bk (.lst _)) (bF (.lst _) (bG _ hk).1 (bG _ hk).2 (lO (λk=>AV.str (pg k)) hk))) (l5 (Cf _)) rfl) (ba (aq (c:=false) (aa AD rfl) (aS (aa n4 rfl) (aS (aa n1 rfl) (aa n7 rfl) (bk (.lst _)) (bF (x:= .int (oA i)) (.lst _) (bG _ hi).1 (bG _ hi).2 (lO (λi=>AV.int (oA i)) hi))) (bk (.lst _)) (bF (.lst _) (bG _ hk).1 (bG _ hk).2 (lO (λk=>AV.lst ((pt k).map .str)) hk))) (nN (d:= .list ((pt (oA i)).map .str)) (gI (.lst _) (iZ _)) (gI (.lst _) (iZ _)) (oC _ λx hx=>(R.ok x hx).2) (lq _)) rfl) cj))) ?_;have av:((pt (oA i)).filter λpart=>Txt.contains part nl).map (λpart=>AV.str (tg (pg (oA i)) part))=((nd (oA i)).map pg).map .str:=by rw (occs:= .all) [<-R.ah];unfold kq;rw (occs:= .all) [dP];rfl
 refine aJ (bZ (link:= [(8,5)]) (out:=((nd (oA i)).map pg).map .str) (cZ:= [none,(eF (pt (oA i))).map .str,none,none,none,some (.str (pg (oA i)))]) ⟨V.all1 rfl,V.all1 ⟨_,n8,rfl⟩,rfl,by decide+kernel,(aa AD rfl),dG,trivial,λg r=>rfl⟩ (λla hla=> ?_) rfl (bo (f:=AV.str) (λx=>cc)) (λenv=>⟨_,rfl⟩) (λg=>rfl) (λg=>rfl) (ag n12 rfl)) ?_
 ·rw (occs:= .all) [<-av];refine fE (enc:=AV.str) (val:=λpart=>AV.str (tg (pg (oA i)) part)) (p:=λpart=>Txt.contains part nl) (M:=λo=> [none,o.map .str,none,none,none,some (.str (pg (oA i)))]) (Sg:=λout=>(bx b q (cB t (bq.map λi=>(pg (oA i),vl (oA i))) Z)).set la (.list out)) (bU R.np (by decide)) (λg=>trivial) (λg=>V.set_same) (λg r=>V.set_set) rfl (λo y out hy=>ag (i:=1) rfl rfl) (λy out hy=>aq aW (aa (i:=1) rfl rfl) (IP rfl) rfl) (λy out hy hc=> ?_);refine GU (R.it y hy hc) λi1 i2 i3 i4 i5 i6=>?_;have yb:=(R.ok y hy).1;have at1:((Txt.split y nl).map AV.str)[(1:Int).toNat]? =some (.str (tx y)):=by rw (occs:= .all) [gr];unfold tx;refine(?_:((Txt.split y nl)[1]?).map AV.str=_);rw (occs:= .all) [ng i1];rfl
  exact(aD (ar h.ok (i:=2) rfl (wJ h)) (af (aD (ar h.ok (i:=3) rfl (It h)) (af (aD (ar h.ok (i:=4) rfl (zF h)) (af (aM (i:=5) rfl rfl) ak) (KX h rfl) (Ah (k:=k+4) h R.pl)) (af (aS (aL (aa (i:=1) rfl rfl) rH (af aW ak) bp (rI (by decide+kernel) yb (by decide) (qq yb (by decide)) rfl)) aC (bk (.lst _)) (bF (.lst _) (by decide) (by decide) at1)) ak)) (KX h rfl) (Hq (k:=k+4) h R.dl i2)) ak) (KX h rfl) (w7 (k:=k+3) h i3 i4 i5 i6))
 have nz:((nd (oA i)).map AV.int).length<=1000000:=by rw (occs:= .all) [bw];exact bU (hnd _) (by decide)
 refine ck (aq (c:=false) (aa n12 rfl) (cm (link:= [(2,2)]) (out:=((nd (oA i)).map pg).map .str) (cZ:= [none,(eF (nd (oA i))).map .int,some (j3 pg)]) ⟨V.all1 rfl,V.all1 ⟨_,n2,rfl⟩,rfl,by decide+kernel,(aS (aa n3 rfl) (aS (aa n1 rfl) (aa n7 rfl) (bk (.lst _)) (bF (x:= .int (oA i)) (.lst _) (bG _ hi).1 (bG _ hi).2 (lO (λi=>AV.int (oA i)) hi))) (bk (.lst _)) (bF (.lst _) (bG _ hk).1 (bG _ hk).2 (lO (λk=>AV.lst ((nd k).map .int)) hk))),dG,trivial,λg r=>rfl⟩ (λla hla=> ?_) rfl (bo (f:=AV.str) (λx=>cc))) (nN (d:= .list (((nd (oA i)).map pg).map .str)) (gI (.lst _) (iZ _)) (gI (.lst _) (iZ _)) (oC _ R.go) (lq _)) rfl) ?_
 ·have Py:(nd (oA i)).map (λj=>AV.str (pg j))=((nd (oA i)).map pg).map .str:=by rw (occs:= .all) [dP];rfl
  rw (occs:= .all) [<-Py];exact g8 (enc:=AV.int) (val:=λj=>AV.str (pg j)) (M:=λo=> [none,o.map .int,some (j3 pg)]) (Sg:=λout=>(bx b q (cB t (bq.map λi=>(pg (oA i),vl (oA i))) Z)).set la (.list out)) (bU (hnd _) (by decide)) (λg=>trivial) (λg=>V.set_same) (λg r=>V.set_set) rfl (λo y out hy=>ag (i:=1) rfl rfl)
   (λy out hy=>aS (aM (i:=2) rfl rfl) (aa (i:=1) rfl rfl) (bk (.lst _)) (bF (.lst _) (bG _ (hnk _ hk _ hy)).1 (bG _ (hnk _ hk _ hy)).2 (lO (λk=>AV.str (pg k)) (hnk _ hk _ hy))))
 have gl:((nd (oA i)).map pg).length<=2:=by rw (occs:= .all) [bw];exact hnd _
 have ad:=Kq h (k:=k+2) (Z:=cB t (bq.map λi=>(pg (oA i),vl (oA i))) Z) (b:=b) (q:=q) (p:=pg (oA i)) (gs:=(nd (oA i)).map pg) hcl p1 (by omega+splitDisjunctions) p3 (λx=>by have:=p4 x;omega+splitDisjunctions);exact aJ (cv (FP (aa n6 rfl) (EG h) (af (aM n8 rfl) (Fg (aa n12 rfl) (.lst _) (aV (m:=2) (by rw (occs:= .all) [bw];exact gl) (by decide)) ak (λg=>rfl))) (BC h.ok ⟨_,_,_,_,by rw (occs:= .all) [h.K];exact rfl⟩) (A0 (by rw (occs:= .all) [iM];exact ad)) (λg r=>rfl) (λg=>rfl) (λg r e=>by cases e))) bA
theorem sL.zip {su:Str->List Str}: ∀{t:List Str} {x:Str},sL su (x::t)-> ∀p∈(x::t).zip t,p.2∈su p.1:=by
 intro aH;induction aH with
 | nil=>
  intro u v p hp;exact by exact je hp
 | cons y t ih=>
  intro x h p hp;cases h with
  | cons h l=>
   rw [List.zip_cons_cons]at hp;refine aP (cM.mp hp) (λq=>?_) λhp=>?_
   ·subst q;exact h
   ·exact ih l p hp
theorem sL.tail {su:Str->List Str}: ∀{t:List Str} {x:Str},sL su (x::t)-> ∀y∈t,∃z,y∈su z:=by
 intro aH;induction aH with
 | nil=>
  intro u v y hy;exact by exact je hy
 | cons y t ih=>
  intro x h z hz;cases h with
  | cons h l=>
   refine aP (cM.mp hz) (λq=>?_) λhz=>?_
   ·subst q;exact⟨_,h⟩
   ·exact ih l z hz
noncomputable def r9 (p:Str×Str):AV:= .tup [.str p.1,.str p.2]
noncomputable def sR (pg:Int->Str) (nd:Int->List Int):List (Str×Str):=bq.flatMap λk=>(nd k).map λj=>(pg j,pg k)
theorem oO {q:SS} {pg:Int->Str} {nd:Int->List Int} {L:List Str} (Gs: ∀x,∀y∈q.su x,∃k∈bq,∃j∈nd k,pg j=x/\pg k=y) (hL:wo q.su L):
  ∃y M,L=y::(M++ [y])/\(M++ [y]).Nodup/\L.length<=8/\ ∀p∈L.zip (M++ [y]),p∈sR pg nd:=by
 refine fq hL λy M u=>?_;clear hL;subst u;intro G8 lk;refine M6 y M rfl G8 ?_ λp hp=> ?_
 ·have:=uy G8 (l₂:=bq.map pg) λz hz=>by refine cG (sL.tail lk z hz) λw hw=>?_;obtain⟨k,hk,j,_,_,e⟩:=Gs w z hw;exact bM.mpr ⟨k,hk,e⟩
  rw [bw]at this;have e6:bq.length=6:=rfl;rw [cq];omega
 ·obtain⟨k,hk,j,hj,e1,e2⟩:=Gs _ _ (sL.zip lk p hp);exact wL.mpr ⟨k,hk,bM.mpr ⟨j,hj,by rw [e1,e2]⟩⟩
theorem t7 {l:List Str} (h:l.Nodup) (x:Str):l.countP (· ==x)<=1:=List.nodup_iff_count.mp h x
theorem F8 (p:Str×Str):(r9 p).Ba:=CD (p:=p)
theorem z0: ∀(l:List (Str×Str)),(∀x∈l,PyData.strOk x.1=true/\PyData.strOk x.2=true)->PyData.canLayAll0 (l.map λx=> .tuple [.str x.1,.str x.2])=true:=by
 intro aH;induction aH with
 | nil=>intro u;exact rfl
 | cons x l ih=>intro h;refine(?_:(((PyData.strOk x.1 && (PyData.strOk x.2 && true))) && PyData.canLayAll0 (l.map λx=> .tuple [.str x.1,.str x.2]))=true);rw [(h x (.head _)).1,(h x (.head _)).2,ih λy hy=>h y (.tail _ hy)];rfl
theorem E7 {C:V.Cx} (h:Is C) {k:Nat} {Z:V.St} {b:Nat} {q:SS} {pg:Int->Str} {nd:Int->List Int} {held:Bool} (G:CX q) (hb:Cl b Z) (hr:q.rd=none) (hnd: ∀k,(nd k).length<=2) (hnk: ∀k∈bq,∀j∈nd k,j∈bq)
  (hres: ∀res,Mi q.su q.ks res->res.isSome=held) (Gs: ∀x,∀y∈q.su x,∃k∈bq,∃j∈nd k,pg j=x/\pg k=y) (hpo: ∀k∈bq,PyData.strOk (pg k)=true):
  V.Cd C (k+5) (bx b q Z) (.ext 469) [.loc ⟨b,e0⟩,j3 pg,dH nd,.bool held] [] (.bool true) (bx b q.prep Z):=by
 have hx0:=h.hx;refine eB h.ok ⟨⟨_,_,_,by rw [h.K];exact rfl⟩,rfl,rfl,rfl,rfl,by rw [h.K];rfl,rfl,rfl,by decide+kernel⟩ [lo "sorter",ce "pages",ce "needs",lo "held_up",ce "ring",ce "steps",lo "twice",lo "lost",gi "CycleError",gi "range",gi "zip",gi "len"] rfl [("sorter",.loc ⟨b,e0⟩),("pages",j3 pg),("needs",dH nd),("held_up",.bool held)] _
  (bR (kU λa0 a1 a2 a3=>rfl) rfl) rfl rfl λsc hF n hn=> ?_
 refine tJ hF λn0 n1 n2 n3 n4 n5 n6 n7 v=>ve v λn8 n9 n10 AD _=>?_;clear hF;refine V.c12 (Ky G b) λres hc run=>V.c12 (Ky (q:=q.prep) ⟨G.nd,G.su,G.len⟩ b) λEl hc' run'=>?_;have e1:=hres res hc;have e2:=hres El hc';refine lW (λy hy=>hy) (λz=>rfl) ?_ True.intro;cases held with
 | false=>
  obtain rfl:res=none:=by cases res<;>simp at e1⊢
  obtain rfl:El=none:=by cases El<;>simp at e2⊢
  refine aE (au (eR (GN (aL (aa n0 rfl) (fM h ew dN) ak (KX h rfl) (V.Cd.ca (run C h _ Z))) tv (lx (hU (af bV ak) (dX rfl))))) (dw n4 rfl)) ?_;refine aE (ml (ck (aY (ba (aq (c:=false) (aL (aa n0 rfl) (qR h ew dN) ak (KX h rfl) (V.Cd.ca (HS h (k:=k+2) G hb hr (run' C h _ Z)))) bV (cV fK) rfl) (ba (aX (b:=false) (aa n3 rfl) cp) cj))) bA)) ?_;exact bP (d0 (aM n4 rfl) (hU (af bV ak) (dX rfl)) (yy (d:= .list [.none]) (gI (.lst _) (d6 yw gF)) (gI (.lst _) (d6 yw gF)) (by decide+kernel) (by decide+kernel)) rfl)
 | true=>
  obtain⟨L,rfl⟩: ∃L,res=some L:=by cases res with | none=>simp at e1 | some L=>exact⟨L,rfl⟩
  obtain⟨L',rfl⟩: ∃L,El=some L:=by cases El with | none=>simp at e2 | some L=>exact⟨L,rfl⟩
  refine tO (oO Gs hc) λy M hL G8 ll Oj=>tO (oO Gs (q:=q) hc') λy' M' hL' _ Pz _=>?_;obtain⟨R1,MC⟩: ∃R1,R1=M++ [y]:=⟨_,rfl⟩;rw [<-MC]at hL G8 Oj;have Lz:(L.map AV.str).length<=sizeLine:=aV (m:=8) (by rw [bw];exact ll) (by decide);have Le:(!(L.map AV.str).isEmpty)=true:=by rw [hL];rfl
  have ht:eP (L.map AV.str) (some 1) none none=R1.map .str:=by rw [hL];exact pv _ _
  have PA:R1.length<=8:=by rw [hL,cq]at ll;omega
  refine aE (au (eR (mm (aL (aa n0 rfl) (fM h ew dN) ak (KX h rfl) (V.Cd.ca (run C h _ Z))) (fH (.lst _) Lz Le))) (dw n4 rfl)) ?_;obtain⟨ST,hST⟩: ∃ST,ST=sR pg nd:=⟨_,rfl⟩;have gC:V.Glob C "CycleError" (.ext 222):=l7 h;have En:V.Glob C "range" (.ty "range"):=dA h;have Jm:V.Glob C "zip" (.ty "zip"):=KW h;have Jo:V.Glob C "len" (.bi "len"):=fB h;refine FE (aK:= [some (.loc ⟨b,e0⟩),some (j3 pg),some (dH nd),some (.bool true),some (.lst (L.map .str)),some (.lst (ST.map r9)),some (.lst []),some (.lst []),none,none,none,none]) (zE h.ok (rF (Bs (zY (wY (FX (aa n0 rfl) (qR h ew dN) ak (KX h rfl) (Ie h (k:=k+2) G hb hr (run' C h _ Z) (by rw [hL'];rfl) (bU Pz (by decide))) (λu w=>rfl) (λu=>rfl) rfl (λu=>rfl)) rfl)))) (by intro z;cases z) (ar h.ok.h n8 gC) (HC h.ok (DX h) (by decide)) (λe oe he O'=> ?_)) (λz=>by cases z);have h0:(C.hd e oe).hx≠some 0:=λz=>he (dI z);obtain⟨τ,Np⟩: ∃τ,τ=bx b q.prep Z:=⟨_,rfl⟩;rw [<-Np];have I6:=λtgt=>cL (tgt:=tgt) (C:=C.hd e oe) (k:=k+4) (a:=0) (b:=6) (by decide) (by decide) (by decide) h0;simp only [ER]at I6;refine aJ (ai:= [some (.loc ⟨b,e0⟩),some (j3 pg),some (dH nd),some (.bool true),some (.lst (L.map .str)),some (.lst (ST.map r9)),none,none,none,none,none,none]) (ae:=τ) ?_ ?_
  ·have inner:=λ(la:V.Loc) (kk:Int) (out:List AV) (hout:out.length+2<=sizeLine) (o2:Option Int) (elt:Expr) (scope:Scope) (pos:Pos) (gens:List Comprehension) (g:Comprehension) (e':g.ifs= []) ha hv=>lZ (C:=C.hd e oe) (k:=k+4) (sc:=bD scope) (enc:=AV.int) (val:=λj=>r9 (pg j,pg kk)) (p:=λu=>true) (M:=λo:Option Int=> [none,some (.int kk),o.map AV.int,some (dH nd),some (j3 pg)]) (Sg:=λout=>τ.set la (.list out)) (ok:=λu=>True) (la:=la) (elt:=elt) (gens:=gens) (scope:=scope) (pos:=pos) (g:=g) (gw:=nd kk) (λout=>trivial) (λout=>V.set_same) (λout out'=>V.set_set) ha (.inl ⟨e',λu=>rfl⟩) hv (nd kk) out o2 (λu z=>z) (bU (Nat.add_le_add_left (hnd kk) _) hout);have en:bq.flatMap (λkk=>(nd kk).map λj=>r9 (pg j,pg kk))=ST.map r9:=by rw [hST];delta sR;rw [List.map_flatMap];congr 1;funext kk;rw [dP];rfl
   refine bZ (link:= [(2,3),(1,4)]) (cZ:= [none,(bq.foldl (λ(s:Option Int×Option Int) x=>(some x,(nd x).foldl (λu x=>some x) s.2)) (none,none)).1.map AV.int,(bq.foldl (λ(s:Option Int×Option Int) x=>(some x,(nd x).foldl (λu x=>some x) s.2)) (none,none)).2.map AV.int,some (dH nd),some (j3 pg)]) ⟨V.all2 rfl rfl,V.all2 ⟨_,n2,rfl⟩ ⟨_,n1,rfl⟩,rfl,by decide+kernel,(aD (ar O' n9 En) (af aC ak) cK cR),I6 _,trivial,λu w=>rfl⟩ (out:=ST.map r9) (λla hla=> ?_) rfl (bo (f:=r9) (λp=>F8 p)) (λenv=>⟨_,rfl⟩) (λu=>rfl) (λu=>rfl) (dw n5 rfl);refine Lg (Sg:=λo=>τ.set la (.list o)) ((kR _).trans en) (xV (C:=C.hd e oe) (k:=k+4) (sc:=_) (enc:=AV.int) (f:=λkk=>(nd kk).map λj=>r9 (pg j,pg kk)) (M:=λ(o o2:Option Int)=> [none,o.map AV.int,o2.map AV.int,some (dH nd),some (j3 pg)]) (nx:=λkk o2=>(nd kk).foldl (λu x=>some x) o2) (Sg:=λout=>τ.set la (.list out)) (ok:=λu=>True) (la:=la) (e:=_) (g:=_) (gw:=bq) (K:=2) (λout=>trivial) rfl (λo o2 x out hx=> ?_) (λx=>by rw [bw];exact hnd x) (λx o2 out hx hlen=> ?_) bq [] none none (λu z=>z) (by decide))
   ·exact ag (i:=1) rfl rfl
   ·have z:=inner la x out hlen o2;have ft:(nd x).filter (λu=>true)=nd x:=Cv.mpr λu w=>rfl;simp only [ft]at z;refine V.CB.gen (aS (aM (i:=3) rfl rfl) (aa (i:=1) rfl rfl) (bk (.lst _)) (bF (.lst _) (bG _ hx).1 (bG _ hx).2 (lO (λk=>AV.lst ((nd k).map .int)) hx))) dG trivial (λu w=>rfl) (z _ _ _ _ _ rfl (λo y out hy=> ?_) (λy out hy u=> ?_))
    ·exact ag (i:=2) rfl rfl
    ·have vY:=hnk _ hx _ hy;exact cU (af (aS (aM (i:=4) rfl rfl) (aa (i:=2) rfl rfl) (bk (.lst _)) (bF (.lst _) (bG _ vY).1 (bG _ vY).2 (lO (λk=>AV.str (pg k)) vY))) (af (aS (aM (i:=4) rfl rfl) (aa (i:=1) rfl rfl) (bk (.lst _)) (bF (.lst _) (bG _ hx).1 (bG _ hx).2 (lO (λk=>AV.str (pg k)) hx))) ak)) (dX rfl)
  refine aJ (ai:= [some (.loc ⟨b,e0⟩),some (j3 pg),some (dH nd),some (.bool true),some (.lst (L.map .str)),some (.lst (ST.map r9)),some (.lst []),none,none,none,none,none]) (ae:=τ) ?_ ?_
  ·refine bZ (link:= [(4,2)]) (cZ:= [none,(eF R1).map .str,some (.lst (L.map .str))]) ⟨V.all1 rfl,V.all1 ⟨_,n4,rfl⟩,rfl,by decide+kernel,(aS (aM n4 rfl) (bL (bJ aC) bc bc) (bk (.lst _)) (e8 (.lst _) (fw.int _) .none .none (by decide) Lz ht)),dG,trivial,λu w=>rfl⟩ (out:= []) (λla hla=> ?_) rfl (bo (f:=AV.str) (l:= []) (λx=>cc)) (λenv=>⟨_,rfl⟩) (λu=>rfl) (λu=>rfl) (ag n6 rfl);have ef:(R1.filter λone=>decide ((((R1.countP (· ==one):Nat)):Int)>1)).map AV.str= []:=by
    rw [zK.mpr]
    ·rfl
    ·intro a u z;have:=t7 G8 a;have z:=jB z;omega
   exact Lg (Sg:=λo=>τ.set la (.list o)) ef (fE (C:=C.hd e oe) (k:=k+4) (sc:=bD _) (la:=la) (enc:=AV.str) (val:=AV.str) (p:=λone=>decide ((((R1.countP (· ==one):Nat)):Int)>1)) (M:=λo=> [none,o.map .str,some (.lst (L.map .str))]) (Sg:=λo=>τ.set la (.list o)) (ok:=λu=>True) (xs:=R1) (bU PA (by decide)) (λu=>trivial) (λu=>V.set_same) (λu w=>V.set_set) rfl (λo y out hy=>ag (i:=1) rfl rfl) (λy out hy=>aq (aL (aS (aM (i:=2) rfl rfl) (bL (bJ aC) bc bc) (bk (.lst _)) (e8 (.lst _) (fw.int _) .none .none (by decide) Lz ht)) (Cc (.lst _)) (af (aa (i:=1) rfl rfl) ak) bp (wO (.lst _) rfl)) aC LG rfl) (λy out hy u=>aa (i:=1) rfl rfl))
  refine aJ (ai:= [some (.loc ⟨b,e0⟩),some (j3 pg),some (dH nd),some (.bool true),some (.lst (L.map .str)),some (.lst (ST.map r9)),some (.lst []),some (.lst []),none,none,none,none]) (ae:=τ) ?_ ?_
  ·have zl:ni (L.map .str) (R1.map .str)=(L.zip R1).map r9:=by delta ni;rw [List.zip_map,dP];rfl
   have Nt:ni (L.map .str) (R1.map .str)≠ []:=by
    rw [zl,hL,MC];cases M<;>simp
   have NH:(L.zip R1).length<=8:=by rw [List.length_zip];omega
   have IZ:=λ(x:Str) (p:Pos)=>Fl (C:=C.hd e oe) (k:=k+4) (x:=x) (p:=p) Nt h0;rw [zl]at IZ;refine jO (link:= [(5,2)]) (cZ:= [none,(eF (L.zip R1)).map r9,some (.lst (ST.map r9))]) ⟨V.all1 rfl,V.all1 ⟨_,n5,rfl⟩,rfl,by decide+kernel,xu (fn:=Expr.Tuple [] 0 ⟨0,0,0,0⟩) (ar O' n10 Jm) (af (aM n4 rfl) (af (aS (aM n4 rfl) (bL (bJ aC) bc bc) (bk (.lst _)) (e8 (.lst _) (fw.int _) .none .none (by decide) Lz ht)) ak)) (λu=>rfl) (λu=>rfl) (λu w=>rfl),IZ _ _⟩ (out:= []) (λla hla=> ?_) rfl (bo (f:=AV.str) (l:= []) (λx=>cc)) (λenv=>⟨_,rfl⟩) (λu=>rfl) (λu=>rfl) (ag n7 rfl);have ef:((L.zip R1).filter λu=>false).map r9= []:=by rw [zK.mpr λu w=>dM];rfl
   have so: ∀p∈ST,PyData.strOk p.1=true/\PyData.strOk p.2=true:=λp hp=>by rw [hST]at hp;refine V.c12 (wL.mp hp) λkk hk hp=>kK (bM.mp hp) λj hj=>⟨hpo _ (hnk _ hk _ hj),hpo _ hk⟩
   refine Lg (Sg:=λo=>τ.set la (.list o)) ef (fE (C:=C.hd e oe) (k:=k+4) (sc:=bD _) (la:=la) (enc:=r9) (val:=r9) (p:=λu=>false) (M:=λo=> [none,o.map r9,some (.lst (ST.map r9))]) (Sg:=λo=>τ.set la (.list o)) (ok:=λu=>True) (xs:=L.zip R1) (bU NH (by decide)) (λu=>trivial) (λu=>V.set_same) (λu w=>V.set_set) rfl (λo y out hy=>ag (i:=1) rfl rfl) (λy out hy=> ?_) (λy out hy hf=>by exact tK hf));have NI:=Oj y hy;rw [<-hST]at NI;have Ol:=so y NI;have cy:PyData.canLay0 (.tuple [.str y.1,.str y.2])=true:=by refine(?_:(PyData.strOk y.1 && (PyData.strOk y.2 && true))=true);rw [Ol.1,Ol.2];rfl
   exact aq (c:=false) (aa (i:=1) rfl rfl) (aM (i:=2) rfl rfl) (uW (ds:=ST.map λp=> .tuple [.str p.1,.str p.2]) (d:= .tuple [.str y.1,.str y.2]) (gI (.lst _) (yr (λp=>mH (d6 jx (d6 jx gF))) ST)) (mH (d6 jx (d6 jx gF))) (z0 ST so) cy (by simp [PyData.depth,PyData.depthAll]) (by
    rw [zQ.mpr ⟨_,bM.mpr ⟨y,NI,rfl⟩,by first | exact SeqAt.eqv_refl _ cy | exact eqv_refl _ cy⟩];rfl)) rfl
  have la:(L.map AV.str)[((-1:Int)+((L.map AV.str).length:Int)).toNat]? =some (.str y):=by
   have e:L.map AV.str=(y::M).map AV.str++ [.str y]:=by rw [hL,MC];simp
   rw [e];exact i7
  have lb: -((L.map AV.str).length:Int)<= -1:=by rw [hL];simp;omega
  have lg:decide (((L.map AV.str).length:Int)>1)=true:=lT (by rw [hL,MC,bw,cq,cS,List.length_singleton];omega);exact r8 (eR (mC (aa n3 rfl) cp (mC (d0 (aD (ar O' AD Jo) (af (aM n4 rfl) ak) bp (c6 (.lst _) Lz)) aC (Cw lg) rfl) cp (mC (d0 (aS (aM n4 rfl) aC (bk (.lst _)) (bF (x:= .str y) (.lst _) (by decide) (by decide) (by rw [hL];rfl))) (aS (aM n4 rfl) (dB aC qY) (bk (.lst _)) (kn (.lst _) (by decide) lb (by decide) la)) (V.s_eq (beq_self_eq_true _)) rfl) cp (mC (dB (aa n6 rfl) (V.v_not (fH (.lst _) (dW _) rfl) rfl)) cp (lx (dB (aa n7 rfl) (V.v_not (fH (.lst _) (dW _) rfl) rfl))))))))
class inductive Ae (pg:Int->Str) (st:Int):SS->List (List Int)->SS->Prop
 | nil {q:SS} (hr:q.rd=some []) (ha:decide (q.nf<q.po)=false) (hn:q.ks.Nodup):Ae pg st q [] q
 | cons {q q':SS} {g:List Int} {rs:List (List Int)} (hg:g≠ []) (hr:q.rd=some (g.map pg)) (hn:q.ks.Nodup) (hk: ∀x∈g.map pg,x∈q.ks) (hz:g.length<=1000) (hle:q.nf<=q.po) (hi: ∀k∈g,k∈bq) (hd:DP (q.out (g.map pg)) ((cA st g).map pg))
   (t:Ae pg st ((q.out (g.map pg)).tP ((cA st g).map pg)) rs q'):Ae pg st q (g::rs) q'
theorem DM (h:Is C):ie C k (bx b q Z) (λx=>getAttr x "done" true) (.loc ⟨b,e0⟩) (λW r=>aw W (.bm 287 ⟨b,e0⟩) r) (bx b q Z):=
 px h.ok ew dN (by rw [h.K];kernel_rfl) (by rw [h.K];kernel_rfl) (by rw [h.K];kernel_rfl) (λxs n=>by revert xs;exact kU λx0 x1 x2 x3=>by rw [h.K];kernel_rfl)
theorem qP {st:Int} {g:List Int} {x:Int}:x∈cA st g↔x∈g:=by delta cA;split<;>simp
theorem Dp {q:SS} {r:List Str}:(q.out r).nf=q.nf:=by delta SS.out;rw [nH]
theorem oE {q:SS} {g:List Str}:(q.out g).ks=q.ks:=by delta SS.out;rw [nH]
theorem lh {q:SS} {g:List Str}:(q.out g).su=q.su:=by delta SS.out;rw [nH]
theorem zm (l:List Str):(PyData.tuple (l.map .str)).depth<=9:=lq l
noncomputable def pH (pg:Int->Str) (st:Int) (q:SS) (g:List Int):SS:=(q.out (g.map pg)).tP ((cA st g).map pg)
theorem Ae.end {pg:Int->Str} {st:Int} {q q':SS} {rs:List (List Int)} (h:Ae pg st q rs q'):q'=rs.foldl (pH pg st) q/\Ae pg st q' [] q':=by
 induction h with
 | nil hr ha hn=>exact⟨rfl,.nil hr ha hn⟩
 | cons _ _ _ _ _ _ _ _ _ ih=>exact ih
theorem Dd {C:V.Cx} (h:Is C) {k:Nat} {Z:V.St} {b:Nat} {q q':SS} {pg:Int->Str} {rs:List (List Int)} {st:Int} (hst:st=1\/st= -1) (hpo: ∀k∈bq,PyData.strOk (pg k)=true) (hD:Ae pg st q rs q') (hks:q'.ks=q.ks):
  V.Cd C (k+5) (bx b q Z) (.ext 474) [.loc ⟨b,e0⟩,j3 pg,.lst (rs.map λg=> .lst (g.map .int)),.int st] [] (.bool true) (bx b (q'.out []) Z):=by
 have hx0:=h.hx;refine eB h.ok ⟨⟨_,_,_,by rw [h.K];exact rfl⟩,rfl,rfl,rfl,rfl,by rw [h.K];rfl,rfl,rfl,by decide+kernel⟩ [lo "sorter",ce "pages",lo "rounds",lo "step",lo "group",gi "tuple"] rfl [("sorter",.loc ⟨b,e0⟩),("pages",j3 pg),("rounds",.lst (rs.map λg=> .lst (g.map .int))),("step",.int st)] _
  (bR (kU λa0 a1 a2 a3=>rfl) rfl) rfl rfl λsc hF n hn=> ?_
 refine JW hF λn0 n1 n2 n3 n4 n5 _=>?_;clear hF;refine bI hD.end λhq' hend=>lW (q':=q'.out []) (λy hy=> ?_) (λz=>rfl) ?_ True.intro
 ·rw [oE];exact hks▸hy
 have comp:=λ(la:V.Loc) (τ:V.St) (xs:List Int) (hin: ∀x∈xs,x∈bq) (hz:xs.length<=1000) (elt:Expr) (scope:Scope) (pos:Pos) (gens:List Comprehension) (g:Comprehension) (e':g.ifs= []) ha hv=>g8 (C:=C) (k:=k+4) (sc:=bD scope) (elt:=elt) (pos:=pos) (scope:=scope) (gens:=gens) (g:=g) (la:=la) (enc:=AV.int) (val:=λj=>AV.str (pg j)) (M:=λo=> [none,o.map .int,some (j3 pg)]) (Sg:=λo=>τ.set la (.list o)) (ok:=λu=>True) (xs:=xs) (bU hz (by decide)) (λu=>trivial) (λu=>V.set_same) (λu v=>V.set_set) e' ha hv;have em: ∀xs:List Int,xs.map (λj=>AV.str (pg j))=(xs.map pg).map .str:=λxs=>by rw [dP];rfl
 simp only [em]at comp;have pr:(rs.foldl (λ(a:SS×Option AV) g=>(pH pg st a.1 g,some (AV.lst (g.map .int)))) (q,none)).1=q':=by
  have: ∀(xs:List (List Int)) (a:SS×Option AV),(xs.foldl (λ(a:SS×Option AV) g=>(pH pg st a.1 g,some (AV.lst (g.map .int)))) a).1=xs.foldl (pH pg st) a.1:=by
   intro xs
   induction xs with
   | nil=>intro a;rfl
   | cons x xs ih=>intro a;rw [cW,ih];rfl
  rw [this,hq']
 obtain⟨lo,hlo⟩: ∃lo:Option AV,rs.foldl (λ(a:SS×Option AV) g=>(pH pg st a.1 g,some (AV.lst (g.map .int)))) (q,none)=(q',lo):=⟨_,Prod.ext pr rfl⟩;refine iH (aa n2 rfl) (dG) trivial (KG (C:=C) (k:=k+4) (sc:=sc) (ok:=λu=>True) (enc:=λg:List Int=>AV.lst (g.map .int))
    (M:=λ(a:SS×Option AV)=> [some (.loc ⟨b,e0⟩),some (j3 pg),some (.lst (rs.map λg=> .lst (g.map .int))),some (.int st),a.2,none])
    (Sg:=λa=>bx b a.1 Z) (step:=λa g=>(pH pg st a.1 g,some (.lst (g.map .int)))) (P:=λa xs=>Ae pg st a.1 xs q')
    (λu v w=>trivial) (λa g xs hP=>by cases hP with | cons _ _ _ _ _ _ _ _ t=>exact t) ?_ rs (q,none) hD hlo) (λu v=>rfl) ?_
 ·rintro ⟨a,o⟩ g xs hP
  have hP:Ae pg st a (g::xs) q':=hP;cases hP with
  | cons hg hr hn hk gz hle hi hd t=>
  have gl:(g.map pg).length<=1000:=by rw [bw];exact gz
  have ge:((g.map pg).isEmpty)=false:=by cases g with | nil=>exact absurd rfl hg | cons=>rfl
  have po:decide ((a.out (g.map pg)).nf<(a.out (g.map pg)).po)=true:=by rw [Dp];refine(?_:decide (a.nf<a.po+((g.map pg).length:Nat))=true);have:0<g.length:=Gg.mpr hg;rw [bw,pW];omega
  have hi': ∀k∈cA st g,k∈bq:=λk hk=>hi k (qP.mp hk);have so: ∀x∈g.map pg,PyData.strOk x=true:=λx hx=>by refine kK (bM.mp hx) λk hk=>hpo k (hi k hk)
  refine cx (ag n4 rfl) ?_;refine ck (aY (ba (aq (c:=false) (aL (aa n0 rfl) (jT h ew dN) ak (KX h rfl) (V.Cd.ca (o6 h (k:=k+1) hr gl))) dR (yn (by rw [ge];simp)) rfl) (ba (aq (c:=false) (aL (aa n0 rfl) (mU h ew dN) ak (KX h rfl) (V.Cd.ca (yE h (k:=k+1) hr gl hn hk))) (aD (ar h.ok n5 (yB h)) (af (cm (link:= [(1,2)]) (out:=((g).map pg).map .str) (cZ:= [none,(eF (g)).map .int,some (j3 pg)]) ⟨V.all1 rfl,V.all1 ⟨_,n1,rfl⟩,rfl,by decide+kernel,(aa n4 rfl),dG,trivial,λu v=>rfl⟩ (λla hla=>comp la _ (g) hi (by first | exact gz | (rw [eO];exact gz)) _ _ _ _ _ rfl (λo y out hy=>ag (i:=1) rfl rfl) (λy out hy=>aS (aM (i:=2) rfl rfl) (aa (i:=1) rfl rfl) (bk (.lst _)) (bF (.lst _) (bG _ (hi y hy)).1 (bG _ (hi y hy)).2 (lO (λk=>AV.str (pg k)) (hi y hy))))) rfl (bo (f:=AV.str) (λx=>cc))) ak) cK (qT (.lst _) (aV (m:=1000) (by rw [bw];exact gl) (by decide)))) (nN (d:= .tuple ((g.map pg).map .str)) (mH (iZ _)) (mH (iZ _)) (oC _ so) (zm _)) rfl) cj))) ?_;exact ck (aY (ba (aq (c:=false) (aL (aa n0 rfl) (jT h ew dN) ak (KX h rfl) (V.Cd.ca (o6 h (k:=k+1) (r:= []) rfl (dW _)))) dR (yn (by rw [po];rfl)) rfl) (ba (aq (c:=false) (DE (aa n0 rfl) (DM h) (cm (link:= [(1,2)]) (out:=((cA st g).map pg).map .str) (cZ:= [none,(eF (cA st g)).map .int,some (j3 pg)]) ⟨V.all1 rfl,V.all1 ⟨_,n1,rfl⟩,rfl,by decide+kernel,(aS (aa n4 rfl) (bL bc bc (bJ (aa n3 rfl))) (bk (.lst _)) (e8 (.lst _) .none .none (fw.int _) (by rcases hst with rfl | rfl<;>decide) (aV (m:=1000) (by rw [bw];exact gz) (by decide)) (C1 hst g))),dG,trivial,λu v=>rfl⟩ (λla hla=>comp la _ (cA st g) hi' (by first | exact gz | (rw [eO];exact gz)) _ _ _ _ _ rfl (λo y out hy=>ag (i:=1) rfl rfl) (λy out hy=>aS (aM (i:=2) rfl rfl) (aa (i:=1) rfl rfl) (bk (.lst _)) (bF (.lst _) (bG _ (hi' y hy)).1 (bG _ (hi' y hy)).2 (lO (λk=>AV.str (pg k)) (hi' y hy))))) rfl (bo (f:=AV.str) (λx=>cc))) (.lst _) (aV (m:=1000) (by rw [bw,bw,eO];exact gz) (by decide)) (BC h.ok ⟨_,_,_,_,by rw [h.K];exact rfl⟩) (A0 (Ik h (k:=k+1) hd (by rw [bw,eO];exact gz))) (λu v=>rfl) (λu=>rfl) (λu=>rfl)) bV (cV fK) rfl) cj))) bA
 ·cases hend with
  | nil hr ha hn=>
  exact bP (eR (mC (d0 (aL (aa n0 rfl) (jT h ew dN) ak (KX h rfl) (V.Cd.ca (o6 h (k:=k+1) hr (dW _)))) dR (MX (c:=true) (by rw [ha];rfl)) rfl) cp (lx (d0 (aL (aa n0 rfl) (mU h ew dN) ak (KX h rfl) (V.Cd.ca (yE h (k:=k+1) hr (dW _) hn (λx hx=>by exact je hx)))) (cU ak (dX rfl)) (yy (d:= .tuple []) (mH gF) (mH gF) (by decide+kernel) (by decide+kernel)) rfl))))
noncomputable def d9:List Int:= [1558,5385,7183,688,5770,7845]
noncomputable def fx (k:Int):Int:=d9[k.toNat]?.getD 0
theorem J2: ∀k∈bq,0<=k/\k<1000000/\d9[k.toNat]? =some (fx k):=by decide
noncomputable def numAt (ns:List Int) (k:Int):Int:=fx k+(eP ns (some k) none (some 6)).sum
noncomputable def Mh (n:Int):List Int:= [(n.fdiv 16).fmod 7,(n.fdiv 112).fmod 7].filter λj=>decide (j<6)
noncomputable def stOf (t:Int):Int:=if bit (t.fdiv 6)then -1 else 1
noncomputable def iz (t k:Int):Int:=(t+k).fmod 6
section
variable (nA:Int->Int)
noncomputable def jH (k:Int):Str:=DG k (nA k)
noncomputable def tM (k:Int):List Int:=Mh (nA k)
noncomputable def vt (k:Int):List Str:=(ix (tM nA k).length).map λi=>fP (jH nA k) (jH nA ((tM nA k)[i.toNat]?.getD 0)) ((nA k).fdiv 3136+i)
noncomputable def qA (k:Int):Int:=(nA k).fdiv 784
noncomputable def xE (k:Int):Str:=lay (qA nA k) (vt nA k)
noncomputable def Ey (k:Int):List Str:=partsOf (qA nA k) (vt nA k)
noncomputable def mR (oA:Int->Int):List (Str×Str):=bq.map λi=>(jH nA (oA i),xE nA (oA i))
noncomputable def tL (oA:Int->Int):SS:=hV (bq.map λi=>(jH nA (oA i),(tM nA (oA i)).map (jH nA))) q0
end
theorem nS (n:Int):(Mh n).length<=2:=CF _ _
theorem pd (n:Int): ∀j∈Mh n,j∈bq:=by
 intro j hj;delta Mh at hj;have hm:=kO.mp hj;have h6:=jB hm.2;have h0:0<=j:=by
  refine aP (cM.mp hm.1) (λq=>?_) λh=>?_
  ·subst q;exact Fh _ (by decide)
  ·obtain rfl:=ju.mp h;exact Fh _ (by decide)
 exact C7 h0 h6
theorem wZ (t k:Int):iz t k∈bq:=C7 (Fh _ (by decide)) (Int.fmod_lt_of_pos _ (by decide))
structure Plan (nA oA:Int->Int) (st:Int) (rs:List (List Int)) (q':SS):Prop where
 pg: ∀k∈bq,Ka (jH nA k)/\V.B (jH nA k) 100/\(0<=Txt.count (jH nA k) "/"/\Txt.count (jH nA k) "/"<100)/\PyData.strOk (jH nA k)=true
 tx: ∀k∈bq,∀x∈vt nA k,x.length<=100/\x.cps.all nO=true
 ho:wh (mR nA oA)
 h2: ∀c∈(kB (mR nA oA)).cps.toList,c<256
 hl:Mg (kB (mR nA oA))
 hsp:Txt.split (kB (mR nA oA)) crlf=(bq.map λi=>lineOf (jH nA (oA i),xE nA (oA i)))++ [Str.empty,Str.empty]
 row: ∀k∈bq,Cn (jH nA k) (xE nA k) (Ey nA k) ((tM nA k).map (jH nA))
 nm: ∀x∈de (bq.map oA) (tM nA),x∈bq
 Om:st=1\/st= -1
 rn:th st (bq.map oA) (tM nA) [] (HV (tM nA) (de (bq.map oA) (tM nA))) rs
 rz:rs.length<=1000
 rg: ∀g∈rs,g.length<=1000
 gp:CX (tL nA oA)
 rd:(tL nA oA).rd=none
 res: ∀res,Mi (tL nA oA).su (tL nA oA).ks res->res.isSome=decide (((rs.map λg=>(g.length:Int)).sum)<6)
 su: ∀x,∀y∈(tL nA oA).su x,∃k∈bq,∃j∈tM nA k,jH nA j=x/\jH nA k=y
 dv:Ae (jH nA) st (tL nA oA).prep rs q'
 dk:q'.ks=(tL nA oA).ks
theorem Kb (h:Is C) (hz:ns.length<=1000) (P:Plan (numAt ns) (iz ns.sum) (stOf ns.sum) rs q'):
  V.Cd C (k+8) Z (.ext 479) [.lst (ns.map .int)] [] (.bool true) Z:=by
 have hx0:=h.hx;refine eB h.ok ⟨⟨_,_,_,by rw [h.K];exact rfl⟩,rfl,rfl,rfl,rfl,by rw [h.K];rfl,rfl,rfl,by decide+kernel⟩ [ce "script",ce "fixed",ce "turn",lo "k",ce "numbers",lo "order",lo "step",ce "pages",ce "needs",ce "texts",lo "table",lo "parts",lo "sorter",lo "rounds",lo "free",gi "sum",gi "range",gi "_law_pages",gi "Headers",gi "_law_lay",gi "_law_told",gi "_law_rounds",gi "_law_begun",gi "_law_driven"] rfl [("script",.lst (ns.map .int))] _
  (bR (gx λa0=>rfl) rfl) rfl rfl λsc hF n hn=> ?_
 refine tJ hF λn0 n1 n2 n3 n4 n5 n6 n7 r=>tJ r λn8 n9 n10 AD n12 n13 n14 n15 s=>tJ s λn16 n17 n18 n19 n20 n21 n22 n23 _=>?_;clear hF;obtain⟨t0,ht0⟩: ∃t0,t0=ns.sum:=⟨_,rfl⟩;obtain⟨nA,hnA⟩: ∃nA,nA=numAt ns:=⟨_,rfl⟩;obtain⟨oA,tH⟩: ∃oA,oA=iz t0:=⟨_,rfl⟩;obtain⟨st,hst⟩: ∃st,st=stOf t0:=⟨_,rfl⟩;rw [<-ht0,<-hnA,<-tH,<-hst]at P;obtain⟨nd,hnd⟩: ∃nd,nd=tM nA:=⟨_,rfl⟩;obtain⟨pg,wa⟩: ∃pg,pg=jH nA:=⟨_,rfl⟩;obtain⟨tx,htx⟩: ∃tx,tx=vt nA:=⟨_,rfl⟩;have Jp: ∀k,(nd k).length<=2:=λk=>by rw [hnd];exact nS _
 have Jq: ∀k∈bq,∀j∈nd k,j∈bq:=λk u=>by rw [hnd];exact pd _
 have Oo: ∀k,(tx k).length<=2:=λk=>by have:=Jp k;rw [hnd]at this;rw [htx];delta vt ix;rw [bw,bw,AZ];exact this
 have oi: ∀i∈bq,oA i∈bq:=λi u=>by rw [tH];exact wZ _ _
 have hsl:(ns.map AV.int).length<=sizeLine:=aV (m:=1000) (by rw [bw];exact hz) (by decide);have Jr:=P.pg;rw [<-wa]at Jr;have NJ:=P.tx;rw [<-htx]at NJ;have h':Mu C.up:=⟨⟨h.ok.up,h.K,h.hx⟩,Nat.succ_pos _⟩;have hup:C.up.hx=none:=h.hx;have I6:=λtgt=>cL (tgt:=tgt) (C:=C) (k:=k+7) (a:=0) (b:=6) (by decide) (by decide) (by decide);have NK:=λtgt=>cL (tgt:=tgt) (C:=C.up) (k:=k+7) (a:=0) (b:=6) (by decide) (by decide) (by decide) (qD hup);simp only [ER]at I6 NK;have Oq: ∀hs,Cl (n+3) (cB n hs Z):=λhs l hl=>by rw [lV (.inr (by refine(?_:n+2<l.tag);omega))];exact hn l (by omega)
 refine gQ (cP:=bx (n+3) (q'.out []) (cB n (mR nA oA) Z)) ?_ ⟨λl o e=> ?_,λu z=>z,λu w z=> .inl z,.inl ⟨rfl,True.intro⟩⟩;rotate_left
 ·have hl:l.tag<n:=by
   refine aP (oh l.tag n) (λz=>?_) λz=>?_
   ·exact z
   ·rw [hn l z]at e;exact dF e
  rw [AK (by omega),lV (.inl hl)];exact e
 refine aE (ai:= [some (.lst (ns.map .int)),some (.lst (d9.map .int)),some (.int t0),none,none,none,none,none,none,none,none,none,none,none,none,none,none,none,none,none,none,none,none,none]) (ae:=Z) (by rw [ht0];exact o9 (cU (af (hU (af aC (af aC (af aC (af aC (af aC (af aC ak)))))) (dX rfl)) (af (aD (ar h.ok n15 (C5 h)) (af (aM n0 rfl) ak) bp (BS (.lst _) hx0)) ak)) (dX rfl)) (iT (cC (dw n1 rfl) (cC (dw n2 rfl) ke)) rfl (λu=>rfl) (λu=>rfl) hx0) (λu=>rfl) (λenv hk hb=>xA (by rw [hk 1 "fixed" .cell n1];rfl) hb rfl) (λu=>rfl)) ?_;refine aE (ai:= [some (.lst (ns.map .int)),some (.lst (d9.map .int)),some (.int t0),none,some (inV nA),none,none,none,none,none,none,none,none,none,none,none,none,none,none,none,none,none,none,none]) (ae:=Z) (bZ (link:= [(1,3),(0,4)]) (out:=bq.map λk=> .int (nA k)) (cZ:= [none,(eF bq).map .int,none,some (.lst (d9.map .int)),some (.lst (ns.map .int))]) ⟨V.all1 rfl,V.all2 ⟨_,n1,rfl⟩ ⟨_,n0,rfl⟩,rfl,by decide+kernel,(aD (ar h.ok n16 (dA h)) (af aC ak) cK cR),I6 _,trivial,λu w=>rfl⟩ (λla hla=> ?_) rfl (bo (λx=>fN)) (λenv=>⟨_,rfl⟩) (λu=>rfl) (λu=>rfl) (dw n4 rfl)) ?_
 ·refine g8 (C:=C) (k:=k+7) (sc:=bD _) (la:=la) (enc:=AV.int) (val:=λk=>AV.int (nA k)) (M:=λo=> [none,o.map .int,none,some (.lst (d9.map .int)),some (.lst (ns.map .int))]) (Sg:=λo=>Z.set la (.list o)) (ok:=λu=>True) (xs:=bq) (by decide) (λu=>trivial) (λu=>V.set_same) (λu w=>V.set_set) rfl (λo y out hy=>ag (i:=1) rfl rfl) (λx out hx=> ?_);refine nM (J2 x hx) λk1 k2 k3=>?_;rw [hnA];exact az (aS (aM (i:=3) rfl rfl) (aa (i:=1) rfl rfl) (bk (.lst _)) (bF (.lst _) k1 k2 (by rw [gr,k3];rfl))) (aD (ar h.ok (i:=2) rfl (C5 h)) (af (aS (aM (i:=4) rfl rfl) (bL (bJ (aa (i:=1) rfl rfl)) bc (bJ aC)) (bk (.lst _)) (e8 (.lst _) (fw.int _) .none (fw.int _) (by decide) hsl (Aj AV.int ns _ _ _))) ak) bp (BS (.lst _) hx0)) qm
 refine aE (ai:= [some (.lst (ns.map .int)),some (.lst (d9.map .int)),some (.int t0),none,some (inV nA),some (inV oA),none,none,none,none,none,none,none,none,none,none,none,none,none,none,none,none,none,none]) (ae:=Z) (bZ (link:= [(2,2)]) (out:=bq.map λi=> .int (oA i)) (cZ:= [none,(eF bq).map .int,some (.int t0)]) ⟨V.all1 rfl,V.all1 ⟨_,n2,rfl⟩,rfl,by decide+kernel,(aD (ar h.ok n16 (dA h)) (af aC ak) cK cR),I6 _,trivial,λu w=>rfl⟩ (λla hla=> ?_) rfl (bo (λx=>fN)) (λenv=>⟨_,rfl⟩) (λu=>rfl) (λu=>rfl) (ag n5 rfl)) ?_
 ·refine g8 (C:=C) (k:=k+7) (sc:=bD _) (la:=la) (enc:=AV.int) (val:=λi=>AV.int (oA i)) (M:=λo=> [none,o.map .int,some (.int t0)]) (Sg:=λo=>Z.set la (.list o)) (ok:=λu=>True) (xs:=bq) (by decide) (λu=>trivial) (λu=>V.set_same) (λu w=>V.set_set) rfl (λo y out hy=>ag (i:=1) rfl rfl) (λx out hx=> ?_);rw [tH];exact az (az (aM (i:=2) rfl rfl) (aa (i:=1) rfl rfl) qm) aC (dm (by decide) rfl)
 refine Kn (v:= .int st) n6 (ai:= [some (.lst (ns.map .int)),some (.lst (d9.map .int)),some (.int t0),none,some (inV nA),some (inV oA),none,none,none,none,none,none,none,none,none,none,none,none,none,none,none,none,none,none]) (ae:=Z) ?_ (λu=>rfl) (λu=>rfl) ?_
 ·rw [hst];delta stOf;rcases hb:bit (t0.fdiv 6)with _ | _
  ·exact b9 (b:=false) (aX (b:=false) (az (az (aM n2 rfl) aC (gv (by decide) rfl rfl)) aC (dm (by decide) rfl)) (cY hb)) aC
  ·exact b9 (b:=true) (aX (b:=true) (az (az (aM n2 rfl) aC (gv (by decide) rfl rfl)) aC (dm (by decide) rfl)) (cY hb)) (dB aC qY)
 refine aE (ai:= [some (.lst (ns.map .int)),some (.lst (d9.map .int)),some (.int t0),none,some (inV nA),some (inV oA),some (.int st),some (j3 pg),none,none,none,none,none,none,none,none,none,none,none,none,none,none,none,none]) (ae:=Z) ?_ ?_
 ·rw [wa];exact(au (aD (ar h'.ok n17 (sq h'.toIs)) (af (aM n4 rfl) ak) (KX h'.toIs rfl) (V.Cd.ca (EV h'.toIs (k:=k+6)))) (dw n7 rfl))
 refine aE (ai:= [some (.lst (ns.map .int)),some (.lst (d9.map .int)),some (.int t0),none,some (inV nA),some (inV oA),some (.int st),some (j3 pg),some (dH nd),none,none,none,none,none,none,none,none,none,none,none,none,none,none,none]) (ae:=Z) (bZ (link:= []) (out:=bq.map λk=> .lst ((nd k).map .int)) (cZ:= [none,(eF bq).map λk=> .int (nA k)]) ⟨V.all1 rfl,xb,rfl,by decide+kernel,(aM n4 rfl),dG (qD hup),trivial,λu w=>rfl⟩ (λla hla=> ?_) rfl (bo (λx=>j8 (bo (λx=>fN)))) (λenv=>⟨_,rfl⟩) (λu=>rfl) (λu=>rfl) (dw n8 rfl)) ?_
 ·refine g8 (C:=C.up) (k:=k+7) (sc:=bD _) (la:=la) (enc:=λk=>AV.int (nA k)) (val:=λk=>AV.lst ((nd k).map .int)) (M:=λo=> [none,o.map λk=> .int (nA k)]) (Sg:=λo=>Z.set la (.list o)) (ok:=λu=>True) (xs:=bq) (by decide) (λu=>trivial) (λu=>V.set_same) (λu w=>V.set_set) rfl (λo y out hy=>ag (i:=1) rfl rfl) (λx out hx=> ?_);have e2:(([(nA x).fdiv 16 |>.fmod 7,(nA x).fdiv 112 |>.fmod 7]:List Int).filter λj=>decide (j<6)).map AV.int=(nd x).map .int:=by rw [hnd];rfl
  refine cm (link:= []) (out:=(nd x).map .int) (cZ:= [none,(eF [(nA x).fdiv 16 |>.fmod 7,(nA x).fdiv 112 |>.fmod 7]).map .int]) ⟨V.all1 rfl,xb,rfl,by decide+kernel,cU (af (az (az (aa (i:=1) rfl rfl) aC (gv (by decide) rfl rfl)) aC (dm (by decide) rfl)) (af (az (az (aa (i:=1) rfl rfl) aC (gv (by decide) rfl rfl)) aC (dm (by decide) rfl)) ak)) (dX rfl),iw hup,trivial,λu w=>rfl⟩ (λEe hla'=> ?_) rfl (bo (f:=AV.int) (λx=>fN));rw [<-e2];exact fE (enc:=AV.int) (val:=AV.int) (p:=λj=>decide (j<6)) (M:=λo=> [none,o.map .int]) (Sg:=λo=>(Z.set la (.list out)).set Ee (.list o)) (xs:= [(nA x).fdiv 16 |>.fmod 7,(nA x).fdiv 112 |>.fmod 7]) (show 2<=1000000 by decide) (λu=>trivial) (λu=>V.set_same) (λu w=>V.set_set) rfl (λo y out hy=>ag (i:=1) rfl rfl) (λy out hy=>aq (aa (i:=1) rfl rfl) aC Hu rfl) (λy out hy u=>(aa (i:=1) rfl rfl))
 refine aE (ai:= [some (.lst (ns.map .int)),some (.lst (d9.map .int)),some (.int t0),none,some (inV nA),some (inV oA),some (.int st),some (j3 pg),some (dH nd),some (yC tx),none,none,none,none,none,none,none,none,none,none,none,none,none,none]) (ae:=Z) (bZ (link:= [(8,4),(4,5),(7,6)]) (out:=bq.map λk=> .lst ((tx k).map .str)) (cZ:= [none,(eF bq).map .int,none,none,some (dH nd),some (inV nA),some (j3 pg)]) ⟨V.all1 rfl,vD ⟨_,n8,rfl⟩ (V.all2 ⟨_,n4,rfl⟩ ⟨_,n7,rfl⟩),rfl,by decide+kernel,(aD (ar h'.ok n16 (dA h'.toIs)) (af aC ak) cK cR),NK _,trivial,λu w=>rfl⟩ (λla hla=> ?_) rfl (bo (λx=>j8 (bo (λx=>cc)))) (λenv=>⟨_,rfl⟩) (λu=>rfl) (λu=>rfl) (dw n9 rfl)) ?_
 ·refine g8 (C:=C.up) (k:=k+7) (sc:=bD _) (la:=la) (enc:=AV.int) (val:=λk=>AV.lst ((tx k).map .str)) (M:=λo=> [none,o.map .int,none,none,some (dH nd),some (inV nA),some (j3 pg)]) (Sg:=λo=>Z.set la (.list o)) (ok:=λu=>True) (xs:=bq) (by decide) (λu=>trivial) (λu=>V.set_same) (λu w=>V.set_set) rfl (λo y out hy=>dw (i:=1) rfl rfl) (λx out hx=> ?_);have nl:=Jp x;have e2:((ix (nd x).length).map λi=>AV.str (fP (pg x) (pg ((nd x)[i.toNat]?.getD 0)) ((nA x).fdiv 3136+i)))=(tx x).map .str:=by rw [htx];delta vt;rw [dP,hnd,wa];rfl
  have IR:=λtgt=>cL (tgt:=tgt) (C:=C.up) (k:=k+7) (a:=0) (b:=((nd x).length:Int)) (by decide) (by omega) (by omega) (qD hup);simp only [yD]at IR;have bd: ∀i∈ix (nd x).length,0<=i/\i<1000000/\(nd x)[i.toNat]? =some ((nd x)[i.toNat]?.getD 0):=λi hi=>by delta ix at hi;refine kK (bM.mp hi) λj hj=>?_;rw [zG]at hj;rw [tS,ng hj];exact m9 (Int.natCast_nonneg j) (by omega) rfl
  have ln:=c6 (C:=C.up) (k:=k+7) (Z:=Z.set la (.list out)) (.lst ((nd x).map AV.int)) (aV (m:=2) (by rw [bw];exact nl) (by decide));rw [bw]at ln;refine cm (link:= [(1,3),(4,4),(5,5),(6,6)]) (out:=(tx x).map .str) (cZ:= [none,(eF (ix (nd x).length)).map .int,none,some (.int x),some (dH nd),some (inV nA),some (j3 pg)]) ⟨V.all1 rfl,vD ⟨_,rfl,rfl⟩ (vD ⟨_,rfl,rfl⟩ (V.all2 ⟨_,rfl,rfl⟩ ⟨_,rfl,rfl⟩)),rfl,by decide+kernel,(aD (ar h'.ok (i:=2) rfl (dA h'.toIs)) (af (aD (ar h'.ok (i:=3) rfl (fB h'.toIs)) (af (aS (aM (i:=4) rfl rfl) (aM (i:=1) rfl rfl) (bk (.lst _)) (bF (.lst _) (bG _ hx).1 (bG _ hx).2 (lO (λk=>AV.lst ((nd k).map .int)) hx))) ak) bp ln) ak) cK cR),IR _,trivial,λu w=>rfl⟩ (λEe hla'=> ?_) rfl (bo (f:=AV.str) (λx=>cc));rw [<-e2];refine g8 (enc:=AV.int) (val:=λi=>AV.str (fP (pg x) (pg ((nd x)[i.toNat]?.getD 0)) ((nA x).fdiv 3136+i))) (M:=λo=> [none,o.map .int,none,some (.int x),some (dH nd),some (inV nA),some (j3 pg)]) (Sg:=λo=>(Z.set la (.list out)).set Ee (.list o)) (xs:=ix (nd x).length) (by delta ix;rw [bw,AZ];omega) (λu=>trivial) (λu=>V.set_same) (λu w=>V.set_set) rfl (λo y out hy=>ag (i:=1) rfl rfl) (λi out hi=> ?_);refine nM (bd i hi) λb0 b1 b2=>?_;obtain⟨j,hj⟩: ∃j,j=(nd x)[i.toNat]?.getD 0:=⟨_,rfl⟩;rw [<-hj]at b2⊢;have MD:j∈bq:=Jq x hx j (ik b2);have bj:((nd x).map AV.int)[i.toNat]? =some (.int j):=by rw [gr,b2];rfl
  exact(aD (ar h'.ok (i:=2) rfl (uG h'.toIs)) (af (aS (aM (i:=6) rfl rfl) (aM (i:=3) rfl rfl) (bk (.lst _)) (bF (.lst _) (bG _ hx).1 (bG _ hx).2 (lO (λk=>AV.str (pg k)) hx))) (af (aS (aM (i:=6) rfl rfl) (aS (aS (aM (i:=4) rfl rfl) (aM (i:=3) rfl rfl) (bk (.lst _)) (bF (.lst _) (bG _ hx).1 (bG _ hx).2 (lO (λk=>AV.lst ((nd k).map .int)) hx))) (aa (i:=1) rfl rfl) (bk (.lst _)) (bF (.lst _) b0 b1 bj)) (bk (.lst _)) (bF (.lst _) (bG _ MD).1 (bG _ MD).2 (lO (λk=>AV.str (pg k)) MD))) (af (az (az (aS (aM (i:=5) rfl rfl) (aM (i:=3) rfl rfl) (bk (.lst _)) (bF (.lst _) (bG _ hx).1 (bG _ hx).2 (lO (λk=>AV.int (nA k)) hx))) aC (gv (by decide) rfl rfl)) (aa (i:=1) rfl rfl) qm) ak))) (KX h'.toIs rfl) (HU h'.toIs (k:=k+6) (Jr x hx).2.1 (Jr j MD).2.1 (Jr x hx).2.2.1))
 have mk:=rB h'.ok (k:=k+6) (c:=184) (fi:=76) (kw:= []) (as:= []) (Z:=Z) (l:=⟨n,e0⟩) (d:=⟨n+1,e0⟩) (by rw [h'.K];kernel_rfl) (by rw [h'.K];kernel_rfl) (by rw [h'.K];kernel_rfl) (hn _ (bT _)) (hn _ (by exact gZ _ _)) (by exact L1.ku rfl) (FC h'.toIs (k:=k+5) (Z:=Z) (t:=n) (hn _ (by exact gZ _ _)));refine aE (ai:= [some (.lst (ns.map .int)),some (.lst (d9.map .int)),some (.int t0),none,some (inV nA),some (inV oA),some (.int st),some (j3 pg),some (dH nd),some (yC tx),some (.loc ⟨n,e0⟩),none,none,none,none,none,none,none,none,none,none,none,none,none]) (ae:=cB n [] Z) (au (aD (ar h'.ok n18 (zw h'.toIs)) ak (KX h'.toIs rfl) mk) (ag n10 rfl)) ?_;refine iH (aa n5 rfl) (dG (qD hup)) trivial (KG (C:=C.up) (k:=k+7) (sc:=sc) (ok:=λu=>True) (enc:=λi=>AV.int (oA i))
    (M:=λ(a:List (Str×Str)×Option Int)=> [some (.lst (ns.map .int)),some (.lst (d9.map .int)),some (.int t0),a.2.map .int,some (inV nA),some (inV oA),some (.int st),some (j3 pg),some (dH nd),some (yC tx),some (.loc ⟨n,e0⟩),none,none,none,none,none,none,none,none,none,none,none,none,none])
    (Sg:=λa=>cB n a.1 Z) (step:=λa i=>(a.1++ [(pg (oA i),lay (qA nA (oA i)) (tx (oA i)))],some (oA i))) (P:=λa xs=>a.1.length+xs.length<=1000/\ ∀x∈xs,x∈bq)
    (λu w u1=>trivial) (λa x xs hP=>⟨by have:=hP.1;simp only [cS,cq,ip]at this⊢;omega,λy hy=>hP.2 y (.tail _ hy)⟩) ?_ bq ([],none) ⟨by decide,λu z=>z⟩ (z:=(mR nA oA,some (oA 5))) (by rw [wa,htx];rfl)) (λu w=>rfl) ?_
 ·rintro ⟨a,o⟩ i xs ⟨hl,hP⟩
  have hi:=hP i (.head _);have hx:=oi i hi;have hl:a.length+(xs.length+1)<=1000:=hl;refine cx (ag n3 rfl) ?_;exact aJ (cv (aD (ar h'.ok n19 (w5 h'.toIs)) (af (aa n10 rfl) (af (aS (aM n7 rfl) (aa n3 rfl) (bk (.lst _)) (bF (.lst _) (bG _ hx).1 (bG _ hx).2 (lO (λk=>AV.str (pg k)) hx))) (af (az (aS (aM n4 rfl) (aa n3 rfl) (bk (.lst _)) (bF (.lst _) (bG _ hx).1 (bG _ hx).2 (lO (λk=>AV.int (nA k)) hx))) aC (gv (by decide) rfl rfl)) (af (aS (aM n9 rfl) (aa n3 rfl) (bk (.lst _)) (bF (.lst _) (bG _ hx).1 (bG _ hx).2 (lO (λk=>AV.lst ((tx k).map .str)) hx))) ak)))) (KX h'.toIs rfl) (V.Cd.ca (K2 h' (k:=k+4) (Jr _ hx).1 (NJ _ hx) (Oo _) (by omega))))) bA
 obtain⟨kz,hkz⟩: ∃kz,kz=(some (oA 5)).map AV.int:=⟨_,rfl⟩;dsimp only;rw [<-hkz];refine aE (ai:= [some (.lst (ns.map .int)),some (.lst (d9.map .int)),some (.int t0),kz,some (inV nA),some (inV oA),some (.int st),some (j3 pg),some (dH nd),some (yC tx),some (.loc ⟨n,e0⟩),some (.lst (bq.map λk=> .lst ((Ey nA k).map .str))),none,none,none,none,none,none,none,none,none,none,none,none]) (ae:=cB n (mR nA oA) Z) (bZ (link:= [(4,3),(9,4)]) (out:=bq.map λk=> .lst ((Ey nA k).map .str)) (cZ:= [none,(eF bq).map .int,none,some (inV nA),some (yC tx)]) ⟨V.all1 rfl,V.all2 ⟨_,n4,rfl⟩ ⟨_,n9,rfl⟩,rfl,by decide+kernel,(aD (ar h'.ok n16 (dA h'.toIs)) (af aC ak) cK cR),NK _,trivial,λu w=>rfl⟩ (λla hla=> ?_) rfl (bo (λx=>j8 (bo (λx=>cc)))) (λenv=>⟨_,rfl⟩) (λu=>rfl) (λu=>rfl) (ag AD rfl)) ?_
 ·refine g8 (C:=C.up) (k:=k+7) (sc:=bD _) (la:=la) (enc:=AV.int) (val:=λk=>AV.lst ((Ey nA k).map .str)) (M:=λo=> [none,o.map .int,none,some (inV nA),some (yC tx)]) (Sg:=λo=>V.St.set _ la (.list o)) (ok:=λu=>True) (xs:=bq) (by decide) (λu=>trivial) (λu=>V.set_same) (λu w=>V.set_set) rfl (λo y out hy=>ag (i:=1) rfl rfl) (λx out hx=> ?_);have ep:Ey nA x=partsOf (qA nA x) (tx x):=by rw [htx];rfl
  rw [ep];exact(aD (ar h'.ok (i:=2) rfl (sj h'.toIs)) (af (az (aS (aM (i:=3) rfl rfl) (aa (i:=1) rfl rfl) (bk (.lst _)) (bF (.lst _) (bG _ hx).1 (bG _ hx).2 (lO (λk=>AV.int (nA k)) hx))) aC (gv (by decide) rfl rfl)) (af (aS (aM (i:=4) rfl rfl) (aa (i:=1) rfl rfl) (bk (.lst _)) (bF (.lst _) (bG _ hx).1 (bG _ hx).2 (lO (λk=>AV.lst ((tx k).map .str)) hx))) ak)) (KX h'.toIs rfl) (V.Cd.ca (Fo h'.toIs (k:=k+6) (λy hy=>(NJ x hx y hy).1) (Oo _))))
 have told:=V.Cd.ca (Iz h'.toIs (k:=k) (Z:=Z) (t:=n) (b:=n+3) (oA:=oA) (pg:=pg) (vl:=xE nA) (pt:=Ey nA) (nd:=nd) (by rw [wa];exact Oq _) (by rw [wa];exact P.ho) (by rw [wa];exact P.h2) (by rw [wa];exact P.hl) (by rw [wa];exact P.hsp) oi Jp Jq (by rw [wa,hnd];exact P.row));have eq1:hV (bq.map λi=>(pg (oA i),(nd (oA i)).map pg)) q0=tL nA oA:=by rw [wa,hnd];rfl
 have eq2:(bq.map λi=>(pg (oA i),xE nA (oA i)))=mR nA oA:=by rw [wa];rfl
 rw [eq1,eq2]at told;refine aE (ai:= [some (.lst (ns.map .int)),some (.lst (d9.map .int)),some (.int t0),kz,some (inV nA),some (inV oA),some (.int st),some (j3 pg),some (dH nd),some (yC tx),some (.loc ⟨n,e0⟩),some (.lst (bq.map λk=> .lst ((Ey nA k).map .str))),some (.loc ⟨n+3,e0⟩),none,none,none,none,none,none,none,none,none,none,none]) (ae:=bx (n+3) (tL nA oA) (cB n (mR nA oA) Z)) (au (aD (ar h'.ok n20 (u9 h'.toIs)) (af (aa n10 rfl) (af (aa n5 rfl) (af (aM n7 rfl) (af (aM n8 rfl) (af (aa AD rfl) ak))))) (KX h'.toIs rfl) told) (ag n12 rfl)) ?_;refine cw (aq (c:=false) (aa n12 rfl) bV (gA mn) rfl) ?_;have Mf:=V.Cd.ca (Dg h'.toIs (k:=k+6) (Z:=bx (n+3) (tL nA oA) (cB n (mR nA oA) Z)) (ord:=bq.map oA) (nd:=nd) (st:=st) (rs:=rs) (λx hx=>by refine kK (bM.mp hx) λi hi=>?_;exact oi i hi) (by rw [bw];decide) Jp (by rw [hnd];exact P.nm) P.Om (by rw [hnd];exact P.rn) P.rz);have eo:(bq.map oA).map AV.int=bq.map λi=>AV.int (oA i):=by rw [dP];rfl
 rw [eo]at Mf;refine aE (ai:= [some (.lst (ns.map .int)),some (.lst (d9.map .int)),some (.int t0),kz,some (inV nA),some (inV oA),some (.int st),some (j3 pg),some (dH nd),some (yC tx),some (.loc ⟨n,e0⟩),some (.lst (bq.map λk=> .lst ((Ey nA k).map .str))),some (.loc ⟨n+3,e0⟩),some (.lst (rs.map λg=> .lst (g.map .int))),none,none,none,none,none,none,none,none,none,none]) (ae:=bx (n+3) (tL nA oA) (cB n (mR nA oA) Z)) (au (aD (ar h'.ok n21 (p7 h'.toIs)) (af (aa n5 rfl) (af (aM n8 rfl) (af (aa n6 rfl) ak))) (KX h'.toIs rfl) Mf) (ag n13 rfl)) ?_;have fl:(rs.map λg=>AV.int (g.length:Int))=(rs.map λg=>(g.length:Int)).map .int:=by rw [dP];rfl
 refine aE (ai:= [some (.lst (ns.map .int)),some (.lst (d9.map .int)),some (.int t0),kz,some (inV nA),some (inV oA),some (.int st),some (j3 pg),some (dH nd),some (yC tx),some (.loc ⟨n,e0⟩),some (.lst (bq.map λk=> .lst ((Ey nA k).map .str))),some (.loc ⟨n+3,e0⟩),some (.lst (rs.map λg=> .lst (g.map .int))),some (.int (rs.map λg=>(g.length:Int)).sum),none,none,none,none,none,none,none,none,none]) (ae:=bx (n+3) (tL nA oA) (cB n (mR nA oA) Z)) (au (aD (ar h'.ok n15 (C5 h'.toIs)) (af (cm (link:= []) (out:=(rs.map λg=>(g.length:Int)).map .int) (cZ:= [none,(eF rs).map λg=> .lst (g.map .int),none]) ⟨V.all1 rfl,xb,rfl,by decide+kernel,(aa n13 rfl),dG (qD hup),trivial,λu w=>rfl⟩ (λla hla=> ?_) rfl (bo (λx=>fN))) ak) bp (BS (.lst _) hup)) (ag n14 rfl)) ?_
 ·rw [<-fl];refine g8 (enc:=λg:List Int=>AV.lst (g.map .int)) (val:=λg=>AV.int (g.length:Int)) (M:=λo=> [none,o.map λg=> .lst (g.map .int),none]) (Sg:=λo=>(bx (n+3) (tL nA oA) (cB n (mR nA oA) Z)).set la (.list o)) (xs:=rs) (bU P.rz (by decide)) (λu=>trivial) (λu=>V.set_same) (λu w=>V.set_set) rfl (λo y out hy=>ag (i:=1) rfl rfl) (λg out hg=> ?_);have ln:=c6 (C:=C.up) (k:=k+7) (Z:=(bx (n+3) (tL nA oA) (cB n (mR nA oA) Z)).set la (.list out)) (.lst (g.map AV.int)) (aV (m:=1000) (by rw [bw];exact P.rg g hg) (by decide));rw [bw]at ln;exact(aD (ar h'.ok (i:=2) rfl (fB h'.toIs)) (af (aa (i:=1) rfl rfl) ak) bp ln)
 have PB:=V.Cd.ca (E7 h'.toIs (k:=k+2) (Z:=cB n (mR nA oA) Z) (b:=n+3) (q:=tL nA oA) (pg:=pg) (nd:=nd) P.gp (Oq _) P.rd Jp Jq P.res (by rw [wa,hnd];exact P.su) (λk hk=>(Jr k hk).2.2.2));have PC:=V.Cd.ca (Dd h'.toIs (k:=k+2) (Z:=cB n (mR nA oA) Z) (b:=n+3) (q:=(tL nA oA).prep) (pg:=pg) (rs:=rs) (st:=st) P.Om (λk hk=>(Jr k hk).2.2.2) (by rw [wa];exact P.dv) P.dk);exact bP (eR (mC (aD (ar h'.ok n22 (rN h'.toIs)) (af (aa n12 rfl) (af (aM n7 rfl) (af (aM n8 rfl) (af (d0 (aa n14 rfl) aC Hu rfl) ak)))) (KX h'.toIs rfl) PB) cp (lx (aD (ar h'.ok n23 (pZ h'.toIs)) (af (aa n12 rfl) (af (aM n7 rfl) (af (aa n13 rfl) (af (aa n6 rfl) ak)))) (KX h'.toIs rfl) PC))))
end L1
end
section
namespace L1
open Builtin Builtin.Str
noncomputable def jn (sep:List Nat):List (List Nat)->List Nat
 | []=> []
 | [x]=>x
 | x::y::r=>x++sep++jn sep (y::r)
noncomputable def jR (m:Nat):Nat->List (List Nat)->List Nat
 | _,[]=> []
 | _,[_]=> []
 | a,x::y::r=>(a+x.length)::jR m (a+x.length+m) (y::r)
noncomputable def lB (s sub:Str) (hi limit:Nat) (st:Array Nat×Nat) (i:Nat):Array Nat×Nat:=
 if((st.1.size<limit/\st.2<=i)/\i+sub.length<=hi)/\subAt s sub i=true then(st.1.push i,i+sub.length)else st
theorem wg (s sub:Str) (hi limit:Nat): ∀(l:List Nat) (st:Array Nat×Nat),(forIn l st (StrLaws.occBody s sub hi limit)).run=l.foldl (lB s sub hi limit) st:=by
 intro aH;induction aH with
 | nil=>intro u;exact rfl
 | cons a l ih=>
  intro st;rw [nv,cW];delta StrLaws.occBody lB;split
  ·exact ih _
  ·exact ih _
theorem Bc {s sub:Str} {hi limit:Nat}: ∀(l:List Nat) (st:Array Nat×Nat),(∀i∈l,st.2<=i->i+sub.length<=hi->subAt s sub i=true->False)->l.foldl (lB s sub hi limit) st=st:=by
 intro aH;induction aH with
 | nil=>intro u v;exact rfl
 | cons a l ih=>intro st h;rw [cW];have e:lB s sub hi limit st a=st:=ay λz=>h a (.head _) z.1.1.2 z.1.2 z.2;rw [e];exact ih st λi hi=>h i (.tail _ hi)
theorem iC {s sub:Str} {c0:Nat} {w:List Nat} (hs:sub.cps.toList=c0::w) {i:Nat} (h:subAt s sub i=true):s.cps.toList[i]? =some c0:=by
 rw [StrLaws.subAt_eq,hs,gJ]at h;have hl:sub.length=w.length+1:=by refine(?_:sub.cps.size=_);rw [<-iP,hs];rfl
 rw [hl]at h;have:=dY (·[0]?) h;simp only [List.getElem?_cons_zero]at this;rw [Fx (Nat.succ_pos _),xH,Nat.add_zero]at this;exact this
theorem lr:(jn sep (x::y::r)).length=x.length+sep.length+(jn sep (y::r)).length:=by refine(?_:(x++sep++jn sep (y::r)).length=_);rw [cS,cS]
theorem Km {s sub:Str} {c0:Nat} {w:List Nat} {limit:Nat} (hs:sub.cps.toList=c0::w): ∀(ls:List (List Nat)) (pre:List Nat) (F:Array Nat),ls≠ []->(∀x∈ls,c0∉x)->s.cps.toList=pre++jn (c0::w) ls->F.size+ls.length<=limit+1->
  ((List.range' pre.length (s.length+1 - pre.length)).foldl (lB s sub s.length limit) (F,pre.length)).1.toList=F.toList++jR (w.length+1) pre.length ls:=by
 intro ls
 induction ls with
 | nil=>exact λu v h=>absurd rfl h
 | cons x l ih=>
  cases l with
  | nil=>
   intro pre F u hx hS v;have hl:s.length=pre.length+x.length:=by refine(?_:s.cps.size=_);rw [<-iP,hS,cS];rfl
   rw [Bc]
   ·simp [jR]
   ·intro i hi hf hb h;have hc:=iC hs h;rw [hS,List.getElem?_append_right hf]at hc;exact hx x (.head _) (ik hc)
  | cons y r=>
   intro pre F u hx hS hlim;have hm:sub.length=w.length+1:=by refine(?_:sub.cps.size=_);rw [<-iP,hs];rfl
   have hl:s.length=pre.length+(x.length+(w.length+1)+(jn (c0::w) (y::r)).length):=by refine(?_:s.cps.size=_);rw [<-iP,hS,cS,lr];rfl
   have e1:List.range' pre.length (s.length+1 - pre.length)=List.range' pre.length x.length++([pre.length+x.length]++(List.range' (pre.length+x.length+1) w.length++List.range' (pre.length+x.length+(w.length+1)) (s.length+1 - (pre.length+x.length+(w.length+1))))):=by
    have a1:s.length+1 - pre.length=x.length+(1+(w.length+(s.length+1 - (pre.length+x.length+(w.length+1))))):=by omega
    rw [a1,<-List.range'_append_1,<-List.range'_append_1,<-List.range'_append_1,show pre.length+x.length+1+w.length=pre.length+x.length+(w.length+1) by omega];rfl
   have h1:(List.range' pre.length x.length).foldl (lB s sub s.length limit) (F,pre.length)=(F,pre.length):=by
    refine Bc _ _ λi hi hf hb h=> ?_;have hc:=iC hs h;have hi2:i<pre.length+x.length:=by have:=(List.mem_range'_1.mp hi).2;exact this
    have hf:pre.length<=i:=hf;rw [hS,List.getElem?_append_right hf]at hc;have:(jn (c0::w) (x::y::r))[i - pre.length]? =x[i - pre.length]? :=by refine(?_:(x++(c0::w)++jn (c0::w) (y::r))[i - pre.length]? =_);rw [eX,List.getElem?_append_left (by omega)]
    rw [this]at hc;exact hx x (.head _) (ik hc)
   have h2:lB s sub s.length limit (F,pre.length) (pre.length+x.length)=(F.push (pre.length+x.length),pre.length+x.length+(w.length+1)):=by
    delta lB;rw [aF,hm];refine⟨⟨⟨?_,?_⟩,?_⟩,?_⟩
    ·simp only [cq]at hlim;refine(?_:F.size<limit);omega
    ·exact gZ _ _
    ·rw [hm];omega
    ·rw [StrLaws.subAt_eq,hs,gJ,hm,hS];refine(?_:((pre++(x++(c0::w)++jn (c0::w) (y::r))).drop (pre.length+x.length)).take (w.length+1)=c0::w);have ee:pre++(x++(c0::w)++jn (c0::w) (y::r))=(pre++x)++((c0::w)++jn (c0::w) (y::r)):=by simp only [eX]
     rw [ee,show pre.length+x.length=(pre++x).length from cS.symm,List.drop_left,show w.length+1=(c0::w).length from rfl,List.take_left]
   rw [e1,tU,h1,tU,cW,yS,h2,tU];have h3:(List.range' (pre.length+x.length+1) w.length).foldl (lB s sub s.length limit) (F.push (pre.length+x.length),pre.length+x.length+(w.length+1))=(F.push (pre.length+x.length),pre.length+x.length+(w.length+1)):=by refine Bc _ _ λi hi hf hb h=> ?_;have hi2:=(List.mem_range'_1.mp hi).2;have hf:pre.length+x.length+(w.length+1)<=i:=hf;omega
   rw [h3];have lp:(pre++x++(c0::w)).length=pre.length+x.length+(w.length+1):=by rw [cS,cS];rfl
   have ih:=ih (pre++x++(c0::w)) (F.push (pre.length+x.length)) (λz=>by exact GH z) (λz hz=>hx z (.tail _ hz)) (by rw [hS];refine(?_:pre++(x++(c0::w)++jn (c0::w) (y::r))=_);simp only [eX]) (by rw [Array.size_push];simp only [cq]at hlim⊢;omega);rw [lp]at ih;rw [ih,Array.toList_push,eX];rfl
theorem yh {s sub:Str} {c0:Nat} {w:List Nat} (hs:sub.cps.toList=c0::w) {ls:List (List Nat)} (h:ls≠ []) (hx: ∀x∈ls,c0∉x) (hS:s.cps.toList=jn (c0::w) ls) {limit:Nat} (hl:ls.length<=limit+1):occurrences s sub 0 s.length limit=jR (w.length+1) 0 ls:=by rw [StrLaws.occ_eq,wg];have:=Km hs ls [] #[] h hx hS (by simpa using hl);simpa using this
theorem iE (h:s.cps.toList=a++b++c):strSub s a.length (a.length+b.length)=⟨b.toArray⟩:=by
 delta strSub
 congr 1
 apply u7;rw [Array.toList_extract,h];simp
theorem vm: ∀(ls:List (List Nat)) (pre:List Nat),ls≠ []->s.cps.toList=pre++jn (c0::w) ls->
  (((pre.length::(jR (w.length+1) pre.length ls).map (· +(w.length+1))).zip (jR (w.length+1) pre.length ls++ [s.length])).map λp=>strSub s p.1 p.2)=ls.map λx=>(⟨x.toArray⟩:Str):=by
 intro ls
 induction ls with
 | nil=>exact λu h=>absurd rfl h
 | cons x l ih=>
  cases l with
  | nil=>
   intro pre u hS;have hl:s.length=pre.length+x.length:=by refine(?_:s.cps.size=_);rw [<-iP,hS,cS];rfl
   refine(?_: [strSub s pre.length s.length]= [_]);rw [hl,iE (c:= []) (by rw [hS,iM];rfl)]
  | cons y r=>
   intro pre u hS;have lp:(pre++x++(c0::w)).length=pre.length+x.length+(w.length+1):=by rw [cS,cS];rfl
   have hS2:s.cps.toList=pre++x++((c0::w)++jn (c0::w) (y::r)):=by rw [hS];refine(?_:pre++(x++(c0::w)++jn (c0::w) (y::r))=_);simp only [eX]
   have ih:=ih (pre++x++(c0::w)) (λz=>by exact GH z) (by rw [hS2];simp only [eX]);rw [lp]at ih;refine(?_:strSub s pre.length (pre.length+x.length)::_=_);rw [iE hS2,dj];exact dY _ ih
theorem uJ (m:Nat): ∀(ls:List (List Nat)) (a:Nat),ls≠ []->(jR m a ls).length+1=ls.length:=by
 intro aH;induction aH with
 | nil=>intro u h;exact absurd rfl h
 | cons x l₁ ih=>
  cases l₁ with
  | nil=>intro u v;exact rfl
  | cons y r=>intro a u;refine(?_:(jR m _ (y::r)).length+1+1=_);rw [ih _ (λz=>by exact GH z)];rfl
theorem GA: ∀(ls:List (List Nat)),ls≠ []->ls.length<=(jn (c0::w) ls).length+1/\(2<=ls.length->w.length+1<=(jn (c0::w) ls).length):=by
 intro aH;induction aH with
 | nil=>intro h;exact absurd rfl h
 | cons x l₁ ih=>
  cases l₁ with
  | nil=>intro u;exact⟨by simp,λz=>by simp at z⟩
  | cons y r=>intro u;have ih:=(ih (λz=>by exact GH z)).1;rw [lr];simp only [cq]at ih⊢;exact⟨by omega,λu=>by omega⟩
theorem vA {s sub:Str} {c0:Nat} {w:List Nat} (hs:sub.cps.toList=c0::w) (hk:Builtin.Str.strKind sub=1) {ls:List (List Nat)} (h:ls≠ []) (hx: ∀x∈ls,c0∉x) (hS:s.cps.toList=jn (c0::w) ls):Txt.split s sub=ls.map λx=>(⟨x.toArray⟩:Str):=by
 have hm:sub.length=w.length+1:=by refine(?_:sub.cps.size=_);rw [<-iP,hs];rfl
 have hl:s.length=(jn (c0::w) ls).length:=by refine(?_:s.cps.size=_);rw [<-iP,hS]
 have hk2: ¬Builtin.Str.strKind s<Builtin.Str.strKind sub:=by
  rw [hk];delta Builtin.Str.strKind;split
  ·omega
  ·split<;>omega
 have g:=GA (c0:=c0) (w:=w) ls h;have oc:=yh hs h hx hS (limit:=s.length+1) (by rw [hl];omega);have one:ls.length=1-> [s]=ls.map λx=>(⟨x.toArray⟩:Str):=λz=>by
  refine cG (List.length_eq_one_iff.mp z) λx q=>?_;subst q;have:s=⟨x.toArray⟩:=by
   cases s with
   | mk a=>congr 1;apply u7;exact hS
  rw [this];rfl
 have cl:=uJ (w.length+1) ls 0 h;have pos:0<ls.length:=Gg.mpr h;delta Txt.split;split
 ·rename_i hc;simp only [Cg,pW]at hc;refine aP hc (λhc=>?_) λhc=>?_
  ·exact one (by
    refine aP (oh 1 ls.length) (λz=>?_) λz=>?_
    ·have:=g.2 z;omega
    ·omega)
  ·exact absurd hc hk2
 ·rw [oc];split
  ·rename_i hc;have:jR (w.length+1) 0 ls= []:=A4.mp hc;rw [this]at cl;exact one (by simp at cl;omega)
  ·delta partsBetween;rw [hm];exact vm ls [] h hS
theorem j7 (sep:Str): ∀(xs:List Str),(Txt.join sep xs).cps.toList=jn sep.cps.toList (xs.map λx=>x.cps.toList):=by
 intro aH;induction aH with
 | nil=>exact rfl
 | cons x xs ih=>
  have key: ∀(ys:List Str) (acc:Array Nat) (z:List Nat),acc.toList=z->(ys.foldl (λacc p=>acc++sep.cps++p.cps) acc).toList=jn sep.cps.toList (z::ys.map λx=>x.cps.toList):=by
   intro ys
   induction ys with
   | nil=>intro acc z h;exact h
   | cons y ys ih=>
    intro acc z h;rw [cW,ih (acc++sep.cps++y.cps) (z++sep.cps.toList++y.cps.toList) (by rw [Dl,Dl,h]),dj];cases ys with
    | nil=>rfl
    | cons u us=>refine(?_:(z++sep.cps.toList++y.cps.toList)++sep.cps.toList++jn _ _=z++sep.cps.toList++(y.cps.toList++sep.cps.toList++jn _ _));simp only [eX]
  delta Txt.join glued;exact key xs x.cps x.cps.toList rfl
theorem nU {sep:Str} {c0:Nat} {w:List Nat} (hs:sep.cps.toList=c0::w) (hk:Builtin.Str.strKind sep=1) {xs:List Str} (h:xs≠ []) (hx: ∀x∈xs,c0∉x.cps.toList):Txt.split (Txt.join sep xs) sep=xs:=by rw [vA hs hk (ls:=xs.map λx=>x.cps.toList) (by simpa using h) (λx hx'=>by refine kK (bM.mp hx') λy hy=>?_;exact hx y hy) (by rw [<-hs];exact j7 sep xs),dP];exact(pM λx u=>rfl).trans (wb _)
theorem yA (hs:sep.cps.toList=c0::w) (hp:c0∉p.cps.toList):Txt.partition (p++sep++v) sep=(p,sep,v):=by
 have hm:sep.length=w.length+1:=by refine(?_:sep.cps.size=_);rw [<-iP,hs];rfl
 have hS:(p++sep++v).cps.toList=p.cps.toList++sep.cps.toList++v.cps.toList:=by refine(?_:(p.cps++sep.cps++v.cps).toList=_);rw [Dl,Dl]
 have hl:(p++sep++v).length=p.length+sep.length+v.length:=by refine(?_:(p++sep++v).cps.size=_);rw [<-iP,hS,cS,cS];rfl
 have pl:p.cps.toList.length=p.length:=iP;have hit:StrLaws.At (p++sep++v) sep (p++sep++v).length p.length:=by refine⟨by rw [hl];omega,?_⟩;rw [StrLaws.subAt_eq,gJ,hS,<-pl,eX,List.drop_left];have:sep.length=sep.cps.toList.length:=iP.symm;rw [this,List.take_left]
 have no: ∀i,StrLaws.At (p++sep++v) sep (p++sep++v).length i->p.length<=i:=λi hi=>by
  refine aP (oh i p.length) (λz=>?_) λz=>?_
  ·have hc:=iC hs hi.2;rw [hS,eX,List.getElem?_append_left (by rw [pl];exact z)]at hc;exact absurd (ik hc) hp
  ·exact z
 delta Txt.partition;refine aP (StrLaws.occ_head (p++sep++v) sep 1 (bT 1)) (λu=>bI u λh0 hn=>?_) λq=>fq q λi r h0 hi hn=>?_
 ·exact absurd hit (hn _)
 ·have ei:i=p.length:=by
   refine aP (oh p.length i) (λz=>?_) λz=>?_
   ·exact absurd hit (hn _ z)
   ·exact Nat.le_antisymm z (no i hi)
  subst ei;rw [h0];have e1:strSub (p++sep++v) 0 p.length=p:=by have:=iE (s:=p++sep++v) (a:= []) (b:=p.cps.toList) (c:=sep.cps.toList++v.cps.toList) (by rw [hS,eX];rfl);rw [ip,oU,pl]at this;rw [this]
  have e2:strSub (p++sep++v) (p.length+sep.length) (p++sep++v).length=v:=by have:=iE (s:=p++sep++v) (a:=p.cps.toList++sep.cps.toList) (b:=v.cps.toList) (c:= []) (by rw [hS,iM]);rw [cS,pl,show sep.cps.toList.length=sep.length from iP,show v.cps.toList.length=v.length from iP]at this;rw [hl,this]
  refine(?_:(strSub _ 0 p.length,sep,strSub _ (p.length+sep.length) _)=_);rw [e1,e2]
noncomputable def cutAt (c:Nat):List Nat->List (List Nat)
 | []=> [[]]
 | a::l=>if a=c then []::cutAt c l else((a::(cutAt c l).headD [])::(cutAt c l).tail)
noncomputable def rp (c:Nat) (z l:List Nat):List Nat:=l.flatMap λa=>if a=c then z else [a]
theorem rU (c:Nat) (l:List Nat):cutAt c l≠ []:=by
 cases l with
 | nil=>exact λz=>by cases z
 | cons a l=>unfold cutAt;split<;>exact λz=>by cases z
theorem Ci (c:Nat): ∀(l:List Nat),∀x∈cutAt c l,c∉x:=by
 intro l
 induction l with
 | nil=>intro x hx;obtain rfl:=ju.mp hx;exact λz=>by cases z
 | cons a l ih=>
  intro x hx;unfold cutAt at hx;split at hx
  ·refine aP (cM.mp hx) (λv=>?_) λhx=>?_
   ·subst v;exact λz=>by cases z
   ·exact ih x hx
  ·rename_i ha;cases hc:cutAt c l with
   | nil=>exact absurd hc (rU c l)
   | cons p ps=>
    rw [hc]at hx ih;refine aP (cM.mp hx) (λu=>?_) λhx=>?_
    ·subst u;intro z;refine aP (cM.mp z) (λq=>?_) λz=>?_
     ·subst q;exact ha rfl
     ·exact ih p (.head _) z
    ·exact ih x (.tail _ hx)
theorem rZ (c:Nat) (z:List Nat): ∀(l:List Nat),jn z (cutAt c l)=rp c z l:=by
 intro l
 induction l with
 | nil=>rfl
 | cons a l ih=>
  unfold rp at ih⊢;rw [gj,<-ih,show cutAt c (a::l)=if a=c then []::cutAt c l else((a::(cutAt c l).headD [])::(cutAt c l).tail)from rfl];cases hc:cutAt c l with
  | nil=>exact absurd hc (rU c l)
  | cons p ps=>
   by_cases ha:a=c
   ·rw [aF ha,aF ha];rfl
   ·rw [ay ha,ay ha];cases ps<;>rfl
theorem GJ (c:Nat) (l:List Nat):rp c [c] l=l:=by
 delta rp
 induction l with
 | nil=>rfl
 | cons a l ih=>
  rw [gj,ih];split
  ·rename_i h;rw [h];rfl
  ·rfl
theorem DY {c:Nat} {z l:List Nat} {a:Nat} (h:a∈rp c z l):a∈z\/a∈l:=by
 delta rp at h;refine V.c12 (wL.mp h) λb hb h=>?_;split at h
 ·exact .inl h
 ·obtain rfl:=ju.mp h;exact .inr hb
theorem zy {x y:Str} {c:Nat} (hy:y.cps.toList=c:: []) (hk:Builtin.Str.strKind y=1):Txt.split x y=(cutAt c x.cps.toList).map λx=>(⟨x.toArray⟩:Str):=
 vA hy hk (rU c _) (Ci c _) (by rw [rZ,GJ])
noncomputable def yd (p:Str):Str:="/"++Txt.join "/" (((cutAt 47 (Txt.slice p (some 1) none).cps.toList).map λx=>(⟨x.toArray⟩:Str)).foldl dh [])
theorem BB (p:Str):gf p=yd p:=by delta gf GF yd;rw [zy (c:=47) (by decide+kernel) (by decide+kernel)]
noncomputable def sY (f:Str) (k:Int) (s:Str):Str:=f++"/"++F7 k++s
noncomputable def kX (f:Str):Str:=sY f 0 Str.empty
noncomputable def FJ (f g:Str) (kd:Int):Str:=fP (kX f) g kd
noncomputable def NN (d g t:Str):Bool:=(λj:Str=>decide (j.length<=400) && ((j.length:Int) !=0) && !(c1 j) && c2 j && (yd j==g)) (ej d t)
noncomputable def JA (kd:Int) (g:Str):Str:=if kd=0 then g else Txt.slice g (some 1) none
noncomputable def lP (d pre:Str) (kd:Int):Bool:=gU.all λf'=>bq.all λk=>pa.all λs=>NN d (sY f' k s) (pre++JA kd (sY f' k s))
noncomputable def kA (f:Str) (kd:Int):Str:=if kd=0 then "/.."else if kd=1 then Txt.mul "../" (Txt.count (kX f) "/" - 1)else "./"++Txt.mul "../" (Txt.count (kX f) "/" - 1+1)
theorem yp {f g:Str} {kd:Int} (hd:kd=0\/kd=1\/kd=2):FJ f g kd=kA f kd++JA kd g:=by
 rcases hd with rfl | rfl | rfl<;>rfl
theorem LK:lP "/" "/.." 0=true:=by decide+kernel
theorem K8:lP "/" "" 1=true:=by decide+kernel
theorem Kt:lP "/" "./../" 2=true:=by decide+kernel
theorem JP:lP "/x" "/.." 0=true:=by decide+kernel
theorem Kw:lP "/x" "../" 1=true:=by decide+kernel
theorem K4:lP "/x" "./../../" 2=true:=by decide+kernel
theorem J1:lP "/x/y" "/.." 0=true:=by decide+kernel
theorem JS:lP "/x/y" "../../" 1=true:=by decide+kernel
theorem Kc:lP "/x/y" "./../../../" 2=true:=by decide+kernel
theorem Ls:lP "/é" "/.." 0=true:=by decide+kernel
theorem LR:lP "/é" "../" 1=true:=by decide+kernel
theorem Lx:lP "/é" "./../../" 2=true:=by decide+kernel
theorem Fq {f f' s:Str} {k kd:Int} (hf:f∈gU) (hf':f'∈gU) (hk:k∈bq) (hs:s∈pa) (hd:kd=0\/kd=1\/kd=2):NN (dc (kX f)) (sY f' k s) (FJ f (sY f' k s) kd)=true:=by
 rw [yp hd];have h:lP (dc (kX f)) (kA f kd) kd=true:=by
  delta gU at hf;simp only [cM,List.not_mem_nil,or_false]at hf;rcases hf with rfl | rfl | rfl | rfl<;>rcases hd with rfl | rfl | rfl
  ·rw [show dc (kX "")="/" by decide+kernel,show kA "" 0="/.." by decide+kernel];exact LK
  ·rw [show dc (kX "")="/" by decide+kernel,show kA "" 1="" by decide+kernel];exact K8
  ·rw [show dc (kX "")="/" by decide+kernel,show kA "" 2="./../" by decide+kernel];exact Kt
  ·rw [show dc (kX "/x")="/x" by decide+kernel,show kA "/x" 0="/.." by decide+kernel];exact JP
  ·rw [show dc (kX "/x")="/x" by decide+kernel,show kA "/x" 1="../" by decide+kernel];exact Kw
  ·rw [show dc (kX "/x")="/x" by decide+kernel,show kA "/x" 2="./../../" by decide+kernel];exact K4
  ·rw [show dc (kX "/x/y")="/x/y" by decide+kernel,show kA "/x/y" 0="/.." by decide+kernel];exact J1
  ·rw [show dc (kX "/x/y")="/x/y" by decide+kernel,show kA "/x/y" 1="../../" by decide+kernel];exact JS
  ·rw [show dc (kX "/x/y")="/x/y" by decide+kernel,show kA "/x/y" 2="./../../../" by decide+kernel];exact Kc
  ·rw [show dc (kX "/é")="/é" by decide+kernel,show kA "/é" 0="/.." by decide+kernel];exact Ls
  ·rw [show dc (kX "/é")="/é" by decide+kernel,show kA "/é" 1="../" by decide+kernel];exact LR
  ·rw [show dc (kX "/é")="/é" by decide+kernel,show kA "/é" 2="./../../" by decide+kernel];exact Lx
 delta lP at h;rw [p6]at h;have h:=h f' hf';rw [p6]at h;have h:=h k hk;rw [p6]at h;exact h s hs
theorem oN {x y z:Str} {c:Nat} (hy:y.cps.toList=c:: []):(Txt.replace x y z).cps.toList=rp c z.cps.toList x.cps.toList:=by
 have ne:=rU c x.cps.toList;have hS:x.cps.toList=jn (c:: []) (cutAt c x.cps.toList):=by rw [rZ,GJ]
 have hl:x.length=(jn (c:: []) (cutAt c x.cps.toList)).length:=by rw [<-hS];exact iP.symm
 have hm:y.length=1:=by show y.cps.size=_;rw [<-iP,hy];rfl
 have oc:=yh hy ne (Ci c _) hS (limit:=x.length+1) (by have:=(GA (c0:=c) (w:= []) _ ne).1;omega);have cl:=uJ 1 (cutAt c x.cps.toList) 0 ne;delta Txt.replace;rw [oc,hm];split
 ·rename_i hc;have h0:jR 1 0 (cutAt c x.cps.toList)= []:=by
   rw [Cg]at hc;refine aP hc (λhc=>?_) λhc=>?_
   ·exact A4.mp hc
   ·rw [show((1:Nat)==0)=false from rfl,Bool.false_and]at hc;cases hc
  rw [h0]at cl;refine cG (List.length_eq_one_iff.mp cl.symm) λp hp=>?_;have e1:=rZ c z.cps.toList x.cps.toList;rw [hp]at e1 hS;rw [<-e1];exact hS
 ·have e0:partsBetween x (jR (([]:List Nat).length+1) 0 (cutAt c x.cps.toList)) 1=(cutAt c x.cps.toList).map λx=>(⟨x.toArray⟩:Str):=vm (cutAt c x.cps.toList) [] ne hS;rw [e0];exact(j7 z _).trans (by rw [dP];exact(dY (jn z.cps.toList) (wb _)).trans (rZ c _ _))
theorem u0 (v:Str):(esc v).cps.toList=rp 34 [92,34] (rp 92 [92,92] v.cps.toList):=by delta esc;rw [oN (c:=34) (by decide+kernel),oN (c:=92) (by decide+kernel)];rfl
theorem DH (a:Nat) (l:List Nat):rp 34 [92,34] (rp 92 [92,92] (a::l))=(if a=92 then [92,92]else if a=34 then [92,34]else [a])++rp 34 [92,34] (rp 92 [92,92] l):=by
 have e:rp 92 [92,92] (a::l)=(if a=92 then [92,92]else [a])++rp 92 [92,92] l:=by delta rp;rw [gj]
 have e2: ∀x y:List Nat,rp 34 [92,34] (x++y)=rp 34 [92,34] x++rp 34 [92,34] y:=λx y=>by delta rp;rw [List.flatMap_append]
 rw [e,e2]
 congr 1
 by_cases h:a=92
 ·subst h;rfl
 ·rw [ay h,ay h];delta rp;rw [gj];exact iM _
theorem j9 {a b:Str} (h:a.cps.toList=b.cps.toList):a=b:=by
 cases a;cases b;congr 1;exact u7 h
theorem dE (a b:Str):(a++b).cps.toList=a.cps.toList++b.cps.toList:=by refine(?_:(a.cps++b.cps).toList=_);rw [Dl]
theorem dK (a b c:Str):a++b++c=a++(b++c):=j9 (by simp only [dE,eX])
theorem empty_app (a:Str):Str.empty++a=a:=j9 (by rw [dE];rfl)
theorem qX (a:Str):a++Str.empty=a:=j9 (by rw [dE];exact iM _)
noncomputable def SG.sh (s:SG) (P:List Str) (p0:Str):SG:=⟨P,p0++s.part,s.marked,s.held,s.last⟩
theorem wt (s:SG) (c:Nat) (h:(s.step c).parts= []):s.parts= []:=by
 revert h
 delta SG.step;split
 ·exact id
 split
 ·exact id
 split
 ·exact id
 split
 ·intro h;have:=dY List.length h;simp at this
 ·exact id
theorem wi: ∀(xs:List Nat) (s:SG),(xs.foldl SG.step s).parts= []->s.parts= []:=by
 intro aH;induction aH with
 | nil=>intro u h;exact h
 | cons c xs ih=>intro s h;exact wt s c (ih _ h)
theorem E9 {s:SG} (P:List Str) (p0:Str) (h:(s.step c).parts= []):(s.sh P p0).step c=(s.step c).sh P p0:=by
 obtain⟨ps,pt,mk,hd,la⟩:=s
 revert h
 delta SG.step SG.sh;dsimp only;cases hd
 ·rw [ay dM,ay dM];by_cases h1:(ch c=="\\")=true
  ·rw [aF h1,aF h1];intro u;rfl
  ·rw [ay h1,ay h1];by_cases h2:(ch c=="\"")=true
   ·rw [aF h2,aF h2];intro u;simp only [dK]
   ·rw [ay h2,ay h2];by_cases h3:((ch c==";") && !mk)=true
    ·rw [aF h3];intro h;have:=dY List.length h;simp at this
    ·rw [ay h3,ay h3];intro u;simp only [dK]
 ·rw [aF rfl,aF rfl];intro u;simp only [dK]
theorem EO (P:List Str) (p0:Str): ∀(xs:List Nat) (s:SG),(xs.foldl SG.step s).parts= []->xs.foldl SG.step (s.sh P p0)=(xs.foldl SG.step s).sh P p0:=by
 intro aH;induction aH with
 | nil=>intro u v;exact rfl
 | cons c xs ih=>intro s h;rw [cW,E9 P p0 (wi xs _ h),ih _ h];rfl
noncomputable def ua (pc r:Str):Prop:= ∀(P:List Str) (p:Str) (l:Option Nat),∃l',pc.cps.toList.foldl SG.step ⟨P,p,false,false,l⟩=⟨P,p++r,false,false,l'⟩
theorem Dm (xs:List Nat): ∀(s:SG) (l:Option Nat),∃l',xs.foldl SG.step {s with last:=l}={xs.foldl SG.step s with last:=l'}:=by
 induction xs with
 | nil=>intro s l;exact⟨l,rfl⟩
 | cons c xs ih=>
  intro s l;refine⟨(xs.foldl SG.step (s.step c)).last,?_⟩;have e:SG.step {s with last:=l} c=s.step c:=by delta SG.step;dsimp only
  rw [cW,cW,e]
theorem ud {xs:List Nat} {m m':Bool} (h:(λs:SG=>s.parts.isEmpty && (s.part==r) && (s.marked==m') && !s.held) (xs.foldl SG.step ⟨[],Str.empty,m,false,none⟩)=true) (P:List Str) (p:Str) (l:Option Nat):
  ∃l',xs.foldl SG.step ⟨P,p,m,false,l⟩=⟨P,p++r,m',false,l'⟩:=by
 have h:((xs.foldl SG.step ⟨[],Str.empty,m,false,none⟩).parts.isEmpty && ((xs.foldl SG.step ⟨[],Str.empty,m,false,none⟩).part==r) && ((xs.foldl SG.step ⟨[],Str.empty,m,false,none⟩).marked==m') && !(xs.foldl SG.step ⟨[],Str.empty,m,false,none⟩).held)=true:=h;simp only [mz,gJ,BP,A4]at h;refine bI h λq h4=>bI q λz h3=>bI z λh1 h2=>?_;have key:=EO P p xs ⟨[],Str.empty,m,false,none⟩ h1;refine cG (Dm xs ⟨P,p,m,false,none⟩ l) λl' hl=>⟨l',hl.trans ?_⟩;have e0:(⟨P,p,m,false,none⟩:SG)=(⟨[],Str.empty,m,false,none⟩:SG).sh P p:=by delta SG.sh;dsimp only;rw [qX]
 rw [e0,key];delta SG.sh;dsimp only;rw [h2,h3,h4]
theorem Ko: ∀(l:List (Str×Str)) (P:List Str) (p:Str) (la:Option Nat),l≠ []->(∀x∈l,ua x.1 x.2)->
  (λs:SG=>s.parts++ [s.part]) ((jn (Str.ofString "; ").cps.toList (l.map λx=>x.1.cps.toList)).foldl SG.step ⟨P,p,false,false,la⟩)=P++(match l.map (·.2)with | []=> [] | r::rest=>(p++r)::rest.map λx=>sp++x):=by
 intro aH;induction aH with
 | nil=>intro u v w h g;exact absurd rfl h
 | cons x l₁ ih=>
  cases l₁ with
  | nil=>intro P p la u h;refine cG (h x (.head _) P p la) λl' e=>(?_:(λs:SG=>s.parts++ [s.part]) (x.1.cps.toList.foldl SG.step _)=_);rw [e];rfl
  | cons y r=>
   intro P p la u h;refine cG (h x (.head _) P p la) λl' e=>?_;refine(?_:(λs:SG=>s.parts++ [s.part]) ((x.1.cps.toList++(Str.ofString "; ").cps.toList++jn _ ((y::r).map λx=>x.1.cps.toList)).foldl SG.step _)=_);rw [tU,tU,e];have e2:(Str.ofString "; ").cps.toList.foldl SG.step ⟨P,p++x.2,false,false,l'⟩=⟨P++ [p++x.2],sp,false,false,some 32⟩:=by
    have:(Str.ofString "; ").cps.toList= [59,32]:=by decide+kernel
    rw [this];rw [cW,cW,yS];have s1:SG.step ⟨P,p++x.2,false,false,l'⟩ 59=⟨P++ [p++x.2],Str.ofString "",false,false,some 59⟩:=by delta SG.step;dsimp only;rw [ay dM,ay (by decide+kernel),ay (by decide+kernel),aF (by decide+kernel)]
    rw [s1];delta SG.step;dsimp only;rw [ay dM,ay (by decide+kernel),ay (by decide+kernel),ay (by decide+kernel)];have:Str.ofString ""++ch 32=sp:=by decide+kernel
    rw [this]
   rw [e2,ih (P++ [p++x.2]) sp (some 32) (λz=>by exact GH z) (λz hz=>h z (.tail _ hz)),eX];rfl
theorem xn {l:List (Str×Str)} (h: ∀x∈l,ua x.1 x.2):signs (Txt.join "; " (l.map (·.1)))=jK (l.map (·.2)):=by
 delta signs;rw [j7,dP];cases l with
 | nil=>rfl
 | cons x r=>refine(Ko (x::r) [] "" none (λz=>by exact GH z) h).trans ?_;refine(?_:(""++x.2)::_=x.2::_);have:""++x.2=x.2:=empty_app x.2;rw [this]
theorem jM (hs:sep.cps.toList=c0::w) (h:c0∉x.cps.toList):Txt.contains x sep=false:=by
 delta Txt.contains;refine aP (StrLaws.occ_head x sep 1 (bT 1)) (λz=>bI z λh0 _=>?_) λq=>fq q λi r h0 hi _=>?_
 ·rw [h0];rfl
 ·exact absurd (ik (iC hs hi.2)) h
theorem sx (hs:sep.cps.toList=c0::w) (hp:c0∉p.cps.toList):Txt.contains (p++sep++v) sep=true:=by
 have h:=yA (v:=v) hs hp;unfold Txt.contains;unfold Txt.partition at h;cases ho:occurrences (p++sep++v) sep 0 (p++sep++v).length 1 with
 | nil=>rw [ho]at h;have:=dY (λz:Str×Str×Str=>z.2.1.cps.toList) h;simp only [hs]at this;exact H5 this
 | cons=>rfl
theorem lU:nl.cps.toList=10:: []:=by decide+kernel
theorem D6 {a t:Str} (ha:10∉a.cps.toList) (ht:10∉t.cps.toList):Txt.split (a++nl++t++nl) nl= [a,t,Str.empty]:=by
 have e:a++nl++t++nl=Txt.join nl [a,t,Str.empty]:=j9 (by
  rw [j7];simp only [dE];refine(?_:_=a.cps.toList++nl.cps.toList++(t.cps.toList++nl.cps.toList++ []));simp only [eX,iM])
 rw [e];refine nU lU (by decide+kernel) (λz=>by exact GH z) λx hx=> ?_;rcases cM.mp hx with rfl | hx
 ·exact ha
 refine aP (cM.mp hx) (λq=>?_) λhx=>?_
 ·subst q;exact ht
 ·obtain rfl:=ju.mp hx;decide
theorem LQ {t:Str} (h:t.cps.all nO=true) {c:Nat} (hc:nO c=false):c∉t.cps.toList:=λhm=>by rw [pP]at h;have:=h c (nC.mp hm);rw [hc]at this;exact tK this
theorem i9 (h:t.cps.all (λc=>decide (c<256))=true):PyData.strOk t=true:=by delta PyData.strOk;rw [pP]at h⊢;intro c hc;have:=jB (h c hc);exact lT (by omega)
noncomputable def pD (c:Nat):Bool:=nO c && decide (c<256)
noncomputable def JC (p:Str):Int:=(([97,98,99,65,66,67]:List Nat).idxOf ((p.cps.toList.reverse.takeWhile (· !=47)).getLastD 0):Nat)
noncomputable def Lq (f:Str) (k:Int) (s:Str):Bool:=
 (λp:Str=>decide (0<p.length) && decide (p.length<=40) && p.cps.all pD && p.cps.all (· !=58) && (Txt.count p "/"==Txt.count (kX f) "/") && decide (0<=Txt.count p "/") && decide (Txt.count p "/"<100) && (dc p==dc (kX f)) && decide ((dc p).length<=200) && (JC p==k) && (Txt.slice p (some 1) none).cps.all pD && decide ((Txt.slice p (some 1) none).length<=40) && decide (0<(Txt.slice p (some 1) none).length)) (sY f k s)
theorem Ga:(gU.all λf=>bq.all λk=>pa.all λs=>Lq f k s)=true:=by decide+kernel
structure Hw (f:Str) (k:Int) (p:Str):Prop where
 ln:p.length<=40
 ok:p.cps.all pD=true
 PD:58∉p.cps.toList
 cn:Txt.count p "/"=Txt.count (kX f) "/"
 c0:0<=Txt.count p "/"
 c9:Txt.count p "/"<100
 dn:dc p=dc (kX f)
 dl:(dc p).length<=200
 kk:JC p=k
 so:(Txt.slice p (some 1) none).cps.all pD=true
 sl:(Txt.slice p (some 1) none).length<=40
 sp:0<(Txt.slice p (some 1) none).length
 gp:0<p.length
theorem Bz (hf:f∈gU) (hk:k∈bq) (hs:s∈pa):Hw f k (sY f k s):=by
 have h:=Ga;rw [p6]at h;have h:=h f hf;rw [p6]at h;have h:=h k hk;rw [p6]at h;have h:=h s hs;unfold Lq at h
 revert h
 generalize sY f k s=p;intro h;simp only [mz,pW,gJ]at h;refine bI h λq o=>bI q λz n=>bI z λu m=>bI u λv l=>bI v λw j=>bI w λy i=>bI y λt g=>bI t λr e=>bI r λx d=>bI x λq0 c=>bI q0 λq1 b=>bI q1 λa0 a=>⟨a,b,λhm=> ?_,d,e,g,i,j,l,m,n,o,a0⟩;rw [pP]at c;have:=c 58 (nC.mp hm);simp at this
theorem fg {t:Str} {P Q:Nat->Bool} (h:t.cps.all P=true) (i: ∀c,P c=true->Q c=true):t.cps.all Q=true:=by rw [pP]at h⊢;exact λc hc=>i c (h c hc)
theorem yJ (c:Nat) (h:pD c=true):nO c=true:=by delta pD at h;rw [mz]at h;exact h.1
theorem vH (c:Nat) (h:pD c=true):decide (c<256)=true:=by delta pD at h;rw [mz]at h;exact h.2
theorem jy {a b:Str} {P:Nat->Bool} (h1:a.cps.all P=true) (h2:b.cps.all P=true):(a++b).cps.all P=true:=by
 rw [pP]at h1 h2⊢;intro c hc;have hc:=nC.mpr hc;rw [dE,cu]at hc;refine aP hc (λhc=>?_) λhc=>?_
 ·exact h1 c (nC.mp hc)
 ·exact h2 c (nC.mp hc)
theorem Hv: ∀(ls:List (List Nat)) (c:Nat),c∈jn sep ls->c∈sep\/ ∃x∈ls,c∈x:=by
 intro aH;induction aH with
 | nil=>
  intro u h;exact by exact je h
 | cons x l₁ ih=>
  cases l₁ with
  | nil=>intro c h;exact .inr ⟨x,.head _,h⟩
  | cons y r=>
   intro c h;have h:c∈x++sep++jn sep (y::r):=h;refine aP (cu.mp h) (λh=>?_) λh=>?_
   ·refine aP (cu.mp h) (λh=>?_) λh=>?_
    ·exact .inr ⟨x,.head _,h⟩
    ·exact .inl h
   ·refine aP (ih c h) (λh=>?_) λq=>V.c12 q λz hz h=>?_
    ·exact .inl h
    ·exact .inr ⟨z,.tail _ hz,h⟩
theorem vR {P:Nat->Bool} (h1:sep.cps.all P=true) (h2: ∀x∈xs,x.cps.all P=true):(Txt.join sep xs).cps.all P=true:=by
 rw [pP]at h1⊢;intro c hc;have hc:=nC.mpr hc;rw [j7]at hc;refine aP (Hv _ c hc) (λh=>?_) λu=>V.c12 u λz hz h=>?_
 ·exact h1 c (nC.mp h)
 ·refine V.c12 (bM.mp hz) λx hx q=>?_;subst q;have:=h2 x hx;rw [pP]at this;exact this c (nC.mp h)
structure sZ (f g t:Str):Prop where
 ln:t.length<=60
 ps:0<t.length
 ok:t.cps.all pD=true
 es:(esc t).cps.all pD=true
 sg: ∀(P:List Str) (p:Str) (l:Option Nat),∃l',(esc t++"\"").cps.toList.foldl SG.step ⟨P,p,true,false,l⟩=⟨P,p++(t++nl),false,false,l'⟩
 jl:(ej (dc (kX f)) t).length<=400
 jp:(((ej (dc (kX f)) t).length:Int) !=0)=true
 j1:c1 (ej (dc (kX f)) t)=false
 j2:c2 (ej (dc (kX f)) t)=true
 to:gf (ej (dc (kX f)) t)=g
theorem OU:"\\"=ch 92:=by decide+kernel
theorem NV:"\""=ch 34:=by decide+kernel
theorem E5 (P:List Str): ∀(l:List Nat) (p:Str) (la:Option Nat),∃l',(rp 34 [92,34] (rp 92 [92,92] l)).foldl SG.step ⟨P,p,true,false,la⟩=⟨P,p++⟨l.toArray⟩,true,false,l'⟩:=by
 intro aH;induction aH with
 | nil=>intro p la;exact⟨la,by refine(?_:(⟨P,p,true,false,la⟩:SG)=⟨P,p++Str.empty,true,false,la⟩);rw [qX]⟩
 | cons a l ih=>
  intro p la;refine cG (ih (p++ch a) (some a)) λl' e=>⟨l',?_⟩;have e1:(if a=92 then [92,92]else if a=34 then [92,34]else [a]).foldl SG.step ⟨P,p,true,false,la⟩=⟨P,p++ch a,true,false,some a⟩:=by
   have Ot:SG.step ⟨P,p,true,false,la⟩ 92=⟨P,p,true,true,some 92⟩:=by delta SG.step;dsimp only;rw [ay dM,aF (by decide+kernel)]
   by_cases h:a=92
   ·subst h;rw [aF rfl,cW,Ot,cW,yS];delta SG.step;dsimp only;rw [aF rfl,aF (by decide+kernel)]
   ·rw [ay h];by_cases h2:a=34
    ·subst h2;rw [aF rfl,cW,Ot,cW,yS];delta SG.step;dsimp only;rw [aF rfl,aF (by decide+kernel)]
    ·rw [ay h2,cW,yS];have n: ∀b:Nat,a≠b->(ch a==ch b)=false:=λb hb=>by rw [tr];exact λz=>hb (dY (λx:Str=>x.cps.toList.headD 0) z)
     have h1:(ch a=="\\")=false:=(dY (λz=>ch a==z) OU).trans (n 92 h);have h3:(ch a=="\"")=false:=(dY (λz=>ch a==z) NV).trans (n 34 h2);delta SG.step;dsimp only;rw [ay dM,h1,ay dM,h3,ay dM,ay (by rw [show(!true)=false from rfl,Bool.and_false];exact dM)]
  rw [DH,tU,e1,e]
  congr 1
  exact j9 (by simp only [dE];exact eX _ _ _)
theorem Iw: ∀f∈gU,∀kd∈([0,1,2]:List Int),(kA f kd).cps.all pD=true/\(kA f kd).length<=15:=by decide+kernel
theorem IS (h:t.cps.all pD=true):(esc t).cps.all pD=true:=by
 rw [pP]at h⊢;intro c hc;have hc:=nC.mpr hc;rw [u0]at hc;have k2: ∀c∈ [92,34],pD c=true:=by decide
 have k3: ∀c∈ [92,92],pD c=true:=by decide
 refine aP (DY hc) (λz=>?_) λz=>?_
 ·exact k2 c z
 ·refine aP (DY z) (λz=>?_) λz=>?_
  ·exact k3 c z
  ·exact h c (nC.mp z)
theorem xP (a b:Str):(a++b).length=a.length+b.length:=by refine(?_:(a++b).cps.size=a.cps.size+b.cps.size);rw [<-iP,<-iP,<-iP,dE,cS]
theorem OJ:(Str.ofString "\"").cps.toList= [34]:=by decide+kernel
theorem HY (P:List Str) (p:Str) (la:Option Nat):SG.step ⟨P,p,true,false,la⟩ 34=⟨P,p++nl,false,false,some 34⟩:=by delta SG.step;dsimp only;rw [ay dM,ay (by decide+kernel),aF (by decide+kernel)];rfl
theorem FR (t:Str) (P:List Str) (p:Str) (la l':Option Nat) (e:(rp 34 [92,34] (rp 92 [92,92] t.cps.toList)).foldl SG.step ⟨P,p,true,false,la⟩=⟨P,p++t,true,false,l'⟩):(esc t++"\"").cps.toList.foldl SG.step ⟨P,p,true,false,la⟩=⟨P,p++(t++nl),false,false,some 34⟩:=by rw [dE,u0,tU,e,OJ,cW,yS,HY,dK]
theorem Ku (hf:f∈gU) (hf':f'∈gU) (hk:k∈bq) (hs:s∈pa) (hd:kd=0\/kd=1\/kd=2):sZ f (sY f' k s) (FJ f (sY f' k s) kd):=by
 have hJ:=Fq hf hf' hk hs hd;have G:=Bz hf' hk hs;refine bI (Iw f hf kd (by rcases hd with rfl | rfl | rfl<;>simp)) λp1 p2=>?_;have tl:(JA kd (sY f' k s)).cps.all pD=true/\(JA kd (sY f' k s)).length<=40/\0<(JA kd (sY f' k s)).length:=by
  delta JA;split
  ·exact m9 G.ok G.ln G.gp
  ·exact m9 G.so G.sl G.sp
 have et:=yp (f:=f) (g:=sY f' k s) hd;have ok:(FJ f (sY f' k s) kd).cps.all pD=true:=by rw [et];exact jy p1 tl.1
 have ln2:(FJ f (sY f' k s) kd).length<=60:=by rw [et,xP];exact bU (Nat.add_le_add p2 tl.2.1) (by decide)
 have ps:0<(FJ f (sY f' k s) kd).length:=by rw [et,xP];exact sP tl.2.2 (Nat.le_add_left _ _)
 revert hJ ok ln2 ps
 generalize FJ f (sY f' k s) kd=t;intro hJ ok ln2 ps;have hJ:(decide ((ej (dc (kX f)) t).length<=400) && (((ej (dc (kX f)) t).length:Int) !=0) && !(c1 (ej (dc (kX f)) t)) && c2 (ej (dc (kX f)) t) && (yd (ej (dc (kX f)) t)==sY f' k s))=true:=hJ;simp only [mz,pW,gJ,BP]at hJ;refine bI hJ λq n=>bI q λz m=>bI z λu l=>bI u λi j=>?_;clear hJ;refine⟨ln2,ps,ok,IS ok,λP p la=> ?_,i,j,l,m,(BB _).trans n⟩;refine cG (E5 P t.cps.toList p la) λl' e=>?_;rw [show(⟨t.cps.toList.toArray⟩:Str)=t from j9 rfl]at e;exact⟨some 34,FR t P p la l' e⟩
noncomputable def Cu:List (Str×Str):= [(tN,Ew),(AG,Jv)]
noncomputable def Jt (q:Int) (texts:List Str):List (Str×Str):=(fR q).map (λx=>(x,x))++(Cu.zip texts).map (λp=>(fv (p.1.1,some p.2),p.1.2++p.2++nl))++(if bit (q.fdiv 2)then [(fv (gM,if bit (q.fdiv 4)then some Str.empty else none),gX)]else [])
theorem DL (h:texts.length<=2):(Cu.zip texts).map (λp=>fv (p.1.1,some p.2))=(mf texts).map fv/\(Cu.zip texts).map (λp=>p.1.2++p.2++nl)=qL texts:=by
 rcases texts with _ | ⟨a,_ | ⟨b,_ | ⟨c,r⟩⟩⟩
 ·exact⟨rfl,rfl⟩
 ·exact⟨rfl,rfl⟩
 ·exact⟨rfl,rfl⟩
 ·simp at h
theorem Ir (q:Int):fR q=(eC q).toList:=by delta fR eC;split<;>rfl
theorem yK (h:texts.length<=2):(Jt q texts).map (·.1)=(eC q).toList++(fV q texts).map fv:=by
 delta Jt fV;rw [e9,e9,dP,dP,e9,<-(DL h).1,<-Ir,eX]
 congr 1
 ·exact wb _
 ·congr 1
  split<;>rfl
theorem Ez (h:texts.length<=2):(Jt q texts).map (·.2)=iL q texts:=by
 delta Jt iL;rw [e9,e9,dP,dP,<-(DL h).2]
 congr 1
 ·congr 1
  exact wb _
 ·split<;>rfl
theorem mI (h:x∈fR q):x=Str.empty\/x=own1:=by
 delta fR at h;split at h
 ·obtain rfl:=ju.mp h;split
  ·exact .inl rfl
  ·exact .inr rfl
 ·exact je h
theorem AX:ua Str.empty Str.empty:=λP p l=>ud (m:=false) (m':=false) (by decide+kernel) P p l
theorem Io:ua own1 own1:=λP p l=>ud (m:=false) (m':=false) (by decide+kernel) P p l
theorem Iu:ua (fv (gM,none)) gX:=λP p l=>ud (m:=false) (m':=false) (by decide+kernel) P p l
theorem HG:ua (fv (gM,some Str.empty)) gX:=λP p l=>ud (m:=false) (m':=false) (by decide+kernel) P p l
theorem Bm (h:0<t.length):fv (b,some t)=(pj b++"=\"")++(esc t++"\""):=by refine(?_:uB (pj b) t=_);delta uB;rw [aF (lT (by omega))];simp only [dK]
theorem EC: ∀x∈Cu,(λs:SG=>s.parts.isEmpty && (s.part==x.2) && (s.marked==true) && !s.held) ((pj x.1++"=\"").cps.toList.foldl SG.step ⟨[],Str.empty,false,false,none⟩)=true:=by decide+kernel
theorem Lo (T:sZ f g t) (hx:x∈Cu):ua (fv (x.1,some t)) (x.2++t++nl):=by intro P p l;rw [Bm T.ps,dE,tU];refine cG (ud (m:=false) (m':=true) (r:=x.2) (EC x hx) P p l) λl1 e1=>cG (T.sg P (p++x.2) l1) λl2 e2=>?_;rw [e1,e2];exact⟨l2,by simp only [dK]⟩
theorem AS (h: ∀t∈texts,∃f g,sZ f g t): ∀x∈Jt q texts,ua x.1 x.2/\x.1.cps.all pD=true:=by
 intro x hx;delta Jt at hx;refine aP (cu.mp hx) (λhx=>?_) λhx=>?_
 ·refine aP (cu.mp hx) (λhx=>?_) λhx=>?_
  ·refine kK (bM.mp hx) λy hy=>aP (mI hy) (λw=>?_) λv=>?_
   ·subst w;exact⟨AX,by decide+kernel⟩
   ·subst v;exact⟨Io,by decide+kernel⟩
  ·refine kK (bM.mp hx) λz hy=>?_;rcases z with⟨y,t⟩
   refine bI (vq hy) λh1 h2=>V.c21 (h t h2) λf g T=>⟨Lo T h1,?_⟩;refine(?_:(fv (y.1,some t)).cps.all pD=true);rw [Bm T.ps];have k1: ∀x∈Cu,(pj x.1++"=\"").cps.all pD=true:=by decide+kernel
   exact jy (k1 y h1) (jy T.es (by decide+kernel))
 ·split at hx
  ·obtain rfl:=ju.mp hx;split
   ·exact⟨HG,by decide+kernel⟩
   ·exact⟨Iu,by decide+kernel⟩
  ·exact je hx
theorem GL (q:Int):(q.fmod 3=0\/q.fmod 3=1\/q.fmod 3=2)/\(q.fmod 3).fmod 3=q.fmod 3:=by
 refine V.c12 (k8 (q:=q) (m:=3) (by decide)) λf hf e=>?_;have e:q.fmod 3=(f:Int):=e;rw [e];have:f=0\/f=1\/f=2:=by omega+splitDisjunctions
 rcases this with rfl | rfl | rfl<;>exact⟨by decide,by decide⟩
theorem Ki (h:Hw f k p):fP p g q=FJ f g (q.fmod 3):=by delta FJ fP;rw [h.cn,(GL q).2]
theorem lG (nA:Int->Int) (hk:k∈bq):Hw (Hj (nA k)) k (jH nA k):=Bz (rC _) hk (xd _)
theorem CJ (nA:Int->Int) (hk:k∈bq) (hj:j∈bq):sZ (Hj (nA k)) (jH nA j) (fP (jH nA k) (jH nA j) q):=by rw [Ki (lG nA hk)];exact Ku (rC _) (rC _) hj (xd _) (GL q).1
theorem GS (h:i∈ix n):i.toNat<n:=by delta ix at h;refine kK (bM.mp h) λj hj=>?_;rw [zG]at hj;rw [tS];exact hj
theorem Ho {α:Type} (l:List Int) (f:Int->α):(ix l.length).map (λi=>f (l[i.toNat]?.getD 0))=l.map f:=by
 delta ix;rw [dP];apply List.ext_getElem
 ·simp
 ·intro i h1 h2;simp only [List.getElem_map,List.getElem_range,Function.comp];have hi:i<l.length:=by simpa using h2
  rw [tS,ng hi];rfl
section
variable (nA:Int->Int) {k:Int}
theorem BU:(vt nA k).length<=2:=by delta vt ix;rw [bw,bw,AZ];exact nS _
theorem sJ (hk:k∈bq) (h:t∈vt nA k): ∃g,sZ (Hj (nA k)) g t:=by
 delta vt at h;refine kK (bM.mp h) λi hi=>?_;have hl:=GS hi;have hj:(tM nA k)[i.toNat]?.getD 0∈bq:=by rw [ng hl];exact pd _ _ (List.getElem_mem hl)
 exact⟨_,CJ nA hk hj⟩
theorem KS (hk:k∈bq):(vt nA k).map (λt=>gf (ej (dc (jH nA k)) t))=(tM nA k).map (jH nA):=by
 delta vt;rw [dP,<-Ho (tM nA k) (jH nA)];refine pM λi hi=> ?_;have hl:=GS hi;have hj:(tM nA k)[i.toNat]?.getD 0∈bq:=by rw [ng hl];exact pd _ _ (List.getElem_mem hl)
 have T:=CJ nA (q:=(nA k).fdiv 3136+i) hk hj;refine(?_:gf (ej (dc (jH nA k)) (fP _ _ _))=_);rw [(lG nA hk).dn];exact T.to
end
theorem mD (hl:texts.length<=2) (h:r∈iL q texts):(r=Str.empty\/r=own1\/r=gX)\/ ∃x∈Cu,∃t∈texts,r=x.2++t++nl:=by
 delta iL at h;refine aP (cu.mp h) (λh=>?_) λh=>?_
 ·refine aP (cu.mp h) (λh=>?_) λh=>?_
  ·refine aP (mI h) (λw=>?_) λv=>?_
   ·subst w;exact .inl (.inl rfl)
   ·subst v;exact .inl (.inr (.inl rfl))
  ·rw [<-(DL hl).2]at h;refine kK (bM.mp h) λp hp=>?_;obtain⟨a,t⟩:=p;have z:=vq hp;exact .inr ⟨a,z.1,t,z.2,rfl⟩
 ·split at h
  ·obtain rfl:=ju.mp h;exact .inl (.inr (.inr rfl))
  ·exact je h
theorem o7 (h:x∈jK R):x=Str.empty\/ ∃r∈R,∃u∈ [Str.empty,sp],x=u++r:=by
 cases R with
 | nil=>exact .inl (ju.mp h)
 | cons r rest=>
  refine aP (cM.mp h) (λz=>?_) λh=>?_
  ·subst z;exact .inr ⟨x,.head _,Str.empty,.head _,(empty_app x).symm⟩
  ·refine kK (bM.mp h) λy hy=>.inr ⟨y,.tail _ hy,sp,.tail _ (.head _),rfl⟩
noncomputable def Mv (b:Str):Str:=⟨b.cps.extract 0 5⟩
theorem Ii: ∀b∈Cu,∀u∈ [Str.empty,sp],u++b.2=(u++Mv b.2)++nl/\(u++Mv b.2).cps.all (· !=10)=true/\(u++b.2).cps.all (λc=>decide (c<256))=true/\(u++b.2).length<=10:=by decide+kernel
theorem Ih: ∀r∈ [Str.empty,own1,gX],∀u∈ [Str.empty,sp],(u++r).cps.all (· !=10)=true/\(u++r).cps.all (λc=>decide (c<256))=true/\(u++r).length<=20:=by decide+kernel
theorem A9 {t:Str} (h:t.cps.all (· !=10)=true):10∉t.cps.toList:=λhm=>by rw [pP]at h;have:=h 10 (nC.mp hm);simp at this
theorem kg {f g t:Str} (T:sZ f g t) {b:Str×Str} (hb:b∈Cu) {u:Str} (hu:u∈ [Str.empty,sp]):Txt.contains (u++(b.2++t++nl)) nl=true/\Txt.split (u++(b.2++t++nl)) nl= [u++Mv b.2,t,Str.empty]/\(u++(b.2++t++nl)).length<=100/\PyData.strOk (u++(b.2++t++nl))=true:=by
 refine kD (Ii b hb u hu) λe h1 h2 h3=>?_;have n1:=A9 h1;have n2:=LQ (fg T.ok yJ) (c:=10) (by decide);have ee:u++(b.2++t++nl)=(u++Mv b.2)++nl++t++nl:=by rw [<-e];simp only [dK]
 refine tI ?_ ?_ ?_ ?_
 ·rw [ee,dK _ t nl];exact sx lU n1
 ·rw [ee];exact D6 n1 n2
 ·have:V.B ((u++b.2)++t++nl) (10+60+1):=fQ (fQ h3 T.ln) (iV rfl);rw [show u++(b.2++t++nl)=(u++b.2)++t++nl by simp only [dK]];exact bU this (by decide)
 ·rw [show u++(b.2++t++nl)=(u++b.2)++t++nl by simp only [dK]];exact i9 (jy (jy h2 (fg T.ok vH)) (by decide+kernel))
theorem km {r:Str} (hr:r=Str.empty\/r=own1\/r=gX) {u:Str} (hu:u∈ [Str.empty,sp]):Txt.contains (u++r) nl=false/\(u++r).length<=100/\PyData.strOk (u++r)=true:=by
 have hm:r∈ [Str.empty,own1,gX]:=by rcases hr with rfl | rfl | rfl<;>simp
 refine nM (Ih r hm u hu) λh1 h2 h3=>m9 (jM lU (A9 h1)) (bU h3 (by decide)) (i9 h2)
theorem B0 (h: ∀r∈R,Txt.contains (sp++r) nl=Txt.contains r nl/\(Txt.contains r nl=true->tg path (sp++r)=tg path r)):kq path (jK R)=(R.filter λx=>Txt.contains x nl).map (tg path):=by
 delta kq;cases R with
 | nil=>refine(?_:List.map _ (List.filter _ [Str.empty])=_);have:Txt.contains Str.empty nl=false:=jM lU (by decide);rw [pY,ay (by rw [this];decide)]
 | cons r rest=>
  have e: ∀l:List Str,(∀x∈l,x∈r::rest)->((l.map λp=>sp++p).filter λx=>Txt.contains x nl).map (tg path)=(l.filter λx=>Txt.contains x nl).map (tg path):=by
   intro l
   induction l with
   | nil=>intro u;rfl
   | cons x l ih=>
    intro hl;have ih:=ih λy hy=>hl y (.tail _ hy);refine bI (h x (hl x (.head _))) λa b=>?_;rw [dj,pY,pY,a];cases hc:Txt.contains x nl with
    | false=>rw [ay dM,ay dM];exact ih
    | true=>rw [aF rfl,aF rfl,dj,dj,ih,b hc]
  refine(?_:List.map _ (List.filter _ (r::rest.map λp=>sp++p))=_);rw [pY,pY];cases hc:Txt.contains r nl with
  | false=>rw [ay dM,ay dM];exact e rest λy hy=> .tail _ hy
  | true=>rw [aF rfl,aF rfl,dj,dj,e rest λy hy=> .tail _ hy]
theorem xO (T:sZ f g t) (hb:b∈Cu) (hu:u∈ [Str.empty,sp]) (path:Str):tx (u++(b.2++t++nl))=t/\tg path (u++(b.2++t++nl))=gf (ej (dc path) t):=by
 have e:tx (u++(b.2++t++nl))=t:=by delta tx;rw [(kg T hb hu).2.1];rfl
 exact⟨e,by delta tg;rw [e]⟩
theorem yT (hl:texts.length<=2) (h: ∀t∈texts,∃f g,sZ f g t):kq path (partsOf q texts)=texts.map λt=>gf (ej (dc path) t):=by
 delta partsOf;rw [B0]
 ·delta iL;rw [CI,CI];have e1:(fR q).filter (λx=>Txt.contains x nl)= []:=by rw [zK];intro x hx z;have:=(km (r:=x) (u:=Str.empty) (by refine aP (mI hx) (λh=>?_) λh=>?_<;>simp [h]) (.head _)).1;rw [empty_app,z]at this;exact zi this
  have e3:(if bit (q.fdiv 2)then [gX]else []).filter (λx=>Txt.contains x nl)= []:=by
   split
   ·rw [zK];intro x hx z;obtain rfl:=ju.mp hx;have:=(km (r:=gX) (u:=Str.empty) (.inr (.inr rfl)) (.head _)).1;rw [empty_app,z]at this;exact zi this
   ·rfl
  have e2:(qL texts).filter (λx=>Txt.contains x nl)=qL texts:=by rw [Cv];intro x hx;rw [<-(DL hl).2]at hx;refine kK (bM.mp hx) λp hp=>?_;have z:=vq (a:=p.1) (b:=p.2) hp;refine V.c21 (h p.2 z.2) λf g T=>?_;have:=(kg T z.1 (u:=Str.empty) (.head _)).1;rw [empty_app]at this;exact this
  rw [e1,e2,e3,kR,iM,<-(DL hl).2,dP];have e4: ∀p∈Cu.zip texts,(tg path ∘ λp=>p.1.2++p.2++nl) p=gf (ej (dc path) p.2):=λp hp=>by have z:=vq (a:=p.1) (b:=p.2) hp;refine V.c21 (h p.2 z.2) λf g T=>?_;have:=(xO T z.1 (u:=Str.empty) (.head _) path).2;rw [empty_app]at this;exact this
  rw [pM e4];rcases texts with _ | ⟨a,_ | ⟨b,_ | ⟨c,r⟩⟩⟩
  ·rfl
  ·rfl
  ·rfl
  ·simp at hl
 ·intro r hr;refine aP (mD hl hr) (λhp=>?_) λv=>?_
  ·have a:=(km hp (u:=sp) (.tail _ (.head _))).1;have c:=(km hp (u:=Str.empty) (.head _)).1;rw [empty_app]at c;exact⟨by rw [a,c],λz=>by rw [c]at z;exact tK z⟩
  ·rcases v with⟨b,hb,t,ht,rfl⟩
   refine V.c21 (h t ht) λf g T=>?_;have a:=(kg T hb (u:=sp) (.tail _ (.head _))).1;have c:=(kg T hb (u:=Str.empty) (.head _)).1;have d:=(xO T hb (u:=sp) (.tail _ (.head _)) path).2;have e:=(xO T hb (u:=Str.empty) (.head _) path).2;rw [empty_app]at c e;exact⟨by rw [a,c],λw=>by rw [d,e]⟩
theorem E0 (hl:texts.length<=2) (hx: ∀x∈texts,x.length<=100/\x.cps.all nO=true):(lay q texts).length<=10000:=by
 delta lay hval;have hb: ∀y∈(eC q).toList++(fV q texts).map fv,y.length<=1000:=λy hy=>by
  refine aP (cu.mp hy) (λh=>?_) λh=>?_
  ·exact bU (qp q y (by simpa using h)).len (by decide)
  ·refine kK (bM.mp h) λp hp=>vM (uf hx p hp)
 have ln:((eC q).toList++(fV q texts).map fv).length<=4:=by
  have:=(pe q texts hl).len;rw [cS,bw];cases eC q<;>simp<;>omega+splitDisjunctions
 have h1:(Txt.join "; " ((eC q).toList++(fV q texts).map fv)).length<=((eC q).toList++(fV q texts).map fv).length * (1000+"; ".length)+1000:=yq hb;have h2:"; ".length=2:=by rfl
 rw [h2]at h1;have:=Nat.mul_le_mul_right 1002 ln;omega+splitDisjunctions
theorem Be:Mr.cps.toList=58:: [32]:=by decide+kernel
theorem Az:crlf.cps.toList=13:: [10]:=by decide+kernel
theorem CN {nA:Int->Int} (hk:k∈bq): ∀x∈vt nA k,x.length<=100/\x.cps.all nO=true:=λx hx=>by refine cG (sJ nA hk hx) λg T=>⟨bU T.ln (by decide),fg T.ok yJ⟩
theorem DV {nA:Int->Int} (hk:k∈bq): ∀t∈vt nA k,∃f g,sZ f g t:=λt ht=>by refine cG (sJ nA hk ht) λg T=>?_;exact N0 _ g T
theorem Hx {nA:Int->Int} (hk:k∈bq):(xE nA k).cps.all pD=true:=by delta xE lay hval;rw [<-yK (BU nA)];refine vR (by decide+kernel) λx hx=>kK (bM.mp hx) λp hp=>(AS (DV hk) p hp).2
theorem DK (nA:Int->Int) (hk:k∈bq):Cn (jH nA k) (xE nA k) (Ey nA k) ((tM nA k).map (jH nA)):=by
 have G:=lG nA hk;have tl:=BU nA (k:=k);have vl:(xE nA k).length<=10000:=E0 tl (CN hk);refine⟨bU G.ln (by decide),i9 (fg G.ok vH),yA Be G.PD,?_,vl,?_,λpart hp=> ?_,?_,G.dl,λpart hp hc=> ?_,?_,λg hg=> ?_,?_⟩
 ·exact bU (fQ (fQ G.ln (iV (x:=": ") rfl)) vl:V.B _ (40+2+10000)) (by decide)
 ·delta xE lay hval;rw [<-yK tl,xn λx hx=>(AS (DV hk) x hx).1,Ez tl];rfl
 ·refine aP (o7 hp) (λl=>?_) λp=>?_
  ·subst l;exact⟨dW _,by decide+kernel⟩
  ·rcases p with⟨r,hr,u,hu,rfl⟩
   refine aP (mD tl hr) (λh=>?_) λn=>?_
   ·have z:=km h hu;exact⟨bU z.2.1 (by decide),z.2.2⟩
   ·rcases n with⟨b,hb,t,ht,rfl⟩
    refine cG (sJ nA hk ht) λg T=>?_;have z:=kg T hb hu;exact⟨bU z.2.2.1 (by decide),z.2.2.2⟩
 ·have:=uQ (q:=qA nA k) tl;have e:(jK (iL (qA nA k) (vt nA k))).length<=1+(iL (qA nA k) (vt nA k)).length:=by
   cases iL (qA nA k) (vt nA k)with
   | nil=>decide
   | cons r rest=>refine(?_:(r::rest.map _).length<=1+(r::rest).length);simp
  refine(?_:(jK _).length<=100);omega+splitDisjunctions
 ·refine aP (o7 hp) (λm=>?_) λy=>?_
  ·subst m;rw [jM lU (by decide)]at hc;exact tK hc
  ·rcases y with⟨r,hr,u,hu,rfl⟩
   refine aP (mD tl hr) (λh=>?_) λw=>?_
   ·rw [(km h hu).1]at hc;exact tK hc
   ·rcases w with⟨b,hb,t,ht,rfl⟩
    refine cG (sJ nA hk ht) λg T=>?_;have z:=xO T hb hu (jH nA k);rw [z.1,(kg T hb hu).2.1,G.dn];exact MO (show 1<3 by decide) (bU T.ln (by decide)) T.jl T.jp T.j1 T.j2
 ·refine(?_:kq _ (partsOf _ _)=_);rw [yT tl (DV hk),KS nA hk]
 ·refine kK (bM.mp hg) λj hj=>i9 (fg (lG nA (pd _ j hj)).ok vH)
 ·rw [bw];exact nS _
section
variable (nA oA:Int->Int) (tH: ∀i∈bq,oA i∈bq)
include tH
theorem D4 (h:p∈mR nA oA): ∃k∈bq,p=(jH nA k,xE nA k):=by refine kK (bM.mp h) λi hi=>V.i12 (oA i) (tH i hi) rfl
theorem KZ:wh (mR nA oA):=by refine⟨by delta mR;rw [bw];decide,λp hp=> ?_⟩;refine uh (D4 nA oA tH hp) λk hk=>⟨bU (lG nA hk).ln (by decide),(DK nA hk).vl⟩
theorem yf (h:p∈mR nA oA):(lineOf p).cps.all pD=true:=by refine uh (D4 nA oA tH h) λk hk=>jy (jy (lG nA hk).ok (by decide+kernel)) (Hx hk)
theorem yM: ∀c∈(kB (mR nA oA)).cps.toList,c<256:=by
 have h:(kB (mR nA oA)).cps.all (λc=>decide (c<256))=true:=by
  delta kB;refine vR (by decide+kernel) λx hx=>aP (cu.mp hx) (λhx=>?_) λhx=>?_
  ·refine kK (bM.mp hx) λp hp=>fg (yf nA oA tH hp) vH
  ·have: ∀x∈ [Str.ofString "",Str.ofString ""],x.cps.all (λc=>decide (c<256))=true:=by decide+kernel
   exact this x hx
 rw [pP]at h;exact λc hc=>jB (h c (nC.mp hc))
theorem Bi:Mg (kB (mR nA oA)):=by
 refine⟨yM nA oA tH,λz=> ?_⟩;unfold kB at z;rw [j7]at z;have z:jn (Str.ofString "\r\n").cps.toList ((lineOf (jH nA (oA 0),xE nA (oA 0))).cps.toList::(lineOf (jH nA (oA 1),xE nA (oA 1))).cps.toList::_)= []:=z;have:=dY List.length z;rw [lr]at this;have e:(Str.ofString "\r\n").cps.toList.length=2:=by decide+kernel
 rw [e]at this;simp at this
theorem xC:Txt.split (kB (mR nA oA)) crlf=(bq.map λi=>lineOf (jH nA (oA i),xE nA (oA i)))++ [Str.empty,Str.empty]:=by
 have e:(bq.map λi=>lineOf (jH nA (oA i),xE nA (oA i)))=(mR nA oA).map lineOf:=by delta mR;rw [dP];rfl
 rw [e];refine nU Az (by decide+kernel) (by simp) λx hx=>aP (cu.mp hx) (λhx=>?_) λhx=>?_
 ·refine kK (bM.mp hx) λp hp=>LQ (fg (yf nA oA tH hp) yJ) (by decide)
 ·have: ∀x∈ [Str.empty,Str.empty],13∉x.cps.toList:=by decide
  exact this x hx
end
noncomputable def md (N:List Str) (x:Str):List Str:=if x∈N then N else N++ [x]
noncomputable def mQ (q:SS):Prop:= ∀x,x∉q.ks->q.np x=0/\q.su x= []
theorem t5:y∈md N x↔y∈N\/y=x:=by
 delta md;split
 ·rename_i h;constructor
  ·exact .inl
  ·rintro (z | rfl)
   ·exact z
   ·exact h
 ·simp
theorem qj (h:mQ q) (x:Str):(q.ins x).ks=md q.ks x/\(q.ins x).np=q.np/\(q.ins x).su=q.su/\(q.ins x).rd=q.rd/\(q.ins x).po=q.po/\(q.ins x).nf=q.nf:=by
 delta SS.ins md;split
 ·exact MO rfl rfl rfl rfl rfl rfl
 ·rename_i hx;refine MO rfl ?_ ?_ rfl rfl rfl
  ·funext y;refine(?_:upd q.np x 0 y=_);delta upd;split
   ·rename_i e;subst e;exact((h y hx).1).symm
   ·rfl
  ·funext y;refine(?_:upd q.su x [] y=_);delta upd;split
   ·rename_i e;subst e;exact((h y hx).2).symm
   ·rfl
structure Tells (q q':SS) (ks:List Str) (np:Str->Int) (su:Str->List Str):Prop where
 ks:q'.ks=ks
 np: ∀x,q'.np x=q.np x+np x
 su: ∀x,q'.su x=q.su x++su x
 rd:q'.rd=q.rd
 po:q'.po=q.po
 nf:q'.nf=q.nf
 cl:mQ q'
theorem Ax: ∀(gs:List Str) (q:SS),mQ q->Tells q (gs.foldl (SS.il p) q) (gs.foldl md q.ks) (λu=>0) (λx=>(gs.filter (· ==x)).map λu=>p):=by
 intro aH;induction aH with
 | nil=>intro q h;exact⟨rfl,λx=>by simp,λx=>by simp,rfl,rfl,rfl,h⟩
 | cons g gs ih=>
  intro q h;refine GU (qj h g) λa b c d e f=>?_;have hs:(SS.il p q g).su=upd q.su g (q.su g++ [p]):=by refine(?_:upd (q.ins g).su g ((q.ins g).su g++ [p])=_);rw [c]
  have hn:(SS.il p q g).np=q.np:=b;have hk:(SS.il p q g).ks=md q.ks g:=a;have cl:mQ (SS.il p q g):=λx hx=>by rw [hk,t5,not_or]at hx;rw [hn,hs];refine⟨(h x hx.1).1,?_⟩;delta upd;rw [ay hx.2];exact(h x hx.1).2
  have T:=ih (SS.il p q g) cl;refine⟨by rw [cW,T.ks,hk,cW],λx=>by rw [cW,T.np,hn],λx=> ?_,?_,?_,?_,by rw [cW];exact T.cl⟩
  ·rw [cW,T.su,hs,pY];delta upd;by_cases hx:x=g
   ·subst hx;rw [aF rfl,aF (beq_self_eq_true _),dj,eX];rfl
   ·rw [ay hx,ay (by rw [gJ];exact λz=>hx z.symm)]
  ·rw [cW,T.rd];exact d
  ·rw [cW,T.po];exact e
  ·rw [cW,T.nf];exact f
theorem AQ (h:mQ q) (p:Str) (gs:List Str):Tells q (q.add p gs) ((p::gs).foldl md q.ks) (λx=>if x=p then(gs.length:Int)else 0) (λx=>(gs.filter (· ==x)).map λu=>p):=by
 refine GU (qj h p) λa b c d e f=>?_;have hn:(q.uK p gs.length).np=upd q.np p (q.np p+(gs.length:Int)):=by refine(?_:upd (q.ins p).np p ((q.ins p).np p+(gs.length:Nat))=_);rw [b]
 have cl:mQ (q.uK p gs.length):=λx hx=>by
  have hx:x∉(q.ins p).ks:=hx;rw [a,t5,not_or]at hx;rw [hn];refine⟨?_,?_⟩
  ·delta upd;rw [ay hx.2];exact(h x hx.1).1
  ·refine(?_:(q.ins p).su x= []);rw [c];exact(h x hx.1).2
 have T:=Ax (p:=p) gs _ cl;refine⟨T.ks.trans (by refine(?_:gs.foldl md (q.ins p).ks=_);rw [a,cW]),λx=> ?_,λx=>(T.su x).trans (by refine(?_:(q.ins p).su x++_=_);rw [c]),T.rd.trans d,T.po.trans e,T.nf.trans f,T.cl⟩;rw [show(q.add p gs).np x=_ from T.np x,hn];delta upd;by_cases hx:x=p
 ·subst hx;rw [aF rfl,aF rfl];omega
 ·rw [ay hx,ay hx]
noncomputable def og (L:List (Str×List Str)) (x:Str):Int:=(L.map λr=>if x=r.1 then(r.2.length:Int)else 0).sum
theorem uz: ∀(L:List (Str×List Str)) (q:SS),mQ q->Tells q (hV L q) (L.foldl (λN r=>(r.1::r.2).foldl md N) q.ks) (og L) (λx=>L.flatMap λr=>(r.2.filter (· ==x)).map λu=>r.1):=by
 intro aH;induction aH with
 | nil=>intro q h;exact⟨rfl,λx=>by simp [og,hV],λx=>by simp [hV],rfl,rfl,rfl,h⟩
 | cons r L ih=>
  intro q h;have T1:=AQ h r.1 r.2;have T2:=ih _ T1.cl;refine⟨T2.ks.trans (by rw [T1.ks];rfl),λx=> ?_,λx=> ?_,T2.rd.trans T1.rd,T2.po.trans T1.po,T2.nf.trans T1.nf,T2.cl⟩
  ·refine(?_:(hV L (q.add r.1 r.2)).np x=_);rw [T2.np,T1.np];delta og;rw [dj,List.sum_cons];omega
  ·refine(?_:(hV L (q.add r.1 r.2)).su x=_);rw [T2.su,T1.su,gj,eX]
theorem Bh:mQ q0:=λu v=>⟨rfl,rfl⟩
noncomputable def lE:List Str->List Str
 | []=> []
 | x::r=>if x∈r then lE r else x::lE r
theorem rR (q:SS) (y z:Str):(q.dec y).np z=q.np z - (if z=y then 1 else 0):=by
 delta SS.dec;have e: ∀z,(q.cf y (q.np y - 1)).np z=q.np z - (if z=y then 1 else 0):=λz=>by
  refine(?_:upd q.np y _ z=_);delta upd;by_cases h:z=y
  ·subst h;rw [aF rfl,aF rfl]
  ·rw [ay h,ay h];omega
 split
 ·exact e z
 ·exact e z
theorem Fj (q:SS) (y:Str) (h:q.rd=some r):(q.dec y).rd=some (if q.np y=1 then r++ [y]else r):=by
 delta SS.dec;have e:(q.cf y (q.np y - 1)).np y=q.np y - 1:=by refine(?_:upd q.np y _ y=_);delta upd;rw [aF rfl]
 by_cases h1:q.np y=1
 ·rw [aF (by rw [e,h1];rfl),aF h1];refine(?_:(q.cf y _).rd.map (· ++ [y])=_);refine(?_:q.rd.map (· ++ [y])=_);rw [h];rfl
 ·rw [ay (by rw [e,gJ];omega),ay h1];exact h
theorem B2 (q:SS) (y:Str):(q.dec y).po=q.po/\(q.dec y).nf=q.nf:=by
 delta SS.dec;split<;>exact⟨rfl,rfl⟩
noncomputable def run (q:SS) (ys xs:List Str):SS:=((ys.foldl SS.dec q).tB).tP xs
noncomputable def qS (su:Str->List Str) (xs ys:List Str) (q:SS):Prop:= ∀r:List Str,q.su=su->q.rd=some r->xs.Nodup->(∀x∈xs,x∉ys++xs.flatMap su)->(∀k∈ys++xs.flatMap su,((ys++xs.flatMap su).count k:Int)<=q.np k)->
  (run q ys xs).rd=some (r++lE ((ys++xs.flatMap su).filter λk=>q.np k==((ys++xs.flatMap su).count k:Int)))/\(∀k,(run q ys xs).np k=if k∈xs then -2 else q.np k - ((ys++xs.flatMap su).count k:Int))/\(run q ys xs).po=q.po/\(run q ys xs).nf=q.nf+1+xs.length
theorem LM {su:Str->List Str}:qS su [] [] q:=by
 intro r hs hr hn hd hc;refine tI ?_ (λk=> ?_) rfl (by refine(?_:q.nf+1=q.nf+1+((0:Nat):Int));omega)
 ·refine(?_:q.rd=_);rw [hr];simp [lE]
 ·refine(?_:q.np k=_);simp
theorem LD {su:Str->List Str} (IH:qS su xs (su x) (q.tB.cf x (-2))):qS su (x::xs) [] q:=by
 intro r hs hr hn hd hc;have hn':=hH.mp hn;have ih:=IH r hs hr hn'.2 (λz hz=>by
  have:=hd z (.tail _ hz);simpa only [kR,gj]using this) (λk hk=>by
  have hk2:k∈ []++(x::xs).flatMap su:=by simpa only [kR,gj]using hk
  have h1:=hc k hk2;have kx:k≠x:=λe=>hd x (.head _) (by have z:=hk2;rw [e]at z;exact z);refine(?_:_<=upd q.np x (-2) k);delta upd;rw [ay kx];simpa only [kR,gj]using h1)
 have e:run q [] (x::xs)=run (q.tB.cf x (-2)) (su x) xs:=by subst hs;rfl
 rw [e];refine kD ih λi1 i2 i3 i4=>?_;clear ih;have nk: ∀k,k≠x->(q.tB.cf x (-2)).np k=q.np k:=λk hk=>by refine(?_:upd q.np x (-2) k=_);delta upd;rw [ay hk]
 refine tI ?_ (λk=> ?_) i3 ?_
 ·rw [i1,kR,gj]
  congr 3
  apply zX;intro k hk;have kx:k≠x:=λe=>hd x (.head _) (by rw [e]at hk;simpa only [kR,gj]using hk);rw [nk k kx]
 ·rw [i2,kR,gj];by_cases hx:k=x
  ·subst hx;have c0:(su k++xs.flatMap su).count k=0:=List.count_eq_zero.mpr (by have:=hd k (.head _);simpa only [kR,gj]using this);have:(q.tB.cf k (-2)).np k= -2:=by refine(?_:upd q.np k (-2) k=_);delta upd;rw [aF rfl]
   rw [ay hn'.1,aF (.head _),this,c0];rfl
  ·rw [nk k hx];by_cases hxs:k∈xs
   ·rw [aF hxs,aF (.tail _ hxs)]
   ·rw [ay hxs,ay (by rw [cM,not_or];exact⟨hx,hxs⟩)]
 ·rw [i4,cq];refine(?_:q.nf+1+1+(xs.length:Int)=_);omega
theorem Gv {su:Str->List Str} (IH:qS su xs ys (q.dec y)):qS su xs (y::ys) q:=by
 intro r hs hr hn hd hc;obtain⟨D,hD⟩: ∃D,D=ys++xs.flatMap su:=⟨_,rfl⟩;have eD:y::ys++xs.flatMap su=y::D:=by rw [hD];rfl
 rw [eD]at hd hc⊢;have cy:=hc y (.head _);rw [zZ]at cy;have ih:=IH (if q.np y=1 then r++ [y]else r) ((wM q y).trans hs) (Fj q y hr) hn (λx hx=>by rw [<-hD];exact λz=>hd x hx (.tail _ z)) (λk hk=>by
  rw [<-hD]at hk⊢;have h1:=hc k (.tail _ hk);rw [rR];by_cases e:k=y
  ·subst e;rw [zZ]at h1;rw [aF rfl];omega
  ·rw [List.count_cons_of_ne (λz=>e z.symm)]at h1;rw [ay e];omega)
 rw [<-hD]at ih;have e:run q (y::ys) xs=run (q.dec y) ys xs:=rfl;rw [e];refine kD ih λi1 i2 i3 i4=>?_;clear ih;have P: ∀k,(((q.dec y).np k)==((D.count k:Nat):Int))=(q.np k==(((y::D).count k:Nat):Int)):=λk=>by
  rw [rR];by_cases e:k=y
  ·subst e;rw [zZ,aF rfl];by_cases z:q.np k - 1=(D.count k:Int)
   ·rw [gJ.mpr z,gJ.mpr (by omega)]
   ·rw [tr.mpr z,tr.mpr (by omega)]
  ·rw [List.count_cons_of_ne (λz=>e z.symm),ay e,Int.sub_zero]
 refine tI ?_ (λk=> ?_) (i3.trans (B2 q y).1) (i4.trans (by rw [(B2 q y).2]))
 ·rw [i1]
  congr 1
  rw [zX λk u=>P k,pY];by_cases h1:q.np y=1
  ·have c0:D.count y=0:=by omega
   have ny:y∉D:=List.count_eq_zero.mp c0;have py:(q.np y==(((y::D).count y:Nat):Int))=true:=by rw [zZ,c0,h1];rfl
   rw [aF h1,aF py];rw [show lE (y::D.filter λk=>q.np k==(((y::D).count k:Nat):Int))=y::lE (D.filter λk=>q.np k==(((y::D).count k:Nat):Int))from by
    rw [lE,ay (λz=>ny (kO.mp z).1)],eX];rfl
  ·rw [ay h1];by_cases py:(q.np y==(((y::D).count y:Nat):Int))=true
   ·rw [aF py];have e1:=gJ.mp py;rw [zZ]at e1;have PE:y∈D:=List.count_pos_iff.mp (by omega);rw [show lE (y::D.filter λk=>q.np k==(((y::D).count k:Nat):Int))=lE (D.filter λk=>q.np k==(((y::D).count k:Nat):Int))from by
     rw [lE,aF (kO.mpr ⟨PE,py⟩)]]
   ·rw [ay py]
 ·rw [i2,rR];by_cases hx:k∈xs
  ·rw [aF hx,aF hx]
  ·rw [ay hx,ay hx];by_cases e:k=y
   ·subst e;rw [zZ,aF rfl];omega
   ·rw [List.count_cons_of_ne (λz=>e z.symm),ay e];omega
theorem D8 (su:Str->List Str) (xs:List Str): ∀(ys:List Str) (q:SS),qS su xs ys q:=by
 induction xs with
 | nil=>
  intro ys
  induction ys with
  | nil=>exact λq=>LM
  | cons y ys ih=>exact λq=>Gv (ih _)
 | cons x xs PF=>
  intro ys
  induction ys with
  | nil=>exact λq=>LD (PF _ _)
  | cons y ys ih=>exact λq=>Gv (ih _)
theorem BR {q:SS} {su:Str->List Str} {xs:List Str} {r:List Str} (hs:q.su=su) (hr:q.rd=some r) (hn:xs.Nodup) (hd: ∀x∈xs,x∉xs.flatMap su) (hc: ∀k∈xs.flatMap su,((xs.flatMap su).count k:Int)<=q.np k):
  (q.tP xs).rd=some (r++lE ((xs.flatMap su).filter λk=>q.np k==((xs.flatMap su).count k:Int)))/\(∀k,(q.tP xs).np k=if k∈xs then -2 else q.np k - ((xs.flatMap su).count k:Int))/\(q.tP xs).po=q.po/\(q.tP xs).nf=q.nf+xs.length:=by
 have h:=D8 su xs [] {q with nf:=q.nf - 1} r hs hr hn hd hc;have e:run {q with nf:=q.nf - 1} [] xs=q.tP xs:=by
  refine(?_:((({q with nf:=q.nf - 1}:SS)).tB).tP xs=_)
  congr 1
  delta SS.tB;refine(?_:({q with nf:=q.nf - 1+1}:SS)=q);rw [Int.sub_add_cancel]
 rw [e]at h;refine kD h λa b c d=>tI a b c ?_;rw [d];refine(?_:q.nf - 1+1+(xs.length:Int)=_);omega
theorem eA {E:List Int}:E.any (· ==i)=decide (i∈E):=by
 by_cases h:i∈E
 ·rw [lT h];exact zQ.mpr ⟨i,h,beq_self_eq_true i⟩
 ·rw [mE h,zJ];intro x hx z;exact h (by rw [<-gJ.mp z];exact hx)
noncomputable def mT (ord:List Int) (nd:Int->List Int) (j:Int):List Int:=ord.flatMap λk=>((nd k).filter (· ==j)).map λ_=>k
noncomputable def tD (nd:Int->List Int) (E:List Int) (k:Int):Nat:=(nd k).countP λi=> !(E.any (· ==i))
theorem EY {nd:Int->List Int}:met nd E k=true↔tD nd E k=0:=by delta met tD;rw [List.countP_eq_length_filter,A4,List.length_eq_zero_iff]
theorem zL {l:List Int} {j k k':Int}:((l.filter (· ==j)).map λu=>k').count k=if k'=k then l.count j else 0:=by
 rw [List.map_const',List.count_replicate,<-List.countP_eq_length_filter];by_cases h:k'=k
 ·rw [aF (gJ.mpr h),aF h];rfl
 ·rw [ay (λz=>h (gJ.mp z)),ay h]
theorem Dh {nd:Int->List Int} {j k:Int}: ∀{ord:List Int},ord.Nodup->(mT ord nd j).count k=if k∈ord then(nd k).count j else 0:=by
 intro aH;induction aH with
 | nil=>
  intro u;exact by simp [mT]
 | cons a ord ih=>
  intro h;have h':=hH.mp h;have ih:=ih h'.2;have e:mT (a::ord) nd j=((nd a).filter (· ==j)).map (λu=>a)++mT ord nd j:=by delta mT;rw [gj]
  rw [e,List.count_append,ih,zL];by_cases ha:a=k
  ·subst ha;rw [aF rfl,ay h'.1,aF (.head _)];omega
  ·rw [ay ha];by_cases hk:k∈ord
   ·rw [aF hk,aF (.tail _ hk)];omega
   ·rw [ay hk,ay (by rw [cM,not_or];exact⟨λz=>ha z.symm,hk⟩)]
theorem Hy {js:List Int} (h:j∉js): ∀l:List Int,l.count j+l.countP (λi=>js.any (· ==i))=l.countP λi=>(j::js).any (· ==i):=by
 intro aH;induction aH with
 | nil=>exact rfl
 | cons a l ih=>
  have ih:=ih;rw [List.count_cons,An,An];simp only [eA]at ih⊢;by_cases e:a=j
  ·subst e;simp [h]at ih⊢;omega
  ·by_cases e2:a∈js
   ·simp [e,e2]at ih⊢;omega
   ·simp [e,e2]at ih⊢;omega
theorem Aa {ord:List Int} {nd:Int->List Int} (hn:ord.Nodup) (hk:k∈ord): ∀{js:List Int},js.Nodup->(js.flatMap (mT ord nd)).count k=(nd k).countP λi=>js.any (· ==i):=by
 intro aH;induction aH with
 | nil=>
  intro u;exact by simp
 | cons j js ih=>intro h;have h':=hH.mp h;rw [gj,List.count_append,ih h'.2,Dh hn,aF hk,Hy h'.1]
theorem zC {nd:Int->List Int} {E g:List Int} (hd: ∀i∈g,i∉E):tD nd E k=tD nd (E++g) k+(nd k).countP λi=>g.any (· ==i):=by
 delta tD
 induction nd k with
 | nil=>rfl
 | cons a l ih=>
  rw [An,An,An,ih];simp only [eA,cu];by_cases h1:a∈g
  ·have:=hd a h1;simp [h1,this];omega
  ·by_cases h2:a∈E<;>simp [h1,h2]<;>omega
noncomputable def za (l l':List Int):Prop:=gh l=gh l'/\ ∀x,x∈l↔x∈l'
theorem xM {l l':List Int} (h: ∀x,x∈l↔x∈l') (x:Int):l.any (· ==x)=l'.any (· ==x):=by
 rw [eA,eA];by_cases z:x∈l
 ·rw [lT z,lT ((h x).mp z)]
 ·rw [mE z,mE (λw=>z ((h x).mpr w))]
theorem za.cons {l l':List Int} (h:za l l') (x:Int):za (x::l) (x::l'):=by refine⟨?_,λy=>by rw [cM,cM,h.2]⟩;unfold gh;rw [xM h.2 x,h.1]
theorem za.dup {l l':List Int} (h:za l (x::l')):za (x::l) (x::l'):=by have hx:x∈l:=(h.2 x).mpr (.head _);refine⟨?_,λy=>by rw [cM,h.2,cM];exact⟨λz=>z.elim .inl id,.inr⟩⟩;rw [<-h.1];refine(?_:(if l.any (· ==x)then gh l else x::gh l)=gh l);rw [eA,lT hx,aF rfl]
theorem za.rep (h:za l l') (k:Int): ∀n:Nat,za (List.replicate (n+1) k++l) (k::l'):=by
 intro aH;induction aH with
 | zero=>exact h.cons k
 | succ n ih=>exact(ih).dup
theorem za.blocks {nd:Int->List Int} (h:za l l'): ∀ord:List Int,za ((mT ord nd j).filter (met nd F)++l) ((ord.filter λk=>(nd k).any (· ==j) && met nd F k)++l'):=by
 intro aH;induction aH with
 | nil=>exact h
 | cons k ord ih=>
  have ih:=ih;have e:mT (k::ord) nd j=((nd k).filter (· ==j)).map (λu=>k)++mT ord nd j:=by delta mT;rw [gj]
  rw [e,CI,pY,eX,List.map_const'];cases hm:met nd F k with
  | false=>rw [Bool.and_false,ay dM,zK.mpr (λa ha=>by rw [(List.mem_replicate.mp ha).2,hm];decide)];exact ih
  | true=>
   rw [Bool.and_true,Cv.mpr (λa ha=>by rw [(List.mem_replicate.mp ha).2,hm])];cases ha:(nd k).any (· ==j)with
   | false=>
    have:(nd k).filter (· ==j)= []:=by
     rw [zK];exact λa hx z=>by rw [zJ]at ha;exact ha a hx z
    rw [this,ay dM];exact ih
   | true=>
    rw [aF rfl];refine V.c12 (zQ.mp ha) λa hx z=>?_;obtain⟨m,hm2⟩: ∃m,((nd k).filter (· ==j)).length=m+1:=by
     have:0<((nd k).filter (· ==j)).length:=Gg.mpr λw=>by have this:a∈(nd k).filter (· ==j):=kO.mpr ⟨hx,z⟩;rw [w]at this;exact je this
     exact⟨_,(Nat.succ_pred_eq_of_pos this).symm⟩
    rw [hm2];exact ih.rep k m
theorem yI {nd:Int->List Int} {F ord:List Int}: ∀js:List Int,za ((js.flatMap (mT ord nd)).filter (met nd F)) (js.flatMap λj=>ord.filter λk=>(nd k).any (· ==j) && met nd F k):=by
 intro aH;induction aH with
 | nil=>exact⟨rfl,λu=>Iff.rfl⟩
 | cons j js ih=>rw [gj,gj,CI];exact(ih).blocks ord
theorem sV: ∀{l:List Int} {x:Int},x∈gh l↔x∈l
 | [],_=>Iff.rfl
 | y::l,x=>by
  have ih:=sV (l:=l) (x:=x);unfold gh;rw [eA];by_cases h:y∈l
  ·rw [lT h,aF rfl,ih,cM];exact⟨.inr,λz=>z.elim (λe=>by rw [e];exact h) id⟩
  ·rw [mE h,ay dM,cM,cM,ih]
theorem zv: ∀l:List Int,(gh l).Nodup:=by
 intro aH;induction aH with
 | nil=>exact pV
 | cons y l ih=>
  have ih:=ih;unfold gh;rw [eA];by_cases h:y∈l
  ·rw [lT h,aF rfl];exact ih
  ·rw [mE h,ay dM];exact hH.mpr ⟨λz=>h (sV.mp z),ih⟩
structure Cfg (nd:Int->List Int) (pg:Int->Str) (ord:List Int):Prop where
 inj: ∀i∈bq,∀j∈bq,pg i=pg j->i=j
 Jp: ∀k,(nd k).length<=2
 Jq: ∀k,∀j∈nd k,j∈bq
 on:ord.Nodup
 oi: ∀k,k∈ord↔k∈bq
section
variable {nd:Int->List Int} {pg:Int->Str} {ord:List Int} (c:Cfg nd pg ord)
include c
theorem gN {l:List Int} (hl: ∀x∈l,x∈bq) (hk:k∈bq):pg k∈l.map pg↔k∈l:=by
 constructor
 ·intro h;refine V.c12 (bM.mp h) λx hx e=>?_;rw [<-c.inj x (hl x hx) k hk e];exact hx
 ·exact λh=>bM.mpr ⟨k,h,rfl⟩
theorem vg (hk:k∈bq): ∀{l:List Int},(∀x∈l,x∈bq)->(l.map pg).count (pg k)=l.count k:=by
 intro aH;induction aH with
 | nil=>intro u;exact rfl
 | cons a l ih=>
  intro h;rw [dj,List.count_cons,List.count_cons,ih λx hx=>h x (.tail _ hx)]
  congr 1
  by_cases e:a=k
  ·subst e;simp
  ·have:pg a≠pg k:=λz=>e (c.inj a (h a (.head _)) k hk z);simp [e,this]
theorem lR: ∀{l:List Int},(∀x∈l,x∈bq)->l.Nodup->(l.map pg).Nodup:=by
 intro aH;induction aH with
 | nil=>intro u v;exact pV
 | cons a l ih=>intro h hn;have h':=hH.mp hn;rw [dj,hH];exact⟨λz=>h'.1 ((gN c (λx hx=>h x (.tail _ hx)) (h a (.head _))).mp z),ih (λx hx=>h x (.tail _ hx)) h'.2⟩
theorem H6: ∀{l:List Int},(∀x∈l,x∈bq)->lE (l.map pg)=(gh l).map pg:=by
 intro aH;induction aH with
 | nil=>intro u;exact rfl
 | cons a l ih=>
  intro h;have hl: ∀x∈l,x∈bq:=λx hx=>h x (.tail _ hx);have ih:=ih hl;rw [dj];unfold lE gh;rw [eA];by_cases e:a∈l
  ·rw [lT e,aF rfl,aF ((gN c hl (h a (.head _))).mpr e),ih]
  ·rw [mE e,ay dM,ay (λz=>e ((gN c hl (h a (.head _))).mp z)),ih,dj]
theorem pk (h:k∈mT ord nd j):k∈bq/\j∈nd k:=by delta mT at h;refine V.c12 (wL.mp h) λa ha hk=>kK (bM.mp hk) λx hx=>?_;have:=kO.mp hx;exact⟨(c.oi _).mp ha,by rw [<-gJ.mp this.2];exact this.1⟩
theorem KC (hk:k∈bq) (hj:j∈nd k):k∈mT ord nd j:=by delta mT;exact wL.mpr ⟨k,(c.oi k).mpr hk,bM.mpr ⟨j,kO.mpr ⟨hj,beq_self_eq_true j⟩,rfl⟩⟩
end
class inductive FD (nd:Int->List Int):List Int->Prop
 | nil:FD nd []
 | snoc {E:List Int} {k:Int} (h:FD nd E) (hk: ∀j∈nd k,j∈E):FD nd (E++ [k])
theorem FD.more {nd:Int->List Int} (h:FD nd E): ∀{g:List Int},(∀k∈g,∀j∈nd k,j∈E)->FD nd (E++g)
 | [],_=>by rw [iM];exact h
 | k::g,hg=>by have h1:=h.snoc (hg k (.head _));have:=FD.more h1 (g:=g) (λx hx j hj=>cu.mpr (.inl (hg x (.tail _ hx) j hj)));rw [eX]at this;exact this
structure RS (nd:Int->List Int) (pg:Int->Str) (ord:List Int) (q:SS) (E g:List Int):Prop where
 nk:q.ks.Nodup
 ks: ∀k∈bq,pg k∈q.ks
 kx: ∀x∈q.ks,∃k∈bq,x=pg k
 su: ∀j∈bq,q.su (pg j)=(mT ord nd j).map pg
 rd:q.rd=some (g.map pg)
 pn:q.po=q.nf
 np: ∀k∈bq,k∉E->q.np (pg k)=(tD nd E k:Int)
 ne: ∀k∈bq,k∈E->q.np (pg k)= -2
 dg:(E++g).Nodup
 ei: ∀k∈E++g,k∈bq
 inv: ∀k∈bq,k∈E++g↔tD nd E k=0
 Ou:FD nd E
theorem xD {q:SS} {g:List Str} (z:Str):(q.out g).np z=if z∈g then -1 else q.np z:=by
 have: ∀(r:List Str) (q:SS),(r.foldl (λq x=>q.cf x (-1)) q).np z=if z∈r then -1 else q.np z:=by
  intro r
  induction r with
  | nil=>intro q;simp
  | cons x r ih=>
   intro q;rw [cW,ih];refine(?_:(if z∈r then(-1:Int)else upd q.np x (-1) z)=_);delta upd;by_cases h:z∈r
   ·rw [aF h,aF (.tail _ h)]
   ·rw [ay h];by_cases e:z=x
    ·rw [aF e,aF (by rw [e];exact .head _)]
    ·rw [ay e,ay (by rw [cM,not_or];exact⟨e,h⟩)]
 exact this g q
theorem AY {nd:Int->List Int} {E:List Int} (h:tD nd E k=0): ∀j∈nd k,j∈E:=by intro j hj;delta tD at h;rw [List.countP_eq_zero]at h;have:=h j hj;rw [eA]at this;simpa using this
theorem F0 {st:Int} {g:List Int} (h:g.Nodup):(cA st g).Nodup:=by
 delta cA;split
 ·exact h
 ·exact List.pairwise_reverse.mpr (List.Pairwise.imp (λz=>z.symm) h)
section
variable {nd:Int->List Int} {pg:Int->Str} {ord:List Int} {st:Int} {q:SS} {E g:List Int}
theorem RS.len (R:RS nd pg ord q E g):E.length+g.length<=6:=by have:=uy R.dg (l₂:=bq) R.ei;rw [cS]at this;exact this
theorem RS.facts (c:Cfg nd pg ord) (R:RS nd pg ord q E g) (hol:ord.length<=10):(∀k∈g,k∈bq)/\g.Nodup/\(∀k∈g,k∉E)/\(∀j∈g,∀k∈mT ord nd j,k∉E++g):=by have hn:=t9.mp R.dg;have hE: ∀k∈g,k∉E:=λk hk z=>hn.2.2 k z k hk rfl;refine tI (λk hk=>R.ei k (cu.mpr (.inr hk))) hn.2.1 hE λj hj k hk z=>bI (pk c hk) λh1 h2=>hE j hj (AY ((R.inv k h1).mp z) j h2)
theorem RS.step (c:Cfg nd pg ord) (R:RS nd pg ord q E g) (hol:ord.length<=10):DP (q.out (g.map pg)) ((cA st g).map pg)/\RS nd pg ord (pH pg st q g) (E++g) (gh (mA st ord nd (E++g) g))/\(pH pg st q g).ks=q.ks:=by
 refine kD (R.facts c hol) λgi gn gE far=>?_;have pm: ∀x,x∈cA st g↔x∈g:=λx=>qP;have pi: ∀x∈cA st g,x∈bq:=λx hx=>gi x ((pm x).mp hx);have pn:=F0 (st:=st) gn;obtain⟨D,hD⟩: ∃D,D=(cA st g).flatMap (mT ord nd):=⟨_,rfl⟩;have Di: ∀k∈D,k∈bq/\k∉E++g/\ ∃j∈g,j∈nd k:=λk hk=>by rw [hD]at hk;refine V.c12 (wL.mp hk) λj hj hk=>bI (pk c hk) λh1 h2=>⟨h1,far j ((pm j).mp hj) k hk,j,(pm j).mp hj,h2⟩
 have fl:((cA st g).map pg).flatMap (q.out (g.map pg)).su=D.map pg:=by
  rw [lh,hD,List.map_flatMap,List.flatMap_map];have: ∀l:List Int,(∀x∈l,x∈bq)->(l.flatMap λj=>q.su (pg j))=l.flatMap λj=>(mT ord nd j).map pg:=by
   intro l
   induction l with
   | nil=>intro u1;rfl
   | cons a l ih=>intro hl;rw [gj,gj,R.su a (hl a (.head _)),ih λx hx=>hl x (.tail _ hx)]
  exact this _ pi
 have Dk: ∀x∈D.map pg,∃k∈D,pg k=x:=λx hx=>by refine V.c12 (bM.mp hx) λk hk e=>?_;exact V.i12 k hk e
 have Dc: ∀k∈bq,(D.map pg).count (pg k)=(nd k).countP λi=>g.any (· ==i):=λk hk=>by
  rw [vg c hk λx hx=>(Di x hx).1,hD,Aa c.on ((c.oi k).mpr hk) pn]
  congr 1
  funext i;exact xM pm i
 have np0: ∀k∈bq,k∉E++g->(q.out (g.map pg)).np (pg k)=(tD nd E k:Int):=λk hk hn=>by rw [cu,not_or]at hn;rw [xD,ay (λz=>hn.2 ((gN c gi hk).mp z)),R.np k hk hn.1]
 have PG: ∀k∈bq,k∈g->(q.out (g.map pg)).np (pg k)= -1:=λk hk hg=>by rw [xD,aF (bM.mpr ⟨k,hg,rfl⟩)]
 have PH: ∀k∈bq,k∈E->(q.out (g.map pg)).np (pg k)= -2:=λk hk hE=>by rw [xD,ay (λz=>gE k ((gN c gi hk).mp z) hE),R.ne k hk hE]
 have rs:=λk=>zC (nd:=nd) (E:=E) (g:=g) (k:=k) gE;have dl:D.length<=1000:=by
  have h1: ∀j,(mT ord nd j).length<=ord.length * 2:=λj=>by
   delta mT;have key: ∀l:List Int,(l.flatMap λk=>((nd k).filter (· ==j)).map λu1=>k).length<=l.length * 2:=by
    intro l
    induction l with
    | nil=>exact bT _
    | cons a l ih=>rw [gj,cS,bw,cq];have:=CF (· ==j) (nd a);have:=c.Jp a;omega
   exact key ord
  have h2: ∀l:List Int,(l.flatMap (mT ord nd)).length<=l.length * 20:=by
   intro l
   induction l with
   | nil=>exact bT _
   | cons a l ih=>rw [gj,cS,cq];have:=h1 a;omega
  have h3:=h2 (cA st g);have h4:=R.len;rw [eO]at h3;rw [hD];omega
 have dp:DP (q.out (g.map pg)) ((cA st g).map pg):=by
  refine⟨⟨[],rfl,by rw [fl,bw];simpa using dl⟩,by rw [oE];exact R.nk,λx hx y hy=> ?_,λx hx=> ?_,lR c pi pn,λx hx y hy z=> ?_⟩
  ·rw [oE]at hx⊢;rw [lh]at hy;refine V.c12 (R.kx x hx) λk hk p=>?_;subst p;rw [R.su k hk]at hy;refine V.c12 (bM.mp hy) λk2 hk2 n=>?_;subst n;exact R.ks k2 (pk c hk2).1
  ·refine V.c12 (bM.mp hx) λk hk m=>?_;subst m;rw [oE];exact⟨R.ks k (pi k hk),PG k (pi k hk) ((pm k).mp hk)⟩
  ·refine V.c12 (bM.mp hx) λk hk t=>?_;subst t;refine V.c12 (bM.mp hy) λk2 hk2 w=>?_;subst w;rw [lh,R.su k (pi k hk)]at z;have z:=(gN c (λx hx=>(pk c hx).1) (pi k2 hk2)).mp z;exact far k ((pm k).mp hk) k2 z (cu.mpr (.inr ((pm k2).mp hk2)))
 refine⟨dp,?_⟩;have NL:((cA st g).map pg).flatMap q.su=D.map pg:=by rw [lh]at fl;exact fl
 have NM: ∀k∈bq,pg k∈(cA st g).map pg↔k∈g:=λk hk=>(gN c pi hk).trans (pm k);have spec:=BR (q:=q.out (g.map pg)) (su:=q.su) (xs:=(cA st g).map pg) (r:= []) lh rfl (lR c pi pn) (λx hx z=>by
  rw [NL]at z;refine V.c12 (bM.mp hx) λk hk v=>?_;subst v;have:=(gN c (λx hx=>(Di x hx).1) (pi k hk)).mp z;exact(Di k this).2.1 (cu.mpr (.inr ((pm k).mp hk)))) (λx hx=>by
  rw [NL]at hx⊢;refine V.c12 (Dk x hx) λk hk u=>?_;subst u;refine nM (Di k hk) λh1 h2 _=>?_;rw [Dc k h1,np0 k h1 h2];have:=rs k;omega)
 rw [NL]at spec;refine kD spec λs1 s2 s3 s4=>?_;clear spec;obtain⟨ek,es,_,_⟩:=dp.all;have ek:(pH pg st q g).ks=q.ks:=ek.trans oE;have es:(pH pg st q g).su=q.su:=es.trans lh;have mt: ∀k,met nd (E++g) k=true↔tD nd (E++g) k=0:=λk=>EY;have e1:(D.map pg).filter (λx=>(q.out (g.map pg)).np x==(((D.map pg).count x:Nat):Int))=(D.filter (met nd (E++g))).map pg:=by
  rw [List.filter_map]
  congr 1
  apply zX;intro k hk;refine nM (Di k hk) λh1 h2 _=>(?_:((q.out (g.map pg)).np (pg k)==(((D.map pg).count (pg k):Nat):Int))=_);rw [Dc k h1,np0 k h1 h2];have:=rs k;cases hm:met nd (E++g) k with
  | true=>have:=(mt k).mp hm;rw [gJ];omega
  | false=>
   have h3:tD nd (E++g) k≠0:=λz=>by rw [(mt k).mpr z]at hm;exact zi hm
   rw [tr];omega
 have e2:lE ((D.filter (met nd (E++g))).map pg)=(gh (mA st ord nd (E++g) g)).map pg:=by rw [H6 c λx hx=>(Di x (kO.mp hx).1).1,hD];exact dY (List.map pg) (yI (cA st g)).1
 have Js: ∀k,k∈gh (mA st ord nd (E++g) g)↔k∈D/\tD nd (E++g) k=0:=λk=>by rw [sV,<-mt,<-kO,hD];exact((yI (cA st g)).2 k).symm
 refine⟨⟨by rw [ek];exact R.nk,λk hk=>by rw [ek];exact R.ks k hk,λx hx=>R.kx x (by rw [<-ek];exact hx),λj hj=>by rw [es];exact R.su j hj,?_,?_,λk hk hn=> ?_,λk hk hm=> ?_,?_,λk hk=> ?_,λk hk=> ?_,R.Ou.more λk hk=>AY ((R.inv k (gi k hk)).mp (cu.mpr (.inr hk)))⟩,ek⟩
 ·refine(?_:((q.out (g.map pg)).tP _).rd=_);rw [s1,e1,e2];rfl
 ·refine(?_:((q.out (g.map pg)).tP _).po=((q.out (g.map pg)).tP _).nf);rw [s3,s4,Dp,bw,eO];refine(?_:q.po+((g.map pg).length:Int)=_);rw [bw,R.pn]
 ·have h2:=hn;rw [cu,not_or]at h2;refine(?_:((q.out (g.map pg)).tP _).np (pg k)=_);rw [s2,ay (λz=>h2.2 ((NM k hk).mp z)),np0 k hk hn,Dc k hk];have:=rs k;omega
 ·refine(?_:((q.out (g.map pg)).tP _).np (pg k)=_);rw [s2];by_cases hg:k∈g
  ·rw [aF ((NM k hk).mpr hg)]
  ·have hE:k∈E:=(cu.mp hm).resolve_right hg;rw [ay (λz=>hg ((NM k hk).mp z)),PH k hk hE,Dc k hk];have h0:=(R.inv k hk).mp (cu.mpr (.inl hE));have:=rs k;omega
 ·rw [t9];refine m9 R.dg (zv _) λx hx y hy e=> ?_;subst e;exact(Di x ((Js x).mp hy).1).2.1 hx
 ·refine aP (cu.mp hk) (λh=>?_) λh=>?_
  ·exact R.ei k h
  ·exact(Di k ((Js k).mp h).1).1
 ·rw [cu,Js];have h3:=rs k;constructor
  ·rintro (h | h)
   ·have:=(R.inv k hk).mp h;omega
   ·exact h.2
  ·intro h;by_cases z:tD nd E k=0
   ·exact .inl ((R.inv k hk).mpr z)
   ·refine .inr ⟨?_,h⟩;have:(D.map pg).count (pg k)≠0:=by rw [Dc k hk];omega
    rw [vg c hk λx hx=>(Di x hx).1]at this;exact List.count_pos_iff.mp (Nat.pos_of_ne_zero this)
end
theorem tT:y∈fu N x↔y∈N\/y=x:=by
 delta fu;rw [eA];by_cases h:x∈N
 ·rw [lT h,aF rfl];exact⟨.inl,λz=>z.elim id λe=>by rw [e];exact h⟩
 ·rw [mE h,ay dM];simp
theorem wU (h:N.Nodup):(fu N x).Nodup:=by
 delta fu;rw [eA];by_cases hx:x∈N
 ·rw [lT hx,aF rfl];exact h
 ·rw [mE hx,ay dM,t9];exact m9 h (by simp) λa ha b hb e=>by simp at hb;subst hb;subst e;exact hx ha
noncomputable def uv (nd:Int->List Int) (N:List Int) (k:Int):List Int:=([k]++nd k).foldl fu N
theorem uE: ∀(l N:List Int),N.Nodup->(l.foldl fu N).Nodup/\ ∀x,x∈l.foldl fu N↔x∈N\/x∈l:=by
 intro aH;induction aH with
 | nil=>intro N h;exact⟨h,λx=>by simp⟩
 | cons a l ih=>intro N h;refine bI (ih (fu N a) (wU h)) λh1 h2=>⟨h1,λx=>by rw [cW,h2,tT,cM,or_assoc]⟩
theorem vi (nd:Int->List Int): ∀(ord N:List Int),N.Nodup->(ord.foldl (uv nd) N).Nodup/\ ∀x,x∈ord.foldl (uv nd) N↔x∈N\/ ∃k∈ord,x=k\/x∈nd k:=by
 intro aH;induction aH with
 | nil=>intro N h;exact⟨h,λx=>by simp⟩
 | cons a ord ih=>
  intro N h;refine bI (uE ([a]++nd a) N h) λh1 h2=>bI (ih (uv nd N a) h1) λh3 h4=>⟨h3,λx=> ?_⟩;rw [cW,h4];have:x∈uv nd N a↔x∈N\/(x=a\/x∈nd a):=by refine(?_:x∈([a]++nd a).foldl fu N↔_);rw [h2];simp
  rw [this];constructor
  ·rintro ((z | z) | ⟨k,hk,z⟩)
   ·exact .inl z
   ·exact .inr ⟨a,.head _,z⟩
   ·exact .inr ⟨k,.tail _ hk,z⟩
  ·rintro (z | ⟨k,hk,z⟩)
   ·exact .inl (.inl z)
   ·refine aP (cM.mp hk) (λq=>?_) λhk=>?_
    ·subst q;exact .inl (.inr z)
    ·exact .inr ⟨k,hk,z⟩
section
variable {nd:Int->List Int} {pg:Int->Str} {ord:List Int} (c:Cfg nd pg ord)
noncomputable def rowsOf (nd:Int->List Int) (pg:Int->Str) (ord:List Int):List (Str×List Str):=ord.map λk=>(pg k,(nd k).map pg)
include c
theorem D3 (hN: ∀x∈N,x∈bq) (hj:j∈bq):md (N.map pg) (pg j)=(fu N j).map pg:=by
 delta md fu;rw [eA];by_cases h:j∈N
 ·rw [lT h,aF ((gN c hN hj).mpr h),aF rfl]
 ·rw [mE h,ay (λz=>h ((gN c hN hj).mp z)),ay dM,e9];rfl
theorem z7: ∀(l N:List Int),(∀x∈N,x∈bq)->(∀x∈l,x∈bq)->(l.map pg).foldl md (N.map pg)=(l.foldl fu N).map pg/\ ∀x∈l.foldl fu N,x∈bq:=by
 intro aH;induction aH with
 | nil=>intro N hN u;exact⟨rfl,hN⟩
 | cons a l ih=>
  intro N hN hl;have ha:=hl a (.head _);have PI: ∀x∈fu N a,x∈bq:=λx hx=>(tT.mp hx).elim (hN x) λe=>by rw [e];exact ha
  refine bI (ih (fu N a) PI λx hx=>hl x (.tail _ hx)) λh1 h2=>⟨by rw [dj,cW,D3 c hN ha,h1,cW],h2⟩
theorem Hz: ∀(o N:List Int),(∀x∈N,x∈bq)->(∀x∈o,x∈bq)->(rowsOf nd pg o).foldl (λN r=>(r.1::r.2).foldl md N) (N.map pg)=(o.foldl (uv nd) N).map pg/\ ∀x∈o.foldl (uv nd) N,x∈bq:=by
 intro aH;induction aH with
 | nil=>intro N hN u;exact⟨rfl,hN⟩
 | cons a o ih=>
  intro N hN hl;have hi: ∀x∈ [a]++nd a,x∈bq:=λx hx=>by
   refine aP (cu.mp hx) (λh=>?_) λh=>?_
   ·obtain rfl:=ju.mp h;exact hl x (.head _)
   ·exact c.Jq a x h
  refine bI (z7 c ([a]++nd a) N hN hi) λh1 h2=>bI (ih (uv nd N a) h2 λx hx=>hl x (.tail _ hx)) λh3 h4=>⟨?_,h4⟩;refine(?_:(rowsOf nd pg o).foldl _ ((pg a::(nd a).map pg).foldl md (N.map pg))=_);rw [show pg a::(nd a).map pg=([a]++nd a).map pg from rfl,h1];exact h3
theorem HK (hk:k∈bq): ∀{o:List Int},o.Nodup->(∀x∈o,x∈bq)->og (rowsOf nd pg o) (pg k)=if k∈o then((nd k).length:Int)else 0:=by
 intro aH;induction aH with
 | nil=>intro u v;exact rfl
 | cons a o ih=>
  intro hn hl;have hn':=hH.mp hn;have ih:=ih hn'.2 λx hx=>hl x (.tail _ hx);unfold og rowsOf at ih⊢;rw [dj,dj,List.sum_cons,ih];by_cases e:k=a
  ·subst e;rw [aF rfl,ay hn'.1,aF (.head _),bw];omega
  ·rw [ay (λz=>e (c.inj k hk a (hl a (.head _)) z))];by_cases ho:k∈o
   ·rw [aF ho,aF (.tail _ ho)];omega
   ·rw [ay ho,ay (by rw [cM,not_or];exact⟨e,ho⟩)];omega
theorem IV (hj:j∈bq):((rowsOf nd pg ord).flatMap λr=>(r.2.filter (· ==pg j)).map λu=>r.1)=(mT ord nd j).map pg:=by
 unfold rowsOf mT;rw [List.flatMap_map,List.map_flatMap]
 congr 1
 funext k;refine(?_:(((nd k).map pg).filter (· ==pg j)).map (λu=>pg k)=_);rw [List.filter_map,dP,dP];have:(nd k).filter ((· ==pg j) ∘ pg)=(nd k).filter (· ==j):=by
  apply zX;intro i hi;refine(?_:(pg i==pg j)=(i==j));by_cases e:i=j
  ·subst e;simp
  ·rw [tr.mpr e,tr.mpr λz=>e (c.inj i (c.Jq k i hi) j hj z)]
 rw [this];rfl
noncomputable def my (nd:Int->List Int) (pg:Int->Str) (ord:List Int):SS:=hV (rowsOf nd pg ord) q0
theorem wD:RS nd pg ord (my nd pg ord).prep [] (HV nd (de ord nd))/\CX (my nd pg ord)/\(my nd pg ord).rd=none/\(∀x∈de ord nd,x∈bq):=by
 have oi: ∀x∈ord,x∈bq:=λx hx=>(c.oi x).mp hx;have T:=uz (rowsOf nd pg ord) q0 Bh;refine bI (Hz c ord [] (λx hx=>by exact je hx) oi) λk1 k2=>bI (vi nd ord [] pV) λk3 k4=>?_;obtain⟨N,hN⟩: ∃N,N=de ord nd:=⟨_,rfl⟩;have hN':ord.foldl (uv nd) []=N:=by rw [hN];rfl
 rw [hN']at k1 k2 k3 k4;rw [<-hN];have ks:(my nd pg ord).ks=N.map pg:=T.ks.trans k1;have np: ∀k∈bq,(my nd pg ord).np (pg k)=((nd k).length:Int):=λk hk=>by refine(?_:(hV _ q0).np (pg k)=_);rw [T.np,HK c hk c.on oi,aF ((c.oi k).mpr hk)];refine(?_:(0:Int)+_=_);omega
 have su: ∀j∈bq,(my nd pg ord).su (pg j)=(mT ord nd j).map pg:=λj hj=>by refine(?_:(hV _ q0).su (pg j)=_);rw [T.su,IV c hj];rfl
 have nin: ∀k∈bq,k∈N:=λk hk=>(k4 k).mpr (.inr ⟨k,(c.oi k).mpr hk,.inl rfl⟩);have r0: ∀k,tD nd [] k=(nd k).length:=λk=>by delta tD;rw [List.countP_eq_length];intro a w;rfl
 have kx: ∀x∈(my nd pg ord).ks,∃k∈bq,x=pg k:=λx hx=>by rw [ks]at hx;refine V.c12 (bM.mp hx) λk hk v=>?_;subst v;exact V.i12 k (k2 k hk) rfl
 have tQ: ∀k∈bq,pg k∈(my nd pg ord).ks:=λk hk=>by rw [ks];exact bM.mpr ⟨k,nin k hk,rfl⟩
 have gm: ∀k,k∈HV nd N↔k∈N/\(nd k).length=0:=λk=>by delta HV;rw [kO,A4,List.length_eq_zero_iff]
 refine tI ⟨by refine(?_:(my nd pg ord).ks.Nodup);rw [ks];exact lR c k2 k3,tQ,kx,su,?_,?_,λk hk w=>by rw [r0];exact np k hk,λk w h=>(by exact je h),?_,λk hk=> ?_,λk hk=> ?_,.nil⟩ ⟨by rw [ks];exact lR c k2 k3,λx hx y hy=> ?_,?_⟩ T.rd k2
 ·refine(?_:some ((my nd pg ord).ks.filter λx=>(my nd pg ord).np x==0)=_);rw [ks,List.filter_map];delta HV
  congr 2
  apply zX;intro k hk;refine(?_:((my nd pg ord).np (pg k)==0)=_);rw [np k (k2 k hk)];cases nd k<;>rfl
 ·refine(?_:(my nd pg ord).po=(my nd pg ord).nf);rw [show(my nd pg ord).po=_ from T.po,show(my nd pg ord).nf=_ from T.nf];rfl
 ·rw [kR];exact List.Pairwise.filter _ k3
 ·rw [kR]at hk;exact k2 k ((gm k).mp hk).1
 ·rw [kR,gm,r0];exact⟨λz=>z.2,λz=>⟨nin k hk,z⟩⟩
 ·refine V.c12 (kx x hx) λk hk u=>?_;subst u;rw [su k hk]at hy;refine V.c12 (bM.mp hy) λk2 hk2 q=>?_;subst q;exact tQ k2 (pk c hk2).1
 ·rw [ks,bw];have:=uy k3 (l₂:=bq) k2;exact bU this (by decide)
theorem yF: ∀x,∀y∈(my nd pg ord).su x,∃k∈bq,∃j∈nd k,pg j=x/\pg k=y:=by
 intro x y hy;have T:=uz (rowsOf nd pg ord) q0 Bh;rw [show(my nd pg ord).su x=_ from T.su x]at hy;refine aP (cu.mp hy) (λh=>?_) λh=>?_
 ·exact je h
 ·refine V.c12 (wL.mp h) λr hr h=>?_;refine V.c12 (bM.mp hr) λk hk u=>?_;subst u;refine V.c12 (bM.mp h) λz hz q=>?_;subst q;have hz:=kO.mp hz;refine V.c12 (bM.mp hz.1) λj hj e=>?_;exact⟨k,(c.oi k).mp hk,j,hj,by rw [e];exact gJ.mp hz.2,rfl⟩
theorem yY (hol:ord.length<=10) {st:Int}: ∀(n:Nat) (q:SS) (E g:List Int),RS nd pg ord q E g->6 - E.length<=n->
  ∃rs q',th st ord nd E g rs/\Ae pg st q rs q'/\rs.length<=n/\(∀h∈rs,h.length<=6)/\RS nd pg ord q' (E++rs.flatten) []/\q'.ks=q.ks:=by
 intro n;have nil: ∀(q:SS) (E:List Int) (n:Nat),RS nd pg ord q E []-> ∃rs q',th st ord nd E [] rs/\Ae pg st q rs q'/\rs.length<=n/\(∀h∈rs,h.length<=6)/\RS nd pg ord q' (E++rs.flatten) []/\q'.ks=q.ks:=λq E n R=>
  ⟨[],q,.nil,.nil R.rd (by rw [R.pn];simp) R.nk,dW _,λh hh=>(by exact je hh),by rw [List.flatten_nil,iM];exact R,rfl⟩
 induction n with
 | zero=>intro q E g R hn;have:=R.len;have hg:g= []:=List.eq_nil_of_length_eq_zero (by omega);subst hg;exact nil q E 0 R
 | succ n ih=>
  intro q E g R hn;by_cases hg:g= []
  ·subst hg;exact nil q E (n+1) R
  ·have hl:=R.len;have gp:0<g.length:=Gg.mpr hg;refine kD (R.facts c hol) λgi gn gE far=>nM (R.step (st:=st) c hol) λdp R2 ek=>?_;refine NX (ih _ _ _ R2 (by rw [cS];omega)) λrs q' h1 h2 h3 h4 h5 h6=>?_;refine OF (g::rs) q' (.cons hg (by omega) (by omega) h1) (.cons hg R.rd R.nk (λx hx=> ?_) (by omega) (by rw [R.pn];exact Int.le_refl _) gi dp h2) (by rw [cq];omega+splitDisjunctions) (λh hh=> ?_) ?_ (h6.trans ek)
   ·refine kK (bM.mp hx) λk hk=>?_;exact R.ks k (gi k hk)
   ·refine aP (cM.mp hh) (λz=>?_) λhh=>?_
    ·subst z;omega
    ·exact h4 h hh
   ·rw [List.flatten_cons,<-eX];exact h5
omit c in
theorem Bl.sub {su:Str->List Str} (h:Bl su fl): ∀z∈fl,∀y∈su z,y∈fl:=by
 induction h with
 | nil=>intro z hz;exact je hz
 | cons h n t ih=>
  intro z hz y hy;refine aP (cM.mp hz) (λq=>?_) λhz=>?_
  ·subst q;exact .tail _ (h y hy)
  ·exact .tail _ (ih z hz y hy)
omit c in
theorem Bl.none {su:Str->List Str} {S:Str->Prop} (h:Bl su fl):(∀x,S x->x∈fl)->(∀x,S x-> ∃z,S z/\x∈su z)-> ∀x,¬S x:=by
 induction h with
 | nil=>intro h1 v x hx;cases h1 x hx
 | cons h n t ih=>
  intro h1 h2;refine ih (λs hs=> ?_) h2;refine aP (cM.mp (h1 s hs)) (λu=>?_) λz=>?_
  ·subst u;refine V.c12 (h2 s hs) λz hz hy=>aP (cM.mp (h1 z hz)) (λq=>?_) λw=>?_
   ·subst q;exact absurd (h _ hy) n
   ·exact absurd (Bl.sub t z w _ hy) n
  ·exact z
omit c in
theorem sL.pred {su:Str->List Str}: ∀{t:List Str} {a:Str},sL su (a::t)-> ∀x∈t,∃z∈a::t,x∈su z:=by
 intro aH;induction aH with
 | nil=>
  intro u v x hx;exact by exact je hx
 | cons b t ih=>
  intro a h x hx;cases h with
  | cons h l=>
   refine aP (cM.mp hx) (λq=>?_) λhx=>?_
   ·subst q;exact V.i12 a (.head _) h
   ·refine V.c12 (ih l x hx) λz hz w=>V.i12 z (.tail _ hz) w
theorem IC (R:RS nd pg ord q' E []) (Gs:q'.su=(my nd pg ord).su) (hks:q'.ks=(my nd pg ord).ks) (res:Option (List Str)) (h:Mi (my nd pg ord).su (my nd pg ord).ks res):res.isSome=decide ((E.length:Int)<6):=by
 have dn:E.Nodup:=by have:=R.dg;rw [iM]at this;exact this
 have ei: ∀k∈E,k∈bq:=λk hk=>R.ei k (cu.mpr (.inl hk));have inv: ∀k∈bq,k∈E↔tD nd E k=0:=λk hk=>by have:=R.inv k hk;rw [iM]at this;exact this
 have su: ∀j∈bq,(my nd pg ord).su (pg j)=(mT ord nd j).map pg:=λj hj=>by rw [<-Gs];exact R.su j hj
 cases res with
 | none=>
  refine V.c12 h λfl tp hf=>?_;clear h;have no:=Bl.none (S:=λx=> ∃k∈bq,k∉E/\x=pg k) tp (λx m=>(by refine fJ m λk hk _ e=>?_;clear m;rw [e];exact hf _ (by rw [<-hks];exact R.ks k hk))) (λx r=>by
   refine fJ r λk hk hn e=>?_;clear r;have h0:tD nd E k≠0:=λz=>hn ((inv k hk).mpr z);obtain⟨i,hi,hz⟩: ∃i∈nd k,i∉E:=by delta tD at h0;rw [Ne,List.countP_eq_zero]at h0;refine DW λw=>h0 λa ha z=>w ⟨a,ha,?_⟩;rw [eA]at z;simpa using z
   have Ov:=c.Jq k i hi;refine V.i12 (pg i) ⟨i,Ov,hz,rfl⟩ ?_;rw [e,su i Ov];exact bM.mpr ⟨k,KC c hk hi,rfl⟩)
  have all: ∀k∈bq,k∈E:=λk hk=>DW λz=>no (pg k) ⟨k,hk,z,rfl⟩;have:=uy (l₁:=bq) (l₂:=E) (by decide) all;have e6:bq.length=6:=rfl;refine(?_:false=_);rw [mE];omega
 | some L=>
  refine fq h λy M t=>?_;clear h;subst t;intro G8 lk;have pr: ∀x∈M++ [y],∃z∈M++ [y],x∈(my nd pg ord).su z:=λx hx=>by
   refine V.c12 (sL.pred lk x hx) λz hz w=>aP (cM.mp hz) (λv=>?_) λhz=>?_
   ·subst v;exact V.i12 z (by simp) w
   ·exact V.i12 z hz w
  have Ox: ∀x∈M++ [y],∃k∈bq,x=pg k:=λx hx=>by refine V.c12 (pr x hx) λz hz w=>?_;obtain⟨k,hk,_,_,_,e⟩:=yF c z x w;exact V.i12 k hk e.symm
  have out: ∀E,FD nd E-> ∀k∈bq,pg k∈M++ [y]->k∉E:=by
   intro E hA
   induction hA with
   | nil=>intro k g p z;exact je z
   | snoc hA hk0 ih=>
    intro k hk hm z;refine aP (cu.mp z) (λz=>?_) λz=>?_
    ·exact ih k hk hm z
    ·obtain rfl:=ju.mp z;refine V.c12 (pr _ hm) λw hw hy=>?_;refine V.c12 (Ox w hw) λj hj u=>?_;subst u;rw [su j hj]at hy;have hs:=(gN c (λx hx=>(pk c hx).1) hk).mp hy;exact ih j hj hw (hk0 j (pk c hs).2)
  refine V.c12 (Ox y (by simp)) λky Oy ey=>?_;have hn:ky∉E:=out E R.Ou ky Oy (by rw [<-ey];simp);have:=uy (l₁:=ky::E) (l₂:=bq) (hH.mpr ⟨hn,dn⟩) (λx hx=>by
   refine aP (cM.mp hx) (λq=>?_) λhx=>?_
   ·subst q;exact Oy
   ·exact ei x hx)
  have e6:bq.length=6:=rfl;rw [cq]at this;refine(?_:true=_);rw [lT];omega
end
theorem By: ∀rs:List (List Int),(rs.map λg=>(g.length:Int)).sum=(rs.flatten.length:Int):=by
 intro aH;induction aH with
 | nil=>exact rfl
 | cons g rs ih=>
  exact by rw [dj,List.sum_cons,ih,List.flatten_cons,cS];omega
theorem AR (t:Int):(bq.map (iz t)).Nodup/\ ∀k,k∈bq.map (iz t)↔k∈bq:=by
 have e: ∀i,iz t i=(t % 6+i) % 6:=λi=>by delta iz;rw [Int.fmod_eq_emod_of_nonneg _ (by decide)];omega
 obtain⟨m,hm⟩: ∃m,m=t % 6:=⟨_,rfl⟩;have PJ:m=0\/m=1\/m=2\/m=3\/m=4\/m=5:=by omega
 have e2:bq.map (iz t)=bq.map λi=>(m+i) % 6:=pM λi u=>by rw [e,hm]
 have nd:((bq.map λi=>(m+i) % 6)).Nodup/\(∀k∈bq,k∈bq.map λi=>(m+i) % 6):=by
  rcases PJ with rfl | rfl | rfl | rfl | rfl | rfl<;>decide
 rw [e2];exact⟨nd.1,λk=>⟨λh=>by rw [<-e2]at h;refine kK (bM.mp h) λi _=>?_;exact wZ t i,nd.2 k⟩⟩
theorem M4 (nA:Int->Int) (t:Int): ∃rs q',Plan nA (iz t) (stOf t) rs q':=by
 have tH: ∀i∈bq,iz t i∈bq:=λi u=>wZ t i;refine bI (AR t) λon om=>?_;have c:Cfg (tM nA) (jH nA) (bq.map (iz t)):=⟨λi hi j hj e=>by rw [<-(lG nA hi).kk,e,(lG nA hj).kk],λk=>nS _,λk=>pd _,on,om⟩;have et:my (tM nA) (jH nA) (bq.map (iz t))=tL nA (iz t):=by unfold my tL rowsOf;rw [dP];rfl
 refine kD (wD c) λPK G rd nm=>?_;have hst:stOf t=1\/stOf t= -1:=by delta stOf;split<;>simp
 refine NX (yY c (by rw [bw];decide) (st:=stOf t) 6 _ [] _ PK (by simp)) λrs q' h1 h2 h3 h4 h5 h6=>?_;rw [kR]at h5;have Gs:q'.su=(my (tM nA) (jH nA) (bq.map (iz t))).su:=by
  have: ∀(rs:List (List Int)) (q q':SS),Ae (jH nA) (stOf t) q rs q'->q'.su=q.su:=by
   intro rs q q' h
   induction h with
   | nil=>rfl
   | cons _ _ _ _ _ _ _ hd _ ih=>rw [ih,hd.all.2.1,lh]
  have z:=this rs _ q' h2;exact z
 refine N0 rs q' ⟨λk hk=> ?_,λk hk=>CN hk,KZ nA _ tH,yM nA _ tH,Bi nA _ tH,xC nA _ tH,λk hk=>DK nA hk,nm,hst,h1,by omega,λg hg=>bU (h4 g hg) (by decide),?_,?_,λres hr=> ?_,?_,?_,?_⟩
 ·have P:=lG nA hk;exact tI ⟨bU P.ln (by decide),fg P.ok yJ⟩ (bU P.ln (by decide)) ⟨P.c0,P.c9⟩ (i9 (fg P.ok vH))
 ·rw [<-et];exact G
 ·rw [<-et];exact rd
 ·rw [<-et]at hr;rw [By];exact IC c h5 Gs h6 res hr
 ·rw [<-et];exact yF c
 ·rw [<-et];exact h2
 ·rw [<-et];exact h6
end L1
end
section
set_option maxRecDepth 1000000
set_option maxHeartbeats 0
namespace H1
open PySem.Challenge
noncomputable abbrev kp:List Nat:= [0,1,3,4,5,7,9,10,11,12,13,15,17,19,20,22,24,26,27,28,29,30,32,33,34,35,36,37,38,39,40,41]
noncomputable abbrev qv:Program:=view pw_ik0233_01 kp
noncomputable abbrev lo:List Str:= [Str.ofString "tspecials",Str.ofString "_name_disallowed_re",Str.ofString "_value_disallowed_re",Str.ofString "_formatparam",Str.ofString "_NodeInfo"]
noncomputable abbrev hk:Hook:=kHook K MZ (λ_=>by kernel_rfl)
noncomputable abbrev xt (s:Shared):Bool:=xlAt qv [] s && recOk (RowW.records rw_ik0233_01.row.toRowW) s
theorem check (w:World):(HD.top pw_ik0233_01 (stepT (denote treeTable) (opening pw_ik0233_01) w) (stepT (denote treeTable) pw_ik0233_01 w) (λt=>t.atExitBegin.map List.isEmpty) stepOk (start (opening pw_ik0233_01)) (fenceModules? pw_ik0233_01) Heap.nsMap 3600).map (λr=>(staticsOk (importedModules pw_ik0233_01.main.body) r.1.heap r.2.abs.heap && namesBound pw_ik0233_01 r.2.abs.heap && gensDone r.2.abs && laidKept r.1.heap r.2.abs.heap,openSeen qv lo (importedModules pw_ik0233_01.main.body) xt true r.2.abs,MZ.map r.2.abs.heap.get?))=some (true,openGood qv lo,(K w.params).map λp=>some p.2):=by rw [PySem.W.Fast.te10156331382660048174,PySem.W.Fast.te11892475500146522536,PySem.W.Fast.te14364793385576792824,PySem.W.Fast.te6613529449190102663,PySem.W.Fast.te1435165496053646825,PySem.W.Fast.te14289696077712309145,PySem.W.Fast.te3805553451399329143,PySem.W.Fast.te8920871248978507458,PySem.W.Fast.te4187177175401517315,PySem.W.Fast.te5923862056798008813];kernel_rfl
theorem left:LeftO rw_ik0233_01.row.prog qv lo xt hk.obs hk.val 3600:=λw=>by
 obtain⟨s0,s1,e,f⟩:=HD.Hm (F:=λu s=>(openSeen qv lo (importedModules pw_ik0233_01.main.body) xt true s,MZ.map s.heap.get?)) (check w);show(openEnds treeTable pw_ik0233_01 w 3600).map _=_
 rw [e];exact dY some f
theorem said:rw_ik0233_01.wellSaid=true:=by rw [PySem.W.Fast.te9446332074065402090];kernel_rfl
theorem hd (walk: ∀(d:DefRec),defOf qv rw_ik0233_01.row.name=some (d,[])->WalkO qv lo (XL qv []) hk.says rw_ik0233_01.row.toRowW d [] λf vs=>PySem.call f vs):rw_ik0233_01.Holds:=by
 refine holds_law said λsaid=>holds_open (q:=qv) (loose:=lo) (Xt:=xt) (XP:=XL qv []) (Yf:=hk.obs) (Ya:=hk.val) (YP:=hk.says) (N:=3600) left hk.of hk.keeps (λs e=>xl_of s (Bool.and_eq_true_iff.mp e).1) XL.keeps (by rfl) (by rfl) (by rfl) (λs e=>recFacts_of (Bool.and_eq_true_iff.mp e).2) (by rfl) said (by decide+kernel) ⟨rfl,rfl,rfl,rfl,rfl,by decide+kernel⟩ ?hw ?hc
 case hw=>w_witness2
 case hc=>exact walk _ rfl
end H1
end
section
namespace L1
theorem Bf: ∀{vs:List Value} {ns:List Int},IntsAre vs ns->aU W (ns.map .int) vs:=by
 intro vs ns h
 induction h with
 | nil=>exact .nil
 | cons n t _ ih=>exact .cons b8 ih
set_option tactic.hygienic true in
theorem E6 {mg mb:Str->Option Value} {mean:ExcName->Option Value} (T:Top p loose mean mg mb aI.heap) (KX:(H1.K w.params).In aI.heap) (hg:aI.gens= #[]) (hmg:mg (Str.ofString "law")=some (.ref fa)) (hL:aI.heap.IsList a vs.toArray) (w1:Well w.params aI.heap (.ref a) d) (hI:IntsAre vs ns) (hz:ns.length<=63)
  {R:Result->Shared->Prop} (hR: ∀s',(∀b o,aI.heap.get? b=some o->s'.heap.get? b=some o)->s'.os=aI.os->s'.gens= #[]->R (.ok (.ret (.bool true))) s'):
  codeAny (model Challenge.rw_ik0233_01.row.prog w) callerA (.call (.ref fa) ⟨[.ref a],[]⟩) R aI:=by
 obtain⟨C,hC⟩: ∃C:V.Cx,C=⟨Challenge.rw_ik0233_01.row.prog,w,H1.K w.params,aI.heap,aI.os,mg,mb,none,aI.toks⟩:=⟨_,rfl⟩;have O:C.Ok:=by subst hC;exact⟨KX,T.g,T.b,T.builtins,T.nolimit⟩
 have I:Is C:=⟨O,by subst hC;rfl,by subst hC;rfl⟩;have hm:C.mg (Str.ofString "law")=some (.ref 479):=(L1.mg I _).trans (by kernel_rfl);have hfa:fa=479:=by
  have:C.mg=mg:=by subst hC;rfl
  rw [this,hmg]at hm;exact Value.ref.inj (dI hm)
 subst hfa;obtain⟨W,hW⟩: ∃W:V.Wd,W=⟨λu=>none,aI.heap.get?⟩:=⟨_,rfl⟩;have hobj:aI.heap.get? a=some {cls:= .type "list",data:= .seq vs.toArray}:=by
  obtain⟨o,ho,hc,n,hd⟩:=hL;have key: ∀o',aI.heap.get? a=some o'->o'.cls= .type "list"/\o'.data= .seq vs.toArray n:=λo' e=>by rw [ho]at e;obtain rfl:=dI e;exact⟨hc,hd⟩
  clear ho hc hd;cases w1
  case list h1 h2=>
   have e:=(key _ h2).2;simp only [Data.seq.injEq]at e;rw [h2,e.1]
  all_goals
   exfalso;have e:=(key _ (by assumption)).1;simp at e
 have hv:aw W (.lst (ns.map .int)) (.ref a):=by exact v7 a _ vs 0 rfl (by rw [hW];exact hobj) rfl rfl (Bf hI)
 have inv:V.Inv C W (λu=>none) aI:=by subst hC hW;refine⟨λl=>rfl,λl l' a e=>(by exact dF e),λl a o e=>(by exact dF e),λl a e=>(by exact dF e),λa o e=>⟨o,e,.refl o⟩,λa o e=>e,λa o e=>e,hg,rfl,bT _,?_,λl a e=>(by exact dF e)⟩;refine tC T.g λo es ep ho _=>⟨o,ho⟩
 refine V.c21 (M4 (numAt ns) ns.sum) λrs q' P=>?_;have call:=Kb I (k:=0) (Z:=λu=>none) (ns:=ns) (by omega) P W (.ref 479) [.ref a] [] rfl (.cons hv .nil) rfl callerA aI [] ⟨by decide+kernel,by decide+kernel,⟨λu=>rfl,λu=> .inl rfl⟩⟩ rfl (λe he=>(by exact je he)) inv;have eM:C.M=model Challenge.rw_ik0233_01.row.prog w:=by subst hC;rfl
 rw [eM]at call;refine kZ call λr s' h=> ?_
 match r,h with
 | .ok (.ret r),h=>obtain⟨W',le,I',q⟩:=h;dsimp only [aw]at q;subst q;refine hR s' (λb o e=>I'.kept b o (by subst hC;exact e)) (I'.os.trans (by subst hC;rfl)) I'.gens
 | .ok .next,h=>exact h.elim
 | .ok .brk,h=>exact h.elim
 | .ok .cont,h=>exact h.elim
 | .error _,h=>exact h.elim
end L1
end
set_option maxRecDepth 100000 in
set_option maxHeartbeats 8000000 in
theorem PySem.Challenge.cw_ik0233_01_holds : PySem.Challenge.rw_ik0233_01.Holds := by
 refine H1.hd λd hdd=> ?_;intro w I5 aI mg mb G Y fa o pm cd doc dV kV ho hd hcd hD hmg hg args vals as hpre hlay hrd hwl hlo;have KX:=kIn_of Y;have hmg:mg (Str.ofString "law")=some (.ref fa):=(dY mg (defOf_name hdd)).symm.trans hmg;refine Ground.open G ?_;intro T B D TE TW;clear hd hD hcd D
 wrow_args hpre hlay hrd hwl hlo
 refine enter_call ?_;rename_i hL _ w1 _ hI _ hcond _;refine L1.E6 T KX hg hmg hL w1 hI (by omega) λs' h1 h2 h3=>GoodW.toG ⟨.inl ⟨.bool true,.bool true,[],rfl,λ_=>rfl,.bool true,(by kernel_rfl),unshared_nil⟩,h1,h2,h3⟩
