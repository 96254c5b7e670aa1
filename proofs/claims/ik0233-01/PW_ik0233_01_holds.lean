import PyProof.Rows.All
import PyProof.Parts
import PyProof.Conv_bool
import PyProof.NeData
import PyProof.ExcStrCall
import PyProof.NsDelKeeps
import PyProof.Rows.RuleIs
import Wide.Loose
import KE.BytesMake
import KE.KDictIter
import KE.KItemsList
import KE.KStar
import Wide.FinOn
import OpenK.AllK
import Wide.All
import PySem.Challenge.RW_ik0233_01
set_option linter.all false
set_option genSizeOf false
set_option genInjectivity false
set_option compiler.extract_closed false
set_option Elab.async false
set_option autoImplicit true
set_option tactic.hygienic false
set_option maxRecDepth 100000
set_option maxHeartbeats 4000000
open PySem PySem.W PySem.Calls PyProof.Rows
section
namespace V
def ak:=@PySem.wpAny_bind
def aQ:=@PySem.wpAny_pure
def bu:=@List.length_map
def az:=@if_neg
def cq:=@List.length_cons
def aP:=@Or.elim
def bM:=@List.mem_map
def cV:=@List.length_append
def cm:=@List.mem_append
def bU:=@Nat.le_trans
def dX:=@Nat.le_of_ble_eq_true
def aG:=@if_pos
def bF:=@PySem.wpAny_mono
def bT:=@Nat.le_refl
def dZ:=@PySem.Heap.get?_push_size
def cX:=@List.foldl_cons
def dN:=@Bool.false_ne_true
def cA:=@PySem.wpAny_holding
def cF:=@PySem.wpAny_standAt
def cI:=@List.mem_cons
def dI:=@Option.some.inj
def dj:=@List.map_cons
def eX:=@List.append_assoc
def ip:=@List.mem_of_getElem?
def fk:=@List.map_append
def gq:=@List.getElem?_map
def gj:=@List.flatMap_cons
def dP:=@List.map_map
def jw:=@PySem.Heap.get?_update_self
def iK:=@Array.length_toList
def iP:=@Bool.false_eq_true
def gO:=@Nat.le_add_right
def dW:=@Nat.zero_le
def i8:=@List.mem_singleton
def lI:=@List.getElem?_eq_some_iff
def gM:=@List.nodup_cons
def pY:=@Array.all_eq_true_iff_forall_mem
def ic:=@List.length_nil
def jx:=@of_decide_eq_true
def eL:=@PySem.wpAny_of_eq
def iI:=@List.append_nil
def nv:=@List.getElem?_eq_getElem
def mn:=@PySem.Heap.get?_push_of_some
def o9:=@List.getElem?_eq_none_iff
def m8:=@PySem.Heap.get?_update_other
def lQ:=@List.filterMap_cons
def iM:=@Nat.lt_irrefl
def il:=@PySem.Heap.lt_size
def dM:=@congrArg
def uB:=@List.Nodup.length_le_of_subset
def nC:=@Array.mem_toList_iff
def pH:=@PySem.Around.under_of_weight
def kQ:=@List.nil_append
def kO:=@List.mem_filter
def gB:=@beq_iff_eq
def iL:=@PySem.wpAny_field
def jS:=@PySem.wpAny_onRaise
def mI:=@Bool.and_eq_true
def jr:=@PySem.sizeLine_eq
def ju:=@Nat.le_succ
def uE:=@Option.isSome_iff_exists
def mH:=@decide_eq_false
def mA:=@PySem.codeAny_of_tree
def lE:=@decide_eq_true
def p5:=@List.map_congr_left
def nU:=@PySem.wpAny_newObj_type
def nc:=@List.forIn_cons
def kZ:=@PySem.codeAny_mono
def tq:=@beq_eq_false_iff_ne
def pL:=@decide_eq_true_eq
def tY:=@PySem.builtinLookup_eq_fast
def ni:=@PySem.Value.type.inj
def m5:=@PySem.Heap.size_push
def rO:=@Nat.lt_of_lt_of_le
def vi:=@List.getElem?_of_mem
def pP:=@List.filter_cons
def pM:=@List.all_eq_true
def tm:=@PySem.getMethod_builtin
def f7:=@Ne.symm
def pJ:=@List.nodup_nil
def zR:=@Option.bind_eq_some_iff
def BM:=@Array.getElem?_setIfInBounds
def ue:=@List.nodup_append
def uA:=@List.foldl_append
def vH:=@Int.toNat_natCast
def xr:=@PySem.Value.isStrOf_shape
def yU:=@List.filter_eq_nil_iff
def pd:=@Nat.zero_add
def oZ:=@Nat.lt_or_ge
def t8:=@List.length_drop
def xd:=@List.getElem?_drop
def jG:=@if_false
def td:=@PySem.wpAny_setField
def ta:=@PySem.isSubtype_type
def Ba:=@Classical.byContradiction
def zG:=@List.count_cons_self
def uD:=@PySem.typeLookup_type
def tS:=@List.of_mem_zip
def zb:=@PySem.Heap.SameBut.update
def xm:=@List.mem_reverse
def xl:=@List.mem_flatMap
def ur:=@PySem.wpAny_seqItems
def t5:=@List.forIn_nil
def wC:=@PySem.pushCells_keeps
def oQ:=@PySem.strKind_is
def Bx:=@List.length_filter_le
def Ad:=@PySem.arm_eval_Constant
def zk:=@Nat.le_of_succ_le
def zC:=@List.filter_congr
def zE:=@List.any_eq_false
def FK:=@Array.getElem?_eq_some_iff
def xv:=@PySem.wpAny_bindName
def xe:=@Nat.mul_le_mul
def z0:=@PySem.wpAny_call_entry
def zD:=@List.countP_cons
def yT:=@List.any_eq_true
def pF:=@PySem.typeIs_str
def pV:=@PySem.call_meets
def uJ:=@PySem.Sem.wp_bind'
def CG:=@List.filter_eq_self
def Cg:=@Array.toList_append
def FE:=@List.getElem?_take_of_lt
def Cc:=@PySem.slot_listiter_next
def Cv:=@List.filter_append
def Fw:=@PySem.wpAny_callSpecial?_slot
def rG:=@PySem.wpAny_rule
def rC:=@PySem.wpAny_call
def E7:=@Int.fmod_nonneg_of_pos
def DD:=@PySem.wpAny_dictEntries
def BH:=@bne_self_eq_false
def C6:=@List.take_add_one
def CW:=@List.size_toArray
def Cz:=@List.length_range
def B5:=@Bool.not_eq_true'
def BQ:=@Array.size_append
def An:=@List.mem_range
def yR:=@List.foldl_nil
theorem bG {A B:Prop} {Q:Prop} (h:A/\B) (k:A->B->Q):Q:=by obtain⟨h0,h1⟩:=h;exact k h0 h1
theorem nR {A B C:Prop} {Q:Prop} (h:A/\B/\C) (k:A->B->C->Q):Q:=by obtain⟨h0,h1,h2⟩:=h;exact k h0 h1 h2
theorem ku {A B C D:Prop} {Q:Prop} (h:A/\B/\C/\D) (k:A->B->C->D->Q):Q:=by obtain⟨h0,h1,h2,h3⟩:=h;exact k h0 h1 h2 h3
theorem ud {A B C D E:Prop} {Q:Prop} (h:A/\B/\C/\D/\E) (k:A->B->C->D->E->Q):Q:=by obtain⟨h0,h1,h2,h3,h4⟩:=h;exact k h0 h1 h2 h3 h4
theorem Gy {A B C D E F:Prop} {Q:Prop} (h:A/\B/\C/\D/\E/\F) (k:A->B->C->D->E->F->Q):Q:=by obtain⟨h0,h1,h2,h3,h4,h5⟩:=h;exact k h0 h1 h2 h3 h4 h5
theorem JB {A B C D E F G:Prop} {Q:Prop} (h:A/\B/\C/\D/\E/\F/\G) (k:A->B->C->D->E->F->G->Q):Q:=by obtain⟨h0,h1,h2,h3,h4,h5,h6⟩:=h;exact k h0 h1 h2 h3 h4 h5 h6
theorem Ot {A B C D E F G H:Prop} {Q:Prop} (h:A/\B/\C/\D/\E/\F/\G/\H) (k:A->B->C->D->E->F->G->H->Q):Q:=by obtain⟨h0,h1,h2,h3,h4,h5,h6,h7⟩:=h;exact k h0 h1 h2 h3 h4 h5 h6 h7
theorem tK {A B C D E F G H I:Prop} {Q:Prop} (h:A/\B/\C/\D/\E/\F/\G/\H/\I) (k:A->B->C->D->E->F->G->H->I->Q):Q:=by obtain⟨h0,h1,h2,h3,h4,h5,h6,h7,h8⟩:=h;exact k h0 h1 h2 h3 h4 h5 h6 h7 h8
theorem cG {α:Sort _} {A:α->Prop} {Q:Prop} (h: ∃a,A a) (k: ∀a,A a->Q):Q:=by obtain⟨a,h0⟩:=h;exact k a h0
theorem c12 {α:Sort _} {A B:α->Prop} {Q:Prop} (h: ∃a,A a/\B a) (k: ∀a,A a->B a->Q):Q:=by obtain⟨a,h0,h1⟩:=h;exact k a h0 h1
theorem fP {α:Sort _} {A B C:α->Prop} {Q:Prop} (h: ∃a,A a/\B a/\C a) (k: ∀a,A a->B a->C a->Q):Q:=by obtain⟨a,h0,h1,h2⟩:=h;exact k a h0 h1 h2
theorem C0 {α:Sort _} {A B C D:α->Prop} {Q:Prop} (h: ∃a,A a/\B a/\C a/\D a) (k: ∀a,A a->B a->C a->D a->Q):Q:=by obtain⟨a,h0,h1,h2,h3⟩:=h;exact k a h0 h1 h2 h3
theorem c21 {α:Sort _} {β:Sort _} {A:α->β->Prop} {Q:Prop} (h: ∃a b,A a b) (k: ∀a b,A a b->Q):Q:=by obtain⟨a,b,h0⟩:=h;exact k a b h0
theorem v8 {α:Sort _} {β:Sort _} {A B:α->β->Prop} {Q:Prop} (h: ∃a b,A a b/\B a b) (k: ∀a b,A a b->B a b->Q):Q:=by obtain⟨a,b,h0,h1⟩:=h;exact k a b h0 h1
theorem fu {α:Sort _} {β:Sort _} {A B C:α->β->Prop} {Q:Prop} (h: ∃a b,A a b/\B a b/\C a b) (k: ∀a b,A a b->B a b->C a b->Q):Q:=by obtain⟨a,b,h0,h1,h2⟩:=h;exact k a b h0 h1 h2
theorem tM {α:Sort _} {β:Sort _} {A B C D:α->β->Prop} {Q:Prop} (h: ∃a b,A a b/\B a b/\C a b/\D a b) (k: ∀a b,A a b->B a b->C a b->D a b->Q):Q:=by obtain⟨a,b,h0,h1,h2,h3⟩:=h;exact k a b h0 h1 h2 h3
theorem v7 {α:Sort _} {β:Sort _} {A B C D E:α->β->Prop} {Q:Prop} (h: ∃a b,A a b/\B a b/\C a b/\D a b/\E a b) (k: ∀a b,A a b->B a b->C a b->D a b->E a b->Q):Q:=by obtain⟨a,b,h0,h1,h2,h3,h4⟩:=h;exact k a b h0 h1 h2 h3 h4
theorem NR {α:Sort _} {β:Sort _} {A B C D E F:α->β->Prop} {Q:Prop} (h: ∃a b,A a b/\B a b/\C a b/\D a b/\E a b/\F a b) (k: ∀a b,A a b->B a b->C a b->D a b->E a b->F a b->Q):Q:=by obtain⟨a,b,h0,h1,h2,h3,h4,h5⟩:=h;exact k a b h0 h1 h2 h3 h4 h5
theorem Js {α:Sort _} {β:Sort _} {γ:Sort _} {A:α->β->γ->Prop} {Q:Prop} (h: ∃a b c,A a b c) (k: ∀a b c,A a b c->Q):Q:=by obtain⟨a,b,c,h0⟩:=h;exact k a b c h0
theorem sL {α:Sort _} {β:Sort _} {γ:Sort _} {A B:α->β->γ->Prop} {Q:Prop} (h: ∃a b c,A a b c/\B a b c) (k: ∀a b c,A a b c->B a b c->Q):Q:=by obtain⟨a,b,c,h0,h1⟩:=h;exact k a b c h0 h1
theorem lU {α:Sort _} {β:Sort _} {γ:Sort _} {A B C:α->β->γ->Prop} {Q:Prop} (h: ∃a b c,A a b c/\B a b c/\C a b c) (k: ∀a b c,A a b c->B a b c->C a b c->Q):Q:=by obtain⟨a,b,c,h0,h1,h2⟩:=h;exact k a b c h0 h1 h2
theorem AD {α:Sort _} {β:Sort _} {γ:Sort _} {A B C D:α->β->γ->Prop} {Q:Prop} (h: ∃a b c,A a b c/\B a b c/\C a b c/\D a b c) (k: ∀a b c,A a b c->B a b c->C a b c->D a b c->Q):Q:=by obtain⟨a,b,c,h0,h1,h2,h3⟩:=h;exact k a b c h0 h1 h2 h3
theorem Hr {α:Sort _} {β:Sort _} {γ:Sort _} {A B C D E:α->β->γ->Prop} {Q:Prop} (h: ∃a b c,A a b c/\B a b c/\C a b c/\D a b c/\E a b c) (k: ∀a b c,A a b c->B a b c->C a b c->D a b c->E a b c->Q):Q:=by obtain⟨a,b,c,h0,h1,h2,h3,h4⟩:=h;exact k a b c h0 h1 h2 h3 h4
theorem NQ {α:Sort _} {β:Sort _} {γ:Sort _} {A B C D E F:α->β->γ->Prop} {Q:Prop} (h: ∃a b c,A a b c/\B a b c/\C a b c/\D a b c/\E a b c/\F a b c) (k: ∀a b c,A a b c->B a b c->C a b c->D a b c->E a b c->F a b c->Q):Q:=by obtain⟨a,b,c,h0,h1,h2,h3,h4,h5⟩:=h;exact k a b c h0 h1 h2 h3 h4 h5
theorem OB {α:Sort _} {β:Sort _} {γ:Sort _} {δ:Sort _} {A:α->β->γ->δ->Prop} {Q:Prop} (h: ∃a b c d,A a b c d) (k: ∀a b c d,A a b c d->Q):Q:=by obtain⟨a,b,c,d,h0⟩:=h;exact k a b c d h0
theorem L8 {α:Sort _} {β:Sort _} {γ:Sort _} {δ:Sort _} {A B:α->β->γ->δ->Prop} {Q:Prop} (h: ∃a b c d,A a b c d/\B a b c d) (k: ∀a b c d,A a b c d->B a b c d->Q):Q:=by obtain⟨a,b,c,d,h0,h1⟩:=h;exact k a b c d h0 h1
theorem NJ {α:Sort _} {β:Sort _} {γ:Sort _} {δ:Sort _} {A B C:α->β->γ->δ->Prop} {Q:Prop} (h: ∃a b c d,A a b c d/\B a b c d/\C a b c d) (k: ∀a b c d,A a b c d->B a b c d->C a b c d->Q):Q:=by obtain⟨a,b,c,d,h0,h1,h2⟩:=h;exact k a b c d h0 h1 h2
theorem wj {α:Sort _} {β:Sort _} {γ:Sort _} {δ:Sort _} {A B C D E:α->β->γ->δ->Prop} {Q:Prop} (h: ∃a b c d,A a b c d/\B a b c d/\C a b c d/\D a b c d/\E a b c d) (k: ∀a b c d,A a b c d->B a b c d->C a b c d->D a b c d->E a b c d->Q):Q:=by obtain⟨a,b,c,d,h0,h1,h2,h3,h4⟩:=h;exact k a b c d h0 h1 h2 h3 h4
theorem OE {α:Sort _} {β:Sort _} {γ:Sort _} {δ:Sort _} {ε:Sort _} {A B:α->β->γ->δ->ε->Prop} {Q:Prop} (h: ∃a b c d e,A a b c d e/\B a b c d e) (k: ∀a b c d e,A a b c d e->B a b c d e->Q):Q:=by obtain⟨a,b,c,d,e,h0,h1⟩:=h;exact k a b c d e h0 h1
theorem Ei {α:Sort _} {β:Sort _} {γ:Sort _} {δ:Sort _} {ε:Sort _} {A B C D:α->β->γ->δ->ε->Prop} {Q:Prop} (h: ∃a b c d e,A a b c d e/\B a b c d e/\C a b c d e/\D a b c d e) (k: ∀a b c d e,A a b c d e->B a b c d e->C a b c d e->D a b c d e->Q):Q:=by obtain⟨a,b,c,d,e,h0,h1,h2,h3⟩:=h;exact k a b c d e h0 h1 h2 h3
@[elab_as_elim] theorem rwm {α:Sort _} {a b:α} (h:a=b) {motive:α->Prop} (k:motive b):motive a:=by cases h;exact k
@[elab_as_elim] theorem rwr {α:Sort _} {a b:α} (h:b=a) {motive:α->Prop} (k:motive b):motive a:=by cases h;exact k
theorem nB {A B C:Prop} (h0:A) (h1:B) (h2:C):A/\B/\C:=⟨h0,h1,h2⟩
theorem tN {A B C D:Prop} (h0:A) (h1:B) (h2:C) (h3:D):A/\B/\C/\D:=⟨h0,h1,h2,h3⟩
theorem NP {A B C D E:Prop} (h0:A) (h1:B) (h2:C) (h3:D) (h4:E):A/\B/\C/\D/\E:=⟨h0,h1,h2,h3,h4⟩
theorem MQ {A B C D E F:Prop} (h0:A) (h1:B) (h2:C) (h3:D) (h4:E) (h5:F):A/\B/\C/\D/\E/\F:=⟨h0,h1,h2,h3,h4,h5⟩
theorem i12 {α:Sort _} {A B:α->Prop} (a:α) (h0:A a) (h1:B a): ∃a,A a/\B a:=⟨a,h0,h1⟩
theorem vO {α:Sort _} {A B C:α->Prop} (a:α) (h0:A a) (h1:B a) (h2:C a): ∃a,A a/\B a/\C a:=⟨a,h0,h1,h2⟩
theorem Gf {α:Sort _} {A B C D:α->Prop} (a:α) (h0:A a) (h1:B a) (h2:C a) (h3:D a): ∃a,A a/\B a/\C a/\D a:=⟨a,h0,h1,h2,h3⟩
theorem NF {α:Sort _} {β:Sort _} {A:α->β->Prop} (a:α) (b:β) (h0:A a b): ∃a b,A a b:=⟨a,b,h0⟩
theorem Gj {α:Sort _} {β:Sort _} {A B:α->β->Prop} (a:α) (b:β) (h0:A a b) (h1:B a b): ∃a b,A a b/\B a b:=⟨a,b,h0,h1⟩
theorem jE {α:Sort _} {β:Sort _} {A B C:α->β->Prop} (a:α) (b:β) (h0:A a b) (h1:B a b) (h2:C a b): ∃a b,A a b/\B a b/\C a b:=⟨a,b,h0,h1,h2⟩
theorem MI {α:Sort _} {β:Sort _} {A B C D:α->β->Prop} (a:α) (b:β) (h0:A a b) (h1:B a b) (h2:C a b) (h3:D a b): ∃a b,A a b/\B a b/\C a b/\D a b:=⟨a,b,h0,h1,h2,h3⟩
theorem Mu {α:Sort _} {β:Sort _} {A B C D E:α->β->Prop} (a:α) (b:β) (h0:A a b) (h1:B a b) (h2:C a b) (h3:D a b) (h4:E a b): ∃a b,A a b/\B a b/\C a b/\D a b/\E a b:=⟨a,b,h0,h1,h2,h3,h4⟩
theorem OD {α:Sort _} {β:Sort _} {A B C D E F:α->β->Prop} (a:α) (b:β) (h0:A a b) (h1:B a b) (h2:C a b) (h3:D a b) (h4:E a b) (h5:F a b): ∃a b,A a b/\B a b/\C a b/\D a b/\E a b/\F a b:=⟨a,b,h0,h1,h2,h3,h4,h5⟩
theorem BD {α:Sort _} {β:Sort _} {γ:Sort _} {A B:α->β->γ->Prop} (a:α) (b:β) (c:γ) (h0:A a b c) (h1:B a b c): ∃a b c,A a b c/\B a b c:=⟨a,b,c,h0,h1⟩
theorem zt {α:Sort _} {β:Sort _} {γ:Sort _} {A B C:α->β->γ->Prop} (a:α) (b:β) (c:γ) (h0:A a b c) (h1:B a b c) (h2:C a b c): ∃a b c,A a b c/\B a b c/\C a b c:=⟨a,b,c,h0,h1,h2⟩
theorem Jl {α:Sort _} {β:Sort _} {γ:Sort _} {A B C D:α->β->γ->Prop} (a:α) (b:β) (c:γ) (h0:A a b c) (h1:B a b c) (h2:C a b c) (h3:D a b c): ∃a b c,A a b c/\B a b c/\C a b c/\D a b c:=⟨a,b,c,h0,h1,h2,h3⟩
theorem Hh {α:Sort _} {β:Sort _} {γ:Sort _} {A B C D E:α->β->γ->Prop} (a:α) (b:β) (c:γ) (h0:A a b c) (h1:B a b c) (h2:C a b c) (h3:D a b c) (h4:E a b c): ∃a b c,A a b c/\B a b c/\C a b c/\D a b c/\E a b c:=⟨a,b,c,h0,h1,h2,h3,h4⟩
theorem v5 {α:Sort _} {β:Sort _} {γ:Sort _} {δ:Sort _} {A B C D E:α->β->γ->δ->Prop} (a:α) (b:β) (c:γ) (d:δ) (h0:A a b c d) (h1:B a b c d) (h2:C a b c d) (h3:D a b c d) (h4:E a b c d): ∃a b c d,A a b c d/\B a b c d/\C a b c d/\D a b c d/\E a b c d:=⟨a,b,c,d,h0,h1,h2,h3,h4⟩
noncomputable abbrev Oq {α ρ:Sort _} (r:ρ) (f:α->ρ):Prop:= ∃a,r=f a
@[elab_as_elim] theorem e9 {α ρ:Sort _} {r:ρ} {f:α->ρ} (h:Oq r f) {motive:ρ->Prop} (k: ∀a,motive (f a)):motive r:=by obtain⟨a,rfl⟩:=h;exact k a
noncomputable abbrev Oz {α ρ:Sort _} (r:ρ) (f:α->ρ) (B:α->Prop):Prop:= ∃a,r=f a/\B a
@[elab_as_elim] theorem yA {α ρ:Sort _} {r:ρ} {f:α->ρ} {B:α->Prop} (h:Oz r f B) {motive:ρ->Prop} (k: ∀a,B a->motive (f a)):motive r:=by obtain⟨a,rfl,h0⟩:=h;exact k a h0
noncomputable abbrev OA {α ρ:Sort _} (r:ρ) (f:α->ρ) (B C:α->Prop):Prop:= ∃a,r=f a/\B a/\C a
@[elab_as_elim] theorem NK {α ρ:Sort _} {r:ρ} {f:α->ρ} {B C:α->Prop} (h:OA r f B C) {motive:ρ->Prop} (k: ∀a,B a->C a->motive (f a)):motive r:=by obtain⟨a,rfl,h0,h1⟩:=h;exact k a h0 h1
noncomputable abbrev Ox {α β ρ:Sort _} (r:ρ) (f:α->β->ρ) (B:α->β->Prop):Prop:= ∃a b,r=f a b/\B a b
@[elab_as_elim] theorem JU {α β ρ:Sort _} {r:ρ} {f:α->β->ρ} {B:α->β->Prop} (h:Ox r f B) {motive:ρ->Prop} (k: ∀a b,B a b->motive (f a b)):motive r:=by obtain⟨a,b,rfl,h0⟩:=h;exact k a b h0
noncomputable abbrev Oo {α β ρ:Sort _} (r:ρ) (f:α->β->ρ) (B C:α->β->Prop):Prop:= ∃a b,r=f a b/\B a b/\C a b
@[elab_as_elim] theorem gD {α β ρ:Sort _} {r:ρ} {f:α->β->ρ} {B C:α->β->Prop} (h:Oo r f B C) {motive:ρ->Prop} (k: ∀a b,B a b->C a b->motive (f a b)):motive r:=by obtain⟨a,b,rfl,h0,h1⟩:=h;exact k a b h0 h1
noncomputable abbrev Oj {α β ρ:Sort _} (r:ρ) (f:α->β->ρ) (B C D E:α->β->Prop):Prop:= ∃a b,r=f a b/\B a b/\C a b/\D a b/\E a b
@[elab_as_elim] theorem Br {α β ρ:Sort _} {r:ρ} {f:α->β->ρ} {B C D E:α->β->Prop} (h:Oj r f B C D E) {motive:ρ->Prop} (k: ∀a b,B a b->C a b->D a b->E a b->motive (f a b)):motive r:=by obtain⟨a,b,rfl,h0,h1,h2,h3⟩:=h;exact k a b h0 h1 h2 h3
noncomputable abbrev Oy {α β γ ρ:Sort _} (r:ρ) (f:α->β->γ->ρ) (B C:α->β->γ->Prop):Prop:= ∃a b c,r=f a b c/\B a b c/\C a b c
@[elab_as_elim] theorem Eg {α β γ ρ:Sort _} {r:ρ} {f:α->β->γ->ρ} {B C:α->β->γ->Prop} (h:Oy r f B C) {motive:ρ->Prop} (k: ∀a b c,B a b c->C a b c->motive (f a b c)):motive r:=by obtain⟨a,b,c,rfl,h0,h1⟩:=h;exact k a b c h0 h1
noncomputable abbrev OC {α β γ ρ:Sort _} (r:ρ) (f:α->β->γ->ρ) (B C D:α->β->γ->Prop):Prop:= ∃a b c,r=f a b c/\B a b c/\C a b c/\D a b c
@[elab_as_elim] theorem Nz {α β γ ρ:Sort _} {r:ρ} {f:α->β->γ->ρ} {B C D:α->β->γ->Prop} (h:OC r f B C D) {motive:ρ->Prop} (k: ∀a b c,B a b c->C a b c->D a b c->motive (f a b c)):motive r:=by obtain⟨a,b,c,rfl,h0,h1,h2⟩:=h;exact k a b c h0 h1 h2
noncomputable abbrev OF {α β γ δ ρ:Sort _} (r:ρ) (f:α->β->γ->δ->ρ) (B C D E:α->β->γ->δ->Prop):Prop:= ∃a b c d,r=f a b c d/\B a b c d/\C a b c d/\D a b c d/\E a b c d
@[elab_as_elim] theorem Kx {α β γ δ ρ:Sort _} {r:ρ} {f:α->β->γ->δ->ρ} {B C D E:α->β->γ->δ->Prop} (h:OF r f B C D E) {motive:ρ->Prop} (k: ∀a b c d,B a b c d->C a b c d->D a b c d->E a b c d->motive (f a b c d)):motive r:=by obtain⟨a,b,c,d,rfl,h0,h1,h2,h3⟩:=h;exact k a b c d h0 h1 h2 h3
noncomputable abbrev MC {α ρ:Sort _} (r:ρ) (f:α->ρ) (B:α->Prop):Prop:= ∃a,B a/\r=f a
@[elab_as_elim] theorem uU {α ρ:Sort _} {r:ρ} {f:α->ρ} {B:α->Prop} (h:MC r f B) {motive:ρ->Prop} (k: ∀a,B a->motive (f a)):motive r:=by obtain⟨a,h0,rfl⟩:=h;exact k a h0
noncomputable abbrev Mp {α ρ:Sort _} (r:ρ) (f:α->ρ) (B:α->Prop):Prop:= ∃a,B a/\f a=r
@[elab_as_elim] theorem kE {α ρ:Sort _} {r:ρ} {f:α->ρ} {B:α->Prop} (h:Mp r f B) {motive:ρ->Prop} (k: ∀a,B a->motive (f a)):motive r:=by obtain⟨a,h0,rfl⟩:=h;exact k a h0
theorem dC {α:Type _} {x:α} {Q:Prop} (h:none=some x):Q:=nomatch h
theorem rZ {α:Type _} {x:α} {Q:Prop} (h:some x=none):Q:=nomatch h
theorem zv {Q:Prop} (h:true=false):Q:=nomatch h
theorem tQ {Q:Prop} (h:false=true):Q:=nomatch h
theorem Iq {α:Type _} {x:α} {l:List α} {Q:Prop} (h: []=x::l):Q:=nomatch h
theorem GC {α:Type _} {x:α} {l:List α} {Q:Prop} (h:x::l= []):Q:=nomatch h
theorem jc {α:Type _} {x:α} {Q:Prop} (h:x∈([]:List α)):Q:=nomatch h
end V
end
open Lean in
local macro_rules
  | `(tactic| rw [$rs,*]) => do
    let mut t <- `(tactic| with_reducible try rfl)
    for r in rs.getElems.reverse do
      let e : Term := ⟨r.raw[1]⟩
      let f := if ["fun", "by", "anon", "dotI", "show"].any fun k => ((toString r.raw).splitOn s!"Term.{k}").length > 1 then "no" else if r.raw[0].isNone then "rwm" else "rwr"
      let f := mkIdent (.mkStr `V f)
      t <- `(tactic| ((first | with_reducible refine $f ($e ..) ?_ | rewrite [$r]); $t))
    return t
set_option hygiene false in
local macro_rules | `(tactic| kln_le) => `(tactic| first
  | (with_reducible assumption)
  | ((first | with_reducible apply V.f9 | with_reducible apply V.yo | with_reducible apply V.LD | with_reducible apply V.KW | with_reducible apply V.iY (x := Str.ofString _)) <;> first | kln_le | rfl | omega)
  | exact V.qM (by assumption)
  | exact bT _
  | omega)
local macro_rules
  | `(tactic| omega) => `(tactic| lia -abstractProof)
section
namespace V
set_option tactic.hygienic true in
theorem mu (h:Runs M Γ p t fs s e s'):s.toks<=s'.toks:=by
 induction h
 all_goals first
  | exact bT _
  | assumption
  | (rename_i ih;exact bU (ju _) ih)
  | (rename_i ih1 ih2;exact bU ih1 ih2)
  | (simp only [Shared.setGen]at *;omega)
theorem wZ (h:Wakes M Γ p g r s res s'):s.toks<=s'.toks:=by
 delta Wakes at h;split at h
 ·exact h.elim
 ·split at h
  ·refine tM h λMX aI h1 _ _ u=>?_;clear h;subst u;have z:=mu h1;exact z
  ·rw [h.2];exact bT _
  ·rw [h.2];exact bT _
 ·refine tM h λMX aI h1 _ _ q=>?_;subst q;have z:=mu h1;exact z
 ·rw [h.2];exact bT _
 ·rw [h.2];exact bT _
set_option tactic.hygienic true in
theorem wp_toks {α:Type} {M:Model} {Γ:Ctx} {t:Sem α} {n:Nat}: ∀{Q Q':α->Pos->Shared->Prop} {E E':Value->Pos->Shared->Prop} {p:Pos} {s:Shared},n<=s.toks->(∀a p s',Q a p s'->n<=s'.toks->Q' a p s')->(∀a p s',E a p s'->n<=s'.toks->E' a p s')->
  Sem.wp M Γ t Q E p s->Sem.wp M Γ t Q' E' p s:=by
 induction t with
 | pure a=>intro Q Q' E E' p s hn hQ hE h;rw [Sem.wp]at h⊢;exact hQ _ _ _ h hn
 | raise e=>intro Q Q' E E' p s hn hQ hE h;rw [Sem.wp]at h⊢;exact hE _ _ _ h hn
 | load a part k ih=>intro Q Q' E E' p s hn hQ hE h;rw [Sem.wp]at h⊢;refine c12 h λo h1 h2=>?_;exact i12 o h1 (ih o hn hQ hE h2)
 | update a part f k ih=>intro Q Q' E E' p s hn hQ hE h;rw [Sem.wp]at h⊢;exact⟨h.1,ih () (s:={s with heap:=s.heap.update a f}) hn hQ hE h.2⟩
 | choose src m k ih=>intro Q Q' E E' p s hn hQ hE h;rw [Sem.wp]at h⊢;exact⟨h.1,ih _ (s:={s with drawn:=s.drawn.bump src}) hn hQ hE h.2⟩
 | genState g k ih=>intro Q Q' E E' p s hn hQ hE h;rw [Sem.wp]at h⊢;refine c12 h λo h1 h2=>?_;exact i12 o h1 (ih _ hn hQ hE h2)
 | call c hd g l k ih=>intro Q Q' E E' p s hn hQ hE h;rw [Sem.wp]at h⊢;refine v8 h λr s' h1 h2=>Gj r s' h1 (ih _ (bU hn (mu h1)) hQ hE h2)
 | resume g r l k ih=>intro Q Q' E E' p s hn hQ hE h;rw [Sem.wp]at h⊢;refine v8 h λres s' h1 h2=>Gj res s' h1 (ih _ (bU hn (wZ h1)) hQ hE h2)
 | fresh k ih=>intro Q Q' E E' p s hn hQ hE h;rw [Sem.wp]at h⊢;exact ih _ (s:={s with toks:=s.toks+1}) (Nat.le_succ_of_le hn) hQ hE h
 | _=>
  intro Q Q' E E' p s hn hQ hE h;rw [Sem.wp]at h⊢
  first
   | exact h
   | (rename_i ih;exact ih _ (by exact hn) hQ hE h)
theorem eO {α:Type} {M:Model} {A:Around} {t:Sem α} {Q:α->Shared->Prop} {E:Value->Shared->Prop} {s:Shared} (h:wpAny M A t (λr s'=>s.toks<=s'.toks->Q r s') E s):wpAny M A t Q E s:=
 λΓ p D0=>wp_toks (bT _) (λu v w q l=>q l) (λu v w q g=>q) (h Γ p D0)
end V
end
section
namespace V
set_option genInjectivity true in
structure Loc where
 tag:Nat
 key:Str
 deriving DecidableEq
inductive AV where
 | none | any
 | bool (b:Bool)
 | int (i:Int)
 | str (s:Str)
 | bytes (b:Array UInt8)
 | ty (n:String)
 | bi (id:String)
 | ext (a:Addr)
 | loc (l:Loc)
 | mw (id:String) (l:Loc)
 | bm (f:Addr) (l:Loc)
 | Az (a b c:AV)
 | fld (n:String) (xs:List AV)
 | tup (xs:List AV)
 | lst (xs:List AV)
set_option genInjectivity true in
inductive AO where
 | list (xs:List AV)
 | dict (es:List (Str×AV))
 | map (es:List (Str×AV)) (n:Nat)
 | set (xs:List Str)
 | inst (C:Addr) (d:Loc)
 | slots (C:Addr) (d:Loc) (vs:List (Option AV))
 | junk
 | exc (n:String) (xs:List AV)
 | iter (l:Loc) (i:Nat)
structure Wd where
 ρ:Loc->Option Addr
 fz:Addr->Option Obj
noncomputable def Wd.le (W W':Wd):Prop:=(∀l a,W.ρ l=some a->W'.ρ l=some a)/\(∀a o,W.fz a=some o->W'.fz a=some o)
theorem Wd.le.refl (W:Wd):W.le W:=⟨λu v h=>h,λu v h=>h⟩
theorem Wd.le.trans {W W' IF:Wd} (a:W.le W') (b:W'.le IF):W.le IF:=⟨λl x h=>b.1 _ _ (a.1 l x h),λl x h=>b.2 _ _ (a.2 l x h)⟩
noncomputable def Lw (n:String):Bool:=(["range","dict_items","dict_values","dict_keys"]:List String).contains n
mutual
noncomputable def aw (W:Wd):AV->Value->Prop
 | .none,v=>v= .none
 | .any,_=>True
 | .bool b,v=>v= .bool b
 | .int i,v=> ∃t,v= .int i t
 | .str s,v=> ∃t,v= .str s t
 | .bytes b,v=> ∃t,v= .bytes b t
 | .ty n,v=>v= .type n
 | .bi n,v=>v= .builtin n
 | .ext a,v=>v= .ref a
 | .loc l,v=> ∃a,W.ρ l=some a/\v= .ref a
 | .mw id l,v=> ∃a b o,W.ρ l=some a/\v= .ref b/\W.fz b=some o/\o.cls= .type "method-wrapper"/\o.data= .fields #[.builtin id,.ref a]
 | .bm f l,v=> ∃a b o,W.ρ l=some a/\v= .ref b/\W.fz b=some o/\o.cls= .type "method"/\o.data= .fields #[.ref f,.ref a]
 | .Az x y z,v=> ∃b o vx vy vz,v= .ref b/\W.fz b=some o/\o.cls= .type "slice"/\o.data= .fields #[vx,vy,vz]/\aw W x vx/\aw W y vy/\aw W z vz
 | .fld n xs,v=>Lw n=true/\ ∃b o vs,v= .ref b/\W.fz b=some o/\o={cls:= .type n,data:= .fields (List.toArray vs)}/\aU W xs vs
 | .tup xs,v=> ∃a o vs n,v= .ref a/\W.fz a=some o/\o.cls= .type "tuple"/\o={cls:= .type "tuple",data:= .seq (List.toArray vs) n}/\aU W xs vs
 | .lst xs,v=> ∃a o vs n,v= .ref a/\W.fz a=some o/\o.cls= .type "list"/\o={cls:= .type "list",data:= .seq (List.toArray vs) n}/\aU W xs vs
noncomputable def aU (W:Wd):List AV->List Value->Prop
 | [],vs=>vs= []
 | x::xs,vs=> ∃v r,vs=v::r/\aw W x v/\aU W xs r
end
mutual
theorem aw.mono (h:W.le W'): ∀{x:AV} {v:Value},aw W x v->aw W' x v
 | .none,_,q=>q
 | .any,_,_=>trivial
 | .bool _,_,q=>q
 | .int _,_,q=>q
 | .str _,_,q=>q
 | .bytes _,_,q=>q
 | .ty _,_,q=>q
 | .bi _,_,q=>q
 | .ext _,_,q=>q
 | .loc _,_,q=>by refine c12 q λa e r=>i12 a (h.1 _ _ e) r
 | .mw _ _,_,q=>by refine AD q λa b o e r f z=>Jl a b o (h.1 _ _ e) r (h.2 _ _ f) z
 | .bm _ _,_,q=>by refine AD q λa b o e r f z=>Jl a b o (h.1 _ _ e) r (h.2 _ _ f) z
 | .Az _ _ _,_,q=>by refine Ei q λb o vx vy vz r f z1 u=>ku u λz2 k1 k2 k3=>⟨b,o,vx,vy,vz,r,h.2 _ _ f,z1,z2,aw.mono h k1,aw.mono h k2,aw.mono h k3⟩
 | .fld _ _,_,q=>by obtain⟨c,b,o,vs,r,f,z,k⟩:=q;exact⟨c,b,o,vs,r,h.2 _ _ f,z,aU.mono h k⟩
 | .tup _,_,q=>by refine wj q λa o vs n r f z1 z2 k=>v5 a o vs n r (h.2 _ _ f) z1 z2 (aU.mono h k)
 | .lst _,_,q=>by refine wj q λa o vs n r f z1 z2 k=>v5 a o vs n r (h.2 _ _ f) z1 z2 (aU.mono h k)
theorem aU.mono (h:W.le W'): ∀{x:List AV} {v:List Value},aU W x v->aU W' x v
 | [],_,q=>q
 | _::_,_,q=>by refine fu q λv r e k ks=>jE v r e (aw.mono h k) (aU.mono h ks)
end
theorem aU.length: ∀{xs:List AV} {vs:List Value},aU W xs vs->vs.length=xs.length:=by
 intro aH;induction aH with
 | nil=>
  intro u q;exact by subst q;rfl
 | cons _ _ ih=>intro u q;refine gD q λv r _ ks=>?_;simp [ih ks]
theorem aU.get: ∀{xs:List AV} {vs:List Value} {i:Nat} {x:AV},aU W xs vs->xs[i]? =some x-> ∃v,vs[i]? =some v/\aw W x v:=by
 intro aH;induction aH with
 | nil=>
  intro w i x q e;exact by simp at e
 | cons y ys ih=>
  intro w i x q e;refine gD q λv r k ks=>?_;cases i with
  | zero=>simp at e;subst e;exact i12 v (by simp) k
  | succ i=>simp at e;refine c12 (ih ks e) λu hu z=>?_;exact i12 u (by simpa using hu) z
theorem aU.append: ∀{xs ys:List AV} {vs us:List Value},aU W xs vs->aU W ys us->aU W (xs++ys) (vs++us):=by
 intro aH;induction aH with
 | nil=>
  intro u w g q z;exact by subst q;exact z
 | cons _ _ ih=>intro u w g q z;refine gD q λv r k ks=>(?_:aU W (_::(_++_)) _);exact jE v (r++_) rfl k (ih ks z)
theorem aU.nil:aU W [] []:=rfl
theorem aU.cons (a:aw W x v) (b:aU W xs vs):aU W (x::xs) (v::vs):=by exact jE v vs rfl a b
end V
end
section
namespace V
structure Cx where
 prog:Program
 w:World
 K:Frag
 h₀:Heap
 os:OsState
 mg:Str->Option Value
 mb:Str->Option Value
 hx:Option Addr
 lb:Nat
structure Cx.Ok (C:Cx):Prop where
 tR:C.K.In C.h₀
 g:C.h₀.Ns mainGlobals C.mg
 b:C.h₀.Ns builtinsNs C.mb
 boot: ∀x:Str,x≠"__name__"->C.mb x=bootBuiltins x
 nolimit:C.h₀.NoLimit
noncomputable abbrev Cx.M (C:Cx):Model:=model C.prog C.w
noncomputable def ik (C:Cx) (W:Wd):List (Str×AV)->List DictEntry->Prop
 | [],ds=>ds= []
 | (k,x)::r,ds=> ∃t v ds',ds=⟨PyData.keyHash C.w.params k,.str k t,v⟩::ds'/\aw W x v/\ik C W r ds'
noncomputable def bL (W:Wd):List (Option AV)->List (Option Value)->Prop
 | [],vs=>vs= []
 | none::r,vs=> ∃vs',vs=none::vs'/\bL W r vs'
 | some x::r,vs=> ∃v vs',vs=some v::vs'/\aw W x v/\bL W r vs'
noncomputable def eY (C:Cx) (W:Wd):AO->Obj->Prop
 | .list xs,ob=>ob.cls= .type "list"/\ ∃vs n,ob={cls:= .type "list",data:= .seq (List.toArray vs) n}/\aU W xs vs
 | .dict es,ob=> ∃ds n,ob={cls:= .type "dict",data:= .dict (List.toArray ds) n}/\ik C W es ds
 | .map es n,ob=> ∃ds,ob={cls:= .type "dict",data:= .dict (List.toArray ds) n}/\ik C W es ds
 | .set xs,ob=>ob.SetObjOf (PySem.strKind C.prog C.w) (λk=>decide (k∈xs)) xs.length
 | .inst c d,ob=> ∃dx,W.ρ d=some dx/\ob=instObj c dx
 | .slots c d vs,ob=> ∃dx sl,W.ρ d=some dx/\ob={cls:= .ref c,dict:=some dx,data:= .plain,slots:=List.toArray sl}/\bL W vs sl
 | .junk,_=>True
 | .exc n xs,ob=>(n=="frame")=false/\ob.cls= .type n/\ ∃vs t,ob.data= .fields vs/\vs[0]? =some (.ref t)/\aw W (.tup xs) (.ref t)
 | .iter l i,ob=> ∃a,W.ρ l=some a/\ob={cls:= .type "list_iterator",data:= .fields #[.ref a,.int i 0]}
theorem ik.mono (h:W.le W'): ∀{es:List (Str×AV)} {ds:List DictEntry},ik C W es ds->ik C W' es ds:=by
 intro aH;induction aH with
 | nil=>intro u q;exact q
 | cons dQ _ ih=>intro u q;obtain⟨_,_⟩:=dQ;refine lU q λt v ds' e k ks=>zt t v ds' e (aw.mono h k) (ih ks)
theorem bL.mono (h:W.le W'): ∀{es:List (Option AV)} {ds:List (Option Value)},bL W es ds->bL W' es ds:=by
 intro aH;induction aH with
 | nil=>intro u q;exact q
 | cons gh _ ih=>
  cases gh with
  | none=>intro u q;refine c12 q λds' e ks=>i12 ds' e (ih ks)
  | some _=>intro u q;refine fu q λv ds' e k ks=>jE v ds' e (aw.mono h k) (ih ks)
theorem eY.mono (h:W.le W') (q:eY C W o ob):eY C W' o ob:=by
 cases o with
 | list xs=>obtain⟨a,vs,n,b,c⟩:=q;exact⟨a,vs,n,b,c.mono h⟩
 | dict es=>refine v8 q λds n e r=>?_;exact Gj ds n e (r.mono h)
 | map es n=>refine c12 q λds e r=>?_;exact i12 ds e (r.mono h)
 | set xs=>exact q
 | inst c d=>refine c12 q λdx e r=>?_;exact i12 dx (h.1 _ _ e) r
 | slots c d vs=>refine fu q λdx sl ed e r=>?_;exact jE dx sl (h.1 _ _ ed) e (r.mono h)
 | junk=>trivial
 | exc n xs=>obtain⟨hn,c,vs,t,d,z,q⟩:=q;exact⟨hn,c,vs,t,d,z,q.mono h⟩
 | iter l i=>refine c12 q λa e r=>?_;exact i12 a (h.1 _ _ e) r
noncomputable abbrev St:=Loc->Option AO
noncomputable def St.set (Z:St) (l:Loc) (o:AO):St:=λx=>if x=l then some o else Z x
noncomputable def St.del (Z:St) (l:Loc):St:=λx=>if x=l then none else Z x
noncomputable def Up (o o':Obj):Prop:=o'=o\/(o.cls= .type "frame"/\ ∃sl,o'={o with slots:=sl})
theorem Up.refl (o:Obj):Up o o:= .inl rfl
theorem Up.exact (u:Up o o') (h:o.cls≠ .type "frame"):o'=o:=u.elim id λx=>absurd x.1 h
theorem Up.trans (u:Up o o') (v:Up o' LF):Up o LF:=by
 refine aP u (λy=>?_) λw=>?_
 ·subst y;exact v
 ·rcases w with⟨c,sl,rfl⟩
  refine aP v (λz=>?_) λq=>?_
  ·subst z;exact .inr ⟨c,sl,rfl⟩
  ·rcases q with⟨c',sl',rfl⟩
   exact .inr ⟨c,sl',rfl⟩
structure Inv (C:Cx) (W:Wd) (Z:St) (s:Shared):Prop where
 dom: ∀l,(W.ρ l).isSome=(Z l).isSome
 inj: ∀l l' a,W.ρ l=some a->W.ρ l'=some a->l=l'
 obj: ∀l a o,W.ρ l=some a->Z l=some o-> ∃ob,s.heap.get? a=some ob/\eY C W o ob
 apart: ∀l a,W.ρ l=some a->W.fz a=none
 fz: ∀a o,W.fz a=some o-> ∃o',s.heap.get? a=some o'/\Up o o'
 kept: ∀a o,C.h₀.get? a=some o->s.heap.get? a=some o
 base: ∀a o,C.h₀.get? a=some o->W.fz a=some o
 gens:s.gens= #[]
 os:s.os=C.os
 pos:C.lb<=s.toks
 high:(∃o,C.h₀.get? mainGlobals=some o)/\ ∀l a,W.ρ l=some a->2<a
theorem Inv.frozen (I:Inv C W Z s) (e:W.fz a=some o) (h:o.cls≠ .type "frame"):s.heap.get? a=some o:=
 (c12 (I.fz a o e) λ_ h1 u=>u.exact h▸h1)
theorem Inv.mW (I:Inv C W Z s) (e:W.fz a=none):C.h₀.get? a=none:=by
 cases q:C.h₀.get? a with
 | none=>rfl
 | some o=>rw [I.base a o q]at e;exact rZ e
theorem Inv.at (I:Inv C W Z s) (e:Z l=some o): ∃a ob,W.ρ l=some a/\s.heap.get? a=some ob/\eY C W o ob:=by
 have d:=I.dom l;rw [e]at d;cases q:W.ρ l with
 | none=>rw [q]at d;exact tQ d
 | some a=>refine c12 (I.obj l a o q e) λob h1 h2=>?_;exact jE a ob rfl h1 h2
theorem Inv.same (I:Inv C W Z s) (k: ∀b o,s.heap.get? b=some o->h.get? b=some o) (ht:s.toks<=t:=by kln_le):Inv C W Z ⟨h,s.gens,d,t,s.os⟩:=
 ⟨I.dom,I.inj,λl a o e q=>c12 (I.obj l a o e q) λob h1 h2=>⟨ob,k _ _ h1,h2⟩,I.apart,λa o e=>c12 (I.fz a o e) λo' h1 u=>⟨o',k _ _ h1,u⟩,λa o e=>k _ _ (I.kept a o e),I.base,I.gens,I.os,bU I.pos ht,I.high⟩
theorem Inv.but (I:Inv C W Z s) (n1:W.fz a=none) (n2: ∀l,W.ρ l≠some a)
  (k: ∀b o,b≠a->s.heap.get? b=some o->h.get? b=some o) (ht:s.toks<=t:=by kln_le):Inv C W Z ⟨h,s.gens,d,t,s.os⟩:=
 ⟨I.dom,I.inj,λl x o e q=>c12 (I.obj l x o e q) λob h1 h2=>⟨ob,k _ _ (λz=>n2 l (z▸e)) h1,h2⟩,I.apart,
  λx o e=>c12 (I.fz x o e) λo' h1 u=>⟨o',k _ _ (λz=>by rw [z,n1]at e;exact dC e) h1,u⟩,λx o e=>k _ _ (λz=>by rw [z,I.mW n1]at e;exact dC e) (I.kept x o e),I.base,I.gens,I.os,bU I.pos ht,I.high⟩
theorem Inv.upd (I:Inv C W Z s) (e:W.ρ l=some a)
  (k: ∀b o,b≠a->s.heap.get? b=some o->h.get? b=some o) (g:h.get? a=some ob') (r:eY C W o' ob') (ht:s.toks<=t:=by kln_le):Inv C W (Z.set l o') ⟨h,s.gens,d,t,s.os⟩:=by
 refine⟨λx=> ?_,I.inj,λx b o ex q=> ?_,I.apart,λx o ex=> ?_,λx o ex=>k _ _ (λz=>by rw [z,I.mW (I.apart l a e)]at ex;exact dC ex) (I.kept x o ex),I.base,I.gens,I.os,bU I.pos ht,I.high⟩
 ·unfold St.set;split
  ·rename_i z;subst z;rw [e];rfl
  ·exact I.dom x
 ·unfold St.set at q;split at q
  ·rename_i z;subst z;cases q;rw [e]at ex;cases ex;exact i12 ob' g r
  ·rename_i z;refine c12 (I.obj x b o ex q) λob h1 h2=>i12 ob (k _ _ (λy=>z (I.inj x l a (y▸ex) e)) h1) h2
 ·refine c12 (I.fz x o ex) λo' h1 u=>?_;exact i12 o' (k _ _ (λz=>by rw [z,I.apart l a e]at ex;exact dC ex) h1) u
noncomputable def Wd.name (W:Wd) (l:Loc) (a:Addr):Wd:=⟨λx=>if x=l then some a else W.ρ x,W.fz⟩
noncomputable def Wd.freeze (W:Wd) (a:Addr) (o:Obj):Wd:=⟨W.ρ,λx=>if x=a then some o else W.fz x⟩
theorem Inv.cz (I:Inv C W Z s):W.fz s.heap.objs.size=none/\ ∀l,W.ρ l≠some s.heap.objs.size:=by
 refine⟨?_,λl e=> ?_⟩
 ·cases q:W.fz s.heap.objs.size with
  | none=>rfl
  | some o=>refine c12 (I.fz _ _ q) λo' h1 _=>?_;exact absurd (il h1) (iM _)
 ·have d:=I.dom l;rw [e]at d;cases q:Z l with
  | none=>rw [q]at d;exact zv d
  | some o=>refine c12 (I.obj l _ o e q) λob h1 _=>?_;exact absurd (il h1) (iM _)
theorem Inv.none_of (I:Inv C W Z s) (e:Z l=none):W.ρ l=none:=by
 have d:=I.dom l;rw [e]at d;cases q:W.ρ l with
 | none=>rfl
 | some a=>rw [q]at d;exact zv d
theorem Inv.new (I:Inv C W Z s) (e:Z l=none) (n1:W.fz a=none) (n2: ∀l,W.ρ l≠some a) (n3:2<a)
  (k: ∀b o,s.heap.get? b=some o->h.get? b=some o) (g:h.get? a=some ob) (r:eY C (W.name l a) o ob) (ht:s.toks<=t:=by kln_le):
  W.le (W.name l a)/\Inv C (W.name l a) (Z.set l o) ⟨h,s.gens,d,t,s.os⟩:=by
 have le:W.le (W.name l a):=⟨λx b q=>by
  refine(?_:(if x=l then some a else W.ρ x)=some b);split
  ·rename_i z;subst z;rw [I.none_of e]at q;exact dC q
  ·exact q,λ_ _ q=>q⟩
 refine⟨le,λx=> ?_,λx y b p q=> ?_,λx b o' p q=> ?_,λx b p=> ?_,λb o' p=>c12 (I.fz b o' p) λLF h1 u=>⟨LF,k _ _ h1,u⟩,λb o' p=>k _ _ (I.kept b o' p),I.base,I.gens,I.os,bU I.pos ht,I.high.1,λx b p=> ?_⟩
 ·refine(?_:(if x=l then some a else W.ρ x).isSome=(if x=l then some o else Z x).isSome);split
  ·rfl
  ·exact I.dom x
 ·have p:(if x=l then some a else W.ρ x)=some b:=p;have q:(if y=l then some a else W.ρ y)=some b:=q;split at p<;>split at q
  ·rename_i z1 z2;exact z1.trans z2.symm
  ·cases p;exact absurd q (n2 _)
  ·cases q;exact absurd p (n2 _)
  ·exact I.inj _ _ _ p q
 ·have p:(if x=l then some a else W.ρ x)=some b:=p;have q:(if x=l then some o else Z x)=some o':=q;split at p
  ·rename_i z;rw [aG z]at q;cases p;cases q;exact i12 ob g r
  ·rename_i z;rw [az z]at q;refine c12 (I.obj x b o' p q) λob' h1 h2=>i12 ob' (k _ _ h1) (h2.mono le)
 ·have p:(if x=l then some a else W.ρ x)=some b:=p;split at p
  ·cases p;exact n1
  ·exact I.apart _ _ p
 ·have p:(if x=l then some a else W.ρ x)=some b:=p;split at p
  ·cases p;exact n3
  ·exact I.high.2 _ _ p
theorem Inv.big (I:Inv C W Z s):2<s.heap.objs.size:=by refine cG I.high.1 λo h=>?_;have:=il (I.kept _ _ h);exact Nat.lt_trans (by decide) this
theorem Inv.fX (I:Inv C W Z s) (n1:W.fz a=none) (n2: ∀l,W.ρ l≠some a)
  (k: ∀b o,s.heap.get? b=some o->h.get? b=some o) (g:h.get? a=some ob) (ht:s.toks<=t:=by kln_le):
  W.le (W.freeze a ob)/\Inv C (W.freeze a ob) Z ⟨h,s.gens,d,t,s.os⟩:=by
 have le:W.le (W.freeze a ob):=⟨λ_ _ q=>q,λx b q=>by
  refine(?_:(if x=a then some ob else W.fz x)=some b);split
  ·rename_i z;subst z;rw [n1]at q;exact dC q
  ·exact q⟩
 refine⟨le,I.dom,I.inj,λx b o' p q=> ?_,λx b p=> ?_,λb o' p=> ?_,λb o' p=>k _ _ (I.kept b o' p),λb o' p=>le.2 _ _ (I.base _ _ p),I.gens,I.os,bU I.pos ht,I.high⟩
 ·refine c12 (I.obj x b o' p q) λob' h1 h2=>i12 ob' (k _ _ h1) (h2.mono le)
 ·refine(?_:(if b=a then some ob else W.fz b)=none);split
  ·rename_i z;subst z;exact absurd p (n2 x)
  ·exact I.apart _ _ p
 ·by_cases z:b=a
  ·have q:some ob=some o':=by simpa [Wd.freeze,z]using p
   rw [z,<-dI q];exact i12 _ g (.refl _)
  ·have q:W.fz b=some o':=by simpa [Wd.freeze,z]using p
   refine c12 (I.fz _ _ q) λLF h1 u=>i12 LF (k _ _ h1) u
theorem a9 (h:Heap) (o:Obj): ∀b ob,h.get? b=some ob->(h.push o).get? b=some ob:=λu v e=>mn o e
theorem ew (h:Heap) (a:Addr) (f:Obj->Obj): ∀b ob,b≠a->h.get? b=some ob->(h.update a f).get? b=some ob:=λu v n e=>(m8 h f (f7 n)).trans e
end V
end
section
namespace V
noncomputable def rM (C:Cx) (W:Wd) (outer:List Env):Prop:=
 ∀env∈outer,env.scope.kind≠ .module/\ ∃L o es n,env.frame=some L/\C.h₀.get? L=none/\W.fz L=some o/\o.cls= .type "frame"/\o.data= .dict es n
theorem rM.mono (h:rM C W l) (le:W.le W'):rM C W' l:=λenv he=>
 (by obtain⟨k,L,o,es,n,a,b,c,d⟩:=h env he;exact⟨k,L,o,es,n,a,b,le.2 _ _ c,d⟩)
noncomputable def cW (sc:Scope):Bool:=sc.kind== .function && decide (sc.names.map (·.1)).Nodup && sc.names.all λp=>p.2 != .free && (p.2== .globalImplicit || !(p.1==("__debug__":Str)))
theorem cW.kind (h:cW sc=true):sc.kind= .function:=by delta cW at h;simp only [mI,gB]at h;exact h.1.1
theorem cW.nodup (h:cW sc=true):(sc.names.map (·.1)).Nodup:=by delta cW at h;simp only [mI,pL]at h;exact h.1.2
theorem cW.all (h:cW sc=true): ∀p∈sc.names,p.2≠ .free/\(p.2≠ .globalImplicit->(p.1==("__debug__":Str))=false):=by delta cW at h;simp only [mI]at h;intro p hp;have:=pM.mp h.2 p hp;simp only [mI,bne_iff_ne,ne_eq,Bool.or_eq_true,gB,B5]at this;exact⟨this.1,λn=>this.2.resolve_left n⟩
theorem bI {α:Type}: ∀{l:List (Str×α)} {i:Nat} {x:Str} {k:α},(l.map (·.1)).Nodup->l[i]? =some (x,k)->l.lookup x=some k:=by
 intro aH;induction aH with
 | nil=>
  intro i v w g e;exact by simp at e
 | cons dQ r ih=>
  intro i x k h e;obtain⟨y,k'⟩:=dQ;rw [dj,gM]at h;cases i with
  | zero=>simp at e;refine bG e λz=>?_;clear e;subst z;intro u;subst u;simp [List.lookup_cons]
  | succ i=>
   simp at e;have hx:x∈r.map (·.1):=bM.mpr ⟨(x,k),ip e,rfl⟩;have ne:(x==y)=false:=by rw [tq];intro q;subst q;exact h.1 hx
   rw [List.lookup_cons,ne];exact ih h.2 e
inductive NI (sc:Scope) (W:Wd) (env:Env) (ms:List (Option AV)) (h:Heap):Prop
 | mk (mr:Str->Option Value) (n:h.Ns env.locals mr) (v: ∀(i:Nat) (x:Str) (v:AV),sc.names[i]? =some (x,NameKind.local)->ms[i]? =some (some v)-> ∃r,mr x=some r/\aw W v r):NI sc W env ms h
inductive GB (W:Wd) (env:Env) (ms:List (Option AV)) (h:Heap) (i:Nat) (x:Str):Prop
 | mk (a:Addr) (ov:Option Value) (l:env.cells.lookup x=some a) (c:h.IsCell a ov) (v: ∀v,ms[i]? =some (some v)-> ∃r,ov=some r/\aw W v r):GB W env ms h i x
inductive Du (W:Wd) (env:Env) (h:Heap) (a:Addr):Prop
 | mk (z:W.fz a=none) (r: ∀l,W.ρ l≠some a) (ne:a≠env.locals) (ov:Option Value) (o:Obj) (g:h.get? a=some o) (d:o.data= .cell ov) (c:o.cls= .type "cell"):Du W env h a
inductive JZ (env:Env) (h:Heap):Prop
 | mk (o:Obj) (es:Array DictEntry) (n:Nat) (g:h.get? env.locals=some o) (c:(o.cls= .type "frame"/\env.frame=some env.locals)\/o.cls= .type "dict") (d:o.data= .dict es n):JZ env h
inductive Kl (S:List Env->Prop) (h₀:Heap) (fs:Option (List Env)) (W:Wd) (env:Env) (h:Heap):Prop
 | mk (fenv:Env) (rest:List Env) (L:Addr) (e1:fs=some (fenv::rest)) (e2:S rest) (e3:fenv.scope.kind≠ .module) (e4:fenv.frame=some L) (e5:env.frame=some L) (e6:h₀.get? L=none)
  (e7:(L=env.locals/\ ∃o es n,h.get? L=some o/\o.cls= .type "frame"/\o.data= .dict es n)\/(∃o es n,W.fz L=some o/\o.cls= .type "frame"/\o.data= .dict es n)):Kl S h₀ fs W env h
theorem Du.no (p:Du W env h a):a≠env.locals:=(by obtain⟨_,_,n,_,_,_,_,_⟩:=p;exact n)
theorem Du.Mh (p:Du W env h a):W.fz a=none:=(by obtain⟨z,_,_,_,_,_,_,_⟩:=p;exact z)
theorem Du.Lx (p:Du W env h a): ∀l,W.ρ l≠some a:=(by obtain⟨_,r,_,_,_,_,_,_⟩:=p;exact r)
theorem Du.re (p:Du W env h a) (z:W'.fz a=none) (r: ∀l,W'.ρ l≠some a):Du W' env h a:=(by obtain⟨_,_,n,ov,o,g,d,c⟩:=p;exact⟨z,r,n,ov,o,g,d,c⟩)
structure eC (C:Cx) (sc:Scope) (A:Around) (W:Wd) (env:Env) (ms:List (Option AV)) (h:Heap):Prop where
 scope:env.scope=sc
 globals:env.globals=mainGlobals
 builtins:env.builtins=builtinsNs
 ok:cW sc=true
 ns:NI sc W env ms h
 cells: ∀(i:Nat) (x:Str),sc.names[i]? =some (x,NameKind.cell)->GB W env ms h i x
 mi:W.fz env.locals=none/\ ∀l,W.ρ l≠some env.locals
 mZ: ∀x a,(x,a)∈env.cells->Du W env h a
 iQ: ∀x y a,(x,a)∈env.cells->(y,a)∈env.cells->x=y
 je:JZ env h
 pE:Kl (rM C W) C.h₀ A.frames W env h
noncomputable def Oi (C:Cx) (A:Around):Prop:=(C.hx=none->A.handled=none)/\(C.hx≠some 0->A.handled=none\/ ∃e o vs,A.handled=some (.ref e)/\C.h₀.get? e=some o/\o.data= .fields vs/\vs[2]? =some .none)
noncomputable def bY (C:Cx) (A:Around) (k:Nat):Prop:=A.depth+2 * k+2<recursionLimit/\A.units+10 * k+10<cLine/\Oi C A
theorem bY.depth (h:bY C A k):A.depth<recursionLimit:=by have:=h.1;omega
theorem bY.units (h:bY C A k):A.units<cLine:=by have:=h.2.1;omega
theorem bY.none (h:bY C A k) (h0:C.hx=none):A.handled= .none:=h.2.2.1 h0
theorem bY.in1 (h:bY C A (k+1)):bY C A.in1 k:=⟨by have:=h.1;simp only [Around.in1_depth];omega,by have:=h.2.1;simp only [Around.in1_units];omega,h.2.2⟩
theorem bY.deeper (h:bY C A (k+1)):bY C (A.deeper env) k:=⟨by have:=h.1;refine(?_:A.depth+1+2 * k+2<_);omega,by have:=h.2.1;refine(?_:A.units+3+10 * k+10<_);omega,h.2.2⟩
noncomputable abbrev No:Value->Shared->Prop:=λ_ _=>False
structure At (C:Cx) (sc:Scope) (A:Around) (W:Wd) (env:Env) (ms:List (Option AV)) (Z:St) (s:Shared):Prop where
 inv:Inv C W Z s
 fr:eC C sc A W env ms s.heap
inductive GF {α:Type} (C:Cx) (sc:Scope) (A:Around) (W:Wd) (env:Env) (ms:List (Option AV)) (Z:St) (R:Wd->α->Prop) (r:α) (s:Shared):Prop
 | mk (W':Wd) (le:W.le W') (at':At C sc A W' env ms Z s) (q:R W' r):GF C sc A W env ms Z R r s
inductive Ek {α:Type} (C:Cx) (W:Wd) (Z:St) (R:Wd->α->Prop) (r:α) (s:Shared):Prop
 | mk (W':Wd) (le:W.le W') (inv:Inv C W' Z s) (q:R W' r):Ek C W Z R r s
noncomputable def ie {α:Type} (C:Cx) (sc:Scope) (A:Around) (W:Wd) (env:Env) (ms:List (Option AV)) (Z:St) (R:Wd->α->Prop) (r:α) (s:Shared):Prop:=
 GF C sc A W env ms Z R r s
noncomputable def Tr {α:Type} (C:Cx) (k:Nat) (sc:Scope) (ms:List (Option AV)) (Z:St) (t:Env->Sem α) (R:Wd->α->Prop) (aK:List (Option AV)) (aB:St):Prop:=
 ∀A W env s,bY C A k->At C sc A W env ms Z s->wpAny C.M A (t env) (ie C sc A W env aK aB R) No s
noncomputable def Op {α:Type} (C:Cx) (k:Nat) (W:Wd) (Z:St) (t:Sem α) (R:Wd->α->Prop) (aB:St):Prop:=
 ∀A s outer,bY C A k->A.frames=some outer->rM C W outer->Inv C W Z s->wpAny C.M A t (λr s'=>Ek C W aB R r s') No s
noncomputable def aside (W:Wd) (env:Env) (h:Heap):Wd:=⟨W.ρ,λa=>if a=env.locals\/a∈env.cells.map (·.2)then h.get? a else W.fz a⟩
noncomputable def Jk (o:Obj):Prop:= ∀n,o.cls= .type n->(["tuple","list","method-wrapper","method","slice","range","dict_items","dict_values","dict_keys"]:List String).contains n=false
theorem Jk.ne (h:Jk o) (z:o.cls= .type n) (h1:(["tuple","list","method-wrapper","method","slice","range","dict_items","dict_values","dict_keys"]:List String).contains n=true):False:=by have:=h n z;rw [h1]at this;exact zv this
theorem G5 (h:Lw n=true):(["tuple","list","method-wrapper","method","slice","range","dict_items","dict_values","dict_keys"]:List String).contains n=true:=by delta Lw at h;simp only [List.contains_cons,Bool.or_eq_true]at h⊢;exact .inr (.inr (.inr (.inr (.inr h))))
open Classical in
noncomputable def Wd.minus (W:Wd) (X:Addr->Prop):Wd:=⟨W.ρ,λa=>if X a then none else W.fz a⟩
theorem Wd.d6 {W:Wd} {X:Addr->Prop} {a:Addr} (h:X a):(W.minus X).fz a=none:=by delta Wd.minus;exact aG h
theorem Wd.bA {W:Wd} {X:Addr->Prop} {a:Addr} (h: ¬X a):(W.minus X).fz a=W.fz a:=by delta Wd.minus;exact az h
theorem Wd.vM {W:Wd} {X:Addr->Prop} {a:Addr} {o:Obj} (e:(W.minus X).fz a=some o): ¬X a/\W.fz a=some o:=by
 by_cases h:X a
 ·rw [Wd.d6 h]at e;exact dC e
 ·rw [Wd.bA h]at e;exact⟨h,e⟩
noncomputable abbrev Own (env:Env) (a:Addr):Prop:=a=env.locals\/a∈env.cells.map (·.2)
noncomputable abbrev taken (W:Wd) (env:Env):Wd:=W.minus (Own env)
section
variable {C:Cx} {sc:Scope} {A:Around} {W:Wd} {env:Env} {ms:List (Option AV)} {Z aB:St} {s s':Shared}
noncomputable def vP (o:Obj):Prop:=o.cls= .type "frame"\/o.cls= .type "dict"\/o.cls= .type "cell"
theorem vP.jk (h:vP o):Jk o:=λn z=>by
 rcases h with h | h | h<;>rw [h]at z<;>cases ni z<;>decide
theorem eC.own (F:eC C sc A W env ms h) (q:a=env.locals\/a∈env.cells.map (·.2)):W.fz a=none/\(∀l,W.ρ l≠some a)/\ ∃o,h.get? a=some o/\vP o:=by
 refine aP q (λw=>?_) λq=>?_
 ·subst w;obtain⟨o,_,_,h1,h2,_⟩:=F.je;exact⟨F.mi.1,F.mi.2,o,h1,h2.elim (λz=> .inl z.1) λz=> .inr (.inl z)⟩
 ·refine kE (bM.mp q) λu hm=>?_;rcases u with⟨x,b⟩
  obtain⟨h1,h2,_,ov,o,h3,h4,h5⟩:=F.mZ x b hm;exact⟨h1,h2,o,h3,.inr (.inr h5)⟩
theorem a8 (F:eC C sc A W env ms h):W.le (aside W env h):=⟨λ_ _ e=>e,λa o e=>by
 refine(?_:(if a=env.locals\/a∈env.cells.map (·.2)then h.get? a else W.fz a)=some o);split
 ·rename_i q;rw [(F.own q).1]at e;exact dC e
 ·exact e⟩
theorem eP (I:Inv C W Z s) (F:eC C sc A W env ms s.heap):Inv C (aside W env s.heap) Z s:=by
 have le:=a8 F;refine⟨I.dom,I.inj,λl a o e q=>c12 (I.obj l a o e q) λob h1 h2=>⟨ob,h1,h2.mono le⟩,λl a e=> ?_,λa o e=> ?_,I.kept,λa o e=>le.2 _ _ (I.base a o e),I.gens,I.os,I.pos,I.high⟩
 ·refine(?_:(if a=env.locals\/a∈env.cells.map (·.2)then s.heap.get? a else W.fz a)=none);split
  ·rename_i q;exact absurd e ((F.own q).2.1 l)
  ·exact I.apart l a e
 ·have e:(if a=env.locals\/a∈env.cells.map (·.2)then s.heap.get? a else W.fz a)=some o:=e;split at e
  ·exact i12 o e (.refl _)
  ·exact I.fz a o e
theorem eV (F:eC C sc A W env ms s.heap): ∃outer,A.frames=some outer/\rM C (aside W env s.heap) outer:=by
 obtain⟨fenv,rest,L,h1,h2,h3,h4,h5,h6,h7⟩:=F.pE;refine i12 _ h1 λe he=>aP (cI.mp he) (λu=>?_) λhe=>?_
 ·subst u;refine⟨h3,L,?_⟩;refine aP h7 (λz=>?_) λq=>lU q λo es n a b c=>?_
  ·rcases z with⟨rfl,o,es,n,a,b,c⟩
   refine Hh o es n h4 h6 ?_ b c;show(if _ then _ else _)=_
   rw [aG (.inl rfl)];exact a
  ·exact Hh o es n h4 h6 ((a8 F).2 _ _ a) b c
 ·exact(h2.mono (a8 F)) e he
mutual
theorem aw.taken {W':Wd} {X:Addr->Prop} (hc: ∀a o,X a->W'.fz a=some o->Jk o):
  ∀{x:AV} {v:Value},aw W' x v->aw (W'.minus X) x v
 | .none,_,q=>q
 | .any,_,_=>trivial
 | .bool _,_,q=>q
 | .int _,_,q=>q
 | .str _,_,q=>q
 | .bytes _,_,q=>q
 | .ty _,_,q=>q
 | .bi _,_,q=>q
 | .ext _,_,q=>q
 | .loc _,_,q=>q
 | .mw _ _,_,q=>by refine Hr q λa b o e r f z y=>Hh a b o e r ?_ z y;rw [Wd.bA λw=>(hc b o w f).ne z (by decide)];exact f
 | .bm _ _,_,q=>by refine Hr q λa b o e r f z y=>Hh a b o e r ?_ z y;rw [Wd.bA λw=>(hc b o w f).ne z (by decide)];exact f
 | .Az _ _ _,_,q=>by refine Ei q λb o vx vy vz r f z u=>ku u λy k1 k2 k3=>⟨b,o,vx,vy,vz,r,?_,z,y,aw.taken hc k1,aw.taken hc k2,aw.taken hc k3⟩;rw [Wd.bA λw=>(hc b o w f).ne z (by decide)];exact f
 | .fld n _,_,q=>by obtain⟨c,b,o,vs,r,f,z,k⟩:=q;refine⟨c,b,o,vs,r,?_,z,aU.taken hc k⟩;rw [Wd.bA λw=>(hc b o w f).ne (by rw [z]) (G5 c)];exact f
 | .tup _,_,q=>by refine wj q λa o vs n r f z1 z2 k=>v5 a o vs n r ?_ z1 z2 (aU.taken hc k);rw [Wd.bA λw=>(hc a o w f).ne z1 (by decide)];exact f
 | .lst _,_,q=>by refine wj q λa o vs n r f z1 z2 k=>v5 a o vs n r ?_ z1 z2 (aU.taken hc k);rw [Wd.bA λw=>(hc a o w f).ne z1 (by decide)];exact f
theorem aU.taken {X:Addr->Prop} (hc: ∀a o,X a->W'.fz a=some o->Jk o):
  ∀{x:List AV} {v:List Value},aU W' x v->aU (W'.minus X) x v
 | [],_,q=>q
 | _::_,_,q=>by refine fu q λv r e k ks=>jE v r e (aw.taken hc k) (aU.taken hc ks)
end
theorem ik.taken {X:Addr->Prop} (hc: ∀a o,X a->W'.fz a=some o->Jk o):
  ∀{es:List (Str×AV)} {ds:List DictEntry},ik C W' es ds->ik C (W'.minus X) es ds:=by
 intro aH;induction aH with
 | nil=>intro u q;exact q
 | cons dQ _ ih=>intro u q;obtain⟨_,_⟩:=dQ;refine lU q λt v ds' e k ks=>zt t v ds' e (aw.taken hc k) (ih ks)
theorem bL.taken {X:Addr->Prop} (hc: ∀a o,X a->W'.fz a=some o->Jk o):
  ∀{es:List (Option AV)} {ds:List (Option Value)},bL W' es ds->bL (W'.minus X) es ds:=by
 intro aH;induction aH with
 | nil=>intro u q;exact q
 | cons gh _ ih=>
  cases gh with
  | none=>intro u q;refine c12 q λds' e ks=>i12 ds' e (ih ks)
  | some _=>intro u q;refine fu q λv ds' e k ks=>jE v ds' e (aw.taken hc k) (ih ks)
theorem eY.taken {X:Addr->Prop} (hc: ∀a o,X a->W'.fz a=some o->Jk o)
  (q:eY C W' o ob):eY C (W'.minus X) o ob:=by
 cases o with
 | list xs=>obtain⟨a,vs,n,b,c⟩:=q;exact⟨a,vs,n,b,c.taken hc⟩
 | dict es=>refine v8 q λds n e r=>?_;exact Gj ds n e (r.taken hc)
 | map es n=>refine c12 q λds e r=>?_;exact i12 ds e (r.taken hc)
 | set xs=>exact q
 | inst c d=>refine c12 q λdx e r=>?_;exact i12 dx e r
 | slots c d vs=>refine fu q λdx sl ed e r=>?_;exact jE dx sl ed e (r.taken hc)
 | junk=>trivial
 | exc n xs=>obtain⟨hn,c,vs,t,d,z,q⟩:=q;exact⟨hn,c,vs,t,d,z,q.taken hc⟩
 | iter l i=>refine c12 q λa e r=>?_;exact i12 a e r
theorem Up.data (u:Up o o'):o'.data=o.data:=by rcases u with rfl | ⟨_,_,rfl⟩<;>rfl
theorem Up.cls (u:Up o o'):o'.cls=o.cls:=by rcases u with rfl | ⟨_,_,rfl⟩<;>rfl
theorem eC.back {W':Wd} (I:Inv C W Z s) (F:eC C sc A W env ms s.heap) (le:(aside W env s.heap).le W') (I':Inv C W' aB s'):
  W.le (taken W' env)/\Inv C (taken W' env) aB s'/\eC C sc A (taken W' env) env ms s'.heap/\(∀{v:AV} {r:Value},aw W' v r->aw (taken W' env) v r)/\(∀{v:List AV} {r:List Value},aU W' v r->aU (taken W' env) v r):=by
 have own: ∀a,(a=env.locals\/a∈env.cells.map (·.2))-> ∃o,s.heap.get? a=some o/\W'.fz a=some o/\vP o:=λa q=>by
  obtain⟨_,_,o,h1,h2⟩:=F.own q;refine vO o h1 (le.2 _ _ ?_) h2;show(if _ then _ else _)=_
  rw [aG q];exact h1
 have hc: ∀a o,(a=env.locals\/a∈env.cells.map (·.2))->W'.fz a=some o->Jk o:=λa o q e=>by refine fP (own a q) λo' _ h2 h3=>?_;rw [h2]at e;obtain rfl:=dI e;exact h3.jk
 have heap: ∀a o,(a=env.locals\/a∈env.cells.map (·.2))->s.heap.get? a=some o-> ∃o',s'.heap.get? a=some o'/\Up o o':=λa o q e=>by refine fP (own a q) λo' h1 h2 _=>?_;rw [h1]at e;obtain rfl:=dI e;exact I'.fz a _ h2
 have tk: ∀a o,¬(a=env.locals\/a∈env.cells.map (·.2))->W'.fz a=some o->(taken W' env).fz a=some o:=λa o q e=>by rw [Wd.bA q];exact e
 have le2:W.le (taken W' env):=⟨λl a e=>le.1 l a e,λa o e=>tk a o (λq=>by rw [(F.own q).1]at e;exact dC e) (le.2 _ _ ((a8 F).2 _ _ e))⟩;have vr: ∀{v:AV} {r:Value},aw W' v r->aw (taken W' env) v r:=λq=>q.taken hc;refine NP le2 ⟨I'.dom,I'.inj,λl a o e q=>c12 (I'.obj l a o e q) λob h1 h2=>⟨ob,h1,h2.taken hc⟩,λl a e=> ?_,λa o e=>I'.fz a o (Wd.vM e).2,I'.kept,λa o e=>le2.2 _ _ (I.base a o e),I'.gens,I'.os,I'.pos,I'.high⟩ ?_ vr λq=>q.taken hc
 ·by_cases q:Own env a
  ·exact Wd.d6 q
  ·rw [Wd.bA q];exact I'.apart l a e
 ·obtain⟨mr,hn,hv⟩:=F.ns;have LG: ∀a,(a=env.locals\/a∈env.cells.map (·.2))-> ∀l,W'.ρ l≠some a:=λa q l e=>by refine fP (own a q) λo _ h2 _=>?_;rw [I'.apart l a e]at h2;exact dC h2
  have mem: ∀x a,(x,a)∈env.cells->(a=env.locals\/a∈env.cells.map (·.2)):=λx a h=> .inr (bM.mpr ⟨(x,a),h,rfl⟩);refine⟨F.scope,F.globals,F.builtins,F.ok,⟨mr,?_,λi x v h1 h2=>(c12 (hv i x v h1 h2) λr e q=>⟨r,e,q.mono le2⟩)⟩,λi x hx=> ?_,⟨?_,λl=>LG _ (.inl rfl) l⟩,λx a hx=> ?_,F.iQ,?_,?_⟩
  ·refine AD hn λo es ep ho hd hk hm=>?_;clear hn;refine c12 (heap _ o (.inl rfl) ho) λo' ho' u=>Jl o' es ep ho' (u.data▸hd) hk hm
  ·obtain⟨a,ov,h1,⟨o,ho,hd⟩,h3⟩:=F.cells i x hx;refine c12 (heap a o (mem x a (mem_of_lookup h1)) ho) λo' ho' u=>⟨a,ov,h1,⟨o',ho',u.data▸hd⟩,λv hv=>(c12 (h3 v hv) λr e q=>⟨r,e,q.mono le2⟩)⟩
  ·exact Wd.d6 (.inl rfl)
  ·obtain⟨h1,h2,h3,ov,o,ho,hd,hcl⟩:=F.mZ x a hx;refine c12 (heap a o (mem x a hx) ho) λo' ho' u=>⟨Wd.d6 (mem x a hx),LG _ (mem x a hx),h3,ov,o',ho',u.data▸hd,u.cls▸hcl⟩
  ·obtain⟨o,es,n,ho,hc1,hd⟩:=F.je;refine c12 (heap _ o (.inl rfl) ho) λo' ho' u=>⟨o',es,n,ho',u.cls▸hc1,u.data▸hd⟩
  ·obtain⟨fenv,rest,L,h1,h2,h3,h4,h5,h6,h7⟩:=F.pE;refine⟨fenv,rest,L,h1,h2.mono le2,h3,h4,h5,h6,?_⟩;refine aP h7 (λw=>?_) λz=>lU z λo es n ho hc1 hd=>?_
   ·rcases w with⟨rfl,o,es,n,ho,hc1,hd⟩
    refine c12 (heap _ o (.inl rfl) ho) λo' ho' u=>.inl ⟨rfl,o',es,n,ho',u.cls▸hc1,u.data▸hd⟩
   ·exact .inr ⟨o,es,n,le2.2 _ _ ho,hc1,hd⟩
theorem Inv.minus {X:Addr->Prop} (I:Inv C W Z s) (hc: ∀a o,X a->W.fz a=some o->Jk o) (hb: ∀a,X a->C.h₀.get? a=none):Inv C (W.minus X) Z s:=by
 refine⟨I.dom,I.inj,λl a o e q=>c12 (I.obj l a o e q) λob h1 h2=>⟨ob,h1,h2.taken hc⟩,λl a e=> ?_,λa o e=>I.fz a o (Wd.vM e).2,I.kept,λa o e=> ?_,I.gens,I.os,I.pos,I.high⟩
 ·by_cases q:X a
  ·exact Wd.d6 q
  ·rw [Wd.bA q];exact I.apart l a e
 ·rw [Wd.bA λq=>by rw [hb a q]at e;exact dC e];exact I.base a o e
open Classical in
noncomputable def Wd.plus (W:Wd) (X:Addr->Prop) (h:Heap):Wd:=⟨W.ρ,λa=>if X a then h.get? a else W.fz a⟩
theorem Wd.nI {X:Addr->Prop} (q:X a):(W.plus X h).fz a=h.get? a:=by delta Wd.plus;exact aG q
theorem Wd.fV {X:Addr->Prop} (q: ¬X a):(W.plus X h).fz a=W.fz a:=by delta Wd.plus;exact az q
theorem Inv.plus {X:Addr->Prop} (I:Inv C W Z s) (hX: ∀a,X a->W.fz a=none/\ ∀l,W.ρ l≠some a):W.le (W.plus X s.heap)/\Inv C (W.plus X s.heap) Z s:=by
 have le:W.le (W.plus X s.heap):=⟨λu v e=>e,λa o e=>by
  rw [Wd.fV λq=>by rw [(hX a q).1]at e;exact dC e];exact e⟩
 refine⟨le,I.dom,I.inj,λl a o e q=>c12 (I.obj l a o e q) λob h1 h2=>⟨ob,h1,h2.mono le⟩,λl a e=> ?_,λa o e=> ?_,I.kept,λa o e=>le.2 _ _ (I.base a o e),I.gens,I.os,I.pos,I.high⟩
 ·rw [Wd.fV λq=>(hX a q).2 l e];exact I.apart l a e
 ·by_cases q:X a
  ·rw [Wd.nI q]at e;exact i12 o e (.refl _)
  ·rw [Wd.fV q]at e;exact I.fz a o e
theorem At.freeze (H:At C sc A W env ms Z s) (g:s.heap.get? it=some ob) (n1:W.fz it=none) (n2: ∀l,W.ρ l≠some it) (n3: ¬Own env it):W.le (W.freeze it ob)/\At C sc A (W.freeze it ob) env ms Z s:=by
 refine bG (H.inv.fX (h:=s.heap) (t:=s.toks) (d:=s.drawn) n1 n2 (λw m e=>e) g) λle I=>⟨le,I,?_⟩;have F:=H.fr;obtain⟨mr,hn,hv⟩:=F.ns;have fz: ∀a,a≠it->(W.freeze it ob).fz a=W.fz a:=λa n=>by refine(?_:(if a=it then some ob else W.fz a)=_);exact az n
 refine⟨F.scope,F.globals,F.builtins,F.ok,⟨mr,hn,λi x v h1 h2=>(c12 (hv i x v h1 h2) λr e q=>⟨r,e,q.mono le⟩)⟩,λi x hx=> ?_,⟨?_,F.mi.2⟩,λx a hx=> ?_,F.iQ,F.je,?_⟩
 ·obtain⟨a,ov,h1,h2,h3⟩:=F.cells i x hx;exact⟨a,ov,h1,h2,λv hv=>(c12 (h3 v hv) λr e q=>⟨r,e,q.mono le⟩)⟩
 ·rw [fz _ λz=>n3 (.inl z.symm)];exact F.mi.1
 ·have p:=F.mZ x a hx;refine p.re ?_ p.Lx;rw [fz _ λz=>n3 (.inr (z▸bM.mpr ⟨(x,a),hx,rfl⟩))];exact p.Mh
 ·obtain⟨fenv,rest,L,h1,h2,h3,h4,h5,h6,h7⟩:=F.pE;refine⟨fenv,rest,L,h1,h2.mono le,h3,h4,h5,h6,?_⟩;refine aP h7 (λz=>?_) λu=>Js u λo es n z=>?_
  ·exact .inl z
  ·exact .inr ⟨o,es,n,le.2 _ _ z.1,z.2⟩
theorem At.Gv {X:Addr->Prop} (H:At C sc A W env ms Z s) (hX: ∀a o,X a->W.fz a=some o->Jk o/\o.cls≠ .type "frame") (hb: ∀a,X a->C.h₀.get? a=none):At C sc A (W.minus X) env ms Z s:=by
 have hc: ∀a o,X a->W.fz a=some o->Jk o:=λa o x e=>(hX a o x e).1;refine⟨H.inv.minus hc hb,?_⟩;have F:=H.fr;obtain⟨mr,hn,hv⟩:=F.ns;have out: ∀a,W.fz a=none->(W.minus X).fz a=none:=λa e=>by
  by_cases q:X a
  ·exact Wd.d6 q
  ·rw [Wd.bA q];exact e
 have stays: ∀L o,W.fz L=some o->o.cls= .type "frame"->(W.minus X).fz L=some o:=λL o e c=>by rw [Wd.bA λz=>(hX L o z e).2 c];exact e
 refine⟨F.scope,F.globals,F.builtins,F.ok,⟨mr,hn,λi x v h1 h2=>(c12 (hv i x v h1 h2) λr e q=>⟨r,e,q.taken hc⟩)⟩,λi x hx=> ?_,⟨out _ F.mi.1,F.mi.2⟩,λx a hx=> ?_,F.iQ,F.je,?_⟩
 ·obtain⟨a,ov,h1,h2,h3⟩:=F.cells i x hx;exact⟨a,ov,h1,h2,λv hv=>(c12 (h3 v hv) λr e q=>⟨r,e,q.taken hc⟩)⟩
 ·have p:=F.mZ x a hx;exact p.re (out _ p.Mh) p.Lx
 ·obtain⟨fenv,rest,L,h1,h2,h3,h4,h5,h6,h7⟩:=F.pE;refine⟨fenv,rest,L,h1,λe he=> ?_,h3,h4,h5,h6,?_⟩
  ·rcases h2 e he with⟨k1,L',o,es,n,k2,k3,k4,w⟩;refine bG w λk5 k6=>⟨k1,L',o,es,n,k2,k3,stays _ _ k4 k5,k5,k6⟩
  ·refine aP h7 (λz=>?_) λu=>lU u λo es n z1 z2 z3=>?_
   ·exact .inl z
   ·exact .inr ⟨o,es,n,stays _ _ z1 z2,z2,z3⟩
theorem At.Lp (H:At C sc A W env ms Z s) (g:W.fz it=some ob) (hj:Jk ob) (hf:ob.cls≠ .type "frame") (hb:C.h₀.get? it=none):
  At C sc A (W.minus (· =it)) env ms Z s/\ ∃ob',s.heap.get? it=some ob/\ob'=ob:=
 ⟨H.Gv (λa o e q=>by subst e;rw [g]at q;cases q;exact⟨hj,hf⟩) λa e=>e▸hb,ob,H.inv.frozen g hf,rfl⟩
theorem At.JG {X:Addr->Prop} (H:At C sc A W env ms Z s) (hX: ∀a,X a->(W.fz a=none/\ ∀l,W.ρ l≠some a)/\ ¬Own env a):W.le (W.plus X s.heap)/\At C sc A (W.plus X s.heap) env ms Z s:=by
 refine bG (H.inv.plus λa q=>(hX a q).1) λle I=>⟨le,I,?_⟩;have F:=H.fr;obtain⟨mr,hn,hv⟩:=F.ns;have out: ∀a,Own env a->W.fz a=none->(W.plus X s.heap).fz a=none:=λa o e=>by rw [Wd.fV λq=>(hX a q).2 o];exact e
 refine⟨F.scope,F.globals,F.builtins,F.ok,⟨mr,hn,λi x v h1 h2=>(c12 (hv i x v h1 h2) λr e q=>⟨r,e,q.mono le⟩)⟩,λi x hx=> ?_,⟨out _ (.inl rfl) F.mi.1,F.mi.2⟩,λx a hx=> ?_,F.iQ,F.je,?_⟩
 ·obtain⟨a,ov,h1,h2,h3⟩:=F.cells i x hx;exact⟨a,ov,h1,h2,λv hv=>(c12 (h3 v hv) λr e q=>⟨r,e,q.mono le⟩)⟩
 ·have p:=F.mZ x a hx;exact p.re (out _ (.inr (bM.mpr ⟨(x,a),hx,rfl⟩)) p.Mh) p.Lx
 ·obtain⟨fenv,rest,L,h1,h2,h3,h4,h5,h6,h7⟩:=F.pE;refine⟨fenv,rest,L,h1,h2.mono le,h3,h4,h5,h6,?_⟩;refine aP h7 (λz=>?_) λu=>Js u λo es n z=>?_
  ·exact .inl z
  ·exact .inr ⟨o,es,n,le.2 _ _ z.1,z.2⟩
theorem Op.in {α:Type} {t:Sem α} {R:Wd->α->Prop} {R':α->Shared->Prop} (hX:X=aside W env s.heap) (h:Op C k X Z t R aB) (hr:bY C A k) (H:At C sc A W env ms Z s)
  (q: ∀W' r s',W.le (taken W' env)->At C sc A (taken W' env) env ms aB s'->R W' r->(∀{v:AV} {r:Value},aw W' v r->aw (taken W' env) v r)->(∀{v:List AV} {r:List Value},aU W' v r->aU (taken W' env) v r)->R' r s'):wpAny C.M A t R' No s:=by
 subst hX;refine c12 (eV H.fr) λouter ho hs=>bF (h A s outer hr ho hs (eP H.inv H.fr)) (λr s' z=> ?_) λu w h=>h;obtain⟨W',le,I',hR⟩:=z;refine ud (eC.back H.inv H.fr le I') λl2 I2 F2 v1 v2=>q W' r s' l2 ⟨I2,F2⟩ hR v1 v2
end
end V
end
section
namespace V
section
variable {C:Cx} {k:Nat} {sc:Scope} {A:Around} {W:Wd} {env:Env} {ms ai aZ aK:List (Option AV)} {Z ae aN aB:St} {s:Shared}
theorem bf {α:Type} {t:Sem α} {R:Wd->α->Prop} {Q:α->Shared->Prop} (h:wpAny C.M A t (ie C sc A W env ai ae R) No s)
  (g: ∀aR r aI,W.le aR->At C sc A aR env ai ae aI->R aR r->Q r aI):wpAny C.M A t Q No s:=
 bF h (λr aI z=>(by obtain⟨aR,le,H,q⟩:=z;exact g aR r aI le H q)) λu v x=>x
theorem cR {α β:Type} {t:Sem α} {f:α->Sem β} {R:Wd->α->Prop} {Q:β->Shared->Prop} (h:wpAny C.M A t (ie C sc A W env ai ae R) No s)
  (g: ∀aR r aI,W.le aR->At C sc A aR env ai ae aI->R aR r->wpAny C.M A (f r) Q No aI):wpAny C.M A (t>>=f) Q No s:=
 ak (bf h g)
theorem bw {α:Type} {R:Wd->α->Prop} {r:α} (le:W.le W') (H:At C sc A W' env aK aB s) (q:R W' r):ie C sc A W env aK aB R r s:=⟨W',le,H,q⟩
theorem At.tok (H:At C sc A W env ms Z s) (t:Nat) (ht:s.toks<=t:=by kln_le):At C sc A W env ms Z {s with toks:=t}:=⟨H.inv.same (λu v e=>e) ht,H.fr⟩
noncomputable def Ev (C:Cx) (k:Nat) (sc:Scope) (ms:List (Option AV)) (Z:St) (e:Expr) (v:AV) (aK:List (Option AV)) (aB:St):Prop:=
 Tr C k sc ms Z (eval e) (λW r=>aw W v r) aK aB
noncomputable def Tv (C:Cx) (k:Nat) (sc:Scope) (ms:List (Option AV)) (Z:St) (e:Expr) (b:Bool) (aK:List (Option AV)) (aB:St):Prop:=
 Tr C k sc ms Z (λenv=>isTrue e env (eval e env)) (λ_ r=>r=b) aK aB
noncomputable def Es (C:Cx) (k:Nat) (sc:Scope) (ms:List (Option AV)) (Z:St) (pos:Pos) (es:List Expr) (vs:List AV) (aK:List (Option AV)) (aB:St):Prop:=
 Tr C k sc ms Z (λenv=>spliced (backTo pos (starEach es env))) (λW r=>aU W vs r) aK aB
inductive AF where
 | next | brk | cont
 | ret (v:AV)
noncomputable def bR (W:Wd):AF->Flow->Prop
 | .next,f=>f= .next
 | .brk,f=>f= .brk
 | .cont,f=>f= .cont
 | .ret v,f=> ∃r,f= .ret r/\aw W v r
noncomputable def Ex (C:Cx) (k:Nat) (sc:Scope) (ms:List (Option AV)) (Z:St) (ss:List Stmt) (f:AF) (aK:List (Option AV)) (aB:St):Prop:=
 Tr C k sc ms Z (λenv=>execs ss env) (λW r=>bR W f r) aK aB
noncomputable def X1 (C:Cx) (k:Nat) (sc:Scope) (ms:List (Option AV)) (Z:St) (st:Stmt) (f:AF) (aK:List (Option AV)) (aB:St):Prop:=
 Tr C k sc ms Z (λenv=>exec st env) (λW r=>bR W f r) aK aB
noncomputable def As (C:Cx) (k:Nat) (sc:Scope) (ms:List (Option AV)) (Z:St) (t:Expr) (v:AV) (aK:List (Option AV)) (aB:St):Prop:=
 ∀A W env s r,bY C A k->At C sc A W env ms Z s->aw W v r->wpAny C.M A (assign t env r) (ie C sc A W env aK aB λ_ _=>True) No s
noncomputable def ib {α:Type} (C:Cx) (k:Nat) (Z:St) (f:Value->Sem α) (a:AV) (R:Wd->α->Prop) (aB:St):Prop:=
 ∀W ra,aw W a ra->Op C k W Z (f ra) R aB
noncomputable def di {α:Type} (C:Cx) (k:Nat) (Z:St) (f:Value->Value->Sem α) (a b:AV) (R:Wd->α->Prop) (aB:St):Prop:=
 ∀W ra rb,aw W a ra->aw W b rb->Op C k W Z (f ra rb) R aB
noncomputable def J3 {α:Type} (C:Cx) (k:Nat) (Z:St) (f:Value->Value->Value->Sem α) (a b c:AV) (R:Wd->α->Prop) (aB:St):Prop:=
 ∀W ra rb rc,aw W a ra->aw W b rb->aw W c rc->Op C k W Z (f ra rb rc) R aB
noncomputable def bK (W:Wd):List (Str×AV)->List (Str×Value)->Prop
 | [],ks=>ks= []
 | (n,x)::r,ks=> ∃v ks',ks=(n,v)::ks'/\aw W x v/\bK W r ks'
theorem bK.mono (h:W.le W'): ∀{xs:List (Str×AV)} {vs:List (Str×Value)},bK W xs vs->bK W' xs vs
 | [],_,q=>q
 | (_,_)::_,_,q=>by refine fu q λv ks' e a b=>jE v ks' e (a.mono h) (b.mono h)
noncomputable def Ca (C:Cx) (k:Nat) (Z:St) (f:AV) (as:List AV) (kw:List (Str×AV)) (v:AV) (aB:St):Prop:=
 ∀W rf df fq,aw W f rf->aU W as df->bK W kw fq->Op C k W Z (call rf df fq) (λW r=>aw W v r) aB
theorem aa {i:Nat} {x:Str} {v:AV} {pos:Pos} (hi:sc.names[i]? =some (x,NameKind.local)) (hv:ms[i]? =some (some v)):Ev C k sc ms Z (.Name x pos) v ms Z:=by
 intro A W env s hr H;obtain⟨mr,hn,hm⟩:=H.fr.ns;refine c12 (hm i x v hi hv) λr e q=>?_;have hl:env.kindOf x=some .local:=by delta Env.kindOf;rw [H.fr.scope];exact bI (cW.nodup H.fr.ok) hi
 exact wpAny_Name (wpAny_loadName_local (by rw [H.fr.scope];exact cW.kind H.fr.ok) hl hn e (bw (.refl W) H q)) ((cW.all H.fr.ok _ (ip hi)).2 (λz=>nomatch z))
theorem aL {i:Nat} {x:Str} {v:AV} {pos:Pos} (hi:sc.names[i]? =some (x,NameKind.cell)) (hv:ms[i]? =some (some v)):Ev C k sc ms Z (.Name x pos) v ms Z:=by
 intro A W env s hr H;obtain⟨a,ov,hc,hcell,hm⟩:=H.fr.cells i x hi;refine c12 (hm v hv) λr u=>?_;subst u;intro q;have hl:env.kindOf x=some .cell:=by delta Env.kindOf;rw [H.fr.scope];exact bI (cW.nodup H.fr.ok) hi
 exact wpAny_Name (wpAny_loadName_cell (by rw [H.fr.scope];exact cW.kind H.fr.ok) hl hc hcell (bw (.refl W) H q)) ((cW.all H.fr.ok _ (ip hi)).2 (λz=>nomatch z))
noncomputable def Glob (C:Cx) (x:Str) (v:AV):Prop:=(x==("__debug__":Str))=false/\ ∃r,(C.mg x=some r\/(C.mg x=none/\C.mb x=some r))/\ ∀W,aw W v r
theorem ar {i:Nat} {x:Str} {v:AV} {pos:Pos} (O:C.Ok) (hi:sc.names[i]? =some (x,NameKind.globalImplicit)) (g:Glob C x v):Ev C k sc ms Z (.Name x pos) v ms Z:=by
 intro A W env s hr H;obtain⟨hd,r,hg,q⟩:=g;have hl:env.kindOf x=some .globalImplicit:=by delta Env.kindOf;rw [H.fr.scope];exact bI (cW.nodup H.fr.ok) hi
 have hG:s.heap.Ns env.globals C.mg:=by rw [H.fr.globals];exact O.g.keeps H.inv.kept
 refine Name_function_global (by rw [H.fr.scope];exact cW.kind H.fr.ok) hl ?_ hd;refine aP hg (λhg=>?_) λz=>bG z λhg hb=>?_
 ·exact loadGlobal_global hG hg (bw (.refl W) H (q W))
 ·have hB:s.heap.Ns env.builtins C.mb:=by rw [H.fr.builtins];exact O.b.keeps H.inv.kept
  exact loadGlobal_builtin hG hg hB hb (bw (.refl W) H (q W))
theorem bV {x pos}:Ev C k sc ms Z (.Constant .none x pos) .none ms Z:=λA W env s hr H=>by rw [Ad];exact aQ (bw (.refl W) H rfl)
theorem dS {b:Bool} {x pos}:Ev C k sc ms Z (.Constant (.bool b) x pos) (.bool b) ms Z:=λA W env s hr H=>by rw [Ad];exact aQ (bw (.refl W) H rfl)
theorem aC {x pos}:Ev C k sc ms Z (.Constant (.int i) x pos) (.int i) ms Z:=λA W env s hr H=>by rw [Ad];exact wpAny_mkInt (bw (.refl W) (H.tok _) (⟨_,rfl⟩))
theorem aW {x pos}:Ev C k sc ms Z (.Constant (.str t) x pos) (.str t) ms Z:=λA W env s hr H=>by rw [Ad];exact wpAny_mkText (bw (.refl W) (H.tok _) (⟨_,rfl⟩))
theorem ay {op:Operator} (h1:Ev C k sc ms Z l a ai ae) (h2:Ev C k sc ai ae r b aZ aN)
  (h3:di C k aN (binaryOp op) a b (λW r=>aw W c r) aB):Ev C k sc ms Z (.BinOp l op r pos) c aZ aB:=by
 intro A W env s hr H;refine wpAny_BinOp (bf (h1 A W env s hr H) λaR ra aI aA aO qa=>bf (h2 A aR env aI hr aO) λbh rb aT ax aF qb=> ?_);have as:=a8 aF.fr;exact Op.in rfl (h3 _ ra rb ((qa.mono ax).mono as) (qb.mono as)) hr aF λbS r bt bg br q tk u=>bw (aA.trans (ax.trans bg)) br (tk q)
theorem dD {op:UnaryOp} (h1:Ev C k sc ms Z x a ai ae)
  (h3:ib C k ae (unaryOp op) a (λW r=>aw W c r) aB):Ev C k sc ms Z (.UnaryOp op x pos) c ai aB:=by
 intro A W env s hr H;refine wpAny_UnaryOp (bf (h1 A W env s hr H) λaR ra aI aA aO qa=> ?_);exact Op.in rfl (h3 _ ra (qa.mono (a8 aO.fr))) hr aO λbS r bt bg br q tk u=>bw (aA.trans bg) br (tk q)
theorem eu {op:CmpOp} (h1:Ev C k sc ms Z l a ai ae) (h2:Ev C k sc ai ae r b aZ aN)
  (h3:di C k aN (compareOp op) a b (λW r=>aw W c r) aB) (hm:behindInMarks op r=false):Ev C k sc ms Z (.Compare l [op] [r] pos) c aZ aB:=by
 intro A W env s hr H;refine wpAny_Compare1 (bf (h1 A W env s hr H) λaR ra aI aA aO qa=>bf (h2 A aR env aI hr aO) λbh rb aT ax aF qb=> ?_) hm;have as:=a8 aF.fr;exact Op.in rfl (h3 _ ra rb ((qa.mono ax).mono as) (qb.mono as)) hr aF λbS r bt bg br q tk u=>bw (aA.trans (ax.trans bg)) br (tk q)
theorem b8 {b:Bool} (h1:Tv C k sc ms Z test b ai ae) (h2:Ev C k sc ai ae (if b then x else y) v aK aB):Ev C k sc ms Z (.IfExp test x y pos) v aK aB:=by
 intro A W env s hr H;refine wpAny_IfExp (bf (h1 A W env s hr H) λaR rb aI aA aO qb=> ?_);subst qb;have h:=h2 A aR env aI hr aO;cases rb
 ·exact bf h λbh r aT ax aF q=>bw (aA.trans ax) aF q
 ·exact bf h λbh r aT ax aF q=>bw (aA.trans ax) aF q
theorem oz (h1:Ev C k sc ms Z value v ai ae) (h2:As C k sc ai ae target v aK aB):Ev C k sc ms Z (.NamedExpr target value pos) v aK aB:=by intro A W env s hr H;refine wpAny_NamedExpr (bf (h1 A W env s hr H) λaR r aI aA aO q=>bf (h2 A aR env aI r hr aO q) λbh u aT ax aF w=>bw (aA.trans ax) aF (q.mono ax))
theorem aX {b:Bool} (h1:Ev C k sc ms Z e v ai ae) (h2:ib C k ae truthy v (λw r=>r=b) aB)
  (he: ∀env whole,isTrue e env whole=(do let v<-whole;standAt e.pos;holding [v] (truthy v)):=by exact λu v=>rfl):Tv C k sc ms Z e b ai aB:=by
 intro A W env s hr H;refine wpAny_isTrue_value (bf (h1 A W env s hr H) λaR r aI aA aO q=> ?_) (he _ _);exact Op.in rfl (h2 _ r (q.mono (a8 aO.fr))) hr aO λbS r bt bg br q tk w=>bw (aA.trans bg) br q
theorem aq {op:CmpOp} {c:Bool} (h1:Ev C k sc ms Z l a ai ae) (h2:Ev C k sc ai ae r b aZ aN)
  (h3:di C k aN (compareOp op) a b (λW r=>aw W (.bool c) r) aB) (hm:behindInMarks op r=false):Tv C k sc ms Z (.Compare l [op] [r] pos) c aZ aB:=by
 intro A W env s hr H;refine wpAny_isTrue_Compare1 (bf (h1 A W env s hr H) λaR ra aI aA aO qa=>bf (h2 A aR env aI hr aO) λbh rb aT ax aF qb=> ?_) hm;have as:=a8 aF.fr;refine Op.in rfl (h3 _ ra rb ((qa.mono ax).mono as) (qb.mono as)) hr aF λbS r bt bg br q tk u=> ?_;subst q;exact wpAny_truthy_bool (bw (aA.trans (ax.trans bg)) br rfl)
theorem d7 {b:Bool} (h:Tv C k sc ms Z x b aK aB):Tv C k sc ms Z (.UnaryOp .Not x pos) (!b) aK aB:=by intro A W env s hr H;exact wpAny_isTrue_Not (bf (h A W env s hr H) λaR r aI aA aO q=>bw aA aO (by rw [q]))
noncomputable def Eh (C:Cx) (k:Nat) (sc:Scope) (ms:List (Option AV)) (Z:St) (op:BoolOp) (es:List Expr) (b:Bool) (aK:List (Option AV)) (aB:St):Prop:=
 Tr C k sc ms Z (λenv=>allTrue op es env) (λ_ r=>r=b) aK aB
theorem aY (h:Eh C k sc ms Z op es b aK aB):Tv C k sc ms Z (.BoolOp op es pos) b aK aB:=
 λA W env s hr H=>wpAny_isTrue_BoolOp (h A W env s hr H)
theorem fZ:Eh C k sc ms Z .And [] true ms Z:=λu W v w g H=>wpAny_allTrue_And_nil (bw (.refl W) H rfl)
theorem cj:Eh C k sc ms Z .Or [] false ms Z:=λu W v w g H=>wpAny_allTrue_Or_nil (bw (.refl W) H rfl)
theorem b7 (h:Tv C k sc ms Z x false aK aB):Eh C k sc ms Z .And (x::rest) false aK aB:=
 λA W env s hr H=>wpAny_allTrue_And_cons (bf (h A W env s hr H) λaR r aI aA aO q=>by subst q;exact bw aA aO rfl)
theorem ck {b:Bool} (h:Tv C k sc ms Z x true ai ae) (h2:Eh C k sc ai ae .And rest b aK aB):Eh C k sc ms Z .And (x::rest) b aK aB:=
 λA W env s hr H=>wpAny_allTrue_And_cons (bf (h A W env s hr H) λaR r aI aA aO q=>by
  subst q;exact bf (h2 A aR env aI hr aO) λbh r aT ax aF q=>bw (aA.trans ax) aF q)
theorem c8 (h:Tv C k sc ms Z x true aK aB):Eh C k sc ms Z .Or (x::rest) true aK aB:=
 λA W env s hr H=>wpAny_allTrue_Or_cons (bf (h A W env s hr H) λaR r aI aA aO q=>by subst q;exact bw aA aO rfl)
theorem ba {b:Bool} (h:Tv C k sc ms Z x false ai ae) (h2:Eh C k sc ai ae .Or rest b aK aB):Eh C k sc ms Z .Or (x::rest) b aK aB:=
 λA W env s hr H=>wpAny_allTrue_Or_cons (bf (h A W env s hr H) λaR r aI aA aO q=>by
  subst q;exact bf (h2 A aR env aI hr aO) λbh r aT ax aF q=>bw (aA.trans ax) aF q)
theorem ao:Es C k sc ms Z pos [] [] ms Z:=λu W v w g H=>spliced_nil (bw (.refl W) H .nil)
theorem af (h1:Ev C k sc ms Z e v ai ae) (h2:Es C k sc ai ae pos rest vs aK aB)
  (he: ∀env,starEach (e::rest) env=(false,eval e env)::starEach rest env:=by exact λu=>rfl):Es C k sc ms Z pos (e::rest) (v::vs) aK aB:=by
 intro A W env s hr H;refine(?_:wpAny C.M A (spliced (backTo pos (starEach (e::rest) env))) _ _ _);rw [he];refine spliced_cons (bf (t:=eval e env) (h1 A W env s hr H) λaR r aI aA aO q=> ?_);exact bf (h2 A aR env aI hr aO) λbh rs aT ax aF qs=>bw (aA.trans ax) aF (.cons (q.mono ax) qs)
theorem bz:Ex C k sc ms Z [] .next ms Z:=λu W v w g H=>wpAny_execs_nil (bw (.refl W) H rfl)
theorem aJ {st:Stmt} {rest:List Stmt} {f:AF} (h1:X1 C k sc ms Z st .next ai ae) (h2:Ex C k sc ai ae rest f aK aB):Ex C k sc ms Z (st::rest) f aK aB:=
 λA W env s hr H=>wpAny_execs_cons (bf (h1 A W env s hr H) λaR r aI aA aO q=>by
  delta bR at q;subst q;exact bf (h2 A aR env aI hr aO) λbh r aT ax aF q=>bw (aA.trans ax) aF q)
theorem iu {st:Stmt} {rest:List Stmt} {f:AF} (h1:X1 C k sc ms Z st f aK aB) (hf:f≠ .next):Ex C k sc ms Z (st::rest) f aK aB:=
 λA W env s hr H=>wpAny_execs_cons (bf (h1 A W env s hr H) λaR r aI aA aO q=>by
  cases f with
  | next=>exact absurd rfl hf
  | brk=>delta bR at q;subst q;exact bw aA aO rfl
  | cont=>delta bR at q;subst q;exact bw aA aO rfl
  | ret v=>delta bR at q;refine yA q λx q=>?_;exact bw aA aO ⟨x,rfl,q⟩)
theorem DL:X1 C k sc ms Z (.Break pos) .brk ms Z:=λu W v w g H=>wpAny_Break (bw (.refl W) H rfl)
theorem vC:X1 C k sc ms Z (.Continue pos) .cont ms Z:=λu W v w g H=>wpAny_Continue (bw (.refl W) H rfl)
theorem Ak (h:Ev C k sc ms Z e v aK aB):X1 C k sc ms Z (.Return (some e) pos) (.ret v) aK aB:=
 λA W env s hr H=>wpAny_Return_some (bf (h A W env s hr H) λaR r aI aA aO q=>bw aA aO ⟨r,rfl,q⟩)
theorem qB {b:Bool} {f:AF} (h1:Tv C k sc ms Z test b ai ae) (h2:Ex C k sc ai ae (if b then x else y) f aK aB):X1 C k sc ms Z (.If test x y pos) f aK aB:=by
 intro A W env s hr H;refine wpAny_If (bf (h1 A W env s hr H) λaR rb aI aA aO qb=> ?_);subst qb;have h:=h2 A aR env aI hr aO;cases rb
 ·exact bf h λbh r aT ax aF q=>bw (aA.trans ax) aF q
 ·exact bf h λbh r aT ax aF q=>bw (aA.trans ax) aF q
theorem cv (h:Ev C k sc ms Z e v aK aB) (hs: ∀env:Env,env.scope.kind= .function->swapsWith e none pos.line env=pure false:=by exact λu v=>rfl):X1 C k sc ms Z (.Expr e pos) .next aK aB:=by
 intro A W env s hr H;have hk:env.scope.kind= .function:=by rw [H.fr.scope];exact cW.kind H.fr.ok
 refine(?_:wpAny C.M A (exec (.Expr e pos) env) _ _ _);rw [exec_Expr env e pos (by delta interactive;rw [hk];rfl) (hs env hk)];refine ak (cF (cR (h A W env s hr H) λaR r aI aA aO q=> ?_));exact wpAny_dropValue (bw aA aO rfl)
theorem au (h1:Ev C k sc ms Z value v ai ae) (h2:As C k sc ai ae t v aK aB)
  (hs: ∀env,swapsWithSole [t] value pos.line env=pure false:=by exact λu=>rfl) (hw: ∀env,swappedStores [t] value env=pure none:=by exact λu=>rfl) (ht: ∀env,(assignEach [t] env).map (·.2)= [assign t env]:=by exact λu=>rfl):
  X1 C k sc ms Z (.Assign [t] value pos) .next aK aB:=by
 intro A W env s hr H;refine wpAny_Assign_stores (bf (h1 A W env s hr H) λaR r aI aA aO q=> ?_) (hs env) (hw env);rw [ht];exact bf (h2 A aR env aI r hr aO q) λbh w aT ax aF g=>bw (aA.trans ax) aF rfl
end
end V
end
section
namespace V
section
variable {M:Model} {A:Around} {E:Value->Shared->Prop} {s:Shared}
theorem ti {m:Str->Option Value} {Q:Unit->Shared->Prop} (hn:s.heap.Ns a m) (ho':s.heap.get? a=some o)
  (hQ: ∀h' o' es n,h'.Ns a (λx=>if x=name then some v else m x)->Heap.SameBut a s.heap h'->h'.get? a=some o'->o'.cls=o.cls->o'.data= .dict es n->Q () {s with heap:=h',toks:=s.toks+1}):
  wpAny M A (nsSet a name v) Q E s:=λΓ p u=>by
 refine AD hn λLH es ep ho hd hk hm=>?_;clear hn;rw [ho]at ho';obtain rfl:=dI ho';simp only [nsSet,strHash,uJ,Sem.wp_cmd_ask,Sem.wp_pure',Sem.wp_cmd_mkText];rw [Sem.wp_loadPart_of M Γ _ p {s with toks:=s.toks+1} (o:=LH) _ ho];have hany:es.any (·.refKey)=false:=by rw [Array.any_eq_false'];intro e he;refine c21 (hk e he) λn t h=>?_;simp [DictEntry.refKey,h]
 simp only [hd,aRefKeyMayBeTheName_eq,aRefKeyMayBeTheNameByArray,hany,Bool.and_false,iP,jG,Sem.wp_cmd_updatePart];refine⟨by rw [ho];rfl,?_⟩;obtain⟨c,d,dt,sl⟩:=LH;subst hd;cases hi:es.findIdx? (·.key.isStr name)with
 | some i=>
  have g:=jw (Obj.putName name (PyData.keyHash M.w.params name) (.str name s.toks) v) ho (by simp only [Obj.putName_eq,Obj.putNameByArray,hi];rfl);have e:Obj.putName name (PyData.keyHash M.w.params name) (.str name s.toks) v ⟨c,d,.dict es ep,sl⟩=⟨c,d,.dict (es.modify i λe=>{e with val:=v}) ep,sl⟩:=by simp only [Obj.putName_eq,Obj.putNameByArray,hi]
  rw [e]at g;refine hQ _ _ _ _ ⟨_,_,ep,g,rfl,hk.modify _ _,λx=> ?_⟩ (zb ..) g rfl rfl;refine(?_:_=if x=name then some v else m x);rw [<-hm];exact findBy_modify (λn v=>v.isStr n) Value.isStr_inj es name x v i hi
 | none=>
  have g:=jw (Obj.putName name (PyData.keyHash M.w.params name) (.str name s.toks) v) ho (by simp only [Obj.putName_eq,Obj.putNameByArray,hi];rfl);have e:Obj.putName name (PyData.keyHash M.w.params name) (.str name s.toks) v ⟨c,d,.dict es ep,sl⟩=⟨c,d,.dict (es.push ⟨PyData.keyHash M.w.params name,.str name s.toks,v⟩) (ep+1),sl⟩:=by simp only [Obj.putName_eq,Obj.putNameByArray,hi]
  rw [e]at g;refine hQ _ _ _ _ ⟨_,_,ep+1,g,rfl,hk.push _ _ _ _,λx=> ?_⟩ (zb ..) g rfl rfl;refine(?_:_=if x=name then some v else m x);rw [<-hm];exact findBy_push (λn v=>v.isStr n) es name x _ _ v (λy=>by
   refine(?_:(name==y)=decide (y=name));by_cases h:y=name
   ·subst h;simp
   ·have: ¬name=y:=λe=>h e.symm;simp [h,this]) hi
end
section
variable {C:Cx} {k:Nat} {sc:Scope} {A:Around} {W:Wd} {env:Env} {ms ai aZ aK:List (Option AV)} {Z ae aN aB:St} {s:Shared}
theorem iV: ∀{l:List (Str×NameKind)} {i j:Nat} {x:Str} {a b:NameKind},(l.map (·.1)).Nodup->l[i]? =some (x,a)->l[j]? =some (x,b)->i=j:=by
 intro aH;induction aH with
 | nil=>
  intro i j x a b u hi v;exact by simp at hi
 | cons y r ih=>
  intro i j x a b h hi hj;rw [dj,gM]at h;have no: ∀(m:Nat) (c d:NameKind),r[m]? =some (x,c)->y=(x,d)->False:=λm c d e e2=>
   h.1 (bM.mpr ⟨(x,c),ip e,by rw [e2]⟩)
  cases i with
  | zero=>cases j with
   | zero=>rfl
   | succ j=>simp at hi hj;exact(no j b a hj hi).elim
  | succ i=>cases j with
   | zero=>simp at hi hj;exact(no i a b hi hj).elim
   | succ j=>simp at hi hj;rw [ih h.2 hi hj]
theorem lZ {Q:Unit->Shared->Prop} (hi:sc.names[i]? =some (x,NameKind.local)) (H:At C sc A W env ms Z s) (q:aw W v r)
  (h: ∀s',At C sc A W env (ms.set i (some v)) Z s'->s.toks<s'.toks->Q () s'):wpAny C.M A' (storeName env x r) Q No s:=by
 obtain⟨mr,hn,hm⟩:=H.fr.ns;obtain⟨o,es,n,ho,hcl,hd⟩:=H.fr.je;have hk:env.scope.kind= .function:=by rw [H.fr.scope];exact cW.kind H.fr.ok
 have hl:env.kindOf x=some .local:=by delta Env.kindOf;rw [H.fr.scope];exact bI (cW.nodup H.fr.ok) hi
 rw [storeName_local hl (by rw [hk];rfl)];refine ti hn ho λh' o' es' n' hn' hs' hg hc' hd'=>h _ ⟨?_,?_⟩ (Nat.lt_succ_self _)
 ·exact H.inv.but H.fr.mi.1 H.fr.mi.2 (λb ob nb e=>(hs'.2 b nb).trans e)
 ·have oth: ∀b ob,b≠env.locals->s.heap.get? b=some ob->h'.get? b=some ob:=λb ob nb e=>(hs'.2 b nb).trans e;refine⟨H.fr.scope,H.fr.globals,H.fr.builtins,H.fr.ok,⟨_,hn',λj y u hj hu=> ?_⟩,λj y hj=> ?_,H.fr.mi,λy a hy=> ?_,H.fr.iQ,⟨o',es',n',hg,hc'▸hcl,hd'⟩,?_⟩
  ·by_cases hy:y=x
   ·subst hy;have ij:=iV (cW.nodup H.fr.ok) hi hj;subst ij;rw [aG rfl];rw [List.getElem?_set_self']at hu;refine i12 r rfl ?_;cases z:ms[i]? with
    | none=>rw [z]at hu;exact dC hu
    | some _=>rw [z]at hu;simp at hu;subst hu;exact q
   ·rw [az hy];have ij:i≠j:=λe=>by subst e;rw [hi]at hj;cases hj;exact hy rfl
    rw [List.getElem?_set_ne ij]at hu;exact hm j y u hj hu
  ·obtain⟨a,ov,h1,⟨oc,h2,h3⟩,h4⟩:=H.fr.cells j y hj;refine⟨a,ov,h1,⟨oc,oth a oc (H.fr.mZ y a (mem_of_lookup h1)).no h2,h3⟩,λu hu=>h4 u ?_⟩;have ij:i≠j:=λe=>by subst e;rw [hi]at hj;cases hj
   rwa [List.getElem?_set_ne ij]at hu
  ·obtain⟨h1,h2,h3,ov,oc,h4,h5,h6⟩:=H.fr.mZ y a hy;exact⟨h1,h2,h3,ov,oc,oth a oc h3 h4,h5,h6⟩
  ·obtain⟨fenv,rest,L,h1,h2,h3,h4,h5,h6,h7⟩:=H.fr.pE;refine⟨fenv,rest,L,h1,h2,h3,h4,h5,h6,?_⟩;refine aP h7 (λw=>?_) λz=>?_
   ·rcases w with⟨rfl,IG,GL,LI,g2,c2,_⟩
    rw [ho]at g2;cases g2;exact .inl ⟨rfl,o',es',n',hg,hc'.trans c2,hd'⟩
   ·exact .inr z
theorem gc {Q:Unit->Shared->Prop} (hi:sc.names[i]? =some (x,NameKind.local)) (H:At C sc A W env ms Z s) (q:aw W v r)
  (h: ∀s',At C sc A W env (ms.set i (some v)) Z s'->Q () s'):wpAny C.M A' (storeName env x r) Q No s:=lZ hi H q λs' H' u=>h s' H'
theorem kX {Q:Unit->Shared->Prop} (hi:sc.names[i]? =some (x,NameKind.cell)) (H:At C sc A W env ms Z s) (q:aw W v r)
  (h: ∀s',At C sc A W env (ms.set i (some v)) Z s'->Q () s'):wpAny C.M A' (storeName env x r) Q No s:=by
 obtain⟨a,ov,hc,⟨o,ho,hd⟩,hm⟩:=H.fr.cells i x hi;obtain⟨OI,OJ,MY,ov',IG,ho2,hd2,LJ⟩:=H.fr.mZ x a (mem_of_lookup hc);rw [ho]at ho2;obtain rfl:=dI ho2;have hk:env.scope.kind= .function:=by rw [H.fr.scope];exact cW.kind H.fr.ok
 have hl:env.kindOf x=some .cell:=by delta Env.kindOf;rw [H.fr.scope];exact bI (cW.nodup H.fr.ok) hi
 delta storeName;simp only [hl,hk];refine ak (wpAny_cellOf hc ?_);refine ak (wpAny_load ho ?_);rw [hd];refine wpAny_update ho (h _ ⟨?_,?_⟩)
 ·exact H.inv.but OI OJ (λb ob nb e=>(m8 _ _ (f7 nb)).trans e)
 ·have oth: ∀b ob,b≠a->s.heap.get? b=some ob->(s.heap.update a λo=>{o with data:= .cell (some r)}).get? b=some ob:=λb ob nb e=>(m8 _ _ (f7 nb)).trans e;have here:(s.heap.update a λo=>{o with data:= .cell (some r)}).get? a=some {o with data:= .cell (some r)}:=jw (λo=>{o with data:= .cell (some r)}) ho rfl;obtain⟨mr,⟨oL,es,ep,h1,h2,h3,h4⟩,hv⟩:=H.fr.ns;refine⟨H.fr.scope,H.fr.globals,H.fr.builtins,H.fr.ok,⟨mr,⟨oL,es,ep,oth _ _ (f7 MY) h1,h2,h3,h4⟩,λj y u hj hu=>hv j y u hj ?_⟩,λj y hj=> ?_,H.fr.mi,λy b hy=> ?_,H.fr.iQ,?_,?_⟩
  ·have ij:i≠j:=λe=>by subst e;rw [hi]at hj;cases hj
   rwa [List.getElem?_set_ne ij]at hu
  ·obtain⟨b,ob,g1,⟨oc,g2,g3⟩,g4⟩:=H.fr.cells j y hj;by_cases hy:y=x
   ·subst hy;have ij:=iV (cW.nodup H.fr.ok) hi hj;subst ij;refine⟨a,some r,hc,⟨_,here,rfl⟩,λu hu=>⟨r,rfl,?_⟩⟩;rw [List.getElem?_set_self']at hu;cases z:ms[i]? with
    | none=>rw [z]at hu;exact dC hu
    | some _=>rw [z]at hu;simp at hu;subst hu;exact q
   ·have nb:b≠a:=λe=>hy (H.fr.iQ y x a (e▸mem_of_lookup g1) (mem_of_lookup hc));refine⟨b,ob,g1,⟨oc,oth _ _ nb g2,g3⟩,λu hu=>g4 u ?_⟩;have ij:i≠j:=λe=>by subst e;rw [hi]at hj;cases hj;exact hy rfl
    rwa [List.getElem?_set_ne ij]at hu
  ·obtain⟨g1,g2,g3,MZ,oc,g4,g5,g6⟩:=H.fr.mZ y b hy;by_cases nb:b=a
   ·subst nb;rw [ho]at g4;cases g4;exact⟨g1,g2,g3,some r,_,here,rfl,g6⟩
   ·exact⟨g1,g2,g3,MZ,oc,oth _ _ nb g4,g5,g6⟩
  ·obtain⟨oL,es,n,g1,g2,g3⟩:=H.fr.je;exact⟨oL,es,n,oth _ _ (f7 MY) g1,g2,g3⟩
  ·obtain⟨fenv,rest,L,g1,g2,g3,g4,g5,g6,g7⟩:=H.fr.pE;refine⟨fenv,rest,L,g1,g2,g3,g4,g5,g6,?_⟩;refine aP g7 (λw=>?_) λz=>?_
   ·rcases w with⟨rfl,IG,GL,LI,e1,e2,e3⟩
    exact .inl ⟨rfl,IG,GL,LI,oth _ _ (f7 MY) e1,e2,e3⟩
   ·exact .inr z
theorem By (hi:sc.names[i]? =some (x,NameKind.local)):As C k sc ms Z (.Name x pos) v (ms.set i (some v)) Z:=by intro A W env s r hr H q;rw [arm_assign_Name];exact ak (cF (xv (gc hi H q λs' H'=>bw (.refl W) H' trivial)))
theorem EL (hi:sc.names[i]? =some (x,NameKind.cell)):As C k sc ms Z (.Name x pos) v (ms.set i (some v)) Z:=by intro A W env s r hr H q;rw [arm_assign_Name];exact ak (cF (xv (kX hi H q λs' H'=>bw (.refl W) H' trivial)))
end
end V
end
section
namespace V
mutual
noncomputable def AV.In (D:Loc->Prop):AV->Prop
 | .loc l=>D l
 | .mw _ l=>D l
 | .bm _ l=>D l
 | .Az a b c=>AV.In D a/\AV.In D b/\AV.In D c
 | .fld _ xs=>AV.mT D xs
 | .tup xs=>AV.mT D xs
 | .lst xs=>AV.mT D xs
 | _=>True
noncomputable def AV.mT (D:Loc->Prop):List AV->Prop
 | []=>True
 | x::xs=>AV.In D x/\AV.mT D xs
end
noncomputable def AO.In (D:Loc->Prop):AO->Prop
 | .list xs=>AV.mT D xs
 | .dict es=> ∀p∈es,AV.In D p.2
 | .map es _=> ∀p∈es,AV.In D p.2
 | .set _=>True
 | .inst _ d=>D d
 | .slots _ d vs=>D d/\ ∀x,some x∈vs->AV.In D x
 | .junk=>True
 | .exc _ xs=>AV.mT D xs
 | .iter l _=>D l
mutual
theorem aw.dq: ∀{x:AV} {v:Value},aw W x v->x.In λl=>(W.ρ l).isSome=true
 | .none,_,_=>trivial
 | .any,_,_=>trivial
 | .bool _,_,_=>trivial
 | .int _,_,_=>trivial
 | .str _,_,_=>trivial
 | .bytes _,_,_=>trivial
 | .ty _,_,_=>trivial
 | .bi _,_,_=>trivial
 | .ext _,_,_=>trivial
 | .loc _,_,q=>by refine c12 q λa e _=>?_;clear q;refine(?_:(W.ρ _).isSome=true);rw [e];rfl
 | .mw _ _,_,q=>by refine sL q λa _ _ e _=>?_;clear q;refine(?_:(W.ρ _).isSome=true);rw [e];rfl
 | .bm _ _,_,q=>by refine sL q λa _ _ e _=>?_;clear q;refine(?_:(W.ρ _).isSome=true);rw [e];rfl
 | .Az _ _ _,_,q=>by refine Ei q λ_ _ _ _ _ _ _ _ z=>ku z λ_ k1 k2 k3=>?_;exact nB (aw.dq k1) (aw.dq k2) (aw.dq k3)
 | .fld _ _,_,q=>by obtain⟨_,_,_,_,_,_,_,k⟩:=q;exact aU.dq k
 | .tup _,_,q=>by refine wj q λ_ _ _ _ _ _ _ _ k=>?_;exact aU.dq k
 | .lst _,_,q=>by refine wj q λ_ _ _ _ _ _ _ _ k=>?_;exact aU.dq k
theorem aU.dq: ∀{x:List AV} {v:List Value},aU W x v->AV.mT (λl=>(W.ρ l).isSome=true) x
 | [],_,_=>trivial
 | _::_,_,q=>by refine fu q λ_ _ _ a b=>⟨aw.dq a,aU.dq b⟩
end
mutual
theorem AV.In.mono {D D':Loc->Prop} (h: ∀l,D l->D' l): ∀{x:AV},x.In D->x.In D'
 | .none,_=>trivial
 | .any,_=>trivial
 | .bool _,_=>trivial
 | .int _,_=>trivial
 | .str _,_=>trivial
 | .bytes _,_=>trivial
 | .ty _,_=>trivial
 | .bi _,_=>trivial
 | .ext _,_=>trivial
 | .loc l,q=>h l q
 | .mw _ l,q=>h l q
 | .bm _ l,q=>h l q
 | .Az _ _ _,q=>by exact nB (AV.In.mono h q.1) (AV.In.mono h q.2.1) (AV.In.mono h q.2.2)
 | .fld _ _,q=>by exact AV.mT.mono h q
 | .tup _,q=>by exact AV.mT.mono h q
 | .lst _,q=>by exact AV.mT.mono h q
theorem AV.mT.mono {D D':Loc->Prop} (h: ∀l,D l->D' l): ∀{x:List AV},AV.mT D x->AV.mT D' x
 | [],_=>trivial
 | _::_,q=>by exact⟨AV.In.mono h q.1,AV.mT.mono h q.2⟩
end
structure Cut (W W':Wd) (D:Loc->Prop):Prop where
 ρ: ∀l a,D l->W.ρ l=some a->W'.ρ l=some a
 fz: ∀a o,W.fz a=some o->W'.fz a=some o
mutual
theorem aw.cut {D:Loc->Prop} (h:Cut W W' D): ∀{x:AV} {v:Value},aw W x v->x.In D->aw W' x v
 | .none,_,q,_=>q
 | .any,_,_,_=>trivial
 | .bool _,_,q,_=>q
 | .int _,_,q,_=>q
 | .str _,_,q,_=>q
 | .bytes _,_,q,_=>q
 | .ty _,_,q,_=>q
 | .bi _,_,q,_=>q
 | .ext _,_,q,_=>q
 | .loc _,_,q,d=>by refine c12 q λa e r=>i12 a (h.1 _ _ d e) r
 | .mw _ _,_,q,d=>by refine AD q λa b o e r f z=>Jl a b o (h.1 _ _ d e) r (h.2 _ _ f) z
 | .bm _ _,_,q,d=>by refine AD q λa b o e r f z=>Jl a b o (h.1 _ _ d e) r (h.2 _ _ f) z
 | .Az _ _ _,_,q,d=>by refine Ei q λb o vx vy vz r f z u=>ku u λy k1 k2 k3=>⟨b,o,vx,vy,vz,r,h.2 _ _ f,z,y,aw.cut h k1 d.1,aw.cut h k2 d.2.1,aw.cut h k3 d.2.2⟩
 | .fld _ _,_,q,d=>by obtain⟨c,b,o,vs,r,f,z,k⟩:=q;exact⟨c,b,o,vs,r,h.2 _ _ f,z,aU.cut h k d⟩
 | .tup _,_,q,d=>by refine wj q λa o vs n r f z1 z2 k=>v5 a o vs n r (h.2 _ _ f) z1 z2 (aU.cut h k d)
 | .lst _,_,q,d=>by refine wj q λa o vs n r f z1 z2 k=>v5 a o vs n r (h.2 _ _ f) z1 z2 (aU.cut h k d)
theorem aU.cut {D:Loc->Prop} (h:Cut W W' D): ∀{x:List AV} {v:List Value},aU W x v->AV.mT D x->aU W' x v
 | [],_,q,_=>q
 | _::_,_,q,d=>by refine fu q λv r e k ks=>jE v r e (aw.cut h k d.1) (aU.cut h ks d.2)
end
theorem ik.cut {D:Loc->Prop} (h:Cut W W' D): ∀{es:List (Str×AV)} {ds:List DictEntry},ik C W es ds->(∀p∈es,AV.In D p.2)->ik C W' es ds:=by
 intro aH;induction aH with
 | nil=>intro u q w;exact q
 | cons dQ _ ih=>intro u q d;obtain⟨_,_⟩:=dQ;refine lU q λt v ds' e k ks=>zt t v ds' e (aw.cut h k (d _ (.head _))) (ih ks λp hp=>d p (.tail _ hp))
theorem bL.cut {D:Loc->Prop} (h:Cut W W' D): ∀{es:List (Option AV)} {ds:List (Option Value)},bL W es ds->(∀x,some x∈es->AV.In D x)->bL W' es ds:=by
 intro aH;induction aH with
 | nil=>intro u q w;exact q
 | cons gh _ ih=>
  cases gh with
  | none=>intro u q d;refine c12 q λds' e ks=>i12 ds' e (ih ks λx hx=>d x (.tail _ hx))
  | some _=>intro u q d;refine fu q λv ds' e k ks=>jE v ds' e (aw.cut h k (d _ (.head _))) (ih ks λx hx=>d x (.tail _ hx))
theorem eY.cut {D:Loc->Prop} (h:Cut W W' D) (q:eY C W o ob) (d:o.In D):eY C W' o ob:=by
 cases o with
 | list xs=>obtain⟨a,vs,n,b,c⟩:=q;exact⟨a,vs,n,b,c.cut h d⟩
 | dict es=>refine v8 q λds n e r=>?_;exact Gj ds n e (r.cut h d)
 | map es n=>refine c12 q λds e r=>?_;exact i12 ds e (r.cut h d)
 | set xs=>exact q
 | inst c l=>refine c12 q λdx e r=>?_;exact i12 dx (h.1 _ _ d e) r
 | slots c l vs=>refine fu q λdx sl ed e r=>?_;exact jE dx sl (h.1 _ _ d.1 ed) e (r.cut h d.2)
 | junk=>trivial
 | exc n xs=>obtain⟨hn,c,vs,t,dd,z,q⟩:=q;exact⟨hn,c,vs,t,dd,z,q.cut h (d)⟩
 | iter l i=>refine c12 q λa e r=>?_;exact i12 a (h.1 _ _ d e) r
theorem ik.dq: ∀{es:List (Str×AV)} {ds:List DictEntry},ik C W es ds-> ∀p∈es,AV.In (λl=>(W.ρ l).isSome=true) p.2
 | (_,_)::_,_,q,p,hp=>by
  refine lU q λt v ds' e k ks=>?_;clear q;cases hp with
  | head=>exact k.dq
  | tail _ hp=>exact ik.dq ks p hp
theorem bL.dq: ∀{es:List (Option AV)} {ds:List (Option Value)},bL W es ds-> ∀x,some x∈es->AV.In (λl=>(W.ρ l).isSome=true) x
 | none::_,_,q,x,hx=>by
  refine c12 q λds' e ks=>?_;clear q;cases hx with
  | tail _ hx=>exact bL.dq ks x hx
 | some _::_,_,q,x,hx=>by
  refine fu q λv ds' e k ks=>?_;clear q;cases hx with
  | head=>exact k.dq
  | tail _ hx=>exact bL.dq ks x hx
theorem eY.dq (q:eY C W o ob):o.In λl=>(W.ρ l).isSome=true:=by
 cases o with
 | list xs=>obtain⟨_,_,_,_,c⟩:=q;exact c.dq
 | dict es=>refine v8 q λ_ _ _ r=>?_;clear q;exact r.dq
 | map es n=>refine c12 q λ_ _ r=>?_;clear q;exact r.dq
 | set xs=>trivial
 | inst c l=>refine c12 q λdx e _=>?_;clear q;refine(?_:(W.ρ l).isSome=true);rw [e];rfl
 | slots c l vs=>refine fu q λdx _ e _ r=>?_;clear q;exact⟨by refine(?_:(W.ρ l).isSome=true);rw [e];rfl,r.dq⟩
 | junk=>trivial
 | exc n xs=>obtain⟨hn,c,vs,t,d,z,q⟩:=q;have:=q.dq;exact this
 | iter l i=>refine c12 q λa e _=>?_;clear q;refine(?_:(W.ρ l).isSome=true);rw [e];rfl
noncomputable def Wd.only (W:Wd) (τ:St):Wd:=⟨λl=>if(τ l).isSome then W.ρ l else none,W.fz⟩
theorem Wd.iW (W:Wd) (τ:St):Cut W (W.only τ) λl=>(τ l).isSome=true:=⟨λl a d e=>by
 refine(?_:(if(τ l).isSome then W.ρ l else none)=some a);rw [aG d];exact e,λu v e=>e⟩
theorem Wd.rX {W W':Wd} {τ:St} (le:W.le W') (h: ∀l,(W.ρ l).isSome=true->(τ l).isSome=true):W.le (W'.only τ):=
 ⟨λl a e=>(W'.iW τ).1 l a (h l (by rw [e];rfl)) (le.1 _ _ e),λa o e=>le.2 _ _ e⟩
theorem Inv.only (I:Inv C W Z s) (hs: ∀l o,τ l=some o->Z l=some o) (hc: ∀l o,τ l=some o->o.In λl=>(τ l).isSome=true):Inv C (W.only τ) τ s:=by
 have sub: ∀{l a},(W.only τ).ρ l=some a->W.ρ l=some a/\(τ l).isSome=true:=λ{l a} e=>by
  have e:(if(τ l).isSome then W.ρ l else none)=some a:=e;split at e
  ·rename_i h;exact⟨e,h⟩
  ·exact dC e
 refine⟨λl=> ?_,λl l' a e e'=>I.inj l l' a (sub e).1 (sub e').1,λl a o e q=> ?_,λl a e=>I.apart l a (sub e).1,I.fz,I.kept,I.base,I.gens,I.os,I.pos,I.high.1,λl a e=>I.high.2 _ _ (sub e).1⟩
 ·refine(?_:(if(τ l).isSome then W.ρ l else none).isSome=(τ l).isSome);cases q:τ l with
  | none=>rfl
  | some o=>simp only [Option.isSome_some,if_true];rw [I.dom l,hs l o q];rfl
 ·refine c12 (I.obj l a o (sub e).1 (hs l o q)) λob h1 h2=>i12 ob h1 (h2.cut (W.iW τ) (hc l o q))
theorem Inv.freeze (I:Inv C W Z s) (hl:Z l=some (.list xs)) (ht:τ l=none) (hs: ∀l o,τ l=some o->Z l=some o)
  (hc: ∀l o,τ l=some o->o.In λl=>(τ l).isSome=true) (hx:AV.mT (λl=>(τ l).isSome=true) xs) (hv:aw W (.loc l) v):
  ∃W',Cut W W' (λl=>(τ l).isSome=true)/\Inv C W' τ s/\aw W' (.lst xs) v:=by
 have I':=I.only hs hc;refine uU hv λa e=>c12 (I.obj l a _ e hl) λob h1 h2=>?_;obtain⟨c1,vs,n,c2,c3⟩:=h2;have n2: ∀x,(W.only τ).ρ x≠some a:=λx q=>by
  have q:(if(τ x).isSome then W.ρ x else none)=some a:=q;split at q
  ·rename_i h;have:=I.inj x l a q e;subst this;rw [ht]at h;exact tQ h
  ·exact dC q
 have n1:(W.only τ).fz a=none:=I.apart l a e;refine bG (I'.fX (h:=s.heap) (t:=s.toks) (d:=s.drawn) n1 n2 (λ_ _ q=>q) h1) λle I2=>?_;have cut:Cut W ((W.only τ).freeze a ob) (λl=>(τ l).isSome=true):=⟨λx b d q=>(W.iW τ).1 x b d q,λx o q=>le.2 _ _ q⟩;refine vO _ cut I2 ?_;refine v5 a ob vs n rfl ?_ c1 c2 (c3.cut cut hx);refine(?_:(if a=a then some ob else _)=_);rw [aG rfl]
theorem r6: ∀(n:Nat) (l:List Nat),l.Nodup->(∀a∈l,a<n)->l.length<=n
 | 0,[],_,_=>bT _
 | 0,a::_,_,h=>absurd (h a (.head _)) (Nat.not_lt_zero _)
 | n+1,l,hn,h=>by
  by_cases hm:n∈l
  ·have:=r6 n (l.erase n) (hn.erase n) λa ha=>by
    have h1:=h a (List.mem_of_mem_erase ha);have h2:a≠n:=λe=>by subst e;exact(List.Nodup.not_mem_erase hn) ha
    omega
   rw [List.length_erase_of_mem hm]at this;omega
  ·have:=r6 n l hn λa ha=>by have h1:=h a ha;have h2:a≠n:=λe=>hm (e▸ha);omega
   omega
theorem Inv.free (I:Inv C W Z s): ∃n,∀l:Loc,n<=l.tag->Z l=none:=by
 apply Ba;intro h;have h: ∀n,∃l:Loc,n<=l.tag/\(Z l).isSome=true:=λn=>Ba λq=>h ⟨n,λl hl=>by
  cases z:Z l with
  | none=>rfl
  | some o=>exact(q ⟨l,hl,by rw [z];rfl⟩).elim⟩
 have many: ∀m,∃ls:List Loc,ls.length=m/\ls.Nodup/\ ∀l∈ls,(Z l).isSome=true:=by
  intro m
  induction m with
  | zero=>exact vO ([]) rfl pJ λu h=>(nomatch h)
  | succ m ih=>
   refine fP ih λls h1 h2 h3=>?_;clear ih;refine c12 (h ((ls.map (·.tag)).sum+1)) λl h4 h5=>vO (l::ls) (by simp [h1]) (gM.mpr ⟨λhm=> ?_,h2⟩) λx hx=> ?_
   ·have:l.tag<=(ls.map (·.tag)).sum:=by
     clear h1 h2 h3 h4 h5
     induction ls with
     | nil=>exact jc hm
     | cons y r ih=>
      rw [dj,List.sum_cons];cases hm with
      | head=>omega
      | tail _ hm=>have:=ih hm;omega
    omega
   ·cases hx with
    | head=>exact h5
    | tail _ hx=>exact h3 x hx
 refine fP (many (s.heap.objs.size+1)) λls h1 h2 h3=>?_;have addr: ∀l∈ls,∃a,W.ρ l=some a/\a<s.heap.objs.size:=λl hl=>by have d:=I.dom l;rw [h3 l hl]at d;refine cG (uE.mp d) λa e=>cG (uE.mp (h3 l hl)) λo q=>c12 (I.obj l a o e q) λob z _=>i12 a e (il z)
 have inj:((ls.map λl=>(W.ρ l).getD 0)).Nodup:=by
  clear h1
  induction ls with
  | nil=>exact pJ
  | cons y r ih=>rw [gM]at h2;rw [dj,gM];refine⟨λhm=> ?_,ih h2.2 (λl hl=>h3 l (.tail _ hl)) (λl hl=>addr l (.tail _ hl))⟩;refine c12 (bM.mp hm) λz hz e=>c12 (addr y (.head _)) λa ea _=>c12 (addr z (.tail _ hz)) λb eb _=>?_;rw [ea,eb]at e;have e:b=a:=e;subst e;exact h2.1 (I.inj y z b ea eb▸hz)
 have:=r6 s.heap.objs.size _ inj λa ha=>by refine kE (bM.mp ha) λl hl=>c12 (addr l hl) λb eb lt=>?_;rw [eb];exact lt
 rw [bu,h1]at this;omega
end V
end
section
namespace V
section
variable {C:Cx} {k:Nat} {sc:Scope} {A:Around} {W:Wd} {env:Env} {ms ai aZ aK:List (Option AV)} {Z ae aN aB:St} {s:Shared}
theorem getElem?_replicate_none {n i:Nat} {v:AV} (h:(List.replicate n (none:Option AV))[i]? =some (some v)):False:=by
 rw [List.getElem?_replicate]at h;split at h<;>cases h
theorem kJ: ∀(names:List (Str×NameKind)) (h:Heap) (acc:List (Str×Addr)) (x:Str) (a:Addr),
  (x,a)∈cellsFrom h.objs.size names acc->(x,a)∈acc\/(h.objs.size<=a/\(pushCells h names).get? a=some {cls:= .type "cell",data:= .cell none}):=by
 intro aH;induction aH with
 | nil=>exact λ_ _ _ _ hm=> .inl hm
 | cons dQ r ih=>
  exact λh acc x a hm=>by
   obtain⟨n,kind⟩:=dQ;unfold cellsFrom at hm;unfold pushCells;split at hm
   ·rename_i hk;rw [aG hk];have e:(h.push {cls:= .type "cell",data:= .cell none}).objs.size=h.objs.size+1:=m5 ..;rw [<-e]at hm;refine aP (ih _ _ x a hm) (λq=>?_) λz=>bG z λq1 q2=>?_
    ·refine aP (cI.mp q) (λq=>?_) λq=>?_
     ·cases q;exact .inr ⟨bT _,wC r _ _ _ (dZ _ rfl)⟩
     ·exact .inl q
    ·exact .inr ⟨by omega,q2⟩
   ·rename_i hk;rw [az hk];exact ih h acc x a hm
theorem rK {A':Around} {binds:List (Str×Value)} {bs:List (Str×AV)} {qual:Str} {fa:Addr} {code:Value} {outer:List Env} (hok:cW sc=true) (I:Inv C W Z s) (hA:A.frames=some outer) (hS:rM C W outer)
  (hb:bK W bs binds) (hms:(sc.names.take bs.length).map (·.1)=bs.map (·.1)) (hkind: ∀p∈sc.names.take bs.length,p.2= .local\/p.2= .cell) {Q:Env->Shared->Prop}
  (hQ: ∀env s',At C sc (A.deeper env) W env (bs.map (λp=>some p.2)++List.replicate (sc.names.length - bs.length) none) Z s'->Q env s'):
  wpAny C.M A' (newFunctionEnv sc mainGlobals [] binds qual (some fa) code none builtinsNs) Q No s:=by
 simp only [newFunctionEnv,Option.isSome_none,iP,jG];refine ak (wpAny_alloc ?_);refine ak (wpAny_layCells _ (λname kind cells=>by cases hkc:kind==NameKind.cell<;>simp [hkc]) _ _ _ _ ?_);generalize hfr:({cls:= .type "frame",data:= .dict #[]}:Obj)=fo;have ok:=cellsFrom_ok sc.names (s.heap.push fo) (s.heap.objs.size+1) [] ⟨λg m hm=>(nomatch hm),List.Pairwise.nil⟩ (by rw [m5];exact bT _);have cls:=kJ sc.names (s.heap.push fo) [];have none_:=cellsFrom_names;generalize hcells:cellsFrom (s.heap.push fo).objs.size sc.names []=cells at ok cls⊢;have keep: ∀b o,s.heap.get? b=some o->(pushCells (s.heap.push fo) sc.names).get? b=some o:=λb o e=>wC _ _ b o (mn _ e);have hL:(pushCells (s.heap.push fo) sc.names).get? s.heap.objs.size=some fo:=wC _ _ _ _ (dZ _ (by rw [<-hfr];rfl));generalize henv:({scope:=sc,locals:=s.heap.objs.size,globals:=mainGlobals,cells:=cells,qual:=qual,func:=some fa,code:=code,frame:=some s.heap.objs.size,builtins:=builtinsNs}:Env)=env;have above: ∀b,s.heap.objs.size<=b->W.fz b=none/\ ∀l,W.ρ l≠some b:=λb hb=>by
  refine⟨?_,λl e=> ?_⟩
  ·cases q:W.fz b with
   | none=>rfl
   | some o=>refine c12 (I.fz b o q) λo' z _=>?_;exact absurd (rO (il z) hb) (iM _)
  ·have d:=I.dom l;rw [e]at d;cases q:Z l with
   | none=>rw [q]at d;exact zv d
   | some o=>refine c12 (I.obj l b o e q) λob z _=>?_;exact absurd (rO (il z) hb) (iM _)
 have hlook: ∀(x:Str),(x,NameKind.cell)∈sc.names-> ∃a,cells.lookup x=some a:=λx hx=>by
  have:=cellsFrom_some (x:=x) sc.names (s.heap.push fo).objs.size [] (.inl (by
   refine cG (vi hx) λi hi=>?_;exact bI (cW.nodup hok) hi))
  rw [hcells]at this;exact uE.mp this
 have start:At C sc (A.deeper env) W env (List.replicate sc.names.length none) Z {s with heap:=pushCells (s.heap.push fo) sc.names}:=by
  refine⟨I.same keep,?_⟩;subst henv;refine⟨rfl,rfl,rfl,hok,⟨λg=>none,?_,λi x v g h=>(getElem?_replicate_none h).elim⟩,λi x hx=> ?_,above _ (bT _),λx a hm=> ?_,λx y a hx hy=>name_of_addr ok.apart hx hy,⟨fo,#[],0,hL,.inl ⟨by rw [<-hfr],rfl⟩,by rw [<-hfr]⟩,?_⟩
  ·subst hfr;exact(Heap.Ns.new s.heap (.type "frame")).keeps (wC _ _)
  ·refine cG (hlook x (ip hx)) λa ha=>⟨a,none,ha,(ok.empty x a (mem_of_lookup ha)).1,λv h=>(getElem?_replicate_none h).elim⟩
  ·refine aP (cls x a (hcells▸hm)) (λq=>?_) λk=>bG k λq1 q2=>?_
   ·exact jc q
   ·rw [m5]at q1;refine bG (above a (zk q1)) λu1 u2=>⟨u1,u2,λ(z:a=s.heap.objs.size)=>absurd (z▸q1) (Nat.not_succ_le_self _),none,_,q2,rfl,rfl⟩
  ·refine⟨_,outer,s.heap.objs.size,(?_:_=some ({scope:=sc,locals:=s.heap.objs.size,globals:=mainGlobals,cells:=cells,qual:=qual,func:=some fa,code:=code,frame:=some s.heap.objs.size,builtins:=builtinsNs}::outer)),hS,?_,rfl,rfl,?_,.inl ⟨rfl,fo,#[],0,hL,by rw [<-hfr],by rw [<-hfr]⟩⟩
   ·refine(?_:A.frames.map _=_);rw [hA];rfl
   ·refine(?_:sc.kind≠ .module);rw [cW.kind hok];decide
   ·exact I.mW (above _ (bT _)).1
 refine ak ?_;have go: ∀(j:Nat) (b:List (Str×AV)) (r:List (Str×Value)) (s':Shared) (ms:List (Option AV)),bK W b r->ms.length=sc.names.length->(∀(i:Nat) (y:Str×AV),b[i]? =some y-> ∃kd,sc.names[j+i]? =some (y.1,kd)/\(kd= .local\/kd= .cell))->
   At C sc (A.deeper env) W env ms Z s'-> ∀(f:Str×Value->PUnit->Sem (ForInStep PUnit)),(∀n v u,f (n,v) u=(do storeName env n v;pure (.yield ⟨⟩)))->
   ∀(P:PUnit->Shared->Prop),(∀s'',At C sc (A.deeper env) W env (ms.take j++b.map (λp=>some p.2)++ms.drop (j+b.length)) Z s''->P ⟨⟩ s'')->wpAny C.M A' (forIn r ⟨⟩ f) P No s':=by
  intro j b
  induction b generalizing j with
  | nil=>intro r s' ms hb hl hk H f hf P hP;subst hb;rw [t5];refine aQ (hP _ ?_);simpa using H
  | cons y b ih=>
   intro r s' ms hb hl hk H f hf P hP;obtain⟨n,x⟩:=y;refine gD hb λv r' hx hb'=>?_;rw [nc,hf];refine c12 (hk 0 (n,x) rfl) λkd hj hkd=>?_;have hj:sc.names[j]? =some (n,kd):=hj;have hjl:j<ms.length:=by rw [hl];exact(lI.mp hj).1
   have next: ∀s'',At C sc (A.deeper env) W env (ms.set j (some x)) Z s''->wpAny C.M A' (forIn r' ⟨⟩ f) P No s'':=λs'' v9=>by
    refine ih (j+1) r' s'' (ms.set j (some x)) hb' (by rw [List.length_set];exact hl) (λi y hy=> ?_) v9 f hf P λbt br=>hP bt ?_
    ·refine c12 (hk (i+1) y hy) λOK e z=>?_;exact i12 OK (by rw [<-e];congr 1;omega) z
    ·have e1:(ms.set j (some x)).take (j+1)=ms.take j++ [some x]:=by rw [C6,List.take_set_of_le (bT _),List.getElem?_set_self hjl];rfl
     have e2:(ms.set j (some x)).drop (j+1+b.length)=ms.drop (j+(b.length+1)):=by
      rw [List.drop_set_of_lt (by omega)];congr 1;omega
     rw [e1,e2]at br;simpa [eX]using br
   refine aP hkd (λt=>?_) λw=>?_
   ·subst t;exact ak (ak (gc hj H hx λs'' v9=>aQ (next s'' v9)))
   ·subst w;exact ak (ak (kX hj H hx λs'' v9=>aQ (next s'' v9)))
 refine go 0 bs binds _ _ hb (by rw [List.length_replicate]) (λi y hy=> ?_) start _ (λg m v1=>by rw [<-henv]) _ λs'' v9=> ?_
 ·have hlen:i<bs.length:=(lI.mp hy).1;have e:((sc.names.take bs.length).map (·.1))[i]? =some y.1:=by rw [hms,gq,hy];rfl
  rw [gq,FE hlen]at e;cases q:sc.names[i]? with
  | none=>rw [q]at e;exact dC e
  | some p=>
   rw [q]at e;have e:p.1=y.1:=dI e;refine i12 p.2 (by rw [pd,q,<-e]) (hkind p ?_);have:(sc.names.take bs.length)[i]? =some p:=by rw [FE hlen];exact q
   exact ip this
 ·refine aQ (hQ env s'' ?_);have e:List.drop (0+bs.length) (List.replicate sc.names.length (none:Option AV))=List.replicate (sc.names.length - bs.length) none:=by rw [pd,List.drop_replicate]
  rw [e]at v9;simpa using v9
noncomputable def Bd (C:Cx) (k:Nat) (fd:FuncData) (Z:St) (as:List AV) (kw:List (Str×AV)) (bs:List (Str×AV)) (aB:St):Prop:=
 ∀W df fq,aU W as df->bK W kw fq->Op C k W Z (bindArgs fd ⟨df,fq⟩) (λW r=>bK W bs r) aB
noncomputable def Exit (Z cP:St) (f:AF) (v:AV) (aB:St):Prop:=
 (∀l o,aB l=some o->cP l=some o)/\(∀l,(Z l).isSome=true->(aB l).isSome=true)/\(∀l o,aB l=some o->Z l=some o\/o.In λl=>(aB l).isSome=true)/\
 ((f= .ret v/\v.In λl=>(aB l).isSome=true)\/(∃l xs,f= .ret (.loc l)/\v= .lst xs/\cP l=some (.list xs)/\aB l=none/\AV.mT (λl=>(aB l).isSome=true) xs)\/(f= .next/\v= .none))
noncomputable def Ll:Flow->Value
 | .ret r=>r
 | _=> .none
theorem Exit.go (ex:Exit Z cP f v aB) (II:Inv C D1 Z IJ) (le:D1.le W) (I:Inv C W cP s) (hf:bR W f fl):
  ∃W',D1.le W'/\Inv C W' aB s/\aw W' v (Ll fl):=by
 refine ku ex λh1 h2 h3 h4=>?_;clear ex;have closed: ∀l o,aB l=some o->o.In λl=>(aB l).isSome=true:=λl o e=>by
  refine aP (h3 l o e) (λq=>?_) λq=>?_
  ·refine fu (II.at q) λa ob e1 e2 e3=>?_;have:=e3.dq;exact(show∀{o:AO},(o.In λl=>(D1.ρ l).isSome=true)->o.In λl=>(aB l).isSome=true from λ{o} z=>by
    have m: ∀l,(D1.ρ l).isSome=true->(aB l).isSome=true:=λl q=>h2 l (by rw [<-II.dom l];exact q);cases o with
    | list xs=>exact AV.mT.mono m z
    | dict es=>exact λp hp=>(z p hp).mono m
    | map es n=>exact λp hp=>(z p hp).mono m
    | set xs=>trivial
    | inst c d=>exact m d z
    | slots c d vs=>exact⟨m d z.1,λx hx=>(z.2 x hx).mono m⟩
    | junk=>trivial
    | exc n xs=>exact AV.mT.mono m z
    | iter l i=>exact m l z) this
  ·exact q
 have dom: ∀l,(D1.ρ l).isSome=true->(aB l).isSome=true:=λl q=>h2 l (by rw [<-II.dom l];exact q);rcases h4 with⟨rfl,hv⟩ | ⟨l,xs,rfl,rfl,hl,hn,hx⟩ | ⟨rfl,rfl⟩
 ·refine yA hf λr q=>vO (W.only aB) (Wd.rX le dom) (I.only h1 closed) (q.cut (W.iW aB) hv)
 ·refine yA hf λr q=>fP (I.freeze hl hn h1 closed hx q) λW' cut I' z=>?_;exact vO W' ⟨λl a e=>cut.1 l a (dom l (by rw [e];rfl)) (le.1 _ _ e),λa o e=>cut.2 _ _ (le.2 _ _ e)⟩ I' z
 ·delta bR at hf;subst hf;exact vO (W.only aB) (Wd.rX le dom) (I.only h1 closed) rfl
structure Fn (C:Cx) (fa:Addr) (fd:FuncData) (body:List Stmt):Prop where
 here: ∃oc od osl,C.K.lookup fa=some ⟨oc,od,.func fd,osl⟩
 globals:fd.globals=mainGlobals
 builtins:fd.builtins=builtinsNs
 closure:fd.closure= []
 body:fd.body= .stmts body
 code:codeIn C.K fd.code fd.qualname=true
 co:fd.scope.isCoroutine=false
 gen:fd.scope.isGenerator=false
 ok:cW fd.scope=true
noncomputable def sa (sc:Scope) (bs:List (Str×AV)):List (Option AV):=bs.map (λp=>some p.2)++List.replicate (sc.names.length - bs.length) none
theorem Hq {fa:Addr} {fd:FuncData} {body:List Stmt} {as:List AV} {kw:List (Str×AV)} {v:AV} (O:C.Ok) (hF:Fn C fa fd body)
  (h: ∀n,(∀l:Loc,n<=l.tag->Z l=none)-> ∃bs ae f aK cP,Bd C k fd Z as kw bs ae/\(fd.scope.names.take bs.length).map (·.1)=bs.map (·.1)/\(∀p∈fd.scope.names.take bs.length,p.2= .local\/p.2= .cell)/\
   Ex C k fd.scope (sa fd.scope bs) ae body f aK cP/\Exit Z cP f v aB):Ca C (k+1) Z (.ext fa) as kw v aB:=by
 intro W rf df fq hf has hkw A s outer hr hA hS I;subst hf;refine cG I.free λn hn=>Ei (h n hn) λbs ae f aK cP hb hms hkind z=>bG z λhx ex=>Js hF.here λoc od osl hK=>?_;have ho:=I.kept _ _ (O.tR _ _ hK);refine rC (codeAny_call_function (fd:=fd) hr.depth ho rfl hF.co hF.gen hF.body (codeRec_of (O.tR.keeps I.kept) hF.code) ?_);refine bF (hb W df fq has hkw A.in1 s outer hr.in1 hA hS I) (λbinds aI w=> ?_) λg m h=>h.elim;obtain⟨aR,aA,xH,vW⟩:=w;rw [hF.globals,hF.builtins,hF.closure];refine bF (rK (A:=A) hF.ok xH hA (hS.mono aA) vW hms hkind (Q:=λenv s'=>At C fd.scope (A.deeper env) aR env (sa fd.scope bs) ae s') λenv s' H=>H) (λenv aT H=> ?_) λg m h=>h.elim;refine⟨O.nolimit.keeps H.inv.kept,codeAny_func ?_⟩;refine bF (hx (A.deeper env) aR env aT hr.deeper H) (λfl s' u=> ?_) λg m h=>h.elim;obtain⟨bh,ax,aF,hf⟩:=u;refine fP (ex.go I (aA.trans ax) aF.inv hf) λbS bg IK q=>?_;cases fl<;>exact⟨bS,bg,IK,q⟩
theorem yq (h: ∀W df fq,aU W as df->bK W kw fq-> ∃r,bindArgs fd ⟨df,fq⟩=pure r/\bK W bs r):Bd C k fd Z as kw bs Z:=
 λW df fq ha hk A s outer hr hA hS I=>by refine c12 (h W df fq ha hk) λr e q=>?_;rw [e];exact aQ ⟨W,.refl W,I,q⟩
end
end V
end
section
namespace V
section
variable {M:Model} {A:Around} {E:Value->Shared->Prop} {s:Shared} {Q:Value->Shared->Prop}
theorem cK (h:wpAny M A (evalArgs f true args kws) (λa aI=>(∃k,Looks M aI.heap (keeperOf f) k)/\wpAny M A (call f (first++a.pos) a.kw) Q E aI) E s):wpAny M A (callWith pos f first args kws) Q E s:=by
 refine ak (cA (bF h (λa aI iq=>ak (cF ?_)) λu v x=>x));refine bG iq λq hc=>cG q λk L=>?_;clear iq;have tail: ∀{t:Sem Value},wpAny M A t Q E aI->wpAny M A (t>>=λr=>holding [r] point>>=λu=>pure r) Q E aI:=
  λht=>ak (bF ht (λr aT hr=>ak (cA (wpAny_point (aQ hr)))) λu v x=>x)
 have marked (mk:Value):wpAny M A (callMarked mk f (first++a.pos) a.kw) Q E aI:=by delta callMarked;exact Calls.wpAny_keep hc
 generalize (args.any (·.1) || kws.any (·.1.isNone))=st;refine ak (L.here ?_);cases k<;>cases st<;>dsimp only<;>first
  | exact tail (marked _)
  | exact tail hc
  | exact tail (wpAny_operating hc)
  | (split<;>first | exact tail hc | exact tail (marked _))
  | (refine wpAny_ite ?_;split<;>first | exact tail hc | exact tail (marked _))
theorem qQ (h:l.any (·.1)=false): ∀x,l≠ [(true,x)]:=λx e=>by rw [e]at h;exact zv h
theorem evalArgs_kw {Q:Args->Shared->Prop} (hne: ∀x,args≠ [(true,x)]) (hn:kws.all (·.1.isSome)=true)
  (h:wpAny M A (spliced args) (λvs s'=>wpAny M A (evalAll (kws.map (·.2))) (λks s''=>Q ⟨vs,(kws.filterMap (·.1)).zip ks⟩ s'') E s') E s):wpAny M A (evalArgs f true args kws) Q E s:=by
 have fin: ∀vs s',wpAny M A (evalAll (kws.map (·.2))) (λks s''=>Q ⟨vs,(kws.filterMap (·.1)).zip ks⟩ s'') E s'->
   wpAny M A (evalAll (kws.map (·.2))>>=λks=>(pure vs:Sem (List Value))>>=λp=>pure (⟨p,(kws.filterMap (·.1)).zip ks⟩:Args)) Q E s':=λvs s' h'=>
  ak (bF h' (λks s'' h''=>ak (aQ (aQ h''))) λu v x=>x)
 rcases args with _ | ⟨⟨b,x⟩,r⟩
 ·skip
  refine ak (bF h (λvs s' h'=>ak (aQ (cA ?_))) λu v x=>x);simp only [hn,if_true];exact fin vs s' h'
 ·cases b with
  | false=>refine ak (bF h (λvs s' h'=>ak (aQ (cA ?_))) λu v x=>x);simp only [hn,if_true];exact fin vs s' h'
  | true=>
   rcases r with _ | ⟨y,r⟩
   ·exact absurd rfl (hne x)
   ·skip
    refine ak (bF h (λvs s' h'=>ak (aQ (cA ?_))) λu v x=>x);simp only [hn,if_true];exact fin vs s' h'
theorem dA {Q:Args->Shared->Prop} (hne: ∀x,args≠ [(true,x)]) (h:wpAny M A (spliced args) (λvs s'=>Q ⟨vs,[]⟩ s') E s):wpAny M A (evalArgs f true args []) Q E s:=
 evalArgs_kw hne rfl (bF h (λu v h'=>aQ h') λu v x=>x)
end
section
variable {C:Cx} {k:Nat} {sc:Scope} {A:Around} {W:Wd} {env:Env} {ms ai aZ b6 aK:List (Option AV)} {Z ae aN bX aB:St} {s:Shared}
noncomputable def Kp (C:Cx) (f:AV):Prop:= ∀W Z s rf,Inv C W Z s->aw W f rf-> ∃k,Looks C.M s.heap (keeperOf rf) k
theorem bp {id:String}:Kp C (.bi id):=λu v w g m q=>by subst q;exact⟨_,Looks.of_pure rfl⟩
theorem cL:Kp C (.ty n):=λu v w g m q=>by subst q;exact⟨_,Looks.of_pure rfl⟩
theorem IE (O:C.Ok) (h:keepIn C.K (.ref a)=true):Kp C (.ext a):=λW Z s rf I q=>by subst q;refine c12 (looks_keep (M:=C.M) h (O.tR.keeps I.kept)) λk _ L=>⟨k,L⟩
theorem C5 (O:C.Ok) (h: ∃oc od fd osl,C.K.lookup f=some ⟨oc,od,.func fd,osl⟩):Kp C (.bm f l):=λW Z s rf I q=>by refine Hr q λa b o e u=>?_;subst u;intro f1 z y;refine OB h λoc od fd osl hK=>?_;have ho:=I.frozen f1 (by rw [z];decide);have hf:=I.kept _ _ (O.tR _ _ hK);refine⟨.boundFrame,λA Q E s' k' q=> ?_⟩;refine ak (wpAny_load (k' _ _ ho) ?_);rw [y,z];exact ak (wpAny_load (k' _ _ hf) (aQ q))
theorem Gz {id:String} {l:Loc}:Kp C (.mw id l):=λW Z s rf I q=>by refine Hr q λa b o e u=>?_;subst u;intro f1 z y;have ho:=I.frozen f1 (by rw [z];decide);refine⟨.machine,λA Q E s' k' q=> ?_⟩;refine ak (wpAny_load (k' _ _ ho) ?_);rw [y,z];exact aQ q
noncomputable def Ks (C:Cx) (k:Nat) (sc:Scope) (ms:List (Option AV)) (Z:St) (pos:Pos) (kws:List Keyword) (vs:List (Str×AV)) (aK:List (Option AV)) (aB:St):Prop:=
 Tr C k sc ms Z (λenv=>evalAll ((backToKw pos (keywordEach kws env)).map (·.2))) (λW r=>aU W (vs.map (·.2)) r) aK aB
theorem nZ:Ks C k sc ms Z pos [] [] ms Z:=λu W v w g H=>aQ (bw (.refl W) H .nil)
theorem nN (h1:Ev C k sc ms Z e v ai ae) (h2:Ks C k sc ai ae pos rest vs aK aB):
  Ks C k sc ms Z pos (⟨some n,e,p⟩::rest) ((n,v)::vs) aK aB:=by
 intro A W env s hr H;refine(?_:wpAny C.M A (evalAll ((do let v<-eval e env;standAt pos;pure v)::(backToKw pos (keywordEach rest env)).map (·.2))) _ _ _);rw [evalAll];refine ak (ak (bf (h1 A W env s hr H) λaR r aI aA aO q=>ak (cF (aQ ?_))));exact ak (cA (bf (h2 A aR env aI hr aO) λbh rs aT ax aF qs=>aQ (bw (aA.trans ax) aF (.cons (q.mono ax) qs))))
theorem bK.nil:bK W [] []:=rfl
theorem iU: ∀{vs:List (Str×AV)} {rs:List Value},aU W (vs.map (·.2)) rs->bK W vs ((vs.map (·.1)).zip rs):=by
 intro aH;induction aH with
 | nil=>intro u w;exact rfl
 | cons dQ r ih=>intro rs q;obtain⟨n,x⟩:=dQ;rw [dj]at q;refine gD q λv rs' a b=>jE v _ rfl a (ih b)
theorem Ca.in {R:Value->Shared->Prop} (h:Ca C k Z f as kw v aB) (hr:bY C A k) (H:At C sc A W env ms Z s)
  (qf:aw W f rf) (qa:aU W as df) (qk:bK W kw fq) (g: ∀W' r s',W.le W'->At C sc A W' env ms aB s'->aw W' v r->R r s'):wpAny C.M A (call rf df fq) R No s:=by
 have le:=a8 H.fr;exact Op.in rfl (h _ rf df fq (qf.mono le) (qa.mono le) (qk.mono le)) hr H λW' r s' rq H' q tk u=>g _ r s' rq H' (tk q)
theorem aD (h1:Ev C k sc ms Z fn f ai ae) (h2:Es C k sc ai ae pos args as aZ aN) (hk:Kp C f) (h3:Ca C k aN f as [] v aB)
  (hs: ∀env,(backTo pos (starEach args env)).any (·.1)=false:=by exact λu=>rfl)
  (he: ∀env,eval (.Call fn args [] pos) env=(do callWith pos (<-eval fn env) [] (backTo pos (starEach args env)) (backToKw pos (keywordEach [] env))):=by exact λu=>rfl):Ev C k sc ms Z (.Call fn args [] pos) v aZ aB:=by
 intro A W env s hr H;refine(?_:wpAny C.M A (eval (.Call fn args [] pos) env) _ _ _);rw [he];refine cR (h1 A W env s hr H) λaR rf aI aA aO qf=>cK (dA (qQ (hs env)) (bf (h2 A aR env aI hr aO) λbh df aT ax aF qa=>⟨hk _ _ _ _ aF.inv (qf.mono ax),?_⟩));exact h3.in hr aF (qf.mono ax) qa .nil λbS r bt bg br q=>bw (aA.trans (ax.trans bg)) br q
noncomputable def Mt (C:Cx) (k:Nat) (Z:St) (o:AV) (name:Str) (f:AV):Prop:=
 ∀W ro pl,aw W o ro->Op C k W Z (getMethod ro name pl) (λW r=>aw W f r.1/\r.2= [ro]) Z
theorem ji (o:Expr) (name:Str) (apos:Pos) (args:List Expr) (kws:List Keyword) (pos:Pos) (env:Env):eval (.Call (.Attribute o name apos) args kws pos) env=(do
  let ov<-attributeBase o name env (eval o env)
  standAt apos.atName
  methodCall o name apos pos env ov (args.length+kws.length) (backTo pos (starEach args env)) (backToKw pos (keywordEach kws env))):=rfl
theorem g9 (h1:Ev C k sc ms Z o ov ai ae) (hm:Mt C k ae ov name f) (h2:Es C k sc ai ae pos args as aZ aN)
  (h2':Ks C k sc aZ aN pos kws ks b6 bX) (hk:Kp C f) (h3:Ca C k bX f (ov::as) ks v aB)
  (hb: ∀env t,attributeBase o name env t=t) (hf: ∀env,methodCallForm (args.length+kws.length) (backTo pos (starEach args env)) (backToKw pos (keywordEach kws env))=true) (hl:(apos.endLine==pos.line)=true)
  (hs: ∀env,(backTo pos (starEach args env)).any (·.1)=false) (hn: ∀env,(backToKw pos (keywordEach kws env)).all (·.1.isSome)=true) (hn': ∀env,(backToKw pos (keywordEach kws env)).filterMap (·.1)=ks.map (·.1)):
  Ev C k sc ms Z (.Call (.Attribute o name apos) args kws pos) v b6 aB:=by
 intro A W env s hr H;rw [ji,hb];refine cR (h1 A W env s hr H) λaR ro aI aA aO qo=>ak (cF ?_);delta methodCall;rw [hf env];refine ak (cA ?_);refine Op.in rfl (hm _ ro _ (qo.mono (a8 aO.fr))) hr aO λbh r aT ax aF q tk u=> ?_;obtain⟨rf,first⟩:=r;refine bG q λq1 q2=>?_;clear q;dsimp only at q1 q2;subst q2;replace q1:=tk q1;have hp:methodCallPos true o env apos pos=pure pos:=by delta methodCallPos;simp [hl]
 refine ak (eL hp ?_);refine cK (evalArgs_kw (qQ (hs env)) (hn env) (bf (h2 A _ env aT hr aF) λbS df bt bg br qa=>bf (h2' A _ env bt hr br) λnD rks jf eW gv qk=>⟨hk _ _ _ _ gv.inv ((q1.mono bg).mono eW),?_⟩));rw [hn' env];exact h3.in hr gv ((q1.mono bg).mono eW) (.cons (((qo.mono ax).mono bg).mono eW) (qa.mono eW)) (iU qk) λvX r F3 rt mK q=>bw (aA.trans (ax.trans (bg.trans (eW.trans rt)))) mK q
theorem aM (h1:Ev C k sc ms Z o ov ai ae) (hm:Mt C k ae ov name f) (h2:Es C k sc ai ae pos args as aZ aN) (hk:Kp C f) (h3:Ca C k aN f (ov::as) [] v aB)
  (hb: ∀env t,attributeBase o name env t=t:=by exact λu v=>rfl) (hf: ∀env,methodCallForm args.length (backTo pos (starEach args env)) []=true:=by exact λu=>rfl) (hl:(apos.endLine==pos.line)=true:=by rfl)
  (hs: ∀env,(backTo pos (starEach args env)).any (·.1)=false:=by exact λu=>rfl):
  Ev C k sc ms Z (.Call (.Attribute o name apos) args [] pos) v aZ aB:=
 g9 h1 hm h2 nZ hk h3 hb (λenv=>hf env) hl hs (λw=>rfl) (λw=>rfl)
theorem bC (h1:Ev C k sc ms Z o ov ai ae) (h2:ib C k ae (λx=>getAttr x name true) ov (λW r=>aw W v r) aB) (hb: ∀env t,attributeBase o name env t=t:=by exact λu v=>rfl):
  Ev C k sc ms Z (.Attribute o name pos) v ai aB:=by
 intro A W env s hr H;rw [arm_eval_Attribute,hb];refine cR (h1 A W env s hr H) λaR ro aI aA aO qo=>ak (cF (ak (cA ?_)));refine Op.in rfl (h2 _ ro (qo.mono (a8 aO.fr))) hr aO λbh r aT ax aF q tk w=>ak (wpAny_letTemporaryGo (aQ (bw (aA.trans ax) aF (tk q))))
theorem eJ (h1:Ev C k sc ms Z o ov ai ae) (h2:di C k ae (λx y=>setAttr x name y) ov v (λu w=>True) aB):As C k sc ms Z (.Attribute o name pos) v ai aB:=by
 intro A W env s r hr H qv;rw [arm_assign_Attribute];refine ak (cA (bf (h1 A W env s hr H) λaR ro aI aA aO qo=>ak (cF (ak (cA ?_)))));have le:=a8 aO.fr;refine Op.in rfl (h2 _ ro r (qo.mono le) ((qv.mono aA).mono le)) hr aO λbh u aT ax aF w g m=> ?_;exact λΓ p u=>by rw [Sem.wp_release];exact bw (aA.trans ax) aF trivial
noncomputable def Bg (C:Cx) (Z:St) (o:AV):Prop:= ∀W s ro,Inv C W Z s->aw W o ro->Looks C.M s.heap (getitemInPython ro) false
theorem aS (h1:Ev C k sc ms Z o ov ai ae) (h2:Ev C k sc ai ae i iv aZ aN) (hb:Bg C aN ov) (h3:di C k aN getItem ov iv (λW r=>aw W v r) aB):
  Ev C k sc ms Z (.Subscript o i pos) v aZ aB:=by
 intro A W env s hr H;rw [arm_eval_Subscript];refine cR (h1 A W env s hr H) λaR ro aI aA aO qo=>ak (cA (bf (h2 A aR env aI hr aO) λbh ri aT ax aF qi=>ak (cF (ak ((hb _ _ _ aF.inv (qo.mono ax)).here ?_)))));have le:=a8 aF.fr;have key:wpAny C.M A (getItem ro ri) (λr bt=> ∃bS,bh.le bS/\At C sc A bS env aZ aB bt/\aw bS v r) No aT:=
  Op.in rfl (h3 _ ro ri ((qo.mono ax).mono le) (qi.mono le)) hr aF λbS r bt bg br q tk u=>⟨_,bg,br,tk q⟩
 have key':wpAny C.M A (subscripted i false ro ri) (λr bt=> ∃bS,bh.le bS/\At C sc A bS env aZ aB bt/\aw bS v r) No aT:=by
  cases i with
  | Slice a b c p=>cases c<;>exact wpAny_operating key
  | _=>exact wpAny_operating key
 refine ak (bF key' (λr bt z=> ?_) λu w x=>x);refine fP z λbS bg br q=>ak (wpAny_letTemporaryGo (aQ (bw (aA.trans (ax.trans bg)) br q)))
theorem tD (h1:Ev C k sc ms Z o ov ai ae) (h2:Ev C k sc ai ae i iv aZ aN) (h3:J3 C k aN setItem ov iv v (λu w=>True) aB):As C k sc ms Z (.Subscript o i pos) v aZ aB:=by
 intro A W env s r hr H qv;rw [arm_assign_Subscript];refine ak (cA (bf (h1 A W env s hr H) λaR ro aI aA aO qo=>ak (cA (bf (h2 A aR env aI hr aO) λbh ri aT ax aF qi=>ak (cF (ak (cA ?_)))))));have le:=a8 aF.fr;refine Op.in rfl (h3 _ ro ri r ((qo.mono ax).mono le) (qi.mono le) (((qv.mono aA).mono ax).mono le)) hr aF λbS u bt bg br w g m=> ?_;exact λΓ p u=>by rw [Sem.wp_release];exact bw (aA.trans (ax.trans bg)) br trivial
theorem mY (q:aU W xs vs) (hz:xs.length<=sizeLine):Op C k W Z (newTuple vs) (λW r=>aw W (.tup xs) r) Z:=by intro A s outer hr hA hS I;refine bG I.cz λn1 n2=>?_;refine nU ?_ (by refine(?_:vs.toArray.size<=sizeLine);rw [CW,q.length];exact hz);have g:(s.heap.push {cls:= .type "tuple",data:= .seq vs.toArray}).get? s.heap.objs.size=some {cls:= .type "tuple",data:= .seq vs.toArray}:=dZ _ rfl;refine bG (I.fX (t:=s.toks) (d:=s.drawn) n1 n2 (a9 _ _) g) λle I'=>⟨_,le,I',?_⟩;exact v5 _ _ vs 0 rfl (by show(if _ then _ else _)=_;rw [aG rfl]) rfl rfl (q.mono le)
theorem Ao (q:aU W xs vs) (hz:xs.length<=sizeLine):Op C k W Z (newList vs) (λW r=>aw W (.lst xs) r) Z:=by intro A s outer hr hA hS I;refine bG I.cz λn1 n2=>?_;refine nU ?_ (by refine(?_:vs.toArray.size<=sizeLine);rw [CW,q.length];exact hz);have g:(s.heap.push {cls:= .type "list",data:= .seq vs.toArray}).get? s.heap.objs.size=some {cls:= .type "list",data:= .seq vs.toArray}:=dZ _ rfl;refine bG (I.fX (t:=s.toks) (d:=s.drawn) n1 n2 (a9 _ _) g) λle I'=>⟨_,le,I',?_⟩;exact v5 _ _ vs 0 rfl (by show(if _ then _ else _)=_;rw [aG rfl]) rfl rfl (q.mono le)
theorem wL (q:aU W xs vs) (hz:xs.length<=sizeLine) (hl:Z l=none):Op C k W Z (newList vs) (λW r=>aw W (.loc l) r) (Z.set l (.list xs)):=by
 intro A s outer hr hA hS I;refine bG I.cz λn1 n2=>?_;refine nU ?_ (by refine(?_:vs.toArray.size<=sizeLine);rw [CW,q.length];exact hz);have g:(s.heap.push {cls:= .type "list",data:= .seq vs.toArray}).get? s.heap.objs.size=some {cls:= .type "list",data:= .seq vs.toArray}:=dZ _ rfl;have LK:W.le (W.name l s.heap.objs.size):=⟨λx b e=>by
  refine(?_:(if x=l then _ else W.ρ x)=some b);split
  ·rename_i z;subst z;rw [I.none_of hl]at e;exact dC e
  ·exact e,λ_ _ e=>e⟩
 refine bG (I.new (t:=s.toks) (d:=s.drawn) (o:= .list xs) hl n1 n2 I.big (a9 _ _) g ⟨rfl,vs,0,rfl,q.mono LK⟩) λle I'=>⟨_,le,I',?_⟩;exact i12 _ (by show(if _ then _ else _)=_;rw [aG rfl]) rfl
theorem cU {x pos} (h:Es C k sc ms Z pos es vs aK aB) (hz:vs.length<=sizeLine):Ev C k sc ms Z (.Tuple es x pos) (.tup vs) aK aB:=by intro A W env s hr H;rw [arm_eval_Tuple];refine ak (cF (cR (h A W env s hr H) λaR rs aI aA aO q=> ?_));exact Op.in rfl (mY (q.mono (a8 aO.fr)) hz) hr aO λbh r aT ax aF q tk u=>bw (aA.trans ax) aF (tk q)
theorem gX {pos} (h:Es C k sc ms Z pos es vs aK aB) (hz:vs.length<=sizeLine):Ev C k sc ms Z (.List es pos) (.lst vs) aK aB:=by intro A W env s hr H;rw [arm_eval_List];refine ak (cF (cR (h A W env s hr H) λaR rs aI aA aO q=> ?_));exact Op.in rfl (Ao (q.mono (a8 aO.fr)) hz) hr aO λbh r aT ax aF q tk u=>bw (aA.trans ax) aF (tk q)
theorem dU {pos} (l:Loc) (h:Es C k sc ms Z pos es vs aK aB) (hz:vs.length<=sizeLine) (hl:aB l=none):Ev C k sc ms Z (.List es pos) (.loc l) aK (aB.set l (.list vs)):=by intro A W env s hr H;rw [arm_eval_List];refine ak (cF (cR (h A W env s hr H) λaR rs aI aA aO q=> ?_));exact Op.in rfl (wL (q.mono (a8 aO.fr)) hz hl) hr aO λbh r aT ax aF q tk u=>bw (aA.trans ax) aF (tk q)
noncomputable def dR (W:Wd) (a:Addr):Prop:=W.fz a=none/\ ∀l,W.ρ l≠some a
noncomputable abbrev vZ:=Wd->Nat->Addr->Value->List (Addr×Obj)->Prop
noncomputable def Cells (W:Wd) (h:Heap) (st:List (Addr×Obj)):Prop:= ∀p∈st,h.get? p.1=some p.2/\dR W p.1
noncomputable def Sub (st' st:List (Addr×Obj)):Prop:= ∀p∈st',∃q∈st,q.1=p.1
inductive KO (C:Cx) (W:Wd) (Z:St) (x:AV) (st:List (Addr×Obj)) (S:Wd->List (Addr×Obj)->Prop) (r:Option Value) (s':Shared):Prop
 | mk (W':Wd) (rx:Value) (st':List (Addr×Obj)) (le:W.le W') (inv:Inv C W' Z s') (e:r=some rx) (v:aw W' x rx) (ce:Cells W' s'.heap st') (su:Sub st' st) (sh:S W' st'):KO C W Z x st S r s'
inductive E1 (C:Cx) (W:Wd) (Z:St) (x:AV) (it:Addr) (S:Value->Obj->Prop) (r:Option Value) (s':Shared):Prop
 | mk (W':Wd) (rx:Value) (ob':Obj) (le:W.le W') (inv:Inv C W' Z s') (e:r=some rx) (v:aw W' x rx) (g:s'.heap.get? it=some ob') (f:dR W' it) (sh:S rx ob'):E1 C W Z x it S r s'
inductive KJ (C:Cx) (W:Wd) (Z:St) (src:AV) (S:Wd->Addr->Value->List (Addr×Obj)->Prop) (r:Value) (s':Shared):Prop
 | mk (W':Wd) (it:Addr) (st:List (Addr×Obj)) (rs:Value) (le:W.le W') (inv:Inv C W' Z s') (e:r= .ref it) (ce:Cells W' s'.heap st) (v:aw W' src rs) (sh:S W' it rs st):KJ C W Z src S r s'
inductive Ip (C:Cx) (W:Wd) (Z:St) (src:AV) (S:Value->Obj->Prop) (r:Value) (s':Shared):Prop
 | mk (W':Wd) (it:Addr) (ob:Obj) (rs:Value) (le:W.le W') (inv:Inv C W' Z s') (e:r= .ref it) (g:s'.heap.get? it=some ob) (f:dR W' it) (v:aw W' src rs) (sh:S rs ob):Ip C W Z src S r s'
inductive Lm (C:Cx) (W:Wd) (Z:St) (st:List (Addr×Obj)) (S:List (Addr×Obj)->Prop) (h:Heap) (s':Shared):Prop
 | mk (st':List (Addr×Obj)) (inv:Inv C W Z s') (ce:Cells W s'.heap st') (su:Sub st' st) (sh:S st') (k: ∀b o,(∀p∈st,b≠p.1)->h.get? b=some o->s'.heap.get? b=some o):Lm C W Z st S h s'
inductive HW (C:Cx) (W:Wd) (Z:St) (it:Addr) (S:Obj->Prop) (h:Heap) (s':Shared):Prop
 | mk (ob':Obj) (inv:Inv C W Z s') (g:s'.heap.get? it=some ob') (sh:S ob') (k: ∀b o,b≠it->h.get? b=some o->s'.heap.get? b=some o):HW C W Z it S h s'
structure ItrN (C:Cx) (k:Nat) (ok:St->Prop) (xs:List AV) (src:AV) (Sh:vZ) (tgt:Expr):Prop where
 mono: ∀W W' i it rs st,W.le W'->Sh W i it rs st->Sh W' i it rs st
 less: ∀W (X:Addr->Prop) i it rs st,(∀a o,X a->W.fz a=some o->Jk o)->Sh W i it rs st->Sh (W.minus X) i it rs st
 jk: ∀W i it rs st,Sh W (i+1) it rs st-> ∀p∈st,Jk p.2/\p.2.cls≠ .type "frame"
 self: ∀W i rs st it A s E (Q:Value->Shared->Prop),(∀p∈st,s.heap.get? p.1=some p.2)->Sh W i it rs st->Q (.ref it) s->wpAny C.M A (pyIter (.ref it)) Q E s
 next: ∀i x W Z rs st it A s outer,xs[i]? =some x->ok Z->bY C A k->A.frames=some outer->rM C W outer->Inv C W Z s->Cells W s.heap st->aw W src rs->Sh W i it rs st->
  wpAny C.M A (pyNext (.ref it)) (KO C W Z x st λW'=>Sh W' (i+1) it rs) No s
 stop: ∀W Z rs st it A s outer,ok Z->bY C A k->A.frames=some outer->rM C W outer->Inv C W Z s->Cells W s.heap st->aw W src rs->Sh W xs.length it rs st->
  wpAny C.M A (pyNext (.ref it)) (Ek C W Z λ_ r=>r=none) No s
 hV: ∀i W Z rs rx st it A s,Inv C W Z s->Cells W s.heap st->Sh W i it rs st->
  wpAny C.M A (letOwnedTupleGo tgt (.ref it) rx) (λ_=>Lm C W Z st (Sh W i it rs) s.heap) No s
structure ui (C:Cx) (k:Nat) (ok:St->Prop) (v:AV) (xs:List AV) (src:AV) (Sh:vZ) (tgt:Expr):Prop extends ItrN C k ok xs src Sh tgt where
 start: ∀W Z rv A s outer,ok Z->bY C A k->A.frames=some outer->rM C W outer->Inv C W Z s->aw W v rv->
  wpAny C.M A (pyIter rv) (KJ C W Z src λW'=>Sh W' 0) No s
structure sU (C:Cx) (k:Nat) (ok:St->Prop) (v:AV) (xs:List AV) (src:AV) (Sh:Nat->Value->Obj->Prop):Prop where
 jk: ∀i rv ob,Sh i rv ob->Jk ob/\ob.cls≠ .type "frame"
 start: ∀W Z rv A s outer,ok Z->bY C A k->A.frames=some outer->rM C W outer->Inv C W Z s->aw W v rv->
  wpAny C.M A (pyIter rv) (Ip C W Z src (Sh 0)) No s
 self: ∀i rs ob it A s E (Q:Value->Shared->Prop),s.heap.get? it=some ob->Sh i rs ob->Q (.ref it) s->wpAny C.M A (pyIter (.ref it)) Q E s
 next: ∀i x W Z rs ob it A s outer,xs[i]? =some x->ok Z->bY C A k->A.frames=some outer->rM C W outer->Inv C W Z s->s.heap.get? it=some ob->dR W it->aw W src rs->Sh i rs ob->
  wpAny C.M A (pyNext (.ref it)) (E1 C W Z x it λ_=>Sh (i+1) rs) No s
 stop: ∀W Z rs ob it A s outer,ok Z->bY C A k->A.frames=some outer->rM C W outer->Inv C W Z s->s.heap.get? it=some ob->dR W it->aw W src rs->Sh xs.length rs ob->
  wpAny C.M A (pyNext (.ref it)) (Ek C W Z λ_ r=>r=none) No s
 hV: ∀i W Z rs rx ob it A s (tgt:Expr),Inv C W Z s->s.heap.get? it=some ob->dR W it->Sh i rs ob->
  wpAny C.M A (letOwnedTupleGo tgt (.ref it) rx) (λ_=>HW C W Z it (Sh i rs) s.heap) No s
noncomputable def GD (Sh:Nat->Value->Obj->Prop):vZ:=λ_ i it rs st=> ∃ob,st= [(it,ob)]/\Sh i rs ob
theorem wb (g:h.get? it=some ob) (f:dR W it):Cells W h [(it,ob)]:=λp hp=>by rw [i8]at hp;subst hp;exact⟨g,f⟩
theorem J8:Sub [(it,ob')] [(it,ob)]:=λp hp=>by rw [i8]at hp;subst hp;exact i12 _ (.head _) rfl
theorem sU.G8 {ok:St->Prop} {Sh:Nat->Value->Obj->Prop} (I:sU C k ok v xs src Sh):ui C k ok v xs src (GD Sh) tgt where
 mono:=λl u1 v1 w1 g1 m1 q1 h=>h
 less:=λl u1 v1 w1 g1 m1 q1 h=>h
 jk:=λl i it rs st j p hp=>by refine c12 j λob e h=>?_;clear j;subst e;rw [i8]at hp;subst hp;exact I.jk _ _ _ h
 start:=λW Z rv A s outer a b c d e f=>bF (I.start W Z rv A s outer a b c d e f) (λr s' n=>(by obtain⟨W',it,ob,rs,x1,x2,x3,x4,x5,x6,x7⟩:=n;exact⟨W',it,_,rs,x1,x2,x3,wb x4 x5,x6,ob,rfl,x7⟩)) λl u1 h=>h
 self:=λl i rs st it A s E Q g m q=>(by refine c12 m λob e h=>?_;clear m;exact I.self i rs ob it A s E Q (by subst e;exact g _ (.head _)) h q)
 next:=λi x W Z rs st it A s outer hx a b c d e g f t=>by refine c12 t λob q h=>?_;clear t;subst q;have gg:=g _ (.head _);exact bF (I.next i x W Z rs ob it A s outer hx a b c d e gg.1 gg.2 f h) (λr s' y=>(by obtain⟨W',rx,ob',x1,x2,x3,x4,x5,x6,x7⟩:=y;exact⟨W',rx,_,x1,x2,x3,x4,wb x5 x6,J8,ob',rfl,x7⟩)) λl u1 h=>h
 stop:=λW Z rs st it A s outer a b c d e g f w=>by refine c12 w λob q h=>?_;clear w;subst q;have gg:=g _ (.head _);exact I.stop W Z rs ob it A s outer a b c d e gg.1 gg.2 f h
 hV:=λi W Z rs rx st it A s a g u=>by refine c12 u λob q h=>?_;clear u;subst q;have gg:=g _ (.head _);exact bF (I.hV i W Z rs rx ob it A s tgt a gg.1 gg.2 h) (λl s' z=>(by obtain⟨ob',x1,x2,x3,x4⟩:=z;exact⟨_,x1,wb x2 gg.2,J8,⟨ob',rfl,x3⟩,λb o nb=>x4 b o (nb _ (.head _))⟩)) λl u1 h=>h
inductive Lr (C:Cx) (k:Nat) (sc:Scope) (ok:St->Prop) (tgt:Expr) (body:List Stmt):List AV->List (Option AV)->St->AF->List (Option AV)->St->Prop
 | nil {ms:List (Option AV)} {Z:St} (h:ok Z):Lr C k sc ok tgt body [] ms Z .next ms Z
 | cons {x:AV} {xs:List AV} {ms ai aZ aK:List (Option AV)} {Z ae aN aB:St} {mf f:AF} (h:ok Z) (ha:As C k sc ms Z tgt x ai ae) (hx:Ex C k sc ai ae body mf aZ aN) (hf:mf= .next\/mf= .cont)
   (hr:Lr C k sc ok tgt body xs aZ aN f aK aB):Lr C k sc ok tgt body (x::xs) ms Z f aK aB
 | stop {x:AV} {xs:List AV} {ms ai aK:List (Option AV)} {Z ae aB:St} {f:AF} (h:ok Z) (ha:As C k sc ms Z tgt x ai ae) (hx:Ex C k sc ai ae body f aK aB) (hf:f= .brk\/ ∃v,f= .ret v):
   Lr C k sc ok tgt body (x::xs) ms Z f aK aB
noncomputable def AF.after:AF->AF
 | .ret v=> .ret v
 | _=> .next
theorem mark_none (A:Around):A.mark none=A:=by cases A;rfl
theorem eC.AJ {X:Addr->Prop} (F:eC C sc A W env ms h) (n: ∀a,X a-> ¬Own env a) (k: ∀b o,¬X b->h.get? b=some o->h'.get? b=some o):eC C sc A W env ms h':=by
 obtain⟨mr,⟨o,es,ep,ho,hr⟩,hv⟩:=F.ns;have nl: ¬X env.locals:=λz=>n _ z (.inl rfl);refine⟨F.scope,F.globals,F.builtins,F.ok,⟨mr,⟨o,es,ep,k _ _ nl ho,hr⟩,hv⟩,λi x hx=> ?_,F.mi,λx a hx=> ?_,F.iQ,?_,?_⟩
 ·obtain⟨a,ov,h1,⟨oc,h2,h3⟩,h4⟩:=F.cells i x hx;exact⟨a,ov,h1,⟨oc,k _ _ (λz=>n _ z (.inr (bM.mpr ⟨(x,a),mem_of_lookup h1,rfl⟩))) h2,h3⟩,h4⟩
 ·obtain⟨h1,h2,h3,ov,oc,h4,h5,h6⟩:=F.mZ x a hx;exact⟨h1,h2,h3,ov,oc,k _ _ (λz=>n _ z (.inr (bM.mpr ⟨(x,a),hx,rfl⟩))) h4,h5,h6⟩
 ·obtain⟨o,es,n,h1,h2,h3⟩:=F.je;exact⟨o,es,n,k _ _ nl h1,h2,h3⟩
 ·obtain⟨fenv,rest,L,h1,h2,h3,h4,h5,h6,h7⟩:=F.pE;refine⟨fenv,rest,L,h1,h2,h3,h4,h5,h6,?_⟩;refine aP h7 (λq=>?_) λz=>?_
  ·rcases q with⟨rfl,o,es,n,e1,e2⟩
   exact .inl ⟨rfl,o,es,n,k _ _ nl e1,e2⟩
  ·exact .inr z
theorem eC.keep (F:eC C sc A W env ms h) (n1: ¬Own env it) (n2:W.fz it=none) (n3:env.frame≠some it) (k: ∀b o,b≠it->h.get? b=some o->h'.get? b=some o):eC C sc A W env ms h':=
 F.AJ (X:=(· =it)) (λa z=>z▸n1) k
theorem eC.jT (F:eC C sc A W env ms h) (n1: ¬Own env it) (n2:W.fz it=none):env.frame≠some it:=λe=>by
 obtain⟨fenv,rest,L,h1,h2,h3,h4,h5,h6,h7⟩:=F.pE;rw [h5]at e;cases e;refine aP h7 (λu=>bG u λv=>?_) λq=>sL q λo _ _ z _=>?_
 ·subst v;intro w;exact n1 (.inl rfl)
 ·rw [n2]at z;exact dC z
theorem xk (F:eC C sc A W env ms h) (le:(aside W env h).le W') (n:W'.fz it=none): ¬Own env it:=λq=>by
 obtain⟨_,_,o,h1,_⟩:=F.own q;have:(aside W env h).fz it=some o:=by
  show(if _ then _ else _)=_
  rw [aG q];exact h1
 rw [le.2 _ _ this]at n;exact rZ n
theorem Bc (I:Inv C W Z s) (F:eC C sc A W env ms s.heap) (le:(aside W env s.heap).le W'): ∀a o,Own env a->W'.fz a=some o->Jk o:=λa o q e=>by
 obtain⟨_,_,ob,h1,h2⟩:=F.own q;have:(aside W env s.heap).fz a=some ob:=by
  show(if _ then _ else _)=_
  rw [aG q];exact h1
 rw [le.2 _ _ this]at e;cases e;exact h2.jk
structure ph (C:Cx) (W:Wd) (env:Env) (src:AV) (Sh:Nat->Value->Obj->Prop) (i:Nat) (it:Addr) (s:Shared):Prop where
 ex: ∃ob rs,s.heap.get? it=some ob/\aw W src rs/\Sh i rs ob
 fresh:dR W it
 own: ¬Own env it
 new:C.h₀.get? it=none
structure fB (C:Cx) (W:Wd) (env:Env) (src:AV) (Sh:vZ) (i:Nat) (it:Addr) (s:Shared):Prop where
 ex: ∃st rs,Cells W s.heap st/\(∀p∈st,¬Own env p.1/\C.h₀.get? p.1=none)/\aw W src rs/\Sh W i it rs st
theorem Cells.aside {st:List (Addr×Obj)} (h:Cells W s.heap st) (n: ∀p∈st,¬Own env p.1/\C.h₀.get? p.1=none):Cells (aside W env s.heap) s.heap st:=λp hp=>
 ⟨(h p hp).1,by
  show(if _ then _ else _)=_
  rw [az (n p hp).1];exact(h p hp).2.1,(h p hp).2.2⟩
theorem my {ok:St->Prop} {Q:Value->Shared->Prop} (I:ui C k ok v xs src Sh tgt) (hok:ok Z) (hr:bY C A k) (H:At C sc A W env ms Z s) (q:aw W v rv)
  (g: ∀W' it s',W.le W'->At C sc A W' env ms Z s'->fB C W' env src Sh 0 it s'->Q (.ref it) s'):wpAny C.M A (pyIter rv) Q No s:=by
 refine c12 (eV H.fr) λouter ho hs=>bF (I.start _ Z rv A s outer hok hr ho hs (eP H.inv H.fr) (q.mono (a8 H.fr))) (λr s' hh=> ?_) λu w h=>h;obtain⟨W',it,st,rs,le,I',rfl,hg,hv,hsh⟩:=hh;refine ud (eC.back H.inv H.fr le I') λl2 I2 F2 v1 _=>?_;have no: ∀p∈st,¬Own env p.1:=λp hp=>xk H.fr le (hg p hp).2.1;exact g _ it s' l2 ⟨I2,F2⟩ ⟨st,rs,λp hp=>⟨(hg p hp).1,by rw [Wd.bA (no p hp)];exact(hg p hp).2.1,(hg p hp).2.2⟩,λp hp=>⟨no p hp,I'.mW (hg p hp).2.1⟩,v1 hv,I.less _ _ _ _ _ _ (Bc H.inv H.fr le) hsh⟩
theorem lC {ok:St->Prop} {Sh:vZ} {Q:Option Value->Shared->Prop} (I:ItrN C k ok xs src Sh tgt) (hx:xs[i]? =some x) (hok:ok Z) (hr:bY C A k)
  (H:At C sc A W env ms Z s) (K:fB C W env src Sh i it s)
  (g: ∀W' rx s',W.le W'->At C sc A W' env ms Z s'->fB C W' env src Sh (i+1) it s'->aw W' x rx->Q (some rx) s'):wpAny C.M A (pyNext (.ref it)) Q No s:=by
 refine c12 (eV H.fr) λouter ho hs=>tM K.ex λst rs hg hn hv hsh=>bF (I.next i x _ Z rs st it A s outer hx hok hr ho hs (eP H.inv H.fr) (hg.aside hn) (hv.mono (a8 H.fr)) (I.mono _ _ _ _ _ _ (a8 H.fr) hsh)) (λr s' hh=> ?_) λu v h=>h;obtain⟨W',rx,st',le,I',rfl,hx',hg',hsub,hsh'⟩:=hh;refine ud (eC.back H.inv H.fr le I') λl2 I2 F2 v1 _=>?_;have hn': ∀p∈st',¬Own env p.1/\C.h₀.get? p.1=none:=λp hp=>by refine c12 (hsub p hp) λq hq e=>?_;rw [<-e];exact hn q hq
 exact g _ rx s' l2 ⟨I2,F2⟩ ⟨st',rs,λp hp=>⟨(hg' p hp).1,by rw [Wd.bA (hn' p hp).1];exact(hg' p hp).2.1,(hg' p hp).2.2⟩,hn',hv.mono l2,I.less _ _ _ _ _ _ (Bc H.inv H.fr le) hsh'⟩ (v1 hx')
theorem uv {ok:St->Prop} {Sh:vZ} {Q:Option Value->Shared->Prop} (I:ItrN C k ok xs src Sh tgt) (hok:ok Z) (hr:bY C A k)
  (H:At C sc A W env ms Z s) (K:fB C W env src Sh xs.length it s)
  (g: ∀W' s',W.le W'->At C sc A W' env ms Z s'->Q none s'):wpAny C.M A (pyNext (.ref it)) Q No s:=by
 refine c12 (eV H.fr) λouter ho hs=>tM K.ex λst rs hg hn hv hsh=>bF (I.stop _ Z rs st it A s outer hok hr ho hs (eP H.inv H.fr) (hg.aside hn) (hv.mono (a8 H.fr)) (I.mono _ _ _ _ _ _ (a8 H.fr) hsh)) (λr s' hh=> ?_) λu v h=>h;obtain⟨W',le,I',rfl⟩:=hh;refine ud (eC.back H.inv H.fr le I') λl2 I2 F2 _ _=>g _ s' l2 ⟨I2,F2⟩
theorem j6 {ok:St->Prop} {Q:Unit->Shared->Prop} (I:ItrN C k ok xs src Sh tgt)
  (H:At C sc A W env ms Z s) (K:fB C W env src Sh i it s) (g: ∀s',At C sc A W env ms Z s'->fB C W env src Sh i it s'->Q () s'):wpAny C.M A (letOwnedTupleGo tgt (.ref it) rx) Q No s:=by
 refine tM K.ex λst rs hg hn hv hsh=>bF (I.hV i W Z rs rx st it A s H.inv hg hsh) (λv s' u=> ?_) λv w h=>h;obtain⟨st',I',hg',hsub,hsh',hk⟩:=u;refine g s' ⟨I',H.fr.AJ (X:=λa=> ∃p∈st,a=p.1) (λa z=>c12 z λp hp e=>e▸(hn p hp).1) λb o nb=>hk b o λp hp e=>nb ⟨p,hp,e⟩⟩ ⟨st',rs,hg',λp hp=> ?_,hv,hsh'⟩;refine c12 (hsub p hp) λq hq e=>?_;rw [<-e];exact hn q hq
theorem eQ {α:Type} {ok:St->Prop} {Sh:vZ} {t:Sem α} {R:Wd->α->Prop} {Q:α->Shared->Prop} (I:ItrN C k ok xs src Sh tgt)
  (H:At C sc A W env ms Z s) (K:fB C W env src Sh (i+1) it s)
  (h: ∀aR,W.le aR->At C sc A aR env ms Z s->wpAny C.M A t (ie C sc A aR env aK aB R) No s)
  (hR: ∀aR (X:Addr->Prop) r,(∀a o,X a->aR.fz a=some o->Jk o)->R aR r->R (aR.minus X) r)
  (g: ∀W' r s',W.le W'->At C sc A W' env aK aB s'->fB C W' env src Sh (i+1) it s'->R W' r->Q r s'):wpAny C.M A t Q No s:=by
 refine tM K.ex λst rs hg hn hv hsh=>?_;have jk:=I.jk W i it rs st hsh;refine bG (H.JG (X:=λa=> ∃p∈st,a=p.1) λa m=>(by refine c12 m λp hp e=>?_;clear m;exact e▸⟨(hg p hp).2,(hn p hp).1⟩)) λle1 H1=>?_;refine bF (h _ le1 H1) (λr s' y=> ?_) λj u1 h=>h;obtain⟨W',le,H',hr⟩:=y;have e: ∀p∈st,W'.fz p.1=some p.2:=λp hp=>le.2 _ _ (by rw [Wd.nI ⟨p,hp,rfl⟩];exact(hg p hp).1);have hX: ∀a o,(∃p∈st,a=p.1)->W'.fz a=some o->Jk o/\o.cls≠ .type "frame":=λa o w q=>by refine c12 w λp hp z=>?_;clear w;subst z;rw [e p hp]at q;cases q;exact jk p hp
 have le2:W.le (W'.minus λa=> ∃p∈st,a=p.1):=⟨λl a q=>le.1 _ _ (le1.1 _ _ q),λa o q=>by
  rw [Wd.bA λv=>(by refine c12 v λp hp z=>?_;clear v;rw [z,(hg p hp).2.1]at q;exact dC q)];exact le.2 _ _ (le1.2 _ _ q)⟩
 refine g _ r s' le2 (H'.Gv hX λa u=>(by refine c12 u λp hp z=>?_;clear u;exact z▸(hn p hp).2)) ⟨st,rs,λp hp=>⟨H'.inv.frozen (e p hp) (jk p hp).2,Wd.d6 ⟨p,hp,rfl⟩,λl q=> ?_⟩,hn,hv.mono le2,I.mono _ _ _ _ _ _ le2 hsh⟩ (hR _ _ _ (λa o x q=>(hX a o x q).1) hr);have:=H'.inv.apart l p.1 q;rw [e p hp]at this;exact rZ this
theorem bR.minus: ∀aR (X:Addr->Prop) (r:Flow),(∀a o,X a->aR.fz a=some o->Jk o)->bR aR f r->bR (aR.minus X) f r:=λaR X r hc q=>by
 cases f with
 | ret v=>refine c12 q λx e q=>?_;exact i12 x e (q.taken hc)
 | _=>exact q
theorem BO {ok:St->Prop} {Sh:vZ} (I:ItrN C k ok full src Sh tgt) {f:AF}
  (L:Lr C k sc ok tgt body xs ms Z f aK aB): ∀(i:Nat) (A:Around) (W:Wd) (env:Env) (s:Shared) (it:Addr),full.drop i=xs->i<=full.length->bY C A k->At C sc A W env ms Z s->fB C W env src Sh i it s->
  codeAny C.M A (.forLoop tgt (.ref it) body [] env) (λr s'=>match r with | .ok fl=>ie C sc A W env aK aB (λW r=>bR W f.after r) fl s' | .error _=>False) s:=by
 induction L with
 | nil hok=>
  intro i A W env s it hd hi hr H K;have hlen:i=full.length:=by have:=dM List.length hd;rw [t8]at this;simp at this;omega
  subst hlen;refine mA ?_;rw [pH (A:=A) (c:= .forLoop tgt (.ref it) body [] env) rfl];refine(?_:wpAny C.M A ((forTurn tgt (.ref it) body [] env).onRaise _) _ _ s);refine jS (bF ?_ (λu g h=>h) (λ_ _ (h:False)=>h.elim));refine ak (cF (ak (jS (bF (uv (Q:=λr s'=>r=none/\ ∃W',W.le W'/\At C sc A W' env _ _ s') I hok hr H K λW' s' le H'=>⟨rfl,W',le,H'⟩) (λr s' hh=> ?_) λu g h=>h.elim))));obtain⟨rfl,W',le,H'⟩:=hh;refine aQ ⟨rfl,mA ?_⟩;rw [pH (A:=A) (c:= .block [] env) rfl];refine(?_:wpAny C.M A (do return Fin.done (<-(execs [] env).onRaise _)) _ _ s');exact ak (jS (wpAny_execs_nil (aQ (bw le H' rfl))))
 | @cons x xs' Ju Jv LL Jw Jx Jy LM Jz mf f hok ha hx hf hl ih=>
  intro i A W env s it hd hi hr H K;have hx0:full[i]? =some x:=by
   have e:(full.drop i)[0]? =some x:=by rw [hd];rfl
   rw [xd]at e;simpa using e
  have hd':full.drop (i+1)=xs':=by rw [<-List.drop_drop,hd];rfl
  have hi':i+1<=full.length:=(lI.mp hx0).1;refine mA ?_;rw [pH (A:=A) (c:= .forLoop tgt (.ref it) body [] env) rfl];refine(?_:wpAny C.M A ((forTurn tgt (.ref it) body [] env).onRaise _) _ _ s);refine jS (bF ?_ (λu g h=>h) (λ_ _ (h:False)=>h.elim));refine ak (cF (ak (jS (bF (lC (Q:=λr s'=> ∃W' rx,r=some rx/\W.le W'/\At C sc A W' env _ _ s'/\fB C W' env src Sh (i+1) it s'/\aw W' x rx) I hx0 hok hr H K
   λW' rx s' le H' K' q=>⟨W',rx,rfl,le,H',K',q⟩) (λr s' hh=> ?_) λu g h=>h.elim))))
  refine Br hh λW' rx le H' K' q=>ak (j6 I H' K' λaI aO tF=> ?_);refine ak (eQ I aO tF (λbh l2 aF=>ha A bh env aI rx hr aF (q.mono l2)) (λu g m p j=>trivial) λbh u aT ax aF jB g=> ?_);refine ak (eQ I aF jB (λbS l3 br=>hx A bS env aT hr br) bR.minus λbS r bt bg br jJ hfl=> ?_);have rq:=le.trans (ax.trans bg);have go:=ih (i+1) A bS env bt it hd' hi' hr br jJ;have go':codeAny C.M A (.forLoop tgt (.ref it) body [] env) (λr s'=>match r with | .ok fl=>ie C sc A W env Jw Jz (λW r=>bR W f.after r) fl s' | .error _=>False) bt:=
   kZ go λr s' hh=>by
    cases r with
    | ok fl=>obtain⟨W',l,z,z'⟩:=hh;exact⟨W',rq.trans l,z,z'⟩
    | error e=>exact hh
  rcases hf with rfl | rfl<;>(delta bR at hfl;subst hfl;exact aQ ⟨rfl,go'⟩)
 | @stop x xs' Ju Jv Jw Jx Jy Jz f hok ha hx hf=>
  intro i A W env s it hd hi hr H K;have hx0:full[i]? =some x:=by
   have e:(full.drop i)[0]? =some x:=by rw [hd];rfl
   rw [xd]at e;simpa using e
  refine mA ?_;rw [pH (A:=A) (c:= .forLoop tgt (.ref it) body [] env) rfl];refine(?_:wpAny C.M A ((forTurn tgt (.ref it) body [] env).onRaise _) _ _ s);refine jS (bF ?_ (λu g h=>h) (λ_ _ (h:False)=>h.elim));refine ak (cF (ak (jS (bF (lC (Q:=λr s'=> ∃W' rx,r=some rx/\W.le W'/\At C sc A W' env _ _ s'/\fB C W' env src Sh (i+1) it s'/\aw W' x rx) I hx0 hok hr H K
   λW' rx s' le H' K' q=>⟨W',rx,rfl,le,H',K',q⟩) (λr s' hh=> ?_) λu g h=>h.elim))))
  refine Br hh λW' rx le H' K' q=>ak (j6 I H' K' λaI aO tF=> ?_);refine ak (eQ I aO tF (λbh l2 aF=>ha A bh env aI rx hr aF (q.mono l2)) (λu g m p j=>trivial) λbh u aT ax aF jB g=> ?_);refine ak (bf (hx A bh env aT hr aF) λbS r bt bg br hfl=> ?_);have rq:=le.trans (ax.trans bg);refine aP hf (λt=>?_) λw=>cG w λv y=>?_
  ·subst t;delta bR at hfl;subst hfl;exact aQ (bw rq br rfl)
  ·subst y;refine yA hfl λx z=>aQ (bw rq br ⟨x,rfl,z⟩)
noncomputable def pv (C:Cx) (k:Nat) (sc:Scope) (ms:List (Option AV)) (Z:St) (iter:Expr) (ai:List (Option AV)) (ae:St) (src:AV) (Sh:vZ):Prop:=
 ∀(β:Type) (A:Around) (W:Wd) (env:Env) (s:Shared) (pos:Pos) (rest:Value->Sem β) (Q:β->Shared->Prop),bY C A k->At C sc A W env ms Z s->
  (∀W' it s',W.le W'->At C sc A W' env ai ae s'->fB C W' env src Sh 0 it s'->wpAny C.M A (rest (.ref it)) Q No s')->
  wpAny C.M A (eval iter env>>=λx=>standAt pos>>=λ_=>foldedSetIterable iter env x>>=λx=>holding [x] (pyIter x)>>=rest) Q No s
theorem ui.starts {ok:St->Prop} (h1:Ev C k sc ms Z iter v ai ae) (I:ui C k ok v xs src Sh tgt) (hok:ok ae)
  (hs: ∀env x,foldedSetIterable iter env x=pure x):pv C k sc ms Z iter ai ae src Sh:=λβ A W env s pos rest Q hr H g=>
 cR (h1 A W env s hr H) λaR rv aI aA aO p9=>ak (cF (ak (eL (hs _ _) (ak (cA (my I hok hr aO p9 λbh it aT ax aF jB=>g bh it aT (aA.trans ax) aF jB))))))
theorem jv {ok:St->Prop} (h1:Ev C k sc ms Z iter v ai ae) (I:ui C k ok v xs src Sh tgt) (hok:ok ae) (L:Lr C k sc ok tgt body xs ai ae f aK aB)
  (hs: ∀env x,foldedSetIterable iter env x=pure x):X1 C k sc ms Z (.For tgt iter body [] pos) f.after aK aB:=by
 intro A W env s hr H;refine(?_:wpAny C.M A (exec (.For tgt iter body [] pos) env) _ _ _);rw [arm_exec_For];refine ak (cF (cR (h1 A W env s hr H) λaR rv aI aA aO q=>ak (eL (hs _ _) (ak (cF (ak (cA ?_)))))));refine my I hok hr aO q λbh it aT ax aF jB=>wpAny_runOwn (h:=none) ?_;rw [mark_none];refine kZ (BO I.toItrN L 0 A bh env aT it rfl (dW _) hr aF jB) λr s' hh=> ?_;cases r with
 | ok fl=>obtain⟨W',l,z,z'⟩:=hh;exact⟨W',aA.trans (ax.trans l),z,z'⟩
 | error e=>exact hh.elim
end
end V
end
section
namespace V
noncomputable def vA (e:Expr) (acc:Value) (env:Env):Sem Unit:=
 if h:e.ctorIdx=8 then Expr.ListComp.elim (motive_1:=λ_=>Sem Unit) e h λelt _ _ _=>do let _<-call (.builtin "list.append") [acc,<-eval elt env]
 else if h:e.ctorIdx=10 then Expr.DictComp.elim (motive_1:=λ_=>Sem Unit) e h λk v _ _ _=>do
  let kv<-eval k env
  let vv<-holding [kv] (eval v env)
  match acc with
  | .ref d=>do
   standAt {k.pos with endLine:=v.pos.endLine,endCol:=v.pos.endCol}
   holding [kv,vv] (dictSet d kv vv)
  | _=>unsupported "internal:dictcomp"
 else unsupported "internal:not-a-comprehension"
noncomputable def eK (e:Expr):Option (List Comprehension):=
 if h:e.ctorIdx=8 then Expr.ListComp.elim (motive_1:=λ_=>Option (List Comprehension)) e h λ_ gens _ _=>some gens
 else if h:e.ctorIdx=10 then Expr.DictComp.elim (motive_1:=λ_=>Option (List Comprehension)) e h λ_ _ gens _ _=>some gens
 else none
theorem d5 (he:eK e=some gens):(∃a b c,e= .ListComp a gens b c)\/ ∃a b c d,e= .DictComp a b gens c d:=by
 by_cases h:e.ctorIdx=8
 ·exact Expr.ListComp.elim (motive_1:=λe=>eK e=some gens->(∃a b c,e= .ListComp a gens b c)\/ ∃a b c d,e= .DictComp a b gens c d) e h (λa g b c he=> .inl ⟨a,b,c,dM (λg=>Expr.ListComp a g b c) (dI he)⟩) he
 ·by_cases h2:e.ctorIdx=10
  ·exact Expr.DictComp.elim (motive_1:=λe=>eK e=some gens->(∃a b c,e= .ListComp a gens b c)\/ ∃a b c d,e= .DictComp a b gens c d) e h2 (λk a g b c he=> .inr ⟨k,a,b,c,dM (λg=>Expr.DictComp k a g b c) (dI he)⟩) he
  ·exact dC (((dif_neg h).trans (dif_neg h2)).symm.trans he)
noncomputable def iZ (e:Expr) (gens:List Comprehension) (depth:Nat) (acc:Value) (env:Env):Sem Unit:=
 match gens[depth]? with
 | some g'=>do
  let x<-eval g'.iter env
  standAt g'.iter.pos
  let x<-if g'.is_async !=0 then foldedIterable g'.iter x else foldedSetIterable g'.iter env x
  let _<-runOwn (.compStart e depth (<-holding [x] (if g'.is_async !=0 then asyncIter x else pyIter x)) acc env) env
  pure ()
 | none=>vA e acc env
section
variable {C:Cx} {k:Nat} {sc:Scope} {A:Around} {W:Wd} {env:Env} {ms ai aZ b6 aK:List (Option AV)} {Z ae aN bX aB:St} {s:Shared}
theorem Bf {α:Type} {M:Model} {t t':Sem α} {Q:α->Shared->Prop} {E:Value->Shared->Prop} (e:t=t') (h:wpAny M A t' Q E s):wpAny M A t Q E s:=e▸h
theorem Bz {M:Model} {P:Sem Fin} {ps:Pos} {T:Sem Fin} {G:Option Value->Sem Fin} {N L:Value->Sem Unit} {ifs:List Expr} {F:Expr->Bool->Sem (ForInStep Bool)} {R:Bool->Sem Fin} {X:Sem Unit} {Cd:Code} {Q:Fin->Shared->Prop} {E:Value->Shared->Prop}
  (hP:P=(standAt ps>>=λu=>T)) (hT:T=(pyNext it>>=G)) (hG: ∀v,G (some v)=(L v>>=λu=>N v>>=λu=>forIn ifs true F>>=R)) (hF: ∀c,F c true=(isTrue c env (eval c env)>>=λb=>pure (.yield b)))
  (h1:R true=(X>>=λu=>again Cd)) (h0:R false=again Cd) (hi:ifs= []\/ ∃c,ifs= [c])
  (h:wpAny M A (pyNext it) (λr s'=> ∃v,r=some v/\wpAny M A (L v) (λu aI=>wpAny M A (N v) (λu aT=>
   wpAny M A (match ifs with | c::_=>isTrue c env (eval c env) | []=>pure true) (λb bt=>if b then wpAny M A X (λu jf=>Q (.again Cd) jf) E bt else Q (.again Cd) bt) E aT) E aI) E s') E s):wpAny M A P Q E s:=by
 rw [hP,hT];have fin: ∀b bt,(if b=true then wpAny M A X (λu jf=>Q (.again Cd) jf) E bt else Q (.again Cd) bt)->wpAny M A (R b) Q E bt:=by
  intro b bt z;cases b with
  | true=>rw [h1];exact ak (bF z (λu g z=>aQ z) λu g x=>x)
  | false=>rw [h0];exact aQ z
 refine ak (cF (ak (bF h (λr s' hh=> ?_) λu g x=>x)));refine yA hh λv q=>?_;rw [hG];refine ak (bF q (λu aI q=>ak (bF q (λu aT q=> ?_) λu g x=>x)) λu g x=>x);refine aP hi (λhi=>?_) λw=>cG w λc hi=>?_
 ·rw [hi]at q⊢;rw [t5];exact ak (aQ λΓ p D0=>fin true _ (q Γ p D0) Γ p D0)
 ·rw [hi]at q⊢;rw [nc,hF];exact ak (ak (ak (bF q (λb bt z=>aQ (aQ (fin b bt z))) λu g x=>x)))
theorem Fy {M:Model} {P:Sem Fin} {ps:Pos} {T:Sem Fin} {G:Option Value->Sem Fin} {Q:Fin->Shared->Prop} {E:Value->Shared->Prop}
  (hP:P=(standAt ps>>=λu=>T)) (hT:T=(pyNext it>>=G)) (hG:G none=pure (.done .next)) (h:wpAny M A (pyNext it) (λr s'=>r=none/\Q (.done .next) s') E s):wpAny M A P Q E s:=by
 rw [hP,hT];refine ak (cF (ak (bF h (λr s' hh=> ?_) λu v x=>x)));rw [hh.1,hG];exact aQ hh.2
theorem p6 {E:Value->Shared->Prop} {Q:Fin->Shared->Prop} (he:eK e=some gens) (hg:gens[depth]? =some g) (ha:g.is_async=0)
  (h:wpAny C.M A (pyNext it) (λr s'=>r=none/\Q (.done .next) s') E s):wpAny C.M A (compTurn e depth it acc env) Q E s:=by
 have ht: ¬(g.is_async !=0)=true:=by rw [ha];exact dN
 rcases d5 he with⟨_,_,_,rfl⟩ | ⟨_,_,_,_,rfl⟩
 all_goals
  apply Fy (hT:=az ht) (h:=h)
  case hP=>
   delta compTurn;dsimp only;rw [hg]
  case hG=>rfl
theorem kM {gens:List Comprehension} {g:Comprehension} {E:Value->Shared->Prop} {Q:Fin->Shared->Prop} (he:eK e=some gens) (hg:gens[depth]? =some g) (ha: ∀g∈gens,g.is_async=0)
  (hi:g.ifs= []\/ ∃c,g.ifs= [c])
  (h:wpAny C.M A (pyNext it) (λr s'=> ∃v,r=some v/\wpAny C.M A (letOwnedTupleGo g.target it v) (λu aI=>wpAny C.M A (assign g.target env v) (λu aT=>
   wpAny C.M A (match g.ifs with | c::_=>isTrue c env (eval c env) | []=>pure true) (λb bt=>if b then wpAny C.M A (iZ e gens (depth+1) acc env) (λu jf=>Q (.again (.compLoop e depth it acc env)) jf) E bt else Q (.again (.compLoop e depth it acc env)) bt) E aT) E aI) E s') E s):
  wpAny C.M A (compTurn e depth it acc env) Q E s:=by
 have ha0:=ha g (ip hg);have ht: ¬(g.is_async !=0)=true:=by rw [ha0];exact dN
 rcases d5 he with⟨_,_,_,rfl⟩ | ⟨_,_,_,_,rfl⟩
 all_goals
  apply Bz (hT:=az ht) (hi:=hi) (h:=h)
  case hP=>
   delta compTurn;dsimp only;rw [hg]
  case hG=>exact λv=>rfl
  case hF=>exact λc=>rfl
  case h0=>rfl
  case h1=>
   delta iZ;cases hn:gens[depth+1]? with
   | none=>rfl
   | some g'=>have ha':=ha g' (ip hn);simp only [ha',BH,iP,jG,bind_assoc,pure_bind];rfl
theorem lr (he:eK e=some gens):(Code.compLoop e depth it acc env).quiet=true:=by
 rcases d5 he with⟨_,_,_,rfl⟩ | ⟨_,_,_,_,rfl⟩<;>rfl
theorem iN {R:Result->Shared->Prop} (he:eK e=some gens)
  (h:wpAny C.M A (compTurn e depth it acc env) (λfin s'=>match fin with | .done f=>R (.ok f) s' | .again c'=>c'.quiet=true/\codeAny C.M A c' R s') No s):codeAny C.M A (.compLoop e depth it acc env) R s:=by
 rcases d5 he with⟨_,_,_,rfl⟩ | ⟨_,_,_,_,rfl⟩
 all_goals
  refine mA ?_;rw [pH (A:=A) rfl];refine(?_:wpAny C.M A ((compTurn _ depth it acc env).onRaise _) _ _ s);exact jS (bF h (λu v h=>h) (λ_ _ (h:False)=>h.elim))
theorem jQ {R:Result->Shared->Prop} (he:eK e=some gens) (hg:gens[depth]? =some g) (ha:g.is_async=0)
  (hit: ∀(Q:Value->Shared->Prop),Q it s->wpAny C.M A (pyIter it) Q No s) (h:codeAny C.M A (.compLoop e depth it acc env) R s):codeAny C.M A (.compStart e depth it acc env) R s:=by
 have hc:clausesOf e=gens:=by
  rcases d5 he with⟨_,_,_,rfl⟩ | ⟨_,_,_,_,rfl⟩
  all_goals rfl
 have key:wpAny C.M A (compStart e depth it acc env) (λfin s'=>match fin with | .done f=>R (.ok f) s' | .again c'=>c'.quiet=true/\codeAny C.M A c' R s') No s:=by
  have q:(Code.compLoop e depth it acc env).quiet=true:=lr he;delta compStart;rw [hc,hg];simp only [Option.elim_some,ha,BH,iP,jG];refine ak (wpAny_askSetting (wpAny_ite ?_));split
  ·first
    | exact ak (aQ (aQ ⟨q,h⟩))
    | exact aQ ⟨q,h⟩
  ·refine ak (rG ?_)
   first
    | exact ak (cF (ak (hit _ (aQ ⟨q,h⟩))))
    | exact ak (ak (cF (aQ (ak (hit _ (aQ ⟨q,h⟩))))))
 rcases d5 he with⟨_,_,_,rfl⟩ | ⟨_,_,_,_,rfl⟩
 all_goals
  refine mA ?_;rw [pH (A:=A) rfl];refine(?_:wpAny C.M A ((compStart _ depth it acc env).onRaise _) _ _ s);exact jS (bF key (λu v h=>h) (λ_ _ (h:False)=>h.elim))
noncomputable def Em (C:Cx) (k:Nat) (sc:Scope) (la:Loc) (e:Expr) (ms:List (Option AV)) (Z:St) (aK:List (Option AV)) (aB:St):Prop:=
 ∀A W env s iR,bY C A k->At C sc A W env ms Z s->aw W (.loc la) iR->wpAny C.M A (vA e iR env) (ie C sc A W env aK aB λ_ _=>True) No s
noncomputable def Aa (C:Cx) (k:Nat) (sc:Scope) (ms:List (Option AV)) (Z:St) (ifs:List Expr) (aK:List (Option AV)) (aB:St):Prop:=
 (ifs= []/\aK=ms/\aB=Z)\/ ∃c,ifs= [c]/\Tv C k sc ms Z c true aK aB
mutual
inductive CB (C:Cx) (k:Nat) (sc:Scope) (la:Loc) (e:Expr):List Comprehension->List (Option AV)->St->List (Option AV)->St->Prop
 | emit {ms aK:List (Option AV)} {Z aB:St} (h:Em C k sc la e ms Z aK aB):CB C k sc la e [] ms Z aK aB
 | gen {g:Comprehension} {gs:List Comprehension} {v src:AV} {xs:List AV} {ok:St->Prop} {Sh:vZ} {ms ai aK:List (Option AV)} {Z ae aB:St}
   (h1:Ev C k sc ms Z g.iter v ai ae) (I:ui C k ok v xs src Sh g.target) (hok:ok ae) (hs: ∀env x,foldedSetIterable g.iter env x=pure x) (hl:CL C k sc la e ok g gs xs ai ae aK aB):CB C k sc la e (g::gs) ms Z aK aB
inductive CL (C:Cx) (k:Nat) (sc:Scope) (la:Loc) (e:Expr):(St->Prop)->Comprehension->List Comprehension->List AV->List (Option AV)->St->List (Option AV)->St->Prop
 | nil {ok:St->Prop} {g:Comprehension} {gs:List Comprehension} {ms:List (Option AV)} {Z:St} (h:ok Z):CL C k sc la e ok g gs [] ms Z ms Z
 | skip {ok:St->Prop} {g:Comprehension} {gs:List Comprehension} {x:AV} {xs:List AV} {ms ai aZ aK:List (Option AV)} {Z ae aN aB:St} {c:Expr} (h:ok Z) (ha:As C k sc ms Z g.target x ai ae) (hi:g.ifs= [c])
   (ht:Tv C k sc ai ae c false aZ aN) (hl:CL C k sc la e ok g gs xs aZ aN aK aB):CL C k sc la e ok g gs (x::xs) ms Z aK aB
 | take {ok:St->Prop} {g:Comprehension} {gs:List Comprehension} {x:AV} {xs:List AV} {ms ai aZ b6 aK:List (Option AV)} {Z ae aN bX aB:St} (h:ok Z) (ha:As C k sc ms Z g.target x ai ae) (hc:Aa C k sc ai ae g.ifs aZ aN)
   (hb:CB C k sc la e gs aZ aN b6 bX) (hl:CL C k sc la e ok g gs xs b6 bX aK aB):CL C k sc la e ok g gs (x::xs) ms Z aK aB
end
theorem Aa.shape (h:Aa C k sc ms Z ifs aK aB):ifs= []\/ ∃c,ifs= [c]:=by
 refine aP h (λz=>bG z λh _=>?_) λq=>c12 q λc h _=>?_
 ·exact .inl h
 ·exact .inr ⟨c,h⟩
theorem Aa.run (h:Aa C k sc ms Z ifs aK aB) (hr:bY C A k) (H:At C sc A W env ms Z s):
  wpAny C.M A (match ifs with | c::_=>isTrue c env (eval c env) | []=>pure true) (ie C sc A W env aK aB λg b=>b=true) No s:=by
 refine aP h (λu=>nR u λv=>?_) λq=>c12 q λc z=>?_
 ·subst v;intro w;subst w;intro y;subst y;exact aQ (bw (.refl W) H rfl)
 ·subst z;intro h;exact h A W env s hr H
theorem qV {full:List AV} {x:AV} {xs:List AV} {i:Nat} (hd:full.drop i=x::xs):full[i]? =some x/\full.drop (i+1)=xs/\i+1<=full.length:=by
 have hx0:full[i]? =some x:=by
  have e:(full.drop i)[0]? =some x:=by rw [hd];rfl
  rw [xd]at e;simpa using e
 exact nB hx0 (by rw [<-List.drop_drop,hd];rfl) (lI.mp hx0).1
noncomputable def E0 (C:Cx) (k:Nat) (sc:Scope) (la:Loc) (e:Expr) (gens gs:List Comprehension) (ms:List (Option AV)) (Z:St) (aK:List (Option AV)) (aB:St):Prop:=
 ∀(depth:Nat) (A:Around) (W:Wd) (env:Env) (s:Shared) (iR:Value),gens.drop depth=gs->bY C A k->At C sc A W env ms Z s->aw W (.loc la) iR->
  wpAny C.M A (iZ e gens depth iR env) (ie C sc A W env aK aB λ_ _=>True) No s
noncomputable def uY (C:Cx) (k:Nat) (sc:Scope) (la:Loc) (e:Expr) (gens:List Comprehension) (ok:St->Prop) (g:Comprehension) (gs:List Comprehension) (xs:List AV) (ms:List (Option AV)) (Z:St) (aK:List (Option AV)) (aB:St):Prop:=
 ∀(src:AV) (full:List AV) (Sh:vZ),ItrN C k ok full src Sh g.target-> ∀(i depth:Nat) (A:Around) (W:Wd) (env:Env) (s:Shared) (iR:Value) (it:Addr),full.drop i=xs->i<=full.length->
  gens[depth]? =some g->gens.drop (depth+1)=gs->bY C A k->At C sc A W env ms Z s->fB C W env src Sh i it s->aw W (.loc la) iR->
  codeAny C.M A (.compLoop e depth (.ref it) iR env) (λr s'=>match r with | .ok fl=>ie C sc A W env aK aB (λ_ _=>True) fl s' | .error _=>False) s
section
variable {la:Loc} {e:Expr} {gens gs:List Comprehension} {g:Comprehension} {ok:St->Prop} {x:AV} {xs:List AV}
theorem DW (h:Em C k sc la e ms Z aK aB):E0 C k sc la e gens [] ms Z aK aB:=by
 intro depth A W env s iR hd hr H q;have hn:gens[depth]? =none:=by have:=dM List.length hd;rw [t8]at this;simp at this;exact List.getElem?_eq_none (by omega)
 delta iZ;rw [hn];exact h A W env s iR hr H q
theorem EO (he:eK e=some gens) (hall: ∀g∈gens,g.is_async=0) (h1:Ev C k sc ms Z g.iter v ai ae) (I:ui C k ok v xs src Sh g.target) (hok:ok ae) (hs: ∀env x,foldedSetIterable g.iter env x=pure x)
  (ih:uY C k sc la e gens ok g gs xs ai ae aK aB):E0 C k sc la e gens (g::gs) ms Z aK aB:=by
 intro depth A W env s iR hd hr H q;have hg:gens[depth]? =some g:=by
  have e:(gens.drop depth)[0]? =some g:=by rw [hd];rfl
  rw [xd]at e;simpa using e
 have hd':gens.drop (depth+1)=gs:=by rw [<-List.drop_drop,hd];rfl
 have ha:=hall g (ip hg);delta iZ;rw [hg];simp only [ha,BH,iP,jG];refine cR (h1 A W env s hr H) λaR rv aI aA aO p9=>ak (cF (ak (eL (hs _ _) (ak (cA ?_)))));refine my I hok hr aO p9 λbh it aT ax aF jB=>ak (wpAny_runOwn (h:=none) ?_);rw [mark_none];refine tM jB.ex λst rs hob _ _ hsh=>jQ he hg ha (λQ z=>I.self _ 0 rs st it A aT No Q (λp hp=>(hob p hp).1) hsh z) ?_;refine kZ (ih _ _ _ I.toItrN 0 depth A bh env aT iR it rfl (dW _) hg hd' hr aF jB ((q.mono aA).mono ax)) λr s' hh=> ?_;cases r with
 | ok fl=>obtain⟨W',l,z,_⟩:=hh;exact aQ (bw (aA.trans (ax.trans l)) z trivial)
 | error e=>exact hh.elim
theorem FD (he:eK e=some gens) (hall: ∀g∈gens,g.is_async=0) (hok:ok Z):uY C k sc la e gens ok g gs [] ms Z ms Z:=by
 intro src full Sh I i depth A W env s iR it hd hi hg hgs hr H K q;have hlen:i=full.length:=by have:=dM List.length hd;rw [t8]at this;simp at this;omega
 subst hlen;refine iN he (p6 he hg (hall _ (ip hg)) ?_);exact bF (uv (Q:=λr s'=>r=none/\ ∃W',W.le W'/\At C sc A W' env _ _ s') I hok hr H K λW' s' le H'=>⟨rfl,W',le,H'⟩) (λr s' hh=>by
  obtain⟨rfl,W',le,H'⟩:=hh;exact⟨rfl,W',le,H',trivial⟩) λu v h=>h.elim
theorem A0 (he:eK e=some gens) (hall: ∀g∈gens,g.is_async=0) {c:Expr} (hok:ok Z) (ha:As C k sc ms Z g.target x ai ae) (hif:g.ifs= [c]) (ht:Tv C k sc ai ae c false aZ aN)
  (ih:uY C k sc la e gens ok g gs xs aZ aN aK aB):uY C k sc la e gens ok g gs (x::xs) ms Z aK aB:=by
 intro src full Sh I i depth A W env s iR it hd hi hg hgs hr H K q;refine nR (qV hd) λhx0 hd' hi'=>iN he (kM he hg hall (.inr ⟨c,hif⟩) ?_);refine bF (lC (Q:=λr s'=> ∃W' rx,r=some rx/\W.le W'/\At C sc A W' env _ _ s'/\fB C W' env src Sh (i+1) it s'/\aw W' _ rx) I hx0 hok hr H K λW' rx s' le H' K' q=>⟨W',rx,rfl,le,H',K',q⟩) (λr s' hh=> ?_) λu v h=>h.elim;refine Br hh λW' rx le H' K' qx=>i12 rx rfl (j6 I H' K' λaI aO tF=> ?_);refine eQ I aO tF (λbh l2 aF=>ha A bh env aI rx hr aF (qx.mono l2)) (λu v w m y=>trivial) λbh u aT ax aF jB v=> ?_;rw [hif];refine eQ I aF jB (λbS l3 br=>ht A bS env aT hr br) (λu v w m q=>q) λbS b bt bg br jJ hb=> ?_;subst hb;have rq:=le.trans (ax.trans bg);refine⟨lr he,kZ (ih _ _ _ I (i+1) depth A bS env bt iR it hd' hi' hg hgs hr br jJ (q.mono rq)) λr s' hh=> ?_⟩;cases r with
 | ok fl=>obtain⟨W',l,z,z'⟩:=hh;exact⟨W',rq.trans l,z,z'⟩
 | error e=>exact hh
theorem AL (he:eK e=some gens) (hall: ∀g∈gens,g.is_async=0) (hok:ok Z) (ha:As C k sc ms Z g.target x ai ae) (hc:Aa C k sc ai ae g.ifs aZ aN) (ihb:E0 C k sc la e gens gs aZ aN b6 bX)
  (ih:uY C k sc la e gens ok g gs xs b6 bX aK aB):uY C k sc la e gens ok g gs (x::xs) ms Z aK aB:=by
 intro src full Sh I i depth A W env s iR it hd hi hg hgs hr H K q;refine nR (qV hd) λhx0 hd' hi'=>iN he (kM he hg hall hc.shape ?_);refine bF (lC (Q:=λr s'=> ∃W' rx,r=some rx/\W.le W'/\At C sc A W' env _ _ s'/\fB C W' env src Sh (i+1) it s'/\aw W' _ rx) I hx0 hok hr H K λW' rx s' le H' K' q=>⟨W',rx,rfl,le,H',K',q⟩) (λr s' hh=> ?_) λu v h=>h.elim;refine Br hh λW' rx le H' K' qx=>i12 rx rfl (j6 I H' K' λaI aO tF=> ?_);refine eQ I aO tF (λbh l2 aF=>ha A bh env aI rx hr aF (qx.mono l2)) (λu v w m y=>trivial) λbh u aT ax aF jB v=>eQ I aF jB (λbS l3 br=>hc.run hr br) (λu v w m q=>q) λbS b bt bg br jJ hb'=> ?_;subst hb';refine eQ I br jJ (λnD l4 gv=>ihb (depth+1) A nD env bt iR hgs hr gv ((q.mono (le.trans (ax.trans bg))).mono l4)) (λu v w m y=>trivial) λnD u jf eW gv F4 v=> ?_;have rq:=le.trans (ax.trans (bg.trans eW));refine⟨lr he,kZ (ih _ _ _ I (i+1) depth A nD env jf iR it hd' hi' hg hgs hr gv F4 (q.mono rq)) λr s' hh=> ?_⟩;cases r with
 | ok fl=>obtain⟨W',l,z,z'⟩:=hh;exact⟨W',rq.trans l,z,z'⟩
 | error e=>exact hh
theorem CO (he:eK e=some gens) (hall: ∀g∈gens,g.is_async=0) (h:CL C k sc la e ok g gs xs ms Z aK aB):uY C k sc la e gens ok g gs xs ms Z aK aB:=
 CL.rec (motive_1:=λgs ms Z aK aB u=>E0 C k sc la e gens gs ms Z aK aB) (motive_2:=λok g gs xs ms Z aK aB u=>uY C k sc la e gens ok g gs xs ms Z aK aB)
  (λh=>DW h) (λh1 I hok hs u ih=>EO he hall h1 I hok hs ih) (λhok=>FD he hall hok) (λhok ha hif ht u ih=>A0 he hall hok ha hif ht ih)
  (λhok ha hc u v ihb ih=>AL he hall hok ha hc ihb ih) h
end
end
end V
end
section
namespace V
noncomputable def bB (scope:Scope):Scope:={scope with names:=scope.names.map λp=>if p.2== .free then(p.1,.cell)else p}
noncomputable def lx (scope:Scope):List Nat:=(List.range scope.names.length).filter λj=>(scope.names[j]?).any λp=>p.2== .free
section
variable {M:Model} {A:Around} {E:Value->Shared->Prop} {s:Shared}
theorem m7 {Q:List (Str×Addr)->Shared->Prop} (hf: ∀x,(x,NameKind.free)∈scope.names-> ∃a,env.cells.lookup x=some a)
  (h: ∀cs,(∀x a,(x,a)∈cs->(x,NameKind.free)∈scope.names/\env.cells.lookup x=some a)->(∀x,(x,NameKind.free)∈scope.names->cs.lookup x=env.cells.lookup x)->Q cs s):wpAny M A (closureFor scope env) Q E s:=by
 suffices go: ∀(names:List (Str×NameKind)) (acc:List (Str×Addr)),(∀x,(x,NameKind.free)∈names-> ∃a,env.cells.lookup x=some a)->
   ∀(Q:List (Str×Addr)->Shared->Prop) (f:Str×NameKind->List (Str×Addr)->Sem (ForInStep (List (Str×Addr)))),
    (∀n kd cs,f (n,kd) cs=if(kd== .free)=true then(do let a<-cellOf env n;pure (.yield ((n,a)::cs)))else pure (.yield cs))->
   (∀cs,(∀x a,(x,a)∈cs->(x,a)∈acc\/((x,NameKind.free)∈names/\env.cells.lookup x=some a))->(∀x,(x,NameKind.free)∈names->cs.lookup x=env.cells.lookup x)->(∀x,(x,NameKind.free)∉names->cs.lookup x=acc.lookup x)->Q cs s)->
   wpAny M A (forIn names acc f) Q E s by
  refine ak (go scope.names [] hf _ _ (λn kd cs=>by cases hk:kd==NameKind.free<;>simp [hk]) λcs h1 h2 v=>aQ (h cs (λx a hm=> ?_) h2));refine aP (h1 x a hm) (λq=>?_) λq=>?_
  ·exact jc q
  ·exact q
 intro names
 induction names with
 | nil=>intro acc v Q f w h;rw [t5];exact aQ (h acc (λx a hm=> .inl hm) (λx hm=>by exact jc hm) λv w=>rfl)
 | cons y r ih=>
  intro acc hf Q f hfe h;obtain⟨n,kd⟩:=y;rw [nc,hfe];have hr: ∀x,(x,NameKind.free)∈r-> ∃a,env.cells.lookup x=some a:=λx hx=>hf x (.tail _ hx);by_cases hk:kd=NameKind.free
  ·subst hk;refine cG (hf n (.head _)) λa ha=>ak (ak (wpAny_cellOf ha (aQ (ih ((n,a)::acc) hr Q f hfe λcs h1 h2 h3=>h cs (λx b hm=> ?_) (λx hx=> ?_) λx hx=> ?_))))
   ·refine aP (h1 x b hm) (λq=>?_) λu=>bG u λq1 q2=>?_
    ·cases q with
     | head=>exact .inr ⟨.head _,ha⟩
     | tail _ q=>exact .inl q
    ·exact .inr ⟨.tail _ q1,q2⟩
   ·by_cases hx':(x,NameKind.free)∈r
    ·exact h2 x hx'
    ·rw [h3 x hx'];cases hx with
     | head=>rw [List.lookup_cons_self,ha]
     | tail _ q=>exact absurd q hx'
   ·have hx':(x,NameKind.free)∉r:=λq=>hx (.tail _ q);have hn:x≠n:=λq=>hx (q▸ .head _);rw [h3 x hx',List.lookup_cons,tq.mpr hn]
  ·have hb:(kd==NameKind.free)=false:=by simpa using hk
   simp only [hb,iP,jG];refine ak (aQ (ih acc hr Q f hfe λcs h1 h2 h3=>h cs (λx b hm=> ?_) (λx hx=> ?_) λx hx=> ?_))
   ·refine aP (h1 x b hm) (λq=>?_) λz=>bG z λq1 q2=>?_
    ·exact .inl q
    ·exact .inr ⟨.tail _ q1,q2⟩
   ·cases hx with
    | head=>exact absurd rfl hk
    | tail _ q=>exact h2 x q
   ·exact h3 x λq=>hx (.tail _ q)
theorem nq {Q:Env->Shared->Prop}
  (h:Q {scope,locals:=s.heap.objs.size,globals,cells:=cellsFrom (s.heap.objs.size+1) scope.names closure,qual,func:=none,code:=outer.code,frame:=outer.frame,builtins:=outer.builtins}
   {s with heap:=pushCells (s.heap.push {cls:= .type "dict",data:= .dict #[]}) scope.names}):
  wpAny M A (newFunctionEnv scope globals closure [] qual none .none (some outer)) Q E s:=by
 simp only [newFunctionEnv,Option.isSome_some,if_true];refine ak (wpAny_alloc ?_);refine ak (wpAny_layCells _ (λname kind cells=>by cases hkc:kind==NameKind.cell<;>simp [hkc]) _ _ _ _ ?_);refine ak ?_;rw [t5];refine aQ (aQ ?_);rw [show({s with heap:=s.heap.push {cls:= .type "dict",data:= .dict #[]}}:Shared).heap.objs.size=s.heap.objs.size+1 from m5 ..];exact h
end
theorem pQ: ∀(names:List (Str×NameKind)) (n:Nat) (acc:List (Str×Addr)) (x:Str) (a:Addr),(x,a)∈cellsFrom n names acc->(x,a)∈acc\/((x,NameKind.cell)∈names/\n<=a):=by
 intro aH;induction aH with
 | nil=>exact λ_ _ _ _ h=> .inl h
 | cons dQ r ih=>
  exact λn acc x a h=>by
   obtain⟨y,kd⟩:=dQ;unfold cellsFrom at h;split at h
   ·rename_i hk;refine aP (ih (n+1) _ x a h) (λq=>?_) λu=>bG u λq1 q2=>?_
    ·cases q with
     | head=>exact .inr ⟨by rw [<-gB.mp hk];exact .head _,bT _⟩
     | tail _ q=>exact .inl q
    ·exact .inr ⟨.tail _ q1,zk q2⟩
   ·refine aP (ih n acc x a h) (λq=>?_) λz=>bG z λq1 q2=>?_
    ·exact .inl q
    ·exact .inr ⟨.tail _ q1,q2⟩
theorem m6: ∀(names:List (Str×NameKind)) (n:Nat) (acc:List (Str×Addr)) (x:Str),(x,NameKind.cell)∉names->(cellsFrom n names acc).lookup x=acc.lookup x:=by
 intro aH;induction aH with
 | nil=>exact λ_ _ _ _=>rfl
 | cons dQ r ih=>
  exact λn acc x h=>by
   obtain⟨y,kd⟩:=dQ;have hr:(x,NameKind.cell)∉r:=λq=>h (.tail _ q);unfold cellsFrom;split
   ·rename_i hk;have hn:x≠y:=λq=>h (by rw [q,<-gB.mp hk];exact .head _);rw [ih _ _ x hr,List.lookup_cons,tq.mpr hn]
   ·exact ih n acc x hr
theorem p8: ∀(names:List (Str×NameKind)) (n:Nat) (acc:List (Str×Addr)) (p:Str×Addr),p∈acc->p∈cellsFrom n names acc:=by
 intro aH;induction aH with
 | nil=>exact λu v w h=>h
 | cons dQ r ih=>
  exact λn acc p h=>by
   obtain⟨y,kd⟩:=dQ;unfold cellsFrom;split
   ·exact ih _ _ p (.tail _ h)
   ·exact ih _ _ p h
theorem pZ: ∀(names:List (Str×NameKind)) (h:Heap) (acc:List (Str×Addr)) (x y:Str) (a:Addr),(∀z b,(z,b)∈acc->b<h.objs.size)->(∀z u b,(z,b)∈acc->(u,b)∈acc->z=u)->
  (x,a)∈cellsFrom h.objs.size names acc->(y,a)∈cellsFrom h.objs.size names acc->x=y:=by
 intro aH;induction aH with
 | nil=>exact λ_ _ x y a _ hi hx hy=>hi x y a hx hy
 | cons dQ r ih=>
  exact λh acc x y a hl hi hx hy=>by
   obtain⟨z,kd⟩:=dQ;unfold cellsFrom at hx hy;split at hx
   ·rename_i hk;rw [aG hk]at hy;have e:(h.push {cls:= .type "cell",data:= .cell none}).objs.size=h.objs.size+1:=m5 ..;rw [<-e]at hx hy;refine ih _ _ x y a (λu b hm=> ?_) (λu v b hu hv=> ?_) hx hy
    ·rw [e];cases hm with
     | head=>exact Nat.lt_succ_self _
     | tail _ hm=>exact Nat.lt_succ_of_lt (hl u b hm)
    ·cases hu with
     | head=>cases hv with
      | head=>rfl
      | tail _ hv=>exact absurd (hl v _ hv) (iM _)
     | tail _ hu=>cases hv with
      | head=>exact absurd (hl u _ hu) (iM _)
      | tail _ hv=>exact hi u v b hu hv
   ·rename_i hk;rw [az hk]at hy;exact ih h acc x y a hl hi hx hy
noncomputable def fp (link:List (Nat×Nat)) (ms:List (Option AV)) (n:Nat):List (Option AV):=(List.range n).map λj=>(link.find? λp=>p.2==j).bind λp=>(ms[p.1]?).join
theorem jZ (h:(fp link ms n)[j]? =some (some v)): ∃i,(i,j)∈link/\ms[i]? =some (some v):=by
 delta fp at h;rw [gq]at h;cases q:(List.range n)[j]? with
 | none=>rw [q]at h;exact dC h
 | some j'=>
  rw [q]at h;have hj:j'=j:=by refine cG (lI.mp q) λh1 h2=>?_;rw [List.getElem_range]at h2;exact h2.symm
  subst hj;have h:=dI h;refine c12 (zR.mp h) λp hp hv=>?_;have h1:=List.mem_of_find?_eq_some hp;have h2:=List.find?_some hp;simp only [gB]at h2;refine i12 p.1 (by rw [<-h2];exact h1) ?_;cases z:ms[p.1]? with
  | none=>rw [z]at hv;exact dC hv
  | some o=>rw [z]at hv;simp at hv;rw [hv]
theorem AU {α:Type} {l:List (Option α)} {j:Nat} {v:α} (h:(l[j]?).join=some v):l[j]? =some (some v):=by
 cases z:l[j]? with
 | none=>rw [z]at h;exact dC h
 | some o=>rw [z]at h;simp at h;rw [h]
theorem uc (h:scope.names[j]? =some (x,NameKind.free)):j∈lx scope:=by refine kO.mpr ⟨An.mpr (lI.mp h).1,?_⟩;rw [h];rfl
section
variable {C:Cx} {k:Nat} {sc:Scope} {A:Around} {W:Wd} {env:Env} {ms ai aZ b6 aK:List (Option AV)} {Z ae aN bX aB:St} {s:Shared}
noncomputable def sH (C:Cx) (Z:St) (newAcc:Sem Value) (la:Loc) (gh:AO):Prop:=
 Z la=none/\ ∃ob:Obj,ob.isFreed=false/\(∀W,eY C W gh ob)/\ ∀(M:Model) (A:Around) (E:Value->Shared->Prop) (s:Shared) (Q:Value->Shared->Prop),Q (.ref s.heap.objs.size) {s with heap:=s.heap.push ob}->wpAny M A newAcc Q E s
theorem At.named (H:At C sc A W env ms Z s) (hl:Z l=none) (hf:ob.isFreed=false) (r: ∀W,eY C W o ob):
  W.le (W.name l s.heap.objs.size)/\At C sc A (W.name l s.heap.objs.size) env ms (Z.set l o) {s with heap:=s.heap.push ob}:=by
 refine bG H.inv.cz λn1 n2=>bG (H.inv.new (t:=s.toks) (d:=s.drawn) (o:=o) hl n1 n2 H.inv.big (a9 _ _) (dZ _ hf) (r _)) λle I=>?_;refine⟨le,I,?_⟩;have F:=H.fr.AJ (X:=λw=>False) (λw x=>x.elim) (λb o w=>a9 s.heap ob b o);obtain⟨mr,hn,hv⟩:=F.ns;have ne: ∀a,Own env a->a≠s.heap.objs.size:=λa q e=>by obtain⟨_,_,o,h1,_⟩:=H.fr.own q;exact absurd (e▸il h1) (iM _)
 have ap: ∀a,Own env a->(∀x,W.ρ x≠some a)-> ∀x,(W.name l s.heap.objs.size).ρ x≠some a:=λa q h x e=>by
  have e:(if x=l then some s.heap.objs.size else W.ρ x)=some a:=e;split at e
  ·cases e;exact ne _ q rfl
  ·exact h x e
 refine⟨F.scope,F.globals,F.builtins,F.ok,⟨mr,hn,λi x v h1 h2=>(c12 (hv i x v h1 h2) λr e q=>⟨r,e,q.mono le⟩)⟩,λi x hx=> ?_,⟨F.mi.1,ap _ (.inl rfl) F.mi.2⟩,λx a hx=> ?_,F.iQ,F.je,?_⟩
 ·obtain⟨a,ov,h1,h2,h3⟩:=F.cells i x hx;exact⟨a,ov,h1,h2,λv hv=>(c12 (h3 v hv) λr e q=>⟨r,e,q.mono le⟩)⟩
 ·have p:=F.mZ x a hx;exact p.re p.Mh (ap _ (.inr (bM.mpr ⟨(x,a),hx,rfl⟩)) p.Lx)
 ·obtain⟨fenv,rest,L,h1,h2,h3,h4,h5,h6,h7⟩:=F.pE;refine⟨fenv,rest,L,h1,h2.mono le,h3,h4,h5,h6,?_⟩;refine aP h7 (λz=>?_) λu=>Js u λo es n z=>?_
  ·exact .inl z
  ·exact .inr ⟨o,es,n,le.2 _ _ z.1,z.2⟩
theorem DR {ok:St->Prop} {Q:Value->Shared->Prop} (I:ItrN C k ok xs src Sh tgt) (hacc:sH C Z newAcc la gh) (H:At C sc A W env ms Z s) (K:fB C W env src Sh 0 it s)
  (g: ∀W' r s',W.le W'->At C sc A W' env ms (Z.set la gh) s'->fB C W' env src Sh 0 it s'->aw W' (.loc la) r->Q r s'):wpAny C.M A newAcc Q No s:=by
 obtain⟨hl,ob,hf,ho,run⟩:=hacc;refine bG (H.named hl hf ho) λle H'=>tM K.ex λst rs hg hn hv hsh=>?_;refine run _ _ _ _ _ (g _ _ _ le H' ⟨st,rs,λp hp=>⟨a9 _ _ _ _ (hg p hp).1,(hg p hp).2.1,λx e=> ?_⟩,hn,hv.mono le,I.mono _ _ _ _ _ _ le hsh⟩ ⟨_,by show(if _ then _ else _)=_;rw [aG rfl],rfl⟩);have e:(if x=la then some s.heap.objs.size else W.ρ x)=some p.1:=e;split at e
 ·injection e with e
  exact absurd (il (hg p hp).1) (by rw [<-e];exact iM _)
 ·exact(hg p hp).2.2 x e
theorem jX {e:Expr} {scope:Scope} {pos:Pos} {g:Comprehension} {gs:List Comprehension} {link:List (Nat×Nat)} {src:AV} {xs:List AV} {ok:St->Prop} {Sh:vZ} {la:Loc} {gh:AO} {cZ:List (Option AV)} {newAcc:Sem Value} {use:Option (Value->Sem Unit)}
  {Q:Value->Shared->Prop}
  (he:eK e=some (g::gs)) (hall: ∀g'∈g::gs,g'.is_async=0) (hlink: ∀p∈link,∃x,sc.names[p.1]? =some (x,NameKind.cell)/\scope.names[p.2]? =some (x,NameKind.free)) (hfree:lx scope=link.map (·.2)) (xI:cW (bB scope)=true)
  (hst:pv C k sc ms Z g.iter ai ae src Sh) (I:ItrN C k ok xs src Sh g.target)
  (hacc:sH C ae newAcc la gh)
  (hl:CL C k (bB scope) la e ok g gs xs (fp link ai scope.names.length) (ae.set la gh) cZ aN)
  (hend:(link.map λp=>(cZ[p.2]?).join)=link.map λp=>(ai[p.1]?).join)
  (hr:bY C A k) (H:At C sc A W env ms Z s)
  (hQ:match use with
   | none=> ∀W' acc s',W.le W'->At C sc A W' env ai aN s'->aw W' (.loc la) acc->Q acc s'
   | some u=> ∃b6 bX,(∀W' acc s',W.le W'->At C sc A W' env ai aN s'->aw W' (.loc la) acc->wpAny C.M A (u acc) (λ_ s''=> ∃vX,W.le vX/\(∀a o,W'.fz a=some o->vX.fz a=some o)/\At C sc A vX env b6 bX s'') No s')/\ ∀W' s',W.le W'->At C sc A W' env b6 bX s'->Q .none s'):
  wpAny C.M A (comprehension e scope env pos newAcc false (eval g.iter env) use) Q No s:=by
 have hc:clausesOf e=g::gs:=by
  rcases d5 he with⟨_,_,_,rfl⟩ | ⟨_,_,_,_,rfl⟩<;>rfl
 unfold comprehension;rw [hc];refine hst _ A W env s _ _ _ hr H λbh it aT ax aF jB=>wpAny_standIf (ak ?_);refine DR I hacc aF jB λbS acc bt bg br jJ IL=> ?_;have eG:=br.fr;have cellIn: ∀{x:Str},(x,NameKind.free)∈scope.names-> ∃i j,(i,j)∈link/\sc.names[i]? =some (x,NameKind.cell)/\scope.names[j]? =some (x,NameKind.free):=λ{x} hx=>by refine cG (vi hx) λj hj=>?_;have:=uc hj;rw [hfree]at this;refine c12 (bM.mp this) λp hp e=>c12 (hlink p hp) λy h1 h2=>?_;rw [e,hj]at h2;cases h2;exact jE p.1 j (by rw [<-e];exact hp) h1 hj
 refine ak (m7 (λx hx=> ?_) λclosure F5 LJ=>ak (nq ?_))
 ·refine fu (cellIn hx) λi _ _ hi _=>?_;obtain⟨a,ov,ha,_⟩:=eG.cells i x hi;exact⟨a,ha⟩
 generalize hcells:cellsFrom (bt.heap.objs.size+1) scope.names closure=cells;generalize hdo:({cls:= .type "dict",data:= .dict #[]}:Obj)=pB;have keep: ∀b o,bt.heap.get? b=some o->(pushCells (bt.heap.push pB) scope.names).get? b=some o:=λb o e=>wC _ _ b o (mn _ e);have hL:(pushCells (bt.heap.push pB) scope.names).get? bt.heap.objs.size=some pB:=wC _ _ _ _ (dZ _ (by rw [<-hdo];rfl));have above: ∀b,bt.heap.objs.size<=b->bS.fz b=none/\ ∀l,bS.ρ l≠some b:=λb hb=>by
  refine⟨?_,λl e=> ?_⟩
  ·cases q:bS.fz b with
   | none=>rfl
   | some o=>refine c12 (br.inv.fz b o q) λo' z _=>?_;exact absurd (rO (il z) hb) (iM _)
  ·have d:=br.inv.dom l;rw [e]at d;cases q:(ae.set la gh) l with
   | none=>rw [q]at d;exact zv d
   | some o=>refine c12 (br.inv.obj l b o e q) λob z _=>?_;exact absurd (rO (il z) hb) (iM _)
 have yK: ∀a,Own env a->a<bt.heap.objs.size:=λa q=>by obtain⟨_,_,o,h,_⟩:=eG.own q;exact il h
 have clo: ∀x a,(x,a)∈closure->(x,a)∈env.cells:=λx a hm=>mem_of_lookup (F5 x a hm).2;have IM: ∀x a,(x,a)∈cells->(x,a)∈closure\/((x,NameKind.cell)∈scope.names/\bt.heap.objs.size+1<=a/\(pushCells (bt.heap.push pB) scope.names).get? a=some {cls:= .type "cell",data:= .cell none}):=λx a hm=>by
  have hm':=hm;rw [<-hcells]at hm hm';refine aP (pQ _ _ _ x a hm) (λq=>?_) λq9=>bG q9 λq1 q2=>?_
  ·exact .inl q
  ·have hh:=kJ scope.names (bt.heap.push pB) closure x a (by rw [m5];exact hm');refine aP hh (λq=>?_) λq8=>bG q8 λ_ q=>?_
   ·exact .inl q
   ·exact .inr ⟨q1,q2,q⟩
 have hkind:env.scope.kind= .function:=by rw [eG.scope];exact cW.kind eG.ok
 have hnames:(scope.names.map λ(x:Str×NameKind)=>match x with | (n,kd)=>if(kd== .free && env.scope.kind== .function && env.kindOf n==some .cell)=true then(n,NameKind.cell)else(n,kd))=(bB scope).names:=by
  refine p5 λp hp=> ?_;obtain⟨n,kd⟩:=p;by_cases hk:kd=NameKind.free
  ·subst hk;refine fu (cellIn hp) λi _ _ hi _=>?_;have hl:env.kindOf n=some .cell:=by unfold Env.kindOf;rw [eG.scope];exact bI (cW.nodup eG.ok) hi
   simp [hkind,hl]
  ·have hb:(kd==NameKind.free)=false:=by simpa using hk
   simp [hb]
 dsimp only;rw [hnames];have hsc:({kind:=scope.kind,names:=(bB scope).names,isGenerator:=scope.isGenerator,isCoroutine:=scope.isCoroutine,more:=scope.more}:Scope)=bB scope:=rfl;generalize rA:({scope:={kind:=scope.kind,names:=(bB scope).names,isGenerator:=scope.isGenerator,isCoroutine:=scope.isCoroutine,more:=scope.more},locals:=bt.heap.objs.size,globals:=env.globals,cells:=cells,qual:=env.qual,func:=none,code:=env.code,frame:=env.frame,builtins:=env.builtins}:Env)=cenv;have yM:cenv.locals=bt.heap.objs.size:=by rw [<-rA]
 have D2:cenv.cells=cells:=by rw [<-rA]
 let Y:Addr->Prop:=λa=>Own env a/\ ∀x,(x,a)∉closure
 have hY: ∀a,Y a->bS.fz a=none/\ ∀l,bS.ρ l≠some a:=λa q=>⟨(eG.own q.1).1,(eG.own q.1).2.1⟩;refine bG (br.inv.plus hY) λGN IY=>?_;have M0:Inv C (bS.plus Y bt.heap) (ae.set la gh) {bt with heap:=pushCells (bt.heap.push pB) scope.names}:=IY.same keep;have OL: ∀{j:Nat} {x:Str},(bB scope).names[j]? =some (x,NameKind.cell)->scope.names[j]? =some (x,NameKind.cell)\/scope.names[j]? =some (x,NameKind.free):=λ{j x} h=>by
  unfold bB at h;rw [gq]at h;cases z:scope.names[j]? with
  | none=>rw [z]at h;exact dC h
  | some p=>
   rw [z]at h;obtain⟨n,kd⟩:=p;dsimp only [Option.map_some]at h;split at h
   ·rename_i hk;cases h;simp only [gB]at hk;rw [hk];exact .inr rfl
   ·have h:=dI h;rw [h];exact .inl rfl
 have IP: ∀{j:Nat} {x:Str},scope.names[j]? =some (x,NameKind.free)->(bB scope).names[j]? =some (x,NameKind.cell):=λ{j x} h=>by unfold bB;rw [gq,h];rfl
 have GO: ∀{x:Str},(x,NameKind.free)∈scope.names->(x,NameKind.cell)∉scope.names:=λ{x} h1 h2=>by
  refine cG (vi h1) λj hj=>?_;refine cG (vi h2) λj' hj'=>?_;have a1:=IP hj;have a2:(bB scope).names[j']? =some (x,NameKind.cell):=by unfold bB;rw [gq,hj'];rfl
  have:=iV (cW.nodup xI) a1 a2;subst this;rw [hj]at hj';cases hj'
 have GP: ∀{x:Str},(x,NameKind.free)∈scope.names->cells.lookup x=env.cells.lookup x:=λ{x} hx=>by rw [<-hcells,m6 _ _ _ x (GO hx),LJ x hx]
 have gv:At C (bB scope) A (bS.plus Y bt.heap) cenv (fp link ai scope.names.length) (ae.set la gh) {bt with heap:=pushCells (bt.heap.push pB) scope.names}:=by
  refine⟨M0,?_⟩;subst rA;refine⟨rfl,eG.globals,eG.builtins,xI,⟨λ_=>none,?_,λj x u hj hu=> ?_⟩,λj x hj=> ?_,?_,λx a hm=> ?_,λx y a hx hy=> ?_,⟨pB,#[],0,hL,.inr (by rw [<-hdo]),by rw [<-hdo]⟩,?_⟩
  ·subst hdo;exact(Heap.Ns.new bt.heap (.type "dict")).keeps (wC _ _)
  ·exfalso;refine c12 (jZ hu) λi hij _=>c12 (hlink _ hij) λy _ hy=>?_;rw [IP hy]at hj;cases hj
  ·refine aP (OL hj) (λhj'=>?_) λhj'=>?_
   ·have:=cellsFrom_some (x:=x) scope.names (bt.heap.objs.size+1) closure (.inl (by
     have nd:(scope.names.map (·.1)).Nodup:=by
      have:=cW.nodup xI;unfold bB at this;rw [dP]at this;have e:(λp:Str×NameKind=>p.1)=(λp:Str×NameKind=>p.1) ∘ λp=>if(p.2==NameKind.free)=true then(p.1,NameKind.cell)else p:=by
       funext p;simp only [Function.comp];split<;>rfl
      rw [e];exact this
     exact bI nd hj'))
    refine cG (uE.mp this) λa ha=>?_;rw [hcells]at ha;refine aP (IM x a (mem_of_lookup ha)) (λq=>?_) λq7=>nR q7 λ_ q2 q3=>?_
    ·exact absurd (ip hj') (GO (F5 x a q).1)
    ·refine⟨a,none,ha,⟨_,q3,rfl⟩,λu hu=> ?_⟩;exfalso;refine c12 (jZ hu) λi hij _=>c12 (hlink _ hij) λy _ hy=>?_;rw [hj']at hy;cases hy
   ·refine fu (cellIn (ip hj')) λi j' hij hi Py=>?_;obtain⟨a,ov,ha,⟨oc,hc1,hc2⟩,hv⟩:=eG.cells i x hi;refine⟨a,ov,by rw [GP (ip hj')];exact ha,⟨oc,keep _ _ hc1,hc2⟩,λu hu=> ?_⟩;refine c12 (jZ hu) λi' hij' hu'=>c12 (hlink _ hij') λy hy1 hy2=>?_;rw [hj']at hy2;cases hy2;have:=iV (cW.nodup eG.ok) hi hy1;have this:i=i':=this;subst this;refine c12 (hv u hu') λr e1 e2=>i12 r e1 (e2.mono GN)
  ·have:=above bt.heap.objs.size (bT _);refine⟨?_,this.2⟩;rw [Wd.fV λq=>absurd (yK _ q.1) (iM _)];exact this.1
  ·refine aP (IM x a hm) (λq=>?_) λq6=>nR q6 λ_ q2 q3=>?_
   ·obtain⟨z1,z2,z3,ov,oc,z4,z5,z6⟩:=eG.mZ x a (clo x a q);refine⟨?_,z2,λz=> ?_,ov,oc,keep _ _ z4,z5,z6⟩
    ·rw [Wd.fV λy=>y.2 x q];exact z1
    ·have:=il z4;exact absurd (z▸this) (iM _)
   ·have:=above a (zk q2);refine⟨?_,this.2,λz=> ?_,none,_,q3,rfl,rfl⟩
    ·rw [Wd.fV λy=>absurd (rO (yK _ y.1) (zk q2)) (iM _)];exact this.1
    ·have z:a=bt.heap.objs.size:=z;rw [z]at q2;exact absurd q2 (Nat.not_succ_le_self _)
  ·have hx':=hcells▸hx;have hy':=hcells▸hy;refine pZ scope.names (bt.heap.push pB) closure x y a (λz b hm=> ?_) (λz u b hz hu=>eG.iQ z u b (clo z b hz) (clo u b hu)) (by rw [m5];exact hx') (by rw [m5];exact hy');rw [m5];exact Nat.lt_succ_of_lt (yK b (.inr (bM.mpr ⟨(z,b),clo z b hm,rfl⟩)))
  ·obtain⟨fenv,rest,L,e1,e2,e3,e4,e5,e6,e7⟩:=eG.pE;refine⟨fenv,rest,L,e1,e2.mono GN,e3,e4,e5,e6,.inr ?_⟩;refine aP e7 (λq5=>?_) λq4=>lU q4 λo es n f1 f2 f3=>?_
   ·rcases q5 with⟨rfl,o,es,n,f1,f2,f3⟩
    refine zt o es n ?_ f2 f3;rw [Wd.nI ⟨.inl rfl,λx hx=>(eG.mZ x _ (clo x _ hx)).no rfl⟩];exact f1
   ·exact zt o es n (GN.2 _ _ f1) f2 f3
 have F4:fB C (bS.plus Y bt.heap) cenv src Sh 0 it {bt with heap:=pushCells (bt.heap.push pB) scope.names}:=by
  refine tM jJ.ex λst rs z1 z5 z2 z3=>⟨st,rs,λp hp=>⟨keep _ _ (z1 p hp).1,?_,(z1 p hp).2.2⟩,λp hp=>⟨λq=> ?_,(z5 p hp).2⟩,z2.mono GN,I.mono _ _ _ _ _ _ GN z3⟩
  ·rw [Wd.fV λq=>(z5 p hp).1 q.1];exact(z1 p hp).2.1
  ·have lt:=il (z1 p hp).1;refine aP q (λq=>?_) λq=>?_
   ·rw [yM]at q;rw [q]at lt;exact absurd lt (iM _)
   ·rw [D2]at q;refine c12 (bM.mp q) λq0 hm e=>?_;rcases q0 with⟨x,b⟩
    have e:b=p.1:=e;subst e;refine aP (IM x _ hm) (λq=>?_) λf=>nR f λ_ q2 _=>?_
    ·exact(z5 p hp).1 (.inr (bM.mpr ⟨(x,_),clo x _ q,rfl⟩))
    ·exact absurd (rO lt (zk q2)) (iM _)
 have hrun:codeAny C.M A (.compStart e 0 (.ref it) acc cenv) (λr s'=>match r with | .ok _=> ∃W',(bS.plus Y bt.heap).le W'/\At C (bB scope) A W' cenv cZ aN s' | .error _=>False) {bt with heap:=pushCells (bt.heap.push pB) scope.names}:=by
  refine tM F4.ex λst rs hob _ _ hsh=>jQ he rfl (hall g (.head _)) (λQ z=>I.self _ 0 rs st it A _ No Q (λp hp=>(hob p hp).1) hsh z) ?_;refine kZ (CO he hall hl _ _ _ I 0 0 A _ cenv _ acc it rfl (dW _) rfl rfl hr gv F4 (IL.mono GN)) λr s' hh=> ?_;cases r with
  | ok fl=>obtain⟨W',l,z,_⟩:=hh;exact i12 W' l z
  | error e=>exact hh
 have IQ:W.le bS:=ax.trans bg;have back: ∀W' s',(bS.plus Y bt.heap).le W'->At C (bB scope) A W' cenv cZ aN s'->bS.le (W'.minus Y)/\At C sc A (W'.minus Y) env ai aN s'/\dR (W'.minus Y) cenv.locals/\ ¬Own env cenv.locals:=λW' s' rq H'=>by
  have F':=H'.fr;have D3: ∀a,Y a-> ∃o o',bt.heap.get? a=some o/\W'.fz a=some o/\s'.heap.get? a=some o'/\Up o o'/\vP o:=λa q=>by obtain⟨_,_,o,z1,z2⟩:=eG.own q.1;have z3:=rq.2 a o (by rw [Wd.nI q];exact z1);refine c12 (H'.inv.fz a o z3) λo' z4 z5=>Mu o o' z1 z3 z4 z5 z2
  have hj: ∀a o,Y a->W'.fz a=some o->Jk o:=λa o q e=>by refine v7 (D3 a q) λo1 _ _ z _ _ z2=>?_;rw [z]at e;cases e;exact z2.jk
  have AG:bS.le (W'.minus Y):=⟨λl a e=>rq.1 _ _ (GN.1 _ _ e),λa o e=>by
   rw [Wd.bA λq=>by rw [(hY a q).1]at e;exact dC e];exact rq.2 _ _ (GN.2 _ _ e)⟩
  have nL: ¬Own env cenv.locals:=λq=>absurd (yM▸yK _ q) (iM _);have yL:Y env.locals:=⟨.inl rfl,λx hx=>(eG.mZ x _ (clo x _ hx)).no rfl⟩;refine tN AG ⟨H'.inv.minus hj λa q=>br.inv.mW (hY a q).1,?_⟩ ⟨?_,F'.mi.2⟩ nL
  ·obtain⟨mr,⟨oL,es,ep,g1,g2,g3,g4⟩,hv⟩:=eG.ns;refine v7 (D3 _ yL) λo oL' y1 y2 y3 y4 y5=>?_;rw [g1]at y1;obtain rfl:=dI y1;have LG: ∀a,Y a-> ∀l,W'.ρ l≠some a:=λa q l e=>by refine fu (D3 a q) λ_ _ _ z _=>?_;rw [H'.inv.apart l a e]at z;exact dC z
   have cl2: ∀x a,(x,a)∈closure->(x,a)∈cenv.cells:=λx a hm=>by rw [D2,<-hcells];exact p8 _ _ _ _ hm
   have LO: ∀x a,(x,a)∈env.cells->Y a\/ ∃x',(x',a)∈closure:=λx a hm=>by
    by_cases q: ∃x',(x',a)∈closure
    ·exact .inr q
    ·exact .inl ⟨.inr (bM.mpr ⟨(x,a),hm,rfl⟩),λx' hx'=>q ⟨x',hx'⟩⟩
   refine⟨eG.scope,eG.globals,eG.builtins,eG.ok,⟨mr,⟨oL',es,ep,y3,y4.data▸g2,g3,g4⟩,λi x u hi hu=>(c12 (hv i x u hi hu) λr e1 e2=>⟨r,e1,e2.mono AG⟩)⟩,λi x hi=> ?_,⟨Wd.d6 yL,λl=>LG _ yL l⟩,λx a hm=> ?_,eG.iQ,?_,?_⟩
   ·obtain⟨a,ov,ha,⟨oc,c1,c2⟩,c3⟩:=eG.cells i x hi;refine aP (LO x a (mem_of_lookup ha)) (λq=>?_) λm=>cG m λx' hx'=>?_
    ·refine v7 (D3 a q) λo o' z1 _ z3 z4 _=>?_;rw [c1]at z1;obtain rfl:=dI z1;exact⟨a,ov,ha,⟨o',z3,z4.data▸c2⟩,λu hu=>(c12 (c3 u hu) λr e1 e2=>⟨r,e1,e2.mono AG⟩)⟩
    ·have hxx:x'=x:=eG.iQ x' x a (clo x' a hx') (mem_of_lookup ha);subst hxx;refine fu (cellIn (F5 x' a hx').1) λi' j hij hi' hj'=>?_;have:=iV (cW.nodup eG.ok) hi hi';subst this;obtain⟨a2,MZ,ha2,hc2,hv2⟩:=F'.cells j x' (IP hj');have ea:a2=a:=by rw [D2,GP (F5 x' a hx').1,ha]at ha2;exact(dI ha2).symm
     subst ea;refine⟨a2,MZ,ha,hc2,λu hu=> ?_⟩;have eq1:(cZ[j]?).join=(ai[i]?).join:=by
      have hm: ∀(l:List (Nat×Nat)),(l.map λp=>(cZ[p.2]?).join)=(l.map λp=>(ai[p.1]?).join)->(i,j)∈l->(cZ[j]?).join=(ai[i]?).join:=by
       intro l
       induction l with
       | nil=>intro _ h;exact jc h
       | cons p r ih=>
        intro h hm;rw [dj,dj,List.cons.injEq]at h;cases hm with
        | head=>exact h.1
        | tail _ hm=>exact ih h.2 hm
      exact hm link hend hij
     rw [hu]at eq1;refine c12 (hv2 u (AU eq1)) λr e1 e2=>i12 r e1 (e2.taken hj)
   ·refine aP (LO x a hm) (λq=>?_) λt=>cG t λx' hx'=>?_
    ·obtain⟨z1,z2,z3,ov,oc,z4,z5,z6⟩:=eG.mZ x a hm;refine v7 (D3 a q) λo o' w1 _ w3 w4 _=>?_;rw [z4]at w1;obtain rfl:=dI w1;exact⟨Wd.d6 q,LG a q,z3,ov,o',w3,w4.data▸z5,w4.cls▸z6⟩
    ·obtain⟨z1,z2,z3,ov,oc,z4,z5,z6⟩:=F'.mZ x' a (cl2 x' a hx');refine⟨?_,z2,(eG.mZ x a hm).no,ov,oc,z4,z5,z6⟩;rw [Wd.bA λq=>q.2 x' hx'];exact z1
   ·obtain⟨o2,es2,n2,w1,w2,w3⟩:=eG.je;rw [g1]at w1;obtain rfl:=dI w1;exact⟨oL',es2,n2,y3,y4.cls▸w2,y4.data▸w3⟩
   ·obtain⟨fenv,rest,L,e1,e2,e3,e4,e5,e6,e7⟩:=eG.pE;refine⟨fenv,rest,L,e1,e2.mono AG,e3,e4,e5,e6,?_⟩;refine aP e7 (λw=>?_) λv=>lU v λo es n f1 f2 f3=>?_
    ·rcases w with⟨rfl,o,es,n,f1,f2,f3⟩
     rw [g1]at f1;obtain rfl:=dI f1;exact .inl ⟨rfl,oL',es,n,y3,y4.cls▸f2,y4.data▸f3⟩
    ·exact .inr ⟨o,es,n,AG.2 _ _ f1,f2,f3⟩
  ·rw [Wd.bA λq=>nL q.1];exact F'.mi.1
 have IS:cenv.scope.kind= .function:=by rw [<-rA];exact cW.kind xI
 have GQ: ∀x∈scope.names,x.2= .local->cenv.kindOf x.1=some .local:=λx hx hx2=>by
  refine cG (vi hx) λj hj=>?_;have:(bB scope).names[j]? =some (x.1,NameKind.local):=by obtain⟨n,kd⟩:=x;have hx2:kd=NameKind.local:=hx2;subst hx2;unfold bB;rw [gq,hj];rfl
  rw [<-rA];exact bI (cW.nodup xI) this
 have goes: ∀(vs:List (Str×NameKind)) (cellsOf:List (Str×NameKind)->List Value) (W':Wd) (M3:List (Option AV)) (M4:St) (s':Shared) (mr:Str->Option Value),(∀x∈vs,x.2= .local->cenv.kindOf x.1=some .local)->At C sc A W' env M3 M4 s'->dR W' cenv.locals-> ¬Own env cenv.locals->s'.heap.Ns cenv.locals mr->
   ∀(P:Unit->Shared->Prop),(∀s'',At C sc A W' env M3 M4 s''->P () s'')->wpAny C.M A (comprehension.letGo cenv cellsOf vs) P No s':=λvs cellsOf W' M3 M4 s' mr hvs H' hf hn hns P hP=>by
  refine wpAny_comp_letGo IS vs s' mr hvs hns λh' m' _ hs'=>hP _ ⟨H'.inv.but hf.1 hf.2 λb o nb e=>(hs'.2 b nb).trans e,H'.fr.keep hn hf.1 (H'.fr.jT hn hf.1) λb o nb e=>(hs'.2 b nb).trans e⟩
 refine cA (ak (wpAny_attempt (cA (wpAny_run (h:=none) ?_))));rw [mark_none];refine kZ hrun λr s' hh=> ?_;cases r with
 | error e=>exact hh.elim
 | ok fl=>
  refine c12 hh λW' rq H'=>?_;clear hh;refine ku (back W' s' rq H') λleB HB hf hn=>?_;obtain⟨NS,IT,_⟩:=H'.fr.ns;cases use with
  | none=>refine ak (cA (goes _ _ _ _ _ _ NS (λx hx hx2=>GQ x (kO.mp (xm.mp hx)).1 hx2) HB hf hn IT _ λs'' v9=>aQ ?_));exact hQ _ acc s'' (IQ.trans leB) v9 (IL.mono leB)
  | some u=>
   refine v8 hQ λb6 bX hu hQ=>ak (rG (ak (cA ?_)));refine AD IT λoL esL epL gL dL kL fL=>?_;clear IT;obtain⟨Pz,es2,n2,NT,NU,_⟩:=H'.fr.je;rw [gL]at NT;obtain rfl:=dI NT;refine bG (HB.freeze gL hf.1 hf.2 hn) λNV HF=>bF (hu _ acc s' (IQ.trans (leB.trans NV)) HF ((IL.mono leB).mono NV)) (λ_ F3 ⟨vX,rt,LP,mK⟩=> ?_) λ_ _ h=>h;have e5:vX.fz cenv.locals=some oL:=LP _ _ (by show(if _ then _ else _)=_;rw [aG rfl]);have hfr:oL.cls≠ .type "frame":=λz=>by
    refine aP NU (λc=>?_) λc=>?_
    ·have e1:cenv.frame=env.frame:=by rw [<-rA]
     exact eG.jT hn (above _ (Nat.le_of_eq yM.symm)).1 (e1▸c.2)
    ·rw [c]at z;exact absurd (ni z) (by decide)
   have cD:oL.cls= .type "dict":=NU.elim (λc=>absurd c.1 hfr) id;have OM:Jk oL:=λn z=>by rw [cD]at z;cases ni z;decide
   obtain⟨HT,ob',gT,rfl⟩:=mK.Lp e5 OM hfr (H'.inv.mW H'.fr.mi.1);have ON:W.le (vX.minus (· =cenv.locals)):=⟨λl a q=>rt.1 _ _ q,λa o q=>by
    rw [Wd.bA (X:=(· =cenv.locals)) λz=>by
     have z:a=cenv.locals:=z;subst z;have:=IQ.2 _ _ q;rw [(above _ (Nat.le_of_eq yM.symm)).1]at this;exact dC this]
    exact rt.2 _ _ q⟩
   refine ak (goes _ _ _ _ _ _ NS (λx hx hx2=> ?_) HT ⟨Wd.d6 (X:=(· =cenv.locals)) rfl,λl q=> ?_⟩ hn ⟨ob',esL,epL,gT,dL,kL,fL⟩ _ λs'' v9=>aQ ?_)
   ·exact GQ x (kO.mp (xm.mp ((cm.mp hx).elim (λhx=>List.mem_of_mem_drop hx) (λhx=>List.mem_of_mem_take hx)))).1 hx2
   ·have:=mK.inv.apart l _ q;rw [e5]at this;exact rZ this
   ·exact hQ _ s'' ON v9
end
end V
end
section
namespace V
noncomputable def AV.A3 (x:AV):Prop:= ∀D,AV.In D x
noncomputable def AV.pS (xs:List AV):Prop:= ∀D,AV.mT D xs
theorem AV.E4 {D:Loc->Prop}: ∀{xs:List AV},AV.mT D xs↔ ∀x∈xs,AV.In D x:=by
 intro xs
 induction xs with
 | nil=>exact⟨λu x hx=>jc hx,λu=>trivial⟩
 | cons y r ih=>exact⟨λh x hx=>aP (cI.mp hx) (λe=>e▸h.1) λm=>ih.mp h.2 x m,λh=>⟨h _ (.head _),ih.mpr λx m=>h x (.tail _ m)⟩⟩
theorem EN (h: ∀x∈xs,x.A3):AV.pS xs:=λD=>AV.E4.mpr λx hx=>h x hx D
theorem cc:(AV.str s).A3:=λu=>trivial
theorem fK:(AV.int i).A3:=λu=>trivial
theorem km (h:AV.pS xs):(AV.lst xs).A3:=λD=>h D
theorem xQ (h:AV.pS xs):(AV.tup xs).A3:=λD=>h D
theorem bo {α:Type} {f:α->AV} {l:List α} (h: ∀x,(f x).A3):AV.pS (l.map f):=EN λx hx=>by refine kE (bM.mp hx) λy _=>?_;exact h y
noncomputable def sy (Z:St):Prop:= ∀l o,Z l=some o->o.In λl=>(Z l).isSome=true
noncomputable def En (sc:Scope) (ms:List (Option AV)) (Z:St):Prop:=
 ∀(i:Nat) (x:Str) (kd:NameKind) (v:AV),sc.names[i]? =some (x,kd)->(kd= .local\/kd= .cell)->ms[i]? =some (some v)->v.In λl=>(Z l).isSome=true
section
variable {C:Cx} {k:Nat} {sc:Scope} {A:Around} {W:Wd} {env:Env} {ms ai aZ b6 aK:List (Option AV)} {Z ae aN bX aB τ:St} {s:Shared}
theorem AO.In.mono {D D':Loc->Prop} (m: ∀l,D l->D' l) {o:AO} (z:o.In D):o.In D':=by
 cases o with
 | list xs=>exact AV.mT.mono m z
 | dict es=>exact λp hp=>(z p hp).mono m
 | map es n=>exact λp hp=>(z p hp).mono m
 | set xs=>trivial
 | inst c d=>exact m d z
 | slots c d vs=>exact⟨m d z.1,λx hx=>(z.2 x hx).mono m⟩
 | junk=>trivial
 | exc n xs=>exact AV.mT.mono m z
 | iter l i=>exact m l z
theorem Inv.closed (I:Inv C W Z s):sy Z:=λl o e=>by
 refine fu (I.at e) λa ob _ _ h=>?_;exact h.dq.mono λl q=>by rw [<-I.dom l];exact q
theorem At.Mr (H:At C sc A W env ms Z s):En sc ms Z:=λi x kd v hi hk hv=>by
 refine aP hk (λu=>?_) λz=>?_
 ·subst u;obtain⟨mr,_,hm⟩:=H.fr.ns;refine c12 (hm i x v hi hv) λr _ q=>?_;exact q.dq.mono λl q=>by rw [<-H.inv.dom l];exact q
 ·subst z;obtain⟨a,ov,_,_,hm⟩:=H.fr.cells i x hi;refine c12 (hm v hv) λr _ q=>?_;exact q.dq.mono λl q=>by rw [<-H.inv.dom l];exact q
theorem eC.cut {D:Loc->Prop} (F:eC C sc A W env ms h) (c:Cut W W' D) (hm: ∀(i:Nat) (x:Str) (kd:NameKind) (v:AV),sc.names[i]? =some (x,kd)->(kd= .local\/kd= .cell)->ms[i]? =some (some v)->v.In D)
  (h1: ∀a,Own env a->W'.fz a=none) (h2: ∀l a,W'.ρ l=some a->W.ρ l=some a):eC C sc A W' env ms h:=by
 obtain⟨mr,hn,hv⟩:=F.ns;refine⟨F.scope,F.globals,F.builtins,F.ok,⟨mr,hn,λi x v hi hu=>(c12 (hv i x v hi hu) λr e q=>⟨r,e,q.cut c (hm i x _ v hi (.inl rfl) hu)⟩)⟩,λi x hi=> ?_,⟨h1 _ (.inl rfl),λl e=>F.mi.2 l (h2 _ _ e)⟩,λx a hx=> ?_,F.iQ,F.je,?_⟩
 ·obtain⟨a,ov,e1,e2,e3⟩:=F.cells i x hi;exact⟨a,ov,e1,e2,λv hu=>(c12 (e3 v hu) λr e q=>⟨r,e,q.cut c (hm i x _ v hi (.inr rfl) hu)⟩)⟩
 ·have p:=F.mZ x a hx;exact p.re (h1 _ (.inr (bM.mpr ⟨(x,a),hx,rfl⟩))) λl e=>p.Lx l (h2 _ _ e)
 ·obtain⟨fenv,rest,L,e1,e2,e3,e4,e5,e6,e7⟩:=F.pE;refine⟨fenv,rest,L,e1,λe he=> ?_,e3,e4,e5,e6,?_⟩
  ·rcases e2 e he with⟨k1,L',o,es,n,k2,k3,k4,w⟩;refine bG w λk5 k6=>⟨k1,L',o,es,n,k2,k3,c.2 _ _ k4,k5,k6⟩
  ·refine aP e7 (λz=>?_) λu=>sL u λo es n z1 z2=>?_
   ·exact .inl z
   ·exact .inr ⟨o,es,n,c.2 _ _ z1,z2⟩
theorem At.oO (H:At C sc A W env ms Z s) (hl:Z l=some (.list xs)) (ht:τ l=none) (hs: ∀l o,τ l=some o->Z l=some o) (hc:sy τ)
  (hx:AV.mT (λl=>(τ l).isSome=true) xs) (hm:En sc ms τ) (hv:aw W (.loc l) v): ∃W',Cut W W' (λl=>(τ l).isSome=true)/\At C sc A W' env ms τ s/\aw W' (.lst xs) v:=by
 have I':=H.inv.only hs hc;have hv':=hv;refine uU hv λa e=>c12 (H.inv.obj l a _ e hl) λob h1 h2=>?_;obtain⟨c1,vs,n,c2,c3⟩:=h2;have sub: ∀{x b},(W.only τ).ρ x=some b->W.ρ x=some b/\(τ x).isSome=true:=λ{x b} q=>by
  have q:(if(τ x).isSome then W.ρ x else none)=some b:=q;split at q
  ·rename_i h;exact⟨q,h⟩
  ·exact dC q
 have n2: ∀x,(W.only τ).ρ x≠some a:=λx q=>by have:=H.inv.inj x l a (sub q).1 e;have h:=(sub q).2;rw [this,ht]at h;exact tQ h
 have n1:(W.only τ).fz a=none:=H.inv.apart l a e;refine bG (I'.fX (h:=s.heap) (t:=s.toks) (d:=s.drawn) n1 n2 (λ_ _ q=>q) h1) λle I2=>?_;have cut:Cut W ((W.only τ).freeze a ob) (λl=>(τ l).isSome=true):=⟨λx b d q=>(W.iW τ).1 x b d q,λx o q=>le.2 _ _ q⟩;refine vO _ cut ⟨I2,H.fr.cut cut hm (λb q=> ?_) λx b q=>(sub q).1⟩ ?_
 ·refine nR (H.fr.own q) λo1 o2 _=>(?_:(if b=a then some ob else W.fz b)=none);rw [az λz=>o2 l (by rw [z];exact e)];exact o1
 ·skip
  refine v5 a ob vs n rfl ?_ c1 c2 (c3.cut cut hx);refine(?_:(if a=a then some ob else _)=_);rw [aG rfl]
theorem KS (I:Inv C W Z s) (xH:Inv C aR ae aI): ∃la:Loc,Z la=none/\ae la=none:=by refine cG I.free λn h=>cG xH.free λm h'=>i12 ⟨n+m,Str.empty⟩ (h _ (gO _ _)) (h' _ (Nat.le_add_left _ _))
theorem dJ (hl:Z l=some (.list xs)) (hz:xs.length<=sizeLine):Ca C k Z (.bi "list.append") [.loc l,x] [] .none (Z.set l (.list (xs++ [x]))):=by
 intro W rf df fq hf ha hk A s outer hr hA hS I;subst hf;refine gD ha λv1 r1 q1 ha=>gD ha λv2 r2 q2 ha=>?_;subst ha;subst hk;refine uU q1 λa e=>?_;obtain⟨ob,h1,c1,vs,n,rfl,c3⟩:=I.obj l a _ e hl;have hT:s.TypeIs (.ref a) "list":=⟨_,h1,rfl⟩;refine z0 slot_list_append hT entry_list_append ?_ (args_list_append _ _);refine(?_:wpAny _ _ (updateSeq a (·.push v2)>>=λu=>ret .none) _ _ s);have M5:vs.toArray.size<=sizeLine:=by rw [CW,c3.length];exact hz
 refine ak (wpAny_updateSeq h1 rfl (aQ ⟨.none,rfl,?_⟩) M5 (by rw [Array.size_push];omega));refine⟨W,.refl W,I.upd e (ew _ _ _) (jw _ h1 rfl) ⟨rfl,vs++ [v2],_,by simp [Obj.mapSeq];rfl,c3.append (.cons q2 .nil)⟩,rfl⟩
theorem nE (h:Ev C k sc ms Z elt v aK ae) (ho:ae la=some (.list out)) (hz:out.length<=sizeLine):
  Em C k sc la (.ListComp elt gens scope pos) ms Z aK (ae.set la (.list (out++ [v]))):=by
 intro A W env s iR hr H q;refine cR (h A W env s hr H) λaR rv aI aA aO p9=>ak ?_;refine(dJ (k:=k) ho hz).in hr aO rfl (.cons (q.mono aA) (.cons p9 .nil)) .nil λbh r aT ax aF u=>aQ (bw (aA.trans ax) aF trivial)
structure ml (C:Cx) (k:Nat) (sc:Scope) (ms:List (Option AV)) (Z:St) (scope:Scope) (link:List (Nat×Nat)) (g:Comprehension) (gs:List Comprehension) (ai:List (Option AV)) (ae:St) (v src:AV) (xs:List AV) (ok:St->Prop) (Sh:vZ):Prop where
 sync: ∀g'∈g::gs,g'.is_async=0
 linked: ∀p∈link,∃x,sc.names[p.1]? =some (x,NameKind.cell)/\scope.names[p.2]? =some (x,NameKind.free)
 free:lx scope=link.map (·.2)
 ok2:cW (bB scope)=true
 first:Ev C k sc ms Z g.iter v ai ae
 it:ui C k ok v xs src Sh g.target
 ok:ok ae
 fold: ∀env x,foldedSetIterable g.iter env x=pure x
structure BR (C:Cx) (k:Nat) (sc:Scope) (ms:List (Option AV)) (Z:St) (scope:Scope) (link:List (Nat×Nat)) (g:Comprehension) (gs:List Comprehension) (ai:List (Option AV)) (ae:St) (src:AV) (xs:List AV) (ok:St->Prop) (Sh:vZ):Prop where
 sync: ∀g'∈g::gs,g'.is_async=0
 linked: ∀p∈link,∃x,sc.names[p.1]? =some (x,NameKind.cell)/\scope.names[p.2]? =some (x,NameKind.free)
 free:lx scope=link.map (·.2)
 ok2:cW (bB scope)=true
 st:pv C k sc ms Z g.iter ai ae src Sh
 it:ItrN C k ok xs src Sh g.target
theorem ml.comp {ok:St->Prop} (K:ml C k sc ms Z scope link g gs ai ae v src xs ok Sh):BR C k sc ms Z scope link g gs ai ae src xs ok Sh:=
 ⟨K.sync,K.linked,K.free,K.ok2,ui.starts K.first K.it K.ok K.fold,K.it.toItrN⟩
theorem j4 (hl:Z l=none):sH C Z (newList []) l (.list []):=
 ⟨hl,{cls:= .type "list",data:= .seq #[]},rfl,λW=>⟨rfl,[],0,rfl,.nil⟩,λM A E s Q h=>nU h (dW _)⟩
theorem qO {use:Option (Value->Sem Unit)} {Q:Value->Shared->Prop} (he:eK e=some (g::gs)) (h1:pv C k sc ms Z g.iter ai ae src Sh) (hr:bY C A k) (H:At C sc A W env ms Z s)
  (h:(∃la:Loc,Z la=none/\ae la=none)->sy ae->En sc ai ae->wpAny C.M A (comprehension e scope env pos newAcc false (eval g.iter env) use) Q No s):wpAny C.M A (comprehension e scope env pos newAcc false (eval g.iter env) use) Q No s:=by
 by_cases q:(∃la:Loc,Z la=none/\ae la=none)/\sy ae/\En sc ai ae
 ·exact h q.1 q.2.1 q.2.2
 ·have hc:clausesOf e=g::gs:=by
   rcases d5 he with⟨_,_,_,rfl⟩ | ⟨_,_,_,_,rfl⟩<;>rfl
  delta comprehension;rw [hc];exact h1 _ A W env s _ _ _ hr H λaR rv aI aA aO p9=>(q ⟨KS H.inv aO.inv,aO.inv.closed,aO.Mr⟩).elim
theorem sP (h:Z l=none): ∀x y,Z x=some y->(Z.set l o) x=some y:=λx y e=>by delta St.set;rw [az λz=>by rw [z,h]at e;exact dC e];exact e
theorem FU (x:Loc) (h:((Z.set l o) x).isSome=true) (n:x≠l):(Z x).isSome=true:=by
 delta St.set at h
 rwa [az n]at h
theorem B9 (I:Inv C W Z s) (hla:Z la=none) (le:W.le W') (I':Inv C W' (ae.set la o) s') (c:Cut W' IF λl=>(ae l).isSome=true):W.le IF:=
 ⟨λl a e=>c.1 l a (FU l (by rw [<-I'.dom l,le.1 _ _ e];rfl) λz=>by rw [z,I.none_of hla]at e;exact dC e) (le.1 _ _ e),λa o e=>c.2 _ _ (le.2 _ _ e)⟩
theorem l6 {ok:St->Prop} (K:BR C k sc ms Z scope link g gs ai ae src xs ok Sh)
  (hl: ∀la,ae la=none->CL C k (bB scope) la (.ListComp elt (g::gs) scope pos) ok g gs xs (fp link ai scope.names.length) (ae.set la (.list [])) cZ (ae.set la (.list out)))
  (hend:(link.map λp=>(cZ[p.2]?).join)=link.map λp=>(ai[p.1]?).join) (hp:AV.pS out):Ev C k sc ms Z (.ListComp elt (g::gs) scope pos) (.lst out) ai ae:=by
 intro A W env s hr H;obtain⟨tg,it,ifs,as⟩:=g;have ha:as=0:=K.sync _ (.head _);subst ha;refine qO (g:=⟨tg,it,ifs,0⟩) rfl K.st hr H λz hcl hm=> ?_;refine c12 z λla hla tG=>?_;clear z;refine jX (g:=⟨tg,it,ifs,0⟩) (gh:= .list []) (use:=none) rfl K.sync K.linked K.free K.ok2 K.st K.it (j4 tG) (hl la tG) hend hr H ?_;intro W' acc s' le H' q;refine fP (H'.oO (τ:=ae) (l:=la) (xs:=out) (by delta St.set;rw [aG rfl]) tG (sP tG) hcl (hp _) hm q) λIF c v9 q''=>bw (B9 H.inv hla le H'.inv c) v9 q''
theorem cp {ok:St->Prop} (K:ml C k sc ms Z scope link g gs ai ae v src xs ok Sh)
  (hl: ∀la,ae la=none->CL C k (bB scope) la (.ListComp elt (g::gs) scope pos) ok g gs xs (fp link ai scope.names.length) (ae.set la (.list [])) cZ (ae.set la (.list out)))
  (hend:(link.map λp=>(cZ[p.2]?).join)=link.map λp=>(ai[p.1]?).join) (hp:AV.pS out):Ev C k sc ms Z (.ListComp elt (g::gs) scope pos) (.lst out) ai ae:=l6 K.comp hl hend hp
theorem oB {ok:St->Prop} (la:Loc)
  (K:ml C k sc ms Z scope link g gs ai ae v src xs ok Sh) (hla:ae la=none)
  (hl:CL C k (bB scope) la (.ListComp elt (g::gs) scope pos) ok g gs xs (fp link ai scope.names.length) (ae.set la (.list [])) cZ aN)
  (hend:(link.map λp=>(cZ[p.2]?).join)=link.map λp=>(ai[p.1]?).join):Ev C k sc ms Z (.ListComp elt (g::gs) scope pos) (.loc la) ai aN:=by
 intro A W env s hr H;obtain⟨tg,it,ifs,as⟩:=g;have ha:as=0:=K.sync _ (.head _);subst ha;refine jX (g:=⟨tg,it,ifs,0⟩) (gh:= .list []) (use:=none) rfl K.sync K.linked K.free K.ok2 K.comp.st K.comp.it (j4 hla) hl hend hr H ?_;intro W' acc s' le H' q;exact bw le H' q
theorem jK {ok:St->Prop} (K:BR C k sc ms Z scope link g gs ai ae src xs ok Sh)
  (hl: ∀la,ae la=none->CL C k (bB scope) la (.ListComp elt (g::gs) scope cpos) ok g gs xs (fp link ai scope.names.length) (ae.set la (.list [])) cZ (ae.set la (.list out)))
  (hend:(link.map λp=>(cZ[p.2]?).join)=link.map λp=>(ai[p.1]?).join) (hp:AV.pS out)
  (hsw: ∀env,∃b,swapsWithSole [t] (.ListComp elt (g::gs) scope cpos) pos.line env=pure b) (hw: ∀env,swappedStores [t] (.ListComp elt (g::gs) scope cpos) env=pure none) (ht: ∀env,(assignEach [t] env).map (·.2)= [assign t env])
  (ha:As C k sc ai ae t (.lst out) aK aB):X1 C k sc ms Z (.Assign [t] (.ListComp elt (g::gs) scope cpos) pos) .next aK aB:=by
 intro A W env s hr H;refine(?_:wpAny C.M A (exec _ env) _ _ _);rw [exec_Assign_arm];refine ak (cF ?_);refine cG (hsw env) λb hb=>?_;rw [hb];refine ak (aQ ?_);cases b with
 | false=>refine cR (l6 K hl hend hp A W env s hr H) λaR r aI aA aO q=>ak (eL (hw env) ?_);rw [ht];refine ak (bf (ha A aR env aI r hr aO q) λbh u aT ax aF v=>aQ (bw (aA.trans ax) aF rfl))
 | true=>simp only [if_true];obtain⟨tg,it,ifs,as⟩:=g;have ha0:as=0:=K.sync _ (.head _);subst ha0;rw [ht];rw [arm_evalThenUse_ListComp];refine ak (ak ?_);refine qO (g:=⟨tg,it,ifs,0⟩) rfl K.st hr H λz hcl hm=> ?_;refine c12 z λla hla tG=>?_;clear z;refine jX (g:=⟨tg,it,ifs,0⟩) (gh:= .list []) (use:=some _) rfl K.sync K.linked K.free K.ok2 K.st K.it (j4 tG) (hl la tG) hend hr H ⟨aK,aB,λW' acc s' le H' q=> ?_,λW' s' le H'=>aQ (aQ (bw le H' rfl))⟩;refine fP (H'.oO (τ:=ae) (l:=la) (xs:=out) (by delta St.set;rw [aG rfl]) tG (sP tG) hcl (hp _) hm q) λIF c v9 q''=>?_;have cl:=B9 H.inv hla le H'.inv c;exact bf (ha A IF env s' acc hr v9 q'') λbh u aT ax aF v=>⟨bh,cl.trans ax,λa o e=>ax.2 _ _ (c.2 _ _ e),aF⟩
theorem bZ {ok:St->Prop} (K:ml C k sc ms Z scope link g gs ai ae v src xs ok Sh)
  (hl: ∀la,ae la=none->CL C k (bB scope) la (.ListComp elt (g::gs) scope cpos) ok g gs xs (fp link ai scope.names.length) (ae.set la (.list [])) cZ (ae.set la (.list out)))
  (hend:(link.map λp=>(cZ[p.2]?).join)=link.map λp=>(ai[p.1]?).join) (hp:AV.pS out)
  (hsw: ∀env,∃b,swapsWithSole [t] (.ListComp elt (g::gs) scope cpos) pos.line env=pure b) (hw: ∀env,swappedStores [t] (.ListComp elt (g::gs) scope cpos) env=pure none) (ht: ∀env,(assignEach [t] env).map (·.2)= [assign t env])
  (ha:As C k sc ai ae t (.lst out) aK aB):X1 C k sc ms Z (.Assign [t] (.ListComp elt (g::gs) scope cpos) pos) .next aK aB:=jK K.comp hl hend hp hsw hw ht ha
end
end V
end
section
namespace V
open Builtin Builtin.Str
theorem b9:aw W (.int i) (.int i t):=⟨_,rfl⟩
theorem bN:aw W (.str x) (.str x t):=⟨_,rfl⟩
theorem oJ:aw W (.bytes x) (.bytes x t):=⟨_,rfl⟩
theorem bO:aw W (.bool b) (.bool b):=rfl
theorem c6:aw W .none .none:=rfl
theorem dw (h:aU W [x] vs): ∃v,vs= [v]/\aw W x v:=by refine gD h λv r q h=>?_;subst h;exact i12 v rfl q
theorem fF (h:aU W [x,y] vs): ∃v u,vs= [v,u]/\aw W x v/\aw W y u:=by refine gD h λv r q h=>?_;refine yA (dw h) λu q2=>?_;exact jE v u rfl q q2
theorem wu {aB:St} {id:String} (h: ∀W r,aw W x r->Op C k W Z (call (.builtin id) [r]) (λW r=>aw W v r) aB):Ca C k Z (.bi id) [x] [] v aB:=by intro W rf df fq hf ha hk;subst hf;subst hk;refine yA (dw ha) λr q=>h W r q
theorem oV {aB:St} {id:String} (h: ∀W r u,aw W x r->aw W y u->Op C k W Z (call (.builtin id) [r,u]) (λW r=>aw W v r) aB):Ca C k Z (.bi id) [x,y] [] v aB:=by intro W rf df fq hf ha hk;subst hf;subst hk;refine gD (fF ha) λr u q q'=>h W r u q q'
theorem uq (h:aU W [x,y,z] vs): ∃v u t,vs= [v,u,t]/\aw W x v/\aw W y u/\aw W z t:=by refine gD h λv r q h=>?_;refine gD (fF h) λu t q2 q3=>?_;exact Jl v u t rfl q q2 q3
section
variable {C:Cx} {k:Nat} {W:Wd} {Z aB:St}
theorem Op.look {α:Type} {t:Sem α} {R:Wd->α->Prop} (h: ∀A s (Q:α->Shared->Prop),bY C A k->Inv C W Z s->(∀r tk,R W r->Q r {s with toks:=tk})->wpAny C.M A t Q No s):Op C k W Z t R Z:=by intro A s outer hr hA hS I;refine eO (h A s _ hr I λr tk hR=> ?_);intro l;exact⟨W,.refl W,I.same (λu v e=>e) l,hR⟩
theorem iJ {α:Type} {f:Value->Value->Sem α} {R:α->Prop} (h: ∀A s (Q:α->Shared->Prop) t u,bY C A k->(∀r tk,R r->Q r {s with toks:=tk})->wpAny C.M A (f (.int a t) (.int b u)) Q No s):di C k Z f (.int a) (.int b) (λv r=>R r) Z:=by intro W ra rb ha hb;refine e9 ha λt=>e9 hb λu=>Op.look λA s Q hr I hq=>h A s Q t u hr hq
theorem oX {α:Type} {f:Value->Value->Sem α} {R:α->Prop} (h: ∀A s (Q:α->Shared->Prop) t u,bY C A k->(∀r tk,R r->Q r {s with toks:=tk})->wpAny C.M A (f (.str a t) (.str b u)) Q No s):di C k Z f (.str a) (.str b) (λv r=>R r) Z:=by intro W ra rb ha hb;refine e9 ha λt=>e9 hb λu=>Op.look λA s Q hr I hq=>h A s Q t u hr hq
theorem Dh {α:Type} {f:Value->Value->Sem α} {R:α->Prop} (h: ∀A s (Q:α->Shared->Prop) t u,bY C A k->(∀r tk,R r->Q r {s with toks:=tk})->wpAny C.M A (f (.str a t) (.int b u)) Q No s):di C k Z f (.str a) (.int b) (λv r=>R r) Z:=by intro W ra rb ha hb;refine e9 ha λt=>e9 hb λu=>Op.look λA s Q hr I hq=>h A s Q t u hr hq
theorem di.to {α:Type} {f:Value->Value->Sem α} {R R':Wd->α->Prop} (h:di C k Z f a b R aB) (g: ∀W r,R W r->R' W r):di C k Z f a b R' aB:=by intro W ra rb ha hb A s outer hr hA hS I;exact bF (h W ra rb ha hb A s outer hr hA hS I) (λr s' z=>(by obtain⟨W',le,I',q⟩:=z;exact⟨W',le,I',g _ _ q⟩)) λu v x=>x
variable {a b c:Int}
theorem qZ:di C k Z (binaryOp .Add) (.int a) (.int b) (λW r=>aw W (.int (a+b)) r) Z:=(iJ (R:=λr=> ∃t,r= .int (a+b) t) λA s Q t u hr h=>P.add_int (h _ _ ⟨_,rfl⟩)).to λW r q=>cG q λt e=>e▸b9
theorem J1:di C k Z (binaryOp .Sub) (.int a) (.int b) (λW r=>aw W (.int (a - b)) r) Z:=(iJ (R:=λr=> ∃t,r= .int (a - b) t) λA s Q t u hr h=>P.sub_int (h _ _ ⟨_,rfl⟩)).to λW r q=>cG q λt e=>e▸b9
theorem wA:di C k Z (inplaceOp .Add) (.int a) (.int b) (λW r=>aw W (.int (a+b)) r) Z:=(iJ (R:=λr=> ∃t,r= .int (a+b) t) λA s Q t u hr h=>P.iadd_int (h _ _ ⟨_,rfl⟩)).to λW r q=>cG q λt e=>e▸b9
theorem ID:di C k Z (inplaceOp .Sub) (.int a) (.int b) (λW r=>aw W (.int (a - b)) r) Z:=(iJ (R:=λr=> ∃t,r= .int (a - b) t) λA s Q t u hr h=>P.isub_int (h _ _ ⟨_,rfl⟩)).to λW r q=>cG q λt e=>e▸b9
theorem du (hb:b≠0) (hc:a.fmod b=c):di C k Z (binaryOp .Mod) (.int a) (.int b) (λW r=>aw W (.int c) r) Z:=(iJ (R:=λr=> ∃t,r= .int c t) λA s Q t u hr h=>mod_int' hb (h _ _ ⟨_,by rw [hc]⟩)).to λW r q=>cG q λt e=>e▸b9
theorem gw (hb:b≠0) (hc:a.fdiv b=c) (hp:Builtin.divisionGoesByPylong a b=false):di C k Z (binaryOp .FloorDiv) (.int a) (.int b) (λW r=>aw W (.int c) r) Z:=
 (iJ (R:=λr=> ∃t,r= .int c t) λA s Q t u hr h=>floordiv_int hb (h _ _ ⟨_,by rw [hc]⟩) (.inl hp)).to λW r q=>cG q λt e=>e▸b9
theorem MG:di C k Z (compareOp .Eq) (.int a) (.int b) (λW r=>aw W (.bool (a==b)) r) Z:=(iJ (R:=λr=>r= .bool (a==b)) λA s Q t u hr h=>P.eq_int (h _ _ rfl)).to λW r e=>e▸bO
theorem MH:di C k Z (compareOp .NotEq) (.int a) (.int b) (λW r=>aw W (.bool (a !=b)) r) Z:=(iJ (R:=λr=>r= .bool (a !=b)) λA s Q t u hr h=>P.ne_int (h _ _ rfl)).to λW r e=>e▸bO
theorem Ig:di C k Z (compareOp .Lt) (.int a) (.int b) (λW r=>aw W (.bool (decide (a<b))) r) Z:=(iJ (R:=λr=>r= .bool (decide (a<b))) λA s Q t u hr h=>P.lt_int (h _ _ rfl)).to λW r e=>e▸bO
theorem Ly:di C k Z (compareOp .Gt) (.int a) (.int b) (λW r=>aw W (.bool (decide (a>b))) r) Z:=(iJ (R:=λr=>r= .bool (decide (a>b))) λA s Q t u hr h=>P.gt_int (h _ _ rfl)).to λW r e=>e▸bO
theorem qh:ib C k Z (unaryOp .USub) (.int a) (λW r=>aw W (.int (-a)) r) Z:=by intro W ra ha;refine e9 ha λt=>Op.look λA s Q hr I h=>P.neg_int (h _ _ b9)
theorem G3:ib C k Z truthy (.int a) (λu r=>r=(a !=0)) Z:=by intro W ra ha;refine e9 ha λt=>Op.look λA s Q hr I h=>P.truthy_int (h _ _ rfl)
theorem cu {b:Bool}:ib C k Z truthy (.bool b) (λu r=>r=b) Z:=by intro W ra ha;subst ha;exact Op.look λA s Q hr I h=>wpAny_truthy_bool (h _ _ rfl)
theorem rY:ib C k Z truthy .none (λu r=>r=false) Z:=by intro W ra ha;subst ha;exact Op.look λA s Q hr I h=>truthy_none (h _ _ rfl)
variable {x y z:Str}
theorem kI (hz:x.length+y.length<=sizeLine):di C k Z (binaryOp .Add) (.str x) (.str y) (λW r=>aw W (.str (x++y)) r) Z:=
 (oX (R:=λr=> ∃t,r= .str (x++y) t) λA s Q t u hr h=>SB.add (λv w=>h _ _ ⟨_,rfl⟩) hz).to λW r q=>cG q λt e=>e▸bN
theorem Hl (hz:x.length+y.length<=sizeLine):di C k Z (inplaceOp .Add) (.str x) (.str y) (λW r=>aw W (.str (x++y)) r) Z:=
 (oX (R:=λr=> ∃t,r= .str (x++y) t) λA s Q t u hr h=>SB.iadd (λv w=>h _ _ ⟨_,rfl⟩) hz).to λW r q=>cG q λt e=>e▸bN
theorem s_eq {c:Bool} (hc:(x==y)=c):di C k Z (compareOp .Eq) (.str x) (.str y) (λW r=>aw W (.bool c) r) Z:=
 (oX (R:=λr=>r= .bool c) λA s Q t u hr h=>eq_str (h _ _ (by rw [hc]))).to λW r e=>e▸bO
theorem lW {c:Bool} (hc:(x !=y)=c):di C k Z (compareOp .NotEq) (.str x) (.str y) (λW r=>aw W (.bool c) r) Z:=
 (oX (R:=λr=>r= .bool c) λA s Q t u hr h=>ne_str (h _ _ (by rw [hc]))).to λW r e=>e▸bO
theorem HL {c:Bool} (hc:Txt.contains y x=c):di C k Z (compareOp .In) (.str x) (.str y) (λW r=>aw W (.bool c) r) Z:=
 (oX (R:=λr=>r= .bool c) λA s Q t u hr h=>SB.contains (h _ _ (by rw [hc]))).to λW r e=>e▸bO
theorem Gn (hn:n<=1000) (h0: -1000<=n) (hx:x.length<=1000):di C k Z (binaryOp .Mult) (.str x) (.int n) (λW r=>aw W (.str (Txt.mul x n)) r) Z:=by
 have ok:MulOk x n:=by
  refine nB (by simp only [Bool.or_eq_false_iff,decide_eq_false_iff_not];constructor<;>omega) (λh1 v=> ?_) λh1 v=> ?_
  ·have:(2 ^ 63 - 1:Int) / 1000<=(2 ^ 63 - 1) / n:=by rw [Int.le_ediv_iff_mul_le (by omega)];have:(2 ^ 63 - 1:Int) / 1000 * n<=(2 ^ 63 - 1:Int) / 1000 * 1000:=Int.mul_le_mul_of_nonneg_left hn (by decide);exact Int.le_trans this (by decide)
   have h2:(1000:Int)<=(2 ^ 63 - 1:Int) / 1000:=by decide
   omega
  ·have h2:x.length * n.toNat<=1000 * 1000:=xe hx (by omega);have e:sizeLine=16777216:=rfl;delta tooLong;rw [e];exact mH (by omega)
 exact(Dh (R:=λr=> ∃t,r= .str (Txt.mul x n) t) λA s Q t u hr h=>SB.mul ok (λv w=>h _ _ ⟨_,rfl⟩)).to λW r q=>cG q λt e=>e▸bN
theorem s_true {c:Bool} (hz:x.length<=sizeLine) (hc:((x.length:Int) !=0)=c):ib C k Z truthy (.str x) (λu r=>r=c) Z:=by intro W ra ha;refine e9 ha λt=>?_;exact Op.look λA s Q hr I h=>P.truthy_str (by rw [jr]at hz;omega) (h _ _ hc)
theorem gK {b:Bool} (hv: ∀W r,aw W v r->(r==Value.none)=b):di C k Z (compareOp .Is) v .none (λW r=>aw W (.bool b) r) Z:=by intro W ra rb ha hb;subst hb;refine Op.look λA s Q hr I h=>is_none_gen ?_;rw [hv _ _ ha];exact h _ _ bO
theorem cQ {b:Bool} (hv: ∀W r,aw W v r->(r==Value.none)=b):di C k Z (compareOp .IsNot) v .none (λW r=>aw W (.bool (!b)) r) Z:=by intro W ra rb ha hb;subst hb;refine Op.look λA s Q hr I h=>isnot_none_gen ?_;rw [hv _ _ ha];exact h _ _ bO
theorem rE: ∀W r,aw W (.str x) r->(r==Value.none)=false:=λW r h=>by refine e9 h λt=>?_;rfl
theorem fN: ∀W r,aw W .none r->(r==Value.none)=true:=λW r h=>by subst h;rfl
theorem mm: ∀W r,aw W (.loc l) r->(r==Value.none)=false:=λW r h=>by refine uU h λt _=>?_;rfl
theorem iG {id:String} (h: ∀(A:Around) (s:Shared) (t:Tok) (pl:Sem Bool) (Q:Value×List Value->Shared->Prop),Q (.builtin id,[.str x t]) s->wpAny C.M A (getMethod (.str x t) name pl) Q No s):Mt C k Z (.str x) name (.bi id):=by intro W ro pl ha;refine e9 ha λt=>Op.look λA s Q hr I hq=>h A s t pl Q (hq _ _ ⟨rfl,rfl⟩)
theorem FR:Mt C k Z (.str x) "count" (.bi "str.count"):=iG λu v w g m h=>GM.count h
theorem Et:Mt C k Z (.str x) "rfind" (.bi "str.rfind"):=iG λu v w g m h=>GM.rfind h
theorem gH:Mt C k Z (.str x) "startswith" (.bi "str.startswith"):=iG λu v w g m h=>GM.startswith h
theorem o7:Mt C k Z (.str x) "endswith" (.bi "str.endswith"):=iG λu v w g m h=>GM.endswith h
theorem BW:Mt C k Z (.str x) "rstrip" (.bi "str.rstrip"):=iG λu v w g m h=>GM.rstrip h
theorem sW:Mt C k Z (.str x) "split" (.bi "str.split"):=iG λu v w g m h=>GM.split h
theorem xj:Mt C k Z (.str x) "join" (.bi "str.join"):=iG λu v w g m h=>GM.join h
theorem uj:Mt C k Z (.str x) "partition" (.bi "str.partition"):=iG λu v w g m h=>GM.partition h
theorem Ae:Mt C k Z (.str x) "replace" (.bi "str.replace"):=iG λu v w g m h=>GM.replace h
theorem Kk {id:String} (h: ∀A s (Q:Value->Shared->Prop) t,bY C A k->(∀r tk,(∀W,aw W v r)->Q r {s with toks:=tk})->wpAny C.M A (call (.builtin id) [.str x t]) Q No s):Ca C k Z (.bi id) [.str x] [] v Z:=by refine wu λW r q=>e9 q λt=>Op.look λA s Q hr I hq=>h A s Q t hr λr tk hv=>hq r tk (hv W)
theorem rj {id:String} (h: ∀A s (Q:Value->Shared->Prop) t u,bY C A k->(∀r tk,(∀W,aw W v r)->Q r {s with toks:=tk})->wpAny C.M A (call (.builtin id) [.str x t,.str y u]) Q No s):Ca C k Z (.bi id) [.str x,.str y] [] v Z:=by refine oV λW r r' q q'=>e9 q λt=>e9 q' λu=>Op.look λA s Q hr I hq=>h A s Q t u hr λr tk hv=>hq r tk (hv W)
theorem Eu:Ca C k Z (.bi "str.count") [.str x,.str y] [] (.int (Txt.count x y)) Z:=rj λu v w g m q h=>SC.count (h _ _ λu=>b9)
theorem E6:Ca C k Z (.bi "str.rfind") [.str x,.str y] [] (.int (Txt.rfind x y)) Z:=rj λu v w g m q h=>SC.rfind (h _ _ λu=>b9)
theorem gF {c:Bool} (hc:Txt.startswith x y=c):Ca C k Z (.bi "str.startswith") [.str x,.str y] [] (.bool c) Z:=rj λu v w g m q h=>SC.startswith (h _ _ λu=>hc▸bO)
theorem pj {c:Bool} (hc:Txt.endswith x y=c):Ca C k Z (.bi "str.endswith") [.str x,.str y] [] (.bool c) Z:=rj λu v w g m q h=>SC.endswith (h _ _ λu=>hc▸bO)
theorem A6 (hz:x.length<=sizeLine):Ca C k Z (.bi "str.rstrip") [.str x,.str y] [] (.str (Txt.rstripChars x y)) Z:=rj λu v w g m q h=>SC.rstripChars (λu v=>h _ _ λu=>bN) hz
theorem Dg (hz:x.length<=sizeLine):Ca C k Z (.bi "len") [.str x] [] (.int x.length) Z:=Kk λu v w g m h=>P.len_str (by rw [jr]at hz;omega) (h _ _ λu=>b9)
end
end V
end
section
namespace V
open Builtin Builtin.Str
section
variable {C:Cx} {k:Nat} {sc:Scope} {A:Around} {W:Wd} {env:Env} {ms ai aZ b6 aK:List (Option AV)} {Z ae aN bX aB:St} {s:Shared}
noncomputable def Ty (C:Cx) (o:AV) (T:String):Prop:= ∀W Z s ro,Inv C W Z s->aw W o ro-> ∀s':Shared,(∀b ob,s.heap.get? b=some ob->s'.heap.get? b=some ob)->s'.TypeIs ro T
theorem sC:Ty C (.str x) "str":=λW Z s ro I q s' h=>by refine e9 q λt=>?_;exact pF _ _ _
noncomputable def H7 (C:Cx) (Z:St) (o:AV) (T:String):Prop:= ∀W s ro,Inv C W Z s->aw W o ro->s.TypeIs ro T
theorem Ty.at (h:Ty C o T):H7 C Z o T:=λW s ro I q=>h W Z s ro I q s λu v e=>e
theorem Lk {o:AV} {T id:String} (ht:Ty C o T) (hl:typeLookup (.type T) "__getitem__"=pure (some (.builtin id))):Bg C Z o:=λW s ro I q=>by intro A Q E s' hk hq;have hT:s'.TypeIs ro T:=ht W Z s ro I q s' hk;rw [getitemInPython_of_ne hT.not_modules];exact ak (wpAny_specialOf hT hl (aQ hq))
theorem ej:Bg C Z (.str x):=Lk sC F.slot_str_getitem.lookup
noncomputable def Pt (C:Cx) (k:Nat) (sc:Scope) (ms:List (Option AV)) (Z:St) (e:Option Expr) (v:AV) (aK:List (Option AV)) (aB:St):Prop:=
 Tr C k sc ms Z (λenv=>evalPart e env) (λW r=>aw W v r) aK aB
theorem bc:Pt C k sc ms Z none .none ms Z:=λu W v w g H=>aQ (bw (.refl W) H c6)
theorem bH (h:Ev C k sc ms Z e v aK aB):Pt C k sc ms Z (some e) v aK aB:=h
theorem Ck (qx:aw W x vx) (qy:aw W y vy) (qz:aw W z vz):Op C k W Z (newFields "slice" [vx,vy,vz]) (λW r=>aw W (.Az x y z) r) Z:=by
 intro A s outer hr hA hS I;refine bG I.cz λn1 n2=>nU ?_;have g:(s.heap.push {cls:= .type "slice",data:= .fields #[vx,vy,vz]}).get? s.heap.objs.size=some {cls:= .type "slice",data:= .fields #[vx,vy,vz]}:=dZ _ rfl;refine bG (I.fX (t:=s.toks) (d:=s.drawn) n1 n2 (a9 _ _) g) λle I'=>⟨_,le,I',?_⟩;refine⟨_,{cls:= .type "slice",data:= .fields #[vx,vy,vz]},vx,vy,vz,rfl,?_,rfl,rfl,qx.mono le,qy.mono le,qz.mono le⟩;show(if _ then _ else _)=_
 rw [aG rfl]
theorem bJ {l u st:Option Expr} {p:Pos} {x y z:AV} (h1:Pt C k sc ms Z l x ai ae) (h2:Pt C k sc ai ae u y aZ aN) (h3:Pt C k sc aZ aN st z aK aB):Ev C k sc ms Z (.Slice l u st p) (.Az x y z) aK aB:=by intro A W env s hr H;refine(?_:wpAny C.M A (eval (.Slice l u st p) env) _ _ _);rw [arm_eval_Slice];refine cR (t:=valueOrNone (evalOpt l env)) (h1 A W env s hr H) λaR OO aI aA aO p9=>ak (cA (bf (t:=valueOrNone (evalOpt u env)) (h2 A aR env aI hr aO) λbh OP aT ax aF M6=> ?_));refine ak (cA (bf (t:=valueOrNone (evalOpt st env)) (h3 A bh env aT hr aF) λbS OQ bt bg br D4=> ?_));have as:=a8 br.fr;exact Op.in rfl (Ck (((p9.mono ax).mono bg).mono as) ((M6.mono bg).mono as) (D4.mono as)) hr br λnD r jf eW gv q tk v=>bw (((aA.trans ax).trans bg).trans eW) gv (tk q)
inductive fA:AV->Option Int->Prop
 | none:fA .none none
 | int (i:Int):fA (.int i) (some i)
theorem fA.part (h:fA x o) (q:aw W x v): ∃p:Option (Int×Tok),v=partValue p/\p.map (·.1)=o:=by
 cases h with
 | none=>subst q;exact i12 Option.none rfl rfl
 | int i=>refine e9 q λt=>?_;exact i12 (some (i,t)) rfl rfl
theorem E5 (ha:fA a l) (hb:fA b u) (hz:x.length<=sizeLine):di C k Z getItem (.str x) (.Az a b .none) (λW r=>aw W (.str (Txt.slice x l u)) r) Z:=by intro W ra rb qa qb;refine e9 qa λt=>?_;refine Ei qb λb' o vx vy vz v=>?_;clear qb;subst v;intro f z1 w;refine ku w λz2 k1 k2 k3=>?_;refine c12 (ha.part k1) λpl z=>?_;subst z;intro e1;refine c12 (hb.part k2) λpu q=>?_;subst q;intro e2;subst k3;refine Op.look λA s Q hr I hq=> ?_;refine wpAny_getItem_str_slice (l:=pl) (u:=pu) (st:=none) ⟨o,I.frozen f (by rw [z1];decide),z1,z2⟩ rfl ?_;subst e1;subst e2;exact post_val_or_str ⟨bU (Txt.slice_le x _ _) hz,λt' k=>hq _ _ bN⟩
theorem GY (hr:fitsSsize i=true) (hin:(Txt.charAt x i).isSome=true) (hy:Txt.item x i=y):di C k Z getItem (.str x) (.int i) (λW r=>aw W (.str y) r) Z:=by subst hy;exact(Dh (R:=λr=> ∃t,r= .str (Txt.item x i) t) λA s Q t u hrm h=>SB.getItem hr hin (h _ _ ⟨_,rfl⟩)).to λW r q=>cG q λt e=>e▸bN
theorem eI {Q:Flow->Pos->Shared->Prop} {E:Value->Pos->Shared->Prop}: ∀{p:Pos} {s:Shared},
  Sem.wp M Γ (execs (xs++ys) env) Q E p s->Sem.wp M Γ (execs xs env) (λf p' s'=>Sem.wp M Γ (match f with | .next=>execs ys env | f=>pure f) Q E p' s') E p s:=by
 induction xs with
 | nil=>intro p s h;exact h
 | cons x xs ih=>
  intro p s h;rw [List.cons_append,execs_cons,uJ]at h;rw [execs_cons,uJ];refine Sem.wp_mono M Γ _ (λf p' s' h'=> ?_) (λu v w h'=>h') _ _ h;cases f with
  | next=>exact ih h'
  | _=>exact h'
theorem Gs (h1:Tv C k sc ms Z test b ai ae) (h2:Ex C k sc ai ae ((if b then x else y)++rest) f aK aB):Ex C k sc ms Z (.If test x y pos::rest) f aK aB:=by
 intro A W env s hr H;have key:wpAny C.M A (isTrue test env (eval test env)) (λb aI=>wpAny C.M A (execs ((if b then x else y)++rest) env) (ie C sc A W env aK aB λW r=>bR W f r) No aI) No s:=by refine bf (h1 A W env s hr H) λaR rb aI aA aO qb=> ?_;subst qb;exact bf (h2 A aR env aI hr aO) λbh r aT ax aF q=>bw (aA.trans ax) aF q
 refine(?_:wpAny C.M A (execs (.If test x y pos::rest) env) _ _ _);intro Γ p D0;rw [execs_cons,uJ,exec_If];simp only [uJ,Sem.wp_cmd_standAt];refine Sem.wp_mono C.M Γ _ (λb IU aT jC=> ?_) (λu v w h'=>h') _ _ (key Γ _ D0);have jC:=jC Γ IU D0;cases b
 ·exact eI jC
 ·exact eI jC
theorem yX (hv:v.In λl=>(Z l).isSome=true):Exit Z Z (.ret v) v Z:=⟨λu w e=>e,λu e=>e,λu w e=> .inl e,.inl ⟨rfl,hv⟩⟩
theorem wc {α:Type} {P:α->Prop}: ∀x∈([]:List α),P x:=λu h=>nomatch h
theorem vd {α:Type} {P:α->Prop} {a:α} {l:List α} (h:P a) (r: ∀x∈l,P x): ∀x∈a::l,P x:=λx hx=>by
 refine aP (cI.mp hx) (λq=>?_) λhx=>?_
 ·subst q;exact h
 ·exact r x hx
theorem all1 {α:Type} {P:α->Prop} {a:α} (h:P a): ∀x∈ [a],P x:=vd h wc
theorem all2 {α:Type} {P:α->Prop} {a b:α} (h:P a) (g:P b): ∀x∈ [a,b],P x:=vd h (all1 g)
theorem len0 {α:Type} {P:List α->Prop} (h:P []): ∀l:List α,l.length=0->P l:=λl e=>by rw [List.length_eq_zero_iff.mp e];exact h
theorem Bk {α:Type} {P:List α->Prop} (h: ∀a (l:List α),l.length=n->P (a::l)): ∀l:List α,l.length=n+1->P l:=λl e=>by
 cases l with
 | nil=>cases e
 | cons a l=>exact h a l (Nat.succ.inj e)
theorem gA {α:Type} {P:List α->Prop} (h: ∀a,P [a]): ∀l:List α,l.length=1->P l:=Bk λa=>len0 (h a)
theorem zN {α:Type} {P:List α->Prop} (h: ∀a b,P [a,b]): ∀l:List α,l.length=2->P l:=Bk λa=>gA (h a)
theorem FH {α:Type} {P:List α->Prop} (h: ∀a b c,P [a,b,c]): ∀l:List α,l.length=3->P l:=Bk λa=>zN (h a)
theorem kS {α:Type} {P:List α->Prop} (h: ∀a b c d,P [a,b,c,d]): ∀l:List α,l.length=4->P l:=Bk λa=>FH (h a)
noncomputable def Facts (sc:Scope):List (Str×NameKind)->Nat->Prop
 | [],_=>True
 | p::r,i=>sc.names[i]? =some p/\Facts sc r (i+1)
theorem xc: ∀{l:List (Str×NameKind)} {i:Nat},sc.names.drop i=l->Facts sc l i:=by
 intro aH;induction aH with
 | nil=>intro u v;exact trivial
 | cons p r ih=>
  intro i h;have e:sc.names[i]? =some p:=by
   have:(sc.names.drop i)[0]? =some p:=by rw [h];rfl
   simpa using this
  refine⟨e,ih ?_⟩;have:(sc.names.drop i).drop 1=r:=by rw [h];rfl
  rwa [List.drop_drop]at this
theorem px (h:sc.names=l):Facts sc l 0:=xc (by rw [h];rfl)
theorem lP (O:C.Ok) (hF:Fn C fa fd body) (names:List (Str×NameKind)) (hsc:fd.scope.names=names) (bs:List (Str×AV)) (ae:St)
  (hb:Bd C k fd Z as kw bs ae) (h1:(names.take bs.length).map (·.1)=bs.map (·.1)) (h2:((names.take bs.length).all λp=>p.2== .local || p.2== .cell)=true)
  (h: ∀sc,Facts sc names 0-> ∀n,(∀l:Loc,n<=l.tag->Z l=none)-> ∃f aK cP,Ex C k sc (bs.map (λp=>some p.2)++List.replicate (names.length - bs.length) none) ae body f aK cP/\Exit Z cP f v aB):Ca C (k+1) Z (.ext fa) as kw v aB:=by
 refine Hq O hF λn hn=>sL (h fd.scope (px hsc) n hn) λf aK cP h3 h4=>?_;refine⟨bs,ae,f,aK,cP,hb,by rw [hsc];exact h1,λp hp=> ?_,?_,h4⟩
 ·rw [hsc]at hp;have:=pM.mp h2 p hp;simpa using this
 ·delta sa;rw [hsc];exact h3
theorem ag (hi:sc.names[i]? =some (x,NameKind.local)) (hm:ms.set i (some v)=aK):As C k sc ms Z (.Name x pos) v aK Z:=hm▸By hi
theorem dm (hi:sc.names[i]? =some (x,NameKind.cell)) (hm:ms.set i (some v)=aK):As C k sc ms Z (.Name x pos) v aK Z:=hm▸EL hi
theorem lF (h:(a==b)=c):di C k Z (compareOp .Eq) (.int a) (.int b) (λW r=>aw W (.bool c) r) Z:=h▸MG
theorem GI (h:(a !=b)=c):di C k Z (compareOp .NotEq) (.int a) (.int b) (λW r=>aw W (.bool c) r) Z:=h▸MH
theorem GG (h:decide (a<b)=c):di C k Z (compareOp .Lt) (.int a) (.int b) (λW r=>aw W (.bool c) r) Z:=h▸Ig
theorem CN (h:decide (a>b)=c):di C k Z (compareOp .Gt) (.int a) (.int b) (λW r=>aw W (.bool c) r) Z:=h▸Ly
theorem cY (h:(a !=0)=c):ib C k Z truthy (.int a) (λu r=>r=c) Z:=h▸G3
noncomputable def B (x:Str) (n:Nat):Prop:=x.length<=n
theorem f9 (h1:B x a) (h2:B y b):B (x++y) (a+b):=by delta B at *;rw [size_cat];omega
theorem iY (h:x.length=n):B x n:=Nat.le_of_eq h
theorem yo (h1:B x a):B (Txt.slice x l u) a:=bU (Txt.slice_le x _ _) h1
theorem Ki {x:Str}: ∀{n:Nat} {acc:Array Nat},((List.replicate n x.cps).foldl (· ++ ·) acc).size=acc.size+n * x.length:=by
 intro aH;induction aH with
 | zero=>
  intro acc;exact by simp
 | succ n ih=>intro acc;rw [List.replicate_succ,cX,ih,BQ,Nat.succ_mul];refine(?_:acc.size+x.length+_=_);omega
theorem KW (h1:B x a) (hm:m<=1000):B (Txt.mul x m) (1000 * a):=by
 delta B at *;delta Txt.mul;split
 ·exact dW _
 ·split
  ·omega
  ·refine(?_:((List.replicate m.toNat x.cps).foldl (· ++ ·) #[]).size<=_);rw [Ki];have:m.toNat * x.length<=1000 * a:=xe (by omega) h1;simpa using this
theorem dB (h1:B x a) (h2:B y b) (h3:decide (a+b<=16777216)=true):di C k Z (binaryOp .Add) (.str x) (.str y) (λW r=>aw W (.str (x++y)) r) Z:=
 kI (by have:=jx h3;delta B at *;rw [jr];omega)
theorem nH (h1:B x a) (h2:B y b) (h3:decide (a+b<=16777216)=true):di C k Z (inplaceOp .Add) (.str x) (.str y) (λW r=>aw W (.str (x++y)) r) Z:=
 Hl (by have:=jx h3;delta B at *;rw [jr];omega)
theorem BA (h1:B x a) (h2:decide (a<=1000)=true) (hn:n<=1000) (h0: -1000<=n):di C k Z (binaryOp .Mult) (.str x) (.int n) (λW r=>aw W (.str (Txt.mul x n)) r) Z:=
 Gn hn h0 (bU h1 (jx h2))
theorem cH (ha:fA a l) (hb:fA b u) (h1:B x n) (h3:decide (n<=16777216)=true):di C k Z getItem (.str x) (.Az a b .none) (λW r=>aw W (.str (Txt.slice x l u)) r) Z:=
 E5 ha hb (bU h1 (jr▸jx h3))
theorem c7 (h1:B x n) (h3:decide (n<=16777216)=true) (hc:((x.length:Int) !=0)=c):ib C k Z truthy (.str x) (λu r=>r=c) Z:=
 s_true (bU h1 (jr▸jx h3)) hc
theorem bQ (h: ∀df:List Value,df.length=as.length->bindArgs fd ⟨df,[]⟩=pure ((bs.map (·.1)).zip df)) (hb:bs.map (·.2)=as):Bd C k fd Z as [] bs Z:=by refine yq λW df fq ha hk=> ?_;subst hk;refine i12 _ (h df ha.length) (iU (by rw [hb];exact ha))
end
end V
end
section
namespace V
open Builtin
noncomputable def Hd (A:Around) (h:Heap):Prop:=A.handled=none\/ ∃e o vs,A.handled=some (.ref e)/\h.get? e=some o/\o.data= .fields vs/\vs[2]? =some .none
section
variable {prog:Program} {w:World} {A:Around} {E:Value->Shared->Prop} {s:Shared}
theorem pN:entryFor table "proto.unchain"=some Builtin.«proto.unchain» :=by first | exact entryFor_of_fast (by kernel_rfl) | exact entryFor_of_tree (by kernel_rfl)
theorem pK {id:String} {args:Args} {b:Builtin} {R:Result->Shared->Prop} (hb:entryFor table id=some b)
  (h:wpAny (model prog w) (A.under (.builtin id args)) (b args) (λfin s'=>match fin with | .done f=>R (.ok f) s' | .again c'=>c'.quiet=true/\codeAny (model prog w) A c' R s') (λe s'=>R (.error e) s') s):
  codeAny (model prog w) A (.builtin id args) R s:=by
 refine mA ?_;refine(?_:wpAny _ _ (match entryFor table id with | some b=>b args | none=>unsupported ((withoutEnding? id "#data").getD id)) _ _ _);rw [hb];exact h
theorem t7 {α:Type} {Q:α->Shared->Prop} (hd:Hd A s.heap)
  (h: ∀h' a,(∀b o,s.heap.get? b=some o->h'.get? b=some o)->(∃o,h'.get? a=some o/\o.cls= .type "StopIteration")->E (.ref a) {s with heap:=h'}):
  wpAny (model prog w) A (newExc (.type "StopIteration") []>>=λe=>(raiseNew e:Sem α)) Q E s:=by
 refine ak ?_;refine ak (nU ?_ (by size_fits));refine ak (m:=firstArgMember _ _) (eL (a:=Value.none) (by first | rfl | (simp only [firstArgMember];rfl)) ?_);refine nU ?_ (by size_fits);refine ak (wpAny_handled ?_);have ks: ∀b o,s.heap.get? b=some o->((s.heap.push {cls:= .type "tuple",data:= .seq [].toArray}).push {cls:= .type "StopIteration",data:= .fields (#[Value.ref s.heap.objs.size,.none,.none,.none,.bool false,Value.none]++ownMembersOf (.type "StopIteration") [])}).get? b=some o:=λb o z=>mn _ (mn _ z);have g:=dZ (s.heap.push {cls:= .type "tuple",data:= .seq [].toArray}) (o:={cls:= .type "StopIteration",data:= .fields (#[Value.ref s.heap.objs.size,.none,.none,.none,.bool false,Value.none]++ownMembersOf (.type "StopIteration") [])}) rfl;refine aP hd (λhd=>?_) λu=>AD u λe o vs hd he hdt h2=>?_
 ·rw [hd];exact ak (aQ (wpAny_throw (h _ _ ks ⟨_,g,rfl⟩)))
 ·rw [hd];have ne:e≠(s.heap.push {cls:= .type "tuple",data:= .seq [].toArray}).objs.size:=λz=>by have:=il (mn {cls:= .type "tuple",data:= .seq [].toArray} he);rw [<-z]at this;exact absurd this (iM _)
  dsimp only;rw [aG (by simpa using ne)];refine ak (cA (wpAny_runValue (pK pN ?_)));refine ak (iL (ks _ _ he) hdt h2 ?_);rw [aG (show(Value.none==Value.none)=true by decide)];refine aQ ?_;refine ak ?_;refine td g rfl (by rw [BQ];exact rO (show 2<6 by decide) (gO 6 _)) (wpAny_throw (h _ _ (λb o z=> ?_) ⟨_,jw _ g rfl,rfl⟩));rw [m8 _ _ λq=>by rw [<-q]at z;exact absurd (il z) (by simp [Heap.push])];exact ks b o z
theorem mJ {T id:String} {b:Builtin} {Q:Option Value->Shared->Prop} (hT:s.TypeIs (.ref it) T) (hs:Slot T "__next__" id) (he:entryFor table id=some b) (ha:argsOk id ⟨[.ref it],[]⟩)
  (h:wpAny (model prog w) A.in1 (b ⟨[.ref it],[]⟩) (λu v=>False) (λe s'=> ∃a o,e= .ref a/\s'.heap.get? a=some o/\o.cls= .type "StopIteration"/\Q none s') s):wpAny (model prog w) A (pyNext (.ref it)) Q E s:=by
 delta pyNext;refine ak (wpAny_attempt (Fw (name:=Str.ofString "__next__") hT hs (z0 hs hT he (bF h (λu v x=>x.elim) λe s' hh=> ?_) ha)));refine tM hh λa o z=>?_;subst z;intro g c q;exact ak (wpAny_isInstance (T:="StopIteration") (b:=true) ⟨o,g,c⟩ isSubtype_stop (aQ q))
theorem yH {Q:Fin->Shared->Prop} (hd:Hd A s.heap)
  (hit:s.heap.IsListIter it l i) (hl:s.heap.IsList l items) (hx:items[i]? =none) (hdo: ∀e o vs,A.handled=some (.ref e)->s.heap.get? e=some o->o.data= .fields vs->vs[2]? =some .none->e≠it)
  (hE: ∀h' a,(∀b o,b≠it->s.heap.get? b=some o->h'.get? b=some o)->(∃o,h'.get? a=some o/\o.cls= .type "StopIteration")->E (.ref a) {s with heap:=h'}):
  wpAny (model prog w) A (Builtin.«list_iterator.__next__» ⟨[.ref it],[]⟩) Q E s:=by
 refine fP (id hit) λo ho hc hdt=>?_;obtain⟨ol,hol,_,nl,hdl⟩:=hl;refine(?_:wpAny _ _ (field (.ref it) 0>>=_) _ _ s);refine ak (iL ho hdt (x:= .ref l) rfl ?_);refine(?_:wpAny _ _ (if(Value.ref l==Value.none)=true then _ else _) _ _ s);rw [az (show¬((Value.ref l==Value.none)=true)from dN)];refine(?_:wpAny _ _ (field (.ref it) 1>>=_) _ _ s);refine ak (iL ho hdt (x:= .int i 0) rfl ?_);refine ak (ur hol hdl ?_);simp only [vH,hx];refine ak (rG (ak (td ho hdt (by exact gO _ _) ?_)));have other: ∀b ob,b≠it->s.heap.get? b=some ob->(s.heap.update it (Obj.mapFields (·.setIfInBounds 0 .none))).get? b=some ob:=λb ob nb z=>by rw [m8 _ _ (f7 nb)];exact z
 exact t7 (hd.elim .inl λu=>AD u λe oe vs h1 h2 h3 h4=>.inr ⟨e,oe,vs,h1,other _ _ (hdo e oe vs h1 h2 h3 h4) h2,h3,h4⟩) λh' a k q=>hE _ _ (λb ob nb z=>k _ _ (other b ob nb z)) q
theorem uw {Q:Option Value->Shared->Prop} (hd:Hd A s.heap)
  (hit:s.heap.IsListIter it l i) (hl:s.heap.IsList l items) (hx:items[i]? =none) (hdo: ∀e o vs,A.handled=some (.ref e)->s.heap.get? e=some o->o.data= .fields vs->vs[2]? =some .none->e≠it)
  (hQ: ∀h',(∀b o,b≠it->s.heap.get? b=some o->h'.get? b=some o)->Q none {s with heap:=h'}):wpAny (model prog w) A (pyNext (.ref it)) Q E s:=
 mJ hit.typeIs Cc entry_listiter_next (args_listiter_next _) (yH (A:=A.in1) hd hit hl hx hdo λh' a k q=>(by refine c12 q λoa g c=>?_;clear q;exact⟨a,oa,rfl,g,c,hQ _ k⟩))
theorem mR {Q:Value->Shared->Prop} (hd:Hd A s.heap)
  (hit:s.heap.IsListIter it l i) (hl:s.heap.IsList l items) (hx:items[i]? =none) (hdo: ∀e o vs,A.handled=some (.ref e)->s.heap.get? e=some o->o.data= .fields vs->vs[2]? =some .none->e≠it)
  (hE: ∀h' a,(∀b o,b≠it->s.heap.get? b=some o->h'.get? b=some o)->(∃o,h'.get? a=some o/\o.cls= .type "StopIteration")->E (.ref a) {s with heap:=h'}):
  wpAny (model prog w) A (Builtin.SmallTypes.nextOf (.ref it)) Q E s:=by
 delta Builtin.SmallTypes.nextOf;exact ak (Fw (name:=Str.ofString "__next__") hit.typeIs Cc (z0 Cc hit.typeIs entry_listiter_next (yH (A:=A.in1) hd hit hl hx hdo hE) (args_listiter_next _)))
theorem Ay {it:Addr} {x left step:Int} {Q:Option Value->Shared->Prop} (hd:Hd A s.heap) (hit:IsRangeIter s.heap it x left step) (hleft:left<=0)
  (hQ: ∀h',(∀b o,s.heap.get? b=some o->h'.get? b=some o)->Q none {s with heap:=h'}):wpAny (model prog w) A (pyNext (.ref it)) Q E s:=by
 have hT:s.TypeIs (.ref it) "range_iterator":=⟨_,hit,rfl⟩;refine mJ hT F.slot_range_iterator_next F.entry_range_iterator_next (F.args_range_iterator_next_1 _) ?_;refine(?_:wpAny _ _ (field (.ref it) 0>>=_) _ _ s);refine ak (iL hit rfl (x:=rawInt x) rfl ?_);refine ak (iL hit rfl (x:=rawInt left) rfl ?_);refine ak (iL hit rfl (x:=rawInt step) rfl ?_);refine(?_:wpAny _ _ (if left<=0 then _ else _) _ _ s);rw [aG hleft];refine ak (rG ?_);refine ak ?_;exact t7 (A:=A.in1) hd λh' a k q=>(by refine c12 q λoa g c=>?_;clear q;exact⟨a,oa,rfl,g,c,hQ _ k⟩)
theorem qM {C:Cx} (h:C.hx=none):C.hx≠some 0:=by rw [h];exact λz=>by exact dC z
end
section
variable {C:Cx} {k:Nat} {A:Around} {W:Wd} {Z:St} {s:Shared}
theorem bY.hd (hr:bY C A k) (h0:C.hx≠some 0) (I:Inv C W Z s):Hd A s.heap/\ ∀e o vs,A.handled=some (.ref e)->s.heap.get? e=some o->o.data= .fields vs->vs[2]? =some .none->W.fz e≠Option.none:=by
 refine aP (hr.2.2.2 h0) (λh=>?_) λu=>AD u λe o vs h1 h2 h3 h4=>?_
 ·exact⟨.inl h,λe o vs z=>by rw [h]at z;exact dC z⟩
 ·refine⟨.inr ⟨e,o,vs,h1,I.kept _ _ h2,h3,h4⟩,λe' v w z g m y q=> ?_⟩;rw [h1]at z
  injection z with z
  injection z with z
  subst z;rw [I.base _ _ h2]at q;exact rZ q
end
end V
end
section
namespace V
open Builtin Builtin.Str
section
variable {C:Cx} {k:Nat} {sc:Scope} {A:Around} {W:Wd} {env:Env} {ms ai aZ b6 aK:List (Option AV)} {Z ae aN bX aB:St} {s:Shared}
theorem d9 {E:Value->Shared->Prop} {Q:Unit->Shared->Prop} (g:s.heap.get? it=some ob) (c:ob.cls= .type n) (d:ob.data= .fields vs)
  (hn:(["enumerate","zip","dict_itemiterator","dict_reverseitemiterator","odict_iterator","itertools.zip_longest","itertools.pairwise"]:List String).contains n=false) (h:Q () s):wpAny M A (letOwnedTupleGo tgt (.ref it) rx) Q E s:=by
 cases tgt<;>first
  | exact aQ h
  | (cases rx<;>first
    | exact aQ h
    | (refine ak (wpAny_load g ?_);rw [c,d];simp only [hn,Bool.false_and];exact aQ h))
noncomputable def Jt (i:Nat) (rs:Value) (ob:Obj):Prop:= ∃la,rs= .ref la/\ob.cls= .type "list_iterator"/\ob.data= .fields #[.ref la,.int i 0]
theorem Jt.is (h:Jt i (.ref la) ob) (g:s.heap.get? it=some ob):s.heap.IsListIter it la i:=by refine fP h λD5 e c d=>?_;clear h;cases e;exact vO ob g c d
theorem aw.isList (q:aw W (.lst xs) rv) (I:Inv C W Z s): ∃la vs,rv= .ref la/\s.heap.IsList la (List.toArray vs)/\aU W xs vs:=by refine Kx q λa o vs n f z1 z2 ks=>?_;exact jE a vs rfl ⟨o,I.frozen f (by rw [z1];decide),z1,n,by rw [z2]⟩ ks
theorem DO (h0:C.hx≠some 0:=by kln_le):sU C k (λp=>True) (.lst xs) xs (.lst xs) Jt where
 jk:=λi rv ob m=>(by refine fP m λla _ c _=>?_;clear m;exact⟨λn z=>by rw [c]at z;cases z;decide,by rw [c];decide⟩)
 start:=λW Z rv A s outer p hr hA hS I q=>by refine fu (q.isList I) λla vs t=>?_;subst t;intro hl ks;refine wpAny_pyIter_list hl ⟨W,s.heap.objs.size,{cls:= .type "list_iterator",data:= .fields #[.ref la,.int 0 0]},.ref la,.refl W,I.same (a9 _ _),rfl,dZ _ rfl,I.cz,q,⟨la,rfl,rfl,rfl⟩⟩
 self:=λi rs ob it A s E Q g h hq=>by refine fP h λla y=>?_;clear h;subst y;intro c d;exact wpAny_pyIter_listiter (i:=i) ⟨ob,g,c,d⟩ hq
 next:=λi x W Z rs ob it A s outer hx p hr hA hS I g hf q h=>by refine fu (q.isList I) λla vs w=>?_;subst w;intro hl ks;refine c12 (ks.get hx) λv hv qv=>wpAny_pyNext_list_item (h.is g) hl (by simpa using hv) λh' hi hs'=> ?_;refine fP hi λob' g' c' d'=>?_;clear hi;exact⟨W,v,ob',.refl W,I.but hf.1 hf.2 λb o nb e=>(hs'.2 b nb).trans e,rfl,qv,g',hf,⟨la,rfl,c',d'⟩⟩
 stop:=λW Z rs ob it A s outer p hr hA hS I g hf q h=>by refine fu (q.isList I) λla vs u=>?_;subst u;intro hl ks;refine bG (hr.hd h0 I) λhd hn=>uw hd (h.is g) hl (by simp [ks.length]) (λe o vs a b c d q=>hn e o vs a b c d (q▸hf.1)) λh' hs'=>⟨W,.refl W,I.but hf.1 hf.2 λb o nb e=>hs' b o nb e,rfl⟩
 hV:=λi W Z rs rx ob it A s tgt I g hf r=>fP r λla e c d=>d9 g c d (by decide) ⟨ob,I,g,⟨la,e,c,d⟩,λp l j z=>z⟩
theorem dF (h0:C.hx≠some 0:=by kln_le):ui C k (λu=>True) (.lst xs) xs (.lst xs) (GD Jt) tgt:=(DO h0).G8
inductive IsL (Z:St):AV->List AV->Prop
 | lst (xs:List AV):IsL Z (.lst xs) xs
 | loc {l:Loc} {xs:List AV} (h:Z l=some (.list xs)):IsL Z (.loc l) xs
theorem IsL.is (h:IsL Z v xs) (q:aw W v rv) (I:Inv C W Z s): ∃la vs n,rv= .ref la/\s.heap.get? la=some {cls:= .type "list",data:= .seq (List.toArray vs) n}/\aU W xs vs:=by
 cases h with
 | lst=>refine wj q λa o vs n u=>?_;clear q;subst u;intro f z1 w;subst w;intro ks;exact zt a vs n rfl (I.frozen f (by rw [z1];decide)) ks
 | loc h=>refine uU q λa e=>?_;obtain⟨ob,h1,c1,vs,n,rfl,c3⟩:=I.obj _ a _ e h;exact zt a vs n rfl h1 c3
theorem IsL.list (h:IsL Z v xs) (q:aw W v rv) (I:Inv C W Z s): ∃la vs,rv= .ref la/\s.heap.IsList la (List.toArray vs)/\aU W xs vs:=by refine lU (h.is q I) λla vs n e h1 ks=>jE la vs e ⟨_,h1,rfl,n,rfl⟩ ks
theorem zo (h0:C.hx≠some 0:=by kln_le):sU C k (λZ=>IsL Z v xs) v xs v Jt where
 jk:=λi rv ob m=>(by refine fP m λla _ c _=>?_;clear m;exact⟨λn z=>by rw [c]at z;cases z;decide,by rw [c];decide⟩)
 start:=λW Z rv A s outer ok hr hA hS I q=>by refine fu (ok.list q I) λla vs t=>?_;subst t;intro hl ks;refine wpAny_pyIter_list hl ⟨W,s.heap.objs.size,{cls:= .type "list_iterator",data:= .fields #[.ref la,.int 0 0]},.ref la,.refl W,I.same (a9 _ _),rfl,dZ _ rfl,I.cz,q,⟨la,rfl,rfl,rfl⟩⟩
 self:=λi rs ob it A s E Q g h hq=>by refine fP h λla y=>?_;clear h;subst y;intro c d;exact wpAny_pyIter_listiter (i:=i) ⟨ob,g,c,d⟩ hq
 next:=λi x W Z rs ob it A s outer hx ok hr hA hS I g hf q h=>by refine fu (ok.list q I) λla vs w=>?_;subst w;intro hl ks;refine c12 (ks.get hx) λv hv qv=>wpAny_pyNext_list_item (h.is g) hl (by simpa using hv) λh' hi hs'=> ?_;refine fP hi λob' g' c' d'=>?_;clear hi;exact⟨W,v,ob',.refl W,I.but hf.1 hf.2 λb o nb e=>(hs'.2 b nb).trans e,rfl,qv,g',hf,⟨la,rfl,c',d'⟩⟩
 stop:=λW Z rs ob it A s outer ok hr hA hS I g hf q h=>by refine fu (ok.list q I) λla vs u=>?_;subst u;intro hl ks;refine bG (hr.hd h0 I) λhd hn=>uw hd (h.is g) hl (by simp [ks.length]) (λe o vs a b c d q=>hn e o vs a b c d (q▸hf.1)) λh' hs'=>⟨W,.refl W,I.but hf.1 hf.2 λb o nb e=>hs' b o nb e,rfl⟩
 hV:=λi W Z rs rx ob it A s tgt I g hf r=>fP r λla e c d=>d9 g c d (by decide) ⟨ob,I,g,⟨la,e,c,d⟩,λp l j z=>z⟩
theorem i9 (h0:C.hx≠some 0:=by kln_le):ui C k (λZ=>IsL Z v xs) v xs v (GD Jt) tgt:=(zo h0).G8
theorem aw.isTup (q:aw W (.tup xs) rv) (I:Inv C W Z s): ∃la vs n,rv= .ref la/\s.heap.get? la=some {cls:= .type "tuple",data:= .seq (List.toArray vs) n}/\aU W xs vs:=by refine wj q λa o vs n z=>?_;clear q;subst z;intro f z1 u;subst u;intro ks;exact zt a vs n rfl (I.frozen f (by rw [z1];decide)) ks
noncomputable def Mf (i:Nat) (rs:Value) (ob:Obj):Prop:= ∃la,rs= .ref la/\ob.cls= .type "tuple_iterator"/\ob.data= .fields #[.ref la,.int i 0]
theorem Mf.is (h:Mf i (.ref la) ob) (g:s.heap.get? it=some ob):s.heap.IsTupleIter it la i:=by refine fP h λD5 e c d=>?_;clear h;cases e;exact vO ob g c d
theorem Cn (h0:C.hx=none:=by assumption):sU C k (λp=>True) (.tup xs) xs (.tup xs) Mf where
 jk:=λi rv ob m=>(by refine fP m λla _ c _=>?_;clear m;exact⟨λn z=>by rw [c]at z;cases z;decide,by rw [c];decide⟩)
 start:=λW Z rv A s outer p hr hA hS I q=>by refine lU (q.isTup I) λla vs n t=>?_;subst t;intro hl ks;refine wpAny_pyIter_tuple ⟨_,hl,rfl,n,rfl⟩ ⟨W,s.heap.objs.size,{cls:= .type "tuple_iterator",data:= .fields #[.ref la,.int 0 0]},.ref la,.refl W,I.same (a9 _ _),rfl,dZ _ rfl,I.cz,q,⟨la,rfl,rfl,rfl⟩⟩
 self:=λi rs ob it A s E Q g h hq=>by refine fP h λla y=>?_;clear h;subst y;intro c d;exact wpAny_pyIter_tupleiter (i:=i) ⟨ob,g,c,d⟩ hq
 next:=λi x W Z rs ob it A s outer hx p hr hA hS I g hf q h=>by refine lU (q.isTup I) λla vs n w=>?_;subst w;intro hl ks;refine c12 (ks.get hx) λv hv qv=>wpAny_pyNext_tuple_item (h.is g) ⟨_,hl,rfl,n,rfl⟩ (by simpa using hv) λh' hi hs'=> ?_;refine fP hi λob' g' c' d'=>?_;clear hi;exact⟨W,v,ob',.refl W,I.but hf.1 hf.2 λb o nb e=>(hs'.2 b nb).trans e,rfl,qv,g',hf,⟨la,rfl,c',d'⟩⟩
 stop:=λW Z rs ob it A s outer p hr hA hS I g hf q h=>by refine lU (q.isTup I) λla vs n u=>?_;subst u;intro hl ks;refine wpAny_pyNext_tuple_end (hr.none h0) (h.is g) ⟨_,hl,rfl,n,rfl⟩ (by simp [ks.length]) λh' hs'=>⟨W,.refl W,I.but hf.1 hf.2 λb o nb e=>hs' b o nb e,rfl⟩
 hV:=λi W Z rs rx ob it A s tgt I g hf r=>fP r λla e c d=>d9 g c d (by decide) ⟨ob,I,g,⟨la,e,c,d⟩,λp l j z=>z⟩
theorem iA (h0:C.hx=none:=by assumption):ui C k (λu=>True) (.tup xs) xs (.tup xs) (GD Mf) tgt:=(Cn h0).G8
noncomputable def sM (a b:Int):List AV:=(List.range (b - a).toNat).map λ(i:Nat)=>AV.int (a+i)
theorem AP {a b:Int} {i:Nat} {x:AV} (h:(sM a b)[i]? =some x):x= .int (a+i)/\(i:Int)<b - a:=by
 delta sM at h;rw [gq]at h;cases q:(List.range (b - a).toNat)[i]? with
 | none=>rw [q]at h;exact dC h
 | some j=>rw [q]at h;have hi:i<(List.range (b - a).toNat).length:=(lI.mp q).1;rw [Cz]at hi;rw [List.getElem?_range hi]at q;cases q;cases h;exact⟨rfl,by omega⟩
theorem A5:(sM a b).length=(b - a).toNat:=by delta sM;simp
noncomputable def Gl (a b:Int) (i:Nat) (rs:Value) (ob:Obj):Prop:=ob={cls:= .type "range_iterator",dict:=none,data:= .fields #[rawInt (a+i),rawInt (b - a - i),rawInt 1],slots:= #[]}
theorem Cp (h0: -1000000<=a) (h1:b<=1000000) (hab:a<=b):Builtin.Range.small a b 1=true:=by
 delta Builtin.Range.small Builtin.Range.rangeFitsLong;rw [rangeSize_one];have e:(if a<b then b - a else 0)=b - a:=by split<;>omega
 rw [e];simp only [mI,Bool.or_eq_true];refine⟨⟨⟨⟨?_,?_⟩,?_⟩,?_⟩,.inr ?_⟩<;>simp<;>omega
theorem wg {a b:Int} (h0: -1000000<=a) (h1:b<=1000000) (hab:a<=b) (hx0:C.hx≠some 0:=by kln_le):sU C k (λu1=>True) (.fld "range" [.int a,.int b,.int 1]) (sM a b) .none (Gl a b) where
 jk:=λi rv ob e=>⟨λn z=>by rw [e]at z;cases z;decide,by rw [e];intro z;have:=ni z;revert this;decide⟩
 start:=λW Z rv A s outer u1 hr hA hS I q=>by
  obtain⟨c,r,o,vs,rfl,f,rfl,ks⟩:=q;refine AD (uq ks) λv1 v2 v3 j=>?_;subst j;intro q1 q2 q3;refine cG q1 λt p=>?_;clear q1;subst p;refine cG q2 λu m=>?_;clear q2;subst m;refine cG q3 λv y=>?_;clear q3;subst y;refine wpAny_pyIter_range (I.frozen f (by intro z;have:=ni z;revert this;decide)) (Cp h0 h1 hab) ?_;have e:Builtin.Range.rangeSize a b 1=b - a:=by rw [rangeSize_one];split<;>omega
  rw [e];exact⟨W,s.heap.objs.size,{cls:= .type "range_iterator",data:= .fields #[rawInt a,rawInt (b - a),rawInt 1]},.none,.refl W,I.same (a9 _ _),rfl,dZ _ rfl,I.cz,c6,by delta Gl;simp⟩
 self:=λi rs ob it A s E Q g h hq=>by delta Gl at h;subst h;exact wpAny_pyIter_rangeiter g hq
 next:=λi x W Z rs ob it A s outer hx u1 hr hA hS I g hf q h=>by
  refine bG (AP hx) λw=>?_;subst w;intro hi;delta Gl at h;subst h;refine eO (wpAny_pyNext_range_item g (by omega) λh' hi' hs'=>λl=> ?_);refine⟨W,_,_,.refl W,I.but hf.1 hf.2 (λb o nb e=>(hs'.2 b nb).trans e),rfl,b9,hi',hf,?_⟩;delta Gl;have e1:a+(i:Int)+1=a+((i+1:Nat):Int):=by omega
  have e2:b - a - (i:Int) - 1=b - a - ((i+1:Nat):Int):=by omega
  rw [e1,e2]
 stop:=λW Z rs ob it A s outer u1 hr hA hS I g hf q h=>by delta Gl at h;subst h;rw [A5]at g;refine Ay (hr.hd hx0 I).1 g (by omega) λh' hs'=>⟨W,.refl W,I.same hs',rfl⟩
 hV:=λi W Z rs rx ob it A s tgt I g hf h=>by have h':=h;delta Gl at h;exact d9 g (by rw [h]) (by rw [h]) (by decide) ⟨ob,I,g,h',λu1 w1 g1 z=>z⟩
theorem cM (h0: -1000000<=a) (h1:b<=1000000) (hab:a<=b) (hx0:C.hx≠some 0:=by kln_le):ui C k (λu=>True) (.fld "range" [.int a,.int b,.int 1]) (sM a b) .none (GD (Gl a b)) tgt:=(wg h0 h1 hab hx0).G8
theorem cS:Ca C k Z (.ty "range") [.int n] [] (.fld "range" [.int 0,.int n,.int 1]) Z:=by
 intro W rf df fq hf ha hk A s outer hr hA hS I;subst hf;subst hk;refine c12 (dw ha) λr u=>?_;subst u;intro q;refine cG q λt z=>?_;clear q;subst z;refine bG I.cz λn1 n2=>?_;refine call_range_1 ?_;have g:(s.heap.push {cls:= .type "range",data:= .fields #[.int 0 s.toks,.int n t,.int 1 (s.toks+1)]}).get? s.heap.objs.size=some {cls:= .type "range",data:= .fields #[.int 0 s.toks,.int n t,.int 1 (s.toks+1)]}:=dZ _ rfl;refine bG (I.fX (t:=s.toks+1+1) (d:=s.drawn) n1 n2 (a9 _ _) g) λle I'=>?_;refine⟨_,le,I',?_⟩;refine⟨by decide,_,{cls:= .type "range",data:= .fields #[.int 0 s.toks,.int n t,.int 1 (s.toks+1)]},[.int 0 s.toks,.int n t,.int 1 (s.toks+1)],rfl,?_,rfl,.cons b9 (.cons b9 (.cons b9 .nil))⟩;show(if _ then _ else _)=_
 rw [aG rfl]
noncomputable def lets (x:Str):List AV:=x.cps.toList.map λc=>AV.str ⟨#[c]⟩
theorem B7 {x:Str} {i:Nat} {v:AV} (h:(lets x)[i]? =some v): ∃c,x.cps[i]? =some c/\v= .str ⟨#[c]⟩:=by
 delta lets at h;rw [gq]at h;cases q:x.cps.toList[i]? with
 | none=>rw [q]at h;exact dC h
 | some c=>rw [q]at h;cases h;exact i12 c (by simpa using q) rfl
theorem CC:(lets x).length=x.cps.size:=by delta lets;simp
noncomputable def MB (x:Str) (i:Nat) (rs:Value) (ob:Obj):Prop:= ∃t,ob.cls= .type (strIterType x)/\ob.data= .fields #[.str x t,.int i 0]
theorem wh (x:Str):(["tuple","list","method-wrapper","method","slice","range","dict_items","dict_values","dict_keys"]:List String).contains (strIterType x)=false:=by delta strIterType;split<;>decide
theorem wo (x:Str):(["enumerate","zip","dict_itemiterator","dict_reverseitemiterator","odict_iterator","itertools.zip_longest","itertools.pairwise"]:List String).contains (strIterType x)=false:=by delta strIterType;split<;>decide
theorem CA {x:Str} (h0:C.hx=none:=by assumption):sU C k (λ_=>True) (.str x) (lets x) .none (MB x) where
 jk:=λi rv ob r=>(by refine c12 r λt c _=>?_;clear r;exact⟨λn z=>by rw [c]at z;cases z;exact wh x,by rw [c];unfold strIterType;split<;>decide⟩)
 start:=λW Z rv A s outer _ hr hA hS I q=>by
  refine e9 q λt=>?_;cases ha:x.cps.all (· <128)
  ·refine wpAny_pyIter_wide ha ⟨W,s.heap.objs.size,{cls:= .type "str_iterator",data:= .fields #[.str x t,.int 0 0]},.none,.refl W,I.same (a9 _ _),rfl,dZ _ rfl,I.cz,c6,⟨t,?_,rfl⟩⟩;unfold strIterType;rw [ha];rfl
  ·refine wpAny_pyIter_ascii ha ⟨W,s.heap.objs.size,{cls:= .type "str_ascii_iterator",data:= .fields #[.str x t,.int 0 0]},.none,.refl W,I.same (a9 _ _),rfl,dZ _ rfl,I.cz,c6,⟨t,?_,rfl⟩⟩;unfold strIterType;rw [ha];rfl
 self:=λi rs ob it A s E Q g h hq=>by
  refine c12 h λt cl d=>?_;clear h;unfold strIterType at cl;split at cl
  ·exact wpAny_pyIter_striter_ascii (i:=i) ⟨ob,g,cl,d⟩ hq
  ·exact wpAny_pyIter_striter_wide (i:=i) ⟨ob,g,cl,d⟩ hq
 next:=λi v W Z rs ob it A s outer hx _ hr hA hS I g hf q h=>by
  refine uU (B7 hx) λc hc=>?_;refine c12 h λt cl d=>?_;clear h;have key: ∀h',h'.IsStrIter it (strIterType x) x t (i+1)->Heap.SameBut it s.heap h'->E1 C W Z (.str ⟨#[c]⟩) it (λ_=>MB x (i+1) rs) (some (.str ⟨#[c]⟩ s.toks)) {s with heap:=h',toks:=s.toks+1}:=λh' hi hs'=>by refine fP hi λob' g' c' d'=>?_;clear hi;exact⟨W,_,ob',.refl W,I.but hf.1 hf.2 (λb o nb e=>(hs'.2 b nb).trans e),rfl,bN,g',hf,⟨t,c',d'⟩⟩
  unfold strIterType at key cl;split at cl
  ·rename_i ha;rw [aG ha]at key;exact wpAny_pyNext_ascii_item ⟨ob,g,cl,d⟩ hc λh' hi hs'=>key h' hi hs'
  ·rename_i ha;rw [az ha]at key;exact wpAny_pyNext_wide_item ⟨ob,g,cl,d⟩ hc λh' hi hs'=>key h' hi hs'
 stop:=λW Z rs ob it A s outer _ hr hA hS I g hf q h=>by
  refine c12 h λt cl d=>?_;clear h;have hn:x.cps[(lets x).length]? =none:=by rw [CC];simp
  unfold strIterType at cl;split at cl
  ·exact wpAny_pyNext_ascii_end (hr.none h0) ⟨ob,g,cl,d⟩ hn λh' hs'=>⟨W,.refl W,I.but hf.1 hf.2 λb o nb e=>hs' b o nb e,rfl⟩
  ·exact wpAny_pyNext_wide_end (hr.none h0) ⟨ob,g,cl,d⟩ hn λh' hs'=>⟨W,.refl W,I.but hf.1 hf.2 λb o nb e=>hs' b o nb e,rfl⟩
 hV:=λi W Z rs rx ob it A s tgt I g hf y=>c12 y λt c d=>d9 g c d (wo x) ⟨ob,I,g,⟨t,c,d⟩,λ_ _ _ z=>z⟩
theorem Fo (h0:C.hx=none:=by assumption):ui C k (λu=>True) (.str x) (lets x) .none (GD (MB x)) tgt:=(CA h0).G8
theorem bD (h:IsL Z v xs) (h0:0<=i) (h1:i<1000000) (hx:xs[i.toNat]? =some x):di C k Z getItem v (.int i) (λW r=>aw W x r) Z:=by intro W ra rb qa qb;refine e9 qb λt=>Op.look λA s Q hr I hq=>gD (h.list qa I) λla vs hl ks=>c12 (ks.get hx) λy hy qy=>wpAny_getItem_list hl h0 (by omega) (by simpa using hy) (hq _ _ qy)
theorem j8 (h:IsL Z v xs) (h0:i<0) (h1: -(xs.length:Int)<=i) (h2: -1000000<=i) (hx:xs[(i+xs.length).toNat]? =some x):di C k Z getItem v (.int i) (λW r=>aw W x r) Z:=by
 intro W ra rb qa qb;refine e9 qb λt=>Op.look λA s Q hr I hq=>gD (h.list qa I) λla vs hl ks=>c12 (ks.get hx) λy hy qy=>?_;have e:(List.toArray vs).size=xs.length:=by simp [ks.length]
 exact wpAny_getItem_list_neg hl h0 (by rw [e];exact h1) (by omega) (by rw [e];simpa using hy) (hq _ _ qy)
theorem Inv.nM (I:Inv C W Z s) (ks:aU W xs vs) (ht:s.toks<=tk):
  Ek C W Z (λW r=>aw W (.lst xs) r) (.ref s.heap.objs.size) {s with heap:=s.heap.push {cls:= .type "list",data:= .seq (List.toArray vs)},toks:=tk}:=by
 refine bG I.cz λn1 n2=>?_;have g:(s.heap.push {cls:= .type "list",data:= .seq (List.toArray vs)}).get? s.heap.objs.size=some {cls:= .type "list",data:= .seq (List.toArray vs)}:=dZ _ rfl;refine bG (I.fX (t:=tk) (d:=s.drawn) n1 n2 (a9 _ _) g ht) λle I'=>⟨_,le,I',?_⟩;refine v5 _ ({cls:= .type "list",data:= .seq (List.toArray vs)}) vs 0 rfl ?_ rfl rfl (ks.mono le);show(if _ then _ else _)=_
 rw [aG rfl]
theorem mq (f:Array Value->Array Value) (a:Array Value) (n:Nat): ∃n',Obj.mapSeq f {cls:= .type "list",data:= .seq a n}={cls:= .type "list",data:= .seq (f a) n'}:=⟨_,rfl⟩
noncomputable def eS {α:Type} (xs:List α) (lo hi st:Option Int):List α:=
 (sliceRange (sliceBounds lo hi st xs.length).1 (sliceBounds lo hi st xs.length).2.1 (sliceBounds lo hi st xs.length).2.2).filterMap (xs[·]?)
theorem aU.pick (h:aU W xs vs): ∀is:List Nat,aU W (is.filterMap (xs[·]?)) (is.filterMap (vs[·]?)):=by
 intro aH;induction aH with
 | nil=>exact .nil
 | cons i is ih=>
  exact by
   have ih:=ih;cases q:xs[i]? with
   | none=>
    have q':vs[i]? =none:=by rw [o9]at q⊢;rw [h.length];exact q
    rw [lQ,lQ,q,q'];exact ih
   | some x=>refine c12 (h.get q) λv hv qv=>?_;rw [lQ,lQ,q,hv];exact .cons qv ih
theorem fb {lo hi st:Option Int} (h:IsL Z v xs) (ha:fA a lo) (hb:fA b hi) (hc:fA c st) (h0:st≠some 0) (hz:xs.length<=sizeLine) (hy:eS xs lo hi st=ys):di C k Z getItem v (.Az a b c) (λW r=>aw W (.lst ys) r) Z:=by
 subst hy;intro W ra rb qa qb;refine Ei qb λb' o vx vy vz w=>?_;clear qb;subst w;intro f z1 y;refine ku y λz2 k1 k2 k3=>?_;intro A s outer hr hA hS I;refine gD (h.list qa I) λla vs hl ks=>?_;have part: ∀{x:AV} {o:Option Int} {v:Value},fA x o->aw W x v->IsPart v o:=λhp q=>by
  cases hp with
  | none=>subst q;exact .none
  | int i=>refine e9 q λt=>?_;exact .int i t
 have e:(List.toArray vs).size=xs.length:=by simp [ks.length]
 refine wpAny_getItem_list_slice (lo:=lo) (hi:=hi) (st:=st) hl ⟨o,I.frozen f (by rw [z1];decide),z1,z2⟩ (part ha k1) (part hb k2) (part hc k3) h0 ?_ (by rw [e];exact hz);have es:slicePick (List.toArray vs) lo hi st=((sliceRange (sliceBounds lo hi st xs.length).1 (sliceBounds lo hi st xs.length).2.1 (sliceBounds lo hi st xs.length).2.2).filterMap (vs[·]?)).toArray:=by delta slicePick;rw [e];simp
 rw [es];obtain⟨W',le,I',q⟩:=I.nM (ks.pick (sliceRange (sliceBounds lo hi st xs.length).1 (sliceBounds lo hi st xs.length).2.1 (sliceBounds lo hi st xs.length).2.2)) (bT _);exact⟨W',le,I',q⟩
theorem c5 (h:IsL Z v xs) (hz:xs.length<=sizeLine):Ca C k Z (.bi "len") [v] [] (.int xs.length) Z:=by
 refine wu λW r q=>Op.look λA s Q hr I hq=>gD (h.list q I) λla vs hl ks=>?_;have e:(List.toArray vs).size=xs.length:=by simp [ks.length]
 refine call_len_list hl (by rw [e];rw [jr]at hz;omega) (hq _ _ ?_);rw [e];exact b9
theorem vh (hz:xs.length<=sizeLine):Ca C k Z (.bi "len") [.tup xs] [] (.int xs.length) Z:=by
 refine wu λW r q=>Op.look λA s Q hr I hq=>Eg (q.isTup I) λla vs n hl ks=>?_;have e:(List.toArray vs).size=xs.length:=by simp [ks.length]
 refine PyProof.Rows.len_tuple ⟨_,hl,rfl,n,rfl⟩ (by rw [e];rw [jr]at hz;omega) (hq _ _ ?_);rw [e];exact b9
theorem kT: ∀{ns:List Int} {vs:List Value},aU W (ns.map .int) vs->IntsAre vs ns:=by
 intro aH;induction aH with
 | nil=>
  intro vs h;exact by rw [List.map_nil]at h;subst h;exact .nil
 | cons n ns ih=>intro vs h;rw [dj]at h;refine gD h λv r q h=>e9 q λt=>.cons n t (ih h)
theorem xw: ∀{ns:List Str} {vs:List Value},aU W (ns.map .str) vs->StrsAre vs ns:=by
 intro aH;induction aH with
 | nil=>
  intro vs h;exact by rw [List.map_nil]at h;subst h;exact .nil
 | cons n ns ih=>intro vs h;rw [dj]at h;refine gD h λv r q h=>e9 q λt=>.cons n t (ih h)
theorem uf {ns:List Int} {c:Bool} (h:IsL Z v (ns.map .int)) (hc:ns.any (· ==i)=c):di C k Z (compareOp .In) (.int i) v (λW r=>aw W (.bool c) r) Z:=by intro W ra rb qa qb;refine e9 qa λt=>Op.look λA s Q hr I hq=>gD (h.list qb I) λla vs hl ks=>?_;exact in_list_ints hl (kT ks) (hq _ _ (by rw [hc];exact bO))
theorem iy {ns:List Int} {c:Bool} (h:IsL Z v (ns.map .int)) (hc:(!(ns.any (· ==i)))=c):di C k Z (compareOp .NotIn) (.int i) v (λW r=>aw W (.bool c) r) Z:=by intro W ra rb qa qb;refine e9 qa λt=>Op.look λA s Q hr I hq=>gD (h.list qb I) λla vs hl ks=>?_;exact notin_list_ints hl (kT ks) (hq _ _ (by rw [hc];exact bO))
theorem vt (h1:IsL Z v xs) (h2:IsL Z u ys) (hz:xs.length+ys.length<=sizeLine):di C k Z (binaryOp .Add) v u (λW r=>aw W (.lst (xs++ys)) r) Z:=by
 intro W ra rb qa qb A s outer hr hA hS I;refine Eg (h1.is qa I) λla vs n hl ks=>Eg (h2.is qb I) λlb us m hl' ks'=>?_;refine concat_meets ⟨_,hl,rfl⟩ ⟨_,hl',rfl⟩ noFill_list_add seq_list_add F.slot_list_add F.entry_list_add (F.args_list_add_2 _ _) (AutoSeq1.list___add___list_list_0 la _ n lb _ m (by simp [ks.length,ks'.length];exact hz)) ⟨hl,hl',?_⟩;obtain⟨W',le,I',q⟩:=I.nM (ks.append ks') (bT _);refine⟨W',le,?_,q⟩;have e:List.toArray (vs++us)=List.toArray vs++List.toArray us:=by simp
 rw [e]at I';exact I'
theorem eg (h:Z l=some (.list xs)):Mt C k Z (.loc l) "append" (.bi "list.append"):=by intro W ro pl q;refine Op.look λA s Q hr I hq=> ?_;refine lU ((IsL.loc h).is q I) λla vs n z=>?_;subst z;intro hl ks;exact tm ⟨_,hl,rfl⟩ F.plainAttrs_list F.slot_list_append F.type_list_append (λa e=>by cases e;exact i12 _ hl rfl) (hq _ _ ⟨rfl,rfl⟩)
theorem Bj (h:Z l=some (.list xs)):Mt C k Z (.loc l) "pop" (.bi "list.pop"):=by intro W ro pl q;refine Op.look λA s Q hr I hq=> ?_;refine lU ((IsL.loc h).is q I) λla vs n z=>?_;subst z;intro hl ks;exact tm ⟨_,hl,rfl⟩ F.plainAttrs_list F.slot_list_pop F.type_list_pop (λa e=>by cases e;exact i12 _ hl rfl) (hq _ _ ⟨rfl,rfl⟩)
theorem E8 (h:Z l=some (.list xs)):Mt C k Z (.loc l) "clear" (.bi "list.clear"):=by intro W ro pl q;refine Op.look λA s Q hr I hq=> ?_;refine lU ((IsL.loc h).is q I) λla vs n z=>?_;subst z;intro hl ks;exact tm ⟨_,hl,rfl⟩ F.plainAttrs_list F.slot_list_clear F.type_list_clear (λa e=>by cases e;exact i12 _ hl rfl) (hq _ _ ⟨rfl,rfl⟩)
theorem E3 (h:Z l=some (.list xs)) (hz:xs.length<=sizeLine):Ca C k Z (.bi "list.clear") [.loc l] [] .none (Z.set l (.list [])):=by refine wu λW r q A s outer hr hA hS I=>uU q λa e=>?_;obtain⟨ob,h1,c1,vs,n,rfl,c3⟩:=I.obj l a _ e h;refine pV F.slot_list_clear ⟨_,h1,rfl⟩ F.entry_list_clear (F.args_list_clear_1 _) (AutoSeq1.list_clear_list_0 a _ n (by simp [c3.length];exact hz)) ⟨h1,?_⟩;refine cG (mq (λu=> #[]) (List.toArray vs) n) λn' en=>⟨W,.refl W,I.upd (t:=s.toks) (d:=s.drawn) e (ew _ _ _) (jw _ h1 rfl) ⟨rfl,[],n',en,.nil⟩,c6⟩
theorem C4 (h:Z l=some (.list (xs++ [x]))) (hz:xs.length+1<=sizeLine):Ca C k Z (.bi "list.pop") [.loc l] [] x (Z.set l (.list xs)):=by
 refine wu λW r q A s outer hr hA hS I=>uU q λa e=>?_;obtain⟨ob,h1,c1,vs,n,rfl,c3⟩:=I.obj l a _ e h;refine c12 (c3.get (i:=xs.length) (x:=x) (by simp)) λy hy qy=>?_;have hl:=c3.length;rw [cV,List.length_singleton]at hl;have e1:vs.toArray.size - 1=xs.length:=by simp [hl]
 refine pV F.slot_list_pop ⟨_,h1,rfl⟩ F.entry_list_pop (F.args_list_pop_1 _) (MeetsSeq.list_pop_last a _ n y (by rw [e1];simpa using hy) (by simp [hl];exact hz)) ⟨h1,?_⟩;refine cG (mq (λxs=>xs.eraseIdxIfInBounds (vs.toArray.size - 1)) (List.toArray vs) n) λn' en=>?_;have cut: ∀{xs:List AV} {x:AV} {vs:List Value},aU W (xs++ [x]) vs->aU W xs (vs.take xs.length):=by
  intro xs
  induction xs with
  | nil=>intro x vs h;simp;exact .nil
  | cons y ys ih=>intro x vs h;rw [List.cons_append]at h;refine gD h λv r q h=>?_;rw [cq,List.take_succ_cons];exact .cons q (ih h)
 have this:vs.toArray.eraseIdxIfInBounds xs.length=(vs.take xs.length).toArray:=by
  have hb:xs.length<vs.toArray.size:=by simp [hl]
  rw [Array.eraseIdxIfInBounds,dif_pos hb];apply Array.ext';rw [Array.toList_eraseIdx];refine(?_:vs.eraseIdx xs.length=vs.take xs.length);rw [List.eraseIdx_eq_take_drop_succ,List.drop_eq_nil_of_le (by omega),iI]
 refine⟨W,.refl W,I.upd (t:=s.toks) (d:=s.drawn) (o':= .list xs) e (ew _ _ _) (jw _ h1 rfl) ⟨rfl,vs.take xs.length,n',?_,cut c3⟩,qy⟩;rw [en,e1,this]
theorem fG (h:IsL Z v xs) (hz:xs.length<=sizeLine) (hc:(!xs.isEmpty)=c):ib C k Z truthy v (λu r=>r=c) Z:=by
 intro W ra q;refine Op.look λA s Q hr I hq=>gD (h.list q I) λla vs hl ks=>?_;have e:(List.toArray vs).size=xs.length:=by simp [ks.length]
 refine wpAny_truthy_list hl (by rw [e];rw [jr]at hz;omega) (hq _ _ ?_);rw [<-hc];cases xs with
 | nil=>subst ks;rfl
 | cons y ys=>refine JU ks λv r _=>?_;simp
theorem qg (h:IsL Z v xs) (hz:xs.length<=sizeLine):Ca C k Z (.ty "tuple") [v] [] (.tup xs) Z:=by
 intro W rf df fq hf ha hk A s outer hr hA hS I;subst hf;subst hk;refine c12 (dw ha) λr u=>?_;subst u;intro q;refine fu (h.list q I) λla vs z=>?_;subst z;intro hl ks;have e:(List.toArray vs).size=xs.length:=by simp [ks.length]
 refine call_tuple_list hl (λh' hk'=> ?_) (by rw [e];exact hz);have I1:Inv C W Z {s with heap:=h'}:=I.same hk';refine bG I1.cz λn1 n2=>?_;have g:(h'.push {cls:= .type "tuple",data:= .seq (List.toArray vs)}).get? h'.objs.size=some {cls:= .type "tuple",data:= .seq (List.toArray vs)}:=dZ _ rfl;refine bG (I1.fX (t:=s.toks) (d:=s.drawn) n1 n2 (a9 _ _) g) λle I'=>?_;refine⟨_,le,I',?_⟩;refine v5 _ ({cls:= .type "tuple",data:= .seq (List.toArray vs)}) vs 0 rfl ?_ rfl rfl (ks.mono le);show(if _ then _ else _)=_
 rw [aG rfl]
theorem tE (h:Ev C k sc ms Z e v aK aB):Ex C k sc ms Z (.Return (some e) pos::rest) (.ret v) aK aB:=iu (Ak h) (λz=>by cases z)
theorem dy (h1:Tv C k sc ms Z test true ai ae) (h2:Ex C k sc ai ae (x++rest) f aK aB):Ex C k sc ms Z (.If test x y pos::rest) f aK aB:=Gs h1 h2
theorem cg (h1:Tv C k sc ms Z test false ai ae) (h2:Ex C k sc ai ae (y++rest) f aK aB):Ex C k sc ms Z (.If test x y pos::rest) f aK aB:=Gs h1 h2
theorem Bb:Ex C k sc ms Z (.Break pos::rest) .brk ms Z:=iu DL (λz=>by cases z)
theorem rN:Ex C k sc ms Z (.Continue pos::rest) .cont ms Z:=iu vC (λz=>by cases z)
theorem k9 (hi:sc.names[i]? =some (x,NameKind.local)) (hv:ms[i]? =some (some a)) (h1:Ev C k sc ms Z value b ai ae)
  (h2:di C k ae (inplaceOp op) a b (λW r=>aw W c r) aN) (hm:ai.set i (some c)=aK):X1 C k sc ms Z (.AugAssign (.Name x npos) op value pos) .next aK aN:=by
 subst hm;intro A W env s hr H;refine(?_:wpAny C.M A (exec (.AugAssign (.Name x npos) op value pos) env) _ _ _);rw [arm_exec_AugAssign];refine ak (cF (ak ?_));obtain⟨mr,hn,hmr⟩:=H.fr.ns;refine c12 (hmr i x a hi hv) λr e q=>?_;have hl:env.kindOf x=some .local:=by delta Env.kindOf;rw [H.fr.scope];exact bI (cW.nodup H.fr.ok) hi
 refine wpAny_loadName_local (by rw [H.fr.scope];exact cW.kind H.fr.ok) hl hn e ?_;refine ak (cA (bf (h1 A W env s hr H) λaR rb aI aA aO qb=> ?_));refine ak (cF (ak (wpAny_operating ?_)));have le:=a8 aO.fr;refine Op.in rfl (h2 _ r rb ((q.mono aA).mono le) (qb.mono le)) hr aO λbh rc aT ax aF qc tk u=>ak (cF (ak (xv (gc hi aF (tk qc) λbt br=> ?_))));exact aQ (bw (aA.trans ax) br rfl)
inductive Wr (C:Cx) (k:Nat) (sc:Scope) (test:Expr) (body orelse:List Stmt):List (Option AV)->St->AF->List (Option AV)->St->Prop
 | out {ms ai aK:List (Option AV)} {Z ae aB:St} {f:AF} (h:Tv C k sc ms Z test false ai ae) (hx:Ex C k sc ai ae orelse f aK aB):Wr C k sc test body orelse ms Z f aK aB
 | brk {ms ai aK:List (Option AV)} {Z ae aB:St} (h:Tv C k sc ms Z test true ai ae) (hx:Ex C k sc ai ae body .brk aK aB):Wr C k sc test body orelse ms Z .next aK aB
 | ret {ms ai aK:List (Option AV)} {Z ae aB:St} {v:AV} (h:Tv C k sc ms Z test true ai ae) (hx:Ex C k sc ai ae body (.ret v) aK aB):Wr C k sc test body orelse ms Z (.ret v) aK aB
 | turn {ms ai aZ aK:List (Option AV)} {Z ae aN aB:St} {mf f:AF} (h:Tv C k sc ms Z test true ai ae) (hx:Ex C k sc ai ae body mf aZ aN) (hf:mf= .next\/mf= .cont)
   (hr:Wr C k sc test body orelse aZ aN f aK aB):Wr C k sc test body orelse ms Z f aK aB
theorem wd (L:Wr C k sc test body orelse ms Z f aK aB): ∀(A:Around) (W:Wd) (env:Env) (s:Shared),bY C A k->At C sc A W env ms Z s->
  codeAny C.M A (.whileLoop test body orelse env) (λr s'=>match r with | .ok fl=>ie C sc A W env aK aB (λW r=>bR W f r) fl s' | .error _=>False) s:=by
 have start: ∀{A:Around} {W:Wd} {env:Env} {s:Shared} {R:Result->Shared->Prop},wpAny C.M A (whileTurn test body orelse env) (λfin s'=>match fin with | .done f=>R (.ok f) s' | .again c'=>c'.quiet=true/\codeAny C.M A c' R s') No s->
   codeAny C.M A (.whileLoop test body orelse env) R s:=λ{A W env s R} h=>by
  refine mA ?_;rw [pH (A:=A) (c:= .whileLoop test body orelse env) rfl];refine(?_:wpAny C.M A ((whileTurn test body orelse env).onRaise _) _ _ s);exact jS (bF h (λu w h=>h) (λ_ _ (h:False)=>h.elim))
 induction L with
 | @out Ju Jv LL Jx Jy LM f h hx=>intro A W env s hr H;refine start (W:=W) ?_;refine cR (h A W env s hr H) λaR b aI aA aO qb=> ?_;subst qb;exact cR (hx A aR env aI hr aO) λbh r aT ax aF q=>aQ (bw (aA.trans ax) aF q)
 | @brk Ju Jv LL Jx Jy LM h hx=>intro A W env s hr H;refine start (W:=W) ?_;refine cR (h A W env s hr H) λaR b aI aA aO qb=> ?_;subst qb;refine cR (hx A aR env aI hr aO) λbh r aT ax aF q=> ?_;unfold bR at q;subst q;exact aQ (bw (aA.trans ax) aF rfl)
 | @ret Ju Jv LL Jx Jy LM v h hx=>intro A W env s hr H;refine start (W:=W) ?_;refine cR (h A W env s hr H) λaR b aI aA aO qb=> ?_;subst qb;refine cR (hx A aR env aI hr aO) λbh r aT ax aF q=>yA q λx z=>aQ (bw (aA.trans ax) aF ⟨x,rfl,z⟩)
 | @turn Ju Jv LL Jw Jx Jy LM Jz mf f h hx hf hl ih=>
  intro A W env s hr H;refine start (W:=W) ?_;refine cR (h A W env s hr H) λaR b aI aA aO qb=> ?_;subst qb;refine cR (hx A aR env aI hr aO) λbh r aT ax aF q=> ?_;have go:codeAny C.M A (.whileLoop test body orelse env) (λr s'=>match r with | .ok fl=>ie C sc A W env Jw Jz (λW r=>bR W f r) fl s' | .error _=>False) aT:=
   kZ (ih A bh env aT hr aF) λr s' hh=>by
    cases r with
    | ok fl=>obtain⟨W',l,z,z'⟩:=hh;exact⟨W',(aA.trans ax).trans l,z,z'⟩
    | error e=>exact hh
  rcases hf with rfl | rfl<;>(unfold bR at q;subst q;exact aQ ⟨rfl,go⟩)
theorem jY (L:Wr C k sc test body orelse ms Z f aK aB):X1 C k sc ms Z (.While test body orelse pos) f aK aB:=by
 intro A W env s hr H;refine wpAny_While (kZ (wd L A W env s hr H) λr s' hh=> ?_);cases r with
 | ok fl=>exact hh
 | error e=>exact hh.elim
noncomputable def Ma (C:Cx) (k:Nat) (sc:Scope) (ms:List (Option AV)) (Z:St) (ts:List Expr) (xs:List AV) (aK:List (Option AV)) (aB:St):Prop:=
 ∀A W env s rs,bY C A k->At C sc A W env ms Z s->aU W xs rs->wpAny C.M A (assignInOrder ((assignEach ts env).map (·.2)) rs) (ie C sc A W env aK aB λ_ _=>True) No s
theorem kq:Ma C k sc ms Z [] [] ms Z:=λA W env s rs hr H q=>by exact aQ (bw (.refl W) H trivial)
theorem cE (h1:As C k sc ms Z t x ai ae) (h2:Ma C k sc ai ae ts xs aK aB) (he: ∀env,assignEach (t::ts) env=(false,assign t env)::assignEach ts env:=by exact λu=>rfl):Ma C k sc ms Z (t::ts) (x::xs) aK aB:=by intro A W env s rs hr H q;refine gD q λv r q1 q2=>?_;rw [he];refine ak (cA (bf (h1 A W env s v hr H q1) λaR w aI aA aO g=> ?_));exact bf (h2 A aR env aI r hr aO (q2.mono aA)) λbh w aT ax aF g=>bw (aA.trans ax) aF trivial
theorem qN (q:aw W (.tup xs) rv) (hn:xs.length=n) (h0:C.hx=none:=by assumption):Op C k W Z (unpackItems rv n none) (λW r=>aU W xs r) Z:=by
 subst hn;intro A s outer hr hA hS I;refine Eg (q.isTup I) λla vs n hl ks=>?_;have e:(List.toArray vs).size=xs.length:=by simp [ks.length]
 rw [<-e];refine wpAny_unpackItems_tuple (hr.none h0) ⟨_,hl,rfl,n,rfl⟩ λh' hs'=>⟨W,.refl W,?_,by simpa using ks⟩;exact I.same λb o e=>hs' b o (Nat.ne_of_lt (il e)) e
theorem i0 (h:Ma C k sc ms Z ts xs aK aB) (hn:xs.length=ts.length) (hf: ∀env,(assignEach ts env).findIdx? (·.1)=none) (hl: ∀env,(assignEach ts env).length=ts.length) (h0:C.hx=none:=by assumption):
  As C k sc ms Z (.Tuple ts x1 pos) (.tup xs) aK aB:=by
 intro A W env s r hr H q;rw [arm_assign_Tuple];refine ak (cF ?_);delta unpack;rw [hf,hl];refine ak (cA (Op.in rfl (qN (k:=k) (q.mono (a8 H.fr)) hn) hr H λaR rs aI aA aO qs u M7=> ?_));exact bf (h A _ env aI rs hr aO (M7 qs)) λbh u aT ax aF v=>bw (aA.trans ax) aF trivial
theorem sq {i:Nat} {x:Str} {kd:NameKind} (H:eC C sc A W env ms s.heap) (hi:sc.names[i]? =some (x,kd)):env.kindOf x=some kd:=by delta Env.kindOf;rw [H.scope];exact bI (cW.nodup H.ok) hi
theorem vS (H:eC C sc A W env ms s.heap):env.blockKind= .function:=by
 have h:env.scope.kind= .function:=by rw [H.scope];exact cW.kind H.ok
 delta Env.blockKind;rw [h];rfl
noncomputable def Dy (e:Expr):Bool:=swappedStores.match_5 (λ_=>Bool) e (λ_ _=>true) λ_=>false
noncomputable def w6 (env:Env) (line:Nat) (e:Expr):Option Str:=swappedStores.match_8 (λ_=>Option Str) e (λnm pos=>if env.kindOf nm==some .local && pos.line==line then some nm else none) λ_=>none
theorem swap_eq:swappedStores [.Tuple ts n1 tp] (.Tuple vs n2 vp) env=(if(!(ts.length==2 || ts.length==3) || vs.length !=ts.length || env.blockKind != .function)=true then pure none else
  if vs.any Dy=true then pure none else
  let names:=ts.filterMap (w6 env ((ts.head?.map (·.pos.line)).getD 0))
  if(names.length !=ts.length || names.eraseDups.length !=names.length)=true then pure none else
  if vs.all (foldedForSure 8)=true then pure none else
  if vs.all (constantsAlone 8)=true then(unsupported "assign.tuple-of-constant-expressions:order-of-the-stores">>=λ(_:Unit)=>pure (some names))else pure (some names)):=rfl
theorem qL (h:env.kindOf x=some .local) (hp:(p.line==line)=true):w6 env line (.Name x p)=some x:=by delta w6;simp only [h,hp];rfl
theorem rB (h:(env.kindOf x==some .local)=false):w6 env line (.Name x p)=none:=by delta w6;simp only [h];rfl
theorem Kw (hk1:env.kindOf x=some .local) (hk2:env.kindOf y=some .local) (hb:env.blockKind= .function) (hp:(q.line==p.line)=true) (hxy: [x,y].eraseDups.length=2)
  (hs: [a,b].any Dy=false) (hf: [a,b].all (foldedForSure 8)=false) (hc: [a,b].all (constantsAlone 8)=false):swappedStores [.Tuple [.Name x p,.Name y q] n1 tp] (.Tuple [a,b] n2 vp) env=pure (some [x,y]):=by
 rw [swap_eq,hb,hs,hf,hc];have e0: [Expr.Name x p,Expr.Name y q].filterMap (w6 env p.line)= [x,y]:=by rw [lQ,qL hk1 (by simp),lQ,qL hk2 hp];rfl
 have e: [Expr.Name x p,Expr.Name y q].filterMap (w6 env (([Expr.Name x p,Expr.Name y q].head?.map (·.pos.line)).getD 0))= [x,y]:=e0;rw [e];simp only [hxy];rfl
theorem wU (hk1:(env.kindOf x==some .local && env.kindOf y==some .local)=false) (hb:env.blockKind= .function) (hs: [a,b].any Dy=false):swappedStores [.Tuple [.Name x p,.Name y q] n1 tp] (.Tuple [a,b] n2 vp) env=pure none:=by
 rw [swap_eq,hb,hs];have e:([Expr.Name x p,Expr.Name y q].filterMap (w6 env (([Expr.Name x p,Expr.Name y q].head?.map (·.pos.line)).getD 0))).length<=1:=by
  rw [lQ,lQ,List.filterMap_nil];cases h1:(env.kindOf x==some .local)
  ·rw [rB h1];cases w6 env (([Expr.Name x p,Expr.Name y q].head?.map (·.pos.line)).getD 0) (Expr.Name y q)<;>simp
  ·rw [h1,Bool.true_and]at hk1;rw [rB hk1];cases w6 env (([Expr.Name x p,Expr.Name y q].head?.map (·.pos.line)).getD 0) (Expr.Name x p)<;>simp
 have e':(([Expr.Name x p,Expr.Name y q].filterMap (w6 env (([Expr.Name x p,Expr.Name y q].head?.map (·.pos.line)).getD 0))).length != [Expr.Name x p,Expr.Name y q].length)=true:=by rw [bne_iff_ne];simp only [cq,ic]at *;omega
 simp only [e',Bool.true_or];rfl
theorem wX (hk1:(env.kindOf z==some .local)=false) (hb:env.blockKind= .function) (hs: [a,b,c].any Dy=false):swappedStores [.Tuple [.Name x p,.Name y q,.Name z r] n1 tp] (.Tuple [a,b,c] n2 vp) env=pure none:=by
 rw [swap_eq,hb,hs];have e:([Expr.Name x p,Expr.Name y q,.Name z r].filterMap (w6 env (([Expr.Name x p,Expr.Name y q,.Name z r].head?.map (·.pos.line)).getD 0))).length<=2:=by
  rw [lQ,lQ,lQ,List.filterMap_nil,rB (x:=z) hk1];cases w6 env (([Expr.Name x p,Expr.Name y q,.Name z r].head?.map (·.pos.line)).getD 0) (Expr.Name x p)<;>cases w6 env (([Expr.Name x p,Expr.Name y q,.Name z r].head?.map (·.pos.line)).getD 0) (Expr.Name y q)<;>simp
 have e':(([Expr.Name x p,Expr.Name y q,.Name z r].filterMap (w6 env (([Expr.Name x p,Expr.Name y q,.Name z r].head?.map (·.pos.line)).getD 0))).length != [Expr.Name x p,Expr.Name y q,.Name z r].length)=true:=by rw [bne_iff_ne];simp only [cq,ic]at *;omega
 simp only [e',Bool.true_or];rfl
theorem zA {E:Value->Shared->Prop} {Q:Flow->Shared->Prop} (hw:swappedStores targets value env=pure (some names)) (hs:swapsWithSole targets value pos.line env=pure false)
  (h:wpAny M A (eval value env) (λv aI=>wpAny M A (unpackItems v names.length none) (λitems aT=>wpAny M A (assignInOrder (names.reverse.map λn=>bindName env n) items.reverse) (λu=>Q .next) E aT) E aI) E s):wpAny M A (exec (.Assign targets value pos) env) Q E s:=by
 rw [arm_exec_Assign];refine ak (cF ?_);rw [hs];refine ak (aQ ?_);refine ak (bF h (λv aI iq=>ak (eL hw ?_)) λu w x=>x);exact ak (rG (ak (bF iq (λitems aT jC=>ak (bF jC (λu bt mL=>aQ mL) λu w x=>x)) λu w x=>x)))
theorem ou {x y:Str} {p q tp vp pos:Pos} {n1 n2 i j:Nat} {a b:Expr} {u v:AV} (hi:sc.names[i]? =some (x,NameKind.local)) (hj:sc.names[j]? =some (y,NameKind.local)) (h1:Ev C k sc ms Z (.Tuple [a,b] n2 vp) (.tup [u,v]) ai ae) (hp:(q.line==p.line)=true) (hxy: [x,y].eraseDups.length=2)
  (hs: [a,b].any Dy=false) (hf: [a,b].all (foldedForSure 8)=false) (hc: [a,b].all (constantsAlone 8)=false) (hm:(ai.set j (some v)).set i (some u)=aK) (h0:C.hx=none:=by assumption):
  X1 C k sc ms Z (.Assign [.Tuple [.Name x p,.Name y q] n1 tp] (.Tuple [a,b] n2 vp) pos) .next aK ae:=by
 subst hm;intro A W env s hr H;refine zA (Kw (sq H.fr hi) (sq H.fr hj) (vS H.fr) hp hxy hs hf hc) rfl ?_;refine bf (h1 A W env s hr H) λaR r aI aA aO qv=>Op.in rfl (qN (k:=k) (n:= [x,y].length) (qv.mono (a8 aO.fr)) rfl) hr aO λbh rs aT ax aF qs w M7=>gD (fF (M7 qs)) λru rv qu OR=>?_;show wpAny C.M A (do holding [ru] (bindName env y rv);assignInOrder [bindName env x] [ru]) _ _ _
 refine ak (cA (xv (gc hj aF OR λbt br=> ?_)));show wpAny C.M A (do holding [] (bindName env x ru);assignInOrder [] []) _ _ _
 exact ak (cA (xv (gc hi br qu λjf gv=>aQ (bw (aA.trans ax) gv rfl))))
theorem oH {t value:Expr} {pos:Pos} {v:AV} (h1:Ev C k sc ms Z value v ai ae) (h2:As C k sc ai ae t v aK aB)
  (hs: ∀env,swapsWithSole [t] value pos.line env=pure false) (hw: ∀env:Env,(∀(i:Nat) (x:Str) (kd:NameKind),sc.names[i]? =some (x,kd)->env.kindOf x=some kd)->env.blockKind= .function->swappedStores [t] value env=pure none) (ht: ∀env,(assignEach [t] env).map (·.2)= [assign t env]):
  X1 C k sc ms Z (.Assign [t] value pos) .next aK aB:=by
 intro A W env s hr H;refine wpAny_Assign_stores (bf (h1 A W env s hr H) λaR r aI aA aO q=> ?_) (hs env) (hw env (λi x kd h=>sq H.fr h) (vS H.fr));rw [ht];exact bf (h2 A aR env aI r hr aO q) λbh u aT ax aF w=>bw (aA.trans ax) aF rfl
theorem mF (h:Ex C k sc ms Z body f aK aB):X1 C k sc ms Z (.Try body handlers [] [] pos) f aK aB:=by
 intro A W env s hr H;refine(?_:wpAny C.M A (exec (.Try body handlers [] [] pos) env) _ _ _);rw [arm_exec_Try];refine ak (cF ?_);refine ak (wpAny_attempt (bF (h A W env s hr H) (λr aI hh=> ?_) λu w x=>x.elim));obtain⟨aR,aA,aO,q⟩:=hh;cases f with
 | next=>delta bR at q;subst q;exact wpAny_execs_nil (bw aA aO rfl)
 | brk=>delta bR at q;subst q;exact aQ (bw aA aO rfl)
 | cont=>delta bR at q;subst q;exact aQ (bw aA aO rfl)
 | ret v=>refine yA q λx z=>?_;exact aQ (bw aA aO ⟨x,rfl,z⟩)
end
end V
end
section
namespace V
open Builtin Builtin.Str
section
variable {prog:Program} {w:World} {A:Around} {E:Value->Shared->Prop} {s:Shared}
theorem Al {Q:Fin->Shared->Prop} (hk:k= .int dep tk) (hm:typeOf (.type T)=pure (.type "type")) (hs:isSubtype (.type T) (.type T)=pure true) (hq:Q (.done (.ret (.bool true))) s):
  wpAny (model prog w) A (Builtin.«issubclass.nested» ⟨[.type T,.type T,k],[]⟩) Q E s:=by
 subst hk
 repeat (any_goals (first | assumption | (rewrite [aG hm]) | (rewrite [hs]) | wp_step))
theorem DA {Q:Fin->Shared->Prop} (hk:k= .int dep tk) (hd: ¬dep≥Builtins.nestingLimit) (ht:s.heap.get? a=some {cls:= .type "tuple",data:= .seq #[.type "str",.type "bytes"] n}) (hq:Q (.done (.ret (.bool true))) s):
  wpAny (model prog w) A (Builtin.«issubclass.nested» ⟨[.type "str",.ref a,k],[]⟩) Q E s:=by
 subst hk;have hT:s.TypeIs (.ref a) "tuple":=⟨_,ht,rfl⟩;delta Builtin.«issubclass.nested»;refine ak (wpAny_typeOf hT ?_);refine ak (m:=Builtins.unionMembers (.ref a)) ?_;refine ak (wpAny_typeOf hT ?_);refine aQ ?_;refine ak (wpAny_isInstance hT KPt.sub_tt ?_);rw [aG rfl,az hd];refine ak (ur ht rfl ?_);have hsub:isSubtype (.type "str") (.type "str")=pure true:=by rw [ta];kernel_rfl
 have hm:typeOf (.type "str")=pure (.type "type"):=by rfl
 have step: ∀(c:Value) (Q':Value->Shared->Prop),c= .type "str"->Q' (.bool true) s->wpAny (model prog w) A (call (.builtin "issubclass.nested") [.type "str",c,rawInt (dep+1)]) Q' E s:=λc Q' hc h=>by subst hc;refine call_function_entry (by decide+kernel) (by decide+kernel) F.entry_issubclass_nested (by delta argsOk;kernel_rfl) ?_;exact Al rfl hm hsub ⟨_,rfl,h⟩
 refine ak ?_;refine(?_:wpAny _ _ (forIn (#[Value.type "str",Value.type "bytes"]:Array Value) _ _) _ _ _);rw [<-Array.forIn_toList,nc];refine ak (ak (step _ _ rfl ?_));refine ak (wpAny_truthy_bool ?_);rw [aG rfl];refine ak (aQ (aQ (aQ ?_)));exact aQ hq
theorem nY {Q:Value->Shared->Prop} (ht:s.heap.get? a=some {cls:= .type "tuple",data:= .seq #[.type "str",.type "bytes"] n}) (hq:Q (.bool true) s):
  wpAny (model prog w) A (call (.builtin "issubclass") [.type "str",.ref a]) Q E s:=
 call_issubclass (S:=λu R s=>s.heap.get? a=some {cls:= .type "tuple",data:= .seq #[.type "str",.type "bytes"] n}/\R (.ok (.ret (.bool true))) s) (λu v g m q hs=>issubclass_outer (DA rfl (by decide) hs.1 hs.2)) ⟨ht,hq⟩
end
section
variable {C:Cx} {k:Nat} {sc:Scope} {A:Around} {W:Wd} {env:Env} {ms ai aZ b6 aK:List (Option AV)} {Z ae aN bX aB:St} {s:Shared}
theorem Dz (h:aU W [.ty n,.ty m] vs):vs= [.type n,.type m]:=by refine gD (fF h) λa b q1 q2=>?_;subst q1;subst q2;rfl
theorem EJ:Ca C k Z (.bi "issubclass") [.ty "str",.tup [.ty "str",.ty "bytes"]] [] (.bool true) Z:=by refine oV λW r u q q'=> ?_;subst q;refine Op.look λA s Q hr I hq=>Eg (q'.isTup I) λla vs n hl ks=>?_;have:=Dz ks;subst this;exact nY hl (hq _ _ bO)
theorem rR (h:H7 C Z v T) (hn:(Value.type T==Value.type "builtin_function_or_method")=false):Ca C k Z (.ty "type") [v] [] (.ty T) Z:=by intro W rf df fq hf ha hk;subst hf;subst hk;refine c12 (dw ha) λr z=>?_;subst z;intro q;exact Op.look λA s Q hr I hq=>call_type_of (h _ _ _ I q) hn (hq _ _ rfl)
theorem mv:Ca C k Z (.bi "isinstance") [.str x,.ty "bytes"] [] (.bool false) Z:=by refine oV λW r u q q'=> ?_;subst q';refine e9 q λt=>Op.look λA s Q hr I hq=>IsiPair.str_bytes (hq _ _ bO)
theorem Gx (h:(Value.type n==Value.type m)=c) (hp:plainIs (.type n) (.type m)=true):di C k Z (compareOp .Is) (.ty n) (.ty m) (λW r=>aw W (.bool c) r) Z:=by intro W ra rb qa qb;subst qa;subst qb;exact Op.look λA s Q hr I hq=>wpAny_is_plain hp (hq _ _ (h▸bO))
theorem CU (h:(!(Value.type n==Value.type m))=c) (hp:plainIs (.type n) (.type m)=true):di C k Z (compareOp .IsNot) (.ty n) (.ty m) (λW r=>aw W (.bool c) r) Z:=by intro W ra rb qa qb;subst qa;subst qb;exact Op.look λA s Q hr I hq=>wpAny_isNot_plain hp (hq _ _ (h▸bO))
noncomputable def dictOf (o:Option Obj):Array DictEntry:=match o with
 | some ⟨_,_,.dict es _,_⟩=>es
 | _=> #[]
theorem mg_of (O:C.Ok) (hk:C.K.lookup mainGlobals=some o) (hd:o.data= .dict es n) (x:Str):C.mg x=nsFind es x:=by refine AD O.g λo' es' n' h1 h2 _ h3=>?_;have:=O.tR _ _ hk;rw [h1]at this;obtain rfl:=dI this;rw [hd]at h2;cases h2;exact(h3 x).symm
theorem bW (hd:(x==("__debug__":Str))=false) (h:C.mg x=some (.ref a)):Glob C x (.ext a):=⟨hd,_,.inl h,λW=>rfl⟩
theorem t9 (hd:(x==("__debug__":Str))=false) (h:C.mg x=some (.int i t)):Glob C x (.int i):=⟨hd,_,.inl h,λW=>b9⟩
theorem lM (O:C.Ok) (hd:(x==("__debug__":Str))=false) (h:C.mg x=none) (hn:(x==("__name__":Str))=false) (hb:bootBuiltins x=some (.builtin n)):Glob C x (.bi n):=
 ⟨hd,_,.inr ⟨h,(O.boot x (λe=>by rw [e]at hn;simp at hn)).trans hb⟩,λW=>rfl⟩
theorem fR (O:C.Ok) (hd:(x==("__debug__":Str))=false) (h:C.mg x=none) (hn:(x==("__name__":Str))=false) (hb:bootBuiltins x=some (.type n)):Glob C x (.ty n):=
 ⟨hd,_,.inr ⟨h,(O.boot x (λe=>by rw [e]at hn;simp at hn)).trans hb⟩,λW=>rfl⟩
noncomputable def Go (C:Cx) (k:Nat) (sc:Scope) (ms:List (Option AV)) (Z:St) (ss:List Stmt) (f:AF) (aB:St):Prop:= ∃aK,Ex C k sc ms Z ss f aK aB
theorem aE {st:Stmt} {rest:List Stmt} {f:AF} (h1:X1 C k sc ms Z st .next ai ae) (h2:Go C k sc ai ae rest f aB):Go C k sc ms Z (st::rest) f aB:=(cG h2 λ_ h=>⟨_,aJ h1 h⟩)
theorem Er {st:Stmt} {rest:List Stmt} {f:AF} (h1:X1 C k sc ms Z st f aK aB) (hf:f≠ .next):Go C k sc ms Z (st::rest) f aB:=⟨_,iu h1 hf⟩
theorem j0:Go C k sc ms Z [] .next Z:=⟨_,bz⟩
theorem bP (h:Ev C k sc ms Z e v aK aB):Go C k sc ms Z (.Return (some e) pos::rest) (.ret v) aB:=⟨_,tE h⟩
theorem fH (h1:Tv C k sc ms Z test true ai ae) (h2:Go C k sc ai ae (x++rest) f aB):Go C k sc ms Z (.If test x y pos::rest) f aB:=(cG h2 λ_ h=>⟨_,dy h1 h⟩)
theorem cw (h1:Tv C k sc ms Z test false ai ae) (h2:Go C k sc ai ae (y++rest) f aB):Go C k sc ms Z (.If test x y pos::rest) f aB:=(cG h2 λ_ h=>⟨_,cg h1 h⟩)
theorem hH {ms} (h1:Go C k sc ms ae body f cP) (h2:Exit Z cP f v aB): ∃f aK cP,Ex C k sc ms ae body f aK cP/\Exit Z cP f v aB:=(cG h1 λ_ h=>⟨_,_,_,h,h2⟩)
theorem nJ {ms} (hv:v.A3) (h1:Go C k sc ms Z body (.ret v) Z): ∃f aK cP,Ex C k sc ms Z body f aK cP/\Exit Z cP f v Z:=hH h1 (yX (hv _))
theorem iw {ms} (h1:Go C k sc ms Z body (.ret (.str x)) Z): ∃f aK cP,Ex C k sc ms Z body f aK cP/\Exit Z cP f (.str x) Z:=nJ cc h1
theorem C8 {ms} (h1:Go C k sc ms Z body (.ret (.bool x)) Z): ∃f aK cP,Ex C k sc ms Z body f aK cP/\Exit Z cP f (.bool x) Z:=nJ (λu=>trivial) h1
theorem EA {ms} (hv:AV.pS xs) (h1:Go C k sc ms Z body (.ret (.tup xs)) Z): ∃f aK cP,Ex C k sc ms Z body f aK cP/\Exit Z cP f (.tup xs) Z:=nJ (xQ hv) h1
noncomputable def Bv (C:Cx) (k:Nat) (sc:Scope) (ms:List (Option AV)) (Z:St) (pos:Pos) (op:BoolOp) (es:List Expr) (v:AV) (aK:List (Option AV)) (aB:St):Prop:=
 Tr C k sc ms Z (λenv=>boolOp pos op (evalEach es env)) (λW r=>aw W v r) aK aB
theorem eT (h:Bv C k sc ms Z pos op es v aK aB):Ev C k sc ms Z (.BoolOp op es pos) v aK aB:=h
theorem lL (h:Ev C k sc ms Z e v aK aB):Bv C k sc ms Z pos op [e] v aK aB:=h
theorem GJ (h1:Ev C k sc ms Z e u ai ae) (h2:ib C k ae truthy u (λw r=>r=false) aN) (h3:Bv C k sc ai aN pos .Or (e2::rest) v aK aB):Bv C k sc ms Z pos .Or (e::e2::rest) v aK aB:=by
 intro A W env s hr H;refine(?_:wpAny C.M A (do
  let v<-eval e env
  standAt pos
  let t<-holding [v] (truthy v)
  match BoolOp.Or,t with
  | .And,false | .Or,true=>pure v
  | _,_=>boolOp pos .Or (evalEach (e2::rest) env)) _ _ _)
 refine cR (h1 A W env s hr H) λaR r aI aA aO q=>ak (cF (ak (cA ?_)));refine Op.in rfl (h2 _ r (q.mono (a8 aO.fr))) hr aO λbh b aT ax aF qb w g=> ?_;subst qb;exact bf (h3 A _ env aT hr aF) λbS r bt bg br q=>bw ((aA.trans ax).trans bg) br q
theorem mz (h1:Ev C k sc ms Z e u ai ae) (h2:ib C k ae truthy u (λw r=>r=true) aN):Bv C k sc ms Z pos .Or (e::e2::rest) u ai aN:=by
 intro A W env s hr H;refine(?_:wpAny C.M A (do
  let v<-eval e env
  standAt pos
  let t<-holding [v] (truthy v)
  match BoolOp.Or,t with
  | .And,false | .Or,true=>pure v
  | _,_=>boolOp pos .Or (evalEach (e2::rest) env)) _ _ _)
 refine cR (h1 A W env s hr H) λaR r aI aA aO q=>ak (cF (ak (cA ?_)));refine Op.in rfl (h2 _ r (q.mono (a8 aO.fr))) hr aO λbh b aT ax aF qb w g=> ?_;subst qb;exact aQ (bw (aA.trans ax) aF (q.mono ax))
theorem kK (h1:B x n) (h3:decide (n<=16777216)=true):x.length<=sizeLine:=bU h1 (jr▸jx h3)
theorem j9 (h1:B x n) (h3:decide (n<=16777216)=true):Ca C k Z (.bi "len") [.str x] [] (.int x.length) Z:=Dg (kK h1 h3)
theorem zB (h1:B x n) (h3:decide (n<=16777216)=true):Ca C k Z (.bi "str.rstrip") [.str x,.str y] [] (.str (Txt.rstripChars x y)) Z:=A6 (kK h1 h3)
theorem vu (h1:B x a) (h2:B y b) (h3:decide (a<=1000)=true) (h4:decide (b<=1000)=true):di C k Z (binaryOp .Mult) (.str x) (.int y.length) (λW r=>aw W (.str (Txt.mul x y.length)) r) Z:=
 Gn (by have:=jx h4;delta B at h2;omega) (by omega) (bU h1 (jx h3))
theorem oC: ∀(l:List (Str×Tok)),aU W ((l.map (·.1)).map .str) (strValues l)
 | []=> .nil
 | (x,t)::l=> .cons bN (oC l)
theorem r9 (hy:(y.length==0)=false) (hx:B x n) (hn:decide (n<=16777216)=true) (hs:(partsBetween x (occurrences x y 0 x.length (x.length+1)) y.length).length<=sizeLine) (he:(Txt.split x y).map .str=ys):
  Ca C k Z (.bi "str.split") [.str x,.str y] [] (.lst ys) Z:=by
 subst he;refine oV λW r r' q q' A s outer hr hA hS I=>e9 q λt=>e9 q' λu=>?_;have hz:=kK hx hn;have one: ∀{ys:List Str},ys= [x]->Ek C W Z (λW r=>aw W (.lst (ys.map .str)) r) (.ref s.heap.objs.size) {s with heap:=s.heap.push {cls:= .type "list",data:= .seq #[.str x t]}}:=λe=>by subst e;exact I.nM (xs:= [.str x]) (vs:= [.str x t]) (.cons bN .nil) (bT _)
 cases h1:(decide (x.length<y.length) || decide (strKind x<strKind y))
 ·cases hf:(occurrences x y 0 x.length (x.length+1)).isEmpty
  ·refine pV F.slot_str_split (pF _ _ _) F.entry_str_split (F.args_str_split_2 _ _) (meets_str_split_sep x y t u h1 hy hf hz hs) ?_;have e:Txt.split x y=partsBetween x (occurrences x y 0 x.length (x.length+1)) y.length:=(az (ne_true_of_eq_false h1)).trans (az (ne_true_of_eq_false hf));rw [strsFrom_eq];have hv:=oC (W:=W) (numbered s.toks (partsBetween x (occurrences x y 0 x.length (x.length+1)) y.length));rw [numbered_texts,<-e]at hv;obtain⟨W',le,I',q⟩:=I.nM hv (tk:=s.toks+(partsBetween x (occurrences x y 0 x.length (x.length+1)) y.length).length) (gO _ _);rw [e]at I' q⊢;exact⟨W',le,I',q⟩
  ·exact pV F.slot_str_split (pF _ _ _) F.entry_str_split (F.args_str_split_2 _ _) (meets_str_split_not_found x y t u h1 hy hf) (one ((az (ne_true_of_eq_false h1)).trans (aG hf)))
 ·exact pV F.slot_str_split (pF _ _ _) F.entry_str_split (F.args_str_split_2 _ _) (meets_str_split_cannot_occur x y t u h1) (one (aG h1))
theorem FV: ∀{xs:List Str} {vs:List Value},aU W (xs.map .str) vs-> ∃l:List (Str×Tok),vs=strValues l/\l.map (·.1)=xs:=by
 intro aH;induction aH with
 | nil=>
  intro vs h;exact by rw [List.map_nil]at h;subst h;exact⟨[],rfl,rfl⟩
 | cons x xs ih=>intro vs h;rw [dj]at h;refine gD h λv r q h=>e9 q λt=>yA (ih h) λl e=>⟨(x,t)::l,rfl,by rw [dj,e]⟩
theorem w5 (h:IsL Z v (xs.map .str)) (hok:JoinOk x xs=true):Ca C k Z (.bi "str.join") [.str x,v] [] (.str (Txt.join x xs)) Z:=by refine oV λW r r' q q'=>e9 q λt=>Op.look λA s Q hr I hq=> ?_;refine fu (h.list q' I) λla vs u=>?_;subst u;intro hl ks;refine c12 (FV ks) λl z=>?_;subst z;intro e;exact SC.join hl e hok λt' k=>hq _ _ bN
theorem CY {ms} (hl:Z l=none) (hv:v.A3) (h1:Go C k sc ms Z body (.ret v) (Z.set l o)): ∃f aK cP,Ex C k sc ms Z body f aK cP/\Exit Z cP f v Z:=
 hH h1 ⟨sP hl,λu e=>e,λu w e=> .inl e,.inl ⟨rfl,hv _⟩⟩
theorem set_same:(Z.set l o) l=some o:=by delta St.set;rw [aG rfl]
theorem set_set:(Z.set l o).set l o'=Z.set l o':=by funext x;delta St.set;split<;>rfl
theorem aj (h:l'≠l):(Z.set l o) l'=Z l':=by delta St.set;rw [az h]
theorem tf (h: ∀df:List Value,df.length=as.length-> ∀rr:List Value,rr.length=rest.length->bindArgs fd ⟨df++rr,[]⟩=(do let t<-newTuple rr;pure ((bs.map (·.1)).zip df++ [(x,t)]))) (hb:bs.map (·.2)=as) (hz:rest.length<=sizeLine):
  Bd C k fd Z (as++rest) [] (bs++ [(x,.tup rest)]) Z:=by
 intro W df fq ha hk A s outer hr hA hS I;subst hk;have cut: ∀{as:List AV} {vs:List Value},aU W (as++rest) vs-> ∃v1 v2,vs=v1++v2/\aU W as v1/\aU W rest v2:=by
  intro as
  induction as with
  | nil=>intro vs h;exact jE ([]) vs rfl (.nil) h
  | cons y ys ih=>intro vs h;rw [List.cons_append]at h;refine gD h λv r q h=>gD (ih h) λv1 v2 h1 h2=>jE (v::v1) v2 rfl (.cons q h1) h2
 refine gD (cut ha) λv1 v2 h1 h2=>?_;rw [h v1 h1.length v2 h2.length];refine ak (bF (mY (k:=k) h2 hz A s outer hr hA hS I) (λr s' ⟨W',le,I',q⟩=>aQ ⟨W',le,I',?_⟩) λu w x=>x);have kz:=iU (W:=W') (vs:=bs) (by rw [hb];exact h1.mono le);have app: ∀{bs:List (Str×AV)} {ks:List (Str×Value)},bK W' bs ks->bK W' (bs++ [(x,.tup rest)]) (ks++ [(x,r)]):=by
  intro bs
  induction bs with
  | nil=>intro ks h;subst h;exact jE r ([]) rfl q rfl
  | cons b bs ih=>intro ks h;obtain⟨n,y⟩:=b;refine gD h λv ks' a b=>jE v (ks'++ [(x,r)]) rfl a (ih b)
 exact app kz
noncomputable def Turn (C:Cx) (k:Nat) (sc:Scope) (tgt:Expr) (body:List Stmt) (x:AV) (ms:List (Option AV)) (Z:St) (aK:List (Option AV)) (aB:St):Prop:=
 ∃ai ae mf,As C k sc ms Z tgt x ai ae/\Ex C k sc ai ae body mf aK aB/\(mf= .next\/mf= .cont)
theorem cx (ha:As C k sc ms Z tgt x ai ae) (hx:Ex C k sc ai ae body .next aK aB):Turn C k sc tgt body x ms Z aK aB:=⟨_,_,_,ha,hx,.inl rfl⟩
theorem qe (ha:As C k sc ms Z tgt x ai ae) (hx:Ex C k sc ai ae body .cont aK aB):Turn C k sc tgt body x ms Z aK aB:=⟨_,_,_,ha,hx,.inr rfl⟩
theorem iF {α S:Type} {enc:α->AV} {M:S->List (Option AV)} {Sg:S->St} {step:S->α->S} {P:S->List α->Prop} {ok:St->Prop} (hok: ∀s xs,P s xs->ok (Sg s)) (hp: ∀s x xs,P s (x::xs)->P (step s x) xs)
  (h: ∀s x xs,P s (x::xs)->Turn C k sc tgt body (enc x) (M s) (Sg s) (M (step s x)) (Sg (step s x))): ∀(xs:List α) (s:S),P s xs->Lr C k sc ok tgt body (xs.map enc) (M s) (Sg s) .next (M (xs.foldl step s)) (Sg (xs.foldl step s)):=by
 intro aH;induction aH with
 | nil=>exact λs hs=> .nil (hok s [] hs)
 | cons x xs ih=>
  exact λs hs=>by refine lU (h s x xs hs) λai ae mf ha hx hf=>.cons (hok s _ hs) ha hx hf (ih (step s x) (hp s x xs hs))
theorem iH {tgt iter:Expr} {body rest:List Stmt} {pos:Pos} {v:AV} {ok:St->Prop} {xs:List AV} {src:AV} {Sh:vZ} {f:AF} (h1:Ev C k sc ms Z iter v ai ae) (I:ui C k ok v xs src Sh tgt) (hok:ok ae) (L:Lr C k sc ok tgt body xs ai ae .next aZ aN)
  (hs: ∀env x,foldedSetIterable iter env x=pure x) (h2:Go C k sc aZ aN rest f aB):Go C k sc ms Z (.For tgt iter body [] pos::rest) f aB:=aE (jv (f:= .next) h1 I hok L hs) h2
theorem iS:Mt C k (Z.set l (.list xs)) (.loc l) "append" (.bi "list.append"):=eg set_same
theorem iT (hz:xs.length<=sizeLine):Ca C k (Z.set l (.list xs)) (.bi "list.append") [.loc l,x] [] .none (Z.set l (.list (xs++ [x]))):=by
 have:=dJ (C:=C) (k:=k) (Z:=Z.set l (.list xs)) (x:=x) set_same hz
 rwa [set_set]at this
theorem H9:Mt C k (Z.set l (.list xs)) (.loc l) "pop" (.bi "list.pop"):=Bj set_same
theorem G0 (hz:xs.length+1<=sizeLine):Ca C k (Z.set l (.list (xs++ [x]))) (.bi "list.pop") [.loc l] [] x (Z.set l (.list xs)):=by
 have:=C4 (C:=C) (k:=k) (Z:=Z.set l (.list (xs++ [x]))) set_same hz
 rwa [set_set]at this
theorem lH (hz:xs.length<=sizeLine) (hc:(!xs.isEmpty)=c):ib C k (Z.set l (.list xs)) truthy (.loc l) (λu r=>r=c) (Z.set l (.list xs)):=fG (.loc set_same) hz hc
theorem o6 (h0:i<0) (h1: -(xs.length:Int)<=i) (h2: -1000000<=i) (hx:xs[(i+xs.length).toNat]? =some x):di C k (Z.set l (.list xs)) getItem (.loc l) (.int i) (λW r=>aw W x r) (Z.set l (.list xs)):=j8 (.loc set_same) h0 h1 h2 hx
theorem bk (h:IsL Z v xs):Bg C Z v:=λW s ro I q=>by intro A Q E s' hk hq;refine Eg (h.is q I) λla vs n hl ks=>?_;have hT:s'.TypeIs (.ref la) "list":=⟨_,hk _ _ hl,rfl⟩;rw [getitemInPython_of_ne hT.not_modules];exact ak (wpAny_specialOf hT F.slot_list_getitem.lookup (aQ hq))
theorem vN (g:Nat): ∀(xs:List Str) (a:Nat),(∀y∈xs,y.length<=1000)->xs.foldl (λn y=>n+y.length+g) a<=a+xs.length * (1000+g):=by
 intro aH;induction aH with
 | nil=>
  exact λa u=>by exact gO _ _
 | cons x xs ih=>
  exact λa h=>by rw [cX,cq,Nat.succ_mul];have:=ih (a+x.length+g) (λy hy=>h y (.tail _ hy));have:=h x (.head _);omega
theorem qK (hx:x.length<=10) (h: ∀y∈xs,y.length<=1000) (hl:xs.length<=1000):JoinOk x xs=true:=by
 delta JoinOk tooLong;rw [jr];have e:xs.toArray.foldl (λn y=>n+y.length+x.length) 0<=0+xs.length * (1000+x.length):=by rw [<-Array.foldl_toList];exact vN x.length xs 0 h
 have:xs.length * (1000+x.length)<=1000 * 1010:=xe hl (by omega);rw [B5];exact mH (by omega)
theorem vQ (g:Array Nat): ∀(xs:List Str) (a:Array Nat),(xs.foldl (λacc (p:Str)=>acc++g++p.cps) a).size=xs.foldl (λn (p:Str)=>n+p.length+g.size) a.size:=by
 intro aH;induction aH with
 | nil=>exact λa=>rfl
 | cons x xs ih=>
  exact λa=>by
   rw [cX,cX,ih]
   congr 1
   rw [BQ,BQ];refine(?_:_+_+x.length=_);omega
theorem Ih (hx:x.length<=10) (h: ∀y∈xs,y.length<=1000) (hl:xs.length<=1000):B (Txt.join x xs) 1100000:=by
 delta B Txt.join glued;refine(?_:((xs.drop 1).foldl (λacc p=>acc++x.cps++p.cps) (xs.headD Str.empty).cps).size<=_);rw [vQ];have h1:=vN x.cps.size (xs.drop 1) (xs.headD Str.empty).cps.size (λy hy=>h y (List.mem_of_mem_drop hy));have h2:(xs.headD Str.empty).cps.size<=1000:=by
  cases xs with
  | nil=>exact dW _
  | cons y ys=>exact h y (.head _)
 have h3:(xs.drop 1).length<=1000:=by rw [t8];omega
 have h4:(xs.drop 1).length * (1000+x.cps.size)<=1000 * 1010:=xe h3 (by have:x.cps.size<=10:=hx;omega);omega
theorem split_len (h:B x n):(Txt.split x y).length<=n+2/\ ∀z∈Txt.split x y,z.length<=n:=by
 unfold B at h;unfold Txt.split;split
 ·exact⟨by simp,λz hz=>by simp at hz;subst hz;exact h⟩
 ·split
  ·exact⟨by simp,λz hz=>by simp at hz;subst hz;exact h⟩
  ·refine⟨?_,λz hz=> ?_⟩
   ·rw [len_partsBetween];have:=StrLaws.occ_length_le x y 0 x.length (x.length+1);omega
   ·unfold partsBetween at hz;refine kE (bM.mp hz) λq _=>?_;rcases q with⟨i,j⟩
    exact bU (len_strSub x i j) h
theorem qw (h:B x n) (hn:decide (n<=1000)=true):(partsBetween x (occurrences x y 0 x.length (x.length+1)) y.length).length<=sizeLine:=by have:=jx hn;delta B at h;rw [len_partsBetween,jr];have:=StrLaws.occ_length_le x y 0 x.length (x.length+1);omega
theorem aV (h:n<=m) (hm:decide (m<=16777216)=true):n<=sizeLine:=bU h (jr▸jx hm)
theorem i7:(xs++ [x])[((-1:Int)+((xs++ [x]).length:Int)).toNat]? =some x:=by
 have e:((-1:Int)+((xs++ [x]).length:Int)).toNat=xs.length:=by rw [cV,List.length_singleton];omega
 rw [e];simp
end
noncomputable def dh (acc:List Str) (c:Str):List Str:=
 if((c.length:Int) !=0)=false then acc
 else if(c==Str.ofString ".")=true then acc
 else if(c !=Str.ofString "..")=true then acc++ [c]
 else if acc.isEmpty=true then acc
 else if((acc.getLast?.getD Str.empty)==Str.ofString "..")=true then acc++ [c]
 else acc.dropLast
theorem qS (acc:List Str) (c:Str):(dh acc c).length<=acc.length+1/\ ∀z∈dh acc c,z∈acc\/z=c:=by
 delta dh
 repeat' split
 all_goals first
  | exact⟨ju _,λz hz=> .inl hz⟩
  | exact⟨by simp,λz hz=>by simpa using hz⟩
  | exact⟨by rw [List.length_dropLast];omega,λz hz=> .inl (List.dropLast_subset _ hz)⟩
theorem Af: ∀(cs acc:List Str),(cs.foldl dh acc).length<=acc.length+cs.length/\ ∀z∈cs.foldl dh acc,z∈acc\/z∈cs:=by
 intro aH;induction aH with
 | nil=>exact λacc=>⟨by exact gO _ _,λz hz=> .inl hz⟩
 | cons c cs ih=>
  exact λacc=>by
   rw [cX];refine bG (ih (dh acc c)) λh1 h2=>bG (qS acc c) λh3 h4=>?_;refine⟨by rw [cq];omega,λz hz=> ?_⟩;refine aP (h2 z hz) (λh=>?_) λh=>?_
   ·refine aP (h4 z h) (λh=>?_) λq=>?_
    ·exact .inl h
    ·subst q;exact .inr (.head _)
   ·exact .inr (.tail _ h)
noncomputable def Gd (p:Str):Str:=Str.ofString "/"++Txt.join (Str.ofString "/") ((Txt.split (Txt.slice p (some 1) none) (Str.ofString "/")).foldl dh [])
end V
end
section
namespace V
open Builtin Builtin.Str Builtin.Re
theorem pO {ok:Nat->Bool} (tH: ∀c,ok c=true-> ∀seen,∃fD,Sre.inSet m.code c m.code.size 5 true seen= .ok (false,fD)):
  ∀(fuel s:Nat) (seen:Sre.Seen),(∀i,i<m.lim->ok (m.text.getD i 0)=true)-> ∃fD,Sre.M.admitted m fuel s seen= .ok (none,fD):=by
 intro aH;induction aH with
 | zero=>exact λs seen u=>⟨seen,rfl⟩
 | succ fuel ih=>
  exact λs seen h=>by
   unfold Sre.M.admitted;by_cases hs:s≥m.lim
   ·rw [aG hs];exact⟨seen,rfl⟩
   ·rw [az hs];refine cG (tH _ (h s (by omega)) seen) λfD e=>?_;rw [e];exact ih (s+1) fD h
theorem sJ (h1:m.hasFirstSet=true) (h2:Sre.M.admitted m (m.lim+1 - s) s m.seen= .ok (none,fD)):m.attemptFrom s first=({m with seen:=fD}:Sre.M).say false:=by delta Sre.M.attemptFrom;rw [h1,h2];rfl
theorem oj {code text:Array Nat} {ok:Nat->Bool} (tH: ∀c,ok c=true-> ∀seen,∃fD,Sre.inSet code c code.size 5 true seen= .ok (false,fD)) (ht: ∀i,i<text.size->ok (text.getD i 0)=true)
  (h0:Sre.ops[code.getD 0 0]? =some .INFO) (h2:code.getD 2 0=4): ∃m:Sre.M,Sre.forSearch code text 0 0 text.size false=m/\m.answer=some false/\m.frames= []/\m.outcome=none:=by
 have go: ∀m:Sre.M,m.code=code->m.text=text->m.lim=text.size->m.frames= []->m.outcome=none-> ∃m',m.attemptFrom 0 true=m'/\m'.answer=some false/\m'.frames= []/\m'.outcome=none:=λm e1 e2 e3 e4 e5=>by
  have f:m.hasFirstSet=true:=by delta Sre.M.hasFirstSet;rw [e1,h0,h2];rfl
  refine cG (pO (m:=m) (ok:=ok) (by rw [e1];exact tH) (m.lim+1 - 0) 0 m.seen (λi hi=>by rw [e2];exact ht i (by rw [<-e3];exact hi))) λfD e=>Gf _ (sJ f e) rfl e4 e5
 delta Sre.forSearch;dsimp only;split
 ·exact Gf _ rfl rfl rfl rfl
 ·exact go _ rfl rfl rfl rfl rfl
theorem wk {m:Sre.M} (h1:m.answer=some false) (h2:m.frames= []) (h3:m.outcome=none):(m.runFor 4).outcome=some .failed:=by
 have e:m.step={m with outcome:=some .failed}:=by delta Sre.M.step;rw [h3,h1,h2];rfl
 have z: ∀n (m:Sre.M),m.outcome=some .failed->(m.runFor n).outcome=some .failed:=by
  intro n
  induction n with
  | zero=>intro m h;exact h
  | succ n ih=>intro m h;unfold Sre.M.runFor;rw [aG (by rw [h];rfl)];exact h
 refine(?_:(if m.outcome.isSome then m else Sre.M.runFor 3 m.step).outcome=_);rw [h3,az (by decide),e];exact z 3 _ rfl
section
variable {prog:Program} {w:World} {A:Around} {E:Value->Shared->Prop} {s:Shared}
theorem p7 {m:Sre.M} {Q:Option Sre.M->Shared->Prop} (h1:m.answer=some false) (h2:m.frames= []) (h3:m.outcome=none) (hq:Q none s):wpAny (model prog w) A (reRunToEnd m) Q E s:=by
 have e:=wk h1 h2 h3;have d:reDrive (2 ^ 64) m=pure (m.runFor reTurnSteps):=by
  show(if(m.runFor reTurnSteps).outcome.isSome then pure (m.runFor reTurnSteps)else _)=_
  rw [aG (by refine(?_:(m.runFor 4).outcome.isSome=true);rw [e];rfl)]
 refine ak (eL d ?_);refine ak (wpAny_forIn_list _ (λu v s'=>s'=s) _ (λx rest b s' hs=> ?_) (λb s' hs=> ?_) _ _ rfl)
 ·subst hs;split
  ·exact ak (rG (aQ rfl))
  ·exact aQ rfl
 ·subst hs;have e':(m.runFor reTurnSteps).outcome=some .failed:=e;rw [e'];exact aQ hq
theorem uh {fs:Array Value} {items:Array Value} {code:Array Nat} {ok:Nat->Bool} {Q:Fin->Shared->Prop} (ho:s.heap.get? a=some o) (hd:o.data= .fields fs) (h5:fs.getD 5 .none= .ref ct) (h6:reRawNat (fs.getD 6 .none)=0) (h2:reRawNat (fs.getD 2 .none)=0)
  (hc:s.heap.get? ct=some oc) (hcd:oc.data= .seq items n) (hcode:(items.map reRawOf).map (·.toNat)=code)
  (tH: ∀c,ok c=true-> ∀seen,∃fD,Sre.inSet code c code.size 5 true seen= .ok (false,fD)) (ht: ∀i,i<x.cps.size->ok (x.cps.getD i 0)=true)
  (M8:Sre.ops[code.getD 0 0]? =some .INFO) (F6:code.getD 2 0=4) (hx:x.length<=1000000) (hq:Q (.done (.ret .none)) s):wpAny (model prog w) A (Builtin.«re.Pattern.search» ⟨[.ref a,.str x t],[]⟩) Q E s:=by
 unfold Builtin.«re.Pattern.search» reTarget;have e1:reNamed "re.Pattern.search" "search" ["string","pos","endpos"] 1 [.str x t] []=pure [some (.str x t),none,none]:=by rfl
 refine ak (ak (eL e1 ?_));dsimp only;refine ak (aQ ?_);refine ak (aQ ?_);refine ak (wpAny_fieldsOf ho hd ?_);refine ak (m:=reTextOf (.str x t)) (eL (a:=(x.cps,0)) (by rfl) ?_);rw [h6];rw [az (show¬((((0:Nat)==0) && ((0:Nat)==1))=true) by decide),az (show¬((((0:Nat)==1) && ((0:Nat)==0))=true) by decide)];refine ak (m:=reNoCollectionInside (.str x t) 0) (eL (a:=()) (by rfl) ?_);rw [h5,h2];refine ak (m:=reRawItems (.ref ct)) ?_;refine ak (ur hc hcd (aQ (aQ ?_)));have ec:Array.map (λ(x:Int)=>x.toNat) (((some items).getD #[]).map reRawOf)=code:=hcode;rw [ec];have el:Min.min (2 ^ 63 - 1:Int).toNat x.cps.size=x.cps.size:=by
  have:x.cps.size<=1000000:=hx;rw [Nat.min_def];split
  ·omega
  ·rfl
 dsimp only;refine C0 (oj (code:=code) (text:=x.cps) (ok:=ok) tH ht M8 F6) λm em a1 a2 a3=>?_;have ep:Min.min (0:Int).toNat x.cps.size=0:=Nat.zero_min _;have OS:Sre.forSearch code x.cps 0 (Min.min (0:Int).toNat x.cps.size) (Min.min (2 ^ 63 - 1:Int).toNat x.cps.size) false=m:=by rw [ep,el];exact em
 refine ak ?_;rw [OS];refine p7 a1 a2 a3 ?_;exact aQ hq
end
end V
end
section
namespace V
open Builtin Builtin.Str Builtin.Re
theorem zr:PlainAttrs "re.Pattern":=
 ⟨⟨"object.__getattribute__",by rw [uD,tY];kernel_rfl,by decide+kernel⟩,by rw [uD,tY];kernel_rfl⟩
theorem mP:Slot "re.Pattern" "search" "re.Pattern.search":=
 .of (owner:="re.Pattern") (n:="search") (by rw [uD,tY];kernel_rfl) (by decide+kernel) (by decide+kernel) (by decide+kernel)
  (by first | exact .inl (by decide+kernel) | exact .inr (by decide+kernel)) (by rw [ta];kernel_rfl)
theorem vc:typeOf (.builtin "re.Pattern.search")=pure (.type "method_descriptor"):=by refine(?_:builtinType _=_);rw [builtinType_eq_fast];kernel_rfl
theorem th:entryFor table "re.Pattern.search"=some Builtin.«re.Pattern.search» :=entryFor_of_tree (by kernel_rfl)
theorem uK (a b:Value):argsOk "re.Pattern.search" ⟨[a,b],[]⟩:=by delta argsOk;kernel_rfl
noncomputable def codeN:Array Nat:= #[14,10,4,1,1,22,0,31,16,127,0,13,7,22,0,31,16,127,0,1]
noncomputable def codeV:Array Nat:= #[14,14,4,1,1,9,4294966783,0,0,2147483648,0,0,0,0,0,13,11,9,4294966783,0,0,2147483648,0,0,0,0,0,1]
noncomputable def nF (c:Nat):Bool:=decide (32<=c) && (c !=127)
theorem MR (c:Nat) (h:nF c=true) (seen:Sre.Seen): ∃fD,Sre.inSet codeN c codeN.size 5 true seen= .ok (false,fD):=by delta nF at h;rw [mI,pL,bne_iff_ne]at h;refine⟨((seen.add 22).add 16).add 0,?_⟩;refine(?_:(if(decide (0<=c) && decide (c<=31))=true then Except.ok (true,seen.add 22)else(if(c==127)=true then Except.ok (true,(seen.add 22).add 16)else Except.ok (!true,((seen.add 22).add 16).add 0)))=_);rw [az (by rw [mI,pL,pL];omega),az (by rw [gB];omega)];rfl
theorem JK: ∀c:Nat,c<256->nF c=true->((codeV.getD (5+(1+c / 32)) 0).testBit (c % 32))=false:=by decide+kernel
theorem Mz (c:Nat) (h:nF c=true) (seen:Sre.Seen): ∃fD,Sre.inSet codeV c codeV.size 5 true seen= .ok (false,fD):=by
 refine⟨(seen.add 9).add 0,?_⟩;refine(?_:(if(decide (c<256) && (codeV.getD (5+(1+c / 32)) 0).testBit (c % 32))=true then Except.ok (true,seen.add 9)else Except.ok (!true,(seen.add 9).add 0))=_);rw [az]
 ·rfl
 ·rw [mI,pL];intro z;rw [JK c z.1 h]at z;cases z.2
section
variable {C:Cx} {k:Nat} {W:Wd} {Z aB:St}
theorem Inv.ext (I:Inv C W Z s) (O:C.Ok) (h:C.K.lookup a=some o):s.heap.get? a=some o:=I.kept _ _ (O.tR _ _ h)
theorem uo (O:C.Ok) (h:C.K.lookup a=some {cls:= .type "re.Pattern",data:=d}):Mt C k Z (.ext a) "search" (.bi "re.Pattern.search"):=by intro W ro pl q;subst q;refine Op.look λA s Q hr I hq=> ?_;have g:=I.ext O h;exact tm ⟨_,g,rfl⟩ zr mP vc (λb e=>by cases e;exact i12 _ g rfl) (hq _ _ ⟨rfl,by rfl⟩)
theorem uZ (O:C.Ok) {a ct:Addr} {x:Str} {fs items:Array Value} {n:Nat} {code:Array Nat} (h:C.K.lookup a=some {cls:= .type "re.Pattern",data:= .fields fs}) (hc:C.K.lookup ct=some {cls:= .type "tuple",data:= .seq items n})
  (h5:fs.getD 5 .none= .ref ct) (h6:reRawNat (fs.getD 6 .none)=0) (h2:reRawNat (fs.getD 2 .none)=0) (hcode:(items.map reRawOf).map (·.toNat)=code) (tH: ∀c,nF c=true-> ∀seen,∃fD,Sre.inSet code c code.size 5 true seen= .ok (false,fD))
  (M8:Sre.ops[code.getD 0 0]? =some .INFO) (F6:code.getD 2 0=4) (ht:x.cps.all nF=true) (hx:x.length<=1000000):Ca C k Z (.bi "re.Pattern.search") [.ext a,.str x] [] .none Z:=by
 refine oV λW r r' q q'=> ?_;subst q;refine e9 q' λt=>Op.look λA s Q hr I hq=>z0 mP ⟨_,I.ext O h,rfl⟩ th ?_ (uK _ _);refine uh (I.ext O h) rfl h5 h6 h2 (I.ext O hc) rfl hcode tH (λi hi=> ?_) M8 F6 hx ⟨_,rfl,hq _ _ c6⟩;have:=Array.all_eq_true.mp ht i hi
 rwa [Array.getD_eq_getD_getElem?,Array.getElem?_eq_getElem hi]
end
end V
end
section
namespace V
section
variable {C:Cx} {k:Nat} {sc:Scope} {A:Around} {W:Wd} {env:Env} {ms ai aZ b6 aK:List (Option AV)} {Z ae aN bX aB:St} {s:Shared}
theorem Iw (h: ∀ra rb rc:Value,bindArgs fd ⟨[ra,rb],[(c,rc)]⟩=pure [(a,ra),(b,rb),(c,rc)]):Bd C k fd Z [x,y] [(c,z)] [(a,x),(b,y),(c,z)] Z:=by refine yq λW df fq ha hk=>gD (fF ha) λra rb q1 q2=>gD hk λrc ks q3 hk=>?_;subst hk;exact⟨_,h ra rb rc,ra,_,rfl,q1,rb,_,rfl,q2,rc,_,rfl,q3,rfl⟩
end
end V
end
section
namespace V
open Builtin Builtin.Str
section
variable {C:Cx} {k:Nat} {sc:Scope} {A:Around} {W:Wd} {env:Env} {ms ai aZ b6 aK:List (Option AV)} {Z ae aN bX aB:St} {s:Shared}
theorem jj (h1:Ev C k sc ms Z o (.str x) ai ae) (hlb:0<C.lb) (hyz:(y==z)=false) (hx:B x n) (hn:decide (n<=1000000)=true) (hz:decide (z.length<=14)=true)
  (hb: ∀env t,attributeBase o "replace" env t=t) (hl:(apos.endLine==pos.line)=true):
  Ev C k sc ms Z (.Call (.Attribute o "replace" apos) [.Constant (.str y) n1 p1,.Constant (.str z) n2 p2] [] pos) (.str (Txt.replace x y z)) ai ae:=by
 intro A W env s hr H;rw [ji,hb];refine cR (h1 A W env s hr H) λaR ro aI aA aO qo=>ak (cF ?_);delta methodCall;have hf:methodCallForm ([Expr.Constant (.str y) n1 p1,Expr.Constant (.str z) n2 p2].length+([]:List Keyword).length) (backTo pos (starEach [.Constant (.str y) n1 p1,.Constant (.str z) n2 p2] env)) (backToKw pos (keywordEach [] env))=true:=rfl;rw [hf];refine ak (cA ?_);refine Op.in rfl (Ae (k:=k) _ ro _ (qo.mono (a8 aO.fr))) hr aO λbh r aT ax aF q tk w=> ?_;obtain⟨rf,first⟩:=r;refine bG q λq1 q2=>?_;clear q;dsimp only at q1 q2;subst q2;subst q1;refine e9 qo λt=>?_;have hp:methodCallPos true o env apos pos=pure pos:=by delta methodCallPos;simp [hl]
 refine ak (eL hp ?_);have hxx:=jx hn;have M5:=jx hz;refine cK (dA (by intro x z;cases z) ?_);refine spliced_cons (x:=eval (.Constant (.str y) n1 p1) env) ?_;rw [Ad];refine wpAny_mkText (spliced_cons (x:=eval (.Constant (.str z) n2 p2) env) ?_);rw [Ad];refine wpAny_mkText (spliced_nil ⟨⟨_,Looks.of_pure rfl⟩,?_⟩);have hpos:=rO hlb aF.inv.pos;refine eO ?_;refine SC.replaceW (x:=x) (y:=y) (z:=z) (u:=aT.toks) (v:=aT.toks+1) (Nat.pos_iff_ne_zero.mp hpos) (Nat.succ_ne_zero _) (Nat.ne_of_lt (Nat.lt_succ_self _)) hyz (by delta B at hx;omega) M5 λt' tk' l=> ?_;have l':aT.toks<=tk':=by have l:aT.toks+1+1<=tk':=l;omega
 exact bw (aA.trans ax) (aF.tok tk' l') bN
end
end V
end
section
namespace V
open Builtin Builtin.Str
noncomputable abbrev PS:=List Value×Writer×List Nat
noncomputable def JE (f:Nat->PS->Sem (ForInStep PS)) (M:Model) (A:Around) (Q:PS->Shared->Prop) (E:Value->Shared->Prop) (s:Shared):Prop:=
 ∀i l v tk P w r,¬tooLong w.total=true->wpAny M A (forIn l (P,w.add ⟨v.cps.toList.toArray⟩ (if r.isEmpty=true then some (.str v tk)else none),r) f) Q E s->wpAny M A (forIn (i::l) (.str v tk::P,w,37::115::r) f) Q E s
noncomputable def JX (F:PySem.Str) (t:Tok) (f:Nat->PS->Sem (ForInStep PS)) (M:Model) (A:Around) (Q:PS->Shared->Prop) (E:Value->Shared->Prop) (s:Shared):Prop:=
 ∀i l P w c r x y,¬tooLong w.total=true->List.span (· !=37) (c::r)=(x,y)->(!x.isEmpty)=true->wpAny M A (forIn l (P,w.add ⟨x.toArray⟩ (if(x.length==F.length)=true then some (.str F t)else none),y) f) Q E s->wpAny M A (forIn (i::l) (P,w,c::r) f) Q E s
noncomputable def KZ (f:Nat->PS->Sem (ForInStep PS)) (M:Model) (A:Around) (Q:PS->Shared->Prop) (E:Value->Shared->Prop) (s:Shared):Prop:=
 ∀i l P w,¬tooLong w.total=true->Q (P,w,[]) s->wpAny M A (forIn (i::l) (P,w,[]) f) Q E s
theorem BU {f:Nat->PS->Sem (ForInStep PS)} {g:List Value->Writer->List Nat->Sem (ForInStep PS)} {KK:PySem.Str->Tok->List Value->Writer->List Nat->List Nat×Option Value×Bool->Sem (ForInStep PS)}
 (K: ∀i P w r,¬tooLong w.total=true->f i (P,w,r)=g P w r)
 (h1: ∀v tk P w r,g (Value.str v tk::P) w (37::115::r)=holding [.str v tk] (pure (v.cps.toList,some (.str v tk),false))>>=KK v tk P w r)
 (h2: ∀v tk P w r,KK v tk P w r (v.cps.toList,some (.str v tk),false)=pure (ForInStep.yield (P,w.add ⟨v.cps.toList.toArray⟩ (if r.isEmpty=true then some (.str v tk)else none),r)))
 (h3: ∀P w c r x y,List.span (· !=37) (c::r)=(x,y)->(!x.isEmpty)=true->g P w (c::r)=pure (ForInStep.yield (P,w.add ⟨x.toArray⟩ (if(x.length==F.length)=true then some (.str F t)else none),y)))
 (h4: ∀P w,g P w []=pure (ForInStep.done (P,w,[]))):JE f M A Q E s/\JX F t f M A Q E s/\KZ f M A Q E s:=by
 refine⟨?_,?_,?_⟩
 ·intro i l v tk P w r hc h;refine KPc.turn ?_;rw [K i _ w _ hc,h1 v tk P w r];refine ak (cA (aQ ?_));rw [h2 v tk P w r];exact aQ h
 ·intro i l P w c r x y hc e hx h;refine KPc.turn ?_;rw [K i _ w _ hc,h3 P w c r x y e hx];exact aQ h
 ·intro i l P w hc h;refine KPc.turn ?_;rw [K i _ w _ hc,h4 P w];exact aQ h
theorem Hu {F T:PySem.Str} {t:Tok} {b:Addr} {its:Array Value}
  (k: ∀f M A Q E s,JE f M A Q E s->JX F t f M A Q E s->KZ f M A Q E s->(∀w N,KPc.Good w T N->N<=16777216->Q ([],w,[]) s)->wpAny M A (forIn (List.range' 0 F.length 1) (its.toList,({}:Writer),F.cps.toList) f) Q E s):
  Meets («str.__mod__» ⟨[.str F t,.ref b],[]⟩) (λu R s=>IsTup s.heap b its/\ ∀t' k,R (.ok (.ret (.str T t'))) {s with toks:=k}):=by
 apply KPt.meets_tup;intro p w A s Q E H hq;obtain⟨kptO,kptG,kptC,kptN,kptD⟩:=H;rw [KPt.entry_is_r];delta Builtin.Str.percentFormat;refine ak (wpAny_isInstance (T:="tuple") ⟨kptO,kptG,kptC⟩ KPt.sub_tt ?_);refine ak (KPt.asStr_ref kptG kptD ?_);refine ak (KPt.fills_ref ⟨kptO,kptG,kptC⟩ ?_);intro bb;refine ak (ur kptG kptD ?_);refine ak (aQ ?_);refine ak ?_;rw [KPc.range_list];refine nR (BU (λi P w r h=>az h) (λv tk P w r=>rfl) (λv tk P w r=>rfl) ?_ (λP w=>rfl)) λz1 z2 z3=>k _ _ _ _ _ _ z1 z2 z3 ?_
 ·intro P w c r x y e hx;rw [e];exact aG hx
 ·intro w N hg hN;exact wpAny_ite (KPc.ite_no dN (KPc.finish_ok hg hN rfl hq))
theorem vR (x y:PySem.Str) (t t1 t2:Tok) (b:Addr) (hx:x.length<=1000000) (hy:y.length<=1000000):Meets («str.__mod__» ⟨[.str ⟨#[37,115,58,32,37,115]⟩ t,.ref b],[]⟩)
  (λu R s=>IsTup s.heap b #[.str x t1,.str y t2]/\ ∀t' k,R (.ok (.ret (.str (x++PySem.Str.ofString ": "++y) t'))) {s with toks:=k}):=by
 refine Hu λf M A Q E s z1 z2 z3 fin=>KPc.start λw0 g0=>z1 _ _ _ _ _ _ _ (KPc.short_good g0 (by decide)) (KPc.after_str0 g0 hx (KPc.obj_none rfl) λw1 g1=> ?_);refine z2 _ _ _ _ _ _ [58,32] _ (KPc.short_good g1 (by decide)) rfl rfl (KPc.after_add g1 (y:=PySem.Str.ofString ": ") (by kernel_rfl) (KPc.obj_none rfl) λw2 g2=> ?_);refine z1 _ _ _ _ _ _ _ (KPc.short_good g2 (by decide+kernel)) (KPc.after_str g2 hy (KPc.obj_some rfl) λw3 g3=> ?_);exact z3 _ _ _ _ (KPc.short_good g3 (by decide+kernel)) (fin _ _ g3 (by decide+kernel))
end V
end
section
namespace V
open Builtin Builtin.Str
section
variable {C:Cx} {k:Nat} {sc:Scope} {A:Around} {W:Wd} {env:Env} {ms ai aZ b6 aK:List (Option AV)} {Z ae aN bX aB:St} {s:Shared}
theorem KD (hX:X=X') (hm: ∀(t t1 t2:Tok) (b:Addr),Meets («str.__mod__» ⟨[.str X' t,.ref b],[]⟩) (λg R s=>IsTup s.heap b #[.str x t1,.str y t2]/\ ∀t' k,R (.ok (.ret (.str T t'))) {s with toks:=k})):
  di C k Z (binaryOp .Mod) (.str X) (.tup [.str x,.str y]) (λW r=>aw W (.str T) r) Z:=by
 subst hX;intro W ra rb qa qb;refine cG qa λt w=>?_;clear qa;subst w;refine Op.look λA s Q hr I hq=> ?_;refine lU (qb.isTup I) λla vs n v=>?_;subst v;intro hl ks;refine fu (fF ks) λv1 v2 u=>?_;subst u;intro q1 q2;refine cG q1 λt1 z=>?_;clear q1;subst z;refine cG q2 λt2 q=>?_;clear q2;subst q;exact KPt.bin_left (T:="str") (U:="tuple") (op:= .Mod) (by decide) (pF s X t) ⟨_,hl,rfl⟩ F.fills_str_mod KPt.fills_tuple F.slot_str_mod
  (pV F.slot_str_mod (pF s X t) F.entry_str_mod (F.args_str_mod_2 _ _) (hm t t1 t2 la) ⟨⟨_,hl,rfl,n,rfl⟩,λt' k=>⟨(λe=>nomatch e),hq _ _ bN⟩⟩)
theorem DH (hx:B x a) (hy:B y b) (ha:decide (a<=1000000)=true) (hb:decide (b<=1000000)=true):di C k Z (binaryOp .Mod) (.str (PySem.Str.ofString "%s: %s")) (.tup [.str x,.str y]) (λW r=>aw W (.str (x++PySem.Str.ofString ": "++y)) r) Z:=
 KD (by decide+kernel) λt t1 t2 b=>vR x y t t1 t2 b (bU hx (jx ha)) (bU hy (jx hb))
end
end V
end
section
namespace V
section
variable {C:Cx} {k:Nat} {sc:Scope} {A:Around} {W:Wd} {env:Env} {ms ai aZ b6 aK:List (Option AV)} {Z ae aN bX aB:St} {s:Shared}
theorem sR (O:C.Ok) (hK:C.K.lookup da=some {cls:= .type "tuple",data:= .seq items n})
  (h: ∀df:List Value,df.length=as.length-> ∃G,bindArgs fd ⟨df,[]⟩=(seqItems? (.ref da)>>=G)/\G (some items)=pure ((bs.map (·.1)).zip (df++dv))) (hb:bs.map (·.2)=as++Mi) (hd: ∀W,aU W Mi dv):Bd C k fd Z as [] bs Z:=by
 intro W df fq ha hk;subst hk;refine Op.look λA s Q hr I hq=>c12 (h df ha.length) λG e1 e2=>?_;rw [e1];refine ak (ur (I.ext O hK) rfl ?_);rw [e2];exact aQ (hq _ s.toks (iU (by rw [hb];exact ha.append (hd W))))
theorem kf (h:B x n):B (Txt.replace x y z) (n+(n+1) * z.length):=by
 delta B at *;delta Txt.replace;split
 ·omega
 ·have h1:=StrLaws.occ_length_le x y 0 x.length (x.length+1);have hy:(Builtin.Str.glued y (Builtin.Str.partsBetween x (Builtin.Str.occurrences x y 0 x.length (x.length+1)) y.length)).length=x.length:=by rw [StrLaws.glued_between_self]
  rw [size_glued,PySem.length_partsBetween,Nat.add_sub_cancel]at hy;rw [size_glued,PySem.length_partsBetween,Nat.add_sub_cancel];have h2:(Builtin.Str.occurrences x y 0 x.length (x.length+1)).length * z.length<=(x.length+1) * z.length:=Nat.mul_le_mul_right _ h1;have h3:(x.length+1) * z.length<=(n+1) * z.length:=Nat.mul_le_mul_right _ (by omega);omega
theorem yI (h1:Ev C k sc ms Z e (.str x) ai ae) (hx:B x n) (hn:decide (n<=16777216)=true):Ev C k sc ms Z (.FormattedValue e 115 none pos) (.str x) ai ae:=by intro A W env s hr H;refine wpAny_FormattedValue_s (bf (h1 A W env s hr H) λaR r aI aA aO q=> ?_);refine e9 q λt=>eO (SB.convS_str (λt' k' l=> ?_) (kK hx hn));have aF:=aO.tok k' l;refine eO (SB.field_str (λt'' OT OU=> ?_) (kK hx hn));exact bw aA (aF.tok OT OU) bN
noncomputable def Jn (C:Cx) (k:Nat) (sc:Scope) (ms:List (Option AV)) (Z:St) (es:List Expr) (acc out:Str) (aK:List (Option AV)) (aB:St):Prop:=
 ∀A W env s (Q:Str->Shared->Prop),bY C A k->At C sc A W env ms Z s->(∀W' s',W.le W'->At C sc A W' env aK aB s'->Q out s')->Joins C.M A No (evalEach es env) acc Q s
theorem HU:Jn C k sc ms Z [] acc acc ms Z:=λA W env s Q hr H hq=>Joins_nil (hq W s (.refl W) H)
theorem nT (h1:Ev C k sc ms Z e (.str y) ai ae) (hb:B (acc++y) n) (hn:decide (n<=16777216)=true) (h2:Jn C k sc ai ae es (acc++y) out aK aB):Jn C k sc ms Z (e::es) acc out aK aB:=by intro A W env s Q hr H hq;refine Joins_cons (bf (h1 A W env s hr H) λaR r aI aA aO q=> ?_);refine e9 q λt=>jE y t rfl (kK hb hn) (h2 A aR env aI Q hr aO λW' s' le H'=>hq W' s' (aA.trans le) H')
theorem zL (h:Jn C k sc ms Z (e1::e2::es) Str.empty out aK aB) (hb:B out n) (hn:decide (n<=16777216)=true):Ev C k sc ms Z (.JoinedStr (e1::e2::es) pos) (.str out) aK aB:=by intro A W env s hr H;refine wpAny_JoinedStr (h A W env s _ hr H λW' s' le H'=>⟨kK hb hn,?_⟩);exact bw le (H'.tok (s'.toks+1)) bN
theorem xA:Str.empty++x=x:=Str.append_left_empty (by rfl)
noncomputable def rowsOf (P:Params):List Str->List (Tok×Value)->List DictEntry
 | k::ks,x::xs=>⟨PyData.keyHash P k,.str k x.1,x.2⟩::rowsOf P ks xs
 | _,_=> []
theorem ik.rows: ∀{es:List (Str×AV)} {ds:List DictEntry},ik C W es ds-> ∃xs:List (Tok×Value),xs.length=es.length/\ds=rowsOf C.w.params (es.map (·.1)) xs/\aU W (es.map (·.2)) (xs.map (·.2)):=by
 intro aH;induction aH with
 | nil=>
  intro u q;exact by subst q;exact vO ([]) rfl rfl (.nil)
 | cons dQ r ih=>intro u q;obtain⟨k,x⟩:=dQ;refine Eg q λt v ds' a b=>?_;refine fP (ih b) λxs h1 z=>?_;subst z;intro h3;exact vO ((t,v)::xs) (by simp [h1]) rfl (.cons a h3)
theorem yj: ∀{es:List (Str×AV)} {xs:List (Tok×Value)},aU W (es.map (·.2)) (xs.map (·.2))->ik C W es (rowsOf C.w.params (es.map (·.1)) xs)
 | [],[],_=>rfl
 | [],_::_,q=>by exact GC q
 | (k,x)::r,[],q=>by rw [dj]at q;refine v8 q λv r e _=>?_;clear q;exact Iq e
 | (k,x)::r,(t,v)::xs,q=>by rw [dj,dj]at q;refine fu q λv' r' e a b=>?_;clear q;cases e;exact zt t v _ rfl a (yj b)
noncomputable def tabOf (P:Params) (ks:List Str) (xs:List (Tok×Value)) (n:Nat):Obj:={cls:= .type "dict",data:= .dict (rowsOf P ks xs).toArray n}
theorem Inv.inst (I:Inv C W Z s) (hl:Z l=some (.inst c d)) (hd:Z d=some (.dict es)) (q:aw W (.loc l) rv):
  ∃x dx xs n,rv= .ref x/\W.ρ d=some dx/\InstAt s.heap x (instObj c dx) c (some (tabOf C.w.params (es.map (·.1)) xs n))/\s.heap.get? dx=some (tabOf C.w.params (es.map (·.1)) xs n)/\xs.length=es.length/\aU W (es.map (·.2)) (xs.map (·.2)):=by
 refine uU q λx e=>?_;obtain⟨ob,h1,dx,hdx,rfl⟩:=I.obj l x _ e hl;obtain⟨od,h2,ds,n,rfl,hr⟩:=I.obj d dx _ hdx hd;refine fP hr.rows λxs e1 z=>?_;subst z;intro e3;exact⟨x,dx,xs,n,rfl,hdx,⟨h1,rfl,rfl,h2⟩,h2,e1,e3⟩
theorem e8 (O:C.Ok) (I:Inv C W Z s):C.K.In s.heap:=λa o h=>I.kept _ _ (O.tR _ _ h)
theorem qJ (q:aw W v r) (hv: ∀id,v≠ .bi id) (ha:v≠ .any):handedIn r=true:=by
 cases v with
 | none=>subst q;rfl
 | any=>exact absurd rfl ha
 | bool b=>subst q;rfl
 | int i=>refine e9 q λt=>?_;rfl
 | str i=>refine e9 q λt=>?_;rfl
 | bytes i=>refine e9 q λt=>?_;rfl
 | ty n=>subst q;rfl
 | bi n=>exact absurd rfl (hv n)
 | ext a=>subst q;rfl
 | loc l=>refine uU q λt _=>?_;rfl
 | mw id l=>refine lU q λa b o _ m=>?_;clear q;subst m;intro g;rfl
 | bm id l=>refine lU q λa b o _ y=>?_;clear q;subst y;intro g;rfl
 | Az a b c=>refine OE q λb o vx vy vz w=>?_;clear q;subst w;intro g;rfl
 | fld n xs=>obtain⟨_,b,o,vs,rfl,_⟩:=q;rfl
 | tup xs=>refine L8 q λa o vs n u=>?_;clear q;subst u;intro g;rfl
 | lst xs=>refine L8 q λa o vs n z=>?_;clear q;subst z;intro g;rfl
theorem lX (O:C.Ok) {l d:Loc} {c:Addr} {es:List (Str×AV)} {name:Str} {v:AV} {i:Nat} (hl:Z l=some (.inst c d)) (hd:Z d=some (.dict es)) (hga:findIn C.K (.ref c) "__getattribute__"=some (some (.builtin "object.__getattribute__")))
  (hi:(es.map (·.2))[i]? =some v) (hf: ∀(xs:List (Tok×Value)) (n:Nat) (r:Value),xs.length=es.length->(xs.map (·.2))[i]? =some r->findObj C.K c (some (tabOf C.w.params (es.map (·.1)) xs n)) name=some (.value r)) (hv: ∀id,v≠ .bi id) (ha:v≠ .any):
  ib C k Z (λx=>getAttr x name true) (.loc l) (λW r=>aw W v r) Z:=by
 intro W ra q;refine Op.look λA s Q hr I hq=> ?_;refine Kx (I.inst hl hd q) λx dx xs n hdx IA _ u=>?_;refine bG u λhlen hvs=>?_;refine c12 (hvs.get hi) λr hr' qr=>get_value (e8 O I) IA hga (hf xs n r hlen hr') (qJ qr hv ha) (hq _ _ qr)
theorem qm (O:C.Ok) (hl:Z l=some (.inst c d)) (hd:Z d=some (.dict es)) (hga:findIn C.K (.ref c) "__getattribute__"=some (some (.builtin "object.__getattribute__"))) (hk:findIn C.K (.ref c) "__getattr__"=some none)
  (hf:findIn C.K (.ref c) name=some (some (.ref f))) (ht:typeIn C.K (.ref f)=some (.type "function")) (hs: ∀(xs:List (Tok×Value)) (n:Nat),xs.length=es.length->shadowIn (some (tabOf C.w.params (es.map (·.1)) xs n)) name=some false):Mt C k Z (.loc l) name (.ext f):=by
 intro W ro pl q;refine Op.look λA s Q hr I hq=> ?_;refine wj (I.inst hl hd q) λx dx xs n z=>?_;subst z;intro hdx IA v u;refine bG u λhlen hvs=>?_;exact method_fn (e8 O I) IA hga hk hf ht (hs xs n hlen) (hq _ _ ⟨rfl,rfl⟩)
end
end V
end
section
namespace V
section
variable {prog:Program} {w:World} {A:Around} {E:Value->Shared->Prop} {s:Shared} {K:Frag} {R:Result->Shared->Prop}
set_option tactic.hygienic true in
theorem C9 {x c dx:Addr} {od od':Obj} {name:Str} {tk:Tok} {v:Value} {es:List DictEntry} {n:Nat} (X:K.In s.heap) (I:InstAt s.heap x (instObj c dx) c (some od)) (D:s.heap.get? dx=some od)
  (hp:plainOver K c=true) (ht:takerIn K c name=some none) (hh:(clsIn K c).any (·.hasDict)=true) (hl:(lookIn name od).isSome=true)
  (e:Obj.putName name (PyData.keyHash w.params name) (.str name s.toks) v od=od') (e':od'.data= .dict es.toArray n) (hz:es.length<=1000) (hf:od'.isFreed=false)
  (h:R (.ok (.ret .none)) {s with heap:=s.heap.update dx (Obj.putName name (PyData.keyHash w.params name) (.str name s.toks) v),toks:=s.toks+1}):
  codeAny (model prog w) A (.call (.builtin "object.__setattr__") ⟨[.ref x,.str name tk,v],[]⟩) R s:=by
 refine osa_open X I hp ht λb=> ?_;obtain⟨cd,hc⟩: ∃cd,clsIn K c=some cd:=by
  cases q:clsIn K c with
  | none=>rw [q]at hh;exact tQ hh
  | some cd=>exact⟨cd,rfl⟩
 have hd':cd.hasDict=true:=by rw [hc]at hh;exact hh
 have hx:=I.at_;have D':(s.heap.update dx (Obj.putName name (PyData.keyHash w.params name) (.str name s.toks) v)).get? dx=some od':=e▸jw _ D (e▸hf);refine ak (aQ (ak (ak (wpAny_loadPart hx (ak ((looks_clsIn X hc).here ?_))))));rw [hd'];refine aQ (a:=some dx) (ak (aQ (ak ?_)));refine ak (ak (wpAny_askSetting (aQ (ak (wpAny_mkText (ak (wpAny_loadPart D ?_)))))));delta lookIn at hl;split at hl
 ·rename_i GR F7 q;rw [q];dsimp only;have c0:(!GR.any (·.key.isStr name) && GR.any (·.refKey))=false:=by
   rw [<-Array.any_toList,<-Array.any_toList];split at hl
   ·rename_i en he;rw [yT.mpr ⟨en,List.mem_of_find?_eq_some he,List.find?_some he⟩];rfl
   ·split at hl
    ·exact tQ hl
    ·rename_i z;rw [Bool.not_eq_true]at z;rw [z,Bool.and_false]
  rw [aRefKeyMayBeTheName_at,c0];refine wpAny_updatePart D ?_;refine ak (wpAny_lookBehind D' (by rw [e'];exact pastItsLine_dict (by rw [CW,jr];omega)) ?_);exact aQ h
 ·exact tQ hl
end
section
variable {C:Cx} {k:Nat} {W:Wd} {Z aB:St}
theorem xE (O:C.Ok) {l d:Loc} {c:Addr} {es es':List (Str×AV)} {name:Str} {v:AV} (hl:Z l=some (.inst c d)) (hd:Z d=some (.dict es)) (hs:findIn C.K (.ref c) "__setattr__"=some (some (.builtin "object.__setattr__")))
  (hp:plainOver C.K c=true) (ht:takerIn C.K c name=some none) (hh:(clsIn C.K c).any (·.hasDict)=true) (hz:es'.length<=1000)
  (hlook: ∀(xs:List (Tok×Value)) (n:Nat),xs.length=es.length->(lookIn name (tabOf C.w.params (es.map (·.1)) xs n)).isSome=true)
  (M9: ∀(W:Wd) (xs:List (Tok×Value)) (n:Nat) (tk:Tok) (r:Value),xs.length=es.length->aU W (es.map (·.2)) (xs.map (·.2))->aw W v r->
   ∃xs' n',Obj.putName name (PyData.keyHash C.w.params name) (.str name tk) r (tabOf C.w.params (es.map (·.1)) xs n)=tabOf C.w.params (es'.map (·.1)) xs' n'/\xs'.length=es'.length/\aU W (es'.map (·.2)) (xs'.map (·.2))):
  di C k Z (λx y=>setAttr x name y) (.loc l) v (λg m=>True) (Z.set d (.dict es')):=by
 intro W ra rb q qv A s outer hr hA hS I;refine Kx (I.inst hl hd q) λx dx xs n hdx IA hdo u=>?_;refine bG u λhlen hvs=>?_;refine fu (M9 W xs n (s.toks+1) rb hlen hvs qv) λxs' n' ep el ev=>?_;have len: ∀{ks:List Str} {xs:List (Tok×Value)},(rowsOf C.w.params ks xs).length<=ks.length:=by
  intro ks
  induction ks with
  | nil=>intro xs;exact bT _
  | cons k ks ih=>
   intro xs;cases xs with
   | nil=>exact dW _
   | cons x xs=>exact Nat.succ_le_succ ih
 refine set_plain (e8 O I) IA hs ?_;refine C9 (s:={s with toks:=s.toks+1}) (show C.K.In s.heap from e8 O I) IA hdo hp ht hh (hlook xs n hlen) ep (es:=rowsOf C.w.params (es'.map (·.1)) xs') (n:=n') rfl (bU len (by rw [bu];exact hz)) rfl ?_;refine⟨W,.refl W,I.upd (t:=s.toks+1+1) (d:=s.drawn) hdx (ew _ _ _) (jw _ hdo (by rw [ep];rfl)) ⟨_,n',ep,yj ev⟩ (by omega),trivial⟩
end
end V
end
section
namespace V
open Builtin Builtin.Str
noncomputable def gU (es:List (Str×AV)) (k:Str):Option AV:=(es.find? λe=>decide (e.1=k)).map (·.2)
noncomputable def dput (es:List (Str×AV)) (k:Str) (v:AV):List (Str×AV):=
 if es.any (λe=>decide (e.1=k))then es.map (λe=>if e.1=k then(e.1,v)else e)else es++ [(k,v)]
noncomputable def Ce (es:List (Str×AV)) (k:Str):List (Str×AV):=es.filter λe=>decide (e.1≠k)
noncomputable def DN (es:List (Str×AV)):Prop:=(es.map (·.1)).Nodup
section
variable {C:Cx} {k:Nat} {sc:Scope} {A:Around} {W:Wd} {env:Env} {ms ai aZ b6 aK:List (Option AV)} {Z ae aN bX aB:St} {s:Shared}
noncomputable abbrev sk (C:Cx):=PySem.strKind C.prog C.w
theorem bK.keys: ∀{es:List (Str×AV)} {kvs:List (Str×Value)},bK W es kvs->kvs.map (·.1)=es.map (·.1):=by
 intro aH;induction aH with
 | nil=>
  intro u h;exact by subst h;rfl
 | cons dQ r ih=>intro u h;obtain⟨n,x⟩:=dQ;refine gD h λv ks _ h=>?_;simp [ih h]
theorem bK.length (h:bK W es kvs):kvs.length=es.length:=by have:=dM List.length h.keys;simpa using this
theorem bK.find: ∀{es:List (Str×AV)} {kvs:List (Str×Value)},bK W es kvs->(gU es key=none/\valueAt kvs key=none)\/ ∃x v,gU es key=some x/\valueAt kvs key=some v/\aw W x v:=by
 intro aH;induction aH with
 | nil=>
  intro u h;exact by subst h;exact .inl ⟨rfl,rfl⟩
 | cons dQ r ih=>
  intro u h;obtain⟨n,x⟩:=dQ;refine gD h λv ks q h=>?_;unfold gU valueAt;by_cases e:n=key
  ·refine .inr ⟨x,v,?_,?_,q⟩<;>simp [e]
  ·have:=ih h;unfold gU valueAt at this;simpa [e]using this
theorem bK.any: ∀{es:List (Str×AV)} {kvs:List (Str×Value)},bK W es kvs->kvs.any (λkv=>decide (kv.1=key))=es.any (λe=>decide (e.1=key)):=by
 intro aH;induction aH with
 | nil=>
  intro u h;exact by subst h;rfl
 | cons dQ r ih=>intro u h;obtain⟨n,x⟩:=dQ;refine gD h λv ks q h=>?_;simp only [List.any_cons];rw [ih h]
theorem bK.G7 (q:aw W x v): ∀{es:List (Str×AV)} {kvs:List (Str×Value)},bK W es kvs->bK W (es.map λe=>if e.1=key then(e.1,x)else e) (kvs.map λkv=>if kv.1=key then(kv.1,v)else kv):=by
 intro aH;induction aH with
 | nil=>
  intro w h;exact by subst h;rfl
 | cons dQ r ih=>
  intro w h;obtain⟨n,y⟩:=dQ;refine gD h λu ks q' h=>?_;by_cases e:n=key
  ·simp only [dj,e,if_true];exact jE v _ rfl q (ih h)
  ·simp only [dj,e,jG];exact jE u _ rfl q' (ih h)
theorem bK.app (q:aw W x v): ∀{es:List (Str×AV)} {kvs:List (Str×Value)},bK W es kvs->bK W (es++ [(key,x)]) (kvs++ [(key,v)]):=by
 intro aH;induction aH with
 | nil=>
  intro w h;exact by subst h;exact jE v ([]) rfl q rfl
 | cons dQ r ih=>intro w h;obtain⟨n,y⟩:=dQ;refine gD h λu ks q' h=>jE u _ rfl q' (ih h)
theorem bK.put (h:bK W es kvs) (q:aw W x v):bK W (dput es key x) (stored kvs key v):=by
 delta dput stored;rw [h.any];split
 ·exact h.G7 q
 ·exact h.app q
theorem bK.del: ∀{es:List (Str×AV)} {kvs:List (Str×Value)},bK W es kvs->bK W (Ce es key) (without kvs key):=by
 intro aH;induction aH with
 | nil=>
  intro v h;exact by subst h;rfl
 | cons dQ r ih=>
  intro v h;obtain⟨n,y⟩:=dQ;refine gD h λu ks q' h=>?_;have ih:=ih h;unfold Ce without at ih⊢;by_cases e:n=key
  ·simpa [e]using ih
  ·simp only [pP,e,ne_eq,not_false_eq_true,decide_true,if_true];exact jE u _ rfl q' ih
theorem C7 {es:List (Str×AV)} {n:Nat} {a:Addr} {ob:Obj} {h:Heap} (hn:DN es) (q:eY C W (.map es n) ob) (g:h.get? a=some ob): ∃kvs,h.DictAt (sk C) a kvs n/\bK W es kvs:=by
 refine c12 q λds w=>?_;clear q;subst w;intro r;have key: ∀{es:List (Str×AV)} {ds:List DictEntry},ik C W es ds-> ∃kvs,bK W es kvs/\Pairs (sk C) ds kvs/\ ∀e∈ds,∃k,(sk C).is k e.key=true/\e.hash=(sk C).hash k:=by
  intro es
  induction es with
  | nil=>intro ds r;subst r;exact vO ([]) rfl (.nil) λe he=>by exact jc he
  | cons p es ih=>
   intro ds r;obtain⟨n,x⟩:=p;refine lU r λt v ds' u=>?_;clear r;subst u;intro a b;refine fP (ih b) λkvs k1 k2 k3=>?_;have hs:(sk C).is n (.str n t)=true:=oQ _ _ _ _;refine vO ((n,v)::kvs) ⟨v,kvs,rfl,a,k1⟩ (.cons hs rfl k2) λe he=>aP (cI.mp he) (λz=>?_) λhe=>?_
   ·subst z;exact i12 n hs rfl
   ·exact k3 e he
 refine fP (key r) λkvs k1 k2 k3=>?_;refine i12 kvs ⟨_,ds.toArray,g,⟨rfl,rfl,rfl⟩,rfl,λe he=>k3 e (by simpa using he),by simpa using k2,by rw [k1.keys];exact hn⟩ k1
theorem Eo {es:List (Str×AV)} {a:Addr} {ob:Obj} {h:Heap} (hn:DN es) (q:eY C W (.dict es) ob) (g:h.get? a=some ob): ∃kvs,h.DictOf (sk C) a kvs/\bK W es kvs:=by refine v8 q λds n e r=>c12 (C7 (n:=n) hn ⟨ds,e,r⟩ g) λkvs k1 k2=>i12 kvs k1.dictOf k2
noncomputable def qW (Z:St) (l:Loc) (es:List (Str×AV)):Prop:=Z l=some (.dict es)\/ ∃n,Z l=some (.map es n)
theorem qW.obj (h:qW Z l es) (I:Inv C W Z s) (e:W.ρ l=some a): ∃ob,s.heap.get? a=some ob/\eY C W (.dict es) ob:=by
 refine aP h (λh=>?_) λq=>cG q λn h=>?_
 ·exact I.obj l a _ e h
 ·obtain⟨ob,h1,ds,h2,h3⟩:=I.obj l a _ e h;exact⟨ob,h1,ds,n,h2,h3⟩
theorem yu {es:List (Str×AV)} {a:Addr} {kvs:List (Str×Value)} {h:Heap} (hd:h.DictOf (sk C) a kvs) (q:bK W es kvs): ∃ob,h.get? a=some ob/\eY C W (.dict es) ob:=by
 refine NQ hd λo ds ep g u e4 k3 k2 _=>nR u λe1 e2 e3=>?_;clear hd;obtain⟨oc,od,dt,sl⟩:=o;simp only at e1 e2 e3 e4;subst e1 e2 e3 e4;refine⟨_,g,ds.toList,ep,by simp,?_⟩;have key: ∀{es:List (Str×AV)} {kvs:List (Str×Value)} {ds:List DictEntry},bK W es kvs->Pairs (sk C) ds kvs->(∀e∈ds,∃k,(sk C).is k e.key=true/\e.hash=(sk C).hash k)->ik C W es ds:=by
  intro es
  induction es with
  | nil=>intro kvs ds q p w;subst q;cases p;rfl
  | cons p es ih=>
   intro kvs ds q pp hk;obtain⟨n,x⟩:=p;refine fu q λv ks z=>?_;clear q;subst z;intro qv q;cases pp with
   | @cons e _ ds _ h1 h2 h3=>refine c12 (hk e (.head _)) λk' i1 i2=>?_;have ek:k'=n:=(sk C).inj _ _ _ i1 h1;subst ek;refine cG (xr h1) λt ht=>?_;obtain⟨eh,ekk,ev⟩:=e;simp only at ht i2 h2;subst ht i2 h2;exact⟨t,_,ds,rfl,qv,ih q h3 λe he=>hk e (.tail _ he)⟩
 exact key q k2 λe he=>k3 e (by simpa using he)
theorem Inv.B3 (I:Inv C W Z s) (e:W.ρ l=some a):(a==sysModules)=false:=by
 have:=I.high.2 l a e;have h:a≠sysModules:=λz=>by rw [z]at this;exact absurd this (by decide)
 simpa using h
theorem Inv.dict (I:Inv C W Z s) (h:qW Z l es) (hn:DN es) (q:aw W (.loc l) rv):
  ∃a kvs,rv= .ref a/\W.ρ l=some a/\(a==sysModules)=false/\s.heap.DictOf (sk C) a kvs/\bK W es kvs:=by
 refine uU q λa e=>c12 (h.obj I e) λob h1 h2=>c12 (Eo hn h2 h1) λkvs k1 k2=>Mu a kvs rfl e (I.B3 e) k1 k2
theorem Inv.wJ (I:Inv C W Z s) (e:W.ρ l=some a) (hd:h'.DictOf (sk C) a kvs) (q:bK W es kvs) (hs:Heap.SameBut a s.heap h') (ht:s.toks<=t):Inv C W (Z.set l (.dict es)) {s with heap:=h',toks:=t}:=by refine c12 (yu hd q) λob h1 h2=>?_;exact I.upd (d:=s.drawn) e (λb o n z=>by rw [hs.2 b n];exact z) h1 h2 ht
theorem Cf (h:qW Z l es) (hn:DN es) (hx:gU es key=some x):di C k Z getItem (.loc l) (.str key) (λW r=>aw W x r) Z:=by
 intro W ra rb qa qb;refine e9 qb λt=>Op.look λA s Q hr I hq=>Br (I.dict h hn qa) λa kvs e ns hd hk=>aP (hk.find (key:=key)) (λu=>bG u λz _=>?_) λq=>fu q λy v z1 z2 z3=>?_
 ·rw [z]at hx;exact dC hx
 ·rw [z1]at hx;cases hx;exact wpAny_getItem_of (knd:=sk C) (k:=key) (oQ _ _ _ _) hd.mapOf z2 (hq _ _ z3)
theorem BS (h:qW Z l es) (hn:DN es) (hz:es.length<=sizeLine):J3 C k Z setItem (.loc l) (.str key) x (λu v=>True) (Z.set l (.dict (dput es key x))):=by intro W ra rb rc qa qb qc A s outer hr hA hS I;refine e9 qb λt=>Br (I.dict h hn qa) λa kvs e ns hd hk=>?_;exact wpAny_setItem_pairs (knd:=sk C) (k:=key) (oQ _ _ _ _) hd (λh' hd' hs=>⟨W,.refl W,I.wJ e hd' (hk.put qc) hs (ju _),trivial⟩) (by rw [hk.length];exact hz)
theorem Lg (h:qW Z l es) (hn:DN es) (hc:(gU es key).isSome=c):di C k Z (compareOp .In) (.str key) (.loc l) (λW r=>aw W (.bool c) r) Z:=by
 intro W ra rb qa qb;refine e9 qa λt=>Op.look λA s Q hr I hq=>Br (I.dict h hn qb) λa kvs e ns hd hk=>wpAny_in_of (knd:=sk C) (k:=key) (oQ _ _ _ _) ns hd.mapOf (hq _ _ ?_);refine aP (hk.find (key:=key)) (λu=>bG u λz z'=>?_) λq=>fu q λy v z1 z2 z3=>?_
 ·rw [<-hc,z,z'];rfl
 ·rw [<-hc,z1,z2];rfl
theorem Kc (h:qW Z l es) (hn:DN es) (hz:es.length<=sizeLine) (hx:(gU es key).isSome=true):di C k Z delItem (.loc l) (.str key) (λw g=>True) (Z.set l (.dict (Ce es key))):=by
 intro W ra rb qa qb A s outer hr hA hS I;refine e9 qb λt=>Br (I.dict h hn qa) λa kvs e ns hd hk=>?_;have hv:(valueAt kvs key).isSome=true:=by
  refine aP (hk.find (key:=key)) (λu=>bG u λz z'=>?_) λq=>fu q λy v z1 z2 z3=>?_
  ·rw [z]at hx;exact tQ hx
  ·rw [z2];rfl
 delta delItem
 try with_reducible refine cA ?_
 refine ak (wpAny_sequenceKey hd.typeIs (by decide) ?_);refine ak (Fw (name:=Str.ofString "__delitem__") hd.typeIs PySem.F.slot_dict_delitem
  (call_meetsIn PySem.F.slot_dict_delitem hd.typeIs PySem.F.entry_dict_delitem (PySem.F.args_dict_delitem_2 _ _) (meets_dict_delitem_pairs (sk C) (k:=key) a (oQ _ _ _ _)) ⟨kvs,hd,(by rw [hk.length];exact hz),hv,λh' hd' hs=> ?_⟩))
 exact aQ ⟨W,.refl W,I.wJ e hd' hk.del hs (ju _),trivial⟩
theorem rS {es:List (Str×AV)} {id:String} (h:qW Z l es) (hg: ∀(A:Around) (s:Shared) (a:Addr) (pl:Sem Bool) (Q:Value×List Value->Shared->Prop) (kvs:List (Str×Value)),(s.TypeIs (.ref a) "dict"/\ ∀b,Value.ref a= .ref b-> ∃ob,s.heap.get? b=some ob/\ob.dict=none)->Q (.builtin id,[.ref a]) s->wpAny C.M A (getMethod (.ref a) name pl) Q No s):Mt C k Z (.loc l) name (.bi id):=by intro W ro pl q;refine Op.look λA s Q hr I hq=> ?_;refine c12 q λa e u=>?_;clear q;subst u;obtain⟨ob,h1,ds,n,rfl,h2⟩:=h.obj I e;exact hg A s a pl _ [] ⟨⟨_,h1,rfl⟩,λb z=>by cases z;exact i12 _ h1 rfl⟩ (hq (.builtin id,[.ref a]) s.toks ⟨rfl,rfl⟩)
theorem wt (h:qW Z l es):Mt C k Z (.loc l) "get" (.bi "dict.get"):=
 rS h λA s a pl Q kvs hh hq=>tm hh.1 F.plainAttrs_dict F.slot_dict_get F.type_dict_get hh.2 hq
theorem B4 (h:qW Z l es):Mt C k Z (.loc l) "items" (.bi "dict.items"):=
 rS h λA s a pl Q kvs hh hq=>tm hh.1 F.plainAttrs_dict F.slot_dict_items F.type_dict_items hh.2 hq
theorem ql (h:qW Z l es):Mt C k Z (.loc l) "values" (.bi "dict.values"):=
 rS h λA s a pl Q kvs hh hq=>tm hh.1 F.plainAttrs_dict F.slot_dict_values F.type_dict_values hh.2 hq
theorem xo (h:qW Z l es) (hn:DN es) (hx:(gU es key).getD .none=x):Ca C k Z (.bi "dict.get") [.loc l,.str key] [] x Z:=by
 refine oV λW r1 r2 qa qb=>e9 qb λt=>Op.look λA s Q hr I hq=>Br (I.dict h hn qa) λa kvs e ns hd hk=>call_meetsIn F.slot_dict_get hd.typeIs F.entry_dict_get (F.args_dict_get_2 _ _) (meets_dict_get (sk C) (k:=key) a (oQ _ _ _ _) ns) ⟨_,hd.mapOf,?_⟩;refine hq _ _ ?_;refine aP (hk.find (key:=key)) (λu=>bG u λz z'=>?_) λq=>fu q λy v z1 z2 z3=>?_
 ·rw [z]at hx;rw [z',<-hx];exact c6
 ·rw [z1]at hx;rw [z2,<-hx];exact z3
theorem Inv.map (I:Inv C W Z s) (h:Z l=some (.map es n)) (hn:DN es) (q:aw W (.loc l) rv):
  ∃a kvs,rv= .ref a/\W.ρ l=some a/\(a==sysModules)=false/\s.heap.DictAt (sk C) a kvs n/\bK W es kvs:=by
 refine uU q λa e=>c12 (I.obj l a _ e h) λob h1 h2=>c12 (C7 hn h2 h1) λkvs k1 k2=>Mu a kvs rfl e (I.B3 e) k1 k2
theorem bK.get (h:bK W es kvs): ∀{i:Nat} {key:Str} {x:AV},es[i]? =some (key,x)-> ∃v,kvs[i]? =some (key,v)/\aw W x v:=by
 induction es generalizing kvs with
 | nil=>intro i key x e;simp at e
 | cons p r ih=>
  intro i key x e;obtain⟨n,y⟩:=p;refine gD h λv ks q h=>?_;cases i with
  | zero=>simp at e;refine bG e λw=>?_;subst w;intro t;subst t;exact i12 v (by simp) q
  | succ i=>simp at e;refine c12 (ih h e) λu hu z=>?_;exact i12 u (by simpa using hu) z
theorem Inv.count (I:Inv C W Z s) (h:Z l=some (.dict es)): ∃n,Inv C W (Z.set l (.map es n)) s:=by obtain⟨a,ob,e,h1,ds,n,h2,h3⟩:=I.at h;refine⟨n,?_⟩;have:=I.upd (h:=s.heap) (t:=s.toks) (d:=s.drawn) (o':= .map es n) e (λu v w z=>z) h1 ⟨ds,h2,h3⟩;exact this
theorem Inv.EC (I:Inv C W Z s) (h:Z l=some (.map es n)):Inv C W (Z.set l (.dict es)) s:=by obtain⟨a,ob,e,h1,ds,h2,h3⟩:=I.at h;have:=I.upd (h:=s.heap) (t:=s.toks) (d:=s.drawn) (o':= .dict es) e (λu v w z=>z) h1 ⟨ds,n,h2,h3⟩;exact this
theorem lG {α:Type} {t:Env->Sem α} {R:Wd->α->Prop} (h:Z l=some (.dict es)) (Na:aB l=some (.dict es))
  (g: ∀n,Tr C k sc ms (Z.set l (.map es n)) t R aK (aB.set l (.map es n))):Tr C k sc ms Z t R aK aB:=by
 intro A W env s hr H;refine cG (H.inv.count h) λn I=>bF (g n A W env s hr ⟨I,H.fr⟩) (λr s' ⟨W',le,H',q⟩=>⟨W',le,⟨?_,H'.fr⟩,q⟩) λ_ _ x=>x;have z:=H'.inv.EC (l:=l) (n:=n) (es:=es) (by delta St.set;simp);have e:(aB.set l (.map es n)).set l (.dict es)=aB:=by
  funext x;delta St.set;split
  ·rename_i z;rw [z,Na]
  ·rfl
 rw [e]at z;exact z
noncomputable def NG (l:Loc) (n m:Nat) (i:Nat) (rs:Value) (ob:Obj):Prop:= ∃a,rs= .ref a/\ob.cls= .type "dict_keyiterator"/\ob.data= .fields #[.ref a,.int i 0,.int m 0,.int n 0]
theorem zj (hn:DN es) (h0:C.hx=none:=by assumption):sU C k (λZ=>Z l=some (.map es n)) (.loc l) (es.map λp=> .str p.1) (.loc l) (NG l n es.length) where
 jk:=λi rv ob q2=>(by refine fP q2 λla _ c _=>?_;clear q2;exact⟨λn z=>by rw [c]at z;cases z;decide,by rw [c];decide⟩)
 start:=λW Z rv A s outer ok hr hA hS I q=>by refine v7 (I.map ok hn q) λa kvs j=>?_;subst j;intro e ns hd hk;exact wpAny_pyIter_dict ns hd ⟨W,s.heap.objs.size,_,.ref a,.refl W,I.same (a9 _ _),rfl,dZ _ rfl,I.cz,q,⟨a,rfl,rfl,by rw [hk.length];rfl⟩⟩
 self:=λi rs ob it A s E Q g h hq=>by refine fP h λla m=>?_;clear h;subst m;intro c d;exact wpAny_pyIter_keyiter (i:=i) (n:=es.length) (ep:=n) ⟨ob,g,c,d⟩ hq
 next:=λi x W Z rs ob it A s outer hx ok hr hA hS I g hf q h=>by
  refine v7 (I.map ok hn q) λa kvs r=>?_;subst r;intro e ns hd hk;refine fP h λa' ea c d=>?_;clear h;cases ea;rw [gq]at hx;cases hes:es[i]? with
  | none=>rw [hes]at hx;exact dC hx
  | some p=>obtain⟨key,y⟩:=p;rw [hes]at hx;cases hx;refine c12 (hk.get hes) λv hv qv=>wpAny_pyNext_dict_item (i:=i) ⟨ob,g,c,by rw [d,hk.length]⟩ hd hv λkv h' hkv hi' hs'=> ?_;refine fP hi' λob' g' c' d'=>?_;clear hi';refine cG (xr hkv) λt w=>?_;subst w;exact⟨W,_,ob',.refl W,I.but hf.1 hf.2 (λb o nb e=>(hs'.2 b nb).trans e),rfl,bN,g',hf,⟨a,rfl,c',by rw [d',hk.length]⟩⟩
 stop:=λW Z rs ob it A s outer ok hr hA hS I g hf q h=>by refine v7 (I.map ok hn q) λa kvs u=>?_;subst u;intro e ns hd hk;refine fP h λa' ea c d=>?_;clear h;cases ea;refine wpAny_pyNext_dict_end (i:=es.length) (hr.none h0) ⟨ob,g,c,by rw [d,hk.length,bu]⟩ hd (by rw [o9,hk.length];exact bT _) λh' hs'=> ?_;exact⟨W,.refl W,I.but hf.1 hf.2 λb o nb e=>hs' b o nb e,rfl⟩
 hV:=λi W Z rs rx ob it A s tgt I g hf q1=>fP q1 λla e c d=>d9 g c d (by decide) ⟨ob,I,g,⟨la,e,c,d⟩,λu1 v1 w1 z=>z⟩
theorem Bp (hn:DN es) (h0:C.hx=none:=by assumption):ui C k (λZ=>Z l=some (.map es n)) (.loc l) (es.map λp=> .str p.1) (.loc l) (GD (NG l n es.length)) tgt:=(zj hn h0).G8
noncomputable def NO (l:Loc) (n m:Nat) (i:Nat) (rs:Value) (ob:Obj):Prop:= ∃a,rs= .ref a/\ob.cls= .type "dict_valueiterator"/\ob.data= .fields #[.ref a,.int i 0,.int m 0,.int n 0]
theorem vK (q:aw W (.fld n [.loc l]) rv) (I:Inv C W Z s) (hn:Lw n=true) (hf:(n=="frame")=false): ∃v rd,rv= .ref v/\s.heap.get? v=some {cls:= .type n,data:= .fields #[rd]}/\aw W (.loc l) rd:=by obtain⟨_,b,o,vs,rfl,f,rfl,ks⟩:=q;refine c12 (dw ks) λrd u=>?_;subst u;intro qd;refine jE b rd rfl (I.frozen f ?_) qd;intro z;have z:Value.type n= .type "frame":=z;cases ni z;simp at hf
theorem uS (hn:DN es) (h0:C.hx=none:=by assumption):sU C k (λZ=>Z l=some (.map es n)) (.fld "dict_values" [.loc l]) (es.map (·.2)) (.loc l) (NO l n es.length) where
 jk:=λi rv ob q1=>(by refine fP q1 λla _ c _=>?_;clear q1;exact⟨λn z=>by rw [c]at z;cases z;decide,by rw [c];decide⟩)
 start:=λW Z rv A s outer ok hr hA hS I q=>by refine fu (vK q I (by decide) (by decide)) λv rd m=>?_;subst m;intro hv qd;refine v7 (I.map ok hn qd) λa kvs r=>?_;subst r;intro e ns hd hk;exact wpAny_pyIter_values ⟨_,hv,rfl,rfl⟩ hd ⟨W,s.heap.objs.size,_,.ref a,.refl W,I.same (a9 _ _),rfl,dZ _ rfl,I.cz,qd,⟨a,rfl,rfl,by rw [hk.length];rfl⟩⟩
 self:=λi rs ob it A s E Q g h hq=>by refine fP h λla t=>?_;clear h;subst t;intro c d;exact wpAny_pyIter_valiter (i:=i) (n:=es.length) (ep:=n) ⟨ob,g,c,d⟩ hq
 next:=λi x W Z rs ob it A s outer hx ok hr hA hS I g hf q h=>by
  refine v7 (I.map ok hn q) λa kvs w=>?_;subst w;intro e ns hd hk;refine fP h λa' ea c d=>?_;clear h;cases ea;rw [gq]at hx;cases hes:es[i]? with
  | none=>rw [hes]at hx;exact dC hx
  | some p=>obtain⟨key,y⟩:=p;rw [hes]at hx;cases hx;refine c12 (hk.get hes) λv hv qv=>wpAny_pyNext_values_item (i:=i) ⟨ob,g,c,by rw [d,hk.length]⟩ hd hv λh' hi' hs'=> ?_;refine fP hi' λob' g' c' d'=>?_;clear hi';exact⟨W,_,ob',.refl W,I.but hf.1 hf.2 (λb o nb e=>(hs'.2 b nb).trans e),rfl,qv,g',hf,⟨a,rfl,c',by rw [d',hk.length]⟩⟩
 stop:=λW Z rs ob it A s outer ok hr hA hS I g hf q h=>by refine v7 (I.map ok hn q) λa kvs u=>?_;subst u;intro e ns hd hk;refine fP h λa' ea c d=>?_;clear h;cases ea;refine wpAny_pyNext_values_end (i:=es.length) (hr.none h0) ⟨ob,g,c,by rw [d,hk.length,bu]⟩ hd (by rw [o9,hk.length];exact bT _) λh' hs'=> ?_;exact⟨W,.refl W,I.but hf.1 hf.2 λb o nb e=>hs' b o nb e,rfl⟩
 hV:=λi W Z rs rx ob it A s tgt I g hf j=>fP j λla e c d=>d9 g c d (by decide) ⟨ob,I,g,⟨la,e,c,d⟩,λu1 v1 w1 z=>z⟩
theorem wI (hn:DN es) (h0:C.hx=none:=by assumption):ui C k (λZ=>Z l=some (.map es n)) (.fld "dict_values" [.loc l]) (es.map (·.2)) (.loc l) (GD (NO l n es.length)) tgt:=(uS hn h0).G8
theorem BY {l:Loc} {es:List (Str×AV)} {id n:String} (h:qW Z l es) (hn:DN es) (hf:Lw n=true)
  (hc: ∀(A:Around) (s:Shared) (a:Addr) (kvs:List (Str×Value)) (Q:Value->Shared->Prop),(a==sysModules)=false->s.heap.DictOf (sk C) a kvs->Q (.ref s.heap.objs.size) {s with heap:=s.heap.push {cls:= .type n,data:= .fields #[.ref a]}}->wpAny C.M A (call (.builtin id) [.ref a]) Q No s):
  Ca C k Z (.bi id) [.loc l] [] (.fld n [.loc l]) Z:=by
 intro W rf df fq hf' ha hk A s outer hr hA hS I;subst hf';subst hk;refine c12 (dw ha) λr u=>?_;subst u;intro q;refine v7 (I.dict h hn q) λa kvs z=>?_;subst z;intro e ns hd hk;refine hc A s a kvs _ ns hd ?_;refine bG I.cz λn1 n2=>?_;have g:(s.heap.push {cls:= .type n,data:= .fields #[.ref a]}).get? s.heap.objs.size=some {cls:= .type n,data:= .fields #[.ref a]}:=dZ _ rfl;refine bG (I.fX (t:=s.toks) (d:=s.drawn) n1 n2 (a9 _ _) g) λle I'=>⟨_,le,I',?_⟩;refine⟨hf,_,{cls:= .type n,data:= .fields #[.ref a]},[.ref a],rfl,?_,rfl,.cons (q.mono le) .nil⟩;show(if _ then _ else _)=_
 rw [aG rfl]
theorem qq (h:qW Z l es) (hn:DN es):Ca C k Z (.bi "dict.values") [.loc l] [] (.fld "dict_values" [.loc l]) Z:=
 BY h hn (by decide) λA s a kvs Q ns hd hq=>call_meetsIn F.slot_dict_values hd.typeIs F.entry_dict_values (F.args_dict_values_1 _) (meets_dict_values (sk C) a ns) ⟨⟨kvs,hd⟩,hq⟩
theorem BI (h:qW Z l es) (hn:DN es):Ca C k Z (.bi "dict.items") [.loc l] [] (.fld "dict_items" [.loc l]) Z:=
 BY h hn (by decide) λA s a kvs Q ns hd hq=>call_meetsIn F.slot_dict_items hd.typeIs F.entry_dict_items (F.args_dict_items_1 _) (meets_dict_items (sk C) a ns) ⟨⟨kvs,hd⟩,hq⟩
noncomputable def Oh (n m:Nat) (i:Nat) (rs:Value) (ob:Obj):Prop:= ∃a ok ov,rs= .ref a/\ob={cls:= .type "dict_itemiterator",dict:=none,data:= .fields #[.none,.bool false,.ref a,.int i 0,.int m 0,.int n 0,ok,ov],slots:= #[]}
structure xx (C:Cx) (k:Nat) (ok:St->Prop) (v:AV) (xs:List AV) (src:AV) (Sh:Nat->Value->Obj->Prop) (Md:Nat->Value->Value->Obj->Prop):Prop where
 jk: ∀i rv ob,Sh i rv ob->Jk ob/\ob.cls≠ .type "frame"
 start: ∀W Z rv A s outer,ok Z->bY C A k->A.frames=some outer->rM C W outer->Inv C W Z s->aw W v rv->
  wpAny C.M A (pyIter rv) (Ip C W Z src (Sh 0)) No s
 next: ∀i x W Z rs ob it A s outer,xs[i]? =some x->ok Z->bY C A k->A.frames=some outer->rM C W outer->Inv C W Z s->s.heap.get? it=some ob->dR W it->aw W src rs->Sh i rs ob->
  wpAny C.M A (pyNext (.ref it)) (E1 C W Z x it λrx=>Md (i+1) rx rs) No s
 stop: ∀W Z rs ob it A s outer,ok Z->bY C A k->A.frames=some outer->rM C W outer->Inv C W Z s->s.heap.get? it=some ob->dR W it->aw W src rs->Sh xs.length rs ob->
  wpAny C.M A (pyNext (.ref it)) (Ek C W Z λ_ r=>r=none) No s
 hV: ∀i W Z rs rx ob it A s elts x1 pos,Inv C W Z s->s.heap.get? it=some ob->dR W it->Md i rx rs ob->
  wpAny C.M A (letOwnedTupleGo (.Tuple elts x1 pos) (.ref it) rx) (λ_=>HW C W Z it (Sh i rs) s.heap) No s
theorem xb {ok:St->Prop} {Sh:Nat->Value->Obj->Prop} {Md:Nat->Value->Value->Obj->Prop} {Q:Value->Shared->Prop} (I:xx C k ok v xs src Sh Md) (hok:ok Z) (hr:bY C A k) (H:At C sc A W env ms Z s) (q:aw W v rv)
  (g: ∀W' it s',W.le W'->At C sc A W' env ms Z s'->ph C W' env src Sh 0 it s'->Q (.ref it) s'):wpAny C.M A (pyIter rv) Q No s:=by
 refine c12 (eV H.fr) λouter ho hs=>bF (I.start _ Z rv A s outer hok hr ho hs (eP H.inv H.fr) (q.mono (a8 H.fr))) (λr s' hh=> ?_) λu w h=>h;obtain⟨W',it,ob,rs,le,I',rfl,hg,hf,hv,hsh⟩:=hh;refine ud (eC.back H.inv H.fr le I') λl2 I2 F2 v1 _=>?_;have no:=xk H.fr le hf.1;refine g _ it s' l2 ⟨I2,F2⟩ ⟨⟨ob,rs,hg,v1 hv,hsh⟩,⟨?_,hf.2⟩,no,?_⟩
 ·rw [Wd.bA no];exact hf.1
 ·exact I'.mW hf.1
theorem Ag {ok:St->Prop} {Sh:Nat->Value->Obj->Prop} {Md:Nat->Value->Value->Obj->Prop} {Q:Option Value->Shared->Prop} (I:xx C k ok v xs src Sh Md) (hx:xs[i]? =some x) (hok:ok Z) (hr:bY C A k)
  (H:At C sc A W env ms Z s) (K:ph C W env src Sh i it s)
  (g: ∀W' rx s',W.le W'->At C sc A W' env ms Z s'->ph C W' env src (λi rs ob=>Md i rx rs ob) (i+1) it s'->aw W' x rx->Q (some rx) s'):wpAny C.M A (pyNext (.ref it)) Q No s:=by
 refine c12 (eV H.fr) λouter ho hs=>fu K.ex λob rs hg hv hsh=>?_;have fa:dR (aside W env s.heap) it:=⟨by
  show(if _ then _ else _)=_
  rw [az K.own];exact K.fresh.1,K.fresh.2⟩
 refine bF (I.next i x _ Z rs ob it A s outer hx hok hr ho hs (eP H.inv H.fr) hg fa (hv.mono (a8 H.fr)) hsh) (λr s' hh=> ?_) λu w h=>h;obtain⟨W',rx,ob',le,I',rfl,hx',hg',hf,hsh'⟩:=hh;refine ud (eC.back H.inv H.fr le I') λl2 I2 F2 v1 _=>?_;exact g _ rx s' l2 ⟨I2,F2⟩ ⟨⟨ob',rs,hg',hv.mono l2,hsh'⟩,⟨by rw [Wd.bA K.own];exact hf.1,hf.2⟩,K.own,K.new⟩ (v1 hx')
theorem Ax {ok:St->Prop} {Sh:Nat->Value->Obj->Prop} {Md:Nat->Value->Value->Obj->Prop} {Q:Option Value->Shared->Prop} (I:xx C k ok v xs src Sh Md) (hok:ok Z) (hr:bY C A k)
  (H:At C sc A W env ms Z s) (K:ph C W env src Sh xs.length it s)
  (g: ∀W' s',W.le W'->At C sc A W' env ms Z s'->Q none s'):wpAny C.M A (pyNext (.ref it)) Q No s:=by
 refine c12 (eV H.fr) λouter ho hs=>fu K.ex λob rs hg hv hsh=>?_;have fa:dR (aside W env s.heap) it:=⟨by
  show(if _ then _ else _)=_
  rw [az K.own];exact K.fresh.1,K.fresh.2⟩
 refine bF (I.stop _ Z rs ob it A s outer hok hr ho hs (eP H.inv H.fr) hg fa (hv.mono (a8 H.fr)) hsh) (λr s' hh=> ?_) λu w h=>h;obtain⟨W',le,I',rfl⟩:=hh;refine ud (eC.back H.inv H.fr le I') λl2 I2 F2 _ _=>g _ s' l2 ⟨I2,F2⟩
theorem wF {ok:St->Prop} {Sh:Nat->Value->Obj->Prop} {Md:Nat->Value->Value->Obj->Prop} {Q:Unit->Shared->Prop} (I:xx C k ok v xs src Sh Md)
  (H:At C sc A W env ms Z s) (K:ph C W env src (λi rs ob=>Md i rx rs ob) i it s) (g: ∀s',At C sc A W env ms Z s'->ph C W env src Sh i it s'->Q () s'):wpAny C.M A (letOwnedTupleGo (.Tuple elts x1 pos) (.ref it) rx) Q No s:=by
 refine fu K.ex λob rs hg hv hsh=>bF (I.hV i W Z rs rx ob it A s elts x1 pos H.inv hg K.fresh hsh) (λu s' q=> ?_) λu w h=>h;obtain⟨ob',I',hg',hsh',hk⟩:=q;exact g s' ⟨I',H.fr.keep K.own K.fresh.1 (H.fr.jT K.own K.fresh.1) hk⟩ ⟨⟨ob',rs,hg',hv,hsh'⟩,K.fresh,K.own,K.new⟩
theorem lh {α:Type} {src:AV} {Sh:Nat->Value->Obj->Prop} {i:Nat} {it:Addr} {t:Sem α} {R:Wd->α->Prop} {Q:α->Shared->Prop} (jk: ∀i rv ob,Sh i rv ob->Jk ob/\ob.cls≠ .type "frame")
  (H:At C sc A W env ms Z s) (K:ph C W env src Sh i it s)
  (h: ∀aR,W.le aR->At C sc A aR env ms Z s->wpAny C.M A t (ie C sc A aR env aK aB R) No s)
  (hR: ∀aR (X:Addr->Prop) r,(∀a o,X a->aR.fz a=some o->Jk o)->R aR r->R (aR.minus X) r)
  (g: ∀W' r s',W.le W'->At C sc A W' env aK aB s'->ph C W' env src Sh i it s'->R W' r->Q r s'):wpAny C.M A t Q No s:=by
 refine fu K.ex λob rs hg hv hsh=>bG (jk i rs ob hsh) λjk nf=>bG (H.freeze hg K.fresh.1 K.fresh.2 K.own) λle1 H1=>bF (h _ le1 H1) (λr s' u=> ?_) λv w h=>h;obtain⟨W',le,H',hr⟩:=u;have e:W'.fz it=some ob:=le.2 _ _ (by show(if _ then _ else _)=_;rw [aG rfl]);obtain⟨H2,ob',hg',rfl⟩:=H'.Lp e jk nf K.new;have hc: ∀a o,a=it->W'.fz a=some o->Jk o:=λa o z q=>by subst z;rw [e]at q;cases q;exact jk
 have le2:W.le (W'.minus (· =it)):=⟨λl a q=>le.1 _ _ (le1.1 _ _ q),λa o q=>by
  rw [Wd.bA (X:=(· =it)) λz=>by
   have z:a=it:=z;subst z;rw [K.fresh.1]at q;exact dC q]
  exact le.2 _ _ (le1.2 _ _ q)⟩
 refine g _ r s' le2 H2 ⟨⟨ob',rs,hg',hv.mono le2,hsh⟩,⟨Wd.d6 (X:=(· =it)) rfl,λl q=> ?_⟩,K.own,K.new⟩ (hR _ _ _ hc hr);have:=H'.inv.apart l it q;rw [e]at this;exact rZ this
inductive Ie (C:Cx) (k:Nat) (sc:Scope) (ok:St->Prop) (tgt:Expr) (body:List Stmt):List AV->List (Option AV)->St->List (Option AV)->St->Prop
 | nil {ms:List (Option AV)} {Z:St} (h:ok Z):Ie C k sc ok tgt body [] ms Z ms Z
 | cons {x:AV} {xs:List AV} {ms ai aZ aK:List (Option AV)} {Z ae aN aB:St} (h:ok Z) (ha:As C k sc ms Z tgt x ai ae) (hx:Ex C k sc ai ae body .next aZ aN)
   (hr:Ie C k sc ok tgt body xs aZ aN aK aB):Ie C k sc ok tgt body (x::xs) ms Z aK aB
theorem zF {ok:St->Prop} {v:AV} {full:List AV} {src:AV} {Sh:Nat->Value->Obj->Prop} {Md:Nat->Value->Value->Obj->Prop} {elts:List Expr} {x1:Nat} {tpos:Pos} {body:List Stmt} (I:xx C k ok v full src Sh Md) {xs:List AV}
  (L:Ie C k sc ok (.Tuple elts x1 tpos) body xs ms Z aK aB): ∀(i:Nat) (A:Around) (W:Wd) (env:Env) (s:Shared) (it:Addr),full.drop i=xs->i<=full.length->bY C A k->At C sc A W env ms Z s->ph C W env src Sh i it s->
  codeAny C.M A (.forLoop (.Tuple elts x1 tpos) (.ref it) body [] env) (λr s'=>match r with | .ok fl=>ie C sc A W env aK aB (λW r=>bR W .next r) fl s' | .error _=>False) s:=by
 induction L with
 | nil hok=>
  intro i A W env s it hd hi hr H K;have hlen:i=full.length:=by have:=dM List.length hd;rw [t8]at this;simp at this;omega
  subst hlen;refine mA ?_;rw [pH (A:=A) (c:= .forLoop (.Tuple elts x1 tpos) (.ref it) body [] env) rfl];refine(?_:wpAny C.M A ((forTurn (.Tuple elts x1 tpos) (.ref it) body [] env).onRaise _) _ _ s);refine jS (bF ?_ (λu w h=>h) (λ_ _ (h:False)=>h.elim));refine ak (cF (ak (jS (bF (Ax (Q:=λr s'=>r=none/\ ∃W',W.le W'/\At C sc A W' env _ _ s') I hok hr H K λW' s' le H'=>⟨rfl,W',le,H'⟩) (λr s' hh=> ?_) λu w h=>h.elim))));obtain⟨rfl,W',le,H'⟩:=hh;refine aQ ⟨rfl,mA ?_⟩;rw [pH (A:=A) (c:= .block [] env) rfl];refine(?_:wpAny C.M A (do return Fin.done (<-(execs [] env).onRaise _)) _ _ s');exact ak (jS (wpAny_execs_nil (aQ (bw le H' rfl))))
 | @cons x xs' Ju Jv LL Jw Jx Jy LM Jz hok ha hx hl ih=>
  intro i A W env s it hd hi hr H K;have hx0:full[i]? =some x:=by
   have e:(full.drop i)[0]? =some x:=by rw [hd];rfl
   rw [xd]at e;simpa using e
  have hd':full.drop (i+1)=xs':=by rw [<-List.drop_drop,hd];rfl
  have hi':i+1<=full.length:=(lI.mp hx0).1;refine mA ?_;rw [pH (A:=A) (c:= .forLoop (.Tuple elts x1 tpos) (.ref it) body [] env) rfl];refine(?_:wpAny C.M A ((forTurn (.Tuple elts x1 tpos) (.ref it) body [] env).onRaise _) _ _ s);refine jS (bF ?_ (λu w h=>h) (λ_ _ (h:False)=>h.elim));refine ak (cF (ak (jS (bF (Ag (Q:=λr s'=> ∃W' rx,r=some rx/\W.le W'/\At C sc A W' env _ _ s'/\ph C W' env src (λi rs ob=>Md i rx rs ob) (i+1) it s'/\aw W' x rx) I hx0 hok hr H K
   λW' rx s' le H' K' q=>⟨W',rx,rfl,le,H',K',q⟩) (λr s' hh=> ?_) λu w h=>h.elim))))
  refine Br hh λW' rx le H' K' q=>ak (wF I H' K' λaI aO tF=> ?_);refine ak (lh I.jk aO tF (λbh l2 aF=>ha A bh env aI rx hr aF (q.mono l2)) (λu w g m y=>trivial) λbh u aT ax aF jB w=> ?_);refine ak (lh I.jk aF jB (λbS l3 br=>hx A bS env aT hr br) bR.minus λbS r bt bg br jJ hfl=> ?_);have rq:=le.trans (ax.trans bg);have go:=ih (i+1) A bS env bt it hd' hi' hr br jJ;have go':codeAny C.M A (.forLoop (.Tuple elts x1 tpos) (.ref it) body [] env) (λr s'=>match r with | .ok fl=>ie C sc A W env Jw Jz (λW r=>bR W .next r) fl s' | .error _=>False) bt:=
   kZ go λr s' hh=>by
    cases r with
    | ok fl=>obtain⟨W',l,z,z'⟩:=hh;exact⟨W',rq.trans l,z,z'⟩
    | error e=>exact hh
  unfold bR at hfl;subst hfl;exact aQ ⟨rfl,go'⟩
theorem FY {elts:List Expr} {x1:Nat} {tpos:Pos} {iter:Expr} {body:List Stmt} {pos:Pos} {v:AV} {ok:St->Prop} {xs:List AV} {src:AV} {Sh:Nat->Value->Obj->Prop} {Md:Nat->Value->Value->Obj->Prop}
  (h1:Ev C k sc ms Z iter v ai ae) (I:xx C k ok v xs src Sh Md) (hok:ok ae) (L:Ie C k sc ok (.Tuple elts x1 tpos) body xs ai ae aK aB)
  (hs: ∀env x,foldedSetIterable iter env x=pure x):X1 C k sc ms Z (.For (.Tuple elts x1 tpos) iter body [] pos) .next aK aB:=by
 intro A W env s hr H;refine(?_:wpAny C.M A (exec (.For (.Tuple elts x1 tpos) iter body [] pos) env) _ _ _);rw [arm_exec_For];refine ak (cF (cR (h1 A W env s hr H) λaR rv aI aA aO q=>ak (eL (hs _ _) (ak (cF (ak (cA ?_)))))));refine xb I hok hr aO q λbh it aT ax aF jB=>wpAny_runOwn (h:=none) ?_;rw [mark_none];refine kZ (zF I L 0 A bh env aT it rfl (dW _) hr aF jB) λr s' hh=> ?_;cases r with
 | ok fl=>obtain⟨W',l,z,z'⟩:=hh;exact⟨W',aA.trans (ax.trans l),z,z'⟩
 | error e=>exact hh.elim
noncomputable def OH (n m:Nat) (i:Nat) (rx:Value) (rs:Value) (ob:Obj):Prop:= ∃t a ok ov,rx= .ref t/\rs= .ref a/\ob={cls:= .type "dict_itemiterator",dict:=none,data:= .fields #[rawInt t,.bool false,.ref a,.int i 0,.int m 0,.int n 0,ok,ov],slots:= #[]}
theorem zx (hn:DN es) (h0:C.hx=none:=by assumption):xx C k (λZ=>Z l=some (.map es n)) (.fld "dict_items" [.loc l]) (es.map λp=> .tup [.str p.1,p.2]) (.loc l) (Oh n es.length) (OH n es.length) where
 jk:=λi rv ob q2=>(by refine sL q2 λa ok ov _ e=>?_;clear q2;subst e;exact⟨λn z=>by cases z;decide,λz=>by have:=ni z;revert this;decide⟩)
 start:=λW Z rv A s outer ok hr hA hS I q=>by refine fu (vK q I (by decide) (by decide)) λv rd f=>?_;subst f;intro hv qd;refine v7 (I.map ok hn qd) λa kvs c=>?_;subst c;intro e ns hd hk;exact wpAny_pyIter_items ⟨_,hv,rfl,rfl⟩ hd ⟨W,s.heap.objs.size,_,.ref a,.refl W,I.same (a9 _ _),rfl,dZ _ rfl,I.cz,qd,⟨a,.none,.none,rfl,by rw [hk.length];rfl⟩⟩
 next:=λi x W Z rs ob it A s outer hx ok hr hA hS I g hf q h=>by
  refine v7 (I.map ok hn q) λa kvs j=>?_;subst j;intro e ns hd hk;refine sL h λa' ok1 OV ea m=>?_;clear h;subst m;cases ea;rw [gq]at hx;cases hes:es[i]? with
  | none=>rw [hes]at hx;exact dC hx
  | some p=>
   obtain⟨key,y⟩:=p;rw [hes]at hx;cases hx;refine c12 (hk.get hes) λv hv qv=>?_;rw [<-hk.length]at g;refine wpAny_pyNext_items_item (i:=i) g hd hv λkv h' hkv hit ht hsz hkeep=> ?_;refine cG (xr hkv) λtk r=>?_;subst r;have I1:Inv C W Z {s with heap:=h'}:=I.but hf.1 hf.2 λb o nb z=>hkeep b o nb z;refine bG I.cz λn1 n2=>bG (I1.fX (h:=h') (t:=s.toks) (d:=s.drawn) n1 n2 (λu1 v1 z=>z) ht) λle I2=>⟨_,_,_,le,I2,rfl,?_,hit,⟨?_,hf.2⟩,⟨_,a,_,_,rfl,rfl,by rw [hk.length]⟩⟩
   ·refine v5 _ _ ([.str key tk,v]) 0 rfl ?_ rfl rfl (.cons bN (.cons (qv.mono le) .nil));show(if _ then _ else _)=_
    rw [aG rfl]
   ·refine(?_:(if it=_ then _ else W.fz it)=none);have:it≠s.heap.objs.size:=Nat.ne_of_lt (il g);rw [az this];exact hf.1
 stop:=λW Z rs ob it A s outer ok hr hA hS I g hf q h=>by refine v7 (I.map ok hn q) λa kvs w=>?_;subst w;intro e ns hd hk;refine sL h λa' ok1 OV ea u=>?_;clear h;subst u;cases ea;rw [bu,<-hk.length]at g;refine wpAny_pyNext_items_end (i:=kvs.length) (hr.none h0) g hd (by rw [o9];exact bT _) λh' hs'=> ?_;exact⟨W,.refl W,I.but hf.1 hf.2 λb o nb e=>hs' b o nb e,rfl⟩
 hV:=λi W Z rs rx ob it A s elts x1 pos I g hf q1=>by refine NJ q1 λt a ok ov e1 e2 e3=>?_;clear q1;subst e1 e2 e3;refine wpAny_letOwnedTupleGo_items g λh' hi hs=>⟨_,I.but hf.1 hf.2 (λb o nb z=>(hs.2 b nb).trans z),hi,⟨a,ok,ov,rfl,rfl⟩,λb o nb z=>(hs.2 b nb).trans z⟩
theorem Inv.newObj (I:Inv C W Z s) (hl:Z l=none) (g:(s.heap.push ob).get? s.heap.objs.size=some ob) (ht:s.toks<=tk)
  (r: ∀W',W.le W'->eY C W' o ob): ∃W',W.le W'/\Inv C W' (Z.set l o) {s with heap:=s.heap.push ob,toks:=tk}/\aw W' (.loc l) (.ref s.heap.objs.size)/\W'.ρ l=some s.heap.objs.size:=by
 refine bG I.cz λn1 n2=>?_;have LK:W.le (W.name l s.heap.objs.size):=⟨λx b e=>by
  refine(?_:(if x=l then _ else W.ρ x)=some b);split
  ·rename_i z;subst z;rw [I.none_of hl]at e;exact dC e
  ·exact e,λ_ _ e=>e⟩
 refine bG (I.new (t:=tk) (d:=s.drawn) (o:=o) hl n1 n2 I.big (a9 _ _) g (r _ LK) ht) λle I'=>?_;have e:(W.name l s.heap.objs.size).ρ l=some s.heap.objs.size:=by show(if _ then _ else _)=_;rw [aG rfl]
 exact Gf _ le I' (i12 _ e rfl) e
theorem xh (hl:Z l=none):Op C k W Z newDict (λW r=>aw W (.loc l) r) (Z.set l (.dict [])):=by intro A s outer hr hA hS I;refine ak (wpAny_alloc (aQ ?_));refine C0 (I.newObj (o:= .dict []) (ob:={cls:= .type "dict",data:= .dict #[]}) hl (dZ _ rfl) (bT _) (λW' u=>⟨[],0,rfl,rfl⟩)) λW' le I' q _=>?_;exact⟨W',le,I',q⟩
theorem mX (hl:Z l=none):sH C Z newDict l (.dict []):=
 ⟨hl,{cls:= .type "dict",data:= .dict #[]},rfl,λW=>⟨[],0,rfl,rfl⟩,λM A E s Q h=>ak (wpAny_alloc (aQ h))⟩
theorem uH (l:Loc) (hl:Z l=none):Ev C k sc ms Z (.Dict [] [] pos) (.loc l) ms (Z.set l (.dict [])):=by intro A W env s hr H;rw [eval_Dict_empty];exact ak (cF (Op.in rfl (xh hl) hr H λbh r aT ax aF q tk u=>bw ax aF (tk q)))
theorem Ai (h1:Ev C k sc ms Z o ov ai ae) (h2:Ev C k sc ai ae i iv aZ aN) (h3:di C k aN delItem ov iv (λu v=>True) aB):X1 C k sc ms Z (.Delete [.Subscript o i p] pos) .next aZ aB:=by intro A W env s hr H;refine wpAny_Delete (wpAny_deleteEach_cons (PySem.wpAny_delete_Subscript (bf (h1 A W env s hr H) λaR ro aI aA aO qo=>bf (h2 A aR env aI hr aO) λbh ri aT ax aF qi=> ?_)));have le:=a8 aF.fr;refine Op.in rfl (h3 _ ro ri ((qo.mono ax).mono le) (qi.mono le)) hr aF λbS u bt bg br v w g=>wpAny_deleteEach_nil (bw (aA.trans (ax.trans bg)) br rfl)
theorem jg (h1:Ev C k sc ms Z o ov ai ae) (h2:ib C k ae (λx=>getAttr x attr true) ov (λW r=>aw W a r) ae) (h3:Ev C k sc ai ae value b aZ aN)
  (h4:di C k aN (inplaceOp op) a b (λW r=>aw W c r) bX) (h5:di C k bX (λx y=>setAttr x attr y) ov c (λu v=>True) aB):X1 C k sc ms Z (.AugAssign (.Attribute o attr tpos) op value pos) .next aZ aB:=by
 intro A W env s hr H;refine wpAny_AugAssign_AttributeAny (bf (h1 A W env s hr H) λaR ro aI aA aO qo=> ?_);have la:=a8 aO.fr;refine Op.in rfl (h2 _ ro (qo.mono la)) hr aO λbh ra aT ax aF qa tk u=> ?_;replace qa:=tk qa;refine bf (h3 A _ env aT hr aF) λbS rb bt bg br qb=> ?_;have lb:=a8 br.fr;refine Op.in rfl (h4 _ ra rb ((qa.mono bg).mono lb) (qb.mono lb)) hr br λnD rc jf eW gv qc tk' u=> ?_;replace qc:=tk' qc;have lc:=a8 gv.fr;refine Op.in rfl (h5 _ ro rc ((((qo.mono ax).mono bg).mono eW).mono lc) (qc.mono lc)) hr gv λvX u F3 rt mK v w g=>bw (aA.trans (ax.trans (bg.trans (eW.trans rt)))) mK rfl
theorem wz (h1:Ev C k sc ms Z value v ai ae) (h2:As C k sc ai ae t v aZ aN) (h3:As C k sc aZ aN u v aK aB) (hs: ∀env,swapsWithSole [t,u] value pos.line env=pure false) (hw: ∀env,swappedStores [t,u] value env=pure none)
  (ht: ∀env,(assignEach [t,u] env).map (·.2)= [assign t env,assign u env]):X1 C k sc ms Z (.Assign [t,u] value pos) .next aK aB:=by
 intro A W env s hr H;refine(?_:wpAny C.M A (exec _ env) _ _ _);rw [exec_Assign_arm];refine ak (cF ?_);rw [hs];refine ak (aQ ?_);refine cR (h1 A W env s hr H) λaR r aI aA aO q=>ak (eL (hw env) ?_);rw [ht];refine ak ?_;refine ak (cA (bf (h2 A aR env aI r hr aO q) λbh w aT ax aF g=> ?_));exact bf (h3 A bh env aT r hr aF (q.mono ax)) λbS w bt bg br g=>aQ (bw (aA.trans (ax.trans bg)) br rfl)
theorem sf (h1:Ev C k sc ms Z kx (.str key) ai ae) (h2:Ev C k sc ai ae vx v aK aN) (ho:qW aN la es) (hn:DN es) (hz:es.length<=sizeLine):
  Em C k sc la (.DictComp kx vx gens scope pos) ms Z aK (aN.set la (.dict (dput es key v))):=by
 intro A W env s iR hr H q;refine cR (h1 A W env s hr H) λaR rk aI aA aO qk=>ak (cA (bf (h2 A aR env aI hr aO) λbh rv aT ax aF qv=> ?_));have tH:J3 C k aN (λd x y=>match d with | .ref d=>dictSet d x y | _=>unsupported "internal:dictcomp") (.loc la) (.str key) v (λw g=>True) (aN.set la (.dict (dput es key v))):=by intro W ra rb rc qa qb qc A s outer hr hA hS I;refine e9 qb λt=>?_;refine v7 (I.dict ho hn qa) λa kvs u=>?_;subst u;intro e ns hd hk;exact wpAny_dictSet_pairs (knd:=sk C) (k:=key) (oQ _ _ _ _) hd (λh' hd' hs=>⟨W,.refl W,I.wJ e hd' (hk.put qc) hs (ju _),trivial⟩) (by rw [hk.length];exact hz)
 have le:=a8 aF.fr;have key:=λ{R}=>Op.in (R':=R) rfl (tH _ iR rk rv (((q.mono aA).mono ax).mono le) ((qk.mono ax).mono le) (qv.mono le)) hr aF;refine c12 q λa e z=>?_;subst z;exact ak (cF (cA (key λbS w bt bg br g m r=>bw (aA.trans (ax.trans bg)) br trivial)))
theorem eZ {ok:St->Prop} (la:Loc)
  (K:ml C k sc ms Z scope link g gs ai ae v src xs ok Sh) (hla:ae la=none)
  (hl:CL C k (bB scope) la (.DictComp kx vx (g::gs) scope cpos) ok g gs xs (fp link ai scope.names.length) (ae.set la (.dict [])) cZ aN)
  (hend:(link.map λp=>(cZ[p.2]?).join)=link.map λp=>(ai[p.1]?).join)
  (hsw: ∀env,∃b,swapsWithSole [t] (.DictComp kx vx (g::gs) scope cpos) pos.line env=pure b) (hw: ∀env,swappedStores [t] (.DictComp kx vx (g::gs) scope cpos) env=pure none) (ht: ∀env,(assignEach [t] env).map (·.2)= [assign t env])
  (ha:As C k sc ai aN t (.loc la) aK aB):X1 C k sc ms Z (.Assign [t] (.DictComp kx vx (g::gs) scope cpos) pos) .next aK aB:=by
 intro A W env s hr H;refine(?_:wpAny C.M A (exec _ env) _ _ _);rw [exec_Assign_arm];refine ak (cF ?_);refine cG (hsw env) λb hb=>?_;rw [hb];refine ak (aQ ?_);obtain⟨tg,it,ifs,as⟩:=g;have ha0:as=0:=K.sync _ (.head _);subst ha0;cases b with
 | false=>refine ak ?_;refine(?_:wpAny C.M A (comprehension _ scope env _ newDict false (eval it env)) _ _ _);refine jX (g:=⟨tg,it,ifs,0⟩) (gh:= .dict []) (use:=none) rfl K.sync K.linked K.free K.ok2 K.comp.st K.comp.it (mX hla) hl hend hr H λW' acc s' le H' q=>ak (eL (hw env) ?_);rw [ht];exact ak (bf (ha A W' env s' acc hr H' q) λbh u aT ax aF w=>aQ (bw (le.trans ax) aF rfl))
 | true=>rw [ht];rw [arm_evalThenUse_DictComp];refine ak (ak ?_);refine(?_:wpAny C.M A (comprehension _ scope env _ newDict false (eval it env) (some _)) _ _ _);refine jX (g:=⟨tg,it,ifs,0⟩) (gh:= .dict []) (use:=some _) rfl K.sync K.linked K.free K.ok2 K.comp.st K.comp.it (mX hla) hl hend hr H ⟨aK,aB,λW' acc s' le H' q=> ?_,λW' s' le H'=>aQ (aQ (bw le H' rfl))⟩;exact bf (ha A W' env s' acc hr H' q) λbh u aT ax aF w=>⟨bh,le.trans ax,ax.2,aF⟩
noncomputable def Cd (C:Cx) (k:Nat) (Z:St) (f:AV) (as:List AV) (kw:List (Str×AV)) (v:AV) (aB:St):Prop:=
 ∀W rf df fq,aw W f rf->aU W as df->bK W kw fq-> ∀A s outer,bY C A k->A.frames=some outer->rM C W outer->Inv C W Z s->
  codeAny C.M A (.call rf ⟨df,fq⟩) (λr s'=>match r with | .ok (.ret r)=>Ek C W aB (λW r=>aw W v r) r s' | _=>False) s
theorem Cd.ca (h:Cd C k Z f as kw v aB):Ca C k Z f as kw v aB:=
 λW rf df fq hf ha hk A s outer hr hA hS I=>rC (kZ (h W rf df fq hf ha hk A s outer hr hA hS I) λr s' z=>by
  rcases r with e | (v | _ | _ | _)<;>first | exact z | exact z.elim)
theorem HJ (O:C.Ok) (hF:Fn C fa fd body)
  (h: ∀n,(∀l:Loc,n<=l.tag->Z l=none)-> ∃bs ae f aK cP,Bd C k fd Z as kw bs ae/\(fd.scope.names.take bs.length).map (·.1)=bs.map (·.1)/\(∀p∈fd.scope.names.take bs.length,p.2= .local\/p.2= .cell)/\
   Ex C k fd.scope (sa fd.scope bs) ae body f aK cP/\Exit Z cP f v aB):Cd C (k+1) Z (.ext fa) as kw v aB:=by
 intro W rf df fq hf has hkw A s outer hr hA hS I;subst hf;refine cG I.free λn hn=>Ei (h n hn) λbs ae f aK cP hb hms hkind z=>bG z λhx ex=>Js hF.here λoc od osl hK=>?_;have ho:=I.kept _ _ (O.tR _ _ hK);refine codeAny_call_function (fd:=fd) hr.depth ho rfl hF.co hF.gen hF.body (codeRec_of (O.tR.keeps I.kept) hF.code) ?_;refine bF (hb W df fq has hkw A.in1 s outer hr.in1 hA hS I) (λbinds aI w=> ?_) λg m h=>h.elim;obtain⟨aR,aA,xH,vW⟩:=w;rw [hF.globals,hF.builtins,hF.closure];refine bF (rK (A:=A) hF.ok xH hA (hS.mono aA) vW hms hkind (Q:=λenv s'=>At C fd.scope (A.deeper env) aR env (sa fd.scope bs) ae s') λenv s' H=>H) (λenv aT H=> ?_) λg m h=>h.elim;refine⟨O.nolimit.keeps H.inv.kept,codeAny_func ?_⟩;refine bF (hx (A.deeper env) aR env aT hr.deeper H) (λfl s' u=> ?_) λg m h=>h.elim;obtain⟨bh,ax,aF,hf⟩:=u;refine fP (ex.go I (aA.trans ax) aF.inv hf) λbS bg IK q=>?_;cases fl<;>exact⟨bS,bg,IK,q⟩
theorem eA (O:C.Ok) (hF:Fn C fa fd body) (names:List (Str×NameKind)) (hsc:fd.scope.names=names) (bs:List (Str×AV)) (ae:St)
  (hb:Bd C k fd Z as kw bs ae) (h1:(names.take bs.length).map (·.1)=bs.map (·.1)) (h2:((names.take bs.length).all λp=>p.2== .local || p.2== .cell)=true)
  (h: ∀sc,Facts sc names 0-> ∀n,(∀l:Loc,n<=l.tag->Z l=none)-> ∃f aK cP,Ex C k sc (bs.map (λp=>some p.2)++List.replicate (names.length - bs.length) none) ae body f aK cP/\Exit Z cP f v aB):Cd C (k+1) Z (.ext fa) as kw v aB:=by
 refine HJ O hF λn hn=>sL (h fd.scope (px hsc) n hn) λf aK cP h3 h4=>?_;refine⟨bs,ae,f,aK,cP,hb,by rw [hsc];exact h1,λp hp=> ?_,?_,h4⟩
 ·rw [hsc]at hp;have:=pM.mp h2 p hp;simpa using this
 ·delta sa;rw [hsc];exact h3
theorem zI:(Z.set l o) x=if x=l then some o else Z x:=rfl
theorem rD (O:C.Ok) (hm:makesIn C.K c=true) (hi:findIn C.K (.ref c) "__init__"=some (some (.ref fi))) (hf:typeIn C.K (.ref fi)=some (.type "function"))
  (hl:Z l=none) (hd:Z d=none) (OW:l≠d) (h:Cd C k ((Z.set d (.dict [])).set l (.inst c d)) (.ext fi) (.loc l::as) kw .none aB):Ca C (k+1) Z (.ext c) as kw (.loc l) aB:=by
 intro W rf df fq qf qa qk A s outer hr hA hS I;subst qf;obtain⟨hh,g,dr,t,os⟩:=s;have X:=e8 O I;refine rC (make_core (makes_of X hm) (looks_findIn X hi) (λself=>bind_fn X self hf) (.inl rfl) ?_);refine C0 (I.newObj (l:=d) (o:= .dict []) (ob:=emptyDict) (tk:=t) hd (dZ _ rfl) (bT _) (λW' u=>⟨[],0,rfl,rfl⟩)) λW1 le1 I1 q1 e1=>?_;refine C0 (I1.newObj (l:=l) (o:= .inst c d) (ob:=instObj c hh.objs.size) (tk:=t) (by rw [zI,az OW];exact hl) (dZ _ rfl) (bT _) (λW' le=>⟨_,le.1 _ _ e1,rfl⟩)) λW2 le2 I2 q2 e2=>?_;have hsz:(hh.push emptyDict).objs.size=hh.objs.size+1:=m5 ..;dsimp only at I2 q2;rw [hsz]at q2;have le:=le1.trans le2;have hu:bY C (A.under (.builtin "type.__call__" ⟨.ref c::df,fq⟩)) k:=by
  refine nB ?_ ?_ hr.2.2
  ·have:=hr.1;refine(?_:A.depth+1+2 * k+2<_);omega
  ·have:=hr.2.1;have e:(A.under (Code.builtin "type.__call__" {pos:=Value.ref c::df,kw:=fq})).units<=A.units+4:=by
    refine(?_:A.units+(1+3 * (Code.builtin "type.__call__" {pos:=Value.ref c::df,kw:=fq}).frames)<=_);have:(Code.builtin "type.__call__" {pos:=Value.ref c::df,kw:=fq}).frames=0:=by kernel_rfl
    omega
   omega
 refine kZ (h W2 (.ref fi) (.ref (hh.objs.size+1)::df) fq rfl (.cons q2 (qa.mono le)) (qk.mono le) _ _ outer hu (by exact hA) (hS.mono le) I2) λr s' z=> ?_;rcases r with e | (v | _ | _ | _)<;>first | exact z.elim | skip
 obtain⟨W3,AG,I3,qv⟩:=z;subst qv;exact⟨rfl,W3,le.trans AG,I3,q2.mono AG⟩
noncomputable def AE (Z:St) (l:Loc) (c:Addr) (d:Loc) (vs:List (Option AV)):Prop:=(Z l=some (.inst c d)/\vs= [])\/Z l=some (.slots c d vs)
theorem AE.at (h:AE Z l c d vs) (I:Inv C W Z s) (q:aw W (.loc l) rv):
  ∃x dx sl od,rv= .ref x/\W.ρ l=some x/\s.heap.get? x=some {cls:= .ref c,dict:=some dx,data:= .plain,slots:=List.toArray sl}/\W.ρ d=some dx/\bL W vs sl/\
   InstAt s.heap x {cls:= .ref c,dict:=some dx,data:= .plain,slots:=List.toArray sl} c (some od):=by
 obtain⟨x,e,rfl⟩:=q;have key: ∃dx sl,s.heap.get? x=some {cls:= .ref c,dict:=some dx,data:= .plain,slots:=List.toArray sl}/\W.ρ d=some dx/\bL W vs sl:=by
  rcases h with⟨h,rfl⟩ | h
  ·obtain⟨ob,h1,dx,h2,rfl⟩:=I.obj l x _ e h;exact⟨dx,[],h1,h2,rfl⟩
  ·obtain⟨ob,h1,dx,sl,h2,rfl,h3⟩:=I.obj l x _ e h;exact⟨dx,sl,h1,h2,h3⟩
 obtain⟨dx,sl,h1,h2,h3⟩:=key;have hd:=I.dom d;rw [h2]at hd;obtain⟨o,ho⟩:=uE.mp hd.symm;obtain⟨od,h4,_⟩:=I.obj d dx o h2 ho;exact⟨x,dx,sl,od,rfl,e,h1,h2,h3,⟨h1,rfl,rfl,h4⟩⟩
theorem bL.get (h:bL W vs sl): ∀{i:Nat} {v:AV},vs[i]? =some (some v)-> ∃r,(sl[i]?).join=some r/\aw W v r:=by
 induction vs generalizing sl with
 | nil=>intro i v e;simp at e
 | cons p r ih=>
  intro i v e;cases p with
  | none=>
   refine yA h λvs' h=>?_;cases i with
   | zero=>simp at e
   | succ i=>simp at e;refine c12 (ih h e) λu hu z=>?_;exact i12 u (by simpa using hu) z
  | some y=>
   refine gD h λu vs' q h=>?_;cases i with
   | zero=>simp at e;subst e;exact i12 u (by simp) q
   | succ i=>simp at e;refine c12 (ih h e) λu' hu z=>?_;exact i12 u' (by simpa using hu) z
noncomputable def gy (vs:List (Option AV)) (i:Nat) (v:AV):List (Option AV):=(vs++List.replicate (i+1 - vs.length) none).set i (some v)
theorem bL.length: ∀{vs:List (Option AV)} {sl:List (Option Value)},bL W vs sl->sl.length=vs.length:=by
 intro aH;induction aH with
 | nil=>
  intro u h;exact by subst h;rfl
 | cons gh r ih=>
  cases gh with
  | none=>
   intro u h;exact by refine yA h λvs' h=>?_;simp [ih h]
  | some _=>
   intro u h;exact by refine gD h λ_ vs' _ h=>?_;simp [ih h]
theorem bL.app: ∀{vs:List (Option AV)} {sl:List (Option Value)} (n:Nat),bL W vs sl->bL W (vs++List.replicate n none) (sl++List.replicate n none):=by
 intro aH;induction aH with
 | nil=>
  intro v n h;subst h
  induction n with
  | zero=>rfl
  | succ n ih=>exact i12 _ rfl ih
 | cons gh r ih=>
  cases gh with
  | none=>
   intro v n h;exact by refine yA h λvs' h=>?_;exact i12 _ rfl (ih n h)
  | some _=>
   intro v n h;exact by refine gD h λu vs' q h=>?_;exact jE u _ rfl q (ih n h)
theorem bL.set (q:aw W v r): ∀{vs:List (Option AV)} {sl:List (Option Value)} (i:Nat),bL W vs sl->bL W (vs.set i (some v)) (sl.set i (some r)):=by
 intro aH;induction aH with
 | nil=>
  intro w i h;exact by subst h;rfl
 | cons gh t ih=>
  cases gh with
  | none=>
   intro w i h;refine yA h λvs' h=>?_;cases i with
   | zero=>exact jE r _ rfl q h
   | succ i=>exact i12 _ rfl (ih i h)
  | some _=>
   intro w i h;refine gD h λu vs' q' h=>?_;cases i with
   | zero=>exact jE r _ rfl q h
   | succ i=>exact jE u _ rfl q' (ih i h)
theorem bL.put (h:bL W vs sl) (q:aw W v r):bL W (gy vs i v) ((sl++List.replicate (i+1 - sl.length) none).set i (some r)):=by rw [h.length];exact(h.app _).set q i
theorem sV (O:C.Ok) (hl:AE Z l c d vs) (hga:findIn C.K (.ref c) "__getattribute__"=some (some (.builtin "object.__getattribute__"))) (hk:findIn C.K (.ref c) "__getattr__"=some none)
  (hc:(clsIn C.K c).isSome=true) (ha:findIn C.K (.ref c) name=some (some (.ref p))) (hn:specialIn C.K (.ref p) "__get__"=some (some (.builtin "member_descriptor.__get__"))) (ht:takesIn C.K (.ref p)=some true) (hp:slotIn C.K p c=some i)
  (hi:vs[i]? =some (some v)) (hv: ∀id,v≠ .bi id) (ha':v≠ .any):ib C k Z (λx=>getAttr x name true) (.loc l) (λW r=>aw W v r) Z:=by
 intro W ra q;refine Op.look λA s Q hr I hq=> ?_;refine Kx (hl.at I q) λx dx sl od ex hx hdx u=>?_;refine bG u λhs IA=>?_;refine c12 (hs.get hi) λr hr' qr=>?_;have X:=e8 O I;exact get_bind X IA hga (findObj_data hc ha hn ht) hk (rC (slot_get (s:={s with toks:=s.toks+1}) X IA hp (by simpa using hr') (handed_on (qJ qr hv ha') (hq _ _ qr))))
end
section
variable {prog:Program} {w:World} {A:Around} {E:Value->Shared->Prop} {s:Shared} {K:Frag} {R:Result->Shared->Prop}
theorem Cw (X:K.In s.heap) (I:InstAt s.heap x ox C od) (hp:slotIn K p C=some i) (hi:i<1000)
  (e:{ox with slots:=(ox.slots++Array.replicate (i+1 - ox.slots.size) none).setIfInBounds i (some v)}=ox')
  (h:R (.ok (.ret .none)) {s with heap:=s.heap.update x λo=>{o with slots:=(o.slots++Array.replicate (i+1 - o.slots.size) none).setIfInBounds i (some v)}}):
  codeAny (model prog w) A (.call (.builtin "member_descriptor.__set__") ⟨[.ref p,.ref x,v],[]⟩) R s:=by
 rcases slot_of X hp with⟨n,tn,owner,behind,tb,d,sl,cd,q⟩;refine ud q λho hc hm hb z=>?_;subst z
 obtain⟨hh,g,dr,t,os⟩:=s;have T:=I.type (M:=model prog w);have M1:=looks_mroIn (M:=model prog w) X hm;have M2:Looks (model prog w) hh (Slots.slotNamesOf (.ref C)) cd.slotNames:=(looks_clsIn X hc).andThen .now;have hx:=I.at_;dsimp only at ho hx T M1;have g0:=looks_field (M:=model prog w) ho 0 (v:= .str n tn) rfl;have g1:=looks_field (M:=model prog w) ho 1 (v:=owner) rfl;have g3:=looks_field (M:=model prog w) ho 3 (v:= .builtin "proto.slot#set") rfl;have g4:=looks_field (M:=model prog w) ho 4 (v:= .int behind tb) rfl;have g5:Looks (model prog w) hh (Builtin.Getset_descriptor.descrItself (.ref p)) [.ref p]:=((Looks.ld (part:=none) ho).andThen .now).andThen (Looks.of_pure (by kernel_rfl));refine codeAny_call_builtin KF.slot_mset.plain KF.entry_mset (KF.slot_mset.check _ _ _ _ _ _ _ _ ⟨_,ho,rfl⟩ (KF.args_mset _ _ _) ?_);delta Builtin.«member_descriptor.__set__» Builtin.Getset_descriptor.descrSet Builtin.Getset_descriptor.descrStoreThrough Builtin.Getset_descriptor.descrCheckInstance Builtin.Getset_descriptor.descrNameAndClass isInstance
 repeat lk
 refine⟨Code.quiet_builtin _ (by decide+kernel),codeAny_builtin KF.entry_slotset ?_⟩;unfold Builtin.«proto.slot#set» Slots.target
 repeat lk
 rw [az hb];refine aQ (ak ?_);delta setSlotAt;dsimp only;rw [az (by rw [jr];omega)];exact wpAny_updatePart hx (aQ h)
end
section
variable {C:Cx} {k:Nat} {W:Wd} {Z aB:St}
theorem k8 (O:C.Ok) (hl:AE Z l c d vs) (hs:findIn C.K (.ref c) "__setattr__"=some (some (.builtin "object.__setattr__")))
  (hp:plainOver C.K c=true) (ht:takerIn C.K c name=some (some (.ref p))) (hT:typeIn C.K (.ref p)=some (.type "member_descriptor")) (hi:slotIn C.K p c=some i) (hz:i<1000):
  di C k Z (λx y=>setAttr x name y) (.loc l) v (λw g=>True) (Z.set l (.slots c d (gy vs i v))):=by
 intro W ra rb q qv A s outer hr hA hS I;refine Kx (hl.at I q) λx dx sl od ex hx hdx u=>?_;refine bG u λhsl IA=>?_;have X:=e8 O I;refine set_plain X IA hs (osa_descr (s:={s with toks:=s.toks+1}) KF.slot_mset (show C.K.In s.heap from X) IA hp ht hT (Cw (s:={s with toks:=s.toks+1}) (show C.K.In s.heap from X) IA hi hz rfl ?_));refine⟨W,.refl W,I.upd (t:=s.toks+1) (d:=s.drawn) ex (ew _ _ _) (jw _ hx rfl) ⟨dx,_,hdx,?_,hsl.put qv (i:=i)⟩ (by omega),trivial⟩;have e:(sl++List.replicate (i+1 - sl.length) none).toArray.setIfInBounds i (some rb)=((sl++List.replicate (i+1 - sl.length) none).set i (some rb)).toArray:=by simp
 rw [<-e];have e2:(sl++List.replicate (i+1 - sl.length) none).toArray=sl.toArray++Array.replicate (i+1 - sl.toArray.size) none:=by apply Array.ext';simp
 rw [e2]
end
end V
end
section
namespace V
open Builtin Builtin.Str
section
variable {C:Cx} {k:Nat} {sc:Scope} {A:Around} {W:Wd} {env:Env} {ms ai aZ b6 aK:List (Option AV)} {Z ae aN bX aB:St} {s:Shared}
theorem og (O:C.Ok) (hl:Z l=some (.inst c d)) (hd:Z d=some (.dict es)) (hga:findIn C.K (.ref c) "__getattribute__"=some (some (.builtin "object.__getattribute__"))) (hk:findIn C.K (.ref c) "__getattr__"=some none)
  (ht:typeIn C.K (.ref f)=some (.type "function"))
  (hf: ∀(xs:List (Tok×Value)) (n:Nat),xs.length=es.length->findObj C.K c (some (tabOf C.w.params (es.map (·.1)) xs n)) name=some (.bind (.builtin "function.__get__") (.ref f))):
  ib C k Z (λx=>getAttr x name true) (.loc l) (λW r=>aw W (.bm f l) r) Z:=by
 intro W ra q A s outer hr hA hS I;refine wj (I.inst hl hd q) λx dx xs n z=>?_;subst z;intro hdx IA v u;refine bG u λhlen hvs=>?_;refine c12 q λx' ex OX=>?_;clear q;cases OX;have X:=e8 O I;refine get_bind X IA hga (hf xs n hlen) hk (rC (fn_get (s:={s with toks:=s.toks+1}) X ht ?_));refine handed_on rfl ?_;refine bG I.cz λn1 n2=>?_;have g:(s.heap.push (methodObj (.ref f) (.ref x))).get? s.heap.objs.size=some (methodObj (.ref f) (.ref x)):=dZ _ rfl;refine bG (I.fX (t:=s.toks+1) (d:=s.drawn) n1 n2 (a9 _ _) g) λle I'=>⟨_,le,I',?_⟩;refine Hh x s.heap.objs.size (methodObj (.ref f) (.ref x)) (le.1 _ _ ex) rfl ?_ rfl rfl;show(if _ then _ else _)=_
 rw [aG rfl]
theorem B8 (h:Cd C k Z (.ext f) (.loc l::as) kw v aB):Ca C k Z (.bm f l) as kw v aB:=by
 intro W rf df fq qf qa qk A s outer hr hA hS I;refine Hr qf λa b o e q=>?_;clear qf;subst q;intro hb c1 c2;have ho:=I.frozen hb (by rw [c1];decide);obtain⟨oc,od,dt,sl⟩:=o;simp only at c1 c2;subst c1 c2;refine rC (mA ?_);refine(?_:wpAny _ A.in1 (callAny (.ref b) _) _ _ _);refine ak (wpAny_load ho ?_);refine aQ ⟨rfl,?_⟩;refine kZ (h W (.ref f) (.ref a::df) fq rfl (.cons (i12 a e rfl) qa) qk A s outer hr hA hS I) λr s' z=> ?_;rcases r with e | (v | _ | _ | _)<;>first | exact z | exact z.elim
theorem vk {Q:List Value->Shared->Prop} (h:IsL Z v xs) (hz:xs.length<=sizeLine) (I:Inv C W Z s) (q:aw W v rv) (g: ∀h' vs,(∀b o,s.heap.get? b=some o->h'.get? b=some o)->aU W xs vs->Q vs {s with heap:=h'}):StarOf C.M A No rv Q s:=by refine Eg (h.is q I) λla vs n hl ks=>?_;have hT:s.TypeIs (.ref la) "list":=⟨_,hl,rfl⟩;refine ak (wpAny_specialOf hT PySem.F.slot_list_iter.lookup (aQ ⟨rfl,?_⟩));exact wpAny_collect_seq la (.inl rfl) hl rfl rfl (λh' hk=>g h' _ hk (by simpa using ks)) (by simp [ks.length];exact hz)
theorem yF {Q:List Value->Shared->Prop} (h:IsL Z v xs) (hz:xs.length<=sizeLine) (H:At C sc A W env ms Z s) (q:aw W v rv) (g: ∀s' vs,At C sc A W env ms Z s'->aU W xs vs->Q vs s'):StarOf C.M A No rv Q s:=by
 refine vk h hz H.inv q λh' vs hk ks=>g _ vs ⟨H.inv.same hk,?_⟩ ks;have F:=H.fr;obtain⟨mr,hn,hv⟩:=F.ns;refine⟨F.scope,F.globals,F.builtins,F.ok,⟨mr,?_,hv⟩,λi x hx=> ?_,F.mi,λx a hx=> ?_,F.iQ,?_,?_⟩
 ·refine lU hn λo es ep ho hd r=>?_;clear hn;exact zt o es ep (hk _ _ ho) hd r
 ·obtain⟨a,ov,h1,⟨o,ho,hd⟩,h3⟩:=F.cells i x hx;exact⟨a,ov,h1,⟨o,hk _ _ ho,hd⟩,h3⟩
 ·obtain⟨h1,h2,h3,ov,o,ho,hd,hc⟩:=F.mZ x a hx;exact⟨h1,h2,h3,ov,o,hk _ _ ho,hd,hc⟩
 ·obtain⟨o,es,n,ho,hc,hd⟩:=F.je;exact⟨o,es,n,hk _ _ ho,hc,hd⟩
 ·obtain⟨fenv,rest,L,h1,h2,h3,h4,h5,h6,h7⟩:=F.pE;refine⟨fenv,rest,L,h1,h2,h3,h4,h5,h6,?_⟩;refine aP h7 (λu=>?_) λz=>?_
  ·rcases u with⟨rfl,o,es,n,ho,hc1,hd⟩
   exact .inl ⟨rfl,o,es,n,hk _ _ ho,hc1,hd⟩
  ·exact .inr z
theorem EY (h1:Ev C k sc ms Z e v ai ae) (hl:IsL ae v xs) (hz:xs.length<=sizeLine) (h2:Es C k sc ai ae pos rest vs aK aB)
  (he: ∀env,starEach (.Starred e p::rest) env=(true,eval e env)::starEach rest env):Es C k sc ms Z pos (.Starred e p::rest) (xs++vs) aK aB:=by
 intro A W env s hr H;refine(?_:wpAny C.M A (spliced (backTo pos (starEach (.Starred e p::rest) env))) _ _ _);rw [he];refine ks_spliced (bf (h1 A W env s hr H) λaR r aI aA aO q=>yF hl hz aO q λaT us aF qs=> ?_);exact bf (h2 A aR env aT hr aF) λbh rs bt ax br qr=>bw (aA.trans ax) br ((qs.mono ax).append qr)
theorem jR {Q:Value->Shared->Prop} (h1:Ev C k sc ms Z o ov ai ae) (hm:ib C k ae (λx=>getAttr x name true) ov (λW r=>aw W f r) ae)
  (hb: ∀env t,attributeBase o name env t=t) (hf:methodCallForm (args.length+kws.length) (backTo pos (starEach args env)) (backToKw pos (keywordEach kws env))=false) (hr:bY C A k) (H:At C sc A W env ms Z s)
  (g: ∀W' rf s',W.le W'->At C sc A W' env ai ae s'->aw W' f rf->wpAny C.M A (callWith pos rf [] (backTo pos (starEach args env)) (backToKw pos (keywordEach kws env))) Q No s'):wpAny C.M A (eval (.Call (.Attribute o name apos) args kws pos) env) Q No s:=by
 rw [ji,hb];refine cR (h1 A W env s hr H) λaR ro aI aA aO qo=>ak (cF ?_);delta methodCall;rw [hf];refine ak (cA ?_);refine ak ?_;refine Op.in rfl (hm _ ro (qo.mono (a8 aO.fr))) hr aO λbh r aT ax aF q tk u=>aQ ?_;have hp:methodCallPos false o env apos pos=pure pos:=by delta methodCallPos;simp
 exact ak (eL hp (g _ r aT (aA.trans ax) aF (tk q)))
theorem Dr (h1:Ev C k sc ms Z o ov ai ae) (hm:ib C k ae (λx=>getAttr x name true) ov (λW r=>aw W f r) ae) (h2:Ev C k sc ai ae e b aZ aN) (hl:IsL aN b xs) (hz:xs.length<=sizeLine) (hk:Kp C f) (h3:Ca C k aN f xs [] v aB)
  (hb: ∀env t,attributeBase o name env t=t) (hf: ∀env,methodCallForm 1 (backTo pos (starEach [.Starred e p] env)) []=false) (he: ∀env,starEach [.Starred e p] env= [(true,eval e env)]):
  Ev C k sc ms Z (.Call (.Attribute o name apos) [.Starred e p] [] pos) v aZ aB:=by
 intro A W env s hr H;refine jR (kws:= []) h1 hm hb (hf env) hr H λaR rf aI aA aO qf=> ?_;rw [he];refine cK ?_;refine(?_:wpAny C.M A (evalArgs rf true [(true,do let v<-eval e env;standAt pos;pure v)] []) _ _ _);refine ks_lone (bf (h2 A aR env aI hr aO) λbh rb aT ax aF qb=>yF hl hz aF qb λbt us br qs=>⟨hk _ _ _ _ br.inv (qf.mono ax),?_⟩);exact h3.in hr br (qf.mono ax) qs .nil λbS r bt bg br q=>bw (aA.trans (ax.trans bg)) br q
end
end V
end
section
namespace V
open Builtin Builtin.Str
theorem oY {α:Type} {E:Value->Shared->Prop} {f:α->PUnit->Sem (ForInStep PUnit)} (P:Nat->Shared->Prop): ∀(l:List α) (s:Shared) (j:Nat),P j s->
  (∀i x s,l[i]? =some x->P (j+i) s->wpAny M A (f x ⟨⟩) (λr s'=>r= .yield ⟨⟩/\P (j+i+1) s') E s)->wpAny M A (forIn l ⟨⟩ f) (λv s'=>P (j+l.length) s') E s:=by
 intro aH;induction aH with
 | nil=>
  intro s j h0 v;exact by rw [t5];exact aQ h0
 | cons x l ih=>
  intro s j h0 hs;rw [nc];refine ak (bF (hs 0 x s rfl h0) (λr s' u=> ?_) λv w e=>e);refine bG u λe z=>?_;clear u;subst e;refine bF (ih s' (j+1) z λi y s hi hp=> ?_) (λv s'' q=> ?_) λv w e=>e
  ·have e1:j+1+i=j+(i+1):=by omega
   rw [e1]at hp⊢;exact hs (i+1) y s hi hp
  ·have e1:j+(x::l).length=j+1+l.length:=by rw [cq];omega
   rw [e1];exact q
section
variable {prog:Program} {w:World} {A:Around} {E:Value->Shared->Prop} {s:Shared}
noncomputable abbrev K0 (prog:Program) (w:World):=PySem.strKind prog w
noncomputable abbrev tab (es:List DictEntry) (n:Nat):Obj:={cls:= .type "dict",data:= .dict es.toArray n}
theorem FL {Q:Unit->Shared->Prop} (hkey:(K0 prog w).is k key=true) (hd:s.heap.get? d=some (tab es n)) (hk:KeysOf (K0 prog w) es.toArray) (hn:es.any (λe=>(K0 prog w).is k e.key)=false) (hz:es.length<=sizeLine)
  (h: ∀h',h'.get? d=some (tab (es++ [⟨(K0 prog w).hash k,key,v⟩]) (n+1))->Heap.SameBut d s.heap h'->Q () {s with heap:=h'}):wpAny (model prog w) A (dictPut d ((K0 prog w).hash k) key v) Q E s:=by
 refine ak (wpAny_dictFind_of (knd:=K0 prog w) hkey hd rfl hk ?_);have e:(es.toArray.findIdx? λe=>(K0 prog w).is k e.key)=none:=by rw [List.findIdx?_toArray,List.findIdx?_eq_none_iff];intro x hx;have:=zE.mp hn x hx;simpa using this
 rw [e];refine wpAny_updateDictKeys hd rfl (h _ ?_ (zb ..)) (by simpa using hz) (by simp);rw [jw _ hd rfl];simp [Obj.mapDictKeys,tab]
theorem zM {Q:Unit->Shared->Prop} (ha:s.heap.get? a=some (tab es n)) (hd:s.heap.get? d=some (tab [] 0)) (hne:a≠d) (ns:(a==sysModules)=false) (hk:KeysOf (K0 prog w) es.toArray) (kvs:List (Str×Value)) (hp:Pairs (K0 prog w) es kvs) (hnd:(kvs.map (·.1)).Nodup) (hz:es.length<=sizeLine)
  (h: ∀h',h'.get? d=some (tab es es.length)->Heap.SameBut d s.heap h'->Q () {s with heap:=h'}):wpAny (model prog w) A (mergeMapping d (.ref a) true) Q E s:=by
 have hT:s.TypeIs (.ref a) "dict":=⟨_,ha,rfl⟩;refine ak (wpAny_isInstance (b:=true) hT (by rw [ta];kernel_rfl) ?_);refine ak (wpAny_specialOf hT PySem.F.slot_dict_iter.lookup (ak (aQ ?_)));have e0:(some (Value.builtin "dict.__iter__")==some (Value.builtin "dict.__iter__"))=true:=by decide
 rw [e0];dsimp only;rw [ns];have hl:kvs.length=es.length:=hp.length.symm;have Je: ∀(i:Nat) (e:DictEntry),es[i]? =some e-> ∃k v,kvs[i]? =some (k,v)/\(K0 prog w).is k e.key=true/\e.val=v/\e.hash=(K0 prog w).hash k:=λi e he=>by
  have hi:i<kvs.length:=by rw [hl];exact(lI.mp he).1
  refine bG (hp.get? (k:=(kvs[i]).1) (v:=(kvs[i]).2) he (nv hi)) λh1 h2=>?_;refine c12 (hk e (by simpa using ip he)) λk' q1 q2=>?_;have:=(K0 prog w).inj _ _ _ q1 h1;exact MI _ _ (nv hi) h1 h2 (by rw [q2,this];rfl)
 refine ak (DD hd rfl ?_);have rest:wpAny (model prog w) A (do
   let size:=(<-dictEntries a).size
   let epoch<-dictEpoch a
   for i in List.range size do
    let some e:=(<-dictEntries a)[i]? | unsupported "dict.changed-during-merge"
    holding [e.key,e.val] do
     if true then
      if(<-dictFind d e.key e.hash).isSome then rule "dict.merge.duplicate-key";raiseNew (<-newExc (.type "KeyError") [e.key])
     dictPut d e.hash e.key e.val
    if(<-dictEpoch a) !=epoch then unsupported "dict.changed-during-merge") Q E s:=by
  refine ak (DD ha rfl (ak (wpAny_dictEpoch ha rfl ?_)))
  let P:Nat->Shared->Prop:=λi s'=>s'.heap.get? d=some (tab (es.take i) i)/\Heap.SameBut d s.heap s'.heap/\s'={s with heap:=s'.heap}
  refine ak (bF (oY P (List.range es.length) s 0 ⟨by simpa using hd,⟨rfl,λu g=>rfl⟩,rfl⟩ λi x s1 hx hP=> ?_) (λu s' hq=>aQ ?_) λu g e=>e)
  ·have hi:i<es.length:=by have:=(lI.mp hx).1;simpa using this
   have hxi:x=i:=by rw [List.getElem?_range hi]at hx;exact(dI hx).symm
   subst hxi;refine nR hP λNb hP2 OY=>?_;clear hP;rw [pd]at Nb⊢;have ha1:s1.heap.get? a=some (tab es n):=(hP2.2 a hne).trans ha;have he:es[x]? =some es[x]:=nv hi;refine tM (Je x _ he) λk v hkv hkey hval hhash=>ak (DD ha1 rfl ?_);rw [List.getElem?_toArray,he];dsimp only;have hk1:KeysOf (K0 prog w) (es.take x).toArray:=λe hm=>hk e (by simpa using List.mem_of_mem_take (by simpa using hm));have hno:(es.take x).any (λe=>(K0 prog w).is k e.key)=false:=by
    rw [zE];intro e hm hh;refine cG (vi hm) λj hj=>?_;have hjx:j<x:=by have:=(lI.mp hj).1;simp at this;omega
    rw [FE hjx]at hj;refine tM (Je j e hj) λk2 v2 Nc LQ _ _=>?_;have e2:k2=k:=(K0 prog w).inj _ _ _ LQ (by simpa using hh);have g1:(kvs.map (·.1))[j]? =some k:=by rw [gq,Nc,e2];rfl
    have g2:(kvs.map (·.1))[x]? =some k:=by rw [gq,hkv];rfl
    have lj:=(lI.mp g1).1;have:=(List.getElem?_inj lj hnd).mp (g1.trans g2.symm);omega
   refine ak (cA ?_);rw [hhash];refine ak (wpAny_dictFind_of (knd:=K0 prog w) hkey Nb rfl hk1 ?_);have e:((es.take x).toArray.findIdx? λe=>(K0 prog w).is k e.key)=none:=by rw [List.findIdx?_toArray,List.findIdx?_eq_none_iff];intro y hy;have:=zE.mp hno y hy;simpa using this
   rw [e];refine FL hkey Nb hk1 hno (by rw [List.length_take];omega) λh' g1 g2=> ?_;have ha2:h'.get? a=some (tab es n):=(g2.2 a hne).trans ha1;refine ak (wpAny_dictEpoch (s:={s1 with heap:=h'}) ha2 rfl ?_);simp only [BH,iP,jG];have e3:es.take (x+1)=es.take x++ [⟨(K0 prog w).hash k,(es[x]).key,(es[x]).val⟩]:=by
    rw [C6,he];have:es[x]=⟨(K0 prog w).hash k,(es[x]).key,(es[x]).val⟩:=by rw [<-hhash]
    rw [<-this];rfl
   exact aQ ⟨rfl,by rw [e3];exact g1,⟨g2.1.trans hP2.1,λb hb=>(g2.2 b hb).trans (hP2.2 b hb)⟩,by rw [OY]⟩
  ·refine nR hq λq1 q2 q3=>?_;clear hq;rw [q3];have e4:0+(List.range es.length).length=es.length:=by simp
   rw [e4,List.take_of_length_le (bT _)]at q1;exact h _ q1 q2
 refine ak (DD ha rfl ?_);rw [<-Array.forIn_toList];refine ak (bF (oY (λu s'=>s'=s) es s 0 rfl λi x s1 hx hP=> ?_) (λu s' hq=> ?_) λu g e=>e)
 ·subst hP;refine fu (Je i x hx) λk v _ hkey _=>cG (xr hkey) λt ht=>?_;rw [ht];exact aQ ⟨rfl,rfl⟩
 ·subst hq;exact rest
theorem tr {Q:Addr->Shared->Prop}
  (h:wpAny (model prog w) A x (λrm aT=>wpAny (model prog w) A (mergeMapping s.heap.objs.size rm true) (λu bt=>Q s.heap.objs.size bt) No aT) No {s with heap:=s.heap.push {cls:= .type "dict",data:= .dict #[]}}):
  wpAny (model prog w) A (mergedKeywords f [(none,x)]) Q No s:=by
 delta mergedKeywords;refine ak (wpAny_alloc (ak (cA ?_)));refine ak ?_;rw [nc];refine ak ?_;dsimp only;refine ak ?_;rw [aG (show([]:List (Str×Sem Value)).isEmpty=true from rfl)];refine aQ ?_;refine ak (bF h (λrm aT jC=> ?_) λu v e=>e.elim);refine ak (jS ?_);refine bF (Q:=λu bt=>Q s.heap.objs.size bt) (E:=No) (cA (wpAny_tryCatch (jS (bF jC (λu v q=>q) λu v e=>e.elim)))) (λu bt q=> ?_) λu v e=>e.elim;refine aQ ?_;dsimp only;rw [t5];refine aQ ?_;rw [aG (show([]:List (Str×Sem Value)).isEmpty=true from rfl)];exact aQ (aQ q)
theorem CP {Q:List (Str×Value)->Shared->Prop} (hd:s.heap.get? d=some (tab es n)) (hp:Pairs (K0 prog w) es kvs) (h:Q kvs s):wpAny (model prog w) A (keywordsIn f d) Q No s:=by
 refine ak (DD hd rfl ?_);rw [<-Array.forIn_toList];have key: ∀(es:List DictEntry) (kvs acc:List (Str×Value)) (g:DictEntry->List (Str×Value)->Sem (ForInStep (List (Str×Value)))) (R:List (Str×Value)->Shared->Prop),Pairs (K0 prog w) es kvs->(∀(x:Str) (t:Tok) (hh:Int) (v:Value) acc,g ⟨hh,.str x t,v⟩ acc=pure (.yield (acc++ [(x,v)])))->R (acc++kvs) s->wpAny (model prog w) A (forIn es acc g) R No s:=by
  intro es
  induction es with
  | nil=>intro kvs acc g R hp hg hR;cases hp;rw [t5];rw [iI]at hR;exact aQ hR
  | cons e es ih=>
   intro kvs acc g R hp hg hR;cases hp with
   | @cons _ kv _ kvs h1 h2 h3=>obtain⟨eh,ek,ev⟩:=e;refine cG (xr h1) λt ht=>?_;simp only at ht h2;subst ht h2;rw [nc,hg];refine ak (aQ ?_);refine ih kvs _ g R h3 hg ?_;rw [eX];exact hR
 refine ak (key es kvs [] _ _ hp (λx t hh v acc=>rfl) ?_);exact aQ h
end
section
variable {C:Cx} {k:Nat} {sc:Scope} {A:Around} {W:Wd} {env:Env} {ms ai aZ b6 aK:List (Option AV)} {Z ae aN bX aB:St} {s:Shared}
theorem Bs (I:Inv C W Z s) (h:qW Z l es) (hn:DN es) (q:aw W (.loc l) rv):
  ∃a ds n kvs,rv= .ref a/\(a==sysModules)=false/\s.heap.get? a=some (tab ds n)/\KeysOf (K0 C.prog C.w) ds.toArray/\Pairs (K0 C.prog C.w) ds kvs/\(kvs.map (·.1)).Nodup/\bK W es kvs/\ds.length=es.length:=by
 refine Br (I.dict h hn q) λa kvs e ns u hk=>?_;refine NQ u λo ds n g v c4 h1 h2 h3=>nR v λc1 c2 c3=>?_;obtain⟨oc,od,dt,sl⟩:=o;simp only at c1 c2 c3 c4;subst c1 c2 c3 c4;refine⟨a,ds.toList,n,kvs,rfl,ns,by simpa using g,by simpa using h1,h2,h3,hk,?_⟩;rw [h2.length,hk.length]
theorem HX (h1:Ev C k sc ms Z o ov ai ae) (hm:ib C k ae (λx=>getAttr x name true) ov (λW r=>aw W f r) ae)
  (h2:Es C k sc ai ae pos args as aZ aN) (h3:Ev C k sc aZ aN e (.loc l) b6 bX) (hd:qW bX l es) (hn:DN es) (hz:es.length<=sizeLine) (hk:Kp C f) (h4:Ca C k bX f as es v aB)
  (hb: ∀env t,attributeBase o name env t=t) (hf: ∀env,methodCallForm (args.length+1) (backTo pos (starEach args env)) (backToKw pos (keywordEach [⟨none,e,p⟩] env))=false) (hs: ∀env,(backTo pos (starEach args env)).any (·.1)=false)
  (he: ∀env,backToKw pos (keywordEach [⟨none,e,p⟩] env)= [(none,do let v<-eval e env;standAt pos;pure v)]):
  Ev C k sc ms Z (.Call (.Attribute o name apos) args [⟨none,e,p⟩] pos) v b6 aB:=by
 intro A W env s hr H;refine jR (kws:= [⟨none,e,p⟩]) h1 hm hb (hf env) hr H λaR rf aI aA aO qf=> ?_;rw [he];refine cK ?_;have key: ∀(vs:List Value) (bh:Wd) (aT:Shared),aR.le bh->At C sc A bh env aZ aN aT->aU bh as vs->wpAny C.M A (mergedKeywords rf [(none,do let v<-eval e env;standAt pos;pure v)]>>=λd=>(pure vs:Sem (List Value))>>=λps=>holding (.ref d::ps) (keywordsIn rf d)>>=λkw=>pure (⟨ps,kw⟩:Args))
   (λa aI=>(∃k,Looks C.M aI.heap (keeperOf rf) k)/\wpAny C.M A (call rf ([]++a.pos) a.kw) (ie C sc A W env b6 aB λW r=>aw W v r) No aI) No aT:=by
  intro vs bh aT ax aF qv;refine ak (tr ?_);have n0:=aF.inv.cz;have own: ¬Own env aT.heap.objs.size:=λq=>by obtain⟨_,_,o,ho,_⟩:=aF.fr.own q;exact absurd (il ho) (iM _)
  have OZ:=aF.fr.jT own n0.1;have Hp:At C sc A bh env aZ aN {aT with heap:=aT.heap.push (tab [] 0)}:=⟨aF.inv.same (a9 _ _),aF.fr.keep own n0.1 OZ λb o j z=>a9 _ _ _ _ z⟩;have jk: ∀(i:Nat) (rv:Value) (ob:Obj),ob=tab [] 0->Jk ob/\ob.cls≠ .type "frame":=λi rv ob z=>by subst z;exact⟨λn z=>by cases z;decide,λz=>by have:=ni z;revert this;decide⟩
  have Kh:ph C bh env .none (λj u1 ob=>ob=tab [] 0) 0 aT.heap.objs.size {aT with heap:=aT.heap.push (tab [] 0)}:=⟨⟨_,.none,dZ _ rfl,c6,rfl⟩,n0,own,aF.inv.mW n0.1⟩;refine lh jk Hp Kh (aK:=b6) (aB:=bX) (R:=λW r=>aw W (.loc l) r) (λbS bg br=>ak (bf (h3 A bS env _ hr br) λnD r jf eW gv q=>ak (cF (aQ (bw eW gv q))))) (λbS X r hc q=>q.taken hc) λbS rm bt bg br jJ D4=> ?_;refine wj (Bs br.inv hd hn D4) λa ds n kvs m=>?_;subst m;intro ns ga hk1 g;refine ku g λhp1 hnd O0 hlen=>?_;refine fu jJ.ex λob rs hob _ u=>?_;subst u;have hne:a≠aT.heap.objs.size:=λz=>by refine c12 D4 λa' e1 e2=>?_;clear D4;cases e2;exact jJ.fresh.2 l (z▸e1)
  refine zM (prog:=C.prog) (w:=C.w) ga hob hne ns hk1 kvs hp1 hnd (by rw [hlen];exact hz) λh' g1 g2=>ak (aQ (ak (cA (CP g1 hp1 (aQ ?_)))));have mK:At C sc A bS env b6 bX {bt with heap:=h'}:=⟨br.inv.but jJ.fresh.1 jJ.fresh.2 λb o nb z=>(g2.2 b nb).trans z,br.fr.keep jJ.own jJ.fresh.1 (br.fr.jT jJ.own jJ.fresh.1) λb o nb z=>(g2.2 b nb).trans z⟩;refine⟨hk _ _ _ _ mK.inv ((qf.mono ax).mono bg),?_⟩;exact h4.in hr mK ((qf.mono ax).mono bg) (qv.mono bg) O0 λnD r jf eW gv q=>bw (aA.trans (ax.trans (bg.trans eW))) gv q
 have fin: ∀{t:Sem (List Value×Option Value)},wpAny C.M A t (λpl aT=>pl.2=none/\ ∃bh,aR.le bh/\At C sc A bh env aZ aN aT/\aU bh as pl.1) No aI->True:=λj=>trivial;have hpos:wpAny C.M A (spliced (backTo pos (starEach args env))) (ie C sc A aR env aZ aN λW r=>aU W as r) No aI:=h2 A aR env aI hr aO;rcases hargs:backTo pos (starEach args env)with _ | ⟨⟨b,x⟩,r⟩
 ·rw [hargs]at hpos;refine(?_:wpAny C.M A (spliced _>>=_) _ _ _);refine ak (bf hpos λbh df aT ax aF qa=>ak (aQ (cA ?_)));exact key df bh aT ax aF qa
 ·cases b with
  | false=>rw [hargs]at hpos;refine(?_:wpAny C.M A (spliced _>>=_) _ _ _);refine ak (bf hpos λbh df aT ax aF qa=>ak (aQ (cA ?_)));exact key df bh aT ax aF qa
  | true=>
   rcases r with _ | ⟨y,r⟩
   ·exact absurd hargs (qQ (hs env) x)
   ·rw [hargs]at hpos;refine(?_:wpAny C.M A (spliced _>>=_) _ _ _);refine ak (bf hpos λbh df aT ax aF qa=>ak (aQ (cA ?_)));exact key df bh aT ax aF qa
end
end V
end
section
namespace V
open Builtin Builtin.Str
section
variable {prog:Program} {w:World} {A:Around} {E:Value->Shared->Prop} {s:Shared}
theorem Ij {Q:Unit->Shared->Prop} (hd:s.heap.get? d=some (tab es n)) (hp:Pairs (K0 prog w) es kvs) (hx:x∉kvs.map (·.1))
  (h: ∀h' t,h'.get? d=some (tab (es++ [⟨(K0 prog w).hash x,.str x t,v⟩]) (n+1))->Heap.SameBut d s.heap h'->Q () {s with heap:=h',toks:=s.toks+1}):wpAny (model prog w) A (nsSet d x v) Q E s:=by
 have hno:es.toArray.findIdx? (λe=>e.key.isStr x)=none:=by
  rw [List.findIdx?_toArray,List.findIdx?_eq_none_iff];intro e he;refine cG (vi he) λi hi=>?_;have hl:i<kvs.length:=by rw [<-hp.length];exact(lI.mp hi).1
  refine bG (hp.get? (k:=(kvs[i]).1) (v:=(kvs[i]).2) hi (nv hl)) λh1 _=>?_;refine cG (xr h1) λt ht=>?_;rw [ht];cases q:(Value.str (kvs[i]).1 t).isStr x with
  | false=>rfl
  | true=>
   have:(kvs[i]).1=x:=by simpa [Value.isStr]using q
   exact absurd (this▸bM.mpr ⟨_,List.getElem_mem hl,rfl⟩) hx
 have href:es.any (·.refKey)=false:=by
  rw [zE];intro e he hh;refine cG (vi he) λi hi=>?_;have hl:i<kvs.length:=by rw [<-hp.length];exact(lI.mp hi).1
  refine bG (hp.get? (k:=(kvs[i]).1) (v:=(kvs[i]).2) hi (nv hl)) λh1 _=>?_;refine cG (xr h1) λt ht=>?_;delta DictEntry.refKey at hh;rw [ht]at hh;simp at hh
 have hany:es.toArray.any (·.refKey)=false:=by rw [List.any_toArray];exact href
 intro Γ p D0;simp only [nsSet,strHash,uJ,Sem.wp_cmd_ask,Sem.wp_pure',Sem.wp_cmd_mkText];rw [Sem.wp_loadPart_of (model prog w) Γ _ p {s with toks:=s.toks+1} (o:=tab es n) _ hd];simp only [aRefKeyMayBeTheName_eq,aRefKeyMayBeTheNameByArray,hany,Bool.and_false,iP,jG,Sem.wp_cmd_updatePart];refine⟨by rw [hd];rfl,?_⟩;have e:Obj.putName x (PyData.keyHash w.params x) (.str x s.toks) v (tab es n)=tab (es++ [⟨(K0 prog w).hash x,.str x s.toks,v⟩]) (n+1):=by simp only [Obj.putName_eq,Obj.putNameByArray,hno];simp;rfl
 have g:=jw (Obj.putName x (PyData.keyHash w.params x) (.str x s.toks) v) hd (by rw [e];rfl);rw [e]at g;exact h _ _ g (zb ..)
end
section
variable {C:Cx} {k:Nat} {sc:Scope} {A:Around} {W:Wd} {env:Env} {ms ai aZ b6 aK:List (Option AV)} {Z ae aN bX aB:St} {s:Shared}
theorem bK.Mq (q:aw W v r): ∀{bs:List (Str×AV)} {ks:List (Str×Value)},bK W bs ks->bK W (bs++ [(x,v)]) (ks++ [(x,r)]):=by
 intro aH;induction aH with
 | nil=>
  intro w h;exact by subst h;exact jE r ([]) rfl q rfl
 | cons dQ bs ih=>intro w h;obtain⟨n,y⟩:=dQ;refine gD h λu ks' a b=>jE u (ks'++ [(x,r)]) rfl a (ih b)
theorem Av (hl:Z l=none) (hn:DN kw)
  (h: ∀df:List Value,df.length=as.length-> ∀fq:List (Str×Value),fq.map (·.1)=kw.map (·.1)-> ∃f:Addr->Str×Value->PUnit->Sem (ForInStep PUnit),bindArgs fd ⟨df,fq⟩=(alloc {cls:= .type "dict",data:= .dict #[]}>>=λd=>forIn fq ⟨⟩ (f d)>>=λ_=>pure ((bs.map (·.1)).zip df++ [(x,.ref d)]))/\
   ∀d n v u,f d (n,v) u=(nsSet d n v>>=λ_=>pure (.yield ⟨⟩)))
  (hb:bs.map (·.2)=as):Bd C k fd Z as kw (bs++ [(x,.loc l)]) (Z.set l (.dict kw)):=by
 intro W df fq ha hk A s outer hr hA hS I;refine c12 (h df ha.length fq hk.keys) λf e hf=>?_;rw [e];refine ak (wpAny_alloc ?_);refine bG I.cz λn1 n2=>?_;have hnd:(fq.map (·.1)).Nodup:=by rw [hk.keys];exact hn
 have run: ∀(rest done:List (Str×Value)) (es:List DictEntry) (n:Nat) (s':Shared) (P:PUnit->Shared->Prop),done++rest=fq->s'.heap.get? s.heap.objs.size=some (tab es n)->Pairs (sk C) es done->PySem.KeysOf (sk C) es.toArray->
   (∀b o,b≠s.heap.objs.size->s.heap.get? b=some o->s'.heap.get? b=some o)->s.toks<=s'.toks->s'.gens=s.gens->s'.os=s.os->
   (∀(es:List DictEntry) (n:Nat) (s'':Shared),s''.heap.get? s.heap.objs.size=some (tab es n)->Pairs (sk C) es fq->PySem.KeysOf (sk C) es.toArray->(∀b o,b≠s.heap.objs.size->s.heap.get? b=some o->s''.heap.get? b=some o)->s.toks<=s''.toks->s''.gens=s.gens->s''.os=s.os->P ⟨⟩ s'')->
   wpAny C.M A (forIn rest ⟨⟩ (f s.heap.objs.size)) P No s':=by
  intro rest
  induction rest with
  | nil=>intro done es n s' P hd hg hp hk3 hb ht h1 h2 hP;rw [iI]at hd;subst hd;rw [t5];exact aQ (hP es n s' hg hp hk3 hb ht h1 h2)
  | cons p rest ih=>
   intro done es n s' P hd hg hp hk3 hb ht h1 h2 hP;obtain⟨x,v⟩:=p;rw [nc,hf];refine ak (ak (Ij (prog:=C.prog) (w:=C.w) hg hp (λhm=> ?_) λh' t g1 g2=>aQ ?_))
   ·rw [<-hd,fk,ue]at hnd;exact hnd.2.2 x hm x (by simp) rfl
   ·refine ih (done++ [(x,v)]) _ _ _ P (by rw [eX];exact hd) g1 ?_ ?_ (λb o nb z=>(g2.2 b nb).trans (hb b o nb z)) (Nat.le_succ_of_le ht) h1 h2 hP
    ·exact hp.append (oQ _ _ _ _) _ _
    ·intro e he;rw [List.mem_toArray,cm]at he;refine aP he (λhe=>?_) λhe=>?_
     ·exact hk3 e (by simpa using he)
     ·rw [i8]at he;subst he;exact i12 x (oQ _ _ _ _) rfl
 refine ak (run fq [] [] 0 _ _ rfl (dZ _ rfl) .nil (λe he=>by simp at he) (λb o _ z=>a9 _ _ _ _ z) (bT _) rfl rfl λes n s'' g1 hp hk' hb' ht e1 e2=>aQ ?_);obtain⟨hp',gn,dr,tk,os⟩:=s'';dsimp only at e1 e2 g1 hb' ht;subst e1 e2;have hdo:hp'.DictOf (sk C) s.heap.objs.size fq:=⟨_,es.toArray,n,g1,⟨rfl,rfl,rfl⟩,rfl,hk',by simpa using hp,hnd⟩;have LK:W.le (W.name l s.heap.objs.size):=⟨λx b e=>by
  refine(?_:(if x=l then _ else W.ρ x)=some b);split
  ·rename_i z;subst z;rw [I.none_of hl]at e;exact dC e
  ·exact e,λ_ _ e=>e⟩
 refine c12 (yu hdo ((hk.mono LK))) λob o1 o2=>?_;refine bG (I.new (t:=tk) (d:=dr) (o:= .dict kw) hl n1 n2 I.big (λb o z=>hb' b o (λq=>by subst q;exact absurd (il z) (iM _)) z) o1 o2 ht) λle I'=>⟨_,le,I',?_⟩;refine bK.Mq ?_ (iU (vs:=bs) (by rw [hb];exact ha.mono le));exact i12 _ (by show(if _ then _ else _)=_;rw [aG rfl]) rfl
theorem Inv.setOf (I:Inv C W Z s) (h:Z l=some (.set xs)) (hz:xs.length<scanBound) (q:aw W (.loc l) rv):
  ∃a,rv= .ref a/\W.ρ l=some a/\s.heap.SetOf (sk C) a (λk=>decide (k∈xs)) xs.length:=by
 refine uU q λa e=>c12 (I.obj l a _ e h) λob h1 h2=>?_;have h2:ob.SetObjOf (sk C) (λk=>decide (k∈xs)) xs.length:=h2;exact vO a rfl e (h2.setOf h1 hz)
theorem HP (hl:Z l=none):Ca C k Z (.ty "set") [] [] (.loc l) (Z.set l (.set [])):=by
 intro W rf df fq hf ha hk A s outer hr hA hS I;subst hf;subst hk;subst ha;refine call_set_0 λled=>C0 (I.newObj (o:= .set []) (ob:={cls:= .type "set",dict:=none,data:= .set #[] 0 (.fresh 0 0 led)}) hl (dZ _ rfl) (bT _) (λW' u=>by
  show Obj.SetObjOf _ _ _ _
  have:=setObjOf_fresh (knd:=sk C) led;simpa using this)) λW' le I' q _=>?_
 exact⟨W',le,I',q⟩
theorem LA (h:Z l=some (.set xs)) (hz:xs.length<scanBound):Mt C k Z (.loc l) "add" (.bi "set.add"):=by intro W ro pl q;refine Op.look λA s Q hr I hq=> ?_;refine fP (I.setOf h hz q) λa z=>?_;subst z;intro e hS;exact getMethod_set_add hS (hq _ s.toks ⟨rfl,rfl⟩)
theorem J0 (h:Z l=some (.set xs)) (hz:xs.length+1<scanBound) (hy:(if x∈xs then xs else xs++ [x])=ys):Ca C k Z (.bi "set.add") [.loc l,.str x] [] .none (Z.set l (.set ys)):=by
 refine oV λW r1 r2 qa qb A s outer hr hA hS I=>e9 qb λt=>NK (I.setOf h (by omega) qa) λa e O1=>call_set_add (knd:=sk C) (k:=x) (oQ _ _ _ _) rfl O1 hz λh' hs hS'=>c12 hS'.objOf λob g1 g2=>⟨W,.refl W,I.upd (d:=s.drawn) e (λb o n z=>(hs.2 b n).trans z) g1 ?_ (ju _),c6⟩;show Obj.SetObjOf _ _ _ _
 subst hy;have e1:(λk'=>decide (k'∈(if x∈xs then xs else xs++ [x])))=λk'=>decide (k'∈xs) || decide (k'=x):=by
  funext k';by_cases hx:x∈xs
  ·rw [aG hx];by_cases hk':k'=x
   ·subst hk';simp [hx]
   ·simp [hk']
  ·rw [az hx];simp
 have e2:(if x∈xs then xs else xs++ [x]).length=if decide (x∈xs)=true then xs.length else xs.length+1:=by
  by_cases hx:x∈xs<;>simp [hx]
 rw [e1,e2];exact g2
theorem Dv (h:Z l=some (.set xs)) (hz:xs.length<scanBound) (hc:decide (x∈xs)=c):di C k Z (compareOp .In) (.str x) (.loc l) (λW r=>aw W (.bool c) r) Z:=by intro W ra rb qa qb;refine e9 qa λt=>?_;refine Op.look λA s Q hr I hq=> ?_;refine NK (I.setOf h hz qb) λa e hS=>?_;exact wpAny_inSet_of (knd:=sk C) (k:=x) (oQ _ _ _ _) rfl hS (hq _ _ (by refine(?_:_=_);rw [hc]))
end
end V
end
section
namespace V
open Builtin Builtin.Str
open Sem (wp)
theorem yJ:Slot "list_iterator" "__getattribute__" "object.__getattribute__":=
 .of (owner:="object") (n:="__getattribute__") (by rw [uD,tY];kernel_rfl) (by decide+kernel) (by decide+kernel) (by decide+kernel)
  (by first | exact .inl (by decide+kernel) | exact .inr (by decide+kernel)) (by rw [ta];kernel_rfl)
theorem CV:Slot "wrapper_descriptor" "__get__" "wrapper_descriptor.__get__":=
 .of (owner:="wrapper_descriptor") (n:="__get__") (by rw [uD,tY];kernel_rfl) (by decide+kernel) (by decide+kernel) (by decide+kernel)
  (by first | exact .inl (by decide+kernel) | exact .inr (by decide+kernel)) (by rw [ta];kernel_rfl)
theorem Kg:typeLookup (.type "wrapper_descriptor") "__set__"=pure none:=by rw [uD,tY];kernel_rfl
theorem Ku:typeLookup (.type "wrapper_descriptor") "__delete__"=pure none:=by rw [uD,tY];kernel_rfl
theorem Cr:typeOf (.builtin "list_iterator.__next__")=pure (.type "wrapper_descriptor"):=by refine(?_:builtinType _=_);rw [builtinType_eq_fast];kernel_rfl
theorem u5:entryFor table "object.__getattribute__"=some Builtin.«object.__getattribute__» :=entryFor_of_tree (by kernel_rfl)
theorem xn (a b:Value):argsOk "object.__getattribute__" ⟨[a,b],[]⟩:=by delta argsOk;kernel_rfl
theorem uu:entryFor table "wrapper_descriptor.__get__"=some Builtin.«wrapper_descriptor.__get__» :=entryFor_of_tree (by kernel_rfl)
theorem we (a b c:Value):argsOk "wrapper_descriptor.__get__" ⟨[a,b,c],[]⟩:=by delta argsOk;kernel_rfl
theorem AM:(Value.type (".".intercalate ("list_iterator.__next__".cutAt '.').dropLast))= .type "list_iterator":=by decide+kernel
theorem It:isSubtype (.type "list_iterator") (.type (".".intercalate ("list_iterator.__next__".cutAt '.').dropLast))=pure true:=by rw [AM,ta];kernel_rfl
section
variable {prog:Program} {w:World} {A:Around} {E:Value->Shared->Prop} {h:Heap} {g:Array GenState} {d:Drawn} {t:Nat} {os:OsState} {a:Addr} {vs:Array Value}
noncomputable abbrev oU (vs:Array Value):Obj:={cls:= .type "list_iterator",data:= .fields vs}
noncomputable abbrev qp (a:Addr):Obj:={cls:= .type "method-wrapper",data:= .fields #[.builtin "list_iterator.__next__",.ref a]}
theorem IB {R:Result->Shared->Prop} (hx:h.get? a=some (oU vs)) (hq:R (.ok (.ret (.ref h.objs.size))) ⟨h.push (qp a),g,d,t,os⟩):
  codeAny (model prog w) A (.call (.builtin "wrapper_descriptor.__get__") ⟨[.builtin "list_iterator.__next__",.ref a,.type "list_iterator"],[]⟩) R ⟨h,g,d,t,os⟩:=by
 have hT:(⟨h,g,d,t,os⟩:Shared).TypeIs (.ref a) "list_iterator":=⟨_,hx,rfl⟩;have hT5:(⟨h,g,d,t,os⟩:Shared).TypeIs (.builtin "list_iterator.__next__") "wrapper_descriptor":=Cr;have f8:=It;refine codeAny_call_builtin CV.plain uu (CV.check _ _ _ _ _ _ _ _ hT5 (we _ _ _) ?_)
 repeat (any_goals (first | assumption | wp_step))
theorem Fm {R:Result->Shared->Prop} (hx:h.get? a=some (oU vs)) (hq:R (.ok (.ret (.ref h.objs.size))) ⟨h.push (qp a),g,d,t,os⟩):
  codeAny (model prog w) A (.call (.builtin "object.__getattribute__") ⟨[.ref a,.str "__next__" tk],[]⟩) R ⟨h,g,d,t,os⟩:=by
 have hT:(⟨h,g,d,t,os⟩:Shared).TypeIs (.ref a) "list_iterator":=⟨_,hx,rfl⟩;have hT5:(⟨h,g,d,t,os⟩:Shared).TypeIs (.builtin "list_iterator.__next__") "wrapper_descriptor":=Cr;refine codeAny_call_builtin yJ.plain u5 (yJ.check _ _ _ _ _ _ _ _ hT (xn _ _) ?_);have f1:=Cc.lookup;have f2:=Cr;have f3:=CV.lookup;have f4:=Kg;have f5:=Ku
 repeat (any_goals (first | assumption | wp_step))
 refine IB hx ?_
 repeat (any_goals (first | assumption | wp_step))
end
end V
end
section
namespace V
open Builtin Builtin.Str
section
variable {C:Cx} {k:Nat} {sc:Scope} {A:Around} {W:Wd} {env:Env} {ms ai aZ b6 aK:List (Option AV)} {Z ae aN bX aB:St} {s:Shared}
noncomputable def md (C:Cx) (W:Wd) (env:Env) (a:Addr):Prop:=dR W a/\ ¬Own env a/\C.h₀.get? a=none
theorem md.of_none (H:At C sc A W env ms Z s) (h:s.heap.get? a=none):md C W env a:=by
 refine nB ⟨?_,λl e=> ?_⟩ (λq=> ?_) ?_
 ·cases q:W.fz a with
  | none=>rfl
  | some o=>refine c12 (H.inv.fz a o q) λo' z _=>?_;rw [h]at z;exact dC z
 ·have d:=H.inv.dom l;rw [e]at d;cases q:Z l with
  | none=>rw [q]at d;exact zv d
  | some o=>refine c12 (H.inv.obj l a o e q) λob z _=>?_;rw [h]at z;exact dC z
 ·obtain⟨_,_,o,z,_⟩:=H.fr.own q;rw [h]at z;exact dC z
 ·cases q:C.h₀.get? a with
  | none=>rfl
  | some o=>have:=H.inv.kept a o q;rw [h]at this;exact dC this
theorem eY.up (q:eY C W o ob) (u:Up ob ob'):eY C W o ob':=by
 have ne: ∀{x:Obj},(x.cls≠ .type "frame")->x=ob->ob'=ob:=λh e=>u.exact (by rw [<-e];exact h);cases o with
 | list xs=>obtain⟨c,vs,n,e,r⟩:=q;have:ob'=ob:=u.exact (by rw [c];decide);rw [this];exact⟨c,vs,n,e,r⟩
 | dict es=>refine v8 q λds n e r=>?_;clear q;have:ob'=ob:=u.exact (by rw [e];intro z;have:=ni z;revert this;decide);rw [this];exact Gj ds n e r
 | map es n=>refine c12 q λds e r=>?_;clear q;have:ob'=ob:=u.exact (by rw [e];intro z;have:=ni z;revert this;decide);rw [this];exact i12 ds e r
 | set xs=>have q:ob.SetObjOf _ _ _:=q;have:ob'=ob:=u.exact (by rw [q.1.1];decide);rw [this];exact q
 | inst c d=>refine c12 q λdx e r=>?_;clear q;have:ob'=ob:=u.exact (by rw [r];intro z;cases z);rw [this];exact i12 dx e r
 | slots c d vs=>refine fu q λdx sl e r z=>?_;clear q;have:ob'=ob:=u.exact (by rw [r];intro z;cases z);rw [this];exact jE dx sl e r z
 | junk=>trivial
 | exc n xs=>obtain⟨hn,c,vs,t,d,z,q⟩:=q;have:ob'=ob:=u.exact (by rw [c];intro z;rw [ni z]at hn;simp at hn);rw [this];exact⟨hn,c,vs,t,d,z,q⟩
 | iter l i=>refine c12 q λa e r=>?_;have:ob'=ob:=u.exact (by rw [r];intro z;have:=ni z;revert this;decide);rw [this];exact i12 a e r
theorem At.stir {X:Addr->Prop} (H:At C sc A W env ms Z s) (hX: ∀a,X a->md C W env a) (K: ∀b o,¬X b->s.heap.get? b=some o-> ∃o',h'.get? b=some o'/\Up o o')
  (K0: ∀b o,C.h₀.get? b=some o->h'.get? b=some o) (ht:s.toks<=t):At C sc A W env ms Z ⟨h',s.gens,d,t,s.os⟩:=by
 have I:=H.inv;have F:=H.fr;refine⟨⟨I.dom,I.inj,λl a o e q=> ?_,I.apart,λa o e=> ?_,K0,I.base,I.gens,I.os,bU I.pos ht,I.high⟩,?_⟩
 ·refine c12 (I.obj l a o e q) λob h1 h2=>c12 (K a ob (λx=>(hX a x).1.2 l e) h1) λob' h3 u=>i12 ob' h3 (h2.up u)
 ·refine c12 (I.fz a o e) λo' h1 u=>?_;refine c12 (K a o' (λx=>by rw [(hX a x).1.1]at e;exact dC e) h1) λo2 h3 u2=>i12 o2 h3 (u.trans u2)
 ·obtain⟨mr,hn,hv⟩:=F.ns;have own: ∀a,Own env a-> ¬X a:=λa q x=>(hX a x).2.1 q;refine⟨F.scope,F.globals,F.builtins,F.ok,⟨mr,?_,hv⟩,λi x hx=> ?_,F.mi,λx a hx=> ?_,F.iQ,?_,?_⟩
  ·refine lU hn λo es ep ho hd r=>?_;clear hn;refine c12 (K _ _ (own _ (.inl rfl)) ho) λo' ho' u=>zt o' es ep ho' (u.data▸hd) r
  ·obtain⟨a,ov,h1,⟨o,ho,hd⟩,h3⟩:=F.cells i x hx;refine c12 (K _ _ (own _ (.inr (bM.mpr ⟨(x,a),mem_of_lookup h1,rfl⟩))) ho) λo' ho' u=>⟨a,ov,h1,⟨o',ho',u.data▸hd⟩,h3⟩
  ·obtain⟨h1,h2,h3,ov,o,ho,hd,hc⟩:=F.mZ x a hx;refine c12 (K _ _ (own _ (.inr (bM.mpr ⟨(x,a),hx,rfl⟩))) ho) λo' ho' u=>⟨h1,h2,h3,ov,o',ho',u.data▸hd,u.cls▸hc⟩
  ·obtain⟨o,es,n,ho,hc,hd⟩:=F.je;refine c12 (K _ _ (own _ (.inl rfl)) ho) λo' ho' u=>⟨o',es,n,ho',u.cls▸hc,u.data▸hd⟩
  ·obtain⟨fenv,rest,L,h1,h2,h3,h4,h5,h6,h7⟩:=F.pE;refine⟨fenv,rest,L,h1,h2,h3,h4,h5,h6,?_⟩;refine aP h7 (λv=>?_) λz=>?_
   ·rcases v with⟨rfl,o,es,n,ho,hc1,hd⟩
    refine c12 (K _ _ (own _ (.inl rfl)) ho) λo' ho' u=>.inl ⟨rfl,o',es,n,ho',u.cls▸hc1,u.data▸hd⟩
   ·exact .inr z
inductive MN (e:Addr) (cls:Value) (t:Addr) (v:Value) (FT:Addr->Prop) (h:Heap):Prop
 | mk (oe:Obj) (vs:Array Value) (T:Addr) (oT:Obj) (ts:Array Value) (y1:h.get? e=some oe) (y2:oe.cls=cls) (y3:oe.data= .fields vs) (y4:vs[0]? =some (.ref t)) (y5:vs[1]? =some (.ref T)) (y6:FT T) (y7:T≠e) (y8:h.get? T=some oT) (y9:oT.data= .fields ts) (y10:ts[3]? =some v) (y11:vs[2]? =some .none):MN e cls t v FT h
noncomputable def XH (C:Cx) (W:Wd) (env:Env) (e:Addr) (cls:Value) (t:Addr) (fl:Option Value) (h:Heap):Prop:=match fl with
 | none=>h.get? e=some {cls:=cls,data:= .fields #[.ref t,.none,.none,.none,.bool false,.none]}
 | some v=>MN e cls t v (md C W env) h
structure wy (C:Cx) (sc:Scope) (A:Around) (W:Wd) (env:Env) (ms:List (Option AV)) (Z:St) (cls:Value) (as:List AV) (fl:Option Value) (e:Addr) (s:Shared):Prop where
 at_:At C sc A W env ms Z s
 free:md C W env e
 x: ∃t,aw W (.tup as) (.ref t)/\XH C W env e cls t fl s.heap
theorem wy.flight (X:wy C sc A W env ms Z cls as (some v) e s) {Q:Unit->Shared->Prop}
  (g: ∀s',wy C sc A W env ms Z cls as (some (fr.elim .none λf=>rawInt f)) e s'->Q () s'):wpAny C.M A (setFlight (.ref e) fr) Q No s:=by
 obtain⟨H,fe,t,qt,oe,vs,T,oT,ts,he,hc,hd,h0,h1,fT,hTe,hT,hdT,h3,Mj⟩:=X;refine ak (iL he hd h1 ?_);rw [aG (show(Value.ref T !=Value.none)=true from by simp)];have sz:3<ts.size:=(FK.mp h3).1;refine td hT hdT sz (g _ ?_);have other: ∀b,b≠T->(s.heap.update T (Obj.mapFields (·.setIfInBounds 3 (fr.elim .none λf=>rawInt f)))).get? b=s.heap.get? b:=λb hb=>m8 _ _ (f7 hb);obtain⟨cT,dT,O2,sT⟩:=oT;simp only at hdT;subst hdT;have nf:(Obj.mapFields (·.setIfInBounds 3 (fr.elim .none λf=>rawInt f)) ⟨cT,dT,.fields ts,sT⟩).isFreed=false:=rfl;refine⟨H.stir (X:=(· =T)) (λa q=>q▸fT) (λb o nb hb=>⟨o,by rw [other b nb];exact hb,.refl o⟩) (λb o hb=> ?_) (bT _),fe,t,qt,oe,vs,T,_,_,(other e (f7 hTe)).trans he,hc,hd,h0,h1,fT,hTe,jw _ hT nf,rfl,?_,Mj⟩
 ·rw [other b λq=>by rw [q,fT.2.2]at hb;exact dC hb];exact H.inv.kept b o hb
 ·simp [BM,sz]
theorem wy.again {cls:Value} {as:List AV} {L:Addr} {e:Addr} (X:wy C sc A W env ms Z cls as (some (rawInt L)) e s) (hf:env.frame=some L) {Q:Unit->Shared->Prop} (g:Q () s):wpAny C.M A (noteFrame (.ref e) env) Q No s:=by obtain⟨H,fe,t,qt,oe,vs,T,oT,ts,he,hc,hd,h0,h1,fT,hTe,hT,hdT,h3,Mj⟩:=X;delta noteFrame;simp only [hf];refine ak (iL he hd h1 ?_);rw [aG (show(Value.ref T !=Value.none)=true from by simp)];refine ak (iL hT hdT h3 ?_);rw [aG (show(rawInt L==rawInt L)=true from by simp)];exact aQ g
theorem EW (h:env.frame=fenv.frame):noteFrame e env=noteFrame e fenv:=by delta noteFrame PySem.frameOf;rw [h]
theorem sZ: ∀{l:List Env},rM C W l->Inv C W Z s->(∀env∈l,∀L,env.frame=some L->base.get? L=none)->s.heap.FunFrames base l:=by
 intro aH;induction aH with
 | nil=>intro v w g;exact trivial
 | cons env rest ih=>
  intro S I hb;rcases S env (.head _)with⟨k1,L,o,es,n,k2,k3,k4,z⟩;refine bG z λk5 k6=>c12 (I.fz L o k4) λo' h1 u=>?_
  exact nB k1 ⟨L,o',k2,hb env (.head _) L k2,h1,λvs q=>by rw [u.data,k6]at q;cases q⟩ (ih (λe he=>S e (.tail _ he)) I λe he=>hb e (.tail _ he))
noncomputable def Gu (h:Heap) (e:Addr):Prop:= ∀o vs,h.get? e=some o->o.data= .fields vs->vs[2]? =some .none
noncomputable def s7 (base:Heap) (l:List Env) (e:Addr) (cls a0:Value) (L:Addr) (h h':Heap):Prop:=Heap.NotedW base l e cls a0 (rawInt L) h h'/\Gu h' e
theorem CT {E:Value->Shared->Prop} {Q:Unit->Shared->Prop}
  (hA:A.frames=some (fenv::outer)) (hl:s.heap.FunFrames base (fenv::outer)) (hf:fenv.frame=some L) (he:s.heap.get? e=some oe) (hkb:base.StaysIn s.heap) (hen:base.get? e=none) (hd:oe.data= .fields vs)
  (hsz:1<vs.size) (h0:vs[0]? =some a0) (h2:vs[2]? =some .none) (h: ∀h',s7 base (fenv::outer) e oe.cls a0 L s.heap h'->Q () {s with heap:=h'}):
  wpAny M A (do let a<-frameOf fenv;let pl<-entryPlaceOf L hadNext;let b<-EntryCells.newEntry head a .none (rawInt L) .none pl;setField (.ref e) 1 b) Q E s:=by
 have LR: ∀a∈(fenv::outer).filterMap (·.frame),base.get? a=none/\a≠e:=λa hm=>by obtain⟨z,o,ho,hnf⟩:=hl.mem hm;exact⟨z,λq=>by rw [q,he]at ho;cases ho;exact hnf vs hd⟩
 refine ak (wpAny_frameOf_fun hA hl hf λiq yN=>ak (wpAny_entryPlaceOf λpl hpl=> ?_));delta EntryCells.newEntry newFields;refine ak (nU ?_ (hpl.sizeOk5 _ _ _ _ _));generalize hob:({cls:= .type "traceback",dict:=none,data:= .fields ([head,.ref L,.none,rawInt L,.none]++(if pl.isEmpty then List.replicate 6 Value.none else pl)).toArray}:Obj)=tb;have e1:iq.get? e=some oe:=(yN.2.1 e λq=>(LR e q).2 rfl).trans he;have e2:(iq.push tb).get? e=some oe:=mn _ e1;have hT:(iq.push tb).get? iq.objs.size=some tb:=dZ iq (by rw [<-hob];rfl);have ne:iq.objs.size≠e:=Nat.ne_of_gt (il e1);refine td e2 hd hsz (h _ ?_);have d3:=Obj.data_mapFields hd (·.setIfInBounds 1 (Value.ref iq.objs.size));have e3:=jw (Obj.mapFields (·.setIfInBounds 1 (Value.ref iq.objs.size))) e2 (Obj.isFreed_of_fields d3);have keep: ∀b o,b≠e->iq.get? b=some o->((iq.push tb).update e (Obj.mapFields (·.setIfInBounds 1 (Value.ref iq.objs.size)))).get? b=some o:=λb o nb z=>
  (m8 _ _ (f7 nb)).trans (mn _ z)
 have sb:base.StaysIn iq:=λb o z=>(yN.2.1 b λq=>by rw [(LR b q).1]at z;exact dC z).trans (hkb b o z);have LU: ∀b o,s.heap.get? b=some o->(∀vs,o.data≠ .fields vs)->b≠e:=λb o z n q=>by subst q;rw [he]at z;cases z;exact n vs hd
 refine⟨⟨λb o z=>keep b o (λq=>by subst q;rw [hen]at z;exact dC z) (sb b o z),hl.of_keeps λb o z n=> ?_,?_,λb o z n=> ?_⟩,λo' vs' g' d'=> ?_⟩
 ·refine cG (yN.2.2 b o z) λsl q=>i12 _ (keep b _ (LU b o z n) q) rfl
 ·refine⟨_,_,iq.objs.size,tb,([head,.ref L,.none,rawInt L,.none]++(if pl.isEmpty then List.replicate 6 Value.none else pl)).toArray,e3,⟨Obj.cls_mapFields _ _,?_⟩,d3,?_,sb.fresh,ne,(m8 _ _ (f7 ne)).trans hT,by rw [<-hob],?_⟩
  ·rw [Array.getElem?_setIfInBounds_ne (by decide)];exact h0
  ·rw [BM];simp [hsz]
  ·simp
 ·refine cG (yN.2.2 b o z) λsl q=>⟨sl,keep b _ (LU b o z n) q⟩
 ·rw [e3]at g';cases g';rw [d3]at d';cases d';rw [Array.getElem?_setIfInBounds_ne (by decide)];exact h2
theorem Om {E:Value->Shared->Prop} {Q:Unit->Shared->Prop}
  (hA:A.frames=some (fenv::outer)) (hl:s.heap.FunFrames base (fenv::outer)) (hf:fenv.frame=some L) (ht:s.heap.TracedW base e cls a0) (hkb:base.StaysIn s.heap) (hen:base.get? e=none) (hn:Gu s.heap e)
  (h: ∀h',s7 base (fenv::outer) e cls a0 L s.heap h'->Q () {s with heap:=h'}):wpAny M A (noteFrame (.ref e) fenv) Q E s:=by
 refine Ei ht λoe vs T oT ts he u hd v=>bG u λhcls h0=>Gy v λh1 hnT hTe hT hdT h3=>?_;clear ht;subst hcls;delta noteFrame;simp only [hf];refine ak (iL he hd h1 ?_);rw [aG (show(Value.ref T !=Value.none)=true from by simp)];refine ak (iL hT hdT h3 ?_);rw [az (show¬((Value.none==rawInt L)=true)from by simp [rawInt])];refine ak (td hT hdT (FK.mp h3).1 ?_);have o1: ∀b,b≠T->(s.heap.update T (Obj.mapFields (·.setIfInBounds 3 Value.none))).get? b=s.heap.get? b:=λb hb=>m8 _ _ (f7 hb);have nr: ∀b o,s.heap.get? b=some o->(∀vs,o.data≠ .fields vs)->b≠T:=λb o z n q=>by subst q;rw [hT]at z;cases z;exact n ts hdT
 refine CT hA (hl.of_keeps λb o z n=>⟨o,(o1 b (nr b o z n)).trans z,rfl⟩) hf ((o1 e (f7 hTe)).trans he) (λb o z=>(o1 b λq=>by subst q;rw [hnT]at z;exact dC z).trans (hkb b o z)) hen hd
  (FK.mp h1).1 h0 (hn _ _ he hd) λh' w=>bG w λy x5=>ku y λx1 x2 x3 x4=>h h' ⟨⟨x1,x2,x3,λb o z n=>x4 b o ((o1 b (nr b o z n)).trans z) n⟩,x5⟩
theorem wy.note (X:wy C sc A W env ms Z cls as fl e s) (hfl:fl=none\/fl=some .none) {Q:Unit->Shared->Prop}
  (g: ∀s' L,env.frame=some L->wy C sc A W env ms Z cls as (some (rawInt L)) e s'->Q () s'):wpAny C.M A (noteFrame (.ref e) env) Q No s:=by
 obtain⟨H,fe,t,qt,hx⟩:=X;obtain⟨fenv,rest,L,hA,hS,hk,F8,heL,hL0,hLf⟩:=H.fr.pE;rw [EW (env:=env) (fenv:=fenv) (heL.trans F8.symm)];have main: ∀(tl:List Addr),(∀T∈tl,md C W env T)->(∀base:Heap,base.StaysIn s.heap->base.get? e=none->(∀T∈tl,base.get? T=none)->s.heap.FunFrames base (fenv::rest)->
   wpAny C.M A (noteFrame (.ref e) fenv) (λi s'=>s7 base (fenv::rest) e cls (.ref t) L s.heap s'.heap/\s'={s with heap:=s'.heap}) No s)->wpAny C.M A (noteFrame (.ref e) fenv) Q No s:=by
  intro tl htl hrun
  let frs:=(fenv::rest).filterMap (·.frame)
  let base:=hideAll s.heap (e::(tl++frs))
  have b1:base.StaysIn s.heap:=λb o z=>of_hideAll _ z;have hid: ∀a,a∈e::(tl++frs)->base.get? a=none:=λa h=>hideAll_none _ h;have out: ∀a o,a∉e::(tl++frs)->s.heap.get? a=some o->base.get? a=some o:=λa o n z=>hideAll_get _ z n;have ff:s.heap.FunFrames base (fenv::rest):=by
   have hfr: ∀env∈fenv::rest,∀L,env.frame=some L->base.get? L=none:=λenv he L z=>hid L (by
    refine .tail _ (List.mem_append_right _ (List.mem_filterMap.mpr ⟨env,he,z⟩)))
   refine nB hk ⟨L,?_⟩ (sZ hS H.inv λenv he=>hfr env (.tail _ he));refine aP hLf (λf=>?_) λd=>lU d λo es n ho hc hd=>?_
   ·rcases f with⟨rfl,o,es,n,ho,hc,hd⟩
    exact Gf o F8 (hfr fenv (.head _) _ F8) ho λvs q=>by rw [hd]at q;cases q
   ·refine c12 (H.inv.fz L o ho) λo' h1 u=>?_;exact Gf o' F8 (hfr fenv (.head _) _ F8) h1 λvs q=>by rw [u.data,hd]at q;cases q
  have after: ∀hp,s7 base (fenv::rest) e cls (.ref t) L s.heap hp->Q () {s with heap:=hp}:=by
   intro hp hN;refine bG hN λk k5=>ku k λk1 k2 l k4=>Ei l λoe vs T oT ts he j hd c=>bG j λhc h0=>Gy c λh1 hbT hTe hT hdT h3=>?_;clear hN;have D6: ∀a∈frs,∃o,s.heap.get? a=some o/\o.cls= .type "frame"/\(∀vs,o.data≠ .fields vs)/\C.h₀.get? a=none:=by
    intro a ha;refine c12 (List.mem_filterMap.mp ha) λenv' he' z=>aP (cI.mp he') (λp=>?_) λhe'=>?_
    ·subst p;rw [F8]at z;cases z;refine aP hLf (λm=>?_) λr=>lU r λo es n ho hc hd=>?_
     ·rcases m with⟨rfl,o,es,n,ho,hc,hd⟩
      exact Gf o ho hc (λvs q=>by rw [hd]at q;cases q) hL0
     ·refine c12 (H.inv.fz _ o ho) λo' h1 u=>?_;exact Gf o' h1 (u.cls.trans hc) (λvs q=>by rw [u.data,hd]at q;cases q) hL0
    ·rcases hS env' he' with⟨k1,L',o,es,n,k2,k3,k4,y⟩;refine bG y λk5 k6=>?_
     rw [k2]at z;cases z;refine c12 (H.inv.fz _ o k4) λo' h1 u=>?_;exact Gf o' h1 (u.cls.trans k5) (λvs q=>by rw [u.data,k6]at q;cases q) k3
   have fT:md C W env T:=by
    cases q:s.heap.get? T with
    | none=>exact md.of_none H q
    | some o=>
     have hm:T∈e::(tl++frs):=Ba λn=>by rw [out T o n q]at hbT;exact rZ hbT
     refine aP (cI.mp hm) (λz=>?_) λhm=>?_
     ·exact absurd z hTe
     ·refine aP (cm.mp hm) (λhm=>?_) λhm=>?_
      ·exact htl T hm
      ·refine C0 (D6 T hm) λo' z1 _ z3 _=>cG (k4 T o' z1 z3) λsl z5=>?_;rw [hT]at z5;cases z5;exact absurd hdT (z3 ts)
   refine g _ L heL ⟨H.stir (X:=λa=>a=e\/a∈tl) (λa q=>q.elim (λz=>z▸fe) (htl a)) (λb o nb hb=> ?_) (λb o hb=> ?_) (bT _),fe,t,qt,oe,vs,T,oT,ts,he,hc,hd,h0,h1,fT,hTe,hT,hdT,h3,k5 _ _ he hd⟩
   ·by_cases hm:b∈frs
    ·refine C0 (D6 b hm) λo' z1 z2 z3 _=>?_;rw [hb]at z1;cases z1;refine cG (k4 b o hb z3) λsl z5=>i12 _ z5 (.inr ⟨z2,sl,rfl⟩)
    ·have:base.get? b=some o:=out b o (λq=>by
      refine aP (cI.mp q) (λz=>?_) λq=>?_
      ·exact nb (.inl z)
      ·refine aP (cm.mp q) (λq=>?_) λq=>?_
       ·exact nb (.inr q)
       ·exact hm q) hb
     exact i12 o (k1 b o this) (.refl o)
   ·have hb':=H.inv.kept b o hb;refine k1 b o (out b o (λq=> ?_) hb');refine aP (cI.mp q) (λz=>?_) λq=>?_
    ·rw [z,fe.2.2]at hb;exact dC hb
    ·refine aP (cm.mp q) (λq=>?_) λq=>?_
     ·rw [(htl b q).2.2]at hb;exact dC hb
     ·refine C0 (D6 b q) λ_ _ _ _ z=>?_;rw [z]at hb;exact dC hb
  exact bF (hrun base b1 (hid e (.head _)) (λT hT=>hid T (.tail _ (List.mem_append_left _ hT))) ff) (λi s' h=>by rw [h.2];exact after _ h.1) λi u1 z=>z
 refine aP hfl (λw=>?_) λv=>?_
 ·subst w;have hx:s.heap.get? e=some {cls:=cls,data:= .fields #[.ref t,.none,.none,.none,.bool false,.none]}:=hx;refine main [] (λT h=>by exact jc h) λbase b1 b2 b3 b4=> ?_;delta noteFrame;simp only [F8];refine ak (iL hx rfl (x:= .none) rfl ?_);exact CT (oe:={cls:=cls,data:= .fields #[.ref t,.none,.none,.none,.bool false,.none]}) hA b4 F8 hx b1 b2 rfl (Nat.lt_of_sub_pos (Nat.zero_lt_succ _)) rfl rfl λh' hN=>⟨hN,rfl⟩
 ·subst v;obtain⟨oe,vs,T,oT,ts,he,hc,hd,h0,h1,fT,hTe,hT,hdT,h3,Mj⟩:=hx;refine main [T] (λT' h=>by rw [i8]at h;exact h▸fT) λbase b1 b2 b3 b4=> ?_;exact Om hA b4 F8 ⟨oe,vs,T,oT,ts,he,⟨hc,h0⟩,hd,h1,b3 T (by simp),hTe,hT,hdT,h3⟩ b1 b2 (λo' vs' g' d'=>by rw [he]at g';cases g';rw [hd]at d';cases d';exact Mj) λh' hN=>⟨hN,rfl⟩
noncomputable def MW (env:Env) (fl:Option Value):Prop:=fl=none\/fl=some .none\/ ∃L,env.frame=some L/\fl=some (rawInt L)
inductive NA (C:Cx) (sc:Scope) (A:Around) (W:Wd) (env:Env) (ms:List (Option AV)) (Z:St) (cls:Value) (as:List AV) (e:Value) (s:Shared):Prop
 | mk (W':Wd) (a:Addr) (fl:Option Value) (le:W.le W') (he:e= .ref a) (hf:MW env fl) (x:wy C sc A W' env ms Z cls as fl a s):NA C sc A W env ms Z cls as e s
noncomputable def XP (C:Cx) (sc:Scope) (A:Around) (W:Wd) (env:Env) (ms:List (Option AV)) (Z:St) (cls:Value) (as:List AV) (e:Value) (s:Shared):Prop:=
 NA C sc A W env ms Z cls as e s
noncomputable def Rz {α:Type} (C:Cx) (k:Nat) (sc:Scope) (ms:List (Option AV)) (Z:St) (t:Env->Sem α) (cls:Value) (as:List AV) (aK:List (Option AV)) (aB:St):Prop:=
 ∀A W env s,bY C A k->At C sc A W env ms Z s->wpAny C.M A (t env) (λ_ _=>False) (XP C sc A W env aK aB cls as) s
theorem XP.le (le:W.le aR) (h:XP C sc A aR env ms Z cls as e s):XP C sc A W env ms Z cls as e s:=by obtain⟨W',a,fl,l,x,y,r⟩:=h;exact⟨W',a,fl,le.trans l,x,y,r⟩
theorem gr {α:Type} {E:Value->Shared->Prop} {t:Sem α} {R:Wd->α->Prop} {Q:α->Shared->Prop} (h:wpAny C.M A t (ie C sc A W env ai ae R) No s)
  (g: ∀aR r aI,W.le aR->At C sc A aR env ai ae aI->R aR r->Q r aI):wpAny C.M A t Q E s:=
 bF h (λr aI z=>(by obtain⟨aR,le,H,q⟩:=z;exact g aR r aI le H q)) λu v x=>x.elim
theorem rz {α:Type} {E:Value->Shared->Prop} {t:Sem α} {Q:α->Shared->Prop} (le:W.le aR) (h:wpAny C.M A t (λu v=>False) (XP C sc A aR env aK aB cls as) s) (g: ∀e s,XP C sc A W env aK aB cls as e s->E e s):wpAny C.M A t Q E s:=
 bF h (λu v x=>x.elim) λe s x=>g e s (x.le le)
noncomputable def Jj (C:Cx) (W:Wd) (a:Addr):Prop:=dR W a/\C.h₀.get? a=none
noncomputable def XO (C:Cx) (W:Wd) (e:Addr) (cls:Value) (t:Addr) (h:Heap):Prop:=
 h.get? e=some {cls:=cls,data:= .fields #[.ref t,.none,.none,.none,.bool false,.none]}\/
 MN e cls t .none (Jj C W) h
inductive Kr (C:Cx) (W:Wd) (Z:St) (cls:Value) (as:List AV) (e:Value) (s:Shared):Prop
 | mk (W':Wd) (a t:Addr) (le:W.le W') (inv:Inv C W' Z s) (he:e= .ref a) (fr:Jj C W' a) (v:aw W' (.tup as) (.ref t)) (x:XO C W' a cls t s.heap):Kr C W Z cls as e s
noncomputable def KQ {α:Type} (C:Cx) (k:Nat) (W:Wd) (Z:St) (t:Sem α) (cls:Value) (as:List AV) (aB:St):Prop:=
 ∀A s outer,bY C A k->A.frames=some outer->rM C W outer->Inv C W Z s->
  wpAny C.M A t (λ_ _=>False) (Kr C W aB cls as) s
noncomputable def Jg (C:Cx) (k:Nat) (Z:St) (f:AV) (as:List AV) (cls:Value) (xs:List AV) (aB:St):Prop:=
 ∀W rf df,aw W f rf->aU W as df->KQ C k W Z (call rf df []) cls xs aB
theorem Jj.free (F:eC C sc A W env ms h) (le:(aside W env h).le W') (q:Jj C W' a):md C (taken W' env) env a:=by have no:=xk F le q.1.1;refine nB ⟨?_,q.1.2⟩ no q.2;rw [Wd.bA no];exact q.1.1
theorem KQ.in {α:Type} {t:Sem α} (hX:X=aside W env s.heap) (h:KQ C k X Z t cls as aB) (hr:bY C A k) (H:At C sc A W env ms Z s):wpAny C.M A t (λu v=>False) (XP C sc A W env ms aB cls as) s:=by
 subst hX;refine c12 (eV H.fr) λouter ho hs=>bF (h A s outer hr ho hs (eP H.inv H.fr)) (λu v x=>x) λe s' q=> ?_;obtain⟨W',a,t,le,I',he,hf,qt,hx⟩:=q;refine ud (eC.back H.inv H.fr le I') λl2 I2 F2 v1 v2=>?_;rcases hx with hx | ⟨oe,vs,T,oT,ts,x1,x2,x3,x4,x5,x6,x7,x8,x9,x10,x11⟩
 ·exact⟨_,a,none,l2,he,.inl rfl,⟨I2,F2⟩,hf.free H.fr le,t,v1 qt,hx⟩
 ·exact⟨_,a,some .none,l2,he,.inr (.inl rfl),⟨I2,F2⟩,hf.free H.fr le,t,v1 qt,oe,vs,T,oT,ts,x1,x2,x3,x4,x5,x6.free H.fr le,x7,x8,x9,x10,x11⟩
theorem Fi (h1:Ev C k sc ms Z o ov ai ae) (hm:Mt C k ae ov name f) (h2:Es C k sc ai ae pos args as aZ aN)
  (hk:Kp C f) (h3:Jg C k aN f (ov::as) cls xs aB) (hb: ∀env t,attributeBase o name env t=t) (hf: ∀env,methodCallForm args.length (backTo pos (starEach args env)) []=true) (hl:(apos.endLine==pos.line)=true)
  (hs: ∀env,(backTo pos (starEach args env)).any (·.1)=false):Rz C k sc ms Z (eval (.Call (.Attribute o name apos) args [] pos)) cls xs aZ aB:=by
 intro A W env s hr H;rw [ji,hb];refine ak (gr (h1 A W env s hr H) λaR ro aI aA aO qo=>ak (cF ?_));delta methodCall;have hf':methodCallForm (args.length+([]:List Keyword).length) (backTo pos (starEach args env)) (backToKw pos (keywordEach [] env))=true:=hf env;rw [hf'];refine ak (cA ?_);refine bF (Op.in (R':=λr aT=> ∃bh,aR.le bh/\At C sc A bh env ai ae aT/\aw bh f r.1/\r.2= [ro]) rfl (hm _ ro _ (qo.mono (a8 aO.fr))) hr aO λbh r aT ax aF q tk u=>⟨_,ax,aF,tk q.1,q.2⟩) (λr aT hh=> ?_) λu v x=>x.elim;refine C0 hh λbh ax aF q1 q2=>?_;clear hh;obtain⟨rf,first⟩:=r;dsimp only at q1 q2;subst q2;have hp:methodCallPos true o env apos pos=pure pos:=by delta methodCallPos;simp [hl]
 refine ak (eL hp ?_);refine cK (dA (qQ (hs env)) (gr (h2 A _ env aT hr aF) λbS df bt bg br qa=>⟨hk _ _ _ _ br.inv (q1.mono bg),?_⟩));have le:=a8 br.fr;exact rz (aA.trans (ax.trans bg)) (KQ.in rfl (h3 _ rf (ro::df) ((q1.mono bg).mono le) (.cons (((qo.mono ax).mono bg).mono le) (qa.mono le))) hr br) λu v x=>x
theorem Hs (h1:Ev C k sc ms Z fn f ai ae) (h2:Es C k sc ai ae pos args as aZ aN) (hk:Kp C f) (h3:Jg C k aN f as cls xs aB)
  (hs: ∀env,(backTo pos (starEach args env)).any (·.1)=false)
  (he: ∀env,eval (.Call fn args [] pos) env=(do callWith pos (<-eval fn env) [] (backTo pos (starEach args env)) (backToKw pos (keywordEach [] env)))):Rz C k sc ms Z (eval (.Call fn args [] pos)) cls xs aZ aB:=by
 intro A W env s hr H;rw [he];refine ak (gr (h1 A W env s hr H) λaR rf aI aA aO qf=>cK (dA (qQ (hs env)) (gr (h2 A aR env aI hr aO) λbh df aT ax aF qa=>⟨hk _ _ _ _ aF.inv (qf.mono ax),?_⟩)));have le:=a8 aF.fr;exact rz (aA.trans ax) (KQ.in rfl (h3 _ rf df ((qf.mono ax).mono le) (qa.mono le)) hr aF) λu v x=>x
theorem wq {op:CmpOp} (h:Rz C k sc ms Z (eval l) cls xs aK aB) (hm:behindInMarks op r=false):Rz C k sc ms Z (λenv=>isTrue (.Compare l [op] [r] pos) env (eval (.Compare l [op] [r] pos) env)) cls xs aK aB:=by intro A W env s hr H;exact wpAny_isTrue_Compare1 (rz (.refl W) (h A W env s hr H) λu v x=>x) hm
theorem Aw (h:Rz C k sc ms Z (λenv=>isTrue x env (eval x env)) cls xs aK aB):Rz C k sc ms Z (λenv=>isTrue (.BoolOp .Or (x::rest) pos) env (eval (.BoolOp .Or (x::rest) pos) env)) cls xs aK aB:=by intro A W env s hr H;exact wpAny_isTrue_BoolOp (wpAny_allTrue_Or_cons (rz (.refl W) (h A W env s hr H) λu v x=>x))
theorem De (h:Rz C k sc ms Z (λenv=>isTrue test env (eval test env)) cls xs aK aB):Rz C k sc ms Z (exec (.If test x y pos)) cls xs aK aB:=by intro A W env s hr H;exact wpAny_If (rz (.refl W) (h A W env s hr H) λu v x=>x)
theorem B2 (h:Rz C k sc ms Z (eval value) cls xs aK aB) (hs: ∀env,swapsWithSole [t] value pos.line env=pure false):Rz C k sc ms Z (exec (.Assign [t] value pos)) cls xs aK aB:=by intro A W env s hr H;rw [exec_Assign_arm];refine ak (cF ?_);rw [hs];refine ak (aQ ?_);exact ak (rz (.refl W) (h A W env s hr H) λu v x=>x)
theorem Ew {st:Stmt} {rest:List Stmt} {cls:Value} {xs:List AV} (h1:X1 C k sc ms Z st .next ai ae) (h2:Rz C k sc ai ae (execs rest) cls xs aK aB):Rz C k sc ms Z (execs (st::rest)) cls xs aK aB:=by intro A W env s hr H;refine wpAny_execs_cons (gr (h1 A W env s hr H) λaR r aI aA aO q=> ?_);unfold bR at q;subst q;exact rz aA (h2 A aR env aI hr aO) λu v x=>x
theorem sr {st:Stmt} {rest:List Stmt} {cls:Value} {xs:List AV} (h:Rz C k sc ms Z (exec st) cls xs aK aB):Rz C k sc ms Z (execs (st::rest)) cls xs aK aB:=by intro A W env s hr H;exact wpAny_execs_cons (rz (.refl W) (h A W env s hr H) λu v x=>x)
theorem Gg {b:Bool} (h1:Tv C k sc ms Z test b ai ae) (h2:Rz C k sc ai ae (execs ((if b then x else y)++rest)) cls xs aK aB):Rz C k sc ms Z (execs (.If test x y pos::rest)) cls xs aK aB:=by
 intro A W env s hr H;have key:wpAny C.M A (isTrue test env (eval test env)) (λb aI=>wpAny C.M A (execs ((if b then x else y)++rest) env) (λu v=>False) (XP C sc A W env aK aB cls xs) aI) (XP C sc A W env aK aB cls xs) s:=by refine gr (h1 A W env s hr H) λaR rb aI aA aO qb=> ?_;subst qb;exact rz aA (h2 A aR env aI hr aO) λu v x=>x
 intro Γ p D0;rw [execs_cons,uJ,exec_If];simp only [uJ,Sem.wp_cmd_standAt];refine Sem.wp_mono C.M Γ _ (λb IU aT jC=> ?_) (λu v w h'=>h') _ _ (key Γ _ D0);have jC:=jC Γ IU D0;cases b
 ·exact eI jC
 ·exact eI jC
theorem Hx (h1:Tv C k sc ms Z test true ai ae) (h2:Rz C k sc ai ae (execs (x++rest)) cls xs aK aB):Rz C k sc ms Z (execs (.If test x y pos::rest)) cls xs aK aB:=Gg h1 h2
theorem HO (h1:Tv C k sc ms Z test false ai ae) (h2:Rz C k sc ai ae (execs (y++rest)) cls xs aK aB):Rz C k sc ms Z (execs (.If test x y pos::rest)) cls xs aK aB:=Gg h1 h2
theorem raised {vs:List Value} (H:At C sc A W env ms Z s) (q:aU W as vs) (hm:Heap.MadeExcOf s.heap h' e cls vs):XP C sc A W env ms Z cls as (.ref e) {s with heap:=h'}:=by
 refine fP hm.there λt he hn ht=>?_;have H1:At C sc A W env ms Z {s with heap:=h'}:=H.stir (X:=λu=>False) (λu x=>x.elim) (λb o u hb=>⟨o,hm.keeps b o hb,.refl o⟩) (λb o hb=>hm.keeps b o (H.inv.kept b o hb)) (bT _);have fe:=md.of_none H hm.new;have ft:=md.of_none H hn;have hne:e≠t:=λz=>by subst z;rw [he]at ht;cases ht
 refine bG (H1.freeze ht ft.1.1 ft.1.2 ft.2.1) λle H2=>⟨_,e,none,le,rfl,.inl rfl,H2,⟨⟨?_,fe.1.2⟩,fe.2.1,fe.2.2⟩,t,?_,he⟩
 ·refine(?_:(if e=t then _ else W.fz e)=none);rw [az hne];exact fe.1.1
 ·skip
  refine v5 t _ vs 0 rfl ?_ rfl rfl (q.mono le);show(if _ then _ else _)=_
  rw [aG rfl]
theorem DF (X:XP C sc A W env ms Z cls as e s) {Q:Unit->Shared->Prop}
  (g: ∀s' W' a,e= .ref a->W.le W'->wy C sc A W' env ms Z cls as (some .none) a s'->Q () s'):wpAny C.M A (leaving env e) Q No s:=by
 obtain⟨W',a,fl,le,rfl,hfl,X⟩:=X;rcases hfl with h | h | ⟨L,hL,h⟩
 ·exact ak (X.note (.inl h) λs' L hL X'=>X'.flight (fr:=none) λs'' LV=>g s'' W' a rfl le LV)
 ·exact ak (X.note (.inr h) λs' L hL X'=>X'.flight (fr:=none) λs'' LV=>g s'' W' a rfl le LV)
 ·subst h;exact ak (X.again hL (X.flight (fr:=none) λs'' LV=>g s'' W' a rfl le LV))
noncomputable def DU (Z cP:St) (as:List AV) (aB:St):Prop:=
 (∀l o,aB l=some o->cP l=some o)/\(∀l,(Z l).isSome=true->(aB l).isSome=true)/\(∀l o,aB l=some o->Z l=some o\/o.In λl=>(aB l).isSome=true)/\AV.mT (λl=>(aB l).isSome=true) as
theorem Fs {fd:FuncData} (O:C.Ok) (hF:Fn C fa fd body) (names:List (Str×NameKind)) (hsc:fd.scope.names=names) (bs:List (Str×AV)) (ae:St)
  (hb:Bd C k fd Z as [] bs ae) (h1:(names.take bs.length).map (·.1)=bs.map (·.1)) (h2:((names.take bs.length).all λp=>p.2== .local || p.2== .cell)=true)
  (h: ∀sc,Facts sc names 0-> ∀n,(∀l:Loc,n<=l.tag->Z l=none)-> ∃aK cP,Rz C k sc (bs.map (λp=>some p.2)++List.replicate (names.length - bs.length) none) ae (execs body) cls xs aK cP/\DU Z cP xs aB):Jg C (k+1) Z (.ext fa) as cls xs aB:=by
 intro W rf df hf has A s outer hr hA hS I;subst hf;refine cG I.free λn hn=>v7 (h fd.scope (px hsc) n hn) λaK cP hx x1 x2 x3 x4=>Js hF.here λoc od osl hK=>?_;have ho:=I.kept _ _ (O.tR _ _ hK);refine rC (codeAny_call_function (fd:=fd) hr.depth ho rfl hF.co hF.gen hF.body (codeRec_of (O.tR.keeps I.kept) hF.code) ?_);refine bF (hb W df [] has rfl A.in1 s outer hr.in1 hA hS I) (λbinds aI u=> ?_) λv w h=>h.elim;obtain⟨aR,aA,xH,vW⟩:=u;rw [hF.globals,hF.builtins,hF.closure];have hms:(fd.scope.names.take bs.length).map (·.1)=bs.map (·.1):=by rw [hsc];exact h1
 have hkd: ∀p∈fd.scope.names.take bs.length,p.2= .local\/p.2= .cell:=λp hp=>by rw [hsc]at hp;have:=pM.mp h2 p hp;simpa using this
 refine bF (rK (A:=A) hF.ok xH hA (hS.mono aA) vW hms hkd (Q:=λenv s'=>At C fd.scope (A.deeper env) aR env (sa fd.scope bs) ae s') λenv s' H=>H) (λenv aT H=> ?_) λv w h=>h.elim;refine⟨O.nolimit.keeps H.inv.kept,codeAny_func ?_⟩;have hx':Rz C k fd.scope (sa fd.scope bs) ae (execs body) cls xs aK cP:=by delta sa;rw [hsc];exact hx
 refine bF (hx' (A.deeper env) aR env aT hr.deeper H) (λv w x=>x.elim) λe bt X=>bF (DF X (Q:=λv s'=> ∃W' a,e= .ref a/\aR.le W'/\wy C fd.scope (A.deeper env) W' env aK cP cls xs (some .none) a s') λs' W' a he le X'=>(⟨W',a,he,le,X'⟩)) (λv jf z=> ?_) λv w h=>h.elim;refine fu z λW' a he le X'=>?_;clear z;subst he;obtain⟨H',fe,t,qt,oe,vs,T,oT,ts,y1,y2,y3,y4,y5,y6,y7,y8,y9,y10,y11⟩:=X';have closed: ∀l o,aB l=some o->o.In λl=>(aB l).isSome=true:=λl o e=>by
  refine aP (x3 l o e) (λq=>?_) λq=>?_
  ·refine fu (I.at q) λa ob e1 e2 e3=>?_;have:=e3.dq;exact AO.In.mono (λl q=>x2 l (by rw [<-I.dom l];exact q)) this
  ·exact q
 have dom: ∀l,(W.ρ l).isSome=true->(aB l).isSome=true:=λl q=>x2 l (by rw [<-I.dom l];exact q);have only: ∀l a,(W'.only aB).ρ l=some a->W'.ρ l=some a:=λl a e=>by
  have e:(if(aB l).isSome then W'.ρ l else none)=some a:=e;split at e
  ·exact e
  ·exact dC e
 have NW: ∀{b},md C W' env b->Jj C (W'.only aB) b:=λf=>⟨⟨f.1.1,λl e=>f.1.2 l (only l _ e)⟩,f.2.2⟩;exact⟨W'.only aB,a,t,Wd.rX (aA.trans le) dom,H'.inv.only x1 closed,rfl,NW fe,qt.cut (W'.iW aB) (by exact x4),.inr ⟨oe,vs,T,oT,ts,y1,y2,y3,y4,y5,NW y6,y7,y8,y9,y10,y11⟩⟩
end
end V
end
section
namespace V
open Builtin Builtin.Str
noncomputable abbrev Cx.h (C:Cx):Cx:={C with hx:=some 0}
theorem Cx.Ok.h {C:Cx} (O:C.Ok):C.h.Ok:=⟨O.tR,O.g,O.b,O.boot,O.nolimit⟩
section
variable {C:Cx} {k:Nat} {sc:Scope} {A:Around} {W:Wd} {env:Env} {ms ai aZ b6 aK:List (Option AV)} {Z ae aN bX aB:St} {s:Shared}
theorem r8: ∀{es:List (Str×AV)} {ds:List DictEntry},ik C W es ds↔ik {C with h₀:=h,hx:=x,lb:=b} W es ds:=by
 intro aH;induction aH with
 | nil=>intro u;exact Iff.rfl
 | cons dQ _ ih=>
  intro u;obtain⟨_,_⟩:=dQ;constructor
  ·rintro ⟨t,v,ds',e,a,b⟩;exact zt t v ds' e a (ih.mp b)
  ·rintro ⟨t,v,ds',e,a,b⟩;exact zt t v ds' e a (ih.mpr b)
theorem oE:eY C W o ob↔eY {C with h₀:=h,hx:=x,lb:=b} W o ob:=by
 cases o with
 | dict es=>exact⟨λv=>(by refine v8 v λds n e r=>?_;clear v;exact⟨ds,n,e,r8.mp r⟩),λu=>(by refine v8 u λds n e r=>?_;clear u;exact⟨ds,n,e,r8.mpr r⟩)⟩
 | map es n=>exact⟨λz=>(by refine c12 z λds e r=>?_;clear z;exact⟨ds,e,r8.mp r⟩),λq=>(by refine c12 q λds e r=>?_;clear q;exact⟨ds,e,r8.mpr r⟩)⟩
 | _=>exact Iff.rfl
theorem BV:eY C W o ob↔eY C.h W o ob:=oE (h:=C.h₀) (x:=some 0) (b:=C.lb)
theorem Inv.h (I:Inv C W Z s):Inv C.h W Z s:=⟨I.dom,I.inj,λl a o e q=>c12 (I.obj l a o e q) λob h1 h2=>⟨ob,h1,BV.mp h2⟩,I.apart,I.fz,I.kept,I.base,I.gens,I.os,I.pos,I.high⟩
theorem Inv.Jp (I:Inv C.h W Z s):Inv C W Z s:=⟨I.dom,I.inj,λl a o e q=>c12 (I.obj l a o e q) λob h1 h2=>⟨ob,h1,BV.mpr h2⟩,I.apart,I.fz,I.kept,I.base,I.gens,I.os,I.pos,I.high⟩
theorem At.h (H:At C sc A W env ms Z s):At C.h sc (A.mark (some x)) W env ms Z s:=⟨H.inv.h,H.fr.scope,H.fr.globals,H.fr.builtins,H.fr.ok,H.fr.ns,H.fr.cells,H.fr.mi,H.fr.mZ,H.fr.iQ,H.fr.je,H.fr.pE⟩
theorem At.Jp (H:At C.h sc (A.mark (some x)) W env ms Z s):At C sc A W env ms Z s:=⟨H.inv.Jp,H.fr.scope,H.fr.globals,H.fr.builtins,H.fr.ok,H.fr.ns,H.fr.cells,H.fr.mi,H.fr.mZ,H.fr.iQ,H.fr.je,H.fr.pE⟩
theorem bY.h (hr:bY C A k):bY C.h (A.mark (some x)) k:=⟨hr.1,hr.2.1,(λz=>by exact rZ z),λz=>absurd rfl z⟩
noncomputable def Mx (C:Cx) (cls:Value) (c:AV):Prop:= ∀(W:Wd) (Z:St) (s:Shared) (A:Around) (E:Value->Shared->Prop) (rc:Value) (e:Addr) (oe:Obj) (Q:Bool->Shared->Prop),Inv C W Z s->aw W c rc->s.heap.get? e=some oe->oe.cls=cls->Q true s->wpAny C.M A (excMatches (.ref e) rc) Q E s
theorem Fv (hexc:isSubtype (.type T) (.type "BaseException")=pure true) (hnt:isSubtype (.type ((Manifest.find? T).elim "type" λx=>x.metatype)) (.type "tuple")=pure false) (hsub:isSubtype (.type X) (.type T)=pure true):Mx C (.type X) (.ty T):=by intro W Z s A E rc e oe Q I q he hc h;subst q;exact wpAny_excMatches_type (X:=X) ⟨oe,he,hc⟩ hexc hnt hsub h
inductive K5 (C:Cx) (sc:Scope) (A:Around) (W:Wd) (env:Env) (ms:List (Option AV)) (Z:St) (cls:Value) (as:List AV) (e:Addr) (s:Shared):Prop
 | mk (W':Wd) (oe:Obj) (vs:Array Value) (T:Addr) (oT:Obj) (ts:Array Value) (le:W.le W') (H:At C sc A W' env ms Z s) (y1:W'.fz e=some oe) (y2:oe.cls=cls) (y3:oe.data= .fields vs) (y4: ∃t,vs[0]? =some (.ref t)/\aw W' (.tup as) (.ref t)) (y5:vs[1]? =some (.ref T)) (y6:T≠e) (y7:W'.fz T=some oT) (y8:oT.data= .fields ts) (y9:ts[3]? =some .none) (y10:vs[2]? =some .none):K5 C sc A W env ms Z cls as e s
theorem wy.settle (X:wy C sc A W env ms Z cls as (some .none) e s):K5 C sc A W env ms Z cls as e s:=by
 obtain⟨H,fe,t,qt,oe,vs,T,oT,ts,y1,y2,y3,y4,y5,y6,y7,y8,y9,y10,y11⟩:=X;refine bG (H.freeze y1 fe.1.1 fe.1.2 fe.2.1) λle1 H1=>?_;have hT1:(W.freeze e oe).fz T=none:=by refine(?_:(if T=e then _ else W.fz T)=none);rw [az y7];exact y6.1.1
 refine bG (H1.freeze y8 hT1 y6.1.2 y6.2.1) λle2 H2=>?_;refine⟨_,oe,vs,T,oT,ts,le1.trans le2,H2,le2.2 _ _ (by show(if _ then _ else _)=_;rw [aG rfl]),y2,y3,⟨t,y4,(qt.mono le1).mono le2⟩,y5,y7,by show(if _ then _ else _)=_;rw [aG rfl],y9,y10,y11⟩
theorem gW {E:Value->Shared->Prop} {Q:Unit->Shared->Prop} (he:s.heap.get? e=some oe) (hd:oe.data= .fields vs) (h1:vs[1]? =some (.ref T)) (hT:s.heap.get? T=some oT) (hdT:oT.data= .fields ts) (h3:ts[3]? =some .none)
  (g: ∀h',(∀b o,s.heap.get? b=some o->h'.get? b=some o)->Q () {s with heap:=h'}):wpAny M A (setFlight (.ref e) none) Q E s:=by
 refine ak (iL he hd h1 ?_);rw [aG (show(Value.ref T !=Value.none)=true from by simp)];have sz:3<ts.size:=(FK.mp h3).1;refine td hT hdT sz (g _ λb o hb=> ?_);obtain⟨cT,dT,O2,sT⟩:=oT;simp only at hdT;subst hdT;by_cases q:b=T
 ·subst q;rw [hT]at hb;cases hb;rw [jw _ hT rfl];have e1:ts.setIfInBounds 3 Value.none=ts:=by
   apply Array.ext_getElem?;intro i;by_cases hi:3=i
   ·subst hi;rw [h3];simp [BM,sz]
   ·simp [BM,hi]
  refine(?_:some (⟨cT,dT,.fields (ts.setIfInBounds 3 Value.none),sT⟩:Obj)=_);rw [e1]
 ·rw [m8 _ _ (f7 q)];exact hb
theorem BP (hb:Rz C k sc ms Z (execs body) cls as ai ae) (hcf:cls≠ .type "frame") (ht:Ev C.h k sc ai ae t c ai ae) (hm:Mx C cls c)
  (hx:Ex C.h k sc ai ae (IV::suite) f aK aB):X1 C k sc ms Z (.Try body [.ExceptHandler (some t) none (IV::suite) hpos] [] [] pos) f aK aB:=by
 intro A W env s hr H;refine wpAny_Try_except (bF (hb A W env s hr H) (λu v x=>x.elim) λe aI hX=> ?_);obtain⟨aR,a,fl,aA,rfl,hfl,X⟩:=hX;have step: ∀{Q:Unit->Shared->Prop},(∀s' L,wy C sc A aR env ai ae cls as (some (rawInt L)) a s'->Q () s')->wpAny C.M A (noteFrame (.ref a) env) Q No aI:=λg=>by
  rcases hfl with h | h | ⟨L,hL,h⟩
  ·exact X.note (.inl h) λs' L hL X'=>g s' L X'
  ·exact X.note (.inr h) λs' L hL X'=>g s' L X'
  ·subst h;exact X.again hL (g _ L X)
 refine step λaT L IW=>IW.flight (fr:=none) λbt F9=> ?_;obtain⟨bh,oe,vs,T,oT,ts,ax,aF,ze,zc,zd,_,z1,Nd,zT,Nf,z3,_⟩:=F9.settle;refine wpAny_handleBy_cons (codeAny_handlers_test (gr (C:=C.h) (ht (A.mark (some (.ref a))) bh env bt hr.h aF.h) λbS rc jf bg br qc=> ?_)) (by intro q;cases q);have he:=br.inv.frozen (bg.2 _ _ ze) (by rw [zc];exact hcf);refine c12 (br.inv.fz _ _ (bg.2 _ _ zT)) λoT' hT uT=>hm bS ae jf _ _ rc a oe _ br.Jp.inv qc he zc ?_;refine codeAny_handlers_suite ?_;refine gW he zd z1 hT (uT.data.trans Nf) z3 λh' hk=> ?_;have gv:At C.h sc (A.mark (some (.ref a))) bS env ai ae {jf with heap:=h'}:=br.stir (X:=λu=>False) (λu x=>x.elim) (λb o u z=>⟨o,hk b o z,.refl o⟩) (λb o z=>hk b o (br.inv.kept b o z)) (bT _);exact gr (C:=C.h) (hx (A.mark (some (.ref a))) bS env _ hr.h gv) λnD fl F3 eW mK qf=>⟨nD,aA.trans (ax.trans (bg.trans eW)),mK.Jp,qf⟩
end
end V
end
section
namespace V
open Builtin Builtin.Str
theorem CZ (a:Value):checkBoundCall "list_iterator.__next__" ⟨[a],[]⟩=pure ():=by kernel_rfl
theorem Dw (a:Args):(Code.builtin "list_iterator.__next__" a).quiet=true:=Code.quiet_builtin _ (by decide+kernel)
section
variable {prog:Program} {w:World} {A:Around} {E:Value->Shared->Prop} {s:Shared}
theorem ET {it l:Addr} {i:Nat} {items:Array Value} {x:Value} {Q:Fin->Shared->Prop} (ho:s.heap.get? it=some (oU #[.ref l,.int i 0])) (hl:s.heap.IsList l items) (hx:items[i]? =some x)
  (hQ: ∀h',h'.get? it=some (oU #[.ref l,.int ((i+1:Nat):Int) 0])->Heap.SameBut it s.heap h'->Q (.done (.ret x)) {s with heap:=h'}):wpAny (model prog w) A (Builtin.«list_iterator.__next__» ⟨[.ref it],[]⟩) Q E s:=by
 obtain⟨ol,hol,_,nl,hdl⟩:=hl;refine(?_:wpAny _ _ (field (.ref it) 0>>=_) _ _ s);refine ak (iL ho rfl (x:= .ref l) rfl ?_);refine(?_:wpAny _ _ (if(Value.ref l==Value.none)=true then _ else _) _ _ s);rw [az (show¬((Value.ref l==Value.none)=true)from dN)];refine(?_:wpAny _ _ (field (.ref it) 1>>=_) _ _ s);refine ak (iL ho rfl (x:= .int i 0) rfl ?_);refine(?_:wpAny _ _ (seqItems? (.ref l)>>=_) _ _ s);refine ak (ur hol hdl ?_);simp only [vH,hx];refine ak (td ho rfl (by simp) (aQ (hQ _ ?_ (zb ..))));rw [jw _ ho rfl];simp [Obj.mapFields,rawInt]
theorem HN {it l:Addr} {i:Nat} {items:Array Value} {Q:Fin->Shared->Prop} (hh:A.handled=none) (ho:s.heap.get? it=some (oU #[.ref l,.int i 0])) (hl:s.heap.IsList l items) (hx:items[i]? =none)
  (hE: ∀h' e t,(∀b o,b≠it->s.heap.get? b=some o->h'.get? b=some o)->(∃o',h'.get? it=some o')->s.heap.get? e=none->s.heap.get? t=none->e≠t->h'.get? t=some {cls:= .type "tuple",data:= .seq #[]}->
   h'.get? e=some {cls:= .type "StopIteration",data:= .fields #[.ref t,.none,.none,.none,.bool false,.none]}->E (.ref e) {s with heap:=h'}):wpAny (model prog w) A (Builtin.«list_iterator.__next__» ⟨[.ref it],[]⟩) Q E s:=by
 obtain⟨ol,hol,_,nl,hdl⟩:=hl;refine(?_:wpAny _ _ (field (.ref it) 0>>=_) _ _ s);refine ak (iL ho rfl (x:= .ref l) rfl ?_);refine(?_:wpAny _ _ (if(Value.ref l==Value.none)=true then _ else _) _ _ s);rw [az (show¬((Value.ref l==Value.none)=true)from dN)];refine(?_:wpAny _ _ (field (.ref it) 1>>=_) _ _ s);refine ak (iL ho rfl (x:= .int i 0) rfl ?_);refine(?_:wpAny _ _ (seqItems? (.ref l)>>=_) _ _ s);refine ak (ur hol hdl ?_);simp only [vH,hx];refine ak (rG (ak (td ho rfl (by exact gO _ _) ?_)));refine(?_:wpAny _ _ (newExc (.type "StopIteration") []>>=_) _ _ _);refine ak ?_;refine ak (nU ?_ (by size_fits));refine ak (m:=firstArgMember _ _) (eL (a:=Value.none) (by first | rfl | (simp only [firstArgMember];rfl)) ?_);refine nU ?_ (by size_fits);refine ak (wpAny_handled ?_);rw [hh];refine ak (aQ (wpAny_throw ?_));have other: ∀b o,b≠it->s.heap.get? b=some o->(s.heap.update it (Obj.mapFields (·.setIfInBounds 0 Value.none))).get? b=some o:=λb o nb z=>by rw [m8 _ _ (f7 nb)];exact z
 have sz:(s.heap.update it (Obj.mapFields (·.setIfInBounds 0 Value.none))).objs.size=s.heap.objs.size:=(show Heap.SameBut it s.heap (s.heap.update it (Obj.mapFields (·.setIfInBounds 0 Value.none)))from zb ..).1;refine hE _ _ _ (λb o nb z=>mn _ (mn _ (other b o nb z))) ⟨_,mn _ (mn _ (jw _ ho rfl))⟩ (Heap.get?_none_of_le ?_) (Heap.get?_none_of_le ?_) ?_ (mn _ (dZ _ rfl)) (dZ _ rfl)
 ·simp only [m5];rw [sz];exact ju _
 ·rw [sz];exact bT _
 ·simp only [m5];exact Nat.succ_ne_self _
theorem xS {R:Result->Shared->Prop} (hb:s.heap.get? b=some ob) (hc:ob.cls= .type "method-wrapper") (hd:ob.data= .fields #[.builtin "list_iterator.__next__",.ref it])
  (h:wpAny (model prog w) A.in1 (Builtin.«list_iterator.__next__» ⟨[.ref it],[]⟩) (λfin s'=>match fin with | .done f=>R (.ok f) s' | .again c'=>c'.quiet=true/\codeAny (model prog w) A c' R s') (λe s'=>R (.error e) s') s):
  codeAny (model prog w) A (.call (.ref b) ⟨[],[]⟩) R s:=by
 obtain⟨oc,od,dt,sl⟩:=ob;simp only at hc hd;subst hc hd;refine mA ?_;refine(?_:wpAny _ A.in1 (callAny (.ref b) ⟨[],[]⟩) _ _ s);refine ak (wpAny_load hb ?_);refine(?_:wpAny _ _ (checkBoundCall "list_iterator.__next__" ⟨[.ref it],[]⟩>>=_) _ _ _);refine ak (eL (a:=()) (CZ _) ?_);refine ak (aQ (aQ ⟨Dw _,?_⟩));refine codeAny_builtin entry_listiter_next ?_;refine(?_:wpAny _ (A.under (.builtin "list_iterator.__next__" ⟨[.ref it],[]⟩)) _ _ _ _);rw [Around.under_plainId Cc.plain];exact h
end
section
variable {C:Cx} {k:Nat} {sc:Scope} {A:Around} {W:Wd} {env:Env} {ms ai aZ b6 aK:List (Option AV)} {Z ae aN bX aB:St} {s:Shared}
theorem Inv.iter (I:Inv C W Z s) (h:Z l=some (.iter ll i)) (q:aw W (.loc l) rv): ∃it la,rv= .ref it/\W.ρ l=some it/\W.ρ ll=some la/\s.heap.get? it=some (oU #[.ref la,.int i 0]):=by refine uU q λit e=>?_;obtain⟨ob,h1,a,h2,rfl⟩:=I.obj l it _ e h;exact MI it a rfl e h2 h1
theorem HE (hll:Z ll=some (.list xs)) (hl:Z l=none):Ca C k Z (.bi "iter") [.loc ll] [] (.loc l) (Z.set l (.iter ll 0)):=by refine wu λW r q A s outer hr hA hS I=> ?_;refine fu ((IsL.loc hll).list q I) λla vs z=>?_;subst z;intro hL ks;refine c12 q λD5 O3 e2=>?_;clear q;cases e2;refine call_function_entry (by decide+kernel) (by decide+kernel) kdk_entry_iter (kdk_args_iter _) ?_;delta Builtin.«iter»;refine ak (m:=someArgs "iter" 1 2 _) (eL (a:= [Value.ref la]) (by first | rfl | kernel_rfl!) ?_);refine(?_:wpAny _ _ (pyIter (.ref la)>>=_) _ _ _);refine ak (wpAny_pyIter_list hL (aQ ⟨_,rfl,?_⟩));refine C0 (I.newObj (o:= .iter ll 0) (ob:=oU #[.ref la,.int 0 0]) hl (dZ _ rfl) (bT _) (λW' le=>⟨la,le.1 _ _ O3,rfl⟩)) λW' le I' q _=>?_;exact⟨W',le,I',q⟩
theorem Fe (h:Z l=some (.iter ll i)):ib C k Z (λx=>getAttr x "__next__" true) (.loc l) (λW r=>aw W (.mw "list_iterator.__next__" l) r) Z:=by
 intro W ra q A s outer hr hA hS I;refine tM (I.iter h q) λit la z=>?_;subst z;intro e e2 ho;obtain⟨hp,gn,dr,tk,os⟩:=s;dsimp only at ho;refine bG I.cz λn1 n2=>?_;have g:(hp.push (qp it)).get? hp.objs.size=some (qp it):=dZ _ rfl;refine bG (I.fX (t:=tk+1) (d:=dr) n1 n2 (a9 _ _) g) λle I'=>?_;have hq:Ek C W Z (λW r=>aw W (.mw "list_iterator.__next__" l) r) (.ref hp.objs.size) ⟨hp.push (qp it),gn,dr,tk+1,os⟩:=by
  refine⟨_,le,I',?_⟩;refine Hh it hp.objs.size (qp it) (le.1 _ _ e) rfl ?_ rfl rfl;show(if _ then _ else _)=_
  rw [aG rfl]
 have hT:(⟨hp,gn,dr,tk+1,os⟩:Shared).TypeIs (.ref it) "list_iterator":=⟨_,ho,rfl⟩;have f2:=yJ.lookup;have f3:=yJ.bind (.ref it)
 repeat (any_goals (first | assumption | wp_step))
 refine Fm ho ?_
 repeat (any_goals (first | assumption | wp_step))
theorem Ht (h:Z l=some (.iter ll i)) (hll:Z ll=some (.list xs)) (hx:xs[i]? =some x):Ca C k Z (.mw "list_iterator.__next__" l) [] [] x (Z.set l (.iter ll (i+1))):=by intro W rf df fq hf ha hk A s outer hr hA hS I;subst hk;subst ha;refine Hr hf λit b o e q=>?_;clear hf;subst q;intro hb c1 c2;refine tM (I.iter (rv:= .ref it) h (i12 it e rfl)) λit' la e0 e1 e2 ho=>?_;cases e0;refine fu ((IsL.loc hll).list (rv:= .ref la) (i12 la e2 rfl) I) λD5 vs e3 hL ks=>?_;cases e3;refine c12 (ks.get hx) λv hv qv=>?_;refine rC (xS (I.frozen hb (by rw [c1];decide)) c1 c2 (ET ho hL (by simpa using hv) λh' g1 g2=> ?_));exact⟨W,.refl W,I.upd (t:=s.toks) (d:=s.drawn) e (λb o n z=>(g2.2 b n).trans z) g1 ⟨la,e2,rfl⟩,qv⟩
theorem EK (h:Z l=some (.iter ll i)) (hll:Z ll=some (.list xs)) (hx:xs.length<=i) (h0:C.hx=none:=by assumption):Jg C k Z (.mw "list_iterator.__next__" l) [] (.type "StopIteration") [] (Z.set l .junk):=by
 intro W rf df hf ha A s outer hr hA hS I;subst ha;refine Hr hf λit b o e u=>?_;clear hf;subst u;intro hb c1 c2;refine tM (I.iter (rv:= .ref it) h (i12 it e rfl)) λit' la e0 e1 e2 ho=>?_;cases e0;refine fu ((IsL.loc hll).list (rv:= .ref la) (i12 la e2 rfl) I) λD5 vs e3 hL ks=>?_;cases e3;refine rC (xS (I.frozen hb (by rw [c1];decide)) c1 c2 (HN (hr.none h0) ho hL (by rw [List.getElem?_toArray,o9,ks.length];exact hx) λh' ea t k1 k2 ne nt O4 ht he=> ?_));refine cG k2 λoi hoi=>?_;clear k2;have I1:=I.upd (h:=h') (t:=s.toks) (d:=s.drawn) (o':= .junk) e (λb o n z=>k1 b o n z) hoi trivial;have fr: ∀{a},s.heap.get? a=none->Jj C W a:=λ{a} z=>by
  refine⟨⟨?_,λl' e'=> ?_⟩,?_⟩
  ·cases q:W.fz a with
   | none=>rfl
   | some o=>refine c12 (I.fz a o q) λo' z' _=>?_;rw [z]at z';exact dC z'
  ·have d:=I.dom l';rw [e']at d;cases q:Z l' with
   | none=>rw [q]at d;exact zv d
   | some o=>refine c12 (I.obj l' a o e' q) λob z' _=>?_;rw [z]at z';exact dC z'
  ·cases q:C.h₀.get? a with
   | none=>rfl
   | some o=>have:=I.kept a o q;rw [z]at this;exact dC this
 have f1:=fr ne;have f2:=fr nt;refine bG (I1.fX (h:=h') (t:=s.toks) (d:=s.drawn) f2.1.1 f2.1.2 (λv w z=>z) ht) λle I2=>⟨_,ea,t,le,I2,rfl,⟨⟨?_,f1.1.2⟩,f1.2⟩,?_,.inl he⟩
 ·refine(?_:(if ea=t then _ else W.fz ea)=none);rw [az O4];exact f1.1.1
 ·refine v5 t _ ([]) 0 rfl ?_ rfl rfl (.nil);show(if _ then _ else _)=_
  rw [aG rfl]
end
end V
end
section
namespace V
open Builtin Builtin.Str
inductive ExcAt (K:Frag) (c:Addr) (bmB:List Value) (newId:String):Prop
 | mk (bm:List Value) (N:Addr) (nm qn:Str) (bs:List Value) (hd:Bool) (sn:List Str) (sub:List Value) (ab:Bool) (col:Option Bool) (dd:Option Addr) (k0 k1 k2 k3 k5:Option Value)
  (ho:K.lookup c=some (excClassObj nm qn c N bs bm hd sn sub ab col dd k0 k1 k2 k3 k5 newId)) (ht:tailIn K bmB bm=true) (hok:nsOkIn K N=true) (hni:nsIn K N "__init__"=some none):ExcAt K c bmB newId
inductive K8 (h:Heap) (c:Addr) (bmB:List Value) (newId:String):Prop
 | mk (bm:List Value) (N:Addr) (nm qn:Str) (bs:List Value) (hd:Bool) (sn:List Str) (sub:List Value) (ab:Bool) (col:Option Bool) (dd:Option Addr) (k0 k1 k2 k3 k5:Option Value) (mN:Str->Option Value)
  (hC:h.get? c=some (excClassObj nm qn c N bs bm hd sn sub ab col dd k0 k1 k2 k3 k5 newId)) (hN:h.Ns N mN) (hni:mN "__init__"=none) (T:OwnTail h bmB bm):K8 h c bmB newId
theorem yy {K:Frag} {h:Heap} {c:Addr} {bmB:List Value} {newId:String} (X:K.In h) (q:ExcAt K c bmB newId):K8 h c bmB newId:=by obtain⟨bm,N,nm,qn,bs,hd,sn,sub,ab,col,dd,k0,k1,k2,k3,k5,ho,ht,hok,hni⟩:=q;exact⟨bm,N,nm,qn,bs,hd,sn,sub,ab,col,dd,k0,k1,k2,k3,k5,_,X _ _ ho,.of_isNs (isNs_of_in X hok),nsMap_none_of_in X hok hni,tail_of_in X ht⟩
section
variable {C:Cx} {k:Nat} {sc:Scope} {A:Around} {W:Wd} {env:Env} {ms ai aZ b6 aK:List (Option AV)} {Z ae aN bX aB:St} {s:Shared}
theorem HK (O:C.Ok) {c:Addr} {bmB:List Value} {newId:String} (q:ExcAt C.K c bmB newId) (hb:bmB.contains (.type "BaseException")=true):Mx C (.ref c) (.ext c):=by intro W Z s A E rc e oe Q I qr he hc h;subst qr;obtain⟨bm,N,nm,qn,bs,hd,sn,sub,ab,col,dd,k0,k1,k2,k3,k5,mN,hC,hN,hni,TL⟩:=yy (e8 O I) q;obtain⟨hp,g,d,t,os⟩:=s;exact wpAny_excMatches_sub_self hC he hc (TL.hasType hb) h
theorem w9 (O:C.Ok) {c:Addr} {B Bn newId nid initId inN:String} {bmB bmN:List Value} (Fn:ExcBaseFacts Bn newId inN bmN) (hBn:bmB.contains (.type Bn)=true) (F:ExcBaseFacts B nid initId bmB) (q:ExcAt C.K c bmB newId) (hb:bmB.contains (.type "BaseException")=true)
  {x:Str} {np cpos pos:Pos} {args:List Expr} {as:List AV} (h1:Ev C k sc ms Z (.Name x np) (.ext c) ai ae) (h2:Es C k sc ai ae cpos args as aK aB)
  (hz:as.length<=sizeLine) (hp: ∀env,(backTo cpos (starEach args env)).any (·.1)=false) (h0:C.hx=none:=by assumption):Rz C k sc ms Z (exec (.Raise (some (.Call (.Name x np) args [] cpos)) none pos)) (.ref c) as aK aB:=by
 intro A W env s hr H;have I0:=H.inv;obtain⟨bm,N,nm,qn,bs,hd,sn,sub,ab,col,dd,k0,k1,k2,k3,k5,mN,hC,hN,hni,TL⟩:=yy (O.tR) q;refine wpAny_Raise_call_subU (C:=c) (nm:=nm) (q:=qn) (N:=N) (bs:=bs) (bm:=bm) (hdct:=hd) (sn:=sn) (sub:=sub) (ab:=ab) (col:=col) (dd:=dd) (k0:=k0) (k1:=k1) (k2:=k2) (k3:=k3) (k5:=k5) (newId:=newId) (mN:=mN) Fn hBn F (TL.hasType hb) (hr.none h0) (hp env) hni (gr (h1 A W env s hr H) λaR r aI aA aO q=>⟨by exact q,?_⟩);refine dA (λy z=>by have:=hp env;rw [z]at this;simp at this) (gr (h2 A aR env aI hr aO) λbh vs aT ax aF qs=>⟨rfl,by rw [qs.length];exact hz,aF.inv.kept _ _ hC,hN.keeps aF.inv.kept,TL.keeps aF.inv.kept,λh' e hm=> ?_⟩);exact(raised aF qs ⟨hm.keeps,hm.new,hm.there⟩).le (aA.trans ax)
noncomputable def Rd (C:Cx) (Z:St) (a:AV) (d:PyData):Prop:= ∀(W:Wd) (s:Shared) (v:Value),Inv C W Z s->aw W a v-> ∃as,Reads s.heap v d as
noncomputable def Hy (C:Cx) (Z:St) (a:List AV) (d:List PyData):Prop:= ∀(W:Wd) (s:Shared) (v:List Value),Inv C W Z s->aU W a v-> ∃as,ReadsAll s.heap v d as
theorem yc:Rd C Z .none .none:=λW s v I q=>by subst q;exact⟨_,.none⟩
theorem jq:Rd C Z (.str x) (.str x):=λW s v I q=>by refine e9 q λt=>?_;exact⟨_,.str x t⟩
theorem gJ:Hy C Z [] []:=λW s v I q=>by subst q;exact⟨_,.nil⟩
theorem d4 (h1:Rd C Z a d) (h2:Hy C Z as ds):Hy C Z (a::as) (d::ds):=λW s v I q=>by refine gD q λu r q1 q2=>cG (h1 W s u I q1) λx hx=>cG (h2 W s r I q2) λy hy=>⟨_,.cons hx hy⟩
theorem xM {α:Type} {f:α->AV} {g:α->PyData} (h: ∀x,Rd C Z (f x) (g x)): ∀l:List α,Hy C Z (l.map f) (l.map g):=by
 intro aH;induction aH with
 | nil=>exact gJ
 | cons x l ih=>exact d4 (h x) (ih)
theorem mC (h:Hy C Z xs ds):Rd C Z (.tup xs) (.tuple ds):=λW s v I q=>by refine Eg (q.isTup I) λa vs n hl ks=>cG (h W s vs I ks) λy hy=>⟨_,.tuple hl rfl rfl (by simpa using hy)⟩
theorem gG (hl:IsL Z v xs) (h:Hy C Z xs ds):Rd C Z v (.list ds):=λW s v I q=>by refine Eg (hl.is q I) λa vs n hl ks=>cG (h W s vs I ks) λy hy=>⟨_,.list hl rfl rfl (by simpa using hy)⟩
theorem nS (ha:Rd C Z a d) (hb:Rd C Z b d) (hc:d.canLay0=true) (hd:d.depth<=9):di C k Z (compareOp .NotEq) a b (λW r=>aw W (.bool false) r) Z:=by
 intro W ra rb qa qb;refine Op.look λA s Q hr I hq=>cG (ha W s ra I qa) λx hx=>cG (hb W s rb I qb) λy hy=>?_;refine SeqAt.compareNe_reads hx hy hc hc (by have:=hr.2.1;rw [Nat.min_self];omega) (hq _ s.toks ?_);have e:PyData.eqv d d=true:=by first | exact SeqAt.eqv_refl d hc | exact eqv_refl d hc
 rw [e];exact rfl
theorem yx (ha:Rd C Z a d) (hb:Rd C Z b d) (hc:d.canLay0=true) (hd:d.depth<=9):di C k Z (compareOp .Eq) a b (λW r=>aw W (.bool true) r) Z:=by
 intro W ra rb qa qb;refine Op.look λA s Q hr I hq=>cG (ha W s ra I qa) λx hx=>cG (hb W s rb I qb) λy hy=>?_;refine SeqAt.compareEq_reads hx hy hc hc (by have:=hr.2.1;rw [Nat.min_self];omega) (hq _ s.toks ?_);have e:PyData.eqv d d=true:=by first | exact SeqAt.eqv_refl d hc | exact eqv_refl d hc
 rw [e];exact rfl
end
end V
end
section
namespace V
theorem nh (l:Addr) (items:Array Value) (hfit:(items.size:Int)<2 ^ 63):
  Meets (Builtin.«bool.__new__» ⟨[.type "bool",.ref l],[]⟩) (λu R s=>s.heap.IsList l items/\R (.ok (.ret (.bool (!items.isEmpty)))) {s with toks:=s.toks+1+1}):=
 Meets.of_wp λprog w A R s hs=>by
  refine bG hs λhl hs=>?_;obtain⟨hp,g,d,tk,os⟩:=s;have f1:=F.conv_sub_bool
  repeat (any_goals (first | assumption | (with_reducible refine wpAny_truthy_list hl hfit ?_) | wp_step))
  all_goals first | exact i12 _ rfl hs | exact hs | skip
section
variable {C:Cx} {k:Nat} {sc:Scope} {A:Around} {W:Wd} {env:Env} {ms ai aZ b6 aK:List (Option AV)} {Z ae aN bX aB:St} {s:Shared}
theorem wB (h:IsL Z v xs) (hz:xs.length<=sizeLine) (hc:(!xs.isEmpty)=c):Ca C k Z (.ty "bool") [v] [] (.bool c) Z:=by
 intro W rf df fq hf ha hk;subst hf;subst hk;refine c12 (dw ha) λr w=>?_;subst w;intro q;refine Op.look λA s Q hr I hq=> ?_;refine fu (h.list q I) λla vs u=>?_;subst u;intro hl ks;have e:(List.toArray vs).size=xs.length:=by simp [ks.length]
 have hb:(!(List.toArray vs).isEmpty)=c:=by
  rw [<-hc];cases xs with
  | nil=>subst ks;rfl
  | cons y ys=>refine v8 ks λv r z=>?_;clear ks;subst z;intro g;simp
 refine call_bool_1 (nh la _ (by rw [e];rw [jr]at hz;omega)) ⟨hl,?_⟩;refine(?_:_/\_);refine⟨rfl,?_⟩;rw [hb];exact hq _ _ rfl
theorem rJ (h:qW Z l es):Bg C Z (.loc l):=λW s ro I q=>by intro A Q E s' hk hq;refine uU q λa e=>?_;obtain⟨ob,h1,ds,n,rfl,h2⟩:=h.obj I e;have hT:s'.TypeIs (.ref a) "dict":=⟨_,hk _ _ h1,rfl⟩;rw [getitemInPython_of_ne hT.not_modules];exact ak (wpAny_specialOf hT F.slot_dict_getitem.lookup (aQ hq))
end
end V
end
section
namespace V
section
variable {C:Cx} {k:Nat} {sc:Scope}
theorem ly {α:Type} {enc val:α->AV} {p:α->Bool} {M:Option α->List (Option AV)} {Sg:List AV->St} {ok:St->Prop} {la:Loc} {elt:Expr} {gens:List Comprehension} {scope:Scope} {pos:Pos} {g:Comprehension} {gx:List α}
  (hok: ∀out,ok (Sg out)) (hl: ∀out,Sg out la=some (.list out)) (hs: ∀out out',(Sg out).set la (.list out')=Sg out')
  (ha: ∀o x out,x∈gx->As C k sc (M o) (Sg out) g.target (enc x) (M (some x)) (Sg out))
  (hc:(g.ifs= []/\ ∀x,p x=true)\/ ∃c,g.ifs= [c]/\ ∀x out,x∈gx->Tv C k sc (M (some x)) (Sg out) c (p x) (M (some x)) (Sg out))
  (hv: ∀x out,x∈gx->p x=true->Ev C k sc (M (some x)) (Sg out) elt (val x) (M (some x)) (Sg out)):
  ∀(xs:List α) (out:List AV) (o:Option α),(∀x∈xs,x∈gx)->out.length+xs.length<=sizeLine->
   CL C k sc la (.ListComp elt gens scope pos) ok g [] (xs.map enc) (M o) (Sg out) (M (xs.foldl (λw x=>some x) o)) (Sg (out++(xs.filter p).map val)):=by
 intro aH;induction aH with
 | nil=>intro out o w m;simp only [List.filter_nil,List.map_nil,iI];exact .nil (hok out)
 | cons x xs ih=>
  intro out o hm hz;rw [cq]at hz;have hx:=hm x (.head _);have hm': ∀y∈xs,y∈gx:=λy hy=>hm y (.tail _ hy);rcases hp:p x with _ | _
  ·refine aP hc (λv=>bG v λ_ h=>?_) λu=>c12 u λc hi h=>?_
   ·rw [h x]at hp;exact zv hp
   ·have ih:=ih out (some x) hm' (by omega);rw [List.filter_cons_of_neg (by rw [hp];decide)];have t:=h x out hx;rw [hp]at t;exact .skip (hok out) (ha o x out hx) hi t ih
  ·have ih:=ih (out++ [val x]) (some x) hm' (by rw [cV];simp only [cq,ic];omega);rw [List.filter_cons_of_pos hp,dj];rw [eX]at ih;have em:=nE (gens:=gens) (scope:=scope) (pos:=pos) (la:=la) (hv x out hx hp) (hl out) (by omega);rw [hs]at em;refine .take (hok out) (ha o x out hx) ?_ (.emit em) ih;refine aP hc (λz=>bG z λh _=>?_) λq=>c12 q λc hi h=>?_
   ·exact .inl ⟨h,rfl,rfl⟩
   ·have t:=h x out hx;rw [hp]at t;exact .inr ⟨c,hi,t⟩
theorem jO {Z:St} {l l':Loc} {o o':AO} (h:l≠l'):(Z.set l o).set l' o'=(Z.set l' o').set l o:=by
 funext x;delta St.set;by_cases h1:x=l
 ·subst h1;simp [h]
 ·simp [h1]
end
end V
end
section
namespace V
section
variable {C:Cx} {k:Nat} {sc:Scope} {Z:St}
end
end V
end
section
namespace V
section
variable {C:Cx} {k:Nat} {sc:Scope} {Z ae aN aB:St} {ms ai aZ aK:List (Option AV)}
theorem Cq {α S:Type} {enc:α->AV} {M:S->List (Option AV)} {Sg:S->St} {step:S->α->S} {P:S->List α->Prop} {ok:St->Prop} (hok: ∀s xs,P s xs->ok (Sg s)) (hp: ∀s x xs,P s (x::xs)->P (step s x) xs)
  (h: ∀s x xs,P s (x::xs)-> ∃ai ae,As C k sc (M s) (Sg s) tgt (enc x) ai ae/\Ex C k sc ai ae body .next (M (step s x)) (Sg (step s x))): ∀(xs:List α) (s:S),P s xs->Ie C k sc ok tgt body (xs.map enc) (M s) (Sg s) (M (xs.foldl step s)) (Sg (xs.foldl step s)):=by
 intro aH;induction aH with
 | nil=>intro s hs;exact .nil (hok s [] hs)
 | cons x xs ih=>intro s hs;refine v8 (h s x xs hs) λm1 s1 ha hx=>.cons (hok s _ hs) ha hx (ih (step s x) (hp s x xs hs))
end
end V
end
section
namespace V
section
variable {M:Model} {A:Around} {E:Value->Shared->Prop} {s:Shared}
end
section
variable {C:Cx} {k:Nat} {sc:Scope} {A:Around} {W:Wd} {env:Env} {ms ai aZ b6 aK:List (Option AV)} {Z ae aN bX aB:St} {s:Shared}
end
end V
end
section
namespace V
section
variable {C:Cx} {k:Nat} {sc:Scope}
theorem yz {α β:Type} {enc:α->AV} {f:α->List AV} {M:Option α->Option β->List (Option AV)} {nx:α->Option β->Option β} {Sg:List AV->St} {ok:St->Prop} {la:Loc} {e:Expr} {g:Comprehension} {gs:List Comprehension} {gx:List α} {K:Nat}
  (hok: ∀out,ok (Sg out)) (hi:g.ifs= [])
  (ha: ∀o o2 x out,x∈gx->As C k sc (M o o2) (Sg out) g.target (enc x) (M (some x) o2) (Sg out))
  (hK: ∀x,(f x).length<=K)
  (hb: ∀x o2 out,x∈gx->out.length+K<=sizeLine->CB C k sc la e gs (M (some x) o2) (Sg out) (M (some x) (nx x o2)) (Sg (out++f x))):
  ∀(xs:List α) (out:List AV) (o:Option α) (o2:Option β),(∀x∈xs,x∈gx)->out.length+xs.length * K<=sizeLine->
   CL C k sc la e ok g gs (xs.map enc) (M o o2) (Sg out) (M (xs.foldl (λs x=>(some x,nx x s.2)) (o,o2)).1 (xs.foldl (λs x=>(some x,nx x s.2)) (o,o2)).2) (Sg (out++xs.flatMap f)):=by
 intro aH;induction aH with
 | nil=>intro out o o2 u v;simp only [List.flatMap_nil,iI];exact .nil (hok out)
 | cons x xs ih=>intro out o o2 hm hz;rw [cq,Nat.succ_mul]at hz;have hx:=hm x (.head _);have ih:=ih (out++f x) (some x) (nx x o2) (λy hy=>hm y (.tail _ hy)) (by have:=hK x;rw [cV];omega);rw [gj,<-eX];exact .take (hok out) (ha o o2 x out hx) (.inl ⟨hi,rfl,rfl⟩) (hb x o2 out hx (by omega)) ih
end
end V
end
section
namespace V
section
variable {C:Cx} {k:Nat} {sc:Scope} {Z:St}
theorem MJ (hc:(a==b)=c):di C k Z (compareOp .Is) (.bool a) (.bool b) (λW r=>aw W (.bool c) r) Z:=by intro W ra rb qa qb;subst qa;subst qb;exact Op.look λA s Q hr I hq=>is_bool (hq _ _ (hc▸bO))
theorem xY (hc:(a !=b)=c):di C k Z (compareOp .IsNot) (.bool a) (.bool b) (λW r=>aw W (.bool c) r) Z:=by intro W ra rb qa qb;subst qa;subst qb;exact Op.look λA s Q hr I hq=>isnot_bool (hq _ _ (hc▸bO))
theorem ja (l:List Str):Hy C Z (l.map .str) (l.map .str):=xM (λu=>jq) l
theorem oN: ∀(l:List Str),(∀x∈l,PyData.strOk x=true)->PyData.canLayAll0 (l.map .str)=true:=by
 intro aH;induction aH with
 | nil=>intro u;exact rfl
 | cons x l ih=>intro h;refine(?_:(PyData.strOk x && PyData.canLayAll0 (l.map .str))=true);rw [h x (.head _),ih λy hy=>h y (.tail _ hy)];rfl
end
end V
end
section
namespace V
section
variable {C:Cx} {k:Nat} {sc:Scope} {A:Around} {W:Wd} {env:Env} {ms ai aZ b6 aK:List (Option AV)} {Z ae aN bX aB:St} {s:Shared}
end
end V
end
section
namespace V
section
variable {C:Cx} {k:Nat} {sc:Scope} {Z:St}
theorem Dx {v:AV} {ns:List Int} (h:IsL Z v (ns.map .int)) (h0:C.hx=none):Ca C k Z (.bi "sum") [v] [] (.int ns.sum) Z:=by
 refine wu λW r q A s outer hr hA hS I=>gD (h.list q I) λla vs hl ks=>?_;have hi:=kT ks;refine cG hi.allInts.items λxs ex=>?_;have hn:=hi.numsOf;have e2:vs=(intItems xs).toList:=by rw [<-ex]
 rw [e2,nums_intItems]at hn;rw [ex]at hl;refine eO (sum_intListG (hr.none h0) hl λh' tk t' hk' ht=> ?_);refine⟨W,.refl W,I.same hk' ht,?_⟩;exact⟨t',by rw [preSum_eq,List.take_of_length_le (by simp),hn]⟩
theorem Ar {α β:Type} (f:α->β) (xs:List α) (a b c:Option Int):eS (xs.map f) a b c=(eS xs a b c).map f:=by
 delta eS;rw [bu,List.map_filterMap]
 congr 1
 funext i;rw [gq]
end
end V
end
section
namespace V
noncomputable def z9 (name:Str) (v:AV):List (Str×AV)->List (Str×AV)
 | []=> [(name,v)]
 | e::r=>if e.1=name then(e.1,v)::r else e::z9 name v r
theorem Cu (q:aw W v r): ∀{es:List (Str×AV)} {xs:List (Tok×Value)},xs.length=es.length->aU W (es.map (·.2)) (xs.map (·.2))->
  ∃xs',putIn (·.key.isStr name) (λe=>{e with val:=r}) ⟨PyData.keyHash P name,.str name tk,r⟩ (rowsOf P (es.map (·.1)) xs)=rowsOf P ((z9 name v es).map (·.1)) xs'/\xs'.length=(z9 name v es).length/\aU W ((z9 name v es).map (·.2)) (xs'.map (·.2)):=by
 intro es
 induction es with
 | nil=>exact λg m=>⟨[(tk,r)],rfl,rfl,.cons q .nil⟩
 | cons e es ih=>
  intro xs hl h;cases xs with
  | nil=>cases hl
  | cons x xs=>
   rw [dj,dj]at h;refine fu h λv' r' z a b=>?_;clear h;refine bG (List.cons.inj z) λu=>?_;subst u;intro w;subst w;refine(?_: ∃xs',putIn _ _ _ (⟨PyData.keyHash P e.1,.str e.1 x.1,x.2⟩::rowsOf P (es.map (·.1)) xs)=_/\_);unfold z9;by_cases c:e.1=name
   ·have k1:(λd:DictEntry=>d.key.isStr name) ⟨PyData.keyHash P e.1,.str e.1 x.1,x.2⟩=true:=by simp [Value.isStr,c]
    rw [putIn_hit (λd:DictEntry=>d.key.isStr name) _ _ _ _ k1,aG c];exact vO ((x.1,r)::xs) rfl (by simpa using hl) (.cons q b)
   ·have k1:(λd:DictEntry=>d.key.isStr name) ⟨PyData.keyHash P e.1,.str e.1 x.1,x.2⟩=false:=by simp [Value.isStr,c]
    rw [putIn_miss (λd:DictEntry=>d.key.isStr name) _ _ _ _ k1,az c];refine fP (ih (Nat.succ.inj hl) b) λxs' h1 h2 h3=>?_;exact vO (x::xs') (by rw [h1];rfl) (by simp [h2]) (.cons a h3)
theorem Am:(lookIn name (tabOf P ks xs n)).isSome=true:=by
 have key: ∀(ks:List Str) (xs:List (Tok×Value)),(rowsOf P ks xs).any (·.refKey)=false:=by
  intro ks
  induction ks with
  | nil=>exact λu=>rfl
  | cons k ks ih=>
   intro xs;cases xs with
   | nil=>rfl
   | cons x xs=>exact ih xs
 delta lookIn tabOf;dsimp only;cases (rowsOf P ks xs).toArray.toList.find? (·.key.isStr name)with
 | some e=>rfl
 | none=>refine(?_:(if(rowsOf P ks xs).any (·.refKey)=true then none else some none:Option (Option Value)).isSome=true);rw [key];rfl
theorem iB (O:C.Ok) (hl:Z l=some (.inst c d)) (hd:Z d=some (.dict es)) (hs:findIn C.K (.ref c) "__setattr__"=some (some (.builtin "object.__setattr__")))
  (hp:plainOver C.K c=true) (ht:takerIn C.K c name=some none) (hh:(clsIn C.K c).any (·.hasDict)=true) (he:z9 name v es=es') (hz:es'.length<=1000):
  di C k Z (λx y=>setAttr x name y) (.loc l) v (λu g=>True) (Z.set d (.dict es')):=by
 refine xE O hl hd hs hp ht hh hz (λu g m=>Am) λW xs n tk r hl h q=> ?_;obtain⟨xs',h1,h2,h3⟩:=Cu (P:=C.w.params) (tk:=tk) q hl h;subst he;refine jE xs' (if(rowsOf C.w.params (es.map (·.1)) xs).any (·.key.isStr name)then n else n+1) ?_ h2 h3;delta tabOf;rw [putName_eq,h1]
end V
end
section
namespace V
open Builtin Builtin.Str
noncomputable def gI (h:Heap) (e:Addr) (oe:Obj):Heap:=⟨(h.objs++Array.replicate (e+1 - h.objs.size) ({cls:= .none,data:= .freed}:Obj)).setIfInBounds e oe,h.life⟩
theorem get?_def (h:Heap) (a:Addr):h.get? a=(match h.objs[a]? with | some ⟨_,_,.freed,_⟩=>none | o=>o):=rfl
theorem gf (hf:oe.isFreed=false) (a:Addr):(gI h e oe).get? a=if a=e then some oe else h.get? a:=by
 have key:(gI h e oe).objs[a]? =if a=e then some oe else if a<h.objs.size then h.objs[a]? else(Array.replicate (e+1 - h.objs.size) ({cls:= .none,data:= .freed}:Obj))[a - h.objs.size]? :=by
  delta gI;rw [BM,Array.getElem?_append];by_cases q:a=e
  ·subst q;rw [aG rfl,aG rfl,aG (by rw [BQ,Array.size_replicate];omega)]
  ·rw [az (f7 q),az q]
 rw [get?_def,key];by_cases q:a=e
 ·rw [aG q,aG q];obtain⟨c,d,dt,sl⟩:=oe;cases dt<;>first | rfl | exact zv hf
 ·rw [az q,az q,get?_def];by_cases z:a<h.objs.size
  ·rw [aG z]
  ·rw [az z,Array.getElem?_eq_none (xs:=h.objs) (Nat.le_of_not_lt z),Array.getElem?_replicate];by_cases z':a - h.objs.size<e+1 - h.objs.size
   ·rw [aG z']
   ·rw [az z']
noncomputable abbrev Cx.hd (C:Cx) (e:Addr) (oe:Obj):Cx:={C with h₀:=gI C.h₀ e oe,hx:=some e}
section
variable {C:Cx} {k:Nat} {sc:Scope} {A:Around} {W:Wd} {env:Env} {ms ai aZ b6 aK:List (Option AV)} {Z ae aN bX aB:St} {s:Shared} {e:Addr} {oe:Obj}
theorem lO (hf:oe.isFreed=false) (h0:C.h₀.get? e=none) (h:C.h₀.get? a=some o):(C.hd e oe).h₀.get? a=some o:=by refine(?_:(gI C.h₀ e oe).get? a=some o);rw [gf hf,az λq=>by rw [q,h0]at h;exact dC h];exact h
theorem Gq (hf:oe.isFreed=false) (h:(C.hd e oe).h₀.get? a=some o):(a=e/\o=oe)\/C.h₀.get? a=some o:=by
 have h:(gI C.h₀ e oe).get? a=some o:=h;rw [gf hf]at h;split at h
 ·rename_i q;cases h;exact .inl ⟨q,rfl⟩
 ·exact .inr h
theorem Cx.Ok.hd (O:C.Ok) (hf:oe.isFreed=false) (h0:C.h₀.get? e=none):(C.hd e oe).Ok:=by have k: ∀a o,C.h₀.get? a=some o->(C.hd e oe).h₀.get? a=some o:=λa o=>lO hf h0;refine c12 O.nolimit λmc n1 n2=>⟨λa o q=>k a o (O.tR a o q),O.g.keeps k,O.b.keeps k,O.boot,mc,n1.keeps k,n2⟩
theorem At.hd (H:At C sc A W env ms Z s) (hf:oe.isFreed=false) (h0:C.h₀.get? e=none) (hc:oe.cls≠ .type "frame") (z:W.fz e=some oe):At (C.hd e oe) sc (A.mark (some (.ref e))) W env ms Z s:=by
 have I:=H.inv;have F:=H.fr;have ne: ∀L o,W.fz L=some o->o.cls= .type "frame"->C.h₀.get? L=none->(C.hd e oe).h₀.get? L=none:=λL o q c g=>by refine(?_:(gI C.h₀ e oe).get? L=none);rw [gf hf,az λx=>by subst x;rw [z]at q;cases q;exact hc c];exact g
 refine⟨⟨I.dom,I.inj,λl a o e q=>c12 (I.obj l a o e q) λob h1 h2=>⟨ob,h1,oE.mp h2⟩,I.apart,I.fz,λa o q=> ?_,λa o q=> ?_,I.gens,I.os,I.pos,⟨?_,I.high.2⟩⟩,
  ⟨F.scope,F.globals,F.builtins,F.ok,F.ns,F.cells,F.mi,F.mZ,F.iQ,F.je,?_⟩⟩
 ·refine aP (Gq hf q) (λp=>bG p λk=>?_) λq=>?_
  ·subst k;intro j;subst j;exact I.frozen z hc
  ·exact I.kept a o q
 ·refine aP (Gq hf q) (λt=>bG t λr=>?_) λq=>?_
  ·subst r;intro m;subst m;exact z
  ·exact I.base a o q
 ·refine cG I.high.1 λo q=>⟨o,lO hf h0 q⟩
 ·obtain⟨fenv,rest,L,h1,h2,h3,h4,h5,h6,h7⟩:=F.pE;refine⟨fenv,rest,L,h1,λenv' he'=> ?_,h3,h4,h5,?_,h7⟩
  ·rcases h2 env' he' with⟨k1,L',o,es,n,k2,k3,k4,y⟩;refine bG y λk5 k6=>⟨k1,L',o,es,n,k2,ne _ _ k4 k5 k3,k4,k5,k6⟩
  ·refine aP h7 (λv=>bG v λw=>?_) λu=>lU u λo _ _ q c _=>?_
   ·subst w;intro i;refine(?_:(gI C.h₀ e oe).get? _=none);rw [gf hf,az λx=>by have q:=F.mi.1;rw [x,z]at q;exact rZ q];exact h6
   ·exact ne _ _ q c h6
theorem At.ML (H:At (C.hd e oe) sc (A.mark (some x)) W env ms Z s) (hf:oe.isFreed=false) (h0:C.h₀.get? e=none) (hi: ∃o,C.h₀.get? mainGlobals=some o):At C sc A W env ms Z s:=by
 have I:=H.inv;have F:=H.fr;have back: ∀L,(C.hd e oe).h₀.get? L=none->C.h₀.get? L=none:=λL q=>by
  cases g:C.h₀.get? L with
  | none=>rfl
  | some o=>rw [lO hf h0 g]at q;exact rZ q
 refine⟨⟨I.dom,I.inj,λl a o e q=>c12 (I.obj l a o e q) λob h1 h2=>⟨ob,h1,oE.mpr h2⟩,I.apart,I.fz,λa o q=>I.kept a o (lO hf h0 q),λa o q=>I.base a o (lO hf h0 q),I.gens,I.os,I.pos,hi,I.high.2⟩,
  ⟨F.scope,F.globals,F.builtins,F.ok,F.ns,F.cells,F.mi,F.mZ,F.iQ,F.je,?_⟩⟩
 obtain⟨fenv,rest,L,h1,h2,h3,h4,h5,h6,h7⟩:=F.pE;refine⟨fenv,rest,L,h1,λenv' he'=> ?_,h3,h4,h5,back _ h6,h7⟩;rcases h2 env' he' with⟨k1,L',o,es,n,k2,k3,k4,z⟩;refine bG z λk5 k6=>⟨k1,L',o,es,n,k2,back _ k3,k4,k5,k6⟩
theorem zO (O:C.Ok) (hb:Rz C k sc ms Z (execs body) cls as ai ae) (hcf:cls≠ .type "frame") (ht:Ev C.h k sc ai ae t c ai ae) (hm:Mx C cls c)
  (hx: ∀e oe,e≠0->(C.hd e oe).Ok->Ex (C.hd e oe) k sc ai ae (IV::suite) f aK aB):X1 C k sc ms Z (.Try body [.ExceptHandler (some t) none (IV::suite) hpos] [] [] pos) f aK aB:=by
 intro A W env s hr H;refine wpAny_Try_except (bF (hb A W env s hr H) (λu v x=>x.elim) λe aI hX=> ?_);obtain⟨aR,a,fl,aA,rfl,hfl,X⟩:=hX;have step: ∀{Q:Unit->Shared->Prop},(∀s' L,wy C sc A aR env ai ae cls as (some (rawInt L)) a s'->Q () s')->wpAny C.M A (noteFrame (.ref a) env) Q No aI:=λg=>by
  rcases hfl with h | h | ⟨L,hL,h⟩
  ·exact X.note (.inl h) λs' L hL X'=>g s' L X'
  ·exact X.note (.inr h) λs' L hL X'=>g s' L X'
  ·subst h;exact X.again hL (g _ L X)
 refine step λaT L IW=>IW.flight (fr:=none) λbt F9=> ?_;obtain⟨bh,oe,vs,T,oT,ts,ax,aF,ze,zc,zd,_,z1,Nd,zT,Nf,z3,z2⟩:=F9.settle;refine wpAny_handleBy_cons (codeAny_handlers_test (gr (C:=C.h) (ht (A.mark (some (.ref a))) bh env bt hr.h aF.h) λbS rc jf bg br qc=> ?_)) (by intro q;cases q);have NX:=bg.2 _ _ ze;have he:=br.inv.frozen NX (by rw [zc];exact hcf);refine c12 (br.inv.fz _ _ (bg.2 _ _ zT)) λoT' hT uT=>hm bS ae jf _ _ rc a oe _ br.Jp.inv qc he zc ?_;dsimp only;refine codeAny_handlers_suite ?_;refine gW he zd z1 hT (uT.data.trans Nf) z3 λh' hk=> ?_;have gv:At C sc A bS env ai ae {jf with heap:=h'}:=br.Jp.stir (X:=λu=>False) (λu x=>x.elim) (λb o u z=>⟨o,hk b o z,.refl o⟩) (λb o z=>hk b o (br.inv.kept b o z)) (bT _);have h0:C.h₀.get? a=none:=F9.free.2.2;have hf:oe.isFreed=false:=Obj.isFreed_of_fields zd;have n0:a≠0:=λq=>by refine sL O.b λo _ _ g _=>?_;have g:C.h₀.get? 0=some o:=g;rw [q,g]at h0;exact rZ h0
 have hr':bY (C.hd a oe) (A.mark (some (.ref a))) k:=⟨hr.1,hr.2.1,(λz=>by exact rZ z),λu=> .inr ⟨a,oe,vs,rfl,by refine(?_:(gI C.h₀ a oe).get? a=_);rw [gf hf,aG rfl],zd,z2⟩⟩;exact gr (C:=C.hd a oe) (hx a oe n0 (O.hd hf h0) (A.mark (some (.ref a))) bS env _ hr' (gv.hd hf h0 (by rw [zc];exact hcf) NX)) λnD fl F3 eW mK qf=>⟨nD,aA.trans (ax.trans (bg.trans eW)),mK.ML hf h0 aF.inv.high.1,qf⟩
end
end V
end
section
namespace V
open Builtin Builtin.Str
noncomputable abbrev um (f0:Value) (f1:Bool) (TI TO:Addr):Obj:={cls:= .type "zip",dict:=none,data:= .fields #[f0,.bool f1,.bool false,.ref TI,.ref TO],slots:= #[]}
noncomputable abbrev iD (a b:Value):Obj:={cls:= .type "tuple",data:= .seq #[a,b]}
section
variable {prog:Program} {w:World} {A:Around} {E:Value->Shared->Prop} {s:Shared}
theorem u4 {Q:Option Obj->Shared->Prop} (h:Q (s.heap.get? a) s):wpAny M A (loadIfAlive a) Q E s:=λΓ p u=>h
theorem uW {z TI TO i1 i2 T:Addr} {f1:Bool} {oT:Obj} {Q:Fin->Shared->Prop}
  (hz:s.heap.get? z=some (um (rawInt T) f1 TI TO)) (hTI:s.heap.get? TI=some (iD (.ref i1) (.ref i2))) (hT:s.heap.get? T=some oT)
  (h: ∀h',h'.get? z=some (um (rawInt T) true TI TO)->(∀b o,b≠z->s.heap.get? b=some o->h'.get? b=some o)->
   wpAny (model prog w) A (Builtin.SmallTypes.nextOf (.ref i1)) (λx aI=>wpAny (model prog w) A (Builtin.SmallTypes.nextOf (.ref i2)) (λy aT=>wpAny (model prog w) A (newTuple [x,y]) (λr bt=>Q (.done (.ret r)) bt) E aT) E aI) E {s with heap:=h'}):
  wpAny (model prog w) A (Builtin.«zip.__next__» ⟨[.ref z],[]⟩) Q E s:=by
 refine(?_:wpAny _ _ (field (.ref z) 2>>=_) _ _ _);refine ak (iL hz rfl (x:= .bool false) rfl ?_);refine ak (iL hz rfl (x:= .ref TI) rfl ?_);refine ak (ur hTI rfl ?_);refine ak (bF (Q:=λb s'=> ∃h',b=false/\s'={s with heap:=h'}/\h'.get? z=some (um (rawInt T) true TI TO)/\ ∀b o,b≠z->s.heap.get? b=some o->h'.get? b=some o) ?_ (λb s' hh=> ?_) λv m x=>x)
 ·delta Builtin.SmallTypes.ownedTupleIsFree;refine ak (iL hz rfl (x:=rawInt T) rfl ?_);refine ak (u4 ?_);rw [show((T:Int).toNat)=T from rfl,hT];refine(?_:wpAny _ _ (field (.ref z) 1>>=_) _ _ _);refine ak (iL hz rfl (x:= .bool f1) rfl ?_);cases f1 with
  | true=>exact aQ ⟨s.heap,rfl,rfl,hz,λv m t e=>e⟩
  | false=>
   refine ak (td hz rfl (by simp) (aQ ⟨_,rfl,rfl,?_,λb o nb e=> ?_⟩))
   ·rw [jw _ hz rfl];rfl
   ·rw [m8 _ _ (f7 nb)];exact e
 ·refine C0 hh λh' q=>?_;subst q;intro u;subst u;intro g k;refine ak ?_;rw [<-Array.forIn_toList];refine ak (ak (cA ?_));refine ak (bF (h h' g k) (λx aI hx=>aQ (aQ ?_)) λv m x=>x);refine ak (ak (cA ?_));refine ak (bF hx (λy aT hy=>aQ (aQ (aQ ?_))) λv m x=>x);exact ak (bF hy (λr bt hr=>aQ hr) λv m x=>x)
end
section
variable {C:Cx} {k:Nat} {sc:Scope} {A:Around} {W:Wd} {env:Env} {ms ai aZ b6 aK:List (Option AV)} {Z ae aN bX aB:St} {s:Shared}
noncomputable def ng (X Y:List AV):List AV:=(X.zip Y).map λp=> .tup [p.1,p.2]
theorem Dj {X Y:List AV} {i:Nat} {x:AV} (h:(ng X Y)[i]? =some x): ∃a b,X[i]? =some a/\Y[i]? =some b/\x= .tup [a,b]:=by
 delta ng at h;rw [gq]at h;cases q:(X.zip Y)[i]? with
 | none=>rw [q]at h;exact dC h
 | some p=>rw [q]at h;cases h;refine bG (List.getElem?_zip_eq_some.mp q) λa b=>?_;exact jE _ _ a b rfl
theorem Dn:X[(ng X Y).length]? =none\/Y[(ng X Y).length]? =none:=by
 delta ng;rw [bu,List.length_zip];refine aP (Nat.le_total X.length Y.length) (λh=>?_) λh=>?_
 ·left;rw [Nat.min_eq_left h];exact List.getElem?_eq_none (bT _)
 ·right;rw [Nat.min_eq_right h];exact List.getElem?_eq_none (bT _)
noncomputable abbrev K9 (o:Obj) (l:Addr) (i:Nat):Prop:=o.cls= .type "list_iterator"/\o.data= .fields #[.ref l,.int i 0]
structure ZF (X Y:List AV) (W:Wd) (TI i1 i2 l1 l2:Addr):Prop where
 x:aw W (.lst X) (.ref l1)
 y:aw W (.lst Y) (.ref l2)
 t:W.fz TI=some (iD (.ref i1) (.ref i2))
 ne:i1≠i2
inductive ZB (W:Wd) (i it i1 i2 TI TO:Nat) (o1 o2:Obj) (st:List (Addr×Obj)):Prop
 | mk (h:0<i) (T:Addr) (f1:Bool) (oT:Obj) (q:W.fz T=some oT) (r:oT.cls= .type "tuple") (u:st= [(it,um (rawInt T) f1 TI TO),(i1,o1),(i2,o2)]):ZB W i it i1 i2 TI TO o1 o2 st
inductive ZS (X Y:List AV) (W:Wd) (i:Nat) (it:Addr) (st:List (Addr×Obj)):Prop
 | mk (TI TO i1 i2 l1 l2:Addr) (o1 o2:Obj) (zf:ZF X Y W TI i1 i2 l1 l2) (e1:it≠i1) (e2:it≠i2) (e3:K9 o1 l1 i) (e4:K9 o2 l2 i)
  (h:(i=0/\TO≠it/\TO≠i1/\TO≠i2/\st= [(it,um .none false TI TO),(i1,o1),(i2,o2),(TO,iD .none .none)])\/ZB W i it i1 i2 TI TO o1 o2 st):ZS X Y W i it st
noncomputable def NC (X Y:List AV):vZ:=λW i it _ st=>ZS X Y W i it st
theorem DX {α:Type} {P:α->Prop} {a b c:α} (ha:P a) (hb:P b) (hc:P c): ∀p∈ [a,b,c],P p:=vd ha (all2 hb hc)
theorem JV {α:Type} {P:α->Prop} {a b c d:α} (ha:P a) (hb:P b) (hc:P c) (hd:P d): ∀p∈ [a,b,c,d],P p:=vd ha (DX hb hc hd)
theorem K3 {l:List (Addr×Obj)}:Sub [(x,a'),(y,b'),(z,c')] ((x,a)::(y,b)::(z,c)::l):=
 DX ⟨_,.head _,rfl⟩ ⟨_,.tail _ (.head _),rfl⟩ ⟨_,.tail _ (.tail _ (.head _)),rfl⟩
theorem Gh (h:K9 o l i):Jk o/\o.cls≠ .type "frame":=⟨λn z=>by rw [h.1]at z;cases z;decide,by rw [h.1];decide⟩
theorem H6 (h:o.cls= .type "tuple"): ¬Jk o:=λj=>by have:=j _ h;revert this;decide
theorem K9.it {o:Obj} {l a:Addr} {i:Nat} {h:Heap} (x:K9 o l i) (g:h.get? a=some o):h.IsListIter a l i:=⟨o,g,x.1,x.2⟩
theorem ow {n i j:Nat} (h:i≠j):n+i≠n+j:=by omega
theorem jh (h:W.fz a=some o) (f:dR W b):a≠b:=λe=>by rw [e,f.1]at h;exact dC h
theorem aw.ER (q:aw W (.lst xs) (.ref a)): ∃o,W.fz a=some o:=by
 refine NJ q λa' o vs n e f _=>?_;clear q
 injection e with e
 subst e;exact⟨o,f⟩
theorem aw.listAt (q:aw W (.lst xs) (.ref a)) (I:Inv C W Z s): ∃vs,s.heap.IsList a (List.toArray vs)/\aU W xs vs:=by
 refine fu (q.isList I) λa' vs e h k=>?_
 injection e with e
 subst e;exact i12 vs h k
theorem Inv.H4 {X:Addr->Prop} (I:Inv C W Z s) (n: ∀a,X a->W.fz a=none/\ ∀l,W.ρ l≠some a) {h:Heap} (k: ∀b o,¬X b->s.heap.get? b=some o->h.get? b=some o):Inv C W Z {s with heap:=h}:=
 ⟨I.dom,I.inj,λl a o e q=>c12 (I.obj l a o e q) λob h1 h2=>⟨ob,k _ _ (λz=>(n _ z).2 _ e) h1,h2⟩,I.apart,λa o e=>c12 (I.fz a o e) λo' h1 u=>⟨o',k _ _ (λz=>by rw [(n _ z).1]at e;exact dC e) h1,u⟩,
  λa o e=>k _ _ (λz=>by have:=I.base a o e;rw [(n _ z).1]at this;exact dC this) (I.kept a o e),I.base,I.gens,I.os,I.pos,I.high⟩
theorem EF {X Y:List AV} {x:Str} {p:Pos} (hne:ng X Y≠ []) (h0:C.hx≠some 0):ItrN C k (λv=>True) (ng X Y) .none (NC X Y) (.Name x p) where
 mono:=λW W' i it rs st le hz=>by obtain⟨TI,TO,i1,i2,l1,l2,o1,o2,zf,e1,e2,e3,e4,h⟩:=hz;refine⟨TI,TO,i1,i2,l1,l2,o1,o2,⟨zf.x.mono le,zf.y.mono le,le.2 _ _ zf.t,zf.ne⟩,e1,e2,e3,e4,h.imp id λh=> ?_⟩;obtain⟨z,T,f1,oT,q,r,u⟩:=h;exact⟨z,T,f1,oT,le.2 _ _ q,r,u⟩
 less:=λW X' i it rs st hX hz=>by
  obtain⟨TI,TO,i1,i2,l1,l2,o1,o2,zf,e1,e2,e3,e4,h⟩:=hz;have out: ∀a o,W.fz a=some o->o.cls= .type "tuple"->(W.minus X').fz a=some o:=λa o z q=>by rw [Wd.bA λn=>H6 q (hX a o n z)];exact z
  refine⟨TI,TO,i1,i2,l1,l2,o1,o2,⟨zf.x.taken hX,zf.y.taken hX,out _ _ zf.t rfl,zf.ne⟩,e1,e2,e3,e4,h.imp id λh=> ?_⟩;obtain⟨z,T,f1,oT,q,r,u⟩:=h;exact⟨z,T,f1,oT,out _ _ q r,r,u⟩
 jk:=λW i it rs st hz p hp=>by
  obtain⟨TI,TO,i1,i2,l1,l2,o1,o2,zf,e1,e2,e3,e4,h⟩:=hz;refine aP h (λq9=>bG q9 λz _=>?_) λq8=>?_
  ·cases z
  ·rcases q8 with⟨_,T,f1,oT,_,_,rfl⟩
   exact DX (P:=λp=>Jk p.2/\p.2.cls≠ .type "frame") ⟨λn z=>by cases z;decide,show Value.type "zip"≠ .type "frame" by decide⟩ (Gh e3) (Gh e4) p hp
 self:=λW i rs st it A s E Q g hz q=>by
  obtain⟨TI,TO,i1,i2,l1,l2,o1,o2,zf,e1,e2,e3,e4,h⟩:=hz;have hT:s.TypeIs (.ref it) "zip":=by
   rcases h with⟨_,_,_,_,rfl⟩ | ⟨_,_,_,_,_,_,rfl⟩<;>exact i12 _ (g _ (.head _)) rfl
  refine wpAny_pyIter_slot hT F.slot_zip_iter (z0 F.slot_zip_iter hT F.entry_zip_iter ?_ (F.args_zip_iter_1 _));exact aQ ⟨_,rfl,"zip",_,hT,F.slot_zip_next.lookup,q⟩
 next:=λi x W Z rs st it A s outer hx v hr hA hS I g w hz=>by
  obtain⟨TI,TO,i1,i2,l1,l2,o1,o2,zf,e1,e2,e3,e4,h⟩:=hz;refine fu (Dj hx) λa b xa yb q4=>?_;subst q4;refine c12 (zf.x.listAt I) λva hla ka=>c12 (zf.y.listAt I) λvb hlb kb=>c12 (ka.get xa) λra ga qa=>c12 (kb.get yb) λrb gb qb=>?_;have hTI:=I.frozen zf.t (show Value.type "tuple"≠ .type "frame" by decide);refine cG zf.x.ER λox fx=>cG zf.y.ER λoy fy=>aP h (λj=>ud j λq0=>?_) λm=>?_
  ·subst q0;intro n1 n2 n3 q3;subst q3;refine bG (g _ (.head _)) λz1 z2=>bG (g _ (.tail _ (.head _))) λp1 p2=>bG (g _ (.tail _ (.tail _ (.head _)))) λq1 q2=>bG (g _ (.tail _ (.tail _ (.tail _ (.head _))))) λt1 t2=>wpAny_pyNext_zip_item (a:= .none) (b:= .none) ⟨jh zf.t z2,n1,f7 e1,f7 e2,jh zf.t t2,jh zf.t p2,jh zf.t q2,n2,n3,zf.ne,jh fx z2,jh fx t2,jh fx p2,jh fx q2,jh fy z2,jh fy t2,jh fy p2,jh fy q2⟩
    z1 hTI t1 (e3.it p1) (e4.it q1) hla hlb (by simpa using ga) (by simpa using gb) λh' a1 a2 a3 a4 a5 a6 a7=> ?_
   have I1:Inv C W Z {s with heap:=h'}:=I.H4 (X:=λc=>c=it\/c=TO\/c=i1\/c=i2) (λc hc=>by rcases hc with rfl | rfl | rfl | rfl<;>assumption) λc o hc z=>a7 c o (λq=>hc (.inl q)) (λq=>hc (.inr (.inl q))) (λq=>hc (.inr (.inr (.inl q)))) (λq=>hc (.inr (.inr (.inr q)))) z;refine bG I.cz λNg Nh=>bG (I1.fX (h:=h') (t:=s.toks) (d:=s.drawn) Ng Nh (λv w e=>e) a5) λle I2=>?_;refine fP a3 λo1' b1 b2 b3=>?_;clear a3;refine fP a4 λo2' c1 c2 c3=>?_;clear a4;have fr: ∀{a o},s.heap.get? a=some o->dR W a->dR (W.freeze s.heap.objs.size (iD ra rb)) a:=λ{a o} e f=>⟨by
    refine(?_:(if a=s.heap.objs.size then _ else W.fz a)=none);rw [az (Nat.ne_of_lt (il e))];exact f.1,f.2⟩
   have ft:(W.freeze s.heap.objs.size (iD ra rb)).fz s.heap.objs.size=some (iD ra rb):=by
    show(if _ then _ else _)=_;rw [aG rfl]
   refine⟨_,_,[(it,um (rawInt s.heap.objs.size) false TI TO),(i1,o1'),(i2,o2')],le,I2,rfl,⟨_,_,[ra,rb],0,rfl,ft,rfl,rfl,.cons (qa.mono le) (.cons (qb.mono le) .nil)⟩,DX ⟨a1,fr z1 z2⟩ ⟨b1,fr p1 p2⟩ ⟨c1,fr q1 q2⟩,K3,?_⟩
   ·exact⟨TI,TO,i1,i2,l1,l2,o1',o2',⟨zf.x.mono le,zf.y.mono le,le.2 _ _ zf.t,zf.ne⟩,e1,e2,⟨b2,b3⟩,⟨c2,c3⟩,.inr ⟨Nat.succ_pos _,_,false,_,ft,rfl,rfl⟩⟩
  ·rcases m with⟨hi,T,f1,oT,hT,cT,rfl⟩
   refine bG (g _ (.head _)) λz1 z2=>bG (g _ (.tail _ (.head _))) λp1 p2=>bG (g _ (.tail _ (.tail _ (.head _)))) λq1 q2=>?_;have hTy:s.TypeIs (.ref it) "zip":=⟨_,z1,rfl⟩;refine ak (wpAny_attempt (Fw (name:=Str.ofString "__next__") hTy F.slot_zip_next
    (z0 F.slot_zip_next hTy F.entry_zip_next (uW z1 hTI (I.frozen hT (by rw [cT];decide)) λiq GS k₁=> ?_) (F.args_zip_next_1 _))))
   have m4: ∀{h h':Heap} {l:Addr} {items:Array Value} {c:Addr},h.IsList l items->(∀b o,b≠c->h.get? b=some o->h'.get? b=some o)->l≠c->h'.IsList l items:=λq6 k n=>(by refine c12 q6 λo e r=>?_;clear q6;exact⟨o,k _ _ n e,r⟩);refine wpAny_nextOf_list_item (e3.it (k₁ _ _ (f7 e1) p1)) (m4 hla k₁ (jh fx z2)) (by simpa using ga) λjC D7 D8=> ?_;have k₂: ∀b o,b≠i1->iq.get? b=some o->jC.get? b=some o:=λb o n e=>(D8.2 b n).trans e;refine wpAny_nextOf_list_item (e4.it (k₂ _ _ (f7 zf.ne) (k₁ _ _ (f7 e2) q1))) (m4 (m4 hlb k₁ (jh fy z2)) k₂ (jh fy p2)) (by simpa using gb) λmL GU LW=> ?_;have D9: ∀b o,b≠i2->jC.get? b=some o->mL.get? b=some o:=λb o n e=>(LW.2 b n).trans e;refine nU ?_ (by refine(?_:(2:Nat)<=sizeLine);decide);have I1:Inv C W Z {s with heap:=mL}:=I.H4 (X:=λc=>c=it\/c=i1\/c=i2) (λc hc=>by rcases hc with rfl | rfl | rfl<;>assumption) λc o hc z=>D9 c o (λq=>hc (.inr (.inr q))) (k₂ c o (λq=>hc (.inr (.inl q))) (k₁ c o (λq=>hc (.inl q)) z));refine bG I1.cz λNg Nh=>?_;have a5:(mL.push (iD ra rb)).get? mL.objs.size=some (iD ra rb):=dZ _ rfl;refine bG (I1.fX (h:=mL.push (iD ra rb)) (t:=s.toks) (d:=s.drawn) Ng Nh (a9 _ _) a5) λle I2=>?_;have fr: ∀{a o},mL.get? a=some o->dR W a->dR (W.freeze mL.objs.size (iD ra rb)) a:=λ{a o} e f=>⟨by
    refine(?_:(if a=mL.objs.size then _ else W.fz a)=none);rw [az (Nat.ne_of_lt (il e))];exact f.1,f.2⟩
   have ft:(W.freeze mL.objs.size (iD ra rb)).fz mL.objs.size=some (iD ra rb):=by
    show(if _ then _ else _)=_;rw [aG rfl]
   have z3:=D9 _ _ e2 (k₂ _ _ e1 GS);refine fP D7 λo1' b1 b2 b3=>?_;clear D7;refine fP GU λo2' c1 c2 c3=>?_;clear GU;have NY:=D9 _ _ zf.ne b1;refine i12 _ rfl (aQ ⟨_,_,[(it,um (rawInt T) true TI TO),(i1,o1'),(i2,o2')],le,I2,rfl,⟨_,_,[ra,rb],0,rfl,ft,rfl,rfl,.cons (qa.mono le) (.cons (qb.mono le) .nil)⟩,DX ⟨a9 _ _ _ _ z3,fr z3 z2⟩ ⟨a9 _ _ _ _ NY,fr NY p2⟩ ⟨a9 _ _ _ _ c1,fr c1 q2⟩,K3,?_⟩)
   ·exact⟨TI,TO,i1,i2,l1,l2,o1',o2',⟨zf.x.mono le,zf.y.mono le,le.2 _ _ zf.t,zf.ne⟩,e1,e2,⟨b2,b3⟩,⟨c2,c3⟩,.inr ⟨Nat.succ_pos _,T,true,oT,le.2 _ _ hT,cT,rfl⟩⟩
 stop:=λW Z rs st it A s outer v hr hA hS I g w hz=>by
  obtain⟨TI,TO,i1,i2,l1,l2,o1,o2,zf,e1,e2,e3,e4,h⟩:=hz;rcases h with⟨z,_⟩ | ⟨hi,T,f1,oT,hT,cT,rfl⟩
  ·exact absurd (List.eq_nil_of_length_eq_zero z) hne
  refine c12 (zf.x.listAt I) λva hla ka=>c12 (zf.y.listAt I) λvb hlb kb=>?_;have hTI:=I.frozen zf.t (show Value.type "tuple"≠ .type "frame" by decide);refine cG zf.x.ER λox fx=>cG zf.y.ER λoy fy=>bG (g _ (.head _)) λz1 z2=>bG (g _ (.tail _ (.head _))) λp1 p2=>bG (g _ (.tail _ (.tail _ (.head _)))) λq1 q2=>?_;have hTy:s.TypeIs (.ref it) "zip":=⟨_,z1,rfl⟩;have m4: ∀{h h':Heap} {l:Addr} {items:Array Value} {c:Addr},h.IsList l items->(∀b o,b≠c->h.get? b=some o->h'.get? b=some o)->l≠c->h'.IsList l items:=λq5 k n=>(by refine c12 q5 λo e r=>?_;clear q5;exact⟨o,k _ _ n e,r⟩);have Ga: ∀{h h':Heap} {c:Addr},Inv C W Z {s with heap:=h}->dR W c->(∀b o,b≠c->h.get? b=some o->h'.get? b=some o)->Inv C W Z {s with heap:=h'}:=λJ f k=>J.H4 (X:=(· =_)) (λa q=>q▸f) k;refine mJ hTy F.slot_zip_next F.entry_zip_next (F.args_zip_next_1 _) (uW z1 hTI (I.frozen hT (by rw [cT];decide)) λiq GS k₁=> ?_);have I1:=Ga I z2 k₁;refine bG (hr.hd h0 I1) λd1 n1=>?_;cases hx:X[(ng X Y).length]? with
  | none=>refine mR (A:=A.in1) d1 (e3.it (k₁ _ _ (f7 e1) p1)) (m4 hla k₁ (jh fx z2)) (by rw [List.getElem?_toArray,o9,ka.length];exact o9.mp hx) (λe o vs a b c d q=>n1 e o vs a b c d (q▸p2.1)) λjC a k₂ ⟨oa,ga,ca⟩=> ?_;exact⟨a,oa,rfl,ga,ca,W,.refl W,Ga I1 p2 k₂,rfl⟩
  | some xa=>
   have hy:Y[(ng X Y).length]? =none:=by
    refine aP (Dn (X:=X) (Y:=Y)) (λh=>?_) λh=>?_
    ·rw [hx]at h;exact rZ h
    ·exact h
   refine c12 (ka.get hx) λra ga qa=>wpAny_nextOf_list_item (e3.it (k₁ _ _ (f7 e1) p1)) (m4 hla k₁ (jh fx z2)) (by simpa using ga) λjC D7 D8=> ?_;have k₂: ∀b o,b≠i1->iq.get? b=some o->jC.get? b=some o:=λb o n e=>(D8.2 b n).trans e;have I2:=Ga I1 p2 k₂;refine bG (hr.hd h0 I2) λd2 n2=>?_;refine mR (A:=A.in1) d2 (e4.it (k₂ _ _ (f7 zf.ne) (k₁ _ _ (f7 e2) q1))) (m4 (m4 hlb k₁ (jh fy z2)) k₂ (jh fy p2)) (by rw [List.getElem?_toArray,o9,kb.length];exact o9.mp hy) (λe o vs a b c d q=>n2 e o vs a b c d (q▸q2.1)) λmL a D9 ⟨oa,gb,ca⟩=> ?_;exact⟨a,oa,rfl,gb,ca,W,.refl W,Ga I2 q2 D9,rfl⟩
 hV:=λi W Z rs rx st it A s I g h=>aQ ⟨st,I,g,λp hp=>⟨p,hp,rfl⟩,h,λv w u1 e=>e⟩
theorem xF {fn a b:Expr} {x:Str} {pos:Pos} {np:Pos} {X Y:List AV} (h1:Ev C k sc ms Z (.Name x np) (.ty "zip") ai ae) (h2:Es C k sc ai ae pos [a,b] [.lst X,.lst Y] aK aB)
  (hs: ∀env,(backTo pos (starEach [a,b] env)).any (·.1)=false) (he: ∀env,eval (.Call (.Name x np) [a,b] [] pos) env=(do callWith pos (<-eval (.Name x np) env) [] (backTo pos (starEach [a,b] env)) (backToKw pos (keywordEach [] env))))
  (hf: ∀env x',foldedSetIterable (.Call (.Name x np) [a,b] [] pos) env x'=pure x'):pv C k sc ms Z (.Call (.Name x np) [a,b] [] pos) aK aB .none (NC X Y):=by
 intro β A W env s p rest Q hr H g;rw [he];refine ak (cR (h1 A W env s hr H) λaR rf aI aA aO p9=> ?_);subst p9;refine cK (dA (qQ (hs env)) (bf (h2 A aR env aI hr aO) λbh df aT ax aF qa=>⟨cL _ _ _ _ aF.inv rfl,?_⟩));refine gD (fF qa) λra rb va vb=>?_;refine L8 (id va) λl1 o1 _ _ u=>?_;subst u;intro v;refine L8 (id vb) λl2 o2 _ _ q=>?_;subst q;intro v;refine c12 (va.listAt aF.inv) λPA hla ka=>c12 (vb.listAt aF.inv) λPB hlb kb=>call_zip_2 hla hlb λh' hz hTI hTO hi1 hi2 hsz hk=> ?_;have new: ∀j,aT.heap.get? (aT.heap.objs.size+j)=none:=λj=>by rw [Heap.get?,Array.getElem?_eq_none (gO _ _)]
 have fr: ∀j,md C bh env (aT.heap.objs.size+j):=λj=>md.of_none aF (new j);have br:At C sc A bh env aK aB {aT with heap:=h'}:=aF.stir (X:=λv=>False) (λv x=>x.elim) (λb o v z=>⟨o,hk b o z,.refl o⟩) (λb o z=>hk b o (aF.inv.kept b o z)) (bT _);refine bG (br.freeze hTI (fr 2).1.1 (fr 2).1.2 (fr 2).2.1) λAG gv=>?_;have fz: ∀j,j≠2->dR (bh.freeze (aT.heap.objs.size+2) (iD (.ref aT.heap.objs.size) (.ref (aT.heap.objs.size+1)))) (aT.heap.objs.size+j):=λj hj=>⟨by
  refine(?_:(if aT.heap.objs.size+j=aT.heap.objs.size+2 then _ else _)=none);rw [az (ow hj)];exact(fr j).1.1,(fr j).1.2⟩
 refine fP hi1 λoa a1 a2 a3=>?_;clear hi1;refine fP hi2 λob b1 b2 b3=>?_;clear hi2;refine ak (cF (ak (eL (hf _ _) (ak (cA (wpAny_pyIter_zip hz ?_))))));refine g _ _ _ (aA.trans (ax.trans AG)) gv ⟨[(aT.heap.objs.size+4,um .none false (aT.heap.objs.size+2) (aT.heap.objs.size+3)),(aT.heap.objs.size,oa),(aT.heap.objs.size+1,ob),(aT.heap.objs.size+3,iD .none .none)],.none,JV ⟨hz,fz 4 (by decide)⟩ ⟨a1,fz 0 (by decide)⟩ ⟨b1,fz 1 (by decide)⟩ ⟨hTO,fz 3 (by decide)⟩,JV ⟨(fr 4).2.1,(fr 4).2.2⟩ ⟨(fr 0).2.1,(fr 0).2.2⟩ ⟨(fr 1).2.1,(fr 1).2.2⟩ ⟨(fr 3).2.1,(fr 3).2.2⟩,c6,?_⟩
 ·refine⟨aT.heap.objs.size+2,aT.heap.objs.size+3,aT.heap.objs.size,aT.heap.objs.size+1,l1,l2,oa,ob,⟨va.mono AG,vb.mono AG,?_,ow (i:=0) (by decide)⟩,ow (j:=0) (by decide),ow (by decide),⟨a2,a3⟩,⟨b2,b3⟩,.inl ⟨rfl,ow (by decide),ow (j:=0) (by decide),ow (by decide),rfl⟩⟩;show(if _ then _ else _)=_;rw [aG rfl]
theorem jV:typeLookup (.type "list") (dunderI "add")=pure (some (.builtin "list.__iadd__")):=by rw [uD,tY];kernel_rfl
theorem Dl (h:Z l=some (.list xs)) (hv:IsL Z v ys) (hz:xs.length+ys.length<=1000000) (hne:v≠ .loc l):di C k Z (inplaceOp .Add) (.loc l) v (λW r=>aw W (.loc l) r) (Z.set l (.list (xs++ys))):=by
 intro W ra rb qa qb A s outer hr hA hS I;refine lU ((IsL.loc h).is qa I) λla vs n z=>?_;subst z;intro hl ks;refine lU (hv.is qb I) λlb us m q=>?_;subst q;intro hl' ks';have h1:s.TypeIs (.ref la) "list":=⟨_,hl,rfl⟩;have h2:s.TypeIs (.ref lb) "list":=⟨_,hl',rfl⟩;refine cA ?_;have hfi:fillsInplaceSlot (.type "list") "add" (Operator.Add== .Add)=pure false:=by refine(?_:(typeLookup (.type "list") (dunderI "add")>>=λfi=>pure (fi.isSome && !isSeqSlot fi))=pure false);rw [jV];refine(?_:(pure _:Sem Bool)=pure false);exact dM pure (by decide+kernel)
 have hsi:seqSlot? (.type "list") (dunderI "add")=pure (some (.builtin "list.__iadd__")):=PySem.seqSlot_of jV (by decide+kernel);refine ak (wpAny_typeOf h1 (ak (eL hfi ?_)));refine(?_:wpAny _ A (if false=true then _ else _) _ _ s);rw [az dN];refine ak (wpAny_binaryOp1_none (nm:="add") h1 h2 noFill_list_add ?_);refine ak (eL hsi (ak (rG ?_)));have zl:vs.length+us.length<=1000000:=by rw [ks.length,ks'.length];exact hz
 have sz:1000000<=sizeLine:=by decide
 refine(pV F.slot_list_iadd h1 F.entry_list_iadd (F.args_list_iadd_2 _ _) (AutoSeq1.list___iadd___list_list_0 la _ n lb _ m (by simp [Builtin.List.listTooLong];intro u;omega) (by simp;omega) (by simp;omega)) ⟨hl,hl',?_⟩);refine c12 qa λa e ea=>?_;clear qa
 injection ea with ea
 subst ea;refine cG (mq (λx=>x++us.toArray) (List.toArray vs) n) λn' en=>⟨W,.refl W,I.upd (t:=s.toks) (d:=s.drawn) e (ew _ _ _) (jw _ hl rfl) ⟨rfl,vs++us,n',?_,ks.append ks'⟩,?_⟩
 ·rw [en];simp
 ·exact i12 _ e rfl
theorem CK (h:IsL Z v xs):Mt C k Z v "count" (.bi "list.count"):=by intro W ro pl q;refine Op.look λA s Q hr I hq=> ?_;refine lU (h.is q I) λla vs n z=>?_;subst z;intro hl ks;exact tm ⟨_,hl,rfl⟩ F.plainAttrs_list F.slot_list_count F.type_list_count (λa e=>by cases e;exact i12 _ hl rfl) (hq _ _ ⟨rfl,rfl⟩)
theorem countIn_strs (x:Str): ∀ns:List Str,Spec.countIn (.str x) (ns.map PyData.str)=(ns.countP (· ==x):Nat):=by
 intro aH;induction aH with
 | nil=>exact rfl
 | cons y r ih=>
  refine(?_:(if Spec.same (.str y) (.str x)then(1:Int)else 0)+Spec.countIn (.str x) (r.map PyData.str)=_);rw [ih,zD];have e:Spec.same (.str y) (.str x)=(y==x):=by first | rfl | (unfold Spec.same;rfl)
  rw [e];cases (y==x)<;>simp<;>omega
theorem wx {v:AV} {ns:List Str} {x:Str} {c:Int} (h:IsL Z v (ns.map .str)) (hc:(ns.countP (· ==x):Nat)=c):Ca C k Z (.bi "list.count") [v,.str x] [] (.int c) Z:=by refine oV λW rv rx qa qb=>e9 qb λt=>Op.look λA s Q hr I hq=>gD (h.list qa I) λla vs hl ks=>count_list_strs hl (xw ks) (hq _ _ ?_);rw [countIn_strs,hc];exact b9
theorem vT (h:Rd C Z v (.list ds)) (hx:Rd C Z x d) (hds:PyData.canLayAll0 ds=true) (hd:d.canLay0=true) (hz:d.depth<=8) (hc:(!(ds.any λy=>PyData.eqv y d))=c):di C k Z (compareOp .NotIn) x v (λW r=>aw W (.bool c) r) Z:=by intro W ra rb qa qb;refine Op.look λA s Q hr I hq=>cG (h W s rb I qb) λa1 h1=>cG (hx W s ra I qa) λa2 h2=>?_;exact SeqAt.notIn_list_reads h1 h2 hds hd (by have:=hr.2.1;have:=Nat.min_le_right (PyData.depthAll ds) d.depth;omega) (hq _ s.toks (by rw [hc];exact bO))
theorem qI (h:i.natAbs.log2<1920):Ca C k Z (.ty "str") [.int i] [] (.str (Str.ofString (toString i))) Z:=by intro W rf df fq hf ha hk;subst hf;subst hk;refine c12 (dw ha) λr u=>?_;subst u;intro q;refine cG q λt z=>?_;subst z;exact Op.look λA s Q hr I hq=>P.str_of_int h (hq _ _ bN)
theorem v_not (h:ib C k Z truthy v (λu r=>r=c) aB) (hd:(!c)=d):ib C k Z (unaryOp .Not) v (λW r=>aw W (.bool d) r) aB:=by intro W ra qa A s outer hr hA hS I;refine not_of (bF (h W ra qa A s outer hr hA hS I) (λr s' ⟨W',le,I',e⟩=>⟨W',le,I',?_⟩) λu w z=>z);rw [e,hd];exact bO
theorem mB (h1:Ev C k sc ms Z e u ai ae) (h2:ib C k ae truthy u (λw r=>r=true) aN) (h3:Bv C k sc ai aN pos .And (e2::rest) v aK aB):Bv C k sc ms Z pos .And (e::e2::rest) v aK aB:=by
 intro A W env s hr H;refine(?_:wpAny C.M A (do
  let v<-eval e env
  standAt pos
  let t<-holding [v] (truthy v)
  match BoolOp.And,t with
  | .And,false | .Or,true=>pure v
  | _,_=>boolOp pos .And (evalEach (e2::rest) env)) _ _ _)
 refine cR (h1 A W env s hr H) λaR r aI aA aO q=>ak (cF (ak (cA ?_)));refine Op.in rfl (h2 _ r (q.mono (a8 aO.fr))) hr aO λbh b aT ax aF qb w g=> ?_;subst qb;exact bf (h3 A _ env aT hr aF) λbS r bt bg br q=>bw ((aA.trans ax).trans bg) br q
theorem Inv.xP (I:Inv C W Z s) (ks:aU W xs vs) (ht:s.toks<=tk):Ek C W Z (λW r=>aw W (.tup xs) r) (.ref s.heap.objs.size) {s with heap:=s.heap.push {cls:= .type "tuple",data:= .seq (List.toArray vs)},toks:=tk}:=by refine bG I.cz λn1 n2=>bG (I.fX (t:=tk) (d:=s.drawn) n1 n2 (a9 _ _) (dZ s.heap (o:={cls:= .type "tuple",data:= .seq (List.toArray vs)}) rfl) ht) λle I'=>?_;exact⟨_,le,I',_,_,vs,0,rfl,by show(if _ then _ else _)=_;rw [aG rfl],rfl,rfl,ks.mono le⟩
theorem G6 (hy:(y.length==0)=false) (hx:B x n) (hn:decide (n<=16777216)=true) (hp:Txt.partition x y=p):Ca C k Z (.bi "str.partition") [.str x,.str y] [] (.tup [.str p.1,.str p.2.1,.str p.2.2]) Z:=by
 refine oV λW rx ry qa qb A s outer hr hA hS I=>e9 qa λt=>e9 qb λu=>pV F.slot_str_partition (pF _ _ _) F.entry_str_partition (F.args_str_partition_2 _ _) (meets_str_partition x y t u hy (kK hx hn)) ?_;subst hp;delta Txt.partition;cases occurrences x y 0 x.length 1 with
 | nil=>exact I.xP (.cons bN (.cons bN (.cons bN .nil))) (ju _)
 | cons i r=>exact I.xP (.cons bN (.cons bN (.cons bN .nil))) (bU (ju _) (ju _))
end
end V
end
section
namespace V
open Builtin Builtin.Str Builtin._codecs
noncomputable abbrev lat:PySem.Str:=PySem.Str.ofString "iso-8859-1"
theorem CD (id:String) (self:Value) (x:PySem.Str):encodeRoad id self x lat none=(encodeNarrow id latin1Codec none self x>>=λb=>mkBytes b):=by kernel_rfl
theorem CQ (x:PySem.Str) (t u:Tok): «str.encode» ⟨[.str x t,.str lat u],[]⟩=(encodeRoad "str.encode" (.str x t) x lat none>>=λv=>ret v):=by kernel_rfl
theorem Bo {id:String} {b:Array UInt8}:decodeRoad id b lat none []=(runDecoder id latin1Decoder none true b 0 []>>=λr=>mkStr ⟨r.1⟩):=by kernel_rfl
theorem C1: «bytes.decode» ⟨[.bytes (c::cs).toArray t,.str lat u],[]⟩=(mkStr (PySem.Str.ofString "utf-8")>>=λw=>mkStr lat>>=λe=>mkStr (PySem.Str.ofString "bytes.decode")>>=λd=>
  call (.builtin "_codecs.decode.text") [.bytes (c::cs).toArray t,e,.none,d]>>=λv=>ret v):=by kernel_rfl
noncomputable def jN (x:PySem.Str):Array UInt8:=x.cps.map (·.toUInt8)
theorem EG (h:c<256):latin1Codec.bad c=false:=by
 show decide _=false
 simp;omega
noncomputable abbrev LS:=Nat×Array UInt8×Faults
theorem zm {x:PySem.Str} {r:Array UInt8} {f:Nat->LS->Sem (ForInStep LS)} {K:LS->Sem (Array UInt8)} {g:Nat->Array UInt8->Faults->Sem (ForInStep LS)}
  (hz:x.length<=sizeLine) (hr:r.size=x.length) (hf: ∀u i o w,¬o.size>sizeLine->f u (i,o,w)=g i o w) (h0: ∀w c,x.cps[0]? =some c->g 0 #[] w=pure (.yield (x.cps.size,r,w))) (h1: ∀w,x.cps[x.cps.size]? =none->g x.cps.size r w=pure (.done (x.cps.size,r,w))) (hk: ∀i w,K (i,r,w)=pure r):
  (forIn [:x.length] (0,#[],{}) f>>=K)=pure r:=by
 rw [KPc.range_list];have f1: ∀u w,f u (x.cps.size,r,w)=pure (.done (x.cps.size,r,w)):=λu w=>(hf u _ _ _ (by rw [hr];omega)).trans (h1 w (Array.getElem?_eq_none (bT _)));obtain⟨n,hn⟩: ∃n,n=x.length:=⟨_,rfl⟩;have hs:x.cps.size=n:=hn.symm;rw [<-hn];cases n with
 | zero=>have er:r= #[]:=Array.eq_empty_of_size_eq_zero (hr.trans hn.symm);rw [er]at hk⊢;exact hk 0 {}
 | succ n=>
  have f0:=(hf 0 0 #[] {} (by rw [jr];decide)).trans (h0 {} _ (Array.getElem?_eq_getElem (by rw [hs];exact Nat.succ_pos _)));rw [List.range'_succ,nc,f0];refine(?_:(forIn (List.range' (0+1) n) (x.cps.size,r,{}) f>>=K)=pure r);cases n with
  | zero=>exact hk _ _
  | succ n=>rw [List.range'_succ,nc,f1];exact hk _ _
theorem Ab {S:Type} {f:Nat->S->Sem (ForInStep S)} (inv:Nat->S) (h: ∀p,p<N-> ∀u,f u (inv p)=pure (.yield (inv (p+1)))): ∀(k p a:Nat),p+k=N->forIn (List.range' a k) (inv p) f=pure (inv N):=by
 intro aH;induction aH with
 | zero=>
  intro p a e;exact by rw [show p=N by omega];rfl
 | succ k ih=>intro p a e;rw [List.range'_succ,nc,h p (by omega)];exact ih (p+1) (a+1) (by omega)
theorem F1 {id:String} {x:PySem.Str} (hz:x.length<=sizeLine) (h: ∀c∈x.cps.toList,c<256):encodeNarrow id latin1Codec none self x=pure (jN x):=by
 have hb: ∀c∈x.cps.toList,latin1Codec.bad c=false:=λc hc=>EG (h c hc);have ff:Array.findIdx? latin1Codec.bad x.cps=none:=by rw [Array.findIdx?_eq_none_iff];intro c hc;exact hb c (by simpa using hc)
 have fold:Array.foldl (λacc y=>acc++(latin1Codec.bytesOf y).toArray) #[] x.cps=jN x:=by
  rw [<-Array.foldl_toList];delta jN;have: ∀(l:List Nat) (a:Array UInt8),l.foldl (λacc y=>acc++(latin1Codec.bytesOf y).toArray) a=a++(l.map (·.toUInt8)).toArray:=by
   intro l
   induction l with
   | nil=>intro a;simp
   | cons c l ih=>intro a;rw [cX,ih];refine(?_:a++ [c.toUInt8].toArray++_=_);simp
  rw [this];apply Array.ext';simp
 have e0:x.cps.extract 0=x.cps:=by simp
 have e1:x.cps.extract 0 x.cps.size=x.cps:=by simp
 refine zm hz (by delta jN;rw [Array.size_map];rfl) (λu i o w h=>az h) ?_ ?_ (λi w=>rfl)
 ·intro w c hn;rw [hn];have fin: ∀(a:Nat) (b:Array UInt8),a=x.cps.size->b=jN x->(pure (.yield (a,b,w)):Sem (ForInStep LS))=pure (.yield (x.cps.size,jN x,w)):=λa b e1 e2=>by rw [e1,e2]
  refine(aG (by rw [hb c (ip (by simpa using hn))];rfl)).trans (fin _ _ ?_ ?_)
  ·rw [e0,ff];exact pd _
  ·rw [e0,ff];refine(?_:Array.foldl _ #[] (x.cps.extract 0 x.cps.size)=_);rw [e1,fold]
 ·intro w e;rw [e]
theorem FA {id:String} {b:Array UInt8} (hz:b.size<=sizeLine):runDecoder id latin1Decoder none true b 0 []=pure (b.map (·.toNat),b.size):=by
 unfold runDecoder;simp only [Std.Legacy.Range.forIn_eq_forIn_range',Std.Legacy.Range.size];have key:=λf h=>Ab (S:=Nat×Array Nat×Faults) (N:=b.size) (f:=f) (λp=>(p,(b.extract 0 p).map (·.toNat),{held:= []})) h b.size 0 0 (pd _);have e:(b.size - 0+1 - 1) / 1=b.size:=by omega
 rw [e];have e0:((0,#[],{held:= []}):Nat×Array Nat×Faults)=(0,(b.extract 0 0).map (·.toNat),{held:= []}):=by simp
 rw [e0,key]
 ·refine(?_:(pure _:Sem _)=pure _);simp
 ·intro p hp u;dsimp only;have sz:((b.extract 0 p).map (·.toNat)).size<=sizeLine:=by rw [Array.size_map,Array.size_extract];omega
  rw [az (by omega),az (by omega)];refine(?_:(pure (ForInStep.yield (p+1,(b.extract 0 p).map (·.toNat)++ [(b.getD p 0).toNat].toArray,_)):Sem _)=_);have e1:((b.extract 0 p).map (·.toNat)++ [(b.getD p 0).toNat].toArray)=(b.extract 0 (p+1)).map (·.toNat):=by apply Array.ext';simp [Array.getD,hp,C6]
  rw [e1]
structure L7 (x:PySem.Str):Prop where
 lt: ∀c∈x.cps.toList,c<256
 ne:x.cps.toList≠ []
theorem zh (h: ∀c∈x.cps.toList,c<256):(jN x).map (·.toNat)=x.cps:=by
 apply Array.ext';delta jN;simp only [Array.toList_map,dP]
 conv=>rhs;rw [<-List.map_id x.cps.toList]
 refine p5 λc hc=>(?_:(c.toUInt8).toNat=c);have:=h c hc;simp;omega
section
variable {C:Cx} {k:Nat} {sc:Scope} {A:Around} {W:Wd} {env:Env} {ms ai aZ b6 aK:List (Option AV)} {Z ae aN bX aB:St} {s:Shared}
theorem DJ:Mt C k Z (.str x) "encode" (.bi "str.encode"):=iG λA s t pl Q h=>tm (pF _ _ _) F.plainAttrs_str F.slot_str_encode F.type_str_encode (λa e=>nomatch e) h
theorem DT:Mt C k Z (.bytes b) "decode" (.bi "bytes.decode"):=by intro W ro pl q;refine e9 q λt=>Op.look λA s Q hr I hq=>PySem.W.KBd.method (hq _ s.toks ⟨rfl,rfl⟩)
theorem z7 (hz:x.length<=sizeLine) (h: ∀c∈x.cps.toList,c<256):Meets («str.encode» ⟨[.str x t,.str lat u],[]⟩) (λv R s=> ∀t' k,R (.ok (.ret (.bytes (jN x) t'))) {s with toks:=k}):=by refine .of_wp λprog w A R s hq=> ?_;rw [CQ,CD,F1 hz h];exact ak (ak (aQ (wpAny_mkBytes (aQ ⟨_,rfl,hq _ _⟩) (by delta jN;rw [Array.size_map];exact hz))))
theorem ub (hz:b.size<=sizeLine):
  Meets («_codecs.decode.text» ⟨[.bytes b t,.str lat t1,.none,.str d t2],[]⟩) (λu R s=> ∀t' k,R (.ok (.ret (.str ⟨b.map (·.toNat)⟩ t'))) {s with toks:=k}):=by
 refine .of_wp λprog w A R s h=>(?_:wpAny _ _ (Bytes.bytesLike _ (.bytes b t)>>=λr=>_) _ _ s);refine ak (eL PySem.W.KBd.like_eq ?_);refine ak (eL PySem.W.KBd.held_eq ?_);refine(?_:wpAny _ _ (_codecs.decodeRoad _ b lat none []>>=λv=>_) _ _ s);rw [Bo,FA hz];refine ak (ak (aQ ?_));exact wpAny_mkStr (aQ ⟨_,rfl,h _ _⟩) (by refine(?_:(b.map (·.toNat)).size<=sizeLine);rw [Array.size_map];exact hz)
theorem Aj (hz:(c::cs).toArray.size<=sizeLine):Meets («bytes.decode» ⟨[.bytes (c::cs).toArray t,.str lat u],[]⟩) (λv R s=> ∀t' k,R (.ok (.ret (.str ⟨(c::cs).toArray.map (·.toNat)⟩ t'))) {s with toks:=k}):=by refine .of_wp λprog w A R s h=> ?_;rw [C1];refine ak (wpAny_mkStr ?_ (by decide));refine ak (wpAny_mkStr ?_ (by decide));refine ak (wpAny_mkStr ?_ (by decide));exact ak (call_function_meets PySem.W.KBd.kind_text PySem.W.KBd.plain_text PySem.W.KBd.entry_text (PySem.W.KBd.args_text _ _ _ _) (ub hz) λt' k=>aQ ⟨_,rfl,h _ _⟩)
theorem yV (a b:Value):argsOk "bytes.decode" ⟨[a,b],[]⟩:=by delta argsOk;kernel_rfl
theorem DZ (hx:B x n) (hn:decide (n<=16777216)=true) (h: ∀c∈x.cps.toList,c<256):Ca C k Z (.bi "str.encode") [.str x,.str lat] [] (.bytes (jN x)) Z:=
 rj λA s Q t u hr hq=>pV F.slot_str_encode (pF _ _ _) F.entry_str_encode (F.args_str_encode_2 _ _) (z7 (kK hx hn) h) λt' k=>hq _ _ λW=>oJ
theorem CH (hx:B x n) (hn:decide (n<=16777216)=true) (h:L7 x):Ca C k Z (.bi "bytes.decode") [.bytes (jN x),.str lat] [] (.str x) Z:=by
 refine oV λW rx ry qa qb=>e9 qa λt=>e9 qb λu=>Op.look λA s Q hr I hq=> ?_;have hz:(jN x).size<=sizeLine:=by delta jN;rw [Array.size_map];exact kK hx hn
 have e:=zh h.lt;obtain⟨l,hb⟩: ∃l:List UInt8,jN x=l.toArray:=⟨(jN x).toList,by simp⟩;rw [hb];cases l with
 | nil=>
  have:x.cps= #[]:=by rw [<-e,hb];simp
  exact absurd (by rw [this]) h.ne
 | cons c cs=>rw [hb]at e hz;refine pV FB.slot_bytes_decode (typeIs_bytes _ _ _) FB.entry_bytes_decode (yV _ _) (Aj hz) λt' k=>hq _ _ ?_;rw [e];exact bN
end
end V
end
section
namespace V
open Builtin Builtin.Str
section
variable {C:Cx} {k:Nat} {sc:Scope} {A:Around} {W:Wd} {env:Env} {ms ai aZ b6 aK:List (Option AV)} {Z ae aN bX aB:St} {s:Shared}
theorem zZ (O:C.Ok) (hl:Z l=some (.inst c d)) (hd:Z d=some (.dict es)) (hs:findIn C.K (.ref c) "__str__"=some (some (.ref f))) (hf:typeIn C.K (.ref f)=some (.type "function"))
  (h:Ca C k Z (.ext f) [.loc l] [] (.str x) aB):Ca C (k+2) Z (.ty "str") [.loc l] [] (.str x) aB:=by
 intro W rf df fq qf qa qk A s outer hr hA hS I;subst qf;subst qk;refine c12 (dw qa) λro m=>?_;subst m;intro qo;refine wj (I.inst hl hd qo) λy dx xs n v=>?_;subst v;intro hdx IA u w;refine bG w λhlen hvs=>?_;have X:=e8 O I;refine callType_newIn (S:=λA R s=>wpAny C.M A.in1 (Builtin.Str.strOf (.ref y)) (λr s'=>R (.ok (.ret r)) s') (λe s'=>R (.error e) s') s) F.called_str (by decide) (F.typeCall_str_1 _) (F.newCall_str_1 _) (λobj=>F.args_object_init_2 obj _) F.entry_str_new
  (MeetsIn.of_wp λA R s h=> ?_) ?_
 ·rw [str_new_tree];refine ak (aQ ?_);refine ak (eL isSubtype_str_str ?_);exact ak (bF h (λr s' h'=>aQ ⟨_,rfl,h'⟩) λu g e=>e)
 ·delta Builtin.Str.strOf;rw [az (show¬isExactStr (Value.ref y)=true from dN)];have hr2:bY C A.in1.in1 k:=(bY.in1 (k:=k+1) hr).in1;refine ak (wpAny_cRoomFor hr2.units (ak (special_fn X IA hs hf ?_)));refine bF (h W (.ref f) [.ref y] [] (rfl) (.cons qo .nil) .nil A.in1.in1 s outer hr2 hA hS I) (λr s' ⟨W',le,I',q⟩=> ?_) λu g z=>z.elim;refine e9 q λt=>aQ ⟨pF _ _ _,W',le,I',bN⟩
theorem u6 (O:C.Ok) (hl:Z l=some (.inst c d)) (hd:Z d=some (.dict es)) (hs:findIn C.K (.ref c) "__bytes__"=some (some (.ref f))) (hf:typeIn C.K (.ref f)=some (.type "function"))
  (h:Ca C k Z (.ext f) [.loc l] [] (.bytes b) aB):Ca C (k+2) Z (.ty "bytes") [.loc l] [] (.bytes b) aB:=by
 intro W rf df fq qf qa qk A s outer hr hA hS I;subst qf;subst qk;refine c12 (dw qa) λro p=>?_;subst p;intro qo;refine wj (I.inst hl hd qo) λy dx xs n w=>?_;subst w;intro hdx IA u m;refine bG m λhlen hvs=>?_;have X:=e8 O I;have hr2:bY C A.in1.in1 k:=(bY.in1 (k:=k+1) hr).in1;refine callType_newIn (S:=λA R s=>wpAny C.M A.in1 (Builtin.«bytes.__new__» ⟨[.type "bytes",.ref y],[]⟩) (λfin s'=> ∃v,fin= .done (.ret v)/\R (.ok (.ret v)) s') (λe s'=>R (.error e) s') s) F.bm_called (by decide) (F.bm_typeCall _) (F.bm_newCall _) (λobj=>F.args_object_init_2 obj _) F.bm_entry
  (MeetsIn.of_wp λA R s h=>h) ?_
 delta Builtin.«bytes.__new__»;refine ak (eL (a:=true) rfl ?_);refine bm_if_false rfl ?_;refine ak (eL F.bm_sub ?_);refine bm_if_false rfl ?_;refine ak (eL (F.bm_bind _) ?_);refine ak (eL (a:=()) rfl ?_);refine ak (eL (a:=()) rfl ?_);refine bm_if_false rfl ?_;refine ak (ak (IA.type.here ((looks_findIn X hs).here ?_)));refine ak (rG (ak (special_fn X IA hs hf ?_)));refine bF (h W (.ref f) [.ref y] [] (rfl) (.cons qo .nil) .nil A.in1.in1 s outer hr2 hA hS I) (λr s' ⟨W',le,I',q⟩=> ?_) λu g z=>z.elim;refine e9 q λt=>ak (wpAny_isInstance (T:="bytes") (b:=true) (typeIs_bytes _ _ _) F.bm_sub ?_);refine bm_if_false rfl ?_;exact aQ ⟨_,rfl,typeIs_bytes _ _ _,W',le,I',oJ⟩
noncomputable abbrev Cx.up (C:Cx):Cx:={C with lb:=C.lb+1}
theorem Cx.Ok.up (O:C.Ok):C.up.Ok:=⟨O.tR,O.g,O.b,O.boot,O.nolimit⟩
theorem At.up (H:At C sc A W env ms Z s) (h:C.lb+1<=s.toks):At C.up sc A W env ms Z s:=
 ⟨⟨H.inv.dom,H.inv.inj,λl a o e q=>c12 (H.inv.obj l a o e q) λob h1 h2=>⟨ob,h1,oE.mp h2⟩,H.inv.apart,H.inv.fz,H.inv.kept,H.inv.base,H.inv.gens,H.inv.os,h,H.inv.high⟩,
  ⟨H.fr.scope,H.fr.globals,H.fr.builtins,H.fr.ok,H.fr.ns,H.fr.cells,H.fr.mi,H.fr.mZ,H.fr.iQ,H.fr.je,H.fr.pE⟩⟩
theorem At.down (H:At C.up sc A W env ms Z s):At C sc A W env ms Z s:=
 ⟨⟨H.inv.dom,H.inv.inj,λl a o e q=>c12 (H.inv.obj l a o e q) λob h1 h2=>⟨ob,h1,oE.mpr h2⟩,H.inv.apart,H.inv.fz,H.inv.kept,H.inv.base,H.inv.gens,H.inv.os,zk H.inv.pos,H.inv.high⟩,
  ⟨H.fr.scope,H.fr.globals,H.fr.builtins,H.fr.ok,H.fr.ns,H.fr.cells,H.fr.mi,H.fr.mZ,H.fr.iQ,H.fr.je,H.fr.pE⟩⟩
theorem Kz (hi:sc.names[i]? =some (x,NameKind.local)) (h1:Ev C k sc ms Z value v ai ae)
  (hs: ∀env,swapsWithSole [.Name x np] value pos.line env=pure false) (hw: ∀env,swappedStores [.Name x np] value env=pure none)
  (h2:Go C.up k sc (ai.set i (some v)) ae rest f aB):Go C k sc ms Z (.Assign [.Name x np] value pos::rest) f aB:=by
 refine cG h2 λaK hx=>⟨aK,λA W env s hr H=>wpAny_execs_cons (wpAny_Assign_stores (bf (h1 A W env s hr H) λaR r aI aA aO q=> ?_) (hs env) (hw env))⟩;refine(?_:wpAny C.M A (assign (.Name x np) env r) _ _ _);rw [arm_assign_Name];refine ak (cF (xv (lZ hi aO q λaT aF lt=> ?_)));exact bf (C:=C.up) (hx A aR env aT ⟨hr.1,hr.2.1,hr.2.2⟩ (aF.up (Nat.lt_of_le_of_lt aO.inv.pos lt))) λbh fl bt ax br qf=>bw (aA.trans ax) br.down qf
theorem qH (a g:Nat): ∀(xs:List Str) (b:Nat),(∀y∈xs,y.length<=a)->xs.foldl (λn y=>n+y.length+g) b<=b+xs.length * (a+g):=by
 intro aH;induction aH with
 | nil=>
  intro b u;exact by exact gO _ _
 | cons x xs ih=>intro b h;rw [cX,cq,Nat.succ_mul];have:=ih (b+x.length+g) (λy hy=>h y (.tail _ hy));have:=h x (.head _);omega
theorem xB (h: ∀y∈xs,y.length<=a) (hm:xs.length * (a+x.length)<=16000000):JoinOk x xs=true:=by
 delta JoinOk tooLong;rw [jr];have e:xs.toArray.foldl (λn y=>n+y.length+x.length) 0<=0+xs.length * (a+x.length):=by rw [<-Array.foldl_toList];exact qH a x.length xs 0 h
 rw [B5];exact mH (by omega)
theorem yC (h: ∀y∈xs,y.length<=a):B (Txt.join x xs) (xs.length * (a+x.length)+a):=by
 delta B Txt.join glued;refine(?_:((xs.drop 1).foldl (λacc p=>acc++x.cps++p.cps) (xs.headD Str.empty).cps).size<=_);rw [vQ];have h1:=qH a x.cps.size (xs.drop 1) (xs.headD Str.empty).cps.size (λy hy=>h y (List.mem_of_mem_drop hy));have h2:(xs.headD Str.empty).cps.size<=a:=by
  cases xs with
  | nil=>exact dW _
  | cons y ys=>exact h y (.head _)
 have h3:(xs.drop 1).length * (a+x.cps.size)<=xs.length * (a+x.length):=xe (by rw [t8];omega) (bT _);omega
theorem sQ:(AV.bytes b).A3:=λD=>trivial
noncomputable def eF {α:Type} (xs:List α):Option α:=xs.foldl (λ_ x=>some x) none
theorem hU {α:Type} {enc val:α->AV} {M:Option α->List (Option AV)} {Sg:List AV->St} {ok:St->Prop} {la:Loc} {elt:Expr} {gens:List Comprehension} {scope:Scope} {pos:Pos} {g:Comprehension} {xs:List α}
  (hz:xs.length<=1000000) (hok: ∀out,ok (Sg out)) (hl: ∀out,Sg out la=some (.list out)) (hs: ∀out out',(Sg out).set la (.list out')=Sg out') (hi:g.ifs= []) (ha: ∀o x out,x∈xs->As C k sc (M o) (Sg out) g.target (enc x) (M (some x)) (Sg out))
  (hv: ∀x out,x∈xs->Ev C k sc (M (some x)) (Sg out) elt (val x) (M (some x)) (Sg out)):CL C k sc la (.ListComp elt gens scope pos) ok g [] (xs.map enc) (M none) (Sg []) (M (eF xs)) (Sg (xs.map val)):=by
 have z:=ly (C:=C) (k:=k) (sc:=sc) (enc:=enc) (val:=val) (p:=λu=>true) (M:=M) (Sg:=Sg) (ok:=ok) (la:=la) (elt:=elt) (gens:=gens) (scope:=scope) (pos:=pos) (g:=g) (gx:=xs) hok hl hs ha (.inl ⟨hi,λu=>rfl⟩) (λx out hx u=>hv x out hx) xs [] none (λu z=>z) (by simp only [ic,pd];exact bU hz (by decide));rw [CG.mpr λu v=>rfl]at z;exact z
theorem fI {α:Type} {enc val:α->AV} {p:α->Bool} {M:Option α->List (Option AV)} {Sg:List AV->St} {ok:St->Prop} {la:Loc} {elt c:Expr} {gens:List Comprehension} {scope:Scope} {pos:Pos} {g:Comprehension} {xs:List α}
  (hz:xs.length<=1000000) (hok: ∀out,ok (Sg out)) (hl: ∀out,Sg out la=some (.list out)) (hs: ∀out out',(Sg out).set la (.list out')=Sg out') (hi:g.ifs= [c]) (ha: ∀o x out,x∈xs->As C k sc (M o) (Sg out) g.target (enc x) (M (some x)) (Sg out))
  (hc: ∀x out,x∈xs->Tv C k sc (M (some x)) (Sg out) c (p x) (M (some x)) (Sg out)) (hv: ∀x out,x∈xs->p x=true->Ev C k sc (M (some x)) (Sg out) elt (val x) (M (some x)) (Sg out)):CL C k sc la (.ListComp elt gens scope pos) ok g [] (xs.map enc) (M none) (Sg []) (M (eF xs)) (Sg ((xs.filter p).map val)):=
 ly (C:=C) (k:=k) (sc:=sc) (enc:=enc) (val:=val) (p:=p) (M:=M) (Sg:=Sg) (ok:=ok) (la:=la) (elt:=elt) (gens:=gens) (scope:=scope) (pos:=pos) (g:=g) (gx:=xs) hok hl hs ha (.inr ⟨c,hi,hc⟩) hv xs [] none (λu z=>z) (by simp only [ic,pd];exact bU hz (by decide))
theorem xp (hi:sc.names[i]? =some (x,NameKind.cell)) (hv:ms[i]? =some (some a)) (h1:Ev C k sc ms Z value b ai ae)
  (h2:di C k ae (inplaceOp op) a b (λW r=>aw W c r) aN) (hm:ai.set i (some c)=aK):X1 C k sc ms Z (.AugAssign (.Name x npos) op value pos) .next aK aN:=by
 subst hm;intro A W env s hr H;refine(?_:wpAny C.M A (exec (.AugAssign (.Name x npos) op value pos) env) _ _ _);rw [arm_exec_AugAssign];refine ak (cF (ak ?_));obtain⟨ca,ov,hc,hcell,O5⟩:=H.fr.cells i x hi;refine c12 (O5 a hv) λr z=>?_;subst z;intro q;have hl:env.kindOf x=some .cell:=by delta Env.kindOf;rw [H.fr.scope];exact bI (cW.nodup H.fr.ok) hi
 refine wpAny_loadName_cell (by rw [H.fr.scope];exact cW.kind H.fr.ok) hl hc hcell ?_;refine ak (cA (bf (h1 A W env s hr H) λaR rb aI aA aO qb=> ?_));refine ak (cF (ak (wpAny_operating ?_)));have le:=a8 aO.fr;refine Op.in rfl (h2 _ r rb ((q.mono aA).mono le) (qb.mono le)) hr aO λbh rc aT ax aF qc tk u=>ak (cF (ak (xv (kX hi aF (tk qc) λbt br=> ?_))));exact aQ (bw (aA.trans ax) br rfl)
theorem Ft (h1:Ev C k sc ms Z o ov ai ae) (hm:ib C k ae (λx=>getAttr x name true) ov (λW r=>aw W f r) ae) (h2:Es C k sc ai ae pos args as aZ aN) (hk:Kp C f) (h3:Ca C k aN f as [] v aB)
  (hb: ∀env t,attributeBase o name env t=t) (hf: ∀env,methodCallForm args.length (backTo pos (starEach args env)) []=false) (hs: ∀env x,backTo pos (starEach args env)≠ [(true,x)]):
  Ev C k sc ms Z (.Call (.Attribute o name apos) args [] pos) v aZ aB:=by
 intro A W env s hr H;refine jR (kws:= []) h1 hm hb (hf env) hr H λaR rf aI aA aO qf=>cK (dA (hs env) (bf (h2 A aR env aI hr aO) λbh df aT ax aF qa=>⟨hk _ _ _ _ aF.inv (qf.mono ax),?_⟩));exact h3.in hr aF (qf.mono ax) qa .nil λbS r bt bg br q=>bw (aA.trans (ax.trans bg)) br q
end
end V
end
open V
section
namespace HD
noncomputable def grow:BT->Nat->List Obj->Option BT
 | t,_,[]=>some t
 | t,n,o::l=>match ((t.ins n o).get n).isSome with
  | true=>grow (t.ins n o) (n+1) l
  | false=>none
theorem BJ {life:Life}: ∀(l:List Obj) (t t':BT) (n:Nat),grow t n l=some t'->absHeap t' (n+l.length) life=⟨((absHeap t n life).objs.toList++l).toArray,(absHeap t n life).life⟩:=by
 intro l
 induction l with
 | nil=>intro t t' n h;cases h;rw [iI];rfl
 | cons o l ih=>
  intro t t' n h;unfold grow at h;cases g:((t.ins n o).get n).isSome with
  | false=>rw [g]at h;cases h
  | true=>
   rw [g]at h;have z:=ih _ _ _ h;rw [cq,show n+(l.length+1)=n+1+l.length by omega,z,absHeap_ins g];show Heap.mk (((absHeap t n life).objs.push o).toList++l).toArray _=Heap.mk _ _
   rw [Array.toList_push,eX];rfl
noncomputable def grown (h:Heap):Option BT:=grow .nil 0 h.objs.toList
theorem zp {h:Heap} {t:BT} (e:grown h=some t):absHeap t h.objs.toList.length h.life=h:=by have z:=BJ (life:=h.life) _ _ _ _ e;rw [pd]at z;rw [z];rfl
noncomputable def xW (s:Shared):Option SharedT:=(grown s.heap).map λt=>⟨t,s.heap.objs.toList.length,s.heap.life,s.gens,s.drawn,s.toks,s.os⟩
theorem qT {s:Shared} {x:SharedT} (e:xW s=some x):x.abs=s:=by
 delta xW at e;obtain⟨t,g,rfl⟩:=Option.map_eq_some_iff.mp e;obtain⟨h,gens,drawn,toks,os⟩:=s;show Shared.mk _ _ _ _ _=_
 rw [zp g]
noncomputable def run (st:SharedT->Thread->Option (SharedT×Thread)) (ok:Thread->Bool):Nat->SharedT->Thread->Option SharedT
 | 0,_,_=>none
 | n+1,s,t=>match through t with
  | true=>some s
  | false=>match ok t with
   | false=>none
   | true=>match st s t with
    | some r=>run st ok n r.1 r.2
    | none=>none
noncomputable def imp (st:SharedT->Thread->Option (SharedT×Thread)) (ex:Thread->Option Bool):Nat->SharedT->Thread->Option SharedT
 | 0,_,_=>none
 | n+1,s,t=>match ex t with
  | some true=>some s
  | some false=>none
  | none=>match st s t with
   | some r=>imp st ex n r.1 r.2
   | none=>none
section
variable {tb:String->Option Builtin} {p:Program} {w:World} {F7:Nat} {ann:Option Value}
theorem Ic: ∀{n:Nat} {s s':SharedT} {t:Thread},run (stepT (denote tb) p w) (stepOk F7 ann) n s t=some s'->topRun tb p w F7 ann n s.abs t=some s'.abs:=by
 intro aH;induction aH with
 | zero=>
  intro u v g h;exact by cases h
 | succ n ih=>
  intro s s' t h;unfold run at h;unfold topRun;cases he:through t with
  | true=>rw [he]at h;cases h;rfl
  | false=>
   rw [he]at h;cases hk:stepOk F7 ann t with
   | false=>rw [hk]at h;cases h
   | true=>
    rw [hk]at h;cases hs:stepT (denote tb) p w s t with
    | none=>rw [hs]at h;cases h
    | some r=>rw [hs]at h;rw [stepT_spec (s':=r.1) (t':=r.2) hs];exact ih h
theorem Hv: ∀{n:Nat} {s s':SharedT} {t:Thread},imp (stepT (denote tb) p w) (λt=>t.atExitBegin.map List.isEmpty) n s t=some s'->importEnds tb p w n s.abs t=some s'.abs:=by
 intro aH;induction aH with
 | zero=>
  intro u v g h;exact by cases h
 | succ n ih=>
  intro s s' t h;unfold imp at h;unfold importEnds;cases he:t.atExitBegin with
  | some l=>
   rw [he]at h;cases l with
   | nil=>cases h;rfl
   | cons=>cases h
  | none=>
   rw [he]at h;cases hs:stepT (denote tb) p w s t with
   | none=>rw [Option.map_none]at h;simp only [hs]at h;cases h
   | some r=>rw [Option.map_none]at h;simp only [hs]at h;dsimp only;rw [stepT_spec (s':=r.1) (t':=r.2) hs];exact ih h
end
noncomputable def top (p:Program) (st0 st1:SharedT->Thread->Option (SharedT×Thread)) (ex:Thread->Option Bool) (ok:Nat->Option Value->Thread->Bool) (q0:Shared×Thread) (fence:Shared->Option Shared) (ns:Heap->Addr->Str->Option Value) (N:Nat):Option (Shared×SharedT):=
 (xW q0.1).bind λx=>(imp st0 ex N x q0.2).bind λs=>(fence s.abs).bind λs0=>(xW s0).bind λy=>
  match s0.heap.isNs mainGlobals && s0.gens.size==0 with
  | true=>(run st1 (ok s0.heap.objs.size (ns s0.heap mainGlobals "__annotations__")) N y (topStub p)).bind λs1=>some (s0,s1)
  | false=>none
theorem HQ {tb:String->Option Builtin} {p:Program} {w:World} {N:Nat} {α:Type} {F:Shared->Shared->α} {G:α}
  (e:(top p (stepT (denote tb) (opening p) w) (stepT (denote tb) p w) (λt=>t.atExitBegin.map List.isEmpty) stepOk (start (opening p)) (fenceModules? p) Heap.nsMap N).map (λr=>(staticsOk (importedModules p.main.body) r.1.heap r.2.abs.heap && namesBound p r.2.abs.heap && gensDone r.2.abs && laidKept r.1.heap r.2.abs.heap,F r.1 r.2.abs))=some (true,G)):
  ∃s0 s1,(openEnds tb p w N)=some s1/\F s0 s1=G:=by
 obtain⟨⟨s0,s1⟩,e1,e2⟩:=Option.map_eq_some_iff.mp e;obtain⟨z1,z2⟩:=Prod.mk.inj e2;delta top at e1;obtain⟨x,a1,e1⟩:=zR.mp e1;obtain⟨s,a2,e1⟩:=zR.mp e1;obtain⟨Mk,a3,e1⟩:=zR.mp e1;obtain⟨y,a4,e1⟩:=zR.mp e1;cases hc:Mk.heap.isNs mainGlobals && Mk.gens.size==0 with
 | false=>rw [hc]at e1;cases e1
 | true=>
  rw [hc]at e1;obtain⟨O6,a5,e1⟩:=zR.mp e1;obtain⟨rfl,rfl⟩:=Prod.mk.inj (dI e1);have b2:=Hv a2;have b5:=Ic a5;rw [qT a1]at b2;rw [qT a4]at b5;refine⟨Mk,O6.abs,?_,z2⟩;delta openEnds fencedOpening;rw [b2];show(((some s.abs).bind (fenceModules? p)).bind (topFrom tb p w N))=_
  rw [Option.bind_some,a3,Option.bind_some];delta topFrom;rw [hc];show(topRun tb p w _ _ N Mk (topStub p)).bind _=_
  rw [b5,Option.bind_some];dsimp only at z1⊢;rw [z1]
end HD
end
section
namespace H1
open PySem.Challenge
noncomputable def sv (s:String) (t:Nat):Value:= .str (Str.ofString s) t
noncomputable def tp (i:Nat):Option Stmt:=(pw_ik0233_01.main.body.drop i).head?
noncomputable def mt (i j:Nat):Option Stmt:=(tp i).elim none λs=>if h:s.ctorIdx=2 then Stmt.ClassDef.elim (motive_2:=λ_=>Option Stmt) s h λ_ _ _ b _ _ _ _ _ _ _=>(b.drop j).head? else none
noncomputable def fO (s:Option Stmt) (q:String) (d:Value) (m:String) (t c:Nat):Obj:=s.elim {cls:= .none,data:= .freed} λs=>if h:s.ctorIdx=0 then Stmt.FunctionDef.elim (motive_2:=λ_=>Obj) s h λn a b _ _ _ sc _ _ _=>{cls:= .type "function",data:= .func {name:=n,qualname:=Str.ofString q,params:=a,body:= .stmts b,scope:=sc,globals:=3,closure:= [],defaults:=d,kwdefaults:= .none,pyModule:=sv m t,code:= .ref c}}else{cls:= .none,data:= .freed}
noncomputable def cO (a:Nat) (n q:String) (t:Nat) (l x y z f:Int) (u:Int) (l2:Int):Obj:=
 {cls:= .type "code",data:= .fields #[sv n t,sv q (t+1),sv "/claim/cut.py" (t+2),.int l 0,.int x 0,.int y 0,.int z 0,.int f 0,.ref (a - 5),.bool true,.int 276 0,.ref (a - 4),.none,.ref (a - 3),.ref (a - 2),.ref (a - 1),.int u 0,.int l2 0,sv "/claim/cut.py" (u.toNat+1)]}
noncomputable def cN (a:Nat) (n q:String) (t:Nat) (l x y z f:Int) (u:Int) (l2:Int):Obj:=
 {cls:= .type "code",data:= .fields #[sv n t,sv q (t+1),sv "/claim/cut.py" (t+2),.int l 0,.int x 0,.int y 0,.int z 0,.int f 0,.ref (a - 3),.bool true,.int 276 0,.ref (a - 2),.none,.none,.none,.ref (a - 1),.int u 0,.int l2 0,sv "/claim/cut.py" (u.toNat+1)]}
noncomputable def en (P:Params) (k:String) (t:Nat) (v:Value):DictEntry:={hash:=PyData.keyHash P (Str.ofString k),key:=sv k t,val:=v}
noncomputable def dO (c:Value) (es:Array DictEntry) (n:Nat):Obj:={cls:=c,data:= .dict es n}
noncomputable def mO (n:String) (t c:Nat) (i:Int):Obj:={cls:= .type "member_descriptor",data:= .fields #[sv n t,.ref c,.builtin "proto.slot",.builtin "proto.slot#set",.int i 0]}
noncomputable def K (P:Params):Frag:= [
 (3,dO (.type "dict") #[en P "__name__" 165 (sv "law_ik0233_01" 902),en P "__doc__" 166 (.none),en P "__package__" 167 (.none),en P "__loader__" 168 (.builtin "__main__.__loader__#opaque"),en P "__spec__" 169 (.none),en P "__annotations__" 170 (.ref 6),en P "__builtins__" 171 (.ref 4),en P "__file__" 173 (sv "/claim/cut.py" 172),en P "__cached__" 174 (.none),en P "_sre" 275 (.ref 12),en P "_wall" 288 (.ref 38),en P "tspecials" 324 (.ref 43),en P "_name_disallowed_re" 350 (.ref 48),en P "_value_disallowed_re" 384 (.ref 53),en P "_formatparam" 394 (.ref 61),en P "Headers" 553 (.ref 184),en P "_NODE_OUT" 558 (.int (-1) 557),en P "_NODE_DONE" 561 (.int (-2) 560),en P "_NodeInfo" 598 (.ref 207),en P "CycleError" 616 (.ref 222),en P "TopologicalSorter" 735 (.ref 304),en P "_plain_name" 746 (.ref 315),en P "ABCMeta" 772 (.ref 332),en P "_ABCLike" 815 (.ref 365),en P "_abc_plain_meta" 822 (.ref 374),en P "fspath" 834 (.ref 381),en P "_check_arg_types" 847 (.ref 388),en P "_get_sep" 856 (.ref 395),en P "join" 867 (.ref 402),en P "splitroot" 876 (.ref 409),en P "dirname" 886 (.ref 416),en P "normpath" 901 (.ref 423),en P "_law_pages" 914 (.ref 430),en P "_law_text" 924 (.ref 437),en P "_law_lay" 930 (.ref 442),en P "_law_parts" 936 (.ref 447),en P "_law_signs" 948 (.ref 454),en P "_law_told" 954 (.ref 459),en P "_law_rounds" 960 (.ref 464),en P "_law_begun" 966 (.ref 469),en P "_law_driven" 972 (.ref 474),en P "law" 978 (.ref 479)] 42),
 (37,cO 37 "_wall" "_wall" 282 2 1 0 0 3 286 2),
 (38,fO (tp 1) "_wall" .none "__main__" 164 37),
 (42,({cls:= .type "tuple",data:= .seq #[ .int 14 0,.int 14 0,.int 4 0,.int 1 0,.int 1 0,.int 9 0,.int 0 0,.int 4227896069 0,.int 939524097 0,.int 0 0,.int 0 0,.int 0 0,.int 0 0,.int 0 0,.int 0 0,.int 13 0,.int 11 0,.int 9 0,.int 0 0,.int 4227896069 0,.int 939524097 0,.int 0 0,.int 0 0,.int 0 0,.int 0 0,.int 0 0,.int 0 0,.int 1 0]}:Obj)),
 (43,({cls:= .type "re.Pattern",data:= .fields #[sv "[ \\(\\)<>@,;:\\\\\"/\\[\\]\\?=]" 292,.int 32 323,.int 0 0,.none,.none,.ref 42,.int 0 0]}:Obj)),
 (47,({cls:= .type "tuple",data:= .seq #[ .int 14 0,.int 10 0,.int 4 0,.int 1 0,.int 1 0,.int 22 0,.int 0 0,.int 31 0,.int 16 0,.int 127 0,.int 0 0,.int 13 0,.int 7 0,.int 22 0,.int 0 0,.int 31 0,.int 16 0,.int 127 0,.int 0 0,.int 1 0]}:Obj)),
 (48,({cls:= .type "re.Pattern",data:= .fields #[sv "[\\x00-\\x1F\\x7F]" 326,.int 32 349,.int 0 0,.none,.none,.ref 47,.int 0 0]}:Obj)),
 (52,({cls:= .type "tuple",data:= .seq #[ .int 14 0,.int 14 0,.int 4 0,.int 1 0,.int 1 0,.int 9 0,.int 4294966783 0,.int 0 0,.int 0 0,.int 2147483648 0,.int 0 0,.int 0 0,.int 0 0,.int 0 0,.int 0 0,.int 13 0,.int 11 0,.int 9 0,.int 4294966783 0,.int 0 0,.int 0 0,.int 2147483648 0,.int 0 0,.int 0 0,.int 0 0,.int 0 0,.int 0 0,.int 1 0]}:Obj)),
 (53,({cls:= .type "re.Pattern",data:= .fields #[sv "[\\x00-\\x08\\x0A-\\x1F\\x7F]" 352,.int 32 383,.int 0 0,.none,.none,.ref 52,.int 0 0]}:Obj)),
 (54,({cls:= .type "tuple",data:= .seq #[ .none,.int 1 385]}:Obj)),
 (60,cO 60 "_formatparam" "_formatparam" 386 9 3 0 0 3 392 9),
 (61,fO (tp 6) "_formatparam" (.ref 54) "cpy313.wsgiref.headers" 289 60),
 (69,({cls:= .type "tuple",data:= .seq #[ .none]}:Obj)),
 (75,cO 75 "__init__" "Headers.__init__" 407 20 2 0 0 3 414 20),
 (76,fO (mt 7 0) "Headers.__init__" (.ref 69) "cpy313.wsgiref.headers" 289 75),
 (82,cO 82 "_convert_string_type" "Headers._convert_string_type" 417 30 2 0 1 3 424 30),
 (83,fO (mt 7 1) "Headers._convert_string_type" .none "cpy313.wsgiref.headers" 289 82),
 (89,cO 89 "__len__" "Headers.__len__" 427 38 1 0 0 3 431 38),
 (90,fO (mt 7 2) "Headers.__len__" .none "cpy313.wsgiref.headers" 289 89),
 (96,cO 96 "__setitem__" "Headers.__setitem__" 434 41 3 0 0 3 440 41),
 (97,fO (mt 7 3) "Headers.__setitem__" .none "cpy313.wsgiref.headers" 289 96),
 (101,cN 101 "__delitem__" "Headers.__delitem__" 443 45 2 0 0 3 446 45),
 (102,fO (mt 7 4) "Headers.__delitem__" .none "cpy313.wsgiref.headers" 289 101),
 (108,cO 108 "__getitem__" "Headers.__getitem__" 449 49 2 0 0 3 454 49),
 (109,fO (mt 7 5) "Headers.__getitem__" .none "cpy313.wsgiref.headers" 289 108),
 (115,cO 115 "__contains__" "Headers.__contains__" 457 52 2 0 0 3 462 52),
 (116,fO (mt 7 6) "Headers.__contains__" .none "cpy313.wsgiref.headers" 289 115),
 (122,cO 122 "get_all" "Headers.get_all" 465 55 2 0 0 3 470 55),
 (123,fO (mt 7 7) "Headers.get_all" .none "cpy313.wsgiref.headers" 289 122),
 (124,({cls:= .type "tuple",data:= .seq #[ .none]}:Obj)),
 (130,cO 130 "get" "Headers.get" 473 58 3 0 0 3 481 58),
 (131,fO (mt 7 8) "Headers.get" (.ref 124) "cpy313.wsgiref.headers" 289 130),
 (135,cN 135 "keys" "Headers.keys" 484 65 1 0 0 3 487 65),
 (136,fO (mt 7 9) "Headers.keys" .none "cpy313.wsgiref.headers" 289 135),
 (140,cN 140 "values" "Headers.values" 490 68 1 0 0 3 493 68),
 (141,fO (mt 7 10) "Headers.values" .none "cpy313.wsgiref.headers" 289 140),
 (147,cO 147 "items" "Headers.items" 496 71 1 0 0 3 500 71),
 (148,fO (mt 7 11) "Headers.items" .none "cpy313.wsgiref.headers" 289 147),
 (154,cO 154 "__repr__" "Headers.__repr__" 503 74 1 0 0 3 507 74),
 (155,fO (mt 7 12) "Headers.__repr__" .none "cpy313.wsgiref.headers" 289 154),
 (159,cN 159 "__str__" "Headers.__str__" 510 77 1 0 0 3 513 77),
 (160,fO (mt 7 13) "Headers.__str__" .none "cpy313.wsgiref.headers" 289 159),
 (166,cO 166 "__bytes__" "Headers.__bytes__" 516 80 1 0 0 3 520 80),
 (167,fO (mt 7 14) "Headers.__bytes__" .none "cpy313.wsgiref.headers" 289 166),
 (173,cO 173 "setdefault" "Headers.setdefault" 523 83 3 0 0 3 529 83),
 (174,fO (mt 7 15) "Headers.setdefault" .none "cpy313.wsgiref.headers" 289 173),
 (180,cO 180 "add_header" "Headers.add_header" 532 86 3 0 0 11 542 86),
 (181,fO (mt 7 16) "Headers.add_header" .none "cpy313.wsgiref.headers" 289 180),
 (183,dO (.type "dict") #[en P "__module__" 402 (sv "cpy313.wsgiref.headers" 289),en P "__firstlineno__" 406 (.int 18 405),en P "__init__" 416 (.ref 76),en P "_convert_string_type" 426 (.ref 83),en P "__len__" 433 (.ref 90),en P "__setitem__" 442 (.ref 97),en P "__delitem__" 448 (.ref 102),en P "__getitem__" 456 (.ref 109),en P "__contains__" 464 (.ref 116),en P "get_all" 472 (.ref 123),en P "get" 483 (.ref 131),en P "keys" 489 (.ref 136),en P "values" 495 (.ref 141),en P "items" 502 (.ref 148),en P "__repr__" 509 (.ref 155),en P "__str__" 515 (.ref 160),en P "__bytes__" 522 (.ref 167),en P "setdefault" 531 (.ref 174),en P "add_header" 544 (.ref 181),en P "__static_attributes__" 546 (.ref 182),en P "__dict__" 548 (.ref 185),en P "__weakref__" 550 (.ref 186),en P "__doc__" 551 (.none)] 4),
 (184,({cls:= .type "type",data:= .cls {name:=Str.ofString "Headers",bases:= [ .type "object"],mro:= [ .ref 184,.type "object"],ns:=183,qualname:=Str.ofString "Headers"},slots:= #[none,none,some (sv "Headers" 395),some (sv "Headers" 403),some (.builtin "object.__new__"),some (.bool true)]}:Obj)),
 (202,cO 202 "__init__" "_NodeInfo.__init__" 578 105 2 0 0 3 583 105),
 (203,fO (mt 11 1) "_NodeInfo.__init__" .none "cpy313.graphlib" 554 202),
 (206,dO (.type "dict") #[en P "__module__" 569 (sv "cpy313.graphlib" 554),en P "__firstlineno__" 573 (.int 102 572),en P "__slots__" 577 (.ref 196),en P "__init__" 585 (.ref 203),en P "__static_attributes__" 589 (.ref 204),en P "node" 591 (.ref 208),en P "npredecessors" 593 (.ref 209),en P "successors" 595 (.ref 210),en P "__doc__" 596 (.none)] 5),
 (207,({cls:= .type "type",data:= .cls {name:=Str.ofString "_NodeInfo",bases:= [ .type "object"],mro:= [ .ref 207,.type "object"],ns:=206,qualname:=Str.ofString "_NodeInfo",hasDict:=false,slotNames:= [Str.ofString "node",Str.ofString "npredecessors",Str.ofString "successors"]},slots:= #[none,none,some (sv "_NodeInfo" 562),some (sv "_NodeInfo" 570),some (.builtin "object.__new__"),some (.bool false)]}:Obj)),
 (208,mO "node" 590 207 2),
 (209,mO "npredecessors" 592 207 1),
 (210,mO "successors" 594 207 0),
 (221,dO (.type "dict") #[en P "__module__" 606 (sv "cpy313.graphlib" 554),en P "__firstlineno__" 610 (.int 109 609),en P "__static_attributes__" 611 (.ref 220),en P "__weakref__" 613 (.ref 223),en P "__doc__" 614 (.none)] 3),
 (222,({cls:= .type "type",data:= .cls {name:=Str.ofString "CycleError",bases:= [ .type "ValueError"],mro:= [ .ref 222,.type "ValueError",.type "Exception",.type "BaseException",.type "object"],ns:=221,qualname:=Str.ofString "CycleError"},slots:= #[some (.ref 213),none,some (sv "CycleError" 599),some (sv "CycleError" 607),some (.builtin "ValueError.__new__"),some (.bool true)]}:Obj)),
 (233,({cls:= .type "tuple",data:= .seq #[ .none]}:Obj)),
 (239,cO 239 "__init__" "TopologicalSorter.__init__" 629 113 2 0 0 3 636 113),
 (240,fO (mt 13 0) "TopologicalSorter.__init__" (.ref 233) "cpy313.graphlib" 554 239),
 (246,cO 246 "_get_nodeinfo" "TopologicalSorter._get_nodeinfo" 639 122 2 0 0 3 645 122),
 (247,fO (mt 13 1) "TopologicalSorter._get_nodeinfo" .none "cpy313.graphlib" 554 246),
 (253,cO 253 "add" "TopologicalSorter.add" 648 127 2 0 0 7 657 127),
 (254,fO (mt 13 2) "TopologicalSorter.add" .none "cpy313.graphlib" 554 253),
 (258,cN 258 "prepare" "TopologicalSorter.prepare" 660 136 1 0 0 3 663 136),
 (259,fO (mt 13 3) "TopologicalSorter.prepare" .none "cpy313.graphlib" 554 258),
 (265,cO 265 "get_ready" "TopologicalSorter.get_ready" 666 144 1 0 0 3 673 144),
 (266,fO (mt 13 4) "TopologicalSorter.get_ready" .none "cpy313.graphlib" 554 265),
 (272,cO 272 "is_active" "TopologicalSorter.is_active" 676 155 1 0 0 3 680 155),
 (273,fO (mt 13 5) "TopologicalSorter.is_active" .none "cpy313.graphlib" 554 272),
 (279,cO 279 "__bool__" "TopologicalSorter.__bool__" 683 160 1 0 0 3 687 160),
 (280,fO (mt 13 6) "TopologicalSorter.__bool__" .none "cpy313.graphlib" 554 279),
 (286,cO 286 "done" "TopologicalSorter.done" 690 163 1 0 0 7 701 163),
 (287,fO (mt 13 7) "TopologicalSorter.done" .none "cpy313.graphlib" 554 286),
 (293,cO 293 "_find_cycle" "TopologicalSorter._find_cycle" 704 186 1 0 0 3 714 186),
 (294,fO (mt 13 8) "TopologicalSorter._find_cycle" .none "cpy313.graphlib" 554 293),
 (300,cO 300 "static_order" "TopologicalSorter.static_order" 717 215 1 0 0 3 721 215),
 (301,fO (mt 13 9) "TopologicalSorter.static_order" .none "cpy313.graphlib" 554 300),
 (303,dO (.type "dict") #[en P "__module__" 624 (sv "cpy313.graphlib" 554),en P "__firstlineno__" 628 (.int 111 627),en P "__init__" 638 (.ref 240),en P "_get_nodeinfo" 647 (.ref 247),en P "add" 659 (.ref 254),en P "prepare" 665 (.ref 259),en P "get_ready" 675 (.ref 266),en P "is_active" 682 (.ref 273),en P "__bool__" 689 (.ref 280),en P "done" 703 (.ref 287),en P "_find_cycle" 716 (.ref 294),en P "static_order" 723 (.ref 301),en P "__static_attributes__" 728 (.ref 302),en P "__dict__" 730 (.ref 305),en P "__weakref__" 732 (.ref 306),en P "__doc__" 733 (.none)] 4),
 (304,({cls:= .type "type",data:= .cls {name:=Str.ofString "TopologicalSorter",bases:= [ .type "object"],mro:= [ .ref 304,.type "object"],ns:=303,qualname:=Str.ofString "TopologicalSorter"},slots:= #[none,none,some (sv "TopologicalSorter" 617),some (sv "TopologicalSorter" 625),some (.builtin "object.__new__"),some (.bool true)]}:Obj)),
 (314,cO 314 "_plain_name" "_plain_name" 738 218 2 0 0 3 744 218),
 (315,fO (tp 15) "_plain_name" .none "os" 736 314),
 (328,cO 328 "register" "ABCMeta.register" 761 226 2 0 0 3 766 226),
 (329,fO (mt 17 0) "ABCMeta.register" .none "abc" 747 328),
 (331,dO (.type "dict") #[en P "__module__" 756 (sv "abc" 747),en P "__firstlineno__" 760 (.int 224 759),en P "register" 768 (.ref 329),en P "__static_attributes__" 769 (.ref 330),en P "__doc__" 770 (.none)] 2),
 (332,({cls:= .type "type",data:= .cls {name:=Str.ofString "ABCMeta",bases:= [ .type "type"],mro:= [ .ref 332,.type "type",.type "object"],ns:=331,qualname:=Str.ofString "ABCMeta",subclasses:= [ .ref 365]},slots:= #[some (.ref 316),none,some (sv "ABCMeta" 749),some (sv "ABCMeta" 757),some (.builtin "type.__new__"),some (.bool true)]}:Obj)),
 (347,cO 347 "__instancecheck__" "_ABCLike.__instancecheck__" 787 231 2 0 0 3 793 231),
 (348,fO (mt 19 0) "_ABCLike.__instancecheck__" .none "collections.abc" 773 347),
 (354,cO 354 "__subclasscheck__" "_ABCLike.__subclasscheck__" 796 237 2 0 0 3 801 237),
 (355,fO (mt 19 1) "_ABCLike.__subclasscheck__" .none "collections.abc" 773 354),
 (361,cO 361 "register" "_ABCLike.register" 804 242 2 0 0 3 809 242),
 (362,fO (mt 19 2) "_ABCLike.register" .none "collections.abc" 773 361),
 (364,dO (.type "dict") #[en P "__module__" 782 (sv "collections.abc" 773),en P "__firstlineno__" 786 (.int 229 785),en P "__instancecheck__" 795 (.ref 348),en P "__subclasscheck__" 803 (.ref 355),en P "register" 811 (.ref 362),en P "__static_attributes__" 812 (.ref 363),en P "__doc__" 813 (.none)] 2),
 (365,({cls:= .type "type",data:= .cls {name:=Str.ofString "_ABCLike",bases:= [ .ref 332],mro:= [ .ref 365,.ref 332,.type "type",.type "object"],ns:=364,qualname:=Str.ofString "_ABCLike"},slots:= #[some (.ref 335),none,some (sv "_ABCLike" 775),some (sv "_ABCLike" 783),some (.builtin "type.__new__"),some (.bool true)]}:Obj)),
 (373,cO 373 "_abc_plain_meta" "_abc_plain_meta" 816 244 1 0 0 3 820 244),
 (374,fO (tp 20) "_abc_plain_meta" .none "collections.abc" 773 373),
 (380,cO 380 "fspath" "fspath" 825 248 1 0 0 3 832 248),
 (381,fO (tp 22) "fspath" .none "os" 823 380),
 (387,cO 387 "_check_arg_types" "_check_arg_types" 837 265 1 0 0 7 845 265),
 (388,fO (tp 24) "_check_arg_types" .none "cpy313.genericpath" 835 387),
 (394,cO 394 "_get_sep" "_get_sep" 850 277 1 0 0 3 854 277),
 (395,fO (tp 26) "_get_sep" .none "cpy313.posixpath" 848 394),
 (401,cO 401 "join" "join" 857 282 1 0 0 7 865 282),
 (402,fO (tp 27) "join" .none "cpy313.posixpath" 848 401),
 (408,cO 408 "splitroot" "splitroot" 868 299 1 0 0 3 874 299),
 (409,fO (tp 28) "splitroot" .none "cpy313.posixpath" 848 408),
 (415,cO 415 "dirname" "dirname" 877 313 1 0 0 3 884 313),
 (416,fO (tp 29) "dirname" .none "cpy313.posixpath" 848 415),
 (422,cO 422 "normpath" "normpath" 887 321 1 0 0 3 899 321),
 (423,fO (tp 30) "normpath" .none "cpy313.posixpath" 848 422),
 (429,cO 429 "_law_pages" "_law_pages" 904 347 1 0 0 3 912 347),
 (430,fO (tp 32) "_law_pages" .none "law_ik0233_01" 902 429),
 (436,cO 436 "_law_text" "_law_text" 915 354 3 0 0 3 922 354),
 (437,fO (tp 33) "_law_text" .none "law_ik0233_01" 902 436),
 (441,cN 441 "_law_lay" "_law_lay" 925 361 4 0 0 3 928 361),
 (442,fO (tp 34) "_law_lay" .none "law_ik0233_01" 902 441),
 (446,cN 446 "_law_parts" "_law_parts" 931 368 2 0 0 3 934 368),
 (447,fO (tp 35) "_law_parts" .none "law_ik0233_01" 902 446),
 (453,cO 453 "_law_signs" "_law_signs" 937 374 1 0 0 3 946 374),
 (454,fO (tp 36) "_law_signs" .none "law_ik0233_01" 902 453),
 (458,cN 458 "_law_told" "_law_told" 949 389 5 0 0 3 952 389),
 (459,fO (tp 37) "_law_told" .none "law_ik0233_01" 902 458),
 (463,cN 463 "_law_rounds" "_law_rounds" 955 404 3 0 0 3 958 404),
 (464,fO (tp 38) "_law_rounds" .none "law_ik0233_01" 902 463),
 (468,cN 468 "_law_begun" "_law_begun" 961 417 4 0 0 3 964 417),
 (469,fO (tp 39) "_law_begun" .none "law_ik0233_01" 902 468),
 (473,cN 473 "_law_driven" "_law_driven" 967 428 4 0 0 3 970 428),
 (474,fO (tp 40) "_law_driven" .none "law_ik0233_01" 902 473),
 (478,cN 478 "law" "law" 973 435 1 0 0 3 976 435),
 (479,fO (tp 41) "law" .none "law_ik0233_01" 902 478)]
noncomputable def Mv:List Addr:= [3,37,38,42,43,47,48,52,53,54,60,61,69,75,76,82,83,89,90,96,97,101,102,108,109,115,116,122,123,124,130,131,135,136,140,141,147,148,154,155,159,160,166,167,173,174,180,181,183,184,202,203,206,207,208,209,210,221,222,233,239,240,246,247,253,254,258,259,265,266,272,273,279,280,286,287,293,294,300,301,303,304,314,315,328,329,331,332,347,348,354,355,361,362,364,365,373,374,380,381,387,388,394,395,401,402,408,409,415,416,422,423,429,430,436,437,441,442,446,447,453,454,458,459,463,464,468,469,473,474,478,479]
end H1
end
section
namespace L1
open Builtin Builtin.Str
noncomputable def lo (s:String):Str×NameKind:=(Str.ofString s,.local)
noncomputable def gi (s:String):Str×NameKind:=(Str.ofString s,.globalImplicit)
noncomputable def ce (s:String):Str×NameKind:=(Str.ofString s,.cell)
structure Is (C:V.Cx):Prop where
 ok:C.Ok
 K:C.K=H1.K C.w.params
 hx:C.hx=none
theorem mg (h:Is C) (x:Str):C.mg x=nsFind (V.dictOf ((H1.K C.w.params).lookup 3)) x:=V.mg_of h.ok (by rw [h.K];exact rfl) rfl x
theorem KX (h:Is C) (e:keepIn (H1.K C.w.params) (.ref a)=true):V.Kp C (.ext a):=IE h.ok (by rw [h.K];exact e)
theorem lA (h:Is C):V.Glob C "CycleError" (.ext 222):=bW (by decide+kernel) ((mg h _).trans (by kernel_rfl))
theorem Ah (h:Is C):V.Glob C "Headers" (.ext 184):=bW (by decide+kernel) ((mg h _).trans (by kernel_rfl))
theorem m9 (h:Is C):V.Glob C "StopIteration" (.ty "StopIteration"):=fR h.ok (by decide+kernel) ((mg h _).trans (by kernel_rfl)) (by decide+kernel) (by kernel_rfl)
theorem kB (h:Is C):V.Glob C "TopologicalSorter" (.ext 304):=bW (by decide+kernel) ((mg h _).trans (by kernel_rfl))
theorem rU (h:Is C):V.Glob C "_NODE_DONE" (.int (-2)):=t9 (t:=560) (by decide+kernel) ((mg h _).trans (by kernel_rfl))
theorem mS (h:Is C):V.Glob C "_NODE_OUT" (.int (-1)):=t9 (t:=557) (by decide+kernel) ((mg h _).trans (by kernel_rfl))
theorem vj (h:Is C):V.Glob C "_NodeInfo" (.ext 207):=bW (by decide+kernel) ((mg h _).trans (by kernel_rfl))
theorem o8 (h:Is C):V.Glob C "_formatparam" (.ext 61):=bW (by decide+kernel) ((mg h _).trans (by kernel_rfl))
theorem ot (h:Is C):V.Glob C "_get_sep" (.ext 395):=bW (by decide+kernel) ((mg h _).trans (by kernel_rfl))
theorem tB (h:Is C):V.Glob C "_law_begun" (.ext 469):=bW (by decide+kernel) ((mg h _).trans (by kernel_rfl))
theorem pR (h:Is C):V.Glob C "_law_driven" (.ext 474):=bW (by decide+kernel) ((mg h _).trans (by kernel_rfl))
theorem xG (h:Is C):V.Glob C "_law_lay" (.ext 442):=bW (by decide+kernel) ((mg h _).trans (by kernel_rfl))
theorem rV (h:Is C):V.Glob C "_law_pages" (.ext 430):=bW (by decide+kernel) ((mg h _).trans (by kernel_rfl))
theorem pG (h:Is C):V.Glob C "_law_rounds" (.ext 464):=bW (by decide+kernel) ((mg h _).trans (by kernel_rfl))
theorem rI (h:Is C):V.Glob C "_law_signs" (.ext 454):=bW (by decide+kernel) ((mg h _).trans (by kernel_rfl))
theorem ua (h:Is C):V.Glob C "_law_told" (.ext 459):=bW (by decide+kernel) ((mg h _).trans (by kernel_rfl))
theorem jI (h:Is C):V.Glob C "_name_disallowed_re" (.ext 48):=bW (by decide+kernel) ((mg h _).trans (by kernel_rfl))
theorem jm (h:Is C):V.Glob C "_value_disallowed_re" (.ext 53):=bW (by decide+kernel) ((mg h _).trans (by kernel_rfl))
theorem g_bool (h:Is C):V.Glob C "bool" (.ty "bool"):=fR h.ok (by decide+kernel) ((mg h _).trans (by kernel_rfl)) (by decide+kernel) (by kernel_rfl)
theorem lK (h:Is C):V.Glob C "bytes" (.ty "bytes"):=fR h.ok (by decide+kernel) ((mg h _).trans (by kernel_rfl)) (by decide+kernel) (by kernel_rfl)
theorem fW (h:Is C):V.Glob C "fspath" (.ext 381):=bW (by decide+kernel) ((mg h _).trans (by kernel_rfl))
theorem jy (h:Is C):V.Glob C "isinstance" (.bi "isinstance"):=lM h.ok (by decide+kernel) ((mg h _).trans (by kernel_rfl)) (by decide+kernel) (by kernel_rfl)
theorem sj (h:Is C):V.Glob C "issubclass" (.bi "issubclass"):=lM h.ok (by decide+kernel) ((mg h _).trans (by kernel_rfl)) (by decide+kernel) (by kernel_rfl)
theorem Hj (h:Is C):V.Glob C "iter" (.bi "iter"):=lM h.ok (by decide+kernel) ((mg h _).trans (by kernel_rfl)) (by decide+kernel) (by kernel_rfl)
theorem fC (h:Is C):V.Glob C "len" (.bi "len"):=lM h.ok (by decide+kernel) ((mg h _).trans (by kernel_rfl)) (by decide+kernel) (by kernel_rfl)
theorem Il (h:Is C):V.Glob C "list" (.ty "list"):=fR h.ok (by decide+kernel) ((mg h _).trans (by kernel_rfl)) (by decide+kernel) (by kernel_rfl)
theorem dG (h:Is C):V.Glob C "range" (.ty "range"):=fR h.ok (by decide+kernel) ((mg h _).trans (by kernel_rfl)) (by decide+kernel) (by kernel_rfl)
theorem JL (h:Is C):V.Glob C "set" (.ty "set"):=fR h.ok (by decide+kernel) ((mg h _).trans (by kernel_rfl)) (by decide+kernel) (by kernel_rfl)
theorem vL (h:Is C):V.Glob C "splitroot" (.ext 409):=bW (by decide+kernel) ((mg h _).trans (by kernel_rfl))
theorem kG (h:Is C):V.Glob C "str" (.ty "str"):=fR h.ok (by decide+kernel) ((mg h _).trans (by kernel_rfl)) (by decide+kernel) (by kernel_rfl)
theorem AZ (h:Is C):V.Glob C "sum" (.bi "sum"):=lM h.ok (by decide+kernel) ((mg h _).trans (by kernel_rfl)) (by decide+kernel) (by kernel_rfl)
theorem yd (h:Is C):V.Glob C "tuple" (.ty "tuple"):=fR h.ok (by decide+kernel) ((mg h _).trans (by kernel_rfl)) (by decide+kernel) (by kernel_rfl)
theorem sX (h:Is C):V.Glob C "type" (.ty "type"):=fR h.ok (by decide+kernel) ((mg h _).trans (by kernel_rfl)) (by decide+kernel) (by kernel_rfl)
theorem Lj (h:Is C):V.Glob C "zip" (.ty "zip"):=fR h.ok (by decide+kernel) ((mg h _).trans (by kernel_rfl)) (by decide+kernel) (by kernel_rfl)
theorem KL {C:V.Cx} {k:Nat} {sc:Scope} {α S:Type} {enc:α->V.AV} {M:S->List (Option V.AV)} {Sg:S->V.St} {step:S->α->S} {P:S->List α->Prop} {ok:V.St->Prop} {tgt:Expr} {body:List Stmt} (hok: ∀s xs,P s xs->ok (Sg s)) (hp: ∀s x xs,P s (x::xs)->P (step s x) xs)
  (h: ∀s x xs,P s (x::xs)->V.Turn C k sc tgt body (enc x) (M s) (Sg s) (M (step s x)) (Sg (step s x))) (xs:List α) (s:S) (hs:P s xs) {z:S} (hz:xs.foldl step s=z):V.Lr C k sc ok tgt body (xs.map enc) (M s) (Sg s) .next (M z) (Sg z):=hz▸iF hok hp h xs s hs
theorem MF {C:V.Cx} {k:Nat} {sc:Scope} {α S:Type} {enc:α->V.AV} {M:S->List (Option V.AV)} {Sg:S->V.St} {step:S->α->S} {P:S->List α->Prop} {ok:V.St->Prop} {tgt:Expr} {body:List Stmt} (hok: ∀s xs,P s xs->ok (Sg s)) (hp: ∀s x xs,P s (x::xs)->P (step s x) xs)
  (h: ∀s x xs,P s (x::xs)-> ∃ai ae,V.As C k sc (M s) (Sg s) tgt (enc x) ai ae/\V.Ex C k sc ai ae body .next (M (step s x)) (Sg (step s x))) (xs:List α) (s:S) (hs:P s xs) {z:S} (hz:xs.foldl step s=z):Ie C k sc ok tgt body (xs.map enc) (M s) (Sg s) (M z) (Sg z):=hz▸Cq hok hp h xs s hs
theorem fg (h:Nat.beq i j=false):(⟨b+i,x⟩:V.Loc)≠⟨b+j,y⟩:=λe=>Nat.ne_of_beq_eq_false h (Nat.add_left_cancel (dM V.Loc.tag e))
theorem kD (h:Nat.beq 0 j=false):(⟨b,x⟩:V.Loc)≠⟨b+j,y⟩:=fg (i:=0) h
theorem sx (h:Nat.beq i 0=false):(⟨b+i,x⟩:V.Loc)≠⟨b,y⟩:=fg (j:=0) h
theorem fY (h:Is C):V.Ca C (k+1) Z (.ext 381) [.str p] [] (.str p) Z:=by
 have hx0:=h.hx;refine lP h.ok ⟨⟨_,_,_,by rw [h.K];exact rfl⟩,rfl,rfl,rfl,rfl,by rw [h.K];rfl,rfl,rfl,by decide+kernel⟩ [lo "path",lo "kind",lo "hook",lo "given",gi "type",gi "issubclass",gi "str",gi "bytes",gi "_abc_plain_meta",gi "getattr",gi "TypeError",gi "_plain_name",gi "_wall",gi "len"] rfl [("path",.str p)] _
  (bQ (gA λa0=>rfl) rfl) rfl rfl λsc hF n hn=> ?_
 refine tK hF λn0 n1 n2 n3 n4 n5 n6 n7 q=>JB q λn8 n9 n10 AA n12 n13 _=>?_;clear hF;refine iw ?_;refine aE (au (aD (ar h.ok n4 (sX h)) (af (aa n0 rfl) ao) cL (rR sC.at (by decide))) (ag n1 rfl)) ?_;refine fH (aX (b:=true) (aD (ar h.ok n5 (sj h)) (af (aa n1 rfl) (af (cU (af (ar h.ok n6 (kG h)) (af (ar h.ok n7 (lK h)) ao)) (dX rfl)) ao)) bp EJ) cu) ?_;exact bP (aa n0 rfl)
theorem oK (h:Is C):V.Ca C (k+1) Z (.ext 395) [.str p] [] (.str "/") Z:=by
 have hx0:=h.hx;refine lP h.ok ⟨⟨_,_,_,by rw [h.K];exact rfl⟩,rfl,rfl,rfl,rfl,by rw [h.K];rfl,rfl,rfl,by decide+kernel⟩ [lo "path",gi "isinstance",gi "bytes"] rfl [("path",.str p)] _
  (bQ (gA λa0=>rfl) rfl) rfl rfl λsc hF n hn=> ?_
 refine ku hF λn0 n1 n2 _=>?_;clear hF;refine iw ?_;refine cw (aX (b:=false) (aD (ar h.ok n1 (jy h)) (af (aa n0 rfl) (af (ar h.ok n2 (lK h)) ao)) bp mv) cu) ?_;exact bP aW
noncomputable def fj (p:Str):Str:=Txt.slice p none (some (Txt.rfind p "/"+1))
noncomputable def de (p:Str):Str:=if(((fj p).length:Int) !=0) && (fj p !=Txt.mul "/" (fj p).length)then Txt.rstripChars (fj p) "/"else fj p
theorem zU (h:Is C) (hp:V.B p 200):V.Ca C (k+2) Z (.ext 416) [.str p] [] (.str (de p)) Z:=by
 have hx0:=h.hx;refine lP h.ok ⟨⟨_,_,_,by rw [h.K];exact rfl⟩,rfl,rfl,rfl,rfl,by rw [h.K];rfl,rfl,rfl,by decide+kernel⟩ [lo "p",lo "sep",lo "i",lo "head",gi "fspath",gi "_get_sep",gi "len"] rfl [("p",.str p)] _
  (bQ (gA λa0=>rfl) rfl) rfl rfl λsc hF n hn=> ?_
 refine Ot hF λn0 n1 n2 n3 n4 n5 n6 _=>?_;clear hF;refine iw ?_;refine aE (au (aD (ar h.ok n4 (fW h)) (af (aa n0 rfl) ao) (KX h rfl) (fY h)) (ag n0 rfl)) ?_;refine aE (au (aD (ar h.ok n5 (ot h)) (af (aa n0 rfl) ao) (KX h rfl) (oK h)) (ag n1 rfl)) ?_;refine aE (au (ay (aM (aa n0 rfl) Et (af (aa n1 rfl) ao) bp E6) aC qZ) (ag n2 rfl)) ?_;refine aE (au (aS (aa n0 rfl) (bJ bc (bH (aa n2 rfl)) bc) ej (cH fA.none (fA.int _) (by kln_le) (by decide))) (ag n3 rfl)) ?_;delta de;rcases h1:(((fj p).length:Int) !=0)with _ | _
 ·simp only [Bool.false_and,iP,↓reduceIte];delta fj at *;refine cw (aY (b7 (aX (b:=false) (aa n3 rfl) (c7 (by kln_le) (by decide) (by first | with_reducible assumption | rfl))))) ?_;exact bP (aa n3 rfl)
 ·rcases h2:(fj p !=Txt.mul "/" (fj p).length)with _ | _
  ·simp only [Bool.true_and,iP,↓reduceIte];delta fj at *;refine cw (aY (ck (aX (b:=true) (aa n3 rfl) (c7 (by kln_le) (by decide) (by first | with_reducible assumption | rfl))) (b7 (aq (c:=false) (aa n3 rfl) (ay (aa n1 rfl) (aD (ar h.ok n6 (fC h)) (af (aa n3 rfl) ao) bp (j9 (by kln_le) (by decide))) (vu (by kln_le) (by kln_le) (by decide) (by decide))) (lW (by first | with_reducible assumption | rfl)) rfl)))) ?_;exact bP (aa n3 rfl)
  ·simp only [Bool.true_and,↓reduceIte];delta fj at *;refine fH (aY (ck (aX (b:=true) (aa n3 rfl) (c7 (by kln_le) (by decide) (by first | with_reducible assumption | rfl))) (ck (aq (c:=true) (aa n3 rfl) (ay (aa n1 rfl) (aD (ar h.ok n6 (fC h)) (af (aa n3 rfl) ao) bp (j9 (by kln_le) (by decide))) (vu (by kln_le) (by kln_le) (by decide) (by decide))) (lW (by first | with_reducible assumption | rfl)) rfl) fZ))) ?_;refine aE (au (aM (aa n3 rfl) BW (af (aa n1 rfl) ao) bp (zB (by kln_le) (by decide))) (ag n3 rfl)) ?_;exact bP (aa n3 rfl)
noncomputable def c1 (p:Str):Bool:=Txt.slice p none (some 1) !="/"
noncomputable def c2 (p:Str):Bool:=Txt.slice p (some 1) (some 2) !="/"
noncomputable def c3 (p:Str):Bool:=Txt.slice p (some 2) (some 3)=="/"
noncomputable def tj (p:Str):Str×Str:=if c1 p then("",p)else if c2 p then("/",Txt.slice p (some 1) none)else if c3 p then("/",Txt.slice p (some 1) none)else(Txt.slice p none (some 2),Txt.slice p (some 2) none)
theorem tZ (h:Is C) (hp:V.B p 400):V.Ca C (k+2) Z (.ext 409) [.str p] [] (.tup [.str "",.str (tj p).1,.str (tj p).2]) Z:=by
 have hx0:=h.hx;refine lP h.ok ⟨⟨_,_,_,by rw [h.K];exact rfl⟩,rfl,rfl,rfl,rfl,by rw [h.K];rfl,rfl,rfl,by decide+kernel⟩ [lo "p",lo "sep",lo "empty",gi "fspath",gi "isinstance",gi "bytes"] rfl [("p",.str p)] _
  (bQ (gA λa0=>rfl) rfl) rfl rfl λsc hF n hn=> ?_
 refine JB hF λn0 n1 n2 n3 n4 n5 _=>?_;clear hF;refine EA (λD=>⟨True.intro,True.intro,True.intro,True.intro⟩) ?_;refine aE (au (aD (ar h.ok n3 (fW h)) (af (aa n0 rfl) ao) (KX h rfl) (fY h)) (ag n0 rfl)) ?_;refine cw (aX (b:=false) (aD (ar h.ok n4 (jy h)) (af (aa n0 rfl) (af (ar h.ok n5 (lK h)) ao)) bp mv) cu) ?_;refine aE (au aW (ag n1 rfl)) ?_;refine aE (au aW (ag n2 rfl)) ?_;delta tj;rcases h1:c1 p with _ | _
 ·rcases h2:c2 p with _ | _
  ·rcases h3:c3 p with _ | _
   ·simp only [iP,↓reduceIte];delta c1 c2 c3 at *;refine cw (aq (c:=false) (aS (aa n0 rfl) (bJ bc (bH aC) bc) ej (cH fA.none (fA.int _) (by kln_le) (by decide))) (aa n1 rfl) (lW (by first | with_reducible assumption | rfl)) rfl) ?_;refine cw (aY (ba (aq (c:=false) (aS (aa n0 rfl) (bJ (bH aC) (bH aC) bc) ej (cH (fA.int _) (fA.int _) (by kln_le) (by decide))) (aa n1 rfl) (lW (by first | with_reducible assumption | rfl)) rfl) (ba (aq (c:=false) (aS (aa n0 rfl) (bJ (bH aC) (bH aC) bc) ej (cH (fA.int _) (fA.int _) (by kln_le) (by decide))) (aa n1 rfl) (V.s_eq (by first | with_reducible assumption | rfl)) rfl) cj))) ?_;exact bP (cU (af (aa n2 rfl) (af (aS (aa n0 rfl) (bJ bc (bH aC) bc) ej (cH fA.none (fA.int _) (by kln_le) (by decide))) (af (aS (aa n0 rfl) (bJ (bH aC) bc bc) ej (cH (fA.int _) fA.none (by kln_le) (by decide))) ao))) (dX rfl))
   ·simp only [iP,↓reduceIte];delta c1 c2 c3 at *;refine cw (aq (c:=false) (aS (aa n0 rfl) (bJ bc (bH aC) bc) ej (cH fA.none (fA.int _) (by kln_le) (by decide))) (aa n1 rfl) (lW (by first | with_reducible assumption | rfl)) rfl) ?_;refine fH (aY (ba (aq (c:=false) (aS (aa n0 rfl) (bJ (bH aC) (bH aC) bc) ej (cH (fA.int _) (fA.int _) (by kln_le) (by decide))) (aa n1 rfl) (lW (by first | with_reducible assumption | rfl)) rfl) (c8 (aq (c:=true) (aS (aa n0 rfl) (bJ (bH aC) (bH aC) bc) ej (cH (fA.int _) (fA.int _) (by kln_le) (by decide))) (aa n1 rfl) (V.s_eq (by first | with_reducible assumption | rfl)) rfl)))) ?_;exact bP (cU (af (aa n2 rfl) (af (aa n1 rfl) (af (aS (aa n0 rfl) (bJ (bH aC) bc bc) ej (cH (fA.int _) fA.none (by kln_le) (by decide))) ao))) (dX rfl))
  ·simp only [iP,↓reduceIte];delta c1 c2 at *;refine cw (aq (c:=false) (aS (aa n0 rfl) (bJ bc (bH aC) bc) ej (cH fA.none (fA.int _) (by kln_le) (by decide))) (aa n1 rfl) (lW (by first | with_reducible assumption | rfl)) rfl) ?_;refine fH (aY (c8 (aq (c:=true) (aS (aa n0 rfl) (bJ (bH aC) (bH aC) bc) ej (cH (fA.int _) (fA.int _) (by kln_le) (by decide))) (aa n1 rfl) (lW (by first | with_reducible assumption | rfl)) rfl))) ?_;exact bP (cU (af (aa n2 rfl) (af (aa n1 rfl) (af (aS (aa n0 rfl) (bJ (bH aC) bc bc) ej (cH (fA.int _) fA.none (by kln_le) (by decide))) ao))) (dX rfl))
 ·simp only [↓reduceIte];delta c1 at *;refine fH (aq (c:=true) (aS (aa n0 rfl) (bJ bc (bH aC) bc) ej (cH fA.none (fA.int _) (by kln_le) (by decide))) (aa n1 rfl) (lW (by first | with_reducible assumption | rfl)) rfl) ?_;exact bP (cU (af (aa n2 rfl) (af (aa n2 rfl) (af (aa n0 rfl) ao))) (dX rfl))
noncomputable def d0 (a b:Str):Str:=if Txt.startswith b "/"then b else if(a.length:Int) !=0 then(if Txt.endswith a "/"then a++b else a++("/"++b))else b
theorem Iu (h:Is C) (ha:V.B a 200) (hb:V.B b 200):V.Ca C (k+2) Z (.ext 402) [.str a,.str b] [] (.str (d0 a b)) Z:=by
 have hx0:=h.hx;refine lP h.ok ⟨⟨_,_,_,by rw [h.K];exact rfl⟩,rfl,rfl,rfl,rfl,by rw [h.K];rfl,rfl,rfl,by decide+kernel⟩ [lo "a",lo "p",lo "sep",lo "path",lo "b",gi "fspath",gi "_get_sep",gi "TypeError",gi "AttributeError",gi "BytesWarning",gi "_check_arg_types"] rfl ([(Str.ofString "a",.str a)]++ [(Str.ofString "p",.tup [.str b])]) _
  (tf (as:= [.str a]) (rest:= [.str b]) (gA λx=>gA λy=>rfl) rfl (dX rfl)) rfl rfl λsc hF n hn=> ?_
 refine tK hF λn0 n1 n2 n3 n4 n5 n6 n7 q=>ku q λn8 n9 n10 _=>?_;clear hF;refine iw ?_;refine aE (au (aD (ar h.ok n5 (fW h)) (af (aa n0 rfl) ao) (KX h rfl) (fY h)) (ag n0 rfl)) ?_;refine aE (au (aD (ar h.ok n6 (ot h)) (af (aa n0 rfl) ao) (KX h rfl) (oK h)) (ag n2 rfl)) ?_;refine aE (au (aa n0 rfl) (ag n3 rfl)) ?_;delta d0;rcases h1:Txt.startswith b (Str.ofString "/")with _ | _
 ·rcases h2:((a.length:Int) !=0)with _ | _
  ·simp only [iP,↓reduceIte];refine aE (mF (aJ (jv (f:= .next) (aa n1 rfl) iA trivial (V.Lr.cons trivial (ag n4 rfl) (aJ (au (aD (ar h.ok n5 (fW h)) (af (aa n4 rfl) ao) (KX h rfl) (fY h)) (ag n4 rfl)) (dy (aY (ba (aX (b:=false) (aM (aa n4 rfl) gH (af (aa n2 rfl) ao) bp (gF (by first | with_reducible assumption | rfl))) cu) (c8 (d7 (aX (b:=false) (aa n3 rfl) (c7 (by kln_le) (by decide) (by first | with_reducible assumption | rfl))))))) (aJ (au (aa n4 rfl) (ag n3 rfl)) (bz)))) (.inl rfl) (V.Lr.nil trivial)) (λu v=>rfl)) (bz))) ?_;exact bP (aa n3 rfl)
  ·rcases h3:Txt.endswith a (Str.ofString "/")with _ | _
   ·simp only [iP,↓reduceIte];refine aE (mF (aJ (jv (f:= .next) (aa n1 rfl) iA trivial (V.Lr.cons trivial (ag n4 rfl) (aJ (au (aD (ar h.ok n5 (fW h)) (af (aa n4 rfl) ao) (KX h rfl) (fY h)) (ag n4 rfl)) (cg (aY (ba (aX (b:=false) (aM (aa n4 rfl) gH (af (aa n2 rfl) ao) bp (gF (by first | with_reducible assumption | rfl))) cu) (ba (d7 (aX (b:=true) (aa n3 rfl) (c7 (by kln_le) (by decide) (by first | with_reducible assumption | rfl)))) cj))) (cg (aX (b:=false) (aM (aa n3 rfl) o7 (af (aa n2 rfl) ao) bp (pj (by first | with_reducible assumption | rfl))) cu) (aJ (k9 n3 rfl (ay (aa n2 rfl) (aa n4 rfl) (dB (by kln_le) (by kln_le) (by decide))) (nH (by kln_le) (by kln_le) (by decide)) rfl) (bz))))) (.inl rfl) (V.Lr.nil trivial)) (λu v=>rfl)) (bz))) ?_;exact bP (aa n3 rfl)
   ·simp only [iP,↓reduceIte];refine aE (mF (aJ (jv (f:= .next) (aa n1 rfl) iA trivial (V.Lr.cons trivial (ag n4 rfl) (aJ (au (aD (ar h.ok n5 (fW h)) (af (aa n4 rfl) ao) (KX h rfl) (fY h)) (ag n4 rfl)) (cg (aY (ba (aX (b:=false) (aM (aa n4 rfl) gH (af (aa n2 rfl) ao) bp (gF (by first | with_reducible assumption | rfl))) cu) (ba (d7 (aX (b:=true) (aa n3 rfl) (c7 (by kln_le) (by decide) (by first | with_reducible assumption | rfl)))) cj))) (dy (aX (b:=true) (aM (aa n3 rfl) o7 (af (aa n2 rfl) ao) bp (pj (by first | with_reducible assumption | rfl))) cu) (aJ (k9 n3 rfl (aa n4 rfl) (nH (by kln_le) (by kln_le) (by decide)) rfl) (bz))))) (.inl rfl) (V.Lr.nil trivial)) (λu v=>rfl)) (bz))) ?_;exact bP (aa n3 rfl)
 ·simp only [↓reduceIte];refine aE (mF (aJ (jv (f:= .next) (aa n1 rfl) iA trivial (V.Lr.cons trivial (ag n4 rfl) (aJ (au (aD (ar h.ok n5 (fW h)) (af (aa n4 rfl) ao) (KX h rfl) (fY h)) (ag n4 rfl)) (dy (aY (c8 (aX (b:=true) (aM (aa n4 rfl) gH (af (aa n2 rfl) ao) bp (gF (by first | with_reducible assumption | rfl))) cu))) (aJ (au (aa n4 rfl) (ag n3 rfl)) (bz)))) (.inl rfl) (V.Lr.nil trivial)) (λu v=>rfl)) (bz))) ?_;exact bP (aa n3 rfl)
noncomputable def gu (p:Str):Str:=Gd p
theorem hsp (h:Is C) (hp:V.B p 400) (h1:c1 p=false) (h2:c2 p=true):V.Ca C (k+2) Z (.ext 409) [.str p] [] (.tup [.str "",.str "/",.str (Txt.slice p (some 1) none)]) Z:=by have:=tZ h (k:=k) (Z:=Z) hp;unfold tj at this;simpa only [h1,h2,iP,↓reduceIte]using this
theorem BZ:(((Str.ofString "/"++y).length:Int) !=0)=true:=by
 rw [size_cat];have:(Str.ofString "/").length=1:=by rfl
 rw [bne_iff_ne];omega
theorem wG (h:Is C) (hp:V.B p 400) (h0:((p.length:Int) !=0)=true) (h1:c1 p=false) (h2:c2 p=true):V.Ca C (k+3) Z (.ext 423) [.str p] [] (.str (gu p)) Z:=by
 have hx0:=h.hx;refine lP h.ok ⟨⟨_,_,_,by rw [h.K];exact rfl⟩,rfl,rfl,rfl,rfl,by rw [h.K];rfl,rfl,rfl,by decide+kernel⟩ [lo "path",lo "sep",lo "dot",lo "dotdot",lo "_",lo "initial_slashes",lo "comps",lo "new_comps",lo "comp",gi "fspath",gi "isinstance",gi "bytes",gi "splitroot"] rfl [("path",.str p)] _
  (bQ (gA λa0=>rfl) rfl) rfl rfl λsc hF n hn=> ?_
 refine tK hF λn0 n1 n2 n3 n4 n5 n6 n7 t=>Gy t λn8 n9 n10 AA n12 _=>?_;clear hF;have hl:Z ⟨n,Str.empty⟩=none:=hn _ (bT _);have hs:=V.split_len (y:="/") (yo (l:=some 1) (u:=none) hp);have hf:=Af (Txt.split (Txt.slice p (some 1) none) "/") [];have hf1:((Txt.split (Txt.slice p (some 1) none) "/").foldl dh []).length<=1000:=by have:=hf.1;simp only [ic]at this;omega
 have hf2: ∀y∈(Txt.split (Txt.slice p (some 1) none) "/").foldl dh [],y.length<=1000:=λy hy=>by
  refine aP (hf.2 y hy) (λz=>?_) λz=>?_
  ·exact jc z
  ·have:=hs.2 y z;omega
 have O7:=Ih (x:="/") (by decide) hf2 hf1;refine CY (l:=⟨n,Str.empty⟩) (o:= .list (((Txt.split (Txt.slice p (some 1) none) "/").foldl dh []).map .str)) hl cc ?_;refine aE (au (aD (ar h.ok n9 (fW h)) (af (aa n0 rfl) ao) (KX h rfl) (fY h)) (ag n0 rfl)) ?_;refine cw (aX (b:=false) (aD (ar h.ok n10 (jy h)) (af (aa n0 rfl) (af (ar h.ok AA (lK h)) ao)) bp mv) cu) ?_;refine aE (au aW (ag n1 rfl)) ?_;refine aE (au aW (ag n2 rfl)) ?_;refine aE (au aW (ag n3 rfl)) ?_;refine cw (d7 (aX (b:=true) (aa n0 rfl) (c7 (by kln_le) (by decide) (by first | with_reducible assumption | rfl)))) ?_;refine aE (au (aD (ar h.ok n12 (vL h)) (af (aa n0 rfl) ao) (KX h rfl) (hsp h hp h1 h2)) (i0 (cE (ag n4 rfl) (cE (ag n5 rfl) (cE (ag n0 rfl) kq))) rfl (λv=>rfl) (λv=>rfl))) ?_;refine aE (au (aM (aa n0 rfl) sW (af (aa n1 rfl) ao) bp (r9 rfl (by kln_le) (by decide) (qw (by kln_le) (by decide)) rfl)) (ag n6 rfl)) ?_;refine aE (au (dU ⟨n,Str.empty⟩ ao (dW _) hl) (ag n7 rfl)) ?_;refine iH (aa n6 rfl) i9 (.lst _) (iF (C:=C) (k:=k+2) (sc:=sc) (ok:=λaB=>V.IsL aB (.lst ((Txt.split (Txt.slice p (some 1) none) "/").map .str)) ((Txt.split (Txt.slice p (some 1) none) "/").map .str)) (enc:=V.AV.str)
    (M:=λ(a:List Str×Option V.AV)=> [some (.str (Txt.slice p (some 1) none)),some (.str "/"),some (.str "."),some (.str ".."),some (.str ""),some (.str "/"),some (.lst ((Txt.split (Txt.slice p (some 1) none) "/").map .str)),some (.loc ⟨n,Str.empty⟩),a.2,none,none,none,none])
    (Sg:=λa=>Z.set ⟨n,Str.empty⟩ (.list (a.1.map .str))) (step:=λa c=>(dh a.1 c,some (.str c))) (P:=λa xs=>a.1.length+xs.length<=1000/\ ∀y∈xs,V.B y 400)
    (λv w g=> .lst _) (λa x xs hP=>by
     refine⟨?_,λy hy=>hP.2 y (.tail _ hy)⟩;have h8:=(qS a.1 x).1;have h9:=hP.1;rw [cq]at h9;refine(?_:(dh a.1 x).length+_<=_);omega) ?_ (Txt.split (Txt.slice p (some 1) none) "/") ([],none) ⟨by have:=hs.1;simp only [ic];omega,λy hy=>hs.2 y hy⟩) (λv w=>rfl) ?_
 ·rintro ⟨acc,o⟩ c xs hP
  refine bG hP λhP hB=>?_;have hP:acc.length+(c::xs).length<=1000:=hP;rw [cq]at hP;have hc:V.B c 400:=hB c (.head _);have hz:(acc.map V.AV.str).length<=1000:=by rw [bu];omega
  have line: ∀{n:Nat},n<=1000->n<=sizeLine:=λh=>aV h (by decide);change V.Turn _ _ _ _ _ (.str c) [_,_,_,_,_,_,_,_,o,none,none,none,none] (Z.set ⟨n,Str.empty⟩ (.list (acc.map V.AV.str))) [_,_,_,_,_,_,_,_,some (.str c),none,none,none,none] (Z.set ⟨n,Str.empty⟩ (.list ((dh acc c).map V.AV.str)));rcases q1:((c.length:Int) !=0)with _ | _
  ·have e:dh acc c=acc:=by delta dh;rw [aG q1]
   rw [e];refine qe (ag n8 rfl) ?_;refine dy (aY (c8 (d7 (aX (b:=false) (aa n8 rfl) (c7 (by kln_le) (by decide) (by first | with_reducible assumption | rfl)))))) ?_;exact rN
  rcases q2:(c==".")with _ | _
  rotate_left
  ·have e:dh acc c=acc:=by delta dh;rw [az (by rw [q1];decide),aG q2]
   rw [e];refine qe (ag n8 rfl) ?_;refine dy (aY (ba (d7 (aX (b:=true) (aa n8 rfl) (c7 (by kln_le) (by decide) (by first | with_reducible assumption | rfl)))) (c8 (aq (c:=true) (aa n8 rfl) (aa n2 rfl) (V.s_eq (by first | with_reducible assumption | rfl)) rfl)))) ?_;exact rN
  rcases q3:(c !="..")with _ | _
  rotate_left
  ·have e:dh acc c=acc++ [c]:=by delta dh;rw [az (by rw [q1];decide),az (by rw [q2];decide),aG q3]
   rw [e];simp only [fk,dj,List.map_nil];refine cx (ag n8 rfl) ?_;refine cg (aY (ba (d7 (aX (b:=true) (aa n8 rfl) (c7 (by kln_le) (by decide) (by first | with_reducible assumption | rfl)))) (ba (aq (c:=false) (aa n8 rfl) (aa n2 rfl) (V.s_eq (by first | with_reducible assumption | rfl)) rfl) cj))) ?_;refine dy (aY (c8 (aq (c:=true) (aa n8 rfl) (aa n3 rfl) (lW (by first | with_reducible assumption | rfl)) rfl))) ?_;refine aJ (cv (aM (aa n7 rfl) iS (af (aa n8 rfl) ao) bp (iT (line (by simp at hz hP⊢ <;>omega))))) ?_;exact bz
  have q4:(("/".length:Int) !=0)=true:=by rfl
  have O8:acc= []\/ ∃L l0,acc=L++ [l0]:=by
   by_cases hne:acc= []
   ·exact .inl hne
   ·exact .inr ⟨acc.dropLast,acc.getLast hne,(List.dropLast_concat_getLast hne).symm⟩
  rcases O8 with rfl | ⟨L,l0,rfl⟩
  ·have e:dh [] c= []:=by delta dh;rw [az (by rw [q1];decide),az (by rw [q2];decide),az (by rw [q3];decide),aG (show([]:List Str).isEmpty=true from rfl)]
   rw [e];refine cx (ag n8 rfl) ?_;refine cg (aY (ba (d7 (aX (b:=true) (aa n8 rfl) (c7 (by kln_le) (by decide) (by first | with_reducible assumption | rfl)))) (ba (aq (c:=false) (aa n8 rfl) (aa n2 rfl) (V.s_eq (by first | with_reducible assumption | rfl)) rfl) cj))) ?_;refine cg (aY (ba (aq (c:=false) (aa n8 rfl) (aa n3 rfl) (lW (by first | with_reducible assumption | rfl)) rfl) (ba (aY (b7 (d7 (aX (b:=true) (aa n5 rfl) (c7 (by kln_le) (by decide) (by first | with_reducible assumption | rfl)))))) (ba (aY (b7 (aX (b:=false) (aa n7 rfl) (lH (line (by simp at hz hP⊢ <;>omega)) (by first | with_reducible assumption | rfl))))) cj)))) ?_;refine cg (aX (b:=false) (aa n7 rfl) (lH (line (by simp at hz hP⊢ <;>omega)) (by first | with_reducible assumption | rfl))) ?_;exact bz
  have em:(L++ [l0]).isEmpty=false:=by simp
  have PC:(!(L.map V.AV.str++ [V.AV.str l0]).isEmpty)=true:=by simp
  have gl:((L++ [l0]).getLast?.getD Str.empty)=l0:=by simp
  rcases q5:(l0=="..")with _ | _
  ·have e:dh (L++ [l0]) c=L:=by delta dh;rw [az (by rw [q1];decide),az (by rw [q2];decide),az (by rw [q3];decide),az (by rw [em];decide),gl,az (by rw [q5];decide),List.dropLast_concat]
   rw [e];simp only [fk,dj,List.map_nil];refine cx (ag n8 rfl) ?_;refine cg (aY (ba (d7 (aX (b:=true) (aa n8 rfl) (c7 (by kln_le) (by decide) (by first | with_reducible assumption | rfl)))) (ba (aq (c:=false) (aa n8 rfl) (aa n2 rfl) (V.s_eq (by first | with_reducible assumption | rfl)) rfl) cj))) ?_;refine cg (aY (ba (aq (c:=false) (aa n8 rfl) (aa n3 rfl) (lW (by first | with_reducible assumption | rfl)) rfl) (ba (aY (b7 (d7 (aX (b:=true) (aa n5 rfl) (c7 (by kln_le) (by decide) (by first | with_reducible assumption | rfl)))))) (ba (aY (ck (aX (b:=true) (aa n7 rfl) (lH (line (by simp at hz hP⊢ <;>omega)) (by first | with_reducible assumption | rfl))) (b7 (aq (c:=false) (aS (aa n7 rfl) (dD aC qh) (bk (.loc V.set_same)) (o6 (x:= .str l0) (by decide) (by simp<;>omega) (by decide) i7)) (aa n3 rfl) (V.s_eq (by first | with_reducible assumption | rfl)) rfl)))) cj)))) ?_;refine dy (aX (b:=true) (aa n7 rfl) (lH (line (by simp at hz hP⊢ <;>omega)) (by first | with_reducible assumption | rfl))) ?_;refine aJ (cv (aM (aa n7 rfl) H9 ao bp (G0 (line (by simp at hz hP⊢ <;>omega))))) ?_;exact bz
  ·have e:dh (L++ [l0]) c=L++ [l0]++ [c]:=by delta dh;rw [az (by rw [q1];decide),az (by rw [q2];decide),az (by rw [q3];decide),az (by rw [em];decide),gl,aG q5]
   rw [e];simp only [fk,dj,List.map_nil];refine cx (ag n8 rfl) ?_;refine cg (aY (ba (d7 (aX (b:=true) (aa n8 rfl) (c7 (by kln_le) (by decide) (by first | with_reducible assumption | rfl)))) (ba (aq (c:=false) (aa n8 rfl) (aa n2 rfl) (V.s_eq (by first | with_reducible assumption | rfl)) rfl) cj))) ?_;refine dy (aY (ba (aq (c:=false) (aa n8 rfl) (aa n3 rfl) (lW (by first | with_reducible assumption | rfl)) rfl) (ba (aY (b7 (d7 (aX (b:=true) (aa n5 rfl) (c7 (by kln_le) (by decide) (by first | with_reducible assumption | rfl)))))) (c8 (aY (ck (aX (b:=true) (aa n7 rfl) (lH (line (by simp at hz hP⊢ <;>omega)) (by first | with_reducible assumption | rfl))) (ck (aq (c:=true) (aS (aa n7 rfl) (dD aC qh) (bk (.loc V.set_same)) (o6 (x:= .str l0) (by decide) (by simp<;>omega) (by decide) i7)) (aa n3 rfl) (V.s_eq (by first | with_reducible assumption | rfl)) rfl) fZ))))))) ?_;refine aJ (cv (aM (aa n7 rfl) iS (af (aa n8 rfl) ao) bp (iT (line (by simp at hz hP⊢ <;>omega))))) ?_;exact bz
 ·have pr: ∀(xs:List Str) (a:List Str×Option V.AV),(xs.foldl (λa c=>(dh a.1 c,some (V.AV.str c))) a).1=xs.foldl dh a.1:=by
   intro xs
   induction xs with
   | nil=>intro a;rfl
   | cons x xs ih=>intro a;exact ih _
  rw [pr];have hbn:V.B (gu p) 1100001:=f9 (iY rfl) O7;have hne:(((gu p).length:Int) !=0)=true:=BZ;refine aE (au (aa n7 rfl) (ag n6 rfl)) ?_;refine aE (au (ay (aa n5 rfl) (aM (aa n1 rfl) xj (af (aa n6 rfl) ao) bp (w5 (.loc V.set_same) (qK (by decide) hf2 hf1))) (dB (by kln_le) (by kln_le) (by decide))) (ag n0 rfl)) ?_;exact bP (eT (mz (aa n0 rfl) (c7 (by kln_le) (by decide) (by first | with_reducible assumption | rfl))))
theorem zJ (h:Is C) (hok:x.cps.all nF=true) (hx:x.length<=1000000):V.Ca C k Z (.bi "re.Pattern.search") [.ext 48,.str x] [] .none Z:=
 uZ h.ok (ct:=47) (code:=V.codeN) (by rw [h.K];exact rfl) (by rw [h.K];exact rfl) (by exact rfl) (by exact rfl) (by exact rfl) (by kernel_rfl) MR rfl rfl hok hx
theorem zg (h:Is C):V.Mt C k Z (.ext 48) "search" (.bi "re.Pattern.search"):=uo h.ok (by rw [h.K];exact rfl)
theorem zX (h:Is C) (hok:x.cps.all nF=true) (hx:x.length<=1000000):V.Ca C k Z (.bi "re.Pattern.search") [.ext 53,.str x] [] .none Z:=
 uZ h.ok (ct:=52) (code:=V.codeV) (by rw [h.K];exact rfl) (by rw [h.K];exact rfl) (by exact rfl) (by exact rfl) (by exact rfl) (by kernel_rfl) Mz rfl rfl hok hx
theorem zw (h:Is C):V.Mt C k Z (.ext 53) "search" (.bi "re.Pattern.search"):=uo h.ok (by rw [h.K];exact rfl)
theorem s9 (h:Is C) (hx:x.length<=1000000) (hok:x.cps.all nF=true):V.Ca C (k+1) Z (.ext 83) [sv,.str x] [("name",.bool b)] (.str x) Z:=by
 have hx0:=h.hx;refine lP h.ok ⟨⟨_,_,_,by rw [h.K];exact rfl⟩,rfl,rfl,rfl,rfl,by rw [h.K];rfl,rfl,rfl,by decide+kernel⟩ [lo "self",lo "value",lo "name",lo "regex",gi "type",gi "str",gi "_name_disallowed_re",gi "_value_disallowed_re",gi "ValueError",gi "AssertionError",gi "repr"] rfl [("self",sv),("value",.str x),("name",.bool b)] Z
  (Iw (λa0 a1 a2=>by kernel_rfl)) rfl rfl λsc hF n hn=> ?_
 refine tK hF λn0 n1 n2 n3 n4 n5 n6 n7 q=>ku q λn8 n9 n10 _=>?_;clear hF;refine iw ?_;cases b
 ·skip
  refine fH (aq (c:=true) (aD (ar h.ok n4 (sX h)) (af (aa n1 rfl) ao) cL (rR sC.at (by decide))) (ar h.ok n5 (kG h)) (Gx rfl rfl) rfl) ?_;refine aE (au (b8 (aX (b:=false) (aa n2 rfl) cu) (ar h.ok n7 (jm h))) (ag n3 rfl)) ?_;refine cw (aX (b:=false) (aM (aa n3 rfl) (zw h) (af (aa n1 rfl) ao) bp (zX h (by assumption) (by assumption))) rY) ?_;exact bP (aa n1 rfl)
 ·skip
  refine fH (aq (c:=true) (aD (ar h.ok n4 (sX h)) (af (aa n1 rfl) ao) cL (rR sC.at (by decide))) (ar h.ok n5 (kG h)) (Gx rfl rfl) rfl) ?_;refine aE (au (b8 (aX (b:=true) (aa n2 rfl) cu) (ar h.ok n6 (jI h))) (ag n3 rfl)) ?_;refine cw (aX (b:=false) (aM (aa n3 rfl) (zg h) (af (aa n1 rfl) ao) bp (zJ h (by assumption) (by assumption))) rY) ?_;exact bP (aa n1 rfl)
theorem Dt (h:Is C):V.ExcAt C.K 222 [.type "ValueError",.type "Exception",.type "BaseException",.type "object"] "ValueError.__new__":=by rw [h.K];exact⟨_,221,_,_,_,_,_,_,_,_,_,_,_,_,_,_,rfl,by kernel_rfl,by kernel_rfl,by kernel_rfl⟩
theorem eU (h:Is C) (hl:Z l=some (.inst 304 d)) (hd:Z d=some (.dict [("_node2info",v0),("_ready_nodes",v1),("_npassedout",v2),("_nfinished",v3)])) (hv: ∀id,v0≠ .bi id) (ha:v0≠ .any):
  ib C k Z (λx=>getAttr x "_node2info" true) (.loc l) (λW r=>aw W v0 r) Z:=by
 refine lX h.ok hl hd (i:=0) (by rw [h.K];kernel_rfl) rfl ?_ hv ha;intro xs n r
 revert xs
 refine kS ?_;intro x0 x1 x2 x3 hr;obtain rfl:x0.2=r:=dI hr;rw [h.K];kernel_rfl
theorem kH (h:Is C) (hl:Z l=some (.inst 304 d)) (hd:Z d=some (.dict [("_node2info",v0),("_ready_nodes",v1),("_npassedout",v2),("_nfinished",v3)])) (hv: ∀id,v1≠ .bi id) (ha:v1≠ .any):
  ib C k Z (λx=>getAttr x "_ready_nodes" true) (.loc l) (λW r=>aw W v1 r) Z:=by
 refine lX h.ok hl hd (i:=1) (by rw [h.K];kernel_rfl) rfl ?_ hv ha;intro xs n r
 revert xs
 refine kS ?_;intro x0 x1 x2 x3 hr;obtain rfl:x1.2=r:=dI hr;rw [h.K];kernel_rfl
theorem tA (h:Is C) (hl:Z l=some (.inst 304 d)) (hd:Z d=some (.dict [("_node2info",v0),("_ready_nodes",v1),("_npassedout",v2),("_nfinished",v3)])) (hv: ∀id,v2≠ .bi id) (ha:v2≠ .any):
  ib C k Z (λx=>getAttr x "_npassedout" true) (.loc l) (λW r=>aw W v2 r) Z:=by
 refine lX h.ok hl hd (i:=2) (by rw [h.K];kernel_rfl) rfl ?_ hv ha;intro xs n r
 revert xs
 refine kS ?_;intro x0 x1 x2 x3 hr;obtain rfl:x2.2=r:=dI hr;rw [h.K];kernel_rfl
theorem vV (h:Is C) (hl:Z l=some (.inst 304 d)) (hd:Z d=some (.dict [("_node2info",v0),("_ready_nodes",v1),("_npassedout",v2),("_nfinished",v3)])) (hv: ∀id,v3≠ .bi id) (ha:v3≠ .any):
  ib C k Z (λx=>getAttr x "_nfinished" true) (.loc l) (λW r=>aw W v3 r) Z:=by
 refine lX h.ok hl hd (i:=3) (by rw [h.K];kernel_rfl) rfl ?_ hv ha;intro xs n r
 revert xs
 refine kS ?_;intro x0 x1 x2 x3 hr;obtain rfl:x3.2=r:=dI hr;rw [h.K];kernel_rfl
theorem kN (h:Is C) (hl:Z l=some (.inst 304 d)) (hd:Z d=some (.dict [("_node2info",v0),("_ready_nodes",v1),("_npassedout",v2),("_nfinished",v3)])):
  di C k Z (λx y=>setAttr x "_ready_nodes" y) (.loc l) v (λu w=>True) (Z.set d (.dict [("_node2info",v0),("_ready_nodes",v),("_npassedout",v2),("_nfinished",v3)])):=by
 exact iB h.ok hl hd (by rw [h.K];kernel_rfl) (by rw [h.K];kernel_rfl) (by rw [h.K];kernel_rfl) (by rw [h.K];kernel_rfl) (by kernel_rfl) (dX rfl)
theorem tC (h:Is C) (hl:Z l=some (.inst 304 d)) (hd:Z d=some (.dict [("_node2info",v0),("_ready_nodes",v1),("_npassedout",v2),("_nfinished",v3)])):
  di C k Z (λx y=>setAttr x "_npassedout" y) (.loc l) v (λu w=>True) (Z.set d (.dict [("_node2info",v0),("_ready_nodes",v1),("_npassedout",v),("_nfinished",v3)])):=by
 exact iB h.ok hl hd (by rw [h.K];kernel_rfl) (by rw [h.K];kernel_rfl) (by rw [h.K];kernel_rfl) (by rw [h.K];kernel_rfl) (by kernel_rfl) (dX rfl)
theorem tW (h:Is C) (hl:Z l=some (.inst 304 d)) (hd:Z d=some (.dict [("_node2info",v0),("_ready_nodes",v1),("_npassedout",v2),("_nfinished",v3)])):
  di C k Z (λx y=>setAttr x "_nfinished" y) (.loc l) v (λu w=>True) (Z.set d (.dict [("_node2info",v0),("_ready_nodes",v1),("_npassedout",v2),("_nfinished",v)])):=by
 exact iB h.ok hl hd (by rw [h.K];kernel_rfl) (by rw [h.K];kernel_rfl) (by rw [h.K];kernel_rfl) (by rw [h.K];kernel_rfl) (by kernel_rfl) (dX rfl)
theorem uC (h:Is C) (hl:Z l=some (.inst 304 d)) (hd:Z d=some (.dict [])):
  di C k Z (λx y=>setAttr x "_node2info" y) (.loc l) v (λu w=>True) (Z.set d (.dict [("_node2info",v)])):=by
 exact iB h.ok hl hd (by rw [h.K];kernel_rfl) (by rw [h.K];kernel_rfl) (by rw [h.K];kernel_rfl) (by rw [h.K];kernel_rfl) (by kernel_rfl) (dX rfl)
theorem pW (h:Is C) (hl:Z l=some (.inst 304 d)) (hd:Z d=some (.dict [("_node2info",v0)])):
  di C k Z (λx y=>setAttr x "_ready_nodes" y) (.loc l) v (λu w=>True) (Z.set d (.dict [("_node2info",v0),("_ready_nodes",v)])):=by
 exact iB h.ok hl hd (by rw [h.K];kernel_rfl) (by rw [h.K];kernel_rfl) (by rw [h.K];kernel_rfl) (by rw [h.K];kernel_rfl) (by kernel_rfl) (dX rfl)
theorem sS (h:Is C) (hl:Z l=some (.inst 304 d)) (hd:Z d=some (.dict [("_node2info",v0),("_ready_nodes",v1)])):
  di C k Z (λx y=>setAttr x "_npassedout" y) (.loc l) v (λu w=>True) (Z.set d (.dict [("_node2info",v0),("_ready_nodes",v1),("_npassedout",v)])):=by
 exact iB h.ok hl hd (by rw [h.K];kernel_rfl) (by rw [h.K];kernel_rfl) (by rw [h.K];kernel_rfl) (by rw [h.K];kernel_rfl) (by kernel_rfl) (dX rfl)
theorem tX (h:Is C) (hl:Z l=some (.inst 304 d)) (hd:Z d=some (.dict [("_node2info",v0),("_ready_nodes",v1),("_npassedout",v2)])):
  di C k Z (λx y=>setAttr x "_nfinished" y) (.loc l) v (λu w=>True) (Z.set d (.dict [("_node2info",v0),("_ready_nodes",v1),("_npassedout",v2),("_nfinished",v)])):=by
 exact iB h.ok hl hd (by rw [h.K];kernel_rfl) (by rw [h.K];kernel_rfl) (by rw [h.K];kernel_rfl) (by rw [h.K];kernel_rfl) (by kernel_rfl) (dX rfl)
theorem rh (h:Is C) (hl:Z l=some (.inst 184 d)) (hd:Z d=some (.dict [("_headers",v0)])) (hv: ∀id,v0≠ .bi id) (ha:v0≠ .any):
  ib C k Z (λx=>getAttr x "_headers" true) (.loc l) (λW r=>aw W v0 r) Z:=by
 refine lX h.ok hl hd (i:=0) (by rw [h.K];kernel_rfl) rfl ?_ hv ha;intro xs n r
 revert xs
 refine gA ?_;intro x0 hr;obtain rfl:x0.2=r:=dI hr;rw [h.K];kernel_rfl
theorem y0 (h:Is C) (hl:Z l=some (.inst 184 d)) (hd:Z d=some (.dict [])):
  di C k Z (λx y=>setAttr x "_headers" y) (.loc l) v (λu w=>True) (Z.set d (.dict [("_headers",v)])):=by
 exact iB h.ok hl hd (by rw [h.K];kernel_rfl) (by rw [h.K];kernel_rfl) (by rw [h.K];kernel_rfl) (by rw [h.K];kernel_rfl) (by kernel_rfl) (dX rfl)
theorem jF (h:Is C) (hl:Z l=some (.inst 304 d)) (hd:Z d=some (.dict [("_node2info",v0),("_ready_nodes",v1),("_npassedout",v2),("_nfinished",v3)])):V.Mt C k Z (.loc l) "_get_nodeinfo" (.ext 247):=
 qm h.ok hl hd (by rw [h.K];kernel_rfl) (by rw [h.K];kernel_rfl) (by rw [h.K];kernel_rfl) (by rw [h.K];kernel_rfl) (λxs n=>by revert xs;exact kS λx0 x1 x2 x3=>by kernel_rfl)
theorem qX (h:Is C) (hl:Z l=some (.inst 304 d)) (hd:Z d=some (.dict [("_node2info",v0),("_ready_nodes",v1),("_npassedout",v2),("_nfinished",v3)])):V.Mt C k Z (.loc l) "prepare" (.ext 259):=
 qm h.ok hl hd (by rw [h.K];kernel_rfl) (by rw [h.K];kernel_rfl) (by rw [h.K];kernel_rfl) (by rw [h.K];kernel_rfl) (λxs n=>by revert xs;exact kS λx0 x1 x2 x3=>by kernel_rfl)
theorem mM (h:Is C) (hl:Z l=some (.inst 304 d)) (hd:Z d=some (.dict [("_node2info",v0),("_ready_nodes",v1),("_npassedout",v2),("_nfinished",v3)])):V.Mt C k Z (.loc l) "get_ready" (.ext 266):=
 qm h.ok hl hd (by rw [h.K];kernel_rfl) (by rw [h.K];kernel_rfl) (by rw [h.K];kernel_rfl) (by rw [h.K];kernel_rfl) (λxs n=>by revert xs;exact kS λx0 x1 x2 x3=>by kernel_rfl)
theorem jW (h:Is C) (hl:Z l=some (.inst 304 d)) (hd:Z d=some (.dict [("_node2info",v0),("_ready_nodes",v1),("_npassedout",v2),("_nfinished",v3)])):V.Mt C k Z (.loc l) "is_active" (.ext 273):=
 qm h.ok hl hd (by rw [h.K];kernel_rfl) (by rw [h.K];kernel_rfl) (by rw [h.K];kernel_rfl) (by rw [h.K];kernel_rfl) (λxs n=>by revert xs;exact kS λx0 x1 x2 x3=>by kernel_rfl)
theorem fJ (h:Is C) (hl:Z l=some (.inst 304 d)) (hd:Z d=some (.dict [("_node2info",v0),("_ready_nodes",v1),("_npassedout",v2),("_nfinished",v3)])):V.Mt C k Z (.loc l) "_find_cycle" (.ext 294):=
 qm h.ok hl hd (by rw [h.K];kernel_rfl) (by rw [h.K];kernel_rfl) (by rw [h.K];kernel_rfl) (by rw [h.K];kernel_rfl) (λxs n=>by revert xs;exact kS λx0 x1 x2 x3=>by kernel_rfl)
theorem cJ (h:Is C) (hl:Z l=some (.inst 184 d)) (hd:Z d=some (.dict [("_headers",v0)])):V.Mt C k Z (.loc l) "_convert_string_type" (.ext 83):=
 qm h.ok hl hd (by rw [h.K];kernel_rfl) (by rw [h.K];kernel_rfl) (by rw [h.K];kernel_rfl) (by rw [h.K];kernel_rfl) (λxs n=>by revert xs;exact gA λx0=>by kernel_rfl)
theorem yr (h:Is C) (hl:AE Z l 207 d vs) (hi:vs[0]? =some (some v)) (hv: ∀id,v≠ .bi id) (ha:v≠ .any):
  ib C k Z (λx=>getAttr x "node" true) (.loc l) (λW r=>aw W v r) Z:=
 sV (p:=208) h.ok hl (by rw [h.K];kernel_rfl) (by rw [h.K];kernel_rfl) (by rw [h.K];kernel_rfl) (by rw [h.K];kernel_rfl) (by rw [h.K];kernel_rfl) (by rw [h.K];kernel_rfl) (by rw [h.K];kernel_rfl) hi hv ha
theorem FO (h:Is C) (hl:AE Z l 207 d vs):
  di C k Z (λx y=>setAttr x "node" y) (.loc l) v (λu w=>True) (Z.set l (.slots 207 d (gy vs 0 v))):=
 k8 (p:=208) (i:=0) h.ok hl (by rw [h.K];kernel_rfl) (by rw [h.K];kernel_rfl) (by rw [h.K];kernel_rfl) (by rw [h.K];kernel_rfl) (by rw [h.K];kernel_rfl) (by decide)
theorem rQ (h:Is C) (hl:AE Z l 207 d vs) (hi:vs[1]? =some (some v)) (hv: ∀id,v≠ .bi id) (ha:v≠ .any):
  ib C k Z (λx=>getAttr x "npredecessors" true) (.loc l) (λW r=>aw W v r) Z:=
 sV (p:=209) h.ok hl (by rw [h.K];kernel_rfl) (by rw [h.K];kernel_rfl) (by rw [h.K];kernel_rfl) (by rw [h.K];kernel_rfl) (by rw [h.K];kernel_rfl) (by rw [h.K];kernel_rfl) (by rw [h.K];kernel_rfl) hi hv ha
theorem xU (h:Is C) (hl:AE Z l 207 d vs):
  di C k Z (λx y=>setAttr x "npredecessors" y) (.loc l) v (λu w=>True) (Z.set l (.slots 207 d (gy vs 1 v))):=
 k8 (p:=209) (i:=1) h.ok hl (by rw [h.K];kernel_rfl) (by rw [h.K];kernel_rfl) (by rw [h.K];kernel_rfl) (by rw [h.K];kernel_rfl) (by rw [h.K];kernel_rfl) (by decide)
theorem ye (h:Is C) (hl:AE Z l 207 d vs) (hi:vs[2]? =some (some v)) (hv: ∀id,v≠ .bi id) (ha:v≠ .any):
  ib C k Z (λx=>getAttr x "successors" true) (.loc l) (λW r=>aw W v r) Z:=
 sV (p:=210) h.ok hl (by rw [h.K];kernel_rfl) (by rw [h.K];kernel_rfl) (by rw [h.K];kernel_rfl) (by rw [h.K];kernel_rfl) (by rw [h.K];kernel_rfl) (by rw [h.K];kernel_rfl) (by rw [h.K];kernel_rfl) hi hv ha
theorem Fl (h:Is C) (hl:AE Z l 207 d vs):
  di C k Z (λx y=>setAttr x "successors" y) (.loc l) v (λu w=>True) (Z.set l (.slots 207 d (gy vs 2 v))):=
 k8 (p:=210) (i:=2) h.ok hl (by rw [h.K];kernel_rfl) (by rw [h.K];kernel_rfl) (by rw [h.K];kernel_rfl) (by rw [h.K];kernel_rfl) (by rw [h.K];kernel_rfl) (by decide)
end L1
end
section
namespace L1
open V (AV AO)
noncomputable abbrev e0:Str:=Str.empty
structure SS where
 ks:List Str
 np:Str->Int
 su:Str->List Str
 rd:Option (List Str)
 po:Int
 nf:Int
noncomputable def sD (b:Nat) (q:SS):List (Str×AV):= [("_node2info",.loc ⟨b+2,e0⟩),("_ready_nodes",(if q.rd.isSome then .loc ⟨b+6,e0⟩else .none)),("_npassedout",.int q.po),("_nfinished",.int q.nf)]
noncomputable def sN (b:Nat) (q:SS):List (Str×AV):=q.ks.map λx=>(x,.loc ⟨b+3,x⟩)
noncomputable def sI (b:Nat) (q:SS) (x:Str):List (Option AV):= [some (.str x),some (.int (q.np x)),some (.loc ⟨b+5,x⟩)]
noncomputable def bx (b:Nat) (q:SS) (Z:V.St):V.St:=λl=>
 if l=⟨b,e0⟩then some (.inst 304 ⟨b+1,e0⟩)
 else if l=⟨b+1,e0⟩then some (.dict (sD b q))
 else if l=⟨b+2,e0⟩then some (.dict (sN b q))
 else if l.tag=b+3/\l.key∈q.ks then some (.slots 207 ⟨b+4,l.key⟩ (sI b q l.key))
 else if l.tag=b+4/\l.key∈q.ks then some (.dict [])
 else if l.tag=b+5/\l.key∈q.ks then some (.list ((q.su l.key).map .str))
 else if l=⟨b+6,e0⟩/\q.rd.isSome=true then some (.list ((q.rd.getD []).map .str))
 else Z l
variable {b:Nat} {q:SS} {Z:V.St} {x:Str}
theorem eE:bx b q Z ⟨b,e0⟩=some (.inst 304 ⟨b+1,e0⟩):=by delta bx;rw [aG rfl]
theorem dY:bx b q Z ⟨b+1,e0⟩=some (.dict (sD b q)):=by delta bx;rw [az (by exact L1.sx rfl),aG rfl]
theorem hZ:bx b q Z ⟨b+2,e0⟩=some (.dict (sN b q)):=by delta bx;rw [az (by exact L1.sx rfl),az (by exact L1.fg rfl),aG rfl]
theorem oG (h:x∈q.ks):bx b q Z ⟨b+3,x⟩=some (.slots 207 ⟨b+4,x⟩ (sI b q x)):=by delta bx;rw [az (by exact L1.sx rfl),az (by exact L1.fg rfl),az (by exact L1.fg rfl),aG ⟨rfl,h⟩]
theorem zQ (h:x∈q.ks):bx b q Z ⟨b+4,x⟩=some (.dict []):=by delta bx;rw [az (by exact L1.sx rfl),az (by exact L1.fg rfl),az (by exact L1.fg rfl),az (by simp),aG ⟨rfl,h⟩]
theorem nu (h:x∈q.ks):bx b q Z ⟨b+5,x⟩=some (.list ((q.su x).map .str)):=by delta bx;rw [az (by exact L1.sx rfl),az (by exact L1.fg rfl),az (by exact L1.fg rfl),az (by simp),az (by simp),aG ⟨rfl,h⟩]
theorem l8 (h:q.rd=some r):bx b q Z ⟨b+6,e0⟩=some (.list (r.map .str)):=by delta bx;rw [az (by exact L1.sx rfl),az (by exact L1.fg rfl),az (by exact L1.fg rfl),az (by simp),az (by simp),az (by simp),aG ⟨rfl,by rw [h];rfl⟩,h];rfl
noncomputable def Ow (b:Nat) (q:SS) (l:V.Loc):Prop:=l=⟨b,e0⟩\/l=⟨b+1,e0⟩\/l=⟨b+2,e0⟩\/(l.tag=b+3/\l.key∈q.ks)\/(l.tag=b+4/\l.key∈q.ks)\/(l.tag=b+5/\l.key∈q.ks)\/(l=⟨b+6,e0⟩/\q.rd.isSome=true)
theorem Ow.el {Q:Prop} (h:Ow b q l) (h0:l=⟨b,e0⟩->Q) (h1:l=⟨b+1,e0⟩->Q) (h2:l=⟨b+2,e0⟩->Q) (h3:l.tag=b+3->l.key∈q.ks->Q) (h4:l.tag=b+4->l.key∈q.ks->Q) (h5:l.tag=b+5->l.key∈q.ks->Q) (h6:l=⟨b+6,e0⟩->q.rd.isSome=true->Q):Q:=
 aP h h0 λh=>aP h h1 λh=>aP h h2 λh=>aP h (λc=>h3 c.1 c.2) λh=>aP h (λc=>h4 c.1 c.2) λh=>aP h (λc=>h5 c.1 c.2) λc=>h6 c.1 c.2
theorem fM (h: ¬Ow b q l):bx b q Z l=Z l:=
 (az λc=>h (.inl c)).trans ((az λc=>h (.inr (.inl c))).trans ((az λc=>h (.inr (.inr (.inl c)))).trans ((az λc=>h (.inr (.inr (.inr (.inl c))))).trans ((az λc=>h (.inr (.inr (.inr (.inr (.inl c)))))).trans ((az λc=>h (.inr (.inr (.inr (.inr (.inr (.inl c))))))).trans (az λc=>h (.inr (.inr (.inr (.inr (.inr (.inr c))))))))))))
theorem Ow.tag (h:Ow b q l):b<=l.tag/\l.tag<=b+6:=by
 have key: ∀i,i<=6->l.tag=b+i->b<=l.tag/\l.tag<=b+6:=λi hi e=>by rw [e];exact⟨gO _ _,Nat.add_le_add_left hi _⟩
 exact h.el (λc=>key 0 (by decide) (dM V.Loc.tag c)) (λc=>key 1 (by decide) (dM V.Loc.tag c)) (λc=>key 2 (by decide) (dM V.Loc.tag c)) (λc u=>key 3 (by decide) c) (λc u=>key 4 (by decide) c) (λc u=>key 5 (by decide) c) λc u=>key 6 (by decide) (dM V.Loc.tag c)
theorem Bl (h:l.tag<b):bx b q Z l=Z l:=fM λo=>absurd h (Nat.not_lt_of_le o.tag.1)
theorem oq {x y:Str} (h:i≠j) (e:(⟨b+i,x⟩:V.Loc)=⟨b+j,y⟩) {Q:Prop}:Q:=absurd (Nat.add_left_cancel (dM V.Loc.tag e)) h
theorem tv (h:x∉q.ks) (hi:i=3\/i=4\/i=5):bx b q Z ⟨b+i,x⟩=Z ⟨b+i,x⟩:=fM λo=>
 o.el (λc=>oq (j:=0) (by omega) c) (λc=>oq (by omega) c) (λc=>oq (by omega) c) (λu m=>h m) (λu m=>h m) (λu m=>h m) λc u=>oq (by omega) c
theorem BB (h:q.rd=none):bx b q Z ⟨b+6,e0⟩=Z ⟨b+6,e0⟩:=fM λo=>by
 have no: ∀{i} {Q:Prop},i≠6->b+6=b+i->Q:=λn e=>absurd (Nat.add_left_cancel e).symm n;exact o.el (λc=>oq (j:=0) (by decide) c) (λc=>oq (by decide) c) (λc=>oq (by decide) c) (λc u=>no (by decide) c) (λc u=>no (by decide) c) (λc u=>no (by decide) c) λu m=>by rw [h]at m;exact tQ m
theorem Ow.is (h:Ow b q l):(bx b q Z l).isSome=true:=by
 have key: ∀{l':V.Loc} {o:V.AO},l=l'->bx b q Z l'=some o->(bx b q Z l).isSome=true:=λe h=>by rw [e,h];rfl
 have at': ∀{i},l.tag=b+i->l=⟨b+i,l.key⟩:=λe=>by rw [<-e]
 refine h.el (λc=>key c eE) (λc=>key c dY) (λc=>key c hZ) (λc m=>key (at' c) (oG m)) (λc m=>key (at' c) (zQ m)) (λc m=>key (at' c) (nu m)) λc m=> ?_;refine cG (uE.mp m) λr e=>key c (l8 e)
theorem Ow.mono (hk: ∀y∈q.ks,y∈q'.ks) (hr:q.rd.isSome=true->q'.rd.isSome=true) (h:Ow b q l):Ow b q' l:=
 h.el .inl (λc=> .inr (.inl c)) (λc=> .inr (.inr (.inl c))) (λc m=> .inr (.inr (.inr (.inl ⟨c,hk _ m⟩)))) (λc m=> .inr (.inr (.inr (.inr (.inl ⟨c,hk _ m⟩))))) (λc m=> .inr (.inr (.inr (.inr (.inr (.inl ⟨c,hk _ m⟩)))))) λc m=> .inr (.inr (.inr (.inr (.inr (.inr ⟨c,hr m⟩)))))
theorem xJ {f:V.St} (h0:f ⟨b,e0⟩=some (.inst 304 ⟨b+1,e0⟩)) (h1:f ⟨b+1,e0⟩=some (.dict (sD b q))) (h2:f ⟨b+2,e0⟩=some (.dict (sN b q))) (h3: ∀y∈q.ks,f ⟨b+3,y⟩=some (.slots 207 ⟨b+4,y⟩ (sI b q y))) (h4: ∀y∈q.ks,f ⟨b+4,y⟩=some (.dict [])) (h5: ∀y∈q.ks,f ⟨b+5,y⟩=some (.list ((q.su y).map .str))) (h6: ∀r,q.rd=some r->f ⟨b+6,e0⟩=some (.list (r.map .str))) (h7: ∀l,¬Ow b q l->f l=Z l):f=bx b q Z:=by
 funext l;by_cases o:Ow b q l
 ·have key: ∀{l':V.Loc} {v:V.AO},l=l'->f l'=some v->bx b q Z l'=some v->f l=bx b q Z l:=λe a c=>by rw [e,a,c]
  have at': ∀{i},l.tag=b+i->l=⟨b+i,l.key⟩:=λe=>by rw [<-e]
  exact o.el (λc=>key c h0 eE) (λc=>key c h1 dY) (λc=>key c h2 hZ) (λc m=>key (at' c) (h3 _ m) (oG m)) (λc m=>key (at' c) (h4 _ m) (zQ m)) (λc m=>key (at' c) (h5 _ m) (nu m)) λc m=>cG (uE.mp m) λr e=>key c (h6 r e) (l8 e)
 ·rw [fM o];exact h7 l o
theorem nQ {L:V.Loc} {v:V.AO} (hL:bx b q' Z L=some v) (hO:Ow b q' L) (hk:q'.ks=q.ks) (hr:q.rd.isSome=q'.rd.isSome) (e1:⟨b+1,e0⟩≠L->sD b q=sD b q') (e3: ∀y,⟨b+3,y⟩≠L->q.np y=q'.np y) (e5: ∀y,⟨b+5,y⟩≠L->q.su y=q'.su y) (e6:⟨b+6,e0⟩≠L->q.rd=q'.rd):(bx b q Z).set L v=bx b q' Z:=by
 have go: ∀{l:V.Loc} {w:V.AO},bx b q' Z l=some w->(l≠L->bx b q Z l=some w)->((bx b q Z).set L v) l=some w:=λ{l w} a c=>by
  by_cases e:l=L
  ·rw [e,V.set_same,<-hL,<-e,a]
  ·rw [aj e,c e]
 have mk: ∀{y},y∈q'.ks->y∈q.ks:=λm=>by rw [<-hk];exact m
 refine xJ (go eE λu=>eE) (go dY λn=> ?_) (go hZ λu=> ?_) (λy m=>go (oG m) λn=> ?_) (λy m=>go (zQ m) λu=>zQ (mk m)) (λy m=>go (nu m) λn=> ?_) (λr e=>go (l8 e) λn=>l8 ((e6 n).trans e)) λl o=> ?_
 ·rw [dY,e1 n]
 ·rw [hZ];delta sN;rw [hk]
 ·rw [oG (mk m)];delta sI;rw [e3 y n]
 ·rw [nu (mk m),e5 y n]
 ·rw [aj λe=>o (by rw [e];exact hO)];exact fM λw=>o (w.mono (λy m=>by rw [hk];exact m) λm=>by rw [<-hr];exact m)
theorem vE (h1:q'.ks=q.ks) (h2:q'.np=q.np) (h3:q'.su=q.su) (h4:q'.rd=q.rd) (he:es=sD b q'):(bx b q Z).set ⟨b+1,e0⟩ (.dict es)=bx b q' Z:=
 nQ (by rw [he];exact dY) (.inr (.inl rfl)) h1 (by rw [h4]) (λn=>absurd rfl n) (λy u=>by rw [h2]) (λy u=>by rw [h3]) λu=>h4.symm
theorem Cs (hx:x∈q.ks) (h1:q'.ks=q.ks) (h2: ∀y,y≠x->q'.np y=q.np y) (h3:q'.su=q.su) (h4:q'.rd=q.rd) (h5:q'.po=q.po) (h6:q'.nf=q.nf) (he:vs=sI b q' x):(bx b q Z).set ⟨b+3,x⟩ (.slots 207 ⟨b+4,x⟩ vs)=bx b q' Z:=
 nQ (by rw [he];exact oG (by rw [h1];exact hx)) (.inr (.inr (.inr (.inl ⟨rfl,by rw [h1];exact hx⟩)))) h1 (by rw [h4]) (λu=>by delta sD;rw [h4,h5,h6]) (λy n=>(h2 y λz=>n (by rw [z])).symm) (λy u=>by rw [h3]) λu=>h4.symm
theorem CJ (hx:x∈q.ks) (h1:q'.ks=q.ks) (h2:q'.np=q.np) (h3: ∀y,y≠x->q'.su y=q.su y) (h4:q'.rd=q.rd) (h5:q'.po=q.po) (h6:q'.nf=q.nf) (he:vs=(q'.su x).map .str):(bx b q Z).set ⟨b+5,x⟩ (.list vs)=bx b q' Z:=
 nQ (by rw [he];exact nu (by rw [h1];exact hx)) (.inr (.inr (.inr (.inr (.inr (.inl ⟨rfl,by rw [h1];exact hx⟩)))))) h1 (by rw [h4]) (λu=>by delta sD;rw [h4,h5,h6]) (λy u=>by rw [h2]) (λy n=>(h3 y λz=>n (by rw [z])).symm) λu=>h4.symm
theorem u9 (h1:q'.ks=q.ks) (h2:q'.np=q.np) (h3:q'.su=q.su) (h4:q.rd.isSome=true) (h4':q'.rd=some r) (h5:q'.po=q.po) (h6:q'.nf=q.nf) (he:vs=r.map .str):(bx b q Z).set ⟨b+6,e0⟩ (.list vs)=bx b q' Z:=
 nQ (by rw [he];exact l8 h4') (.inr (.inr (.inr (.inr (.inr (.inr ⟨rfl,by rw [h4'];rfl⟩)))))) h1 (by rw [h4,h4'];rfl) (λu=>by delta sD;rw [h4',h4,h5,h6];rfl) (λy u=>by rw [h2]) (λy u=>by rw [h3]) λn=>absurd rfl n
theorem uR (h:bx b q Z l=some o):Z l=some o/\ ¬Ow b q l\/o.In λl=>(bx b q Z l).isSome=true:=by
 by_cases z:Ow b q l
 ·right;have key: ∀{l':V.Loc} {o':V.AO},l=l'->bx b q Z l'=some o'->(o'.In λl=>(bx b q Z l).isSome=true)->o.In λl=>(bx b q Z l).isSome=true:=λe e2 w=>by rw [e,e2]at h;rw [<-dI h];exact w
  have at': ∀{i},l.tag=b+i->l=⟨b+i,l.key⟩:=λe=>by rw [<-e]
  refine z.el (λc=>key c eE (Ow.is (.inr (.inl rfl)))) (λc=>key c dY ?_) (λc=>key c hZ ?_) (λc m=>key (at' c) (oG m) ⟨Ow.is (.inr (.inr (.inr (.inr (.inl ⟨rfl,m⟩))))),?_⟩) (λc m=>key (at' c) (zQ m) λp hp=>jc hp) (λc m=>key (at' c) (nu m) (bo (λx=>cc) _)) λc m=> ?_
  ·intro p hp;rcases hp with _ | ⟨_,_ | ⟨_,_ | ⟨_,_ | ⟨_,hp⟩⟩⟩⟩
   ·exact Ow.is (.inr (.inr (.inl rfl)))
   ·refine(?_:V.AV.In _ (if q.rd.isSome then .loc ⟨b+6,e0⟩else .none));by_cases r:q.rd.isSome=true
    ·rw [aG r];exact Ow.is (.inr (.inr (.inr (.inr (.inr (.inr ⟨rfl,r⟩))))))
    ·rw [az r];trivial
   ·trivial
   ·trivial
   ·exact jc hp
  ·intro p hp;exact kE (bM.mp hp) λy hy=>Ow.is (.inr (.inr (.inr (.inl ⟨rfl,hy⟩))))
  ·intro v hv;rcases hv with _ | ⟨_,_ | ⟨_,_ | ⟨_,hv⟩⟩⟩
   ·trivial
   ·trivial
   ·exact Ow.is (.inr (.inr (.inr (.inr (.inr (.inl ⟨rfl,m⟩))))))
   ·exact jc hv
  ·refine cG (uE.mp m) λr e=>key c (l8 e) (bo (λx=>cc) _)
 ·left;exact⟨(fM z).symm.trans h,z⟩
theorem kc (hk: ∀y∈q.ks,y∈q'.ks) (hr:q.rd.isSome=true->q'.rd.isSome=true):
  (∀l,(bx b q Z l).isSome=true->(bx b q' Z l).isSome=true)/\(∀l o,bx b q' Z l=some o->bx b q Z l=some o\/o.In λl=>(bx b q' Z l).isSome=true):=by
 refine⟨λl h=> ?_,λl o h=> ?_⟩
 ·by_cases z:Ow b q' l
  ·exact z.is
  ·rw [fM z];rw [fM λw=>z (w.mono hk hr)]at h;exact h
 ·refine aP (uR h) (λz=> .inl ?_) .inr;rw [fM λw=>z.2 (w.mono hk hr)];exact z.1
end L1
end
section
namespace L1
open Builtin Builtin.Str
open V (AV AO)
noncomputable def Gm (Z aB:V.St):Prop:= ∀l,(Z l).isSome=true->(aB l).isSome=true
noncomputable def Gr (D:V.Loc->Prop) (Z aB:V.St):Prop:= ∀l o,aB l=some o->Z l=some o\/o.In D
theorem Gm.refl:Gm Z Z:=λu h=>h
theorem Gr.refl {D:V.Loc->Prop}:Gr D Z Z:=λu v h=> .inl h
theorem Gm.set (g:Gm Z aB):Gm Z (aB.set l o):=λx h=>by
 delta V.St.set;split
 ·rfl
 ·exact g x h
theorem Gr.set {D:V.Loc->Prop} (g:Gr D Z aB) (h:o.In D):Gr D Z (aB.set l o):=λx o' e=>by
 delta V.St.set at e;split at e
 ·obtain rfl:=dI e;exact .inr h
 ·exact g x o' e
theorem lJ (h1:V.Go C k sc ms Z body .next aB) (a:Gm pC aB) (b:Gr (λl=>(aB l).isSome=true) pC aB): ∃f aK cP,V.Ex C k sc ms Z body f aK cP/\V.Exit pC cP f .none aB:=
 hH h1 ⟨λu v h=>h,a,b,.inr (.inr ⟨rfl,rfl⟩)⟩
theorem yQ (h1:V.Go C k sc ms Z body (.ret v) aB) (a:Gm pC aB) (b:Gr (λl=>(aB l).isSome=true) pC aB) (c:v.In λl=>(aB l).isSome=true): ∃f aK cP,V.Ex C k sc ms Z body f aK cP/\V.Exit pC cP f v aB:=
 hH h1 ⟨λu w h=>h,a,b,.inl ⟨rfl,c⟩⟩
noncomputable def upd {α:Type} (f:Str->α) (x:Str) (v:α):Str->α:=λy=>if y=x then v else f y
theorem gR {α:Type} {f:Str->α} {x:Str} {v:α}:upd f x v x=v:=by delta upd;rw [aG rfl]
theorem fE {α:Type} {f:Str->α} {x y:Str} {v:α} (h:y≠x):upd f x v y=f y:=by delta upd;rw [az h]
theorem Mw {C:V.Cx} (h:Is C) {k:Nat} {Z:V.St} {l d ll:V.Loc} {x:Str} (hl:Z l=none) (hd:Z d=none) (hll:Z ll=none) (h1:l≠d) (h2:l≠ll) (h3:d≠ll):
  V.Cd C (k+1) ((Z.set d (.dict [])).set l (.inst 207 d)) (.ext 203) [.loc l,.str x] [] .none (((Z.set d (.dict [])).set ll (.list [])).set l (.slots 207 d [some (.str x),some (.int 0),some (.loc ll)])):=by
 have hx0:=h.hx;refine eA h.ok ⟨⟨_,_,_,by rw [h.K];exact rfl⟩,rfl,rfl,rfl,rfl,by rw [h.K];rfl,rfl,rfl,by decide+kernel⟩ [lo "self",lo "node"] rfl [("self",.loc l),("node",.str x)] _
  (bQ (zN λa0 a1=>rfl) rfl) rfl rfl λsc hF n hn=> ?_
 refine nR hF λn0 n1 _=>?_;clear hF;have e1:(((((Z.set d (.dict [])).set l (.inst 207 d)).set l (.slots 207 d (gy [] 0 (.str x)))).set l (.slots 207 d (gy (gy [] 0 (.str x)) 1 (.int 0)))).set ll (.list [])).set l (.slots 207 d (gy (gy (gy [] 0 (.str x)) 1 (.int 0)) 2 (.loc ll)))=(((Z.set d (.dict [])).set ll (.list [])).set l (.slots 207 d [some (.str x),some (.int 0),some (.loc ll)])):=by
  funext y;by_cases y1:y=l
  ·subst y1;rw [V.set_same,V.set_same];rfl
  ·rw [aj y1,aj y1];delta V.St.set;simp only [y1,jG]
 have hI:AE ((Z.set d (.dict [])).set l (.inst 207 d)) l 207 d []:= .inl ⟨V.set_same,rfl⟩;have Ni:((((Z.set d (.dict [])).set l (.inst 207 d)).set l (.slots 207 d (gy [] 0 (.str x)))).set l (.slots 207 d (gy (gy [] 0 (.str x)) 1 (.int 0)))) ll=none:=by rw [aj h2.symm,aj h2.symm,aj h2.symm,aj h3.symm];exact hll
 refine lJ (aB:=(((Z.set d (.dict [])).set ll (.list [])).set l (.slots 207 d [some (.str x),some (.int 0),some (.loc ll)]))) ?_ ?_ ?_
 ·rw [<-e1];refine aE (au (aa n1 rfl) (eJ (aa n0 rfl) (FO h hI))) ?_;refine aE (au aC (eJ (aa n0 rfl) (xU h (.inr V.set_same)))) ?_;refine aE (au (dU ll ao (dW _) Ni) (eJ (aa n0 rfl) (Fl h (.inr (by rw [aj h2,V.set_same]))))) ?_;exact j0
 ·rw [<-e1];exact .set (.set (.set (.set .refl)))
 ·rw [<-e1];have hd':((((((Z.set d (.dict [])).set l (.inst 207 d)).set l (.slots 207 d (gy [] 0 (.str x)))).set l (.slots 207 d (gy (gy [] 0 (.str x)) 1 (.int 0)))).set ll (.list [])).set l (.slots 207 d (gy (gy (gy [] 0 (.str x)) 1 (.int 0)) 2 (.loc ll))) d).isSome=true:=by rw [aj h1.symm,aj h3,aj h1.symm,aj h1.symm,aj h1.symm,V.set_same];rfl
  refine .set (.set (.set (.set .refl ⟨hd',?_⟩) ⟨hd',?_⟩) ?_) ⟨hd',?_⟩
  ·intro z hz;simp [gy]at hz;subst hz;exact True.intro
  ·intro z hz;simp [gy]at hz;rcases hz with rfl | rfl<;>exact True.intro
  ·exact True.intro
  ·intro z hz;simp [gy]at hz;rcases hz with rfl | rfl | rfl
   ·exact True.intro
   ·exact True.intro
   ·refine(?_:Option.isSome _=true);rw [aj h2.symm,V.set_same];rfl
noncomputable def q0:SS:=⟨[],λ_=>0,λ_=> [],none,0,0⟩
theorem qC:((((((Z.set ⟨b+1,e0⟩ (.dict [])).set ⟨b,e0⟩ (.inst 304 ⟨b+1,e0⟩)).set ⟨b+2,e0⟩ (.dict [])).set ⟨b+1,e0⟩ (.dict [("_node2info",.loc ⟨b+2,e0⟩)])).set ⟨b+1,e0⟩ (.dict [("_node2info",.loc ⟨b+2,e0⟩),("_ready_nodes",.none)])).set ⟨b+1,e0⟩ (.dict [("_node2info",.loc ⟨b+2,e0⟩),("_ready_nodes",.none),("_npassedout",.int 0)])).set ⟨b+1,e0⟩ (.dict [("_node2info",.loc ⟨b+2,e0⟩),("_ready_nodes",.none),("_npassedout",.int 0),("_nfinished",.int 0)])=bx b q0 Z:=by
 funext l;delta bx V.St.set;by_cases h0:l=⟨b,e0⟩
 ·subst h0;simp
 by_cases h1:l=⟨b+1,e0⟩
 ·subst h1;simp;rfl
 by_cases h2:l=⟨b+2,e0⟩
 ·subst h2;simp;rfl
 simp [h0,h1,h2,q0]
theorem ME (h:Is C) (h2:Z ⟨b+2,e0⟩=none):
  V.Cd C (k+1) ((Z.set ⟨b+1,e0⟩ (.dict [])).set ⟨b,e0⟩ (.inst 304 ⟨b+1,e0⟩)) (.ext 240) [.loc ⟨b,e0⟩] [] .none (bx b q0 Z):=by
 have hx0:=h.hx;refine eA h.ok ⟨⟨_,_,_,by rw [h.K];exact rfl⟩,rfl,rfl,rfl,rfl,by rw [h.K];rfl,rfl,rfl,by decide+kernel⟩ [lo "self",lo "graph",lo "node",lo "predecessors"] rfl [("self",.loc ⟨b,e0⟩),("graph",.none)] _
  (sR h.ok (da:=233) (as:= [.loc ⟨b,e0⟩]) (Mi:= [.none]) (dv:= [.none]) (by rw [h.K];exact rfl) (gA λa0=>⟨_,by exact rfl,by exact rfl⟩) rfl (λW=> .cons c6 .nil)) rfl rfl λsc hF n hn=> ?_
 refine ud hF λn0 n1 n2 n3 _=>?_;clear hF;have m1:(⟨b,e0⟩:V.Loc)≠⟨b+1,e0⟩:=by exact L1.kD rfl
 have m2:(⟨b,e0⟩:V.Loc)≠⟨b+2,e0⟩:=by exact L1.kD rfl
 have m3:(⟨b+1,e0⟩:V.Loc)≠⟨b+2,e0⟩:=by exact L1.fg rfl
 refine lJ (aB:=bx b q0 Z) ?_ ?_ ?_
 ·rw [<-qC];refine aE (au (uH ⟨b+2,e0⟩ (by rw [aj m2.symm,aj m3.symm];exact h2)) (eJ (aa n0 rfl) (uC h (d:=⟨b+1,e0⟩) (by rw [aj m2,V.set_same]) (by rw [aj m3,aj m1.symm,V.set_same])))) ?_;refine aE (au bV (eJ (aa n0 rfl) (pW h (d:=⟨b+1,e0⟩) (by rw [aj m1,aj m2,V.set_same]) V.set_same))) ?_;refine aE (au aC (eJ (aa n0 rfl) (sS h (d:=⟨b+1,e0⟩) (by rw [aj m1,aj m1,aj m2,V.set_same]) V.set_same))) ?_;refine aE (au aC (eJ (aa n0 rfl) (tX h (d:=⟨b+1,e0⟩) (by rw [aj m1,aj m1,aj m1,aj m2,V.set_same]) V.set_same))) ?_;refine cw (aq (c:=false) (aa n1 rfl) bV (cQ fN) rfl) ?_;exact j0
 ·rw [<-qC];exact .set (.set (.set (.set (.set .refl))))
 ·intro l o hl;by_cases h0:l=⟨b,e0⟩
  ·subst h0;rw [eE]at hl;obtain rfl:=dI hl;right;refine(?_:(bx b q0 Z ⟨b+1,e0⟩).isSome=true);rw [dY];rfl
  ·by_cases h1:l=⟨b+1,e0⟩
   ·subst h1;rw [dY]at hl;obtain rfl:=dI hl;right;intro p hp;rcases hp with _ | ⟨_,_ | ⟨_,_ | ⟨_,_ | ⟨_,hp⟩⟩⟩⟩
    ·refine(?_:(bx b q0 Z ⟨b+2,e0⟩).isSome=true);rw [hZ];rfl
    ·exact True.intro
    ·exact True.intro
    ·exact True.intro
    ·exact jc hp
   ·by_cases F6:l=⟨b+2,e0⟩
    ·subst F6;rw [hZ]at hl;obtain rfl:=dI hl;right;intro p hp;exact jc hp
    ·left;rw [aj h0,aj h1];delta bx at hl;simpa [h0,h1,F6,q0]using hl
noncomputable def SS.ins (q:SS) (x:Str):SS:=if x∈q.ks then q else{q with ks:=q.ks++ [x],np:=upd q.np x 0,su:=upd q.su x []}
theorem nG (h:x∈q.ks):gU (sN b q) x=some (.loc ⟨b+3,x⟩):=by
 delta gU sN;rw [List.find?_map];have:(List.find? ((λe:Str×AV=>decide (e.1=x)) ∘ λx=>(x,AV.loc ⟨b+3,x⟩)) q.ks)=some x:=by
  have e:((λe:Str×AV=>decide (e.1=x)) ∘ λx=>(x,AV.loc ⟨b+3,x⟩))=λy=>decide (y=x):=rfl;rw [e];generalize q.ks=l at h⊢
  induction l with
  | nil=>exact jc h
  | cons y l ih=>
   by_cases hy:y=x
   ·subst hy;rw [List.find?_cons_of_pos (by simp)]
   ·rw [List.find?_cons_of_neg (by simpa using hy)];exact ih (by refine aP (cI.mp h) (λz=>?_) λz=>?_;exact absurd z.symm hy;exact z)
 rw [this];rfl
theorem Cy (h:x∉q.ks):gU (sN b q) x=none:=by
 delta gU sN;rw [List.find?_map];have:(List.find? ((λe:Str×AV=>decide (e.1=x)) ∘ λx=>(x,AV.loc ⟨b+3,x⟩)) q.ks)=none:=by rw [List.find?_eq_none];intro y hy e;simp at e;subst e;exact h hy
 rw [this];rfl
theorem kF (h:q.ks.Nodup):V.DN (sN b q):=by delta V.DN sN;rw [dP];have:((λx:Str×AV=>x.1) ∘ λx=>(x,AV.loc ⟨b+3,x⟩))=_root_.id:=rfl;rw [this,List.map_id];exact h
theorem ED (h:x∉q.ks):V.dput (sN b q) x (.loc ⟨b+3,x⟩)=sN b (q.ins x):=by
 delta V.dput;rw [az]
 ·delta sN SS.ins;rw [az h,fk];rfl
 ·delta sN;simp only [List.any_map,yT,not_exists,not_and];intro y hy e;simp at e;subst e;exact h hy
theorem Fb (h:x∉q.ks):((((bx b q Z).set ⟨b+4,x⟩ (.dict [])).set ⟨b+5,x⟩ (.list [])).set ⟨b+3,x⟩ (.slots 207 ⟨b+4,x⟩ [some (.str x),some (.int 0),some (.loc ⟨b+5,x⟩)])).set ⟨b+2,e0⟩ (.dict (V.dput (sN b q) x (.loc ⟨b+3,x⟩)))=bx b (q.ins x) Z:=by
 rw [ED h];have ks:(q.ins x).ks=q.ks++ [x]:=by delta SS.ins;rw [az h]
 have np:(q.ins x).np=upd q.np x 0:=by delta SS.ins;rw [az h]
 have su:(q.ins x).su=upd q.su x []:=by delta SS.ins;rw [az h]
 have rd:(q.ins x).rd=q.rd:=by delta SS.ins;rw [az h]
 have sd:sD b (q.ins x)=sD b q:=by delta sD SS.ins;rw [az h]
 have mem: ∀{y},y∈(q.ins x).ks->y≠x->y∈q.ks:=λm n=>by rw [ks]at m;exact aP (cm.mp m) (λz=>z) λz=>absurd (i8.mp z) n
 have ne: ∀{i} {y},y≠x->(⟨b+i,y⟩:V.Loc)≠⟨b+i,x⟩:=λn z=>n (dM V.Loc.key z);refine xJ ?_ ?_ V.set_same (λy m=> ?_) (λy m=> ?_) (λy m=> ?_) (λr e=> ?_) λl o=> ?_
 ·rw [aj (by exact L1.kD rfl),aj (by exact L1.kD rfl),aj (by exact L1.kD rfl),aj (by exact L1.kD rfl),eE]
 ·rw [aj (by exact L1.fg rfl),aj (by exact L1.fg rfl),aj (by exact L1.fg rfl),aj (by exact L1.fg rfl),dY,sd]
 ·rw [aj (by exact L1.fg rfl)];delta sI;rw [np];by_cases e:y=x
  ·rw [e,V.set_same,gR]
  ·rw [aj (ne e),aj (by exact L1.fg rfl),aj (by exact L1.fg rfl),oG (mem m e),fE e];rfl
 ·rw [aj (by exact L1.fg rfl),aj (by exact L1.fg rfl),aj (by exact L1.fg rfl)];by_cases e:y=x
  ·rw [e,V.set_same]
  ·rw [aj (ne e),zQ (mem m e)]
 ·rw [aj (by exact L1.fg rfl),aj (by exact L1.fg rfl),su];by_cases e:y=x
  ·rw [e,V.set_same,gR];rfl
  ·rw [aj (ne e),aj (by exact L1.fg rfl),nu (mem m e),fE e]
 ·rw [aj (by exact L1.fg rfl),aj (by exact L1.fg rfl),aj (by exact L1.fg rfl),aj (by exact L1.fg rfl),l8 (rd.symm.trans e)]
 ·have k: ∀{y},y∈q.ks->y∈(q.ins x).ks:=λm=>by rw [ks];exact cm.mpr (.inl m)
  have kx:x∈(q.ins x).ks:=by rw [ks];exact cm.mpr (.inr (.head _))
  rw [aj λe=>o (.inr (.inr (.inl e))),aj λe=>o (.inr (.inr (.inr (.inl (by rw [e];exact⟨rfl,kx⟩))))),aj λe=>o (.inr (.inr (.inr (.inr (.inr (.inl (by rw [e];exact⟨rfl,kx⟩))))))),aj λe=>o (.inr (.inr (.inr (.inr (.inl (by rw [e];exact⟨rfl,kx⟩)))))),fM λw=>o (w.mono (λy m=>k m) λm=>by rw [rd];exact m)]
noncomputable def Cl (b:Nat) (Z:V.St):Prop:= ∀l:V.Loc,b<=l.tag->Z l=none
theorem xg {q:SS} {x y:Str} (h:y∈q.ks):y∈(q.ins x).ks:=by
 delta SS.ins;split
 ·exact h
 ·exact cm.mpr (.inl h)
theorem iX {q:SS} {x:Str}:x∈(q.ins x).ks:=by
 delta SS.ins;split
 ·assumption
 ·exact cm.mpr (.inr (.head _))
theorem A1 {q:SS} {x:Str}:(q.ins x).rd=q.rd:=by
 delta SS.ins;split<;>rfl
theorem ki {q:SS} {x:Str} (h:q.ks.Nodup):(q.ins x).ks.Nodup:=by
 delta SS.ins;split
 ·exact h
 ·rename_i hx;rw [ue];refine nB h (by simp) ?_;intro a ha c hc;simp at hc;subst hc;intro e;subst e;exact hx ha
theorem gY: ∀id,AV.loc l≠ .bi id:=λu e=>by cases e
theorem gP:AV.loc l≠ .any:=λe=>by cases e
theorem oW: ∀id,AV.int i≠ .bi id:=λu e=>by cases e
theorem pw:AV.int i≠ .any:=λe=>by cases e
theorem BE: ∀id,AV.str i≠ .bi id:=λu e=>by cases e
theorem B6:AV.str i≠ .any:=λe=>by cases e
theorem Fz: ∀id,AV.none≠ .bi id:=λu e=>by cases e
theorem Fd:AV.none≠ .any:=λe=>by cases e
theorem rP (hk: ∀y∈q.ks,y∈q'.ks) (hr:q.rd.isSome=true->q'.rd.isSome=true) (h1:V.Go C k sc ms (bx b q Z) body .next (bx b q' Z)): ∃f aK cP,V.Ex C k sc ms (bx b q Z) body f aK cP/\V.Exit (bx b q Z) cP f .none (bx b q' Z):=
 lJ h1 (kc hk hr).1 (kc hk hr).2
theorem lS (hk: ∀y∈q.ks,y∈q'.ks) (hr:q.rd.isSome=true->q'.rd.isSome=true) (h1:V.Go C k sc ms (bx b q Z) body (.ret v) (bx b q' Z)) (c:v.In λl=>(bx b q' Z l).isSome=true): ∃f aK cP,V.Ex C k sc ms (bx b q Z) body f aK cP/\V.Exit (bx b q Z) cP f v (bx b q' Z):=
 yQ h1 (kc hk hr).1 (kc hk hr).2 c
theorem GH {C:V.Cx} (h:Is C) {k:Nat} {Z:V.St} {b:Nat} {q:SS} {x:Str} (hb:Cl b Z) (hq:q.ks.Nodup) (hz:q.ks.length<=1000):
  V.Cd C (k+3) (bx b q Z) (.ext 247) [.loc ⟨b,e0⟩,.str x] [] (.loc ⟨b+3,x⟩) (bx b (q.ins x) Z):=by
 have hx0:=h.hx;refine eA h.ok ⟨⟨_,_,_,by rw [h.K];exact rfl⟩,rfl,rfl,rfl,rfl,by rw [h.K];rfl,rfl,rfl,by decide+kernel⟩ [lo "self",lo "node",lo "result",gi "_NodeInfo"] rfl [("self",.loc ⟨b,e0⟩),("node",.str x)] _
  (bQ (zN λa0 a1=>rfl) rfl) rfl rfl λsc hF n hn=> ?_
 refine ud hF λn0 n1 n2 n3 _=>?_;clear hF;have hv:(AV.loc ⟨b+3,x⟩).In λl=>(bx b (q.ins x) Z l).isSome=true:=by refine(?_:Option.isSome _=true);rw [oG iX];rfl
 refine lS (λy hy=>xg hy) (λz=>by rw [A1];exact z) ?_ hv;by_cases hx:x∈q.ks
 ·have e:q.ins x=q:=by delta SS.ins;rw [aG hx]
  rw [e];refine cw (aq (c:=false) (oz (aM (bC (aa n0 rfl) (eU h eE dY gY gP)) (wt (.inl hZ)) (af (aa n1 rfl) ao) bp (xo (.inl hZ) (kF hq) (by rw [nG hx];rfl))) (ag n2 rfl)) bV (gK (b:=false) mm) rfl) ?_;exact bP (aa n2 rfl)
 ·rw [<-Fb hx];refine fH (aq (c:=true) (oz (aM (bC (aa n0 rfl) (eU h eE dY gY gP)) (wt (.inl hZ)) (af (aa n1 rfl) ao) bp (xo (.inl hZ) (kF hq) (by rw [Cy hx];rfl))) (ag n2 rfl)) bV (gK (b:=true) fN) rfl) ?_;have k3:(bx b q Z) ⟨b+3,x⟩=none:=(tv hx (.inl rfl)).trans (hb _ (by exact gO _ _));have k4:(bx b q Z) ⟨b+4,x⟩=none:=(tv hx (.inr (.inl rfl))).trans (hb _ (by exact gO _ _));have k5:(bx b q Z) ⟨b+5,x⟩=none:=(tv hx (.inr (.inr rfl))).trans (hb _ (by exact gO _ _));have mk:=rD h.ok (c:=207) (fi:=203) (kw:= []) (by rw [h.K];kernel_rfl) (by rw [h.K];kernel_rfl) (by rw [h.K];kernel_rfl) k3 k4 (by exact L1.fg rfl) (Mw h (k:=k) (x:=x) k3 k4 k5 (by exact L1.fg rfl) (by exact L1.fg rfl) (by exact L1.fg rfl));have g0:((((bx b q Z).set ⟨b+4,x⟩ (.dict [])).set ⟨b+5,x⟩ (.list [])).set ⟨b+3,x⟩ (.slots 207 ⟨b+4,x⟩ [some (.str x),some (.int 0),some (.loc ⟨b+5,x⟩)])) ⟨b,e0⟩=some (.inst 304 ⟨b+1,e0⟩):=by rw [aj (by exact L1.kD rfl),aj (by exact L1.kD rfl),aj (by exact L1.kD rfl),eE]
  have g1:((((bx b q Z).set ⟨b+4,x⟩ (.dict [])).set ⟨b+5,x⟩ (.list [])).set ⟨b+3,x⟩ (.slots 207 ⟨b+4,x⟩ [some (.str x),some (.int 0),some (.loc ⟨b+5,x⟩)])) ⟨b+1,e0⟩=some (.dict (sD b q)):=by rw [aj (by exact L1.fg rfl),aj (by exact L1.fg rfl),aj (by exact L1.fg rfl),dY]
  have g2:((((bx b q Z).set ⟨b+4,x⟩ (.dict [])).set ⟨b+5,x⟩ (.list [])).set ⟨b+3,x⟩ (.slots 207 ⟨b+4,x⟩ [some (.str x),some (.int 0),some (.loc ⟨b+5,x⟩)])) ⟨b+2,e0⟩=some (.dict (sN b q)):=by rw [aj (by exact L1.fg rfl),aj (by exact L1.fg rfl),aj (by exact L1.fg rfl),hZ]
  refine aE (wz (aD (ar h.ok n3 (vj h)) (af (aa n1 rfl) ao) (KX h rfl) mk) (tD (bC (aa n0 rfl) (eU h g0 g1 gY gP)) (aa n1 rfl) (BS (.inl g2) (kF hq) (aV (n:=(sN b q).length) (m:=1000) (by delta sN;rw [bu];exact hz) (by decide)))) (ag n2 rfl) (λu=>rfl) (λu=>rfl) (λu=>rfl)) ?_;exact bP (aa n2 rfl)
noncomputable def SS.cf (q:SS) (x:Str) (v:Int):SS:={q with np:=upd q.np x v}
noncomputable def SS.xV (q:SS) (x p:Str):SS:={q with su:=upd q.su x (q.su x++ [p])}
noncomputable def SS.qD (q:SS) (x:Str):SS:={q with rd:=q.rd.map (· ++ [x])}
section
variable {C:V.Cx} {k:Nat} {Z:V.St} {b:Nat} {q:SS} {x p:Str}
theorem wN (h:Is C):ib C k (bx b q Z) (λx=>getAttr x "_node2info" true) (.loc ⟨b,e0⟩) (λW r=>aw W (.loc ⟨b+2,e0⟩) r) (bx b q Z):=eU h eE dY gY gP
theorem JP (hr:q.rd=none):bx b q Z ⟨b+1,e0⟩=some (.dict [("_node2info",.loc ⟨b+2,e0⟩),("_ready_nodes",.none),("_npassedout",.int q.po),("_nfinished",.int q.nf)]):=by rw [dY];delta sD;rw [hr];rfl
theorem KY (hr:q.rd=some r):bx b q Z ⟨b+1,e0⟩=some (.dict [("_node2info",.loc ⟨b+2,e0⟩),("_ready_nodes",.loc ⟨b+6,e0⟩),("_npassedout",.int q.po),("_nfinished",.int q.nf)]):=by rw [dY];delta sD;rw [hr];rfl
theorem wY (h:Is C) (hr:q.rd=none):ib C k (bx b q Z) (λx=>getAttr x "_ready_nodes" true) (.loc ⟨b,e0⟩) (λW r=>aw W .none r) (bx b q Z):=kH h eE (JP hr) Fz Fd
theorem oR (h:Is C) (hr:q.rd=some r):ib C k (bx b q Z) (λx=>getAttr x "_ready_nodes" true) (.loc ⟨b,e0⟩) (λW r=>aw W (.loc ⟨b+6,e0⟩) r) (bx b q Z):=kH h eE (KY hr) gY gP
theorem DC (h:Is C):ib C k (bx b q Z) (λx=>getAttr x "_npassedout" true) (.loc ⟨b,e0⟩) (λW r=>aw W (.int q.po) r) (bx b q Z):=tA h eE dY oW pw
theorem AQ (h:Is C):ib C k (bx b q Z) (λx=>getAttr x "_nfinished" true) (.loc ⟨b,e0⟩) (λW r=>aw W (.int q.nf) r) (bx b q Z):=vV h eE dY oW pw
theorem Ka (h:Is C):di C k (bx b q Z) (λx y=>setAttr x "_npassedout" y) (.loc ⟨b,e0⟩) (.int v) (λu w=>True) (bx b {q with po:=v} Z):=by have z:=tC h (k:=k) (v:= .int v) (eE (b:=b) (q:=q) (Z:=Z)) dY;rw [<-vE (b:=b) (q:=q) (Z:=Z) (q':={q with po:=v}) rfl rfl rfl rfl rfl];exact z
theorem Ko (h:Is C):di C k (bx b q Z) (λx y=>setAttr x "_nfinished" y) (.loc ⟨b,e0⟩) (.int v) (λu w=>True) (bx b {q with nf:=v} Z):=by have z:=tW h (k:=k) (v:= .int v) (eE (b:=b) (q:=q) (Z:=Z)) dY;rw [<-vE (b:=b) (q:=q) (Z:=Z) (q':={q with nf:=v}) rfl rfl rfl rfl rfl];exact z
theorem isI (hx:x∈q.ks):AE (bx b q Z) ⟨b+3,x⟩ 207 ⟨b+4,x⟩ (sI b q x):= .inr (oG hx)
theorem t6 (h:Is C) (hx:x∈q.ks):ib C k (bx b q Z) (λx=>getAttr x "npredecessors" true) (.loc ⟨b+3,x⟩) (λW r=>aw W (.int (q.np x)) r) (bx b q Z):=rQ h (isI hx) rfl oW pw
theorem ld_su (h:Is C) (hx:x∈q.ks):ib C k (bx b q Z) (λx=>getAttr x "successors" true) (.loc ⟨b+3,x⟩) (λW r=>aw W (.loc ⟨b+5,x⟩) r) (bx b q Z):=ye h (isI hx) rfl gY gP
theorem yt (h:Is C) (hx:x∈q.ks):di C k (bx b q Z) (λx y=>setAttr x "npredecessors" y) (.loc ⟨b+3,x⟩) (.int v) (λu w=>True) (bx b (q.cf x v) Z):=by have z:=xU h (k:=k) (v:= .int v) (isI (b:=b) (q:=q) (Z:=Z) hx);rw [<-Cs (b:=b) (q:=q) (Z:=Z) (q':=q.cf x v) (vs:=gy (sI b q x) 1 (.int v)) hx rfl (λy hy=>fE hy) rfl rfl rfl rfl (by delta sI SS.cf;dsimp only;rw [gR];rfl)];exact z
theorem MO (hx:x∈q.ks):V.Mt C k (bx b q Z) (.loc ⟨b+5,x⟩) "append" (.bi "list.append"):=eg (nu hx)
theorem KH (hx:x∈q.ks) (hz:(q.su x).length<=1000):V.Ca C k (bx b q Z) (.bi "list.append") [.loc ⟨b+5,x⟩,.str p] [] .none (bx b (q.xV x p) Z):=by have z:=dJ (C:=C) (k:=k) (x:= .str p) (nu (b:=b) (q:=q) (Z:=Z) hx) (aV (m:=1000) (by rw [bu];exact hz) (by decide));rw [<-CJ (b:=b) (q:=q) (Z:=Z) (q':=q.xV x p) (vs:=(q.su x).map .str++ [.str p]) hx rfl rfl (λy hy=>fE hy) rfl rfl rfl (by delta SS.xV;dsimp only;rw [gR,fk];rfl)];exact z
theorem MS (hr:q.rd=some r):V.Mt C k (bx b q Z) (.loc ⟨b+6,e0⟩) "append" (.bi "list.append"):=eg (l8 hr)
theorem Kf (hr:q.rd=some r) (hz:r.length<=1000):V.Ca C k (bx b q Z) (.bi "list.append") [.loc ⟨b+6,e0⟩,.str x] [] .none (bx b (q.qD x) Z):=by have z:=dJ (C:=C) (k:=k) (x:= .str x) (l8 (b:=b) (q:=q) (Z:=Z) hr) (aV (m:=1000) (by rw [bu];exact hz) (by decide));rw [<-u9 (b:=b) (q:=q) (Z:=Z) (q':=q.qD x) (r:=r++ [x]) (vs:=r.map .str++ [.str x]) rfl rfl rfl (by rw [hr];rfl) (by delta SS.qD;rw [hr];rfl) rfl rfl (by rw [fk];rfl)];exact z
theorem JH (hr:q.rd=some r):V.Mt C k (bx b q Z) (.loc ⟨b+6,e0⟩) "clear" (.bi "list.clear"):=E8 (l8 hr)
theorem KN (hr:q.rd=some r) (hz:r.length<=1000):V.Ca C k (bx b q Z) (.bi "list.clear") [.loc ⟨b+6,e0⟩] [] .none (bx b {q with rd:=some []} Z):=by have z:=E3 (C:=C) (k:=k) (l8 (b:=b) (q:=q) (Z:=Z) hr) (aV (m:=1000) (by rw [bu];exact hz) (by decide));rw [<-u9 (b:=b) (q:=q) (Z:=Z) (q':={q with rd:=some []}) (r:= []) (vs:= []) rfl rfl rfl (by rw [hr];rfl) rfl rfl rfl rfl];exact z
theorem Ds (hq:q.ks.Nodup) (hx:x∈q.ks):di C k (bx b q Z) getItem (.loc ⟨b+2,e0⟩) (.str x) (λW r=>aw W (.loc ⟨b+3,x⟩) r) (bx b q Z):=Cf (.inl hZ) (kF hq) (nG hx)
theorem DE:V.Bg C (bx b q Z) (.loc ⟨b+2,e0⟩):=rJ (.inl hZ)
end
noncomputable def SS.u7 (q:SS) (p:Str) (n:Nat):SS:=(q.ins p).cf p ((q.ins p).np p+n)
noncomputable def SS.ig (p:Str) (q:SS) (g:Str):SS:=(q.ins g).xV g p
noncomputable def SS.add (q:SS) (p:Str) (gs:List Str):SS:=gs.foldl (SS.ig p) (q.u7 p gs.length)
theorem r4 {q:SS} {y:Str} {n:Nat} (hs: ∀x,(q.su x).length<=n) (x:Str):((q.ins y).su x).length<=n:=by
 delta SS.ins;split
 ·exact hs x
 ·simp only [upd];split
  ·exact dW _
  ·exact hs x
theorem nK {q:SS} {y:Str}:(q.ins y).ks.length<=q.ks.length+1:=by
 delta SS.ins;split
 ·omega
 ·simp
theorem vm {q:SS} {p g:Str} {n:Nat} (hs: ∀x,(q.su x).length<=n) (x:Str):((SS.ig p q g).su x).length<=n+1:=by
 refine(?_:(upd (q.ins g).su g ((q.ins g).su g++ [p]) x).length<=_);have:=r4 (y:=g) hs;delta upd;split
 ·rw [cV];have:=this g;simp only [cq,ic];omega
 ·exact Nat.le_succ_of_le (this x)
theorem Fg: ∀{gs:List Str} {q:SS} {y:Str},y∈q.ks->y∈(gs.foldl (SS.ig p) q).ks:=by
 intro aH;induction aH with
 | nil=>intro u v h;exact h
 | cons g gs ih=>intro q y h;exact ih (q:=SS.ig p q g) (xg (x:=g) h)
theorem J9 {C:V.Cx} (h:Is C) {k:Nat} {Z:V.St} {b:Nat} {q:SS} {p:Str} {gs:List Str} (hb:Cl b Z) (hq:q.ks.Nodup) (hz:q.ks.length+gs.length<=900) (hr:q.rd=none) (hs: ∀x,(q.su x).length+gs.length<=1000):
  V.Cd C (k+4) (bx b q Z) (.ext 254) (.loc ⟨b,e0⟩:: .str p::gs.map .str) [] .none (bx b (q.add p gs) Z):=by
 have hx0:=h.hx;refine eA h.ok ⟨⟨_,_,_,by rw [h.K];exact rfl⟩,rfl,rfl,rfl,rfl,by rw [h.K];rfl,rfl,rfl,by decide+kernel⟩ [lo "self",lo "node",lo "predecessors",lo "nodeinfo",lo "pred",lo "pred_info",gi "ValueError",gi "len"] rfl ([(Str.ofString "self",.loc ⟨b,e0⟩),(Str.ofString "node",.str p)]++ [(Str.ofString "predecessors",.tup (gs.map .str))]) _
  (tf (as:= [.loc ⟨b,e0⟩,.str p]) (rest:=gs.map .str) (zN λx y rr u=>by cases rr<;>rfl) rfl (aV (m:=1000) (by rw [bu];omega) (by decide))) rfl rfl λsc hF n hn=> ?_
 refine tK hF λn0 n1 n2 n3 n4 n5 n6 n7 _=>?_;clear hF;have GV:(q.ins p).ks.Nodup:=ki hq;have z1:(q.ins p).ks.length<=q.ks.length+1:=nK;have r1:(q.u7 p gs.length).rd=none:=A1.trans hr;refine rP (λy hy=>Fg (q:=q.u7 p gs.length) (xg hy)) (λz=>by rw [hr]at z;exact tQ z) ?_;refine cw (aq (c:=false) (bC (aa n0 rfl) (wY h hr)) bV (cQ fN) rfl) ?_;refine aE (au (aM (aa n0 rfl) (jF h eE dY) (af (aa n1 rfl) ao) (KX h rfl) (V.Cd.ca (GH h hb hq (by omega)))) (ag n3 rfl)) ?_;refine aE (jg (aa n3 rfl) (t6 h iX) (aD (ar h.ok n7 (fC h)) (af (aa n2 rfl) ao) bp (vh (aV (m:=1000) (by rw [bu];omega) (by decide)))) wA (yt h iX)) ?_;rw [bu];have pr: ∀(ys:List Str) (z:SS×Option AV×Option AV),(ys.foldl (λ(a:SS×Option AV×Option AV) g=>(SS.ig p a.1 g,some (AV.str g),some (AV.loc ⟨b+3,g⟩))) z).1=ys.foldl (SS.ig p) z.1:=by
  intro ys
  induction ys with
  | nil=>intro z;rfl
  | cons y ys ih=>intro z;exact ih _
 refine iH (aa n2 rfl) iA trivial (iF (C:=C) (k:=k+3) (sc:=sc) (ok:=λu=>True) (enc:=AV.str)
    (M:=λ(a:SS×Option AV×Option AV)=> [some (.loc ⟨b,e0⟩),some (.str p),some (.tup (gs.map .str)),some (.loc ⟨b+3,p⟩),a.2.1,a.2.2,none,none])
    (Sg:=λa=>bx b a.1 Z) (step:=λ(a:SS×Option AV×Option AV) g=>(SS.ig p a.1 g,some (.str g),some (.loc ⟨b+3,g⟩)))
    (P:=λa xs=>a.1.ks.Nodup/\a.1.ks.length+xs.length<=950/\ ∀x,(a.1.su x).length<=1000 - xs.length)
    (λu v w=>trivial) (λa g xs hP=>⟨ki hP.1,by
     have h1:(SS.ig p a.1 g).ks.length<=a.1.ks.length+1:=nK (y:=g);have h2:=hP.2.1;simp only [cq]at h2;refine(?_:(SS.ig p a.1 g).ks.length+_<=_);omega,λx=>by
     have h1:=vm (p:=p) (g:=g) hP.2.2 x;have h2:=hP.2.1;simp only [cq]at h1 h2;refine(?_:((SS.ig p a.1 g).su x).length<=_);omega⟩) ?_ gs (q.u7 p gs.length,none,none)
    ⟨GV,(by refine(?_:(q.ins p).ks.length+gs.length<=950);omega),λx=>r4 (n:=1000 - gs.length) (λx=>by have:=hs x;omega) x⟩) (λu v=>rfl) ?_
 ·rintro ⟨a,o1,o2⟩ g xs ⟨h1,h2,h3⟩
  have h1:a.ks.Nodup:=h1;have h2:a.ks.length+(g::xs).length<=950:=h2;have h3: ∀x,(a.su x).length<=1000:=λx=>bU (h3 x) (Nat.sub_le _ _);refine cx (ag n4 rfl) ?_;exact aJ (au (aM (aa n0 rfl) (jF h eE dY) (af (aa n4 rfl) ao) (KX h rfl) (V.Cd.ca (GH h hb h1 (by omega)))) (ag n5 rfl)) (aJ (cv (aM (bC (aa n5 rfl) (ld_su h iX)) (MO iX) (af (aa n1 rfl) ao) bp (KH iX (r4 h3 g)))) bz)
 ·rw [pr];exact j0
theorem nX (h:Is C) (hr:q.rd=some r) (hz:r.length<=1000):
  V.Cd C (k+3) (bx b q Z) (.ext 273) [.loc ⟨b,e0⟩] [] (.bool (decide (q.nf<q.po) || !r.isEmpty)) (bx b q Z):=by
 have hx0:=h.hx;refine eA h.ok ⟨⟨_,_,_,by rw [h.K];exact rfl⟩,rfl,rfl,rfl,rfl,by rw [h.K];rfl,rfl,rfl,by decide+kernel⟩ [lo "self",gi "ValueError",gi "bool"] rfl [("self",.loc ⟨b,e0⟩)] _
  (bQ (gA λa0=>rfl) rfl) rfl rfl λsc hF n hn=> ?_
 refine ku hF λn0 n1 n2 _=>?_;clear hF;refine C8 ?_;refine cw (aq (c:=false) (bC (aa n0 rfl) (oR h hr)) bV (gK (b:=false) mm) rfl) ?_;rcases hc:decide (q.nf<q.po)with _ | _
 ·rw [Bool.false_or];exact bP (eT (GJ (eu (bC (aa n0 rfl) (AQ h)) (bC (aa n0 rfl) (DC h)) (GG hc) rfl) cu (lL (aD (ar h.ok n2 (g_bool h)) (af (bC (aa n0 rfl) (oR h hr)) ao) cL (wB (.loc (l8 hr)) (aV (m:=1000) (by rw [bu];exact hz) (by decide)) (by rw [List.isEmpty_map]))))))
 ·rw [Bool.true_or];exact bP (eT (mz (eu (bC (aa n0 rfl) (AQ h)) (bC (aa n0 rfl) (DC h)) (GG hc) rfl) cu))
noncomputable def SS.out (q:SS) (r:List Str):SS:={(r.foldl (λq x=>q.cf x (-1)) q)with rd:=some [],po:=q.po+r.length}
theorem nO (r:List Str) (v:Int): ∀q:SS,(r.foldl (λq x=>q.cf x v) q)={q with np:=(r.foldl (λq x=>q.cf x v) q).np}:=by
 induction r with
 | nil=>intro q;rfl
 | cons x r ih=>intro q;rw [cX,ih];rfl
theorem yG (h:Is C) (hr:q.rd=some r) (hz:r.length<=1000) (hq:q.ks.Nodup) (hx: ∀x∈r,x∈q.ks):
  V.Cd C (k+3) (bx b q Z) (.ext 266) [.loc ⟨b,e0⟩] [] (.tup (r.map .str)) (bx b (q.out r) Z):=by
 have hx0:=h.hx;refine eA h.ok ⟨⟨_,_,_,by rw [h.K];exact rfl⟩,rfl,rfl,rfl,rfl,by rw [h.K];rfl,rfl,rfl,by decide+kernel⟩ [lo "self",lo "result",lo "n2i",lo "node",gi "ValueError",gi "tuple",gi "_NODE_OUT",gi "len"] rfl [("self",.loc ⟨b,e0⟩)] _
  (bQ (gA λa0=>rfl) rfl) rfl rfl λsc hF n hn=> ?_
 refine tK hF λn0 n1 n2 n3 n4 n5 n6 n7 _=>?_;clear hF;have e1:=nO r (-1) q;have hr':(r.foldl (λq x=>q.cf x (-1)) q).rd=some r:=by rw [e1];exact hr
 have hk':(r.foldl (λq x=>q.cf x (-1)) q).ks=q.ks:=by rw [e1]
 have hz':(r.map AV.str).length<=sizeLine:=aV (m:=1000) (by rw [bu];exact hz) (by decide);have ek:(q.out r).ks=q.ks:=by delta SS.out;exact hk'
 refine lS (λy hy=>by rw [ek];exact hy) (λu=>rfl) ?_ (bo (λx=>cc) _);refine cw (aq (c:=false) (bC (aa n0 rfl) (oR h hr)) bV (gK (b:=false) mm) rfl) ?_;refine aE (au (aD (ar h.ok n5 (yd h)) (af (bC (aa n0 rfl) (oR h hr)) ao) cL (qg (.loc (l8 hr)) hz')) (ag n1 rfl)) ?_;refine aE (au (bC (aa n0 rfl) (wN h)) (ag n2 rfl)) ?_;refine iH (aa n1 rfl) iA trivial (iF (C:=C) (k:=k+2) (sc:=sc) (ok:=λu=>True) (enc:=AV.str)
    (M:=λ(a:SS×Option AV)=> [some (.loc ⟨b,e0⟩),some (.tup (r.map .str)),some (.loc ⟨b+2,e0⟩),a.2,none,none,none,none])
    (Sg:=λa=>bx b a.1 Z) (step:=λa c=>(a.1.cf c (-1),some (.str c))) (P:=λa xs=>a.1.ks=q.ks/\ ∀x∈xs,x∈q.ks)
    (λu v w=>trivial) (λa x xs hP=>⟨hP.1,λy hy=>hP.2 y (.tail _ hy)⟩) ?_ r (q,none) ⟨rfl,hx⟩) (λu v=>rfl) ?_
 ·rintro ⟨a,o⟩ c xs hP
  have hc:c∈a.ks:=by rw [show a.ks=q.ks from hP.1];exact hP.2 c (.head _)
  have hn':a.ks.Nodup:=by rw [show a.ks=q.ks from hP.1];exact hq
  refine cx (ag n3 rfl) ?_;exact aJ (au (ar h.ok n6 (mS h)) (eJ (aS (aa n2 rfl) (aa n3 rfl) DE (Ds hn' hc)) (yt h hc))) bz
 ·have pr: ∀(xs:List Str) (a:SS×Option AV),(xs.foldl (λa c=>(a.1.cf c (-1),some (AV.str c))) a).1=xs.foldl (λq x=>q.cf x (-1)) a.1:=by
   intro xs
   induction xs with
   | nil=>intro a;rfl
   | cons x xs ih=>intro a;exact ih _
  simp only [pr];refine aE (cv (aM (bC (aa n0 rfl) (oR h hr')) (JH hr') ao bp (KN hr' hz))) ?_;have e2:(r.foldl (λq x=>q.cf x (-1)) q).po=q.po:=by rw [e1]
  have eo:{(r.foldl (λq x=>q.cf x (-1)) q)with rd:=some [],po:=(r.foldl (λq x=>q.cf x (-1)) q).po+((r.map AV.str).length:Int)}=q.out r:=by delta SS.out;rw [e2,bu]
  rw [<-eo];refine aE (jg (aa n0 rfl) (DC h) (aD (ar h.ok n7 (fC h)) (af (aa n1 rfl) ao) bp (vh hz')) wA (Ka h)) ?_;exact bP (aa n1 rfl)
noncomputable def SS.dec (q:SS) (y:Str):SS:=if(q.cf y (q.np y - 1)).np y==0 then(q.cf y (q.np y - 1)).qD y else q.cf y (q.np y - 1)
noncomputable def SS.r3 (q:SS):SS:={q with nf:=q.nf+1}
noncomputable def SS.pU (q:SS) (x:Str):SS:=((q.su x).foldl SS.dec (q.cf x (-2))).r3
noncomputable def SS.tP (q:SS) (xs:List Str):SS:=xs.foldl SS.pU q
theorem BK (q:SS) (y:Str):(q.dec y).ks=q.ks:=by delta SS.dec;split<;>rfl
theorem xi (q:SS) (y:Str):(q.dec y).su=q.su:=by delta SS.dec;split<;>rfl
theorem Hi (q:SS) (y z:Str) (h:z≠y):(q.dec y).np z=q.np z:=by delta SS.dec;split<;>exact fE h
theorem BN (q:SS) (y:Str) (h:q.rd=some r): ∃r',(q.dec y).rd=some r'/\r'.length<=r.length+1:=by
 delta SS.dec;split
 ·exact V.i12 (r++ [y]) (by delta SS.qD SS.cf;simp [h]) (by simp)
 ·exact V.i12 r h (by omega+splitDisjunctions)
theorem decs (ys:List Str): ∀(q:SS),(ys.foldl SS.dec q).ks=q.ks/\(ys.foldl SS.dec q).su=q.su/\(∀z,z∉ys->(ys.foldl SS.dec q).np z=q.np z)/\ ∀r,q.rd=some r-> ∃r',(ys.foldl SS.dec q).rd=some r'/\r'.length<=r.length+ys.length:=by
 induction ys with
 | nil=>intro q;exact tN rfl rfl (λu v=>rfl) λr h=>⟨r,h,by exact gO _ _⟩
 | cons y ys ih=>
  intro q;refine ku (ih (q.dec y)) λa b c d=>tN (a.trans (BK q y)) (b.trans (xi q y)) (λz hz=> ?_) λr h=> ?_
  ·rw [cI,not_or]at hz;exact(c z hz.2).trans (Hi q y z hz.1)
  ·refine V.c12 (BN q y h) λr1 h1 l1=>V.c12 (d r1 h1) λr2 h2 l2=>?_;exact V.i12 r2 h2 (by simp only [cq];omega)
theorem k7 (q:SS) (x:Str):(q.pU x).ks=q.ks/\(q.pU x).su=q.su/\(∀z,z≠x->z∉q.su x->(q.pU x).np z=q.np z)/\ ∀r,q.rd=some r-> ∃r',(q.pU x).rd=some r'/\r'.length<=r.length+(q.su x).length:=by refine ku (decs (q.su x) (q.cf x (-2))) λa b c d=>tN a b (λz h1 h2=>(c z h2).trans (fE h1)) d
structure DP (q:SS) (xs:List Str):Prop where
 rd: ∃r,q.rd=some r/\r.length+(xs.flatMap q.su).length<=1000
 nd:q.ks.Nodup
 cl: ∀x∈q.ks,∀y∈q.su x,y∈q.ks
 out: ∀x∈xs,x∈q.ks/\q.np x= -1
 NZ:xs.Nodup
 far: ∀x∈xs,∀y∈xs,y∉q.su x
theorem DP.step (h:DP q (x::xs)):DP (q.pU x) xs:=by
 refine ku (k7 q x) λa b c d=>V.c12 h.rd λr hr hl=>V.c12 (d r hr) λr' hr' hl'=>?_;refine⟨⟨r',hr',?_⟩,by rw [a];exact h.nd,λz hz y hy=> ?_,λz hz=> ?_,(gM.mp h.NZ).2,λz hz y hy=> ?_⟩
 ·rw [b];simp only [gj,cV]at hl;omega
 ·rw [a]at hz⊢;rw [b]at hy;exact h.cl z hz y hy
 ·rw [a];refine⟨(h.out z (.tail _ hz)).1,?_⟩;rw [c z (λe=>(gM.mp h.NZ).1 (by rw [<-e];exact hz)) (h.far x (.head _) z (.tail _ hz))];exact(h.out z (.tail _ hz)).2
 ·rw [b];exact h.far z (.tail _ hz) y (.tail _ hy)
theorem DP.all: ∀{xs:List Str} {q:SS},DP q xs->(q.tP xs).ks=q.ks/\(q.tP xs).su=q.su/\ ∃r,(q.tP xs).rd=some r:=by
 intro aH;induction aH with
 | nil=>intro q h;exact nB rfl rfl (h.rd.elim λr z=>⟨r,z.1⟩)
 | cons x xs ih=>intro q h;refine nR (ih h.step) λa b c=>nB (a.trans (k7 q x).1) (b.trans (k7 q x).2.1) c
theorem Im (h:Is C) (hp:DP q gs) (hz:gs.length<=1000):
  V.Cd C (k+3) (bx b q Z) (.ext 287) (.loc ⟨b,e0⟩::gs.map .str) [] .none (bx b (q.tP gs) Z):=by
 have hx0:=h.hx;refine eA h.ok ⟨⟨_,_,_,by rw [h.K];exact rfl⟩,rfl,rfl,rfl,rfl,by rw [h.K];rfl,rfl,rfl,by decide+kernel⟩ [lo "self",lo "nodes",lo "n2i",lo "node",lo "nodeinfo",lo "stat",lo "successor",lo "successor_info",gi "ValueError",gi "_NODE_OUT",gi "_NODE_DONE"] rfl ([(Str.ofString "self",.loc ⟨b,e0⟩)]++ [(Str.ofString "nodes",.tup (gs.map .str))]) _
  (tf (as:= [.loc ⟨b,e0⟩]) (rest:=gs.map .str) (gA λx rr g=>by cases rr<;>rfl) rfl (aV (m:=1000) (by rw [bu];exact hz) (by decide))) rfl rfl λsc hF n hn=> ?_
 refine tK hF λn0 n1 n2 n3 n4 n5 n6 n7 w=>ku w λn8 n9 n10 _=>?_;clear hF;refine V.c12 hp.rd λr hr hrl=>?_;obtain⟨ek,es,rr,er⟩:=hp.all;refine rP (λy hy=>by rw [ek];exact hy) (λg=>by rw [er];rfl) ?_;refine cw (aq (c:=false) (bC (aa n0 rfl) (oR h hr)) bV (gK (b:=false) mm) rfl) ?_;refine aE (au (bC (aa n0 rfl) (wN h)) (ag n2 rfl)) ?_;refine iH (aa n1 rfl) iA trivial (iF (C:=C) (k:=k+2) (sc:=sc) (ok:=λg=>True) (enc:=AV.str)
    (M:=λ(a:SS×Option AV×Option AV×Option AV×Option AV×Option AV)=> [some (.loc ⟨b,e0⟩),some (.tup (gs.map .str)),some (.loc ⟨b+2,e0⟩),a.2.1,a.2.2.1,a.2.2.2.1,a.2.2.2.2.1,a.2.2.2.2.2,none,none,none])
    (Sg:=λa=>bx b a.1 Z) (step:=λa c=>(a.1.pU c,some (.str c),some (.loc ⟨b+3,c⟩),some (.int (-1)),((a.1.su c).foldl (λ(a:SS×Option AV×Option AV) y=>(a.1.dec y,some (.str y),some (.loc ⟨b+3,y⟩))) (a.1.cf c (-2),a.2.2.2.2)).2)) (P:=λa xs=>DP a.1 xs)
    (λg t p=>trivial) (λa x xs hP=>hP.step) ?_ gs (q,none,none,none,none,none) hp) (λg t=>rfl) ?_
 ·rintro ⟨a,o1,o2,o3,o4,o5⟩ c xs hP
  have hP:DP a (c::xs):=hP;refine V.c12 hP.rd λr1 hr1 hl1=>?_;have hnd:=hP.nd;refine bG (hP.out c (.head _)) λhc hnp=>cx (ag n3 rfl) ?_;refine cg (aq (c:=false) (oz (aM (aa n2 rfl) (wt (.inl hZ)) (af (aa n3 rfl) ao) bp (xo (.inl hZ) (kF hnd) (by rw [nG hc];rfl))) (ag n4 rfl)) bV (gK (b:=false) mm) rfl) ?_;refine aJ (au (bC (aa n4 rfl) (t6 h hc)) (ag n5 rfl)) ?_;rw [hnp];refine cg (aq (c:=false) (aa n5 rfl) (ar h.ok n9 (mS h)) (GI rfl) rfl) ?_;refine aJ (au (ar h.ok n10 (rU h)) (eJ (aa n4 rfl) (yt h hc))) ?_;have hc2:c∈(a.cf c (-2)).ks:=hc;have pr: ∀(ys:List Str) (z:SS×Option AV×Option AV),(ys.foldl (λ(a:SS×Option AV×Option AV) y=>(a.1.dec y,some (AV.str y),some (AV.loc ⟨b+3,y⟩))) z).1=ys.foldl SS.dec z.1:=by
   intro ys
   induction ys with
   | nil=>intro z;rfl
   | cons y ys ih=>intro z;exact ih _
  refine aJ (jv (f:= .next) (bC (aa n4 rfl) (ld_su h hc2)) i9 (.loc (nu hc2)) (iF (C:=C) (k:=k+2) (sc:=sc) (ok:=λaB=>V.IsL aB (.loc ⟨b+5,c⟩) ((a.su c).map .str)) (enc:=AV.str)
     (M:=λ(z:SS×Option AV×Option AV)=> [some (.loc ⟨b,e0⟩),some (.tup (gs.map .str)),some (.loc ⟨b+2,e0⟩),some (.str c),some (.loc ⟨b+3,c⟩),some (.int (-1)),z.2.1,z.2.2,none,none,none])
     (Sg:=λz=>bx b z.1 Z) (step:=λ(a:SS×Option AV×Option AV) y=>(a.1.dec y,some (.str y),some (.loc ⟨b+3,y⟩)))
     (P:=λz ys=>z.1.ks=a.ks/\z.1.su=a.su/\(∃r,z.1.rd=some r/\r.length+ys.length<=1000)/\ ∀y∈ys,y∈a.ks)
     (λz ys hz=> .loc (by rw [nu (by rw [hz.1];exact hc),hz.2.1])) (λz y ys hz=>by
      refine ku hz λz1 z2 v z5=>V.c12 v λr z3 z4=>?_;clear hz;refine V.c12 (BN z.1 y z3) λr' y1 y2=>?_;exact tN ((BK _ _).trans z1) ((xi _ _).trans z2) ⟨r',y1,by simp only [cq]at z4;omega⟩ λy hy=>z5 y (.tail _ hy)) ?_ (a.su c) (a.cf c (-2),o4,o5)
     ⟨rfl,rfl,⟨r1,hr1,by simp only [gj,cV]at hl1;omega⟩,λy hy=>hP.cl c hc y hy⟩) (λg t=>rfl)) ?_
  ·rintro ⟨z,p1,p2⟩ y ys hz
   refine ku hz λz1 z2 u z5=>V.c12 u λrz z3 z4=>?_;clear hz;have z1:z.ks=a.ks:=z1;have z3:z.rd=some rz:=z3;have hy:y∈z.ks:=by rw [z1];exact z5 y (.head _)
   have hn':z.ks.Nodup:=by rw [z1];exact hnd
   refine cx (ag n6 rfl) ?_;refine aJ (au (aS (aa n2 rfl) (aa n6 rfl) DE (Ds hn' hy)) (ag n7 rfl)) ?_;refine aJ (jg (aa n7 rfl) (t6 h hy) aC ID (yt h hy)) ?_;have hy2:y∈(z.cf y (z.np y - 1)).ks:=hy;have zl:rz.length<=1000:=by simp only [cq]at z4;omega
   rcases ht:((z.cf y (z.np y - 1)).np y==0)with _ | _
   ·have e:z.dec y=z.cf y (z.np y - 1):=by delta SS.dec;rw [az (by rw [ht];decide)]
    dsimp only;rw [e];exact cg (aq (c:=false) (bC (aa n7 rfl) (t6 h hy2)) aC (lF ht) rfl) bz
   ·have e:z.dec y=(z.cf y (z.np y - 1)).qD y:=by delta SS.dec;rw [aG ht]
    dsimp only;rw [e];have Nj:(z.cf y (z.np y - 1)).rd=some rz:=z3;exact dy (aq (c:=true) (bC (aa n7 rfl) (t6 h hy2)) aC (lF ht) rfl) (aJ (cv (aM (bC (aa n0 rfl) (oR h Nj)) (MS Nj) (af (aa n6 rfl) ao) bp (Kf Nj zl))) bz)
  ·dsimp only;delta SS.pU SS.r3;have O9:(a.su c).foldl SS.dec (a.cf c (-2))=((a.su c).foldl (λ(a:SS×Option AV×Option AV) y=>(a.1.dec y,some (AV.str y),some (AV.loc ⟨b+3,y⟩))) (a.cf c (-2),o4,o5)).1:=(pr (a.su c) (a.cf c (-2),o4,o5)).symm;rw [O9];exact aJ (jg (aa n0 rfl) (AQ h) aC wA (Ko h)) bz
 ·have pr: ∀(xs:List Str) (z:SS×Option AV×Option AV×Option AV×Option AV×Option AV) (f:SS×Option AV×Option AV×Option AV×Option AV×Option AV->Str->Option AV×Option AV×Option AV×Option AV×Option AV),(xs.foldl (λa c=>(a.1.pU c,f a c)) z).1=xs.foldl SS.pU z.1:=by
   intro xs
   induction xs with
   | nil=>intro z f;rfl
   | cons x xs ih=>intro z f;exact ih _ f
  rw [pr];exact j0
noncomputable def qt (x:Str):Str:="'"++x++"'"
noncomputable def Rq (C:V.Cx) (k:Nat) (sc:Scope) (ms:List (Option AV)) (Z:V.St) (ss:List Stmt) (cls:Value) (as:List AV) (aB:V.St):Prop:= ∃aK,V.Rz C k sc ms Z (execs ss) cls as aK aB
section
variable {C:V.Cx} {k:Nat} {sc:Scope} {ms ai aZ aK:List (Option AV)} {Z ae aN aB:V.St} {cls:Value} {as:List AV}
theorem yw {st:Stmt} {rest:List Stmt} (h1:V.X1 C k sc ms Z st .next ai ae) (h2:Rq C k sc ai ae rest cls as aB):Rq C k sc ms Z (st::rest) cls as aB:=h2.elim λm z=>⟨m,Ew h1 z⟩
theorem Ia (h1:V.Tv C k sc ms Z test true ai ae) (h2:Rq C k sc ai ae (x++rest) cls as aB):Rq C k sc ms Z (.If test x y pos::rest) cls as aB:=h2.elim λm z=>⟨m,Hx h1 z⟩
theorem Iv (h1:V.Tv C k sc ms Z test false ai ae) (h2:Rq C k sc ai ae (y++rest) cls as aB):Rq C k sc ms Z (.If test x y pos::rest) cls as aB:=h2.elim λm z=>⟨m,HO h1 z⟩
theorem EU {st:Stmt} {rest:List Stmt} (h:V.Rz C k sc ms Z (exec st) cls as aK aB):Rq C k sc ms Z (st::rest) cls as aB:=⟨_,sr h⟩
theorem MT (h:Rq C k sc ms ae body cls as aB) (e:DU pC aB as aB): ∃aK cP,V.Rz C k sc ms ae (execs body) cls as aK cP/\DU pC cP as aB:=h.elim λm z=>⟨m,_,z,e⟩
end
end L1
end
section
namespace L1
open V (AV AO)
noncomputable def fc (m:Nat) (A B:List AV) (S:List Str) (D:List (Str×AV)) (I:Str->Option AO) (Z:V.St):V.St:=λl=>
 if l=⟨m,e0⟩then some (.list A)else if l=⟨m+1,e0⟩then some (.list B)else if l=⟨m+2,e0⟩then some (.set S)else if l=⟨m+3,e0⟩then some (.dict D)else if l.tag=m+4 then I l.key else Z l
section
variable {m:Nat} {A A' B B':List AV} {S S':List Str} {D D':List (Str×AV)} {I:Str->Option AO} {Z:V.St} {x:Str} {o:AO}
theorem NM:(fc m A B S D I Z).set ⟨m,e0⟩ (.list A')=fc m A' B S D I Z:=by
 funext l;by_cases h:l=⟨m,e0⟩
 ·subst h;rw [V.set_same];delta fc;simp
 ·rw [aj h];delta fc;rw [az h,az h]
theorem NH:(fc m A B S D I Z).set ⟨m+1,e0⟩ (.list B')=fc m A B' S D I Z:=by
 funext l;by_cases h:l=⟨m+1,e0⟩
 ·subst h;rw [V.set_same];delta fc;simp
 ·rw [aj h];delta fc;rw [az h,az h]
theorem OG:(fc m A B S D I Z).set ⟨m+2,e0⟩ (.set S')=fc m A B S' D I Z:=by
 funext l;by_cases h:l=⟨m+2,e0⟩
 ·subst h;rw [V.set_same];delta fc;simp
 ·rw [aj h];delta fc;rw [az h,az h]
theorem NN:(fc m A B S D I Z).set ⟨m+3,e0⟩ (.dict D')=fc m A B S D' I Z:=by
 funext l;by_cases h:l=⟨m+3,e0⟩
 ·subst h;rw [V.set_same];delta fc;simp
 ·rw [aj h];delta fc;rw [az h,az h]
theorem MV:(fc m A B S D I Z).set ⟨m+4,x⟩ o=fc m A B S D (upd I x (some o)) Z:=by
 funext l;by_cases h:l=⟨m+4,x⟩
 ·subst h;rw [V.set_same];delta fc;simp [upd]
 ·rw [aj h];delta fc;by_cases k:l.tag=m+4
  ·have:l.key≠x:=λe=>h (by cases l;simp at k e;rw [k,e]);rw [fE this]
  ·simp only [k,jG]
theorem JT (h:l.tag<m):(fc m A B S D I Z).set l o=fc m A B S D I (Z.set l o):=by
 funext y;by_cases e:y=l
 ·subst e;rw [V.set_same];delta fc;rw [az (λe=>by rw [e]at h;exact absurd h (iM _)),az (λe=>by rw [e]at h;simp only at h;omega),az (λe=>by rw [e]at h;simp only at h;omega),az (λe=>by rw [e]at h;simp only at h;omega),az (by omega),V.set_same]
 ·rw [aj e];delta fc;rw [aj e]
theorem EB:fc m A B S D I Z ⟨m,e0⟩=some (.list A):=by delta fc;simp
theorem Gw:fc m A B S D I Z ⟨m+1,e0⟩=some (.list B):=by delta fc;simp
theorem Hc:fc m A B S D I Z ⟨m+2,e0⟩=some (.set S):=by delta fc;simp
theorem Jo:fc m A B S D I Z ⟨m+3,e0⟩=some (.dict D):=by delta fc;simp
theorem Mc:fc m A B S D I Z ⟨m+4,x⟩=I x:=by delta fc;simp
theorem Jh (h:l.tag<m):fc m A B S D I Z l=Z l:=by delta fc;rw [az (λe=>by rw [e]at h;exact absurd h (iM _)),az (λe=>by rw [e]at h;simp only at h;omega),az (λe=>by rw [e]at h;simp only at h;omega),az (λe=>by rw [e]at h;simp only at h;omega),az (by omega)]
theorem AX (h: ∀l:V.Loc,m<=l.tag->Z l=none):(((Z.set ⟨m,e0⟩ (.list [])).set ⟨m+1,e0⟩ (.list [])).set ⟨m+2,e0⟩ (.set [])).set ⟨m+3,e0⟩ (.dict [])=fc m [] [] [] [] (λu=>none) Z:=by
 funext l;delta fc V.St.set;by_cases h3:l=⟨m+3,e0⟩
 ·subst h3;simp
 by_cases h2:l=⟨m+2,e0⟩
 ·subst h2;simp
 by_cases h1:l=⟨m+1,e0⟩
 ·subst h1;simp
 by_cases h0:l=⟨m,e0⟩
 ·subst h0;simp
 simp only [h0,h1,h2,h3,jG];by_cases k:l.tag=m+4
 ·rw [aG k];exact h l (by omega)
 ·rw [az k]
end
noncomputable def sm:List (Str×Nat)->List (Str×AV)
 | []=> []
 | (x,_)::t=>sm t++ [(x,.int t.length)]
noncomputable def yP (t:List (Str×Nat)):List AV:=t.reverse.map λp=> .str p.1
noncomputable def Gp (m:Nat) (t:List (Str×Nat)):List AV:=t.reverse.map λp=> .mw "list_iterator.__next__" ⟨m+4,p.1⟩
theorem jU:yP (p::t)=yP t++ [.str p.1]:=by delta yP;simp
theorem lR:Gp m (p::t)=Gp m t++ [.mw "list_iterator.__next__" ⟨m+4,p.1⟩]:=by delta Gp;simp
theorem jb: ∀t:List (Str×Nat),(sm t).map (·.1)=(t.map (·.1)).reverse
 | []=>rfl
 | (x,i)::t=>by unfold sm;rw [fk,jb t];simp
theorem rH: ∀t:List (Str×Nat),(sm t).length=t.length
 | []=>rfl
 | (x,i)::t=>by unfold sm;rw [cV,rH t];rfl
theorem oI (h:(t.map (·.1)).Nodup):V.DN (sm t):=by delta V.DN;rw [jb];exact List.pairwise_reverse.mpr (List.Pairwise.imp (λz=>z.symm) h)
theorem tc (h:x∉es.map (·.1)):gU es x=none:=by
 delta gU;have:es.find? (λe=>decide (e.1=x))=none:=by rw [List.find?_eq_none];intro e he z;simp at z;exact h (bM.mpr ⟨e,he,z⟩)
 rw [this];rfl
theorem s8 (h:x∈es.map (·.1)):(gU es x).isSome=true:=by delta gU;rw [Option.isSome_map,List.find?_isSome];refine V.c12 (bM.mp h) λe he z=>V.i12 e he (by simp [z])
theorem vw (h:gU es x=some v):gU (es++fs) x=some v:=by
 delta gU at h⊢;rw [List.find?_append];rcases e:es.find? (λe=>decide (e.1=x))with _ | y
 ·rw [e]at h;exact dC h
 ·rw [e]at h;rw [e];exact h
theorem B1 (h:x∉es.map (·.1)):V.dput es x v=es++ [(x,v)]:=by delta V.dput;rw [az];intro z;rw [yT]at z;refine V.c12 z λe he z=>h (bM.mpr ⟨e,he,by simpa using z⟩)
theorem Bw (h:x∉es.map (·.1)):Ce (es++ [(x,v)]) x=es:=by
 delta Ce;rw [Cv];have:es.filter (λe=>decide (e.1≠x))=es:=by rw [CG];intro e he;simp only [pL];intro z;exact h (bM.mpr ⟨e,he,z⟩)
 rw [this];simp
inductive AN (su:Str->List Str):List Str->Prop
 | nil:AN su []
 | cons {x:Str} {fl:List Str} (h: ∀y∈su x,y∈fl) (n:x∉fl) (t:AN su fl):AN su (x::fl)
inductive Ee (su:Str->List Str) (fl:List Str):Str->List (Str×Nat)->Prop
 | nil {a:Str}:Ee su fl a []
 | cons {a x:Str} {i:Nat} {t:List (Str×Nat)} (h:(su x)[i]? =some a) (p: ∀y∈(su x).take i,y∈fl) (u:Ee su fl x t):Ee su fl a ((x,i+1)::t)
inductive sO (su:Str->List Str):List Str->Prop
 | one {x:Str}:sO su [x]
 | cons {x y:Str} {t:List Str} (h:y∈su x) (l:sO su (y::t)):sO su (x::y::t)
noncomputable def wO (su:Str->List Str) (L:List Str):Prop:= ∃y M,L=y::(M++ [y])/\(M++ [y]).Nodup/\sO su L
theorem sO.snoc {su:Str->List Str} (h:y∈su x): ∀{l:List Str},sO su (l++ [x])->sO su (l++ [x]++ [y])
 | [],_=> .cons h .one
 | [a],z=>by cases z with | cons q z=>exact .cons q (.cons h .one)
 | a::c::l,z=>by cases z with | cons q z=>exact .cons q (sO.snoc h (l:=c::l) z)
theorem Ee.mono {su:Str->List Str} (m: ∀x∈fl,x∈Pa) (h:Ee su fl a t):Ee su Pa a t:=by
 induction h with
 | nil=>exact .nil
 | cons h p _ ih=>exact .cons h (λy hy=>m y (p y hy)) ih
theorem Ee.ring {su:Str->List Str} (h:Ee su fl a t): ∀{seg rest:List Str} {y:Str},t.map (·.1)=seg++y::rest->sO su (y::seg.reverse++ [a]):=by
 induction h with
 | nil=>intro seg rest y e;cases seg<;>exact Iq e
 | @cons a x i t h p u ih=>
  intro seg rest y e;have ha:a∈su x:=ip h;cases seg with
  | nil=>injection e with e1 e2;subst e1;exact .cons ha .one
  | cons z seg=>
   injection e with e1 e2
   have e1:x=z:=e1;subst e1;rw [List.reverse_cons,<-List.cons_append];exact sO.snoc (l:=y::seg.reverse) ha (ih e2)
noncomputable def L2 (su:Str->List Str) (ks:List Str):Option (List Str)->Prop
 | none=> ∃fl,AN su fl/\ ∀x∈ks,x∈fl
 | some L=>wO su L
structure FS where
 se:List Str
 t:List (Str×Nat)
 I:Str->Option AO
noncomputable def fS (b m:Nat) (q:SS) (Z:V.St) (cnt:Nat) (s:FS):V.St:=fc m (yP s.t) (Gp m s.t) s.se (sm s.t) s.I ((bx b q Z).set ⟨b+2,e0⟩ (.map (sN b q) cnt))
noncomputable def FS.pI (b:Nat) (s:FS) (x:Str) (i:Nat) (t:List (Str×Nat)):FS:=⟨s.se,(x,i+1)::t,upd s.I x (some (.iter ⟨b+5,x⟩ (i+1)))⟩
noncomputable def FS.push (b:Nat) (s:FS) (y:Str):FS:=⟨s.se++ [y],(y,0)::s.t,upd s.I y (some (.iter ⟨b+5,y⟩ 0))⟩
noncomputable def FS.pop (s:FS) (x:Str) (t:List (Str×Nat)):FS:=⟨s.se,t,upd s.I x (some .junk)⟩
structure WF (q:SS) (b:Nat) (s:FS):Prop where
 nd:(s.t.map (·.1)).Nodup
 sub: ∀x∈s.t.map (·.1),x∈s.se
 ks: ∀x∈s.se,x∈q.ks
 send:s.se.Nodup
 it: ∀p∈s.t,s.I p.1=some (.iter ⟨b+5,p.1⟩ p.2)
 inn: ∀x,x∉s.se->s.I x=none
structure JJ (q:SS) (fl:List Str) (s:FS):Prop where
 top: ∀x i t,s.t=(x,i)::t->(∀y∈(q.su x).take i,y∈fl)/\Ee q.su fl x t
 se: ∀x∈s.se,x∈fl\/x∈s.t.map (·.1)
 fin:AN q.su fl
 fs: ∀x∈fl,x∈s.se/\x∉s.t.map (·.1)
structure DM (q:SS):Prop where
 nd:q.ks.Nodup
 su: ∀x∈q.ks,∀y∈q.su x,y∈q.ks
 len:q.ks.length<=1000
variable {q:SS} {b:Nat} {s:FS}
theorem WF.pI (w:WF q b s) (e:s.t=(x,i)::t):WF q b (s.pI b x i t):=by
 have em:(s.pI b x i t).t.map (·.1)=s.t.map (·.1):=by rw [e];rfl
 have hn:=w.nd;refine⟨by rw [em];exact hn,by rw [em];exact w.sub,w.ks,w.send,?_,?_⟩
 ·intro p hp;refine aP (cI.mp hp) (λu=>?_) λhp=>?_
  ·subst u;exact gR
  ·rw [e]at hn;have:p.1≠x:=λz=>(gM.mp hn).1 (bM.mpr ⟨p,hp,z⟩);refine(?_:upd s.I x _ p.1=_);rw [fE this];exact w.it p (by rw [e];exact .tail _ hp)
 ·intro z hz;have:z≠x:=λe2=>hz (by rw [e2];exact w.sub x (by rw [e];exact .head _));refine(?_:upd s.I x _ z=_);rw [fE this];exact w.inn z hz
theorem WF.push (w:WF q b s) (hy:y∉s.se) (hk:y∈q.ks):WF q b (s.push b y):=by
 have hy':y∉s.t.map (·.1):=λz=>hy (w.sub y z);refine⟨gM.mpr ⟨hy',w.nd⟩,?_,?_,?_,?_,?_⟩
 ·intro x hx;refine aP (cI.mp hx) (λv=>?_) λhx=>?_
  ·subst v;exact cm.mpr (.inr (.head _))
  ·exact cm.mpr (.inl (w.sub x hx))
 ·intro x hx;refine aP (cm.mp hx) (λz=>?_) λz=>?_
  ·exact w.ks x z
  ·simp at z;rw [z];exact hk
 ·refine(?_:(s.se++ [y]).Nodup);rw [ue];refine nB w.send (by simp) ?_;intro a ha c hc;simp at hc;subst hc;intro e;subst e;exact hy ha
 ·intro p hp;refine aP (cI.mp hp) (λu=>?_) λhp=>?_
  ·subst u;exact gR
  ·have:p.1≠y:=λz=>hy' (bM.mpr ⟨p,hp,z⟩);refine(?_:upd s.I y _ p.1=_);rw [fE this];exact w.it p hp
 ·intro z hz;have:z≠y:=λe2=>hz (cm.mpr (.inr (by rw [e2];exact .head _)));refine(?_:upd s.I y _ z=_);rw [fE this];exact w.inn z λh=>hz (cm.mpr (.inl h))
theorem WF.pop (w:WF q b s) (e:s.t=(x,i)::t):WF q b (s.pop x t):=by
 have hn:=w.nd;rw [e]at hn;refine⟨(gM.mp hn).2,λz hz=>w.sub z (by rw [e];exact .tail _ hz),w.ks,w.send,?_,?_⟩
 ·intro p hp;have:p.1≠x:=λz=>(gM.mp hn).1 (bM.mpr ⟨p,hp,z⟩);refine(?_:upd s.I x _ p.1=_);rw [fE this];exact w.it p (by rw [e];exact .tail _ hp)
 ·intro z hz;have:z≠x:=λe2=>hz (by rw [e2];exact w.sub x (by rw [e];exact .head _));refine(?_:upd s.I x _ z=_);rw [fE this];exact w.inn z hz
noncomputable def Rest (C:V.Cx) (k:Nat) (sc:Scope) (te j5:Expr) (bd ob kr:List Stmt) (M:Option AV->List (Option AV)) (F:FS->V.St) (o:Option AV) (s:FS) (f:V.AF) (o':Option AV) (s':FS):Prop:=
 (∃o1 s1,V.Wr C k sc te bd ob (M o) (F s) .next (M o1) (F s1)/\V.Wr C k sc j5 kr [] (M o1) (F s1) f (M o') (F s'))\/(V.Wr C k sc te bd ob (M o) (F s) .brk (M o') (F s')/\f= .next)
noncomputable def pq:Option (List Str)->V.AF
 | none=> .next
 | some L=> .ret (.lst (L.map .str))
structure PR (q:SS) (b:Nat) (s:FS):Prop where
 t:s.t= []
 w:WF q b s
 j: ∃fl,JJ q fl s
noncomputable def qR (q:SS) (b:Nat) (s s':FS):Option (List Str)->Prop
 | none=>PR q b s'/\ ∀x∈s.se,x∈s'.se
 | some L=>wO q.su L
theorem qR.up (h:qR q b s1 s' res) (m: ∀x∈s0.se,x∈s1.se):qR q b s0 s' res:=by
 cases res with
 | none=>exact⟨h.1,λx hx=>h.2 x (m x hx)⟩
 | some L=>exact h
noncomputable def rem (q:SS):List (Str×Nat)->Nat
 | []=>0
 | (x,i)::t=>(q.su x).length - i+1+rem q t
structure HH (q:SS) (b:Nat) (C:V.Cx) (k:Nat) (sc:Scope) (tgt te j5:Expr) (bd ob kr lu:List Stmt) (eH p2:Pos) (ok:V.St->Prop) (M:Option AV->List (Option AV)) (F:FS->V.St):Prop where
 out: ∀o s,s.t= []->V.Tv C k sc (M o) (F s) te false (M o) (F s)/\V.Ex C k sc (M o) (F s) ob .brk (M o) (F s)
 test: ∀o s p t,s.t=p::t->WF q b s->V.Tv C k sc (M o) (F s) te true (M o) (F s)
 next: ∀o s x i t y,s.t=(x,i)::t->WF q b s->(q.su x)[i]? =some y->V.Ex C k sc (M o) (F s) bd .brk (M (some (.str y))) (F (s.pI b x i t))
 stop: ∀o s x i t,s.t=(x,i)::t->WF q b s->(q.su x).length<=i->V.Ex C k sc (M o) (F s) bd .next (M o) (F (s.pop x t))
 Ea: ∀o s,V.Tv C k sc (M o) (F s) j5 true (M o) (F s)
 push: ∀y s f aK aB,WF q b s->y∉s.se->y∈q.ks->V.Ex C k sc (M (some (.str y))) (F (s.push b y)) [.While te bd ob eH] f aK aB->V.Ex C k sc (M (some (.str y))) (F s) kr f aK aB
 seen: ∀y s f aK aB,WF q b s->y∈s.se->y∉s.t.map (·.1)->V.Ex C k sc (M (some (.str y))) (F s) [.While te bd ob eH] f aK aB->V.Ex C k sc (M (some (.str y))) (F s) kr f aK aB
 ret: ∀s seg y rest,WF q b s->s.t.map (·.1)=seg++y::rest->V.Ex C k sc (M (some (.str y))) (F s) kr (.ret (.lst ((y::seg.reverse++ [y]).map .str))) (M (some (.str y))) (F s)
 has: ∀o x s,V.As C k sc (M o) (F s) tgt (.str x) (M (some (.str x))) (F s)
 ok: ∀s,ok (F s)
 skip: ∀x s,WF q b s->x∈s.se->V.Ex C k sc (M (some (.str x))) (F s) lu .cont (M (some (.str x))) (F s)
 go: ∀x s f aK aB,WF q b s->x∉s.se->V.Ex C k sc (M (some (.str x))) (F s) [.While j5 kr [] p2] f aK aB->V.Ex C k sc (M (some (.str x))) (F s) lu f aK aB
section
variable {C:V.Cx} {k:Nat} {sc:Scope} {tgt te j5:Expr} {bd ob kr lu:List Stmt} {eH p2:Pos} {ok:V.St->Prop} {M:Option AV->List (Option AV)} {F:FS->V.St}
theorem HH.G1 (H:HH q b C k sc tgt te j5 bd ob kr lu eH p2 ok M F)
  (R:Rest C k sc te j5 bd ob kr M F (some (.str y)) s f o' s') (E: ∀f aK aB,V.Ex C k sc (M (some (.str y))) (F s) [.While te bd ob eH] f aK aB->V.Ex C k sc (M (some (.str y))) (F IJ) kr f aK aB):
  V.Wr C k sc j5 kr [] (M (some (.str y))) (F IJ) f (M o') (F s'):=by
 refine aP R (λw=>v8 w λo1 s1 w1 w2=>?_) λu=>bG u λw1 v=>?_
 ·exact .turn (H.Ea _ _) (E _ _ _ (aJ (jY w1) bz)) (.inl rfl) w2
 ·subst v;exact .brk (H.Ea _ _) (E _ _ _ (iu (jY w1) (λz=>by cases z)))
end
noncomputable def Walks (q:SS) (b:Nat) (o:Option AV) (s:FS) (res:Option (List Str)) (o':Option AV) (s':FS):Prop:=
 ∀(C:V.Cx) (k:Nat) (sc:Scope) (tgt te j5:Expr) (bd ob kr lu:List Stmt) (eH p2:Pos) (ok:V.St->Prop) (M:Option AV->List (Option AV)) (F:FS->V.St),HH q b C k sc tgt te j5 bd ob kr lu eH p2 ok M F->Rest C k sc te j5 bd ob kr M F o s (pq res) o' s'
theorem Ir (G:DM q):
  ∀(N m:Nat) (o:Option AV) (s:FS) (fl:List Str),q.ks.length - s.se.length=N->rem q s.t=m->WF q b s->JJ q fl s->
   ∃s' o' res,qR q b s s' res/\Walks q b o s res o' s':=by
 intro N
 induction N using Nat.strongRecOn with
 | _ N Pb=>
 intro m
 induction m using Nat.strongRecOn with
 | _ m N0=>
 intro o s fl hN hm w j;rcases ht:s.t with _ | ⟨⟨x,i⟩,t⟩
 ·exact BD s o none ⟨⟨ht,w,fl,j⟩,λg z=>z⟩ λC k sc tgt te j5 bd ob kr lu eH p2 ok M F H=> .inr ⟨.out (H.out o s ht).1 (H.out o s ht).2,rfl⟩
 have hxs:x∈s.se:=w.sub x (by rw [ht];exact .head _);have hxk:x∈q.ks:=w.ks x hxs;refine bG (j.top x i t ht) λhpos IX=>?_;have hnd:=w.nd;rw [ht]at hnd;have hxf:x∉fl:=λz=>(j.fs x z).2 (by rw [ht];exact .head _);rcases hy:(q.su x)[i]? with _ | y
 ·have hle:(q.su x).length<=i:=o9.mp hy;rw [List.take_of_length_le hle]at hpos;have w2:=w.pop ht;have j2:JJ q (x::fl) (s.pop x t):=by
   refine⟨λz i' t' e=> ?_,λz hz=> ?_,.cons hpos hxf j.fin,λz hz=> ?_⟩
   ·have e:t=(z,i')::t':=e;subst e;cases IX with
    | cons h p u=>
     refine⟨λy hy=> ?_,u.mono λg h=> .tail _ h⟩;rw [C6,h]at hy;refine aP (cm.mp hy) (λhy=>?_) λhy=>?_
     ·exact .tail _ (p y hy)
     ·simp at hy;subst hy;exact .head _
   ·refine aP (j.se z hz) (λh=>?_) λh=>?_
    ·exact .inl (.tail _ h)
    ·rw [ht]at h;refine aP (cI.mp h) (λh=>?_) λh=>?_
     ·exact .inl (by rw [h];exact .head _)
     ·exact .inr h
   ·refine aP (cI.mp hz) (λn=>?_) λhz=>?_
    ·subst n;exact⟨hxs,(gM.mp hnd).1⟩
    ·have:=j.fs z hz;rw [ht]at this;exact⟨this.1,λh=>this.2 (.tail _ h)⟩
  refine sL (N0 (rem q t) (by rw [<-hm,ht];refine(?_:_<(q.su x).length - i+1+rem q t);omega) o (s.pop x t) (x::fl) hN rfl w2 j2) λs' o' res hf hR=>?_;refine BD s' o' res (hf.up (λg z=>z)) λC k sc tgt te j5 bd ob kr lu eH p2 ok M F H=> ?_;have st:=H.stop o s x i t ht w hle;have te:=H.test o s _ t ht w;refine aP (hR _ _ _ _ _ _ _ _ _ _ _ _ _ _ _ H) (λr=>v8 r λo1 s1 w1 w2=>?_) λv=>bG v λw1 e=>?_
  ·exact .inl ⟨o1,s1,.turn te st (.inl rfl) w1,w2⟩
  ·exact .inr ⟨.turn te st (.inl rfl) w1,e⟩
 ·have hlt:i<(q.su x).length:=by
   refine aP (oZ i (q.su x).length) (λz=>?_) λz=>?_
   ·exact z
   ·rw [o9.mpr z]at hy;exact dC hy
  have hys:y∈q.su x:=ip hy;have JA:=G.su x hxk y hys;have w1:=w.pI (b:=b) ht;have em:(s.pI b x i t).t.map (·.1)=s.t.map (·.1):=by rw [ht];rfl
  have hu:Ee q.su fl y ((x,i+1)::t):= .cons hy hpos IX;have htk:(q.su x).take (i+1)=(q.su x).take i++ [y]:=by rw [C6,hy];rfl
  by_cases hse:y∈s.se
  ·by_cases hst:y∈s.t.map (·.1)
   ·-- the ring closes
    refine V.c21 (List.append_of_mem hst) λseg rest e=>?_;have e':((x,i+1)::t).map (·.1)=seg++y::rest:=by rw [<-e,<-em];rfl
    refine BD (s.pI b x i t) (some (.str y)) (some (y::seg.reverse++ [y])) ⟨y,seg.reverse,rfl,?_,hu.ring e'⟩ λC k sc tgt te j5 bd ob kr lu eH p2 ok M F H=> ?_
    ·have hn:=w.nd;rw [e,ue]at hn;rw [ue];exact nB (List.pairwise_reverse.mpr (List.Pairwise.imp (λz=>z.symm) hn.1)) (by simp) λa ha c hc=>hn.2.2 a (xm.mp ha) c (by simp at hc;rw [hc];exact .head _)
    ·exact .inl ⟨some (.str y),s.pI b x i t,.brk (H.test o s _ t ht w) (H.next o s x i t y ht w hy),.ret (H.Ea _ _) (H.ret (s.pI b x i t) seg y rest w1 e')⟩
   ·have hyf:y∈fl:=(j.se y hse).resolve_right hst;have j1:JJ q fl (s.pI b x i t):=by
     refine⟨λz i' t' e=> ?_,by rw [em];exact j.se,j.fin,by rw [em];exact j.fs⟩;have e:(x,i+1)::t=(z,i')::t':=e;obtain⟨⟨rfl,rfl⟩,rfl⟩:(x=z/\i+1=i')/\t=t':=by simpa using e
     refine⟨λz hz=> ?_,IX⟩;rw [htk]at hz;refine aP (cm.mp hz) (λhz=>?_) λhz=>?_
     ·exact hpos z hz
     ·simp at hz;subst hz;exact hyf
    refine sL (N0 (rem q ((x,i+1)::t)) (by rw [<-hm,ht];refine(?_:(q.su x).length - (i+1)+1+rem q t<(q.su x).length - i+1+rem q t);omega) (some (.str y)) (s.pI b x i t) fl hN rfl w1 j1) λs' o' res hf hR=>?_;refine BD s' o' res (hf.up (λg z=>z)) λC k sc tgt te j5 bd ob kr lu eH p2 ok M F H=> ?_;exact .inl ⟨some (.str y),s.pI b x i t,.brk (H.test o s _ t ht w) (H.next o s x i t y ht w hy),H.G1 (hR _ _ _ _ _ _ _ _ _ _ _ _ _ _ _ H) (λf aK aB=>H.seen y (s.pI b x i t) f aK aB w1 hse (by rw [em];exact hst))⟩
  ·have w2:WF q b ((s.pI b x i t).push b y):=w1.push hse JA;have up: ∀z,z∈s.se->z∈((s.pI b x i t).push b y).se:=λz hz=>cm.mpr (.inl hz);have j2:JJ q fl ((s.pI b x i t).push b y):=by
    refine⟨λz i' t' e=> ?_,λz hz=> ?_,j.fin,λz hz=> ?_⟩
    ·have e:(y,0)::(x,i+1)::t=(z,i')::t':=e;obtain⟨⟨rfl,rfl⟩,rfl⟩:(y=z/\0=i')/\(x,i+1)::t=t':=by simpa using e
     exact⟨λz hz=>by simp at hz,hu⟩
    ·refine aP (cm.mp hz) (λhz=>?_) λhz=>?_
     ·refine aP (j.se z hz) (λh=>?_) λh=>?_
      ·exact .inl h
      ·exact .inr (.tail _ (by rw [em];exact h))
     ·simp at hz;exact .inr (by rw [hz];exact .head _)
    ·have:=j.fs z hz;refine⟨up z this.1,λh=> ?_⟩;refine aP (cI.mp h) (λh=>?_) λh=>?_
     ·exact hse ((show z=y from h)▸this.1)
     ·exact this.2 (by rw [<-em];exact h)
   have hlen:(s.se++ [y]).length<=q.ks.length:=uB w2.send λz hz=>w2.ks z hz;have hlen2:s.se.length+1<=q.ks.length:=by simpa using hlen
   refine sL (Pb (q.ks.length - ((s.pI b x i t).push b y).se.length) (by
    refine(?_:q.ks.length - (s.se++ [y]).length<N);rw [cV];simp only [cq,ic];omega) _ (some (.str y)) ((s.pI b x i t).push b y) fl rfl rfl w2 j2) λs' o' res hf hR=>?_
   refine BD s' o' res (hf.up up) λC k sc tgt te j5 bd ob kr lu eH p2 ok M F H=>.inl ⟨some (.str y),s.pI b x i t,.brk (H.test o s _ t ht w) (H.next o s x i t y ht w hy),H.G1 (hR _ _ _ _ _ _ _ _ _ _ _ _ _ _ _ H) (λf aK aB=>H.push y (s.pI b x i t) f aK aB w1 hse JA)⟩
theorem PR.start (h:PR q b s) (hr:r∉s.se) (hk:r∈q.ks):WF q b (s.push b r)/\ ∃fl,JJ q fl (s.push b r):=by
 refine cG h.j λfl j=>⟨h.w.push hr hk,fl,λz i' t' e=> ?_,λz hz=> ?_,j.fin,λz hz=> ?_⟩
 ·have e:(r,0)::s.t=(z,i')::t':=e;obtain⟨⟨rfl,rfl⟩,rfl⟩:(r=z/\0=i')/\s.t=t':=by simpa using e
  rw [h.t];exact⟨λz hz=>by simp at hz,.nil⟩
 ·refine aP (cm.mp hz) (λhz=>?_) λhz=>?_
  ·refine aP (j.se z hz) (λh=>?_) λh=>?_
   ·exact .inl h
   ·exact .inr (.tail _ h)
  ·simp at hz;exact .inr (by rw [hz];exact .head _)
 ·have:=j.fs z hz;refine⟨cm.mpr (.inl this.1),λh=> ?_⟩;refine aP (cI.mp h) (λh=>?_) λh=>?_
  ·exact hr ((show z=r from h)▸this.1)
  ·exact this.2 h
theorem Dm (G:DM q): ∀(GW:List Str) (s:FS) (o:Option AV),PR q b s->(∀x∈GW,x∈q.ks)-> ∃s' o' res,qR q b {s with se:=s.se++GW} s' res/\
  ∀(C:V.Cx) (k:Nat) (sc:Scope) (tgt te j5:Expr) (bd ob kr lu:List Stmt) (eH p2:Pos) (ok:V.St->Prop) (M:Option AV->List (Option AV)) (F:FS->V.St),HH q b C k sc tgt te j5 bd ob kr lu eH p2 ok M F->V.Lr C k sc ok tgt lu (GW.map .str) (M o) (F s) (pq res) (M o') (F s'):=by
 intro GW
 induction GW with
 | nil=>intro s o P hk;exact BD s o none ⟨P,λx hx=>by simpa using hx⟩ λC k sc tgt te j5 bd ob kr lu eH p2 ok M F H=> .nil (H.ok s)
 | cons x GW ih=>
  intro s o P hk;have more: ∀(s1:FS) (o1:Option AV),PR q b s1->(∀y∈s.se,y∈s1.se)->x∈s1.se->(∀(C:V.Cx) (k:Nat) (sc:Scope) (tgt te j5:Expr) (bd ob kr lu:List Stmt) (eH p2:Pos) (ok:V.St->Prop) (M:Option AV->List (Option AV)) (F:FS->V.St),HH q b C k sc tgt te j5 bd ob kr lu eH p2 ok M F-> ∃f,(f= .next\/f= .cont)/\V.Ex C k sc (M (some (.str x))) (F s) lu f (M o1) (F s1))-> ∃s' o' res,qR q b {s with se:=s.se++x::GW} s' res/\
    ∀(C:V.Cx) (k:Nat) (sc:Scope) (tgt te j5:Expr) (bd ob kr lu:List Stmt) (eH p2:Pos) (ok:V.St->Prop) (M:Option AV->List (Option AV)) (F:FS->V.St),HH q b C k sc tgt te j5 bd ob kr lu eH p2 ok M F->V.Lr C k sc ok tgt lu ((x::GW).map .str) (M o) (F s) (pq res) (M o') (F s'):=by
   intro s1 o1 P1 hm hx1 hE;refine sL (ih s1 o1 P1 (λy hy=>hk y (.tail _ hy))) λs' o' res hc hL=>BD s' o' res (hc.up λy hy=> ?_) λC k sc tgt te j5 bd ob kr lu eH p2 ok M F H=> ?_
   ·refine aP (cm.mp hy) (λhy=>?_) λhy=>?_
    ·exact cm.mpr (.inl (hm y hy))
    ·refine aP (cI.mp hy) (λu=>?_) λhy=>?_
     ·subst u;exact cm.mpr (.inl hx1)
     ·exact cm.mpr (.inr hy)
   ·refine V.c12 (hE _ _ _ _ _ _ _ _ _ _ _ _ _ _ _ H) λf hf hE=>.cons (H.ok s) (H.has o x s) hE hf (hL _ _ _ _ _ _ _ _ _ _ _ _ _ _ _ H)
  by_cases hx:x∈s.se
  ·exact more s (some (.str x)) P (λv z=>z) hx (λC k sc tgt te j5 bd ob kr lu eH p2 ok M F H=>⟨.cont,.inr rfl,H.skip x s P.w hx⟩)
  ·obtain⟨w1,fl,j1⟩:=P.start (b:=b) hx (hk x (.head _));refine sL (Ir G _ _ (some (.str x)) (s.push b x) fl rfl rfl w1 j1) λs1 o1 res hf hR=>?_;have hw:=λC k sc tgt te j5 bd ob kr lu eH p2 ok M F (H:HH q b C k sc tgt te j5 bd ob kr lu eH p2 ok M F)=>H.G1 (hR _ _ _ _ _ _ _ _ _ _ _ _ _ _ _ H) (λf aK aB=>H.push x s f aK aB P.w hx (hk x (.head _)));cases res with
   | none=>exact more s1 o1 hf.1 (λy hy=>hf.2 y (cm.mpr (.inl hy))) (hf.2 x (cm.mpr (.inr (.head _)))) (λC k sc tgt te j5 bd ob kr lu eH p2 ok M F H=>⟨.next,.inl rfl,H.go x s _ _ _ P.w hx (aJ (jY (hw _ _ _ _ _ _ _ _ _ _ _ _ _ _ _ H)) bz)⟩)
   | some L=>refine BD s1 o1 (some L) hf λC k sc tgt te j5 bd ob kr lu eH p2 ok M F H=>.stop (H.ok s) (H.has o x s) (H.go x s _ _ _ P.w hx (iu (jY (hw _ _ _ _ _ _ _ _ _ _ _ _ _ _ _ H)) (λz=>by cases z))) (.inr ⟨_,rfl⟩)
section
variable {q:SS} {b:Nat}
theorem lT {C:V.Cx} {k:Nat} {sc:Scope} {ms ai:List (Option AV)} {Z ae:V.St} {st:Stmt} {rest:List Stmt} {P:V.AF->V.St->Prop} (h1:V.X1 C k sc ms Z st .next ai ae) (h2: ∃f aK cP,V.Ex C k sc ai ae rest f aK cP/\P f cP): ∃f aK cP,V.Ex C k sc ms Z (st::rest) f aK cP/\P f cP:=by refine sL h2 λf aK cP h hp=>BD f aK cP (aJ h1 h) hp
noncomputable def DQ (b m:Nat) (q:SS) (Z:V.St) (s:FS):V.St:=fc m (yP s.t) (Gp m s.t) s.se (sm s.t) s.I (bx b q Z)
theorem vD {m:Nat} {Z:V.St} {s:FS} (hm:b+6<m) {cnt:Nat}:(DQ b m q Z s).set ⟨b+2,e0⟩ (.map (sN b q) cnt)=fS b m q Z cnt s:=by delta DQ fS;exact JT (by refine(?_:b+2<m);omega)
theorem Kj (G:DM q) (hm:b+6<m) (hW: ∀(C:V.Cx) (k:Nat) (sc:Scope) (tgt te j5:Expr) (bd ob kr lu:List Stmt) (eH p2:Pos) (ok:V.St->Prop) (M:Option AV->List (Option AV)) (F:FS->V.St),HH q b C k sc tgt te j5 bd ob kr lu eH p2 ok M F->V.Lr C k sc ok tgt lu (q.ks.map .str) (M none) (F ⟨[],[],λu=>none⟩) (pq res) (M o') (F s'))
  (h0:C.hx=none) {P:V.AF->V.St->Prop} {M:Option AV->List (Option AV)}
  (H: ∀cnt,HH q b C k sc tgt te j5 bd ob [st2,.While te bd ob eH] [st1,.While j5 [st2,.While te bd ob eH] [] p2] eH p2 (λaB=>aB ⟨b+2,e0⟩=some (.map (sN b q) cnt)) M (fS b m q Z cnt))
  (LX: ∀cnt s,V.Ev C k sc (M none) (fS b m q Z cnt s) iter (.loc ⟨b+2,e0⟩) (M none) (fS b m q Z cnt s)) (hs: ∀env x,foldedSetIterable iter env x=pure x)
  (hN:res=none-> ∃f aK cP,V.Ex C k sc (M o') (DQ b m q Z s') rest f aK cP/\P f cP)
  (hL: ∀L,res=some L->P (.ret (.lst (L.map .str))) (DQ b m q Z s')):
  ∃f aK cP,V.Ex C k sc (M none) (fc m [] [] [] [] (λu=>none) (bx b q Z)) (.For tgt iter [st1,.While j5 [st2,.While te bd ob eH] [] p2] [] pos::rest) f aK cP/\P f cP:=by
 let s0:FS:=⟨[],[],λu=>none⟩
 have lk: ∀s,DQ b m q Z s ⟨b+2,e0⟩=some (.dict (sN b q)):=λs=>by delta DQ;rw [Jh (by refine(?_:b+2<m);omega),hZ]
 have KA: ∀cnt s,fS b m q Z cnt s ⟨b+2,e0⟩=some (.map (sN b q) cnt):=λcnt s=>by delta fS;rw [Jh (by refine(?_:b+2<m);omega),V.set_same]
 have X:V.X1 C k sc (M none) (DQ b m q Z s0) (.For tgt iter [st1,.While j5 [st2,.While te bd ob eH] [] p2] [] pos) (pq res).after (M o') (DQ b m q Z s'):=by
  refine lG (l:=⟨b+2,e0⟩) (lk s0) (lk s') (λcnt=> ?_);rw [vD hm,vD hm];have I:=Bp (tgt:=tgt) (C:=C) (k:=k) (l:=⟨b+2,e0⟩) (n:=cnt) (es:=sN b q) (kF G.nd) h0;have em:(sN b q).map (λp=>AV.str p.1)=q.ks.map .str:=by delta sN;rw [dP];rfl
  rw [em]at I;exact jv (LX cnt s0) I (KA cnt s0) (hW _ _ _ _ _ _ _ _ _ _ _ _ _ _ _ (H cnt)) hs
 have e0':DQ b m q Z s0=fc m [] [] [] [] (λu=>none) (bx b q Z):=rfl;rw [<-e0'];cases res with
 | none=>refine sL (hN rfl) λf aK cP h hp=>BD f aK cP (aJ X h) hp
 | some L=>exact BD _ _ _ (iu X (λz=>by cases z)) (hL L rfl)
end
section
variable {C:V.Cx} {k:Nat} {m:Nat} {A:List AV} {B:List AV} {S:List Str} {D:List (Str×AV)} {I:Str->Option AO} {Z:V.St} {x:Str} {v:AV}
theorem K1 (hz:A.length<=1000):V.Ca C k (fc m A B S D I Z) (.bi "list.append") [.loc ⟨m,e0⟩,v] [] .none (fc m (A++ [v]) B S D I Z):=by
 have z:=dJ (C:=C) (k:=k) (x:=v) (EB (m:=m) (A:=A) (B:=B) (S:=S) (D:=D) (I:=I) (Z:=Z)) (aV hz (by decide))
 rwa [NM]at z
theorem KG (hz:B.length<=1000):V.Ca C k (fc m A B S D I Z) (.bi "list.append") [.loc ⟨m+1,e0⟩,v] [] .none (fc m A (B++ [v]) S D I Z):=by
 have z:=dJ (C:=C) (k:=k) (x:=v) (Gw (m:=m) (A:=A) (B:=B) (S:=S) (D:=D) (I:=I) (Z:=Z)) (aV hz (by decide))
 rwa [NH]at z
theorem Ls (hz:A.length<=1000):V.Ca C k (fc m (A++ [v]) B S D I Z) (.bi "list.pop") [.loc ⟨m,e0⟩] [] v (fc m A B S D I Z):=by
 have z:=C4 (C:=C) (k:=k) (x:=v) (EB (m:=m) (A:=A++ [v]) (B:=B) (S:=S) (D:=D) (I:=I) (Z:=Z)) (aV (n:=A.length+1) (m:=1001) (by omega) (by decide))
 rwa [NM]at z
theorem KC (hz:B.length<=1000):V.Ca C k (fc m A (B++ [v]) S D I Z) (.bi "list.pop") [.loc ⟨m+1,e0⟩] [] v (fc m A B S D I Z):=by
 have z:=C4 (C:=C) (k:=k) (x:=v) (Gw (m:=m) (A:=A) (B:=B++ [v]) (S:=S) (D:=D) (I:=I) (Z:=Z)) (aV (n:=B.length+1) (m:=1001) (by omega) (by decide))
 rwa [NH]at z
theorem Ms (hx:x∉S) (hz:S.length<=1000):V.Ca C k (fc m A B S D I Z) (.bi "set.add") [.loc ⟨m+2,e0⟩,.str x] [] .none (fc m A B (S++ [x]) D I Z):=by
 have z:=J0 (C:=C) (k:=k) (x:=x) (ys:=S++ [x]) (Hc (m:=m) (A:=A) (B:=B) (S:=S) (D:=D) (I:=I) (Z:=Z)) (by refine(?_:_<4096);omega) (by rw [az hx])
 rwa [OG]at z
theorem Lh (hd:V.DN D) (hz:D.length<=1000) (hx:x∉D.map (·.1)):J3 C k (fc m A B S D I Z) setItem (.loc ⟨m+3,e0⟩) (.str x) v (λu w=>True) (fc m A B S (D++ [(x,v)]) I Z):=by
 have z:=BS (C:=C) (k:=k) (key:=x) (x:=v) (.inl (Jo (m:=m) (A:=A) (B:=B) (S:=S) (D:=D) (I:=I) (Z:=Z))) hd (aV hz (by decide))
 rwa [NN,B1 hx]at z
theorem Lv (hd:V.DN (D++ [(x,v)])) (hz:D.length<=1000) (hx:x∉D.map (·.1)):di C k (fc m A B S (D++ [(x,v)]) I Z) delItem (.loc ⟨m+3,e0⟩) (.str x) (λu w=>True) (fc m A B S D I Z):=by
 have z:=Kc (C:=C) (k:=k) (key:=x) (.inl (Jo (m:=m) (A:=A) (B:=B) (S:=S) (D:=D++ [(x,v)]) (I:=I) (Z:=Z))) hd (aV (n:=(D++ [(x,v)]).length) (m:=1001) (by simp;omega) (by decide)) (s8 (by simp))
 rwa [NN,Bw hx]at z
theorem Lf (h:fc m A B S D I Z ll=some (.list xs)) (hI:I x=none):V.Ca C k (fc m A B S D I Z) (.bi "iter") [.loc ll] [] (.loc ⟨m+4,x⟩) (fc m A B S D (upd I x (some (.iter ll 0))) Z):=by
 have z:=HE (C:=C) (k:=k) (l:=⟨m+4,x⟩) h (by rw [Mc];exact hI)
 rwa [MV]at z
theorem Fh (hI:I x=some (.iter ll i)):ib C k (fc m A B S D I Z) (λx=>getAttr x "__next__" true) (.loc ⟨m+4,x⟩) (λW r=>aw W (.mw "list_iterator.__next__" ⟨m+4,x⟩) r) (fc m A B S D I Z):=Fe (by rw [Mc];exact hI)
theorem J5 (hI:I x=some (.iter ll i)) (h:fc m A B S D I Z ll=some (.list xs)) (hx:xs[i]? =some v):V.Ca C k (fc m A B S D I Z) (.mw "list_iterator.__next__" ⟨m+4,x⟩) [] [] v (fc m A B S D (upd I x (some (.iter ll (i+1)))) Z):=by
 have z:=Ht (C:=C) (k:=k) (l:=⟨m+4,x⟩) (by rw [Mc];exact hI) h hx
 rwa [MV]at z
theorem JC (h0:C.hx=none) (hI:I x=some (.iter ll i)) (h:fc m A B S D I Z ll=some (.list xs)) (hx:xs.length<=i):Jg C k (fc m A B S D I Z) (.mw "list_iterator.__next__" ⟨m+4,x⟩) [] (.type "StopIteration") [] (fc m A B S D (upd I x (some .junk)) Z):=by
 have z:=EK (C:=C) (k:=k) (l:=⟨m+4,x⟩) (by rw [Mc];exact hI) h hx h0
 rwa [MV]at z
end
theorem pk {α:Type}: ∀(xs:List α),(List.range xs.length).filterMap (xs[·]?)=xs:=by
 intro aH;induction aH with
 | nil=>exact rfl
 | cons x xs ih=>
  rw [cq,List.range_succ_eq_map,lQ,List.filterMap_map];have e:((λi=>(x::xs)[i]?) ∘ Nat.succ)=λi=>xs[i]? :=by funext i;simp
  rw [e,ih];rfl
theorem JN {α:Type} (xs:List α):(sliceRange 0 (xs.length:Int) 1).filterMap (xs[·]?)=xs:=by
 have e:sliceRange 0 (xs.length:Int) 1=List.range xs.length:=by
  have:(if(1:Int)>0 then(if(0:Int)<xs.length then((xs.length:Int) - 0+1 - 1) / 1 else 0)else(if(0:Int)>xs.length then(0 - (xs.length:Int) - 1 - 1) / (-1)else 0)).toNat=xs.length:=by
   rw [aG (by decide)];split
   ·rw [Int.ediv_one];omega
   ·omega
  refine(dM (λn=>(List.range n).map λ(k:Nat)=>((0:Int)+1 * (k:Int)).toNat) this).trans ?_;refine(?_:((List.range xs.length).map λ(k:Nat)=>((0:Int)+1 * (k:Int)).toNat)=_);have:(λk:Nat=>((0:Int)+1 * (k:Int)).toNat)=_root_.id:=by funext k;simp
  rw [this,List.map_id]
 rw [e,pk]
theorem vf {α β:Type} {f g:α->Option β}: ∀{l:List α},(∀x∈l,f x=g x)->l.filterMap f=l.filterMap g:=by
 intro aH;induction aH with
 | nil=>intro u;exact rfl
 | cons x l ih=>
  intro h;exact by rw [lQ,lQ,h x (.head _),ih λy hy=>h y (.tail _ hy)]
theorem JD (k n:Nat) (h:k<=n):sliceRange (k:Int) (n:Int) 1=(List.range (n - k)).map (k+ ·):=by
 have:(if(1:Int)>0 then(if(k:Int)<n then((n:Int) - k+1 - 1) / 1 else 0)else(if(k:Int)>n then((k:Int) - (n:Int) - 1 - 1) / (-1)else 0)).toNat=n - k:=by
  rw [aG (by decide)];split
  ·rw [Int.ediv_one];omega
  ·omega
 refine(dM (λn=>(List.range n).map λ(j:Nat)=>((k:Int)+1 * (j:Int)).toNat) this).trans ?_;apply p5;intro j u;omega
theorem jt {α:Type} (xs:List α) (k:Nat) (h:k<=xs.length):eS xs (some k) none none=xs.drop k:=by
 delta eS;have e:sliceBounds (some (k:Int)) none none xs.length=((k:Int),(xs.length:Int),1):=by delta sliceBounds;simp;omega
 rw [e];refine(?_:(sliceRange (k:Int) (xs.length:Int) 1).filterMap (xs[·]?)=_);rw [JD k xs.length h,List.filterMap_map,<-pk (xs.drop k),t8];apply vf;intro j u;refine(?_:xs[k+j]? =(xs.drop k)[j]?);rw [xd]
theorem Ac {α:Type} (xs:List α):eS xs none none (some 1)=xs:=by
 delta eS;have e:sliceBounds none none (some 1) xs.length=(0,(xs.length:Int),1):=by delta sliceBounds;simp
 rw [e];exact JN xs
theorem zq {α:Type} (xs:List α):eS xs none none (some (-1))=xs.reverse:=by
 delta eS;have e:sliceBounds none none (some (-1)) xs.length=((xs.length:Int) - 1,-1,-1):=by delta sliceBounds;simp
 rw [e];have e:sliceRange ((xs.length:Int) - 1) (-1) (-1)=(List.range xs.length).map λk=>xs.length - 1 - k:=by
  have:(if(-1:Int)>0 then(if(xs.length:Int) - 1< -1 then((-1:Int) - ((xs.length:Int) - 1)+ -1 - 1) / -1 else 0)else(if(xs.length:Int) - 1> -1 then((xs.length:Int) - 1 - -1 - -1 - 1) / (- -1)else 0)).toNat=xs.length:=by
   rw [az (by decide)];split
   ·refine(?_:(((xs.length:Int) - 1 - -1 - -1 - 1) / 1).toNat=_);rw [Int.ediv_one];omega
   ·omega
  refine(dM (λn=>(List.range n).map λ(k:Nat)=>((xs.length:Int) - 1+ -1 * (k:Int)).toNat) this).trans ?_;apply p5;intro k hk;rw [An]at hk;omega
 refine(?_:(sliceRange ((xs.length:Int) - 1) (-1) (-1)).filterMap (xs[·]?)=_);rw [e,List.filterMap_map];have h:=pk xs.reverse;rw [List.length_reverse]at h;rw [<-h];apply vf;intro k hk;rw [An]at hk;refine(?_:xs[xs.length - 1 - k]? =xs.reverse[k]?);rw [List.getElem?_reverse hk]
end L1
end
section
namespace L1
open Builtin Builtin.Str
open V (AV AO)
noncomputable def Kv:Option (List Str)->AV
 | none=> .none
 | some L=> .lst (L.map .str)
section
variable {m cnt:Nat} {A B:List AV} {S:List Str} {D:List (Str×AV)} {I:Str->Option AO} {Z:V.St} {b:Nat} {q:SS} {x:Str}
theorem KA (hm:b+6<m):fc m A B S D I ((bx b q Z).set ⟨b+2,e0⟩ (.map (sN b q) cnt)) ⟨b+2,e0⟩=some (.map (sN b q) cnt):=by rw [Jh (by refine(?_:b+2<m);omega),V.set_same]
theorem Og (hm:b+6<m) (hx:x∈q.ks):fc m A B S D I ((bx b q Z).set ⟨b+2,e0⟩ (.map (sN b q) cnt)) ⟨b+3,x⟩=some (.slots 207 ⟨b+4,x⟩ (sI b q x)):=by rw [Jh (by refine(?_:b+3<m);omega),aj (by exact L1.fg rfl),oG hx]
theorem MM (hm:b+6<m) (hx:x∈q.ks):fc m A B S D I ((bx b q Z).set ⟨b+2,e0⟩ (.map (sN b q) cnt)) ⟨b+5,x⟩=some (.list ((q.su x).map .str)):=by rw [Jh (by refine(?_:b+5<m);omega),aj (by exact L1.fg rfl),nu hx]
theorem iE:(yP t).length=t.length:=by delta yP;simp
theorem r7:(Gp m t).length=t.length:=by delta Gp;simp
theorem BL:yP t=(t.map (·.1)).reverse.map .str:=by delta yP;rw [<-List.map_reverse,dP];rfl
theorem WF.lens (G:DM q) (w:WF q b s):s.t.length<=1000/\s.se.length<=1000:=by have h1:=uB w.send λz hz=>w.ks z hz;have h2:=uB w.nd λz hz=>w.sub z hz;rw [bu]at h2;have:=G.len;omega
end
theorem zW (h:x∉es.map (·.1)):gU (es++ [(x,v)]) x=some v:=by
 delta gU;have:es.find? (λe=>decide (e.1=x))=none:=by rw [List.find?_eq_none];intro e he z;simp at z;exact h (bM.mpr ⟨e,he,z⟩)
 rw [List.find?_append,this];simp
theorem CS: ∀{t:List (Str×Nat)} {seg rest:List Str},(t.map (·.1)).Nodup->t.map (·.1)=seg++y::rest->gU (sm t) y=some (.int rest.length)
 | [],seg,rest,_,e=>by cases seg<;>exact Iq e
 | (x,i)::t,[],rest,hn,e=>by
  injection e with e1 e2
  have e1:x=y:=e1;subst e1;have hx:x∉(sm t).map (·.1):=by rw [jb,xm];exact(gM.mp hn).1
  have:rest.length=t.length:=by rw [<-e2,bu]
  rw [this];exact zW hx
 | (x,i)::t,z::seg,rest,hn,e=>by
  injection e with e1 e2
  exact vw (CS (gM.mp hn).2 e2)
theorem uk (e:t.map (·.1)=seg++y::rest):(yP t).drop rest.length=(y::seg.reverse).map .str:=by
 rw [BL,e,List.reverse_append,List.reverse_cons,eX,fk];have:rest.length=(rest.reverse.map AV.str).length:=by simp
 rw [this,List.drop_left];rfl
theorem Ky (G:DM q) (b:Nat): ∃res,L2 q.su q.ks res/\ ∀(C:V.Cx),Is C-> ∀(k:Nat) (Z:V.St),
  V.Cd C (k+1) (bx b q Z) (.ext 294) [.loc ⟨b,e0⟩] [] (Kv res) (bx b q Z):=by
 have P0:PR q b ⟨[],[],λg=>none⟩:=⟨rfl,⟨pJ,λx hx=>(by exact jc hx),λx hx=>(by exact jc hx),pJ,λx hx=>(by exact jc hx),λg r=>rfl⟩,[],λx i t e=>(by exact Iq e),λx hx=>(by exact jc hx),.nil,λx hx=>(by exact jc hx)⟩;refine sL (Dm G q.ks _ none P0 (λg z=>z)) λs' o' res hF hW=>V.i12 res ?_ λC h k Z=> ?_
 ·cases res with
  | none=>
   refine bG hF λv hs=>?_;clear hF;rcases v with⟨ht,w,fl,j⟩
   refine V.i12 fl j.fin λx hx=>(j.se x (hs x hx)).resolve_right λz=> ?_;rw [ht]at z;exact jc z
  | some L=>exact hF
 have hx0:=h.hx;refine eA h.ok ⟨⟨_,_,_,by rw [h.K];exact rfl⟩,rfl,rfl,rfl,rfl,by rw [h.K];rfl,rfl,rfl,by decide+kernel⟩ [lo "self",lo "n2i",lo "stack",lo "itstack",lo "seen",lo "node2stacki",lo "node",gi "set",gi "iter",gi "len",gi "StopIteration"] rfl [("self",.loc ⟨b,e0⟩)] _
  (bQ (gA λa0=>rfl) rfl) rfl rfl λsc hF n hn=> ?_
 refine tK hF λn0 n1 n2 n3 n4 n5 n6 n7 u=>ku u λn8 n9 n10 _=>?_;clear hF;have gS:V.Glob C "StopIteration" (.ty "StopIteration"):=m9 h;have hb2:b+2<n:=by
  refine aP (oZ (b+2) n) (λz=>?_) λz=>?_
  ·exact z
  ·have:=hn ⟨b+2,e0⟩ z;rw [hZ]at this;exact rZ this
 have hm:b+6<n+10:=by omega
 have keep: ∀s' l o,bx b q Z l=some o->DQ b (n+10) q Z s' l=some o:=λs' l o z=>by
  have:l.tag<n:=by
   refine aP (oZ l.tag n) (λy=>?_) λy=>?_
   ·exact y
   ·rw [hn l y]at z;exact dC z
  delta DQ;rw [Jh (by omega)];exact z
 have hfree: ∀l:V.Loc,n+10<=l.tag->bx b q Z l=none:=λl hl=>hn l (by omega);refine lT (au (bC (aa n0 rfl) (wN h)) (ag n1 rfl)) ?_;refine lT (au (dU ⟨n+10,e0⟩ ao (dW _) (hfree _ (bT _))) (ag n2 rfl)) ?_;refine lT (au (dU ⟨n+10+1,e0⟩ ao (dW _) (by rw [aj (by exact L1.sx rfl)];exact hfree _ (by exact gO _ _))) (ag n3 rfl)) ?_;refine lT (au (aD (ar h.ok n7 (JL h)) ao cL (HP (l:=⟨n+10+2,e0⟩) (by rw [aj (by exact L1.fg rfl),aj (by exact L1.sx rfl)];exact hfree _ (by refine(?_:n+10<=n+10+2);omega)))) (ag n4 rfl)) ?_;refine lT (au (uH ⟨n+10+3,e0⟩ (by rw [aj (by exact L1.fg rfl),aj (by exact L1.fg rfl),aj (by exact L1.sx rfl)];exact hfree _ (by refine(?_:n+10<=n+10+3);omega))) (ag n5 rfl)) ?_;rw [AX hfree];refine Kj G hm hW hx0 (M:=λo=> [some (.loc ⟨b,e0⟩),some (.loc ⟨b+2,e0⟩),some (.loc ⟨n+10,e0⟩),some (.loc ⟨n+10+1,e0⟩),some (.loc ⟨n+10+2,e0⟩),some (.loc ⟨n+10+3,e0⟩),o,none,none,none,none]) ?_ ?_ (λg r=>rfl) ?_ ?_
 ·intro cnt;refine⟨?_,?_,?_,?_,?_,?_,?_,?_,?_,?_,?_,?_⟩
  ·rintro o ⟨se,t,I⟩ ht
   obtain rfl:t= []:=ht;exact⟨(aX (b:=false) (aa n2 rfl) (fG (.loc EB) (dW _) rfl)),Bb⟩
  ·rintro o ⟨se,t,I⟩ p t' ht w
   refine bG (w.lens G) λl1 l2=>?_;obtain rfl:t=p::t':=ht;exact(aX (b:=true) (aa n2 rfl) (fG (.loc EB) (aV (m:=1000) (by rw [iE];exact l1) (by decide)) (by rw [jU];simp)))
  ·rintro o ⟨se,t,I⟩ x i t' y ht w hy
   refine bG (w.lens G) λl1 l2=>?_;obtain rfl:t=(x,i)::t':=ht;have hI:I x=some (.iter ⟨b+5,x⟩ i):=w.it (x,i) (.head _);have hxk:x∈q.ks:=w.ks x (w.sub x (.head _));have e2:yP ((x,i+1)::t')=yP ((x,i)::t'):=by rw [jU,jU]
   delta fS FS.pI;rw [e2,lR,lR];have hl1:(Gp (n+10) t').length<=1000:=by rw [r7];simp only [cq]at l1;omega
   exact iu (mF (aJ (au (aD (aS (aa n3 rfl) (dD aC qh) (bk (.loc Gw)) (j8 (.loc Gw) (by decide) (by simp<;>omega) (by decide) i7)) ao Gz (J5 hI (MM hm hxk) (by rw [gq,hy];rfl))) (ag n6 rfl)) Bb)) (λz=>by cases z)
  ·rintro o ⟨se,t,I⟩ x i t' ht w hy
   refine bG (w.lens G) λl1 l2=>?_;obtain rfl:t=(x,i)::t':=ht;have hI:I x=some (.iter ⟨b+5,x⟩ i):=w.it (x,i) (.head _);have hxk:x∈q.ks:=w.ks x (w.sub x (.head _));have hnd:=w.nd;have hnx:x∉(sm t').map (·.1):=by rw [jb,xm];exact(gM.mp hnd).1
   have hlt:t'.length<=999:=by simp only [cq]at l1;omega
   have hdn:V.DN (sm t'++ [(x,.int t'.length)]):=oI (t:=(x,i)::t') hnd;delta fS FS.pop;dsimp only;rw [jU,lR,show sm ((x,i)::t')=sm t'++ [(x,.int t'.length)]from rfl];refine aJ (BP (sr (B2 (Hs (aS (aa n3 rfl) (dD aC qh) (bk (.loc Gw)) (j8 (.loc Gw) (by decide) (by simp<;>omega) (by decide) i7)) ao Gz (JC hx0 hI (MM hm hxk) (by rw [bu];exact hy)) (λg=>rfl) (λg=>rfl)) (λg=>rfl))) (by intro z;injection z with z;exact absurd z (by decide)) (ar h.ok.h n10 gS) (Fv (by rw [ta];kernel_rfl) (by rw [ta];kernel_rfl) (by rw [ta];kernel_rfl)) (aJ (Ai (aa n5 rfl) (aM (aa n2 rfl) (Bj EB) ao bp (Ls (by rw [iE];omega))) (Lv hdn (by rw [rH];omega) hnx)) (aJ (cv (aM (aa n3 rfl) (Bj Gw) ao bp (KC (by rw [r7];omega)))) bz))) bz
  ·intro o s;exact(aX (b:=true) dS cu)
  ·rintro y ⟨se,t,I⟩ f aK aB w hse JA E
   refine bG (w.lens G) λl1 l2=>?_;have hI:I y=none:=w.inn y hse;have hse:y∉se:=hse;have hnx:y∉(sm t).map (·.1):=by rw [jb,xm];exact λz=>hse (w.sub y z)
   have hlt:t.length<=1000:=l1;have hlz:se.length<=1000:=l2;delta fS FS.push at E;dsimp only at E;rw [jU,lR,show sm ((y,0)::t)=sm t++ [(y,.int t.length)]from rfl]at E;delta fS;dsimp only;refine cg (aq (c:=false) (aa n6 rfl) (aa n4 rfl) (Dv Hc (by refine(?_:_<4096);omega) (by simp [hse])) rfl) ?_;refine aJ (cv (aM (aa n4 rfl) (LA Hc (by refine(?_:_<4096);omega)) (af (aa n6 rfl) ao) bp (Ms hse hlz))) ?_;refine aJ (cv (aM (aa n3 rfl) (eg Gw) (af (bC (aD (ar h.ok n8 (Hj h)) (af (bC (aS (aa n1 rfl) (aa n6 rfl) (rJ (.inr ⟨_,KA hm⟩)) (Cf (.inr ⟨_,KA hm⟩) (kF G.nd) (nG JA))) (ye h (.inr (Og hm JA)) rfl gY gP)) ao) bp (Lf (MM hm JA) hI)) (Fh gR)) ao) bp (KG (by rw [r7];omega)))) ?_;refine aJ (au (aD (ar h.ok n9 (fC h)) (af (aa n2 rfl) ao) bp (c5 (.loc EB) (aV (m:=1000) (by rw [iE];omega) (by decide)))) (tD (aa n5 rfl) (aa n6 rfl) (Lh (oI w.nd) (by rw [rH];omega) hnx))) ?_;rw [iE];exact aJ (cv (aM (aa n2 rfl) (eg EB) (af (aa n6 rfl) ao) bp (K1 (by rw [iE];omega)))) E
  ·rintro y ⟨se,t,I⟩ f aK aB w hse Pc E
   refine bG (w.lens G) λl1 l2=>?_;have hse:y∈se:=hse;have hlz:se.length<=1000:=l2;have hnx:y∉(sm t).map (·.1):=by rw [jb,xm];exact Pc
   delta fS at E⊢;dsimp only at E⊢;refine dy (aq (c:=true) (aa n6 rfl) (aa n4 rfl) (Dv Hc (by refine(?_:_<4096);omega) (by simp [hse])) rfl) ?_;refine cg (aq (c:=false) (aa n6 rfl) (aa n5 rfl) (Lg (.inl Jo) (oI w.nd) (by rw [tc hnx];rfl)) rfl) ?_;exact E
  ·rintro ⟨se,t,I⟩ seg y rest w e
   refine bG (w.lens G) λl1 l2=>?_;have e:t.map (·.1)=seg++y::rest:=e;have hse:y∈se:=w.sub y (by refine(?_:y∈t.map (·.1));rw [e];simp);have hlz:se.length<=1000:=l2;have hlt:t.length<=1000:=l1;have hd:gU (sm t) y=some (.int rest.length):=CS w.nd e;have hle:rest.length<=(yP t).length:=by have:=dM List.length e;rw [iE];simp at this;omega
   delta fS;dsimp only;rw [fk];refine dy (aq (c:=true) (aa n6 rfl) (aa n4 rfl) (Dv Hc (by refine(?_:_<4096);omega) (by simp [hse])) rfl) ?_;refine dy (aq (c:=true) (aa n6 rfl) (aa n5 rfl) (Lg (.inl Jo) (oI w.nd) (by rw [hd];rfl)) rfl) ?_;have hll:((y::seg.reverse).map AV.str).length<=1000:=by rw [<-uk e,t8,iE];omega
   exact tE (ay (aS (aa n2 rfl) (bJ (bH (aS (aa n5 rfl) (aa n6 rfl) (rJ (.inl Jo)) (Cf (.inl Jo) (oI w.nd) hd))) bc bc) (bk (.loc EB)) (fb (.loc EB) (fA.int _) .none .none (by decide) (aV (m:=1000) (by rw [iE];omega) (by decide)) ((jt _ _ hle).trans (uk e)))) (gX (af (aa n6 rfl) ao) (dX rfl)) (vt (.lst _) (.lst _) (aV (n:=((y::seg.reverse).map AV.str).length+1) (m:=1001) (by omega) (by decide))))
  ·intro o x s;exact(ag n6 rfl)
  ·intro s;exact KA hm
  ·rintro x ⟨se,t,I⟩ w hse
   have hlz:se.length<=1000:=(w.lens G).2;have hse:x∈se:=hse;delta fS;dsimp only;exact dy (aq (c:=true) (aa n6 rfl) (aa n4 rfl) (Dv Hc (by refine(?_:_<4096);omega) (by simp [hse])) rfl) rN
  ·rintro x ⟨se,t,I⟩ f aK aB w hse E
   have hlz:se.length<=1000:=(w.lens G).2;have hse:x∉se:=hse;delta fS at E⊢;dsimp only at E⊢;exact cg (aq (c:=false) (aa n6 rfl) (aa n4 rfl) (Dv Hc (by refine(?_:_<4096);omega) (by simp [hse])) rfl) E
 ·intro cnt s;exact(aa n1 rfl)
 ·rintro rfl
  exact Hh _ _ _ (tE bV) (keep s') (λl z=>z) (λl o z=> .inl z) (.inl ⟨rfl,True.intro⟩)
 ·rintro L rfl
  exact tN (keep s') (λl z=>z) (λl o z=> .inl z) (.inl ⟨rfl,by exact bo (λx=>cc) _⟩)
noncomputable def SS.prep (q:SS):SS:={q with rd:=some (q.ks.filter λx=>q.np x==0)}
theorem wQ (h:V.Ev C k sc ms Z e v aK aB):V.Ev C k sc ms Z (.JoinedStr [e] pos) v aK aB:=λA W env s hr H=>
 Bf (by rfl) (h A W env s hr H)
theorem uP (hr:q.rd=none):((bx b q Z).set ⟨b+6,e0⟩ (.list (r.map .str))).set ⟨b+1,e0⟩ (.dict (sD b {q with rd:=some r}))=bx b {q with rd:=some r} Z:=by
 funext l;by_cases h1:l=⟨b+1,e0⟩
 ·subst h1;rw [V.set_same,dY]
 rw [aj h1];by_cases h6:l=⟨b+6,e0⟩
 ·subst h6;rw [V.set_same,l8 rfl]
 rw [aj h6];delta bx;simp only [h1,h6,jG,false_and];rfl
section
variable {cnt:Nat} {Z:V.St} {b:Nat} {q:SS} {x:Str}
theorem L4:((bx b q Z).set ⟨b+2,e0⟩ (.map (sN b q) cnt)) ⟨b,e0⟩=some (.inst 304 ⟨b+1,e0⟩):=by rw [aj (by exact L1.kD rfl),eE]
theorem L9:((bx b q Z).set ⟨b+2,e0⟩ (.map (sN b q) cnt)) ⟨b+1,e0⟩=some (.dict (sD b q)):=by rw [aj (by exact L1.fg rfl),dY]
theorem Jf:((bx b q Z).set ⟨b+2,e0⟩ (.map (sN b q) cnt)) ⟨b+2,e0⟩=some (.map (sN b q) cnt):=V.set_same
theorem sm3 (h:x∈q.ks):((bx b q Z).set ⟨b+2,e0⟩ (.map (sN b q) cnt)) ⟨b+3,x⟩=some (.slots 207 ⟨b+4,x⟩ (sI b q x)):=by rw [aj (by exact L1.fg rfl),oG h]
theorem F0:(sN b q).map (·.2)=q.ks.map λx=>AV.loc ⟨b+3,x⟩:=by delta sN;rw [dP];rfl
end
theorem qP {C:V.Cx} (h:Is C) {k:Nat} {sc:Scope} {Z:V.St} {b:Nat} {q:SS} {cnt:Nat} (G:DM q) (hb:Cl b Z) (hr:q.rd=none) {elt c tgt:Expr} {iter:Expr} {scope:Scope} {pos:Pos} {ms:List (Option AV)} {M:Option Str->List (Option AV)}
  (LY: ∀g'∈ [(⟨tgt,iter,[c],0⟩:Comprehension)],g'.is_async=0) (hfree:lx scope= []) (xI:cW (bB scope)=true) (hM:fp [] ms scope.names.length=M none)
  (hit:V.Ev C k sc ms ((bx b q Z).set ⟨b+2,e0⟩ (.map (sN b q) cnt)) iter (.fld "dict_values" [.loc ⟨b+2,e0⟩]) ms ((bx b q Z).set ⟨b+2,e0⟩ (.map (sN b q) cnt))) (LZ: ∀env x,foldedSetIterable iter env x=pure x)
  (ha: ∀o x out,x∈q.ks->V.As C k (bB scope) (M o) (((bx b q Z).set ⟨b+2,e0⟩ (.map (sN b q) cnt)).set ⟨b+6,e0⟩ (.list out)) tgt (.loc ⟨b+3,x⟩) (M (some x)) (((bx b q Z).set ⟨b+2,e0⟩ (.map (sN b q) cnt)).set ⟨b+6,e0⟩ (.list out)))
  (hc: ∀x out,x∈q.ks->V.Tv C k (bB scope) (M (some x)) (((bx b q Z).set ⟨b+2,e0⟩ (.map (sN b q) cnt)).set ⟨b+6,e0⟩ (.list out)) c (q.np x==0) (M (some x)) (((bx b q Z).set ⟨b+2,e0⟩ (.map (sN b q) cnt)).set ⟨b+6,e0⟩ (.list out)))
  (hv: ∀x out,x∈q.ks->V.Ev C k (bB scope) (M (some x)) (((bx b q Z).set ⟨b+2,e0⟩ (.map (sN b q) cnt)).set ⟨b+6,e0⟩ (.list out)) elt (.str x) (M (some x)) (((bx b q Z).set ⟨b+2,e0⟩ (.map (sN b q) cnt)).set ⟨b+6,e0⟩ (.list out))):
  V.Ev C k sc ms ((bx b q Z).set ⟨b+2,e0⟩ (.map (sN b q) cnt)) (.ListComp elt [⟨tgt,iter,[c],0⟩] scope pos) (.loc ⟨b+6,e0⟩) ms (((bx b q Z).set ⟨b+2,e0⟩ (.map (sN b q) cnt)).set ⟨b+6,e0⟩ (.list ((q.ks.filter λx=>q.np x==0).map .str))):=by
 have hx0:=h.hx;have I:=wI (tgt:=tgt) (C:=C) (k:=k) (l:=⟨b+2,e0⟩) (n:=cnt) (es:=sN b q) (kF G.nd) hx0;rw [F0]at I;have e6:((bx b q Z).set ⟨b+2,e0⟩ (.map (sN b q) cnt)) ⟨b+6,e0⟩=none:=by rw [aj (by exact L1.fg rfl),BB hr];exact hb _ (by exact gO _ _)
 have hcl:=ly (C:=C) (k:=k) (sc:=bB scope) (enc:=λx=>AV.loc ⟨b+3,x⟩) (val:=AV.str) (p:=λx=>q.np x==0) (M:=M) (Sg:=λout=>((bx b q Z).set ⟨b+2,e0⟩ (.map (sN b q) cnt)).set ⟨b+6,e0⟩ (.list out)) (ok:=λaB=>aB ⟨b+2,e0⟩=some (.map (sN b q) cnt)) (la:=⟨b+6,e0⟩) (elt:=elt) (gens:= [⟨tgt,iter,[c],0⟩]) (scope:=scope) (pos:=pos) (g:=⟨tgt,iter,[c],0⟩) (gx:=q.ks)
  (λout=>by rw [aj (by exact L1.fg rfl)];exact Jf) (λout=>V.set_same) (λout out'=>V.set_set) ha (.inr ⟨c,rfl,hc⟩) (λx out hx u=>hv x out hx) q.ks [] none (λu z=>z) (aV (n:=([]:List AV).length+q.ks.length) (m:=1000) (by have:=G.len;simpa using this) (by decide))
 rw [<-hM]at hcl;exact oB (link:= []) ⟨b+6,e0⟩ ⟨LY,wc,hfree,xI,hit,I,Jf,LZ⟩ e6 hcl rfl
theorem HY {C:V.Cx} (h:Is C) {k:Nat} {Z:V.St} {b:Nat} {q:SS} (G:DM q) (hb:Cl b Z) (hr:q.rd=none) (hfc:V.Cd C (k+1) (bx b q.prep Z) (.ext 294) [.loc ⟨b,e0⟩] [] .none (bx b q.prep Z)):
  V.Cd C (k+2) (bx b q Z) (.ext 259) [.loc ⟨b,e0⟩] [] .none (bx b q.prep Z):=by
 have hx0:=h.hx;refine eA h.ok ⟨⟨_,_,_,by rw [h.K];exact rfl⟩,rfl,rfl,rfl,rfl,by rw [h.K];rfl,rfl,rfl,by decide+kernel⟩ [lo "self",lo "cycle",gi "ValueError",gi "CycleError"] rfl [(Str.ofString "self",.loc ⟨b,e0⟩)] _
  (bQ (gA λa0=>rfl) rfl) rfl rfl λsc hF n hn=> ?_
 refine ud hF λn0 n1 n2 n3 _=>?_;clear hF;have hD:sD b q= [(Str.ofString "_node2info",.loc ⟨b+2,e0⟩),(Str.ofString "_ready_nodes",.none),(Str.ofString "_npassedout",.int q.po),(Str.ofString "_nfinished",.int q.nf)]:=by delta sD;rw [hr];rfl
 have hr2:q.prep.rd=some (q.ks.filter λx=>q.np x==0):=rfl;have eN:sN b q.prep=sN b q:=rfl;refine rP (λy hy=>hy) (λz=>rfl) ?_;refine cw (aq (c:=false) (bC (aa n0 rfl) (wY h hr)) bV (cQ fN) rfl) ?_;refine aE (lG (l:=⟨b+2,e0⟩) hZ (hZ (q:=q.prep)) (λcnt=>by
   have ec:(((((bx b q Z).set ⟨b+2,e0⟩ (.map (sN b q) cnt)).set ⟨b+6,e0⟩ (.list ((q.ks.filter λx=>q.np x==0).map .str))).set ⟨b+1,e0⟩ (.dict (sD b q.prep))))=(bx b q.prep Z).set ⟨b+2,e0⟩ (.map (sN b q) cnt):=by rw [jO (l:=⟨b+2,e0⟩) (l':=⟨b+6,e0⟩) (by exact L1.fg rfl),jO (l:=⟨b+2,e0⟩) (l':=⟨b+1,e0⟩) (by exact L1.fg rfl)];have:=uP (b:=b) (q:=q) (Z:=Z) (r:=q.ks.filter λx=>q.np x==0) hr;rw [show({q with rd:=some (q.ks.filter λx=>q.np x==0)}:SS)=q.prep from rfl]at this;rw [this]
   rw [<-ec];exact(au (qP h (M:=λo=> [none,o.map λx=>AV.loc ⟨b+3,x⟩]) G hb hr (V.all1 rfl) rfl (by decide+kernel) rfl (aM (bC (aa n0 rfl) (eU h L4 L9 gY gP)) (ql (.inr ⟨cnt,Jf⟩)) ao bp (qq (.inr ⟨cnt,Jf⟩) (kF G.nd))) (λu v=>rfl) (λo x out hx=>(ag (i:=1) rfl rfl)) (λx out hx=>(aq (c:=_) (bC (aa (i:=1) rfl rfl) (rQ h (.inr (by rw [aj (by exact L1.fg rfl)];exact sm3 hx)) rfl oW pw)) aC (lF rfl) rfl)) (λx out hx=>(bC (aa (i:=1) rfl rfl) (yr h (.inr (by rw [aj (by exact L1.fg rfl)];exact sm3 hx)) rfl BE B6)))) (eJ (aa n0 rfl) (kN h (d:=⟨b+1,e0⟩) (by rw [aj (by exact L1.kD rfl)];exact L4) (by rw [aj (by exact L1.fg rfl)];exact L9)))))) ?_
 refine aE (au (aM (aa n0 rfl) (fJ h eE dY) ao (KX h rfl) (V.Cd.ca hfc)) (ag n1 rfl)) ?_;refine cw (aX (b:=false) (aa n1 rfl) rY) ?_;exact j0
theorem HS {C:V.Cx} (h:Is C) {k:Nat} {Z:V.St} {b:Nat} {q:SS} {L:List Str} (G:DM q) (hb:Cl b Z) (hr:q.rd=none) (hfc:V.Cd C (k+1) (bx b q.prep Z) (.ext 294) [.loc ⟨b,e0⟩] [] (.lst (L.map .str)) (bx b q.prep Z)) (hL:L.isEmpty=false) (hz:L.length<=1000):
  Jg C (k+2) (bx b q Z) (.ext 259) [.loc ⟨b,e0⟩] (.ref 222) [.str (Str.ofString "nodes are in a cycle"),.lst (L.map .str)] (bx b q.prep Z):=by
 have hx0:=h.hx;refine Fs h.ok ⟨⟨_,_,_,by rw [h.K];exact rfl⟩,rfl,rfl,rfl,rfl,by rw [h.K];rfl,rfl,rfl,by decide+kernel⟩ [lo "self",lo "cycle",gi "ValueError",gi "CycleError"] rfl [(Str.ofString "self",.loc ⟨b,e0⟩)] _
  (bQ (gA λa0=>rfl) rfl) rfl rfl λsc ⟨n0,n1,n2,n3,_⟩ n hn=>MT (aB:=bx b q.prep Z) ?_ ⟨λu v z=>z,(kc (q:=q) (q':=q.prep) (λy hy=>hy) (λz=>rfl)).1,(kc (q:=q) (q':=q.prep) (λy hy=>hy) (λz=>rfl)).2,?_⟩
 have hD:sD b q= [(Str.ofString "_node2info",.loc ⟨b+2,e0⟩),(Str.ofString "_ready_nodes",.none),(Str.ofString "_npassedout",.int q.po),(Str.ofString "_nfinished",.int q.nf)]:=by delta sD;rw [hr];rfl
 have hr2:q.prep.rd=some (q.ks.filter λx=>q.np x==0):=rfl;have eN:sN b q.prep=sN b q:=rfl;refine Iv (aq (c:=false) (bC (aa n0 rfl) (wY h hr)) bV (cQ fN) rfl) ?_;refine yw (lG (l:=⟨b+2,e0⟩) hZ (hZ (q:=q.prep)) (λcnt=>by
   have ec:(((((bx b q Z).set ⟨b+2,e0⟩ (.map (sN b q) cnt)).set ⟨b+6,e0⟩ (.list ((q.ks.filter λx=>q.np x==0).map .str))).set ⟨b+1,e0⟩ (.dict (sD b q.prep))))=(bx b q.prep Z).set ⟨b+2,e0⟩ (.map (sN b q) cnt):=by rw [jO (l:=⟨b+2,e0⟩) (l':=⟨b+6,e0⟩) (by exact L1.fg rfl),jO (l:=⟨b+2,e0⟩) (l':=⟨b+1,e0⟩) (by exact L1.fg rfl)];have:=uP (b:=b) (q:=q) (Z:=Z) (r:=q.ks.filter λx=>q.np x==0) hr;rw [show({q with rd:=some (q.ks.filter λx=>q.np x==0)}:SS)=q.prep from rfl]at this;rw [this]
   rw [<-ec];exact(au (qP h (M:=λo=> [none,o.map λx=>AV.loc ⟨b+3,x⟩]) G hb hr (V.all1 rfl) rfl (by decide+kernel) rfl (aM (bC (aa n0 rfl) (eU h L4 L9 gY gP)) (ql (.inr ⟨cnt,Jf⟩)) ao bp (qq (.inr ⟨cnt,Jf⟩) (kF G.nd))) (λu v=>rfl) (λo x out hx=>(ag (i:=1) rfl rfl)) (λx out hx=>(aq (c:=_) (bC (aa (i:=1) rfl rfl) (rQ h (.inr (by rw [aj (by exact L1.fg rfl)];exact sm3 hx)) rfl oW pw)) aC (lF rfl) rfl)) (λx out hx=>(bC (aa (i:=1) rfl rfl) (yr h (.inr (by rw [aj (by exact L1.fg rfl)];exact sm3 hx)) rfl BE B6)))) (eJ (aa n0 rfl) (kN h (d:=⟨b+1,e0⟩) (by rw [aj (by exact L1.kD rfl)];exact L4) (by rw [aj (by exact L1.fg rfl)];exact L9)))))) ?_
 refine yw (au (aM (aa n0 rfl) (fJ h eE dY) ao (KX h rfl) (V.Cd.ca hfc)) (ag n1 rfl)) ?_;refine Ia (aX (b:=true) (aa n1 rfl) (fG (.lst _) (aV (m:=1000) (by rw [bu];exact hz) (by decide)) (by rw [List.isEmpty_map,hL];rfl))) ?_;exact EU (w9 h.ok (c:=222) (newId:="ValueError.__new__") PySem.F.excBase_ValueError (by decide) PySem.F.excBase_ValueError (Dt h) (by decide) (ar h.ok n3 (lA h)) (af (wQ aW) (af (aa n1 rfl) ao)) (dX rfl) (λu=>rfl) hx0)
 ·exact⟨True.intro,bo (λx=>cc) _,True.intro⟩
noncomputable def hd (p:Str×Str):AV:= .tup [.str p.1,.str p.2]
noncomputable def cB (t:Nat) (hs:List (Str×Str)) (Z:V.St):V.St:=λl=>
 if l=⟨t,e0⟩then some (.inst 184 ⟨t+1,e0⟩)else if l=⟨t+1,e0⟩then some (.dict [("_headers",.loc ⟨t+2,e0⟩)])else if l=⟨t+2,e0⟩then some (.list (hs.map hd))else Z l
section
variable {t:Nat} {hs hs':List (Str×Str)} {Z:V.St}
theorem nj:cB t hs Z ⟨t,e0⟩=some (.inst 184 ⟨t+1,e0⟩):=by delta cB;simp
theorem mx:cB t hs Z ⟨t+1,e0⟩=some (.dict [("_headers",.loc ⟨t+2,e0⟩)]):=by delta cB;simp
theorem kR:cB t hs Z ⟨t+2,e0⟩=some (.list (hs.map hd)):=by delta cB;simp
theorem EH:(cB t hs Z).set ⟨t+2,e0⟩ (.list (hs'.map hd))=cB t hs' Z:=by
 funext l;by_cases h:l=⟨t+2,e0⟩
 ·subst h;rw [V.set_same,kR]
 ·rw [aj h];delta cB;simp only [h,jG]
theorem lN (h:l.tag<t\/t+2<l.tag):cB t hs Z l=Z l:=by delta cB;rw [az (λe=>by rw [e]at h;simp only at h;omega),az (λe=>by rw [e]at h;simp only at h;omega),az (λe=>by rw [e]at h;simp only at h;omega)]
theorem fU (h:l.tag<t\/t+2<l.tag):(cB t hs Z).set l o=cB t hs (Z.set l o):=by
 funext x;by_cases e:x=l
 ·subst e;rw [V.set_same,lN h,V.set_same]
 ·rw [aj e];delta cB;rw [aj e]
theorem nV:(cB t hs Z l).isSome=(cB t hs' Z l).isSome:=by delta cB;split;rfl;split;rfl;split;rfl;rfl
theorem Cm:(hd p).A3:=xQ λD=>⟨True.intro,True.intro,True.intro⟩
theorem H0:Gm (cB t hs Z) (cB t hs' Z):=λl h=>by rw [nV (hs':=hs)];exact h
theorem Hk:Gr (λl=>(cB t hs' Z l).isSome=true) (cB t hs Z) (cB t hs' Z):=λl o h=>by
 by_cases h0:l=⟨t,e0⟩
 ·subst h0;left;rw [nj]at h⊢;exact h
 by_cases h1:l=⟨t+1,e0⟩
 ·subst h1;left;rw [mx]at h⊢;exact h
 by_cases h2:l=⟨t+2,e0⟩
 ·subst h2;rw [kR]at h;obtain rfl:=dI h;right;exact bo (λp=>Cm) _
 left;delta cB at h⊢;simpa only [h0,h1,h2,jG]using h
theorem oD {Nk N1:V.St} {l:V.Loc} {o:AO} (h: ∀x y,Nk x=some y->N1 x=some y) (hn:Nk l=none): ∀x y,Nk x=some y->(N1.set l o) x=some y:=λx y e=>by rw [aj (λz=>by rw [z,hn]at e;exact dC e)];exact h x y e
end
theorem yl (h1:V.Go C k sc ms ae body .next cP) (hk: ∀l o,cB t hs' Z l=some o->cP l=some o): ∃f aK cP,V.Ex C k sc ms ae body f aK cP/\V.Exit (cB t hs Z) cP f .none (cB t hs' Z):=
 hH h1 ⟨hk,H0,Hk,.inr (.inr ⟨rfl,rfl⟩)⟩
structure KP (x:Str):Prop where
 len:x.length<=200
 ok:x.cps.all nF=true
theorem yS (h:Z l=some (.list xs)):H7 C Z (.loc l) "list":=λW s ro I q=>by refine gD ((V.IsL.loc h).list q I) λla vs hl ks=>hl.typeIs
theorem Fu (h:Is C) (h2:Z ⟨t+2,e0⟩=none):
  V.Cd C (k+1) ((Z.set ⟨t+1,e0⟩ (.dict [])).set ⟨t,e0⟩ (.inst 184 ⟨t+1,e0⟩)) (.ext 76) [.loc ⟨t,e0⟩] [] .none (cB t [] Z):=by
 have hx0:=h.hx;refine eA h.ok ⟨⟨_,_,_,by rw [h.K];exact rfl⟩,rfl,rfl,rfl,rfl,by rw [h.K];rfl,rfl,rfl,by decide+kernel⟩ [lo "self",lo "headers",lo "k",lo "v",gi "type",gi "list",gi "TypeError",gi "__debug__"] rfl [("self",.loc ⟨t,e0⟩),("headers",.none)] _
  (sR h.ok (da:=69) (as:= [.loc ⟨t,e0⟩]) (Mi:= [.none]) (by rw [h.K];exact rfl) (gA λa0=>⟨_,by exact rfl,by exact rfl⟩) rfl (λW=> .cons c6 .nil)) rfl rfl λsc hF n hn=> ?_
 refine tK hF λn0 n1 n2 n3 n4 n5 n6 n7 _=>?_;clear hF;have m1:(⟨t,e0⟩:V.Loc)≠⟨t+1,e0⟩:=by exact L1.kD rfl
 have m2:(⟨t,e0⟩:V.Loc)≠⟨t+2,e0⟩:=by exact L1.kD rfl
 have m3:(⟨t+1,e0⟩:V.Loc)≠⟨t+2,e0⟩:=by exact L1.fg rfl
 have st:(((Z.set ⟨t+1,e0⟩ (.dict [])).set ⟨t,e0⟩ (.inst 184 ⟨t+1,e0⟩)).set ⟨t+2,e0⟩ (.list [])).set ⟨t+1,e0⟩ (.dict [("_headers",.loc ⟨t+2,e0⟩)])=cB t [] Z:=by
  funext l;delta cB V.St.set;by_cases h0:l=⟨t,e0⟩
  ·subst h0;simp
  by_cases h1:l=⟨t+1,e0⟩
  ·subst h1;simp
  by_cases h2:l=⟨t+2,e0⟩
  ·subst h2;simp
  simp [h0,h1,h2]
 have hl2:(((Z.set ⟨t+1,e0⟩ (.dict [])).set ⟨t,e0⟩ (.inst 184 ⟨t+1,e0⟩)).set ⟨t+2,e0⟩ (.list [])) ⟨t+2,e0⟩=some (.list []):=V.set_same;refine lJ (aB:=cB t [] Z) ?_ ?_ ?_
 ·refine aE (au (b8 (b:=false) (aq (c:=false) (aa n1 rfl) bV (cQ fN) rfl) (dU ⟨t+2,e0⟩ ao (dW _) (by rw [aj m2.symm,aj m3.symm];exact h2))) (ag n1 rfl)) ?_;refine cw (aq (c:=false) (aD (ar h.ok n4 (sX h)) (af (aa n1 rfl) ao) cL (rR (yS hl2) (by decide))) (ar h.ok n5 (Il h)) (CU rfl rfl) rfl) ?_;refine aE (au (aa n1 rfl) (eJ (aa n0 rfl) (y0 h (d:=⟨t+1,e0⟩) (by rw [aj m2,V.set_same]) (by rw [aj m3,aj m1.symm,V.set_same])))) ?_;rw [st];refine fH (aX (b:=true) dS cu) ?_;exact aE (jv (f:= .next) (aa n1 rfl) (i9 (xs:= [])) (.loc kR) (V.Lr.nil (.loc kR)) (λu w=>rfl)) j0
 ·rw [<-st];exact .set (.set .refl)
 ·intro l o hl;by_cases h0:l=⟨t,e0⟩
  ·subst h0;rw [nj]at hl;obtain rfl:=dI hl;right;refine(?_:(cB t [] Z ⟨t+1,e0⟩).isSome=true);rw [mx];rfl
  ·by_cases h1:l=⟨t+1,e0⟩
   ·subst h1;rw [mx]at hl;obtain rfl:=dI hl;right;intro p hp;rcases hp with _ | ⟨_,hp⟩
    ·refine(?_:(cB t [] Z ⟨t+2,e0⟩).isSome=true);rw [kR];rfl
    ·exact jc hp
   ·by_cases F6:l=⟨t+2,e0⟩
    ·subst F6;rw [kR]at hl;obtain rfl:=dI hl;right;simp [V.AO.In,V.AV.mT]
    ·left;rw [aj h0,aj h1];delta cB at hl;simpa only [h0,h1,F6,jG]using hl
structure L6 (C:V.Cx):Prop extends Is C where
 lb:0<C.lb
noncomputable def esc (v:Str):Str:=Txt.replace (Txt.replace v "\\" "\\\\") "\"" "\\\""
noncomputable def tU (p v:Str):Str:=if decide ((v.length:Int)>0)=true then p++"=\""++esc v++"\""else p
theorem yg (h:v.length<=n):(esc v).length<=9 * n+8:=by
 have z:=kf (y:=Str.ofString "\"") (z:=Str.ofString "\\\"") (kf (y:=Str.ofString "\\") (z:=Str.ofString "\\\\") (x:=v) h);have e1:(Str.ofString "\\\\").length=2:=by rfl
 have e2:(Str.ofString "\\\"").length=2:=by rfl
 rw [e1,e2]at z;delta esc;delta V.B at z;omega
theorem JS (h:L6 C) (hp:V.B p 100) (hv:V.B v 100):
  V.Ca C (k+1) Z (.ext 61) [.str p,.str v] [] (.str (tU p v)) Z:=by
 have hx0:=h.hx;refine lP h.ok ⟨⟨_,_,_,by rw [h.K];exact rfl⟩,rfl,rfl,rfl,rfl,by rw [h.K];rfl,rfl,rfl,by decide+kernel⟩ [lo "param",lo "value",lo "quote",gi "len",gi "tspecials"] rfl [("param",.str p),("value",.str v),("quote",.int 1)] _
  (sR h.ok (as:= [.str p,.str v]) (Mi:= [.int 1]) (da:=54) (by rw [h.K];exact rfl) (zN λa0 a1=>⟨_,by exact rfl,by exact rfl⟩) rfl (λW=> .cons b9 .nil)) rfl rfl λsc hF n hn=> ?_
 refine Gy hF λn0 n1 n2 n3 n4 _=>?_;clear hF;refine iw ?_;have N2:V.B (esc v) 1000:=bU (yg hv) (by decide);have hv2:V.B (Txt.replace (Txt.replace v "\\" "\\\\") "\"" "\\\"") 1000:=N2;have he:V.B Str.empty 0:=bT _;delta tU;rcases hne:decide ((v.length:Int)>0)with _ | _
 ·rw [az dN];refine cw (aY (ck (aq (c:=true) (aa n1 rfl) bV (cQ rE) rfl) (b7 (aq (c:=false) (aD (ar h.ok n3 (fC h.toIs)) (af (aa n1 rfl) ao) bp (j9 hv (by decide))) aC (CN hne) rfl)))) ?_;exact bP (aa n0 rfl)
 ·rw [aG rfl];refine fH (aY (ck (aq (c:=true) (aa n1 rfl) bV (cQ rE) rfl) (ck (aq (c:=true) (aD (ar h.ok n3 (fC h.toIs)) (af (aa n1 rfl) ao) bp (j9 hv (by decide))) aC (CN hne) rfl) fZ))) ?_;refine fH (aY (c8 (aX (b:=true) (aa n2 rfl) (cY rfl)))) ?_;refine aE (au (jj (jj (aa n1 rfl) h.lb (by decide+kernel) hv (by decide) (by decide+kernel) (λu w=>rfl) rfl) h.lb (by decide+kernel) (kf hv) (by decide) (by decide+kernel) (λu w=>rfl) rfl) (ag n1 rfl)) ?_;rw [show p++"=\""++esc v++"\""=Str.empty++p++"=\""++esc v++"\"" by rw [xA]];exact bP (zL (nT (yI (aa n0 rfl) hp (by decide)) (by kln_le) (by decide) (nT aW (by kln_le) (by decide) (nT (yI (aa n1 rfl) N2 (by decide)) (by kln_le) (by decide) (nT aW (by kln_le) (by decide) HU)))) (by kln_le) (by decide))
noncomputable def ov (v:Option Str):AV:=v.elim .none .str
noncomputable def oF (k:Str):Str:=Txt.replace k "_" "-"
noncomputable def fv (p:Str×Option Str):Str:=p.2.elim (oF p.1) (tU (oF p.1))
noncomputable def hval (own:Option Str) (kw:List (Str×Option Str)):Str:=Txt.join "; " (own.toList++kw.map fv)
structure LC (p:Str×Option Str):Prop where
 kl:p.1.length<=20
 ko:p.1.cps.all nF=true
 vl: ∀v,p.2=some v->v.length<=100/\v.cps.all nF=true
noncomputable def tJ:Str:="by_0"
noncomputable def AB:Str:="by_1"
noncomputable def g8:Str:="as_it_is"
noncomputable def keysOk (kw:List (Str×Option Str)):Prop:=kw.map (·.1)= []\/kw.map (·.1)= [tJ]\/kw.map (·.1)= [tJ,AB]\/kw.map (·.1)= [g8]\/kw.map (·.1)= [tJ,g8]\/kw.map (·.1)= [tJ,AB,g8]
noncomputable def jD (kw:List (Str×Option Str)):List (Str×AV):=kw.map λp=>(p.1,ov p.2)
theorem tV (kw:List (Str×Option Str)):(jD kw).map (·.1)=kw.map (·.1):=by delta jD;rw [dP];rfl
theorem keysOk.dn (h:keysOk kw):V.DN (jD kw):=by
 delta V.DN;rw [tV];rcases h with h | h | h | h | h | h<;>rw [h]<;>decide+kernel
theorem keysOk.len (h:keysOk kw):kw.length<=3:=by
 rw [<-bu (f:=(·.1))];rcases h with h | h | h | h | h | h<;>rw [h]<;>decide
theorem vn {α:Type} {l:List (Str×α)} {a:Str} (h:l.map (·.1)= [a]): ∃v,l= [(a,v)]:=by
 cases l with
 | nil=>exact Iq h
 | cons p r=>
  cases r with
  | nil=>simp at h;exact⟨p.2,by rw [<-h]⟩
  | cons=>simp at h
theorem yh {α:Type} {l:List (Str×α)} {a:Str} {r:List Str} (h:l.map (·.1)=a::r): ∃v t,l=(a,v)::t/\t.map (·.1)=r:=by
 cases l with
 | nil=>exact Iq h
 | cons p t=>simp at h;exact Gj p.2 t (by rw [<-h.1]) h.2
theorem uy (h:k.length<=20):(oF k).length<=41:=by
 have z:=kf (y:=Str.ofString "_") (z:=Str.ofString "-") (x:=k) h;have e1:(Str.ofString "-").length=1:=by rfl
 rw [e1]at z;delta oF;delta V.B at z;omega
theorem Bu (hp:p.length<=41) (hv:v.length<=100):(tU p v).length<=960:=by
 have z:=yg hv;delta tU;split
 ·have b:V.B (p++"=\""++esc v++"\"") (41+2+908+1):=f9 (f9 (f9 hp (iY rfl)) z) (iY rfl);exact bU b (by decide)
 ·omega
theorem tT (h:LC p):(fv p).length<=1000:=by
 obtain⟨a,v⟩:=p;have z:=uy h.kl;cases v with
 | none=>exact bU z (by decide)
 | some v=>exact bU (Bu z (h.vl v rfl).1) (by decide)
theorem Ik {C:V.Cx} (h:L6 C) {k:Nat} {Z:V.St} {t d:Nat} {hs:List (Str×Str)} {x:Str} {own:Option Str} {kw:List (Str×Option Str)} (hd0:cB t hs Z ⟨d,e0⟩=none) (hx:KP x) (hy: ∀y,own=some y->KP y) (hkw: ∀p∈kw,LC p) (hks:keysOk kw) (hz:hs.length<=1000):
  V.Cd C (k+2) (cB t hs Z) (.ext 181) [.loc ⟨t,e0⟩,.str x,ov own] (jD kw) .none (cB t (hs++ [(x,hval own kw)]) Z):=by
 have hx0:=h.hx;have hdn:=hks.dn;refine eA h.ok ⟨⟨_,_,_,by rw [h.K];exact rfl⟩,rfl,rfl,rfl,rfl,by rw [h.K];rfl,rfl,rfl,by decide+kernel⟩ [lo "self",lo "_name",lo "_value",lo "_params",lo "parts",lo "k",lo "v",gi "_formatparam"] rfl ([(Str.ofString "self",.loc ⟨t,e0⟩),(Str.ofString "_name",.str x),(Str.ofString "_value",ov own)]++ [(Str.ofString "_params",.loc ⟨d,e0⟩)]) _
  (Av (as:= [.loc ⟨t,e0⟩,.str x,ov own]) (bs:= [(Str.ofString "self",.loc ⟨t,e0⟩),(Str.ofString "_name",.str x),(Str.ofString "_value",ov own)]) (kw:=jD kw) hd0 hdn (FH λa0 a1 a2 fq hk=>⟨λd p u=>nsSet d p.1 p.2>>=λu=>pure (.yield ⟨⟩),by
   rw [tV]at hk;rcases hks with e | e | e | e | e | e
   ·obtain rfl:=List.map_eq_nil_iff.mp (hk.trans e);rfl
   ·refine e9 (vn (hk.trans e)) λv=>?_;rfl
   ·refine JU (yh (hk.trans e)) λv t e1=>e9 (vn e1) λv'=>?_;rfl
   ·refine e9 (vn (hk.trans e)) λv=>?_;rfl
   ·refine JU (yh (hk.trans e)) λv t e1=>e9 (vn e1) λv'=>?_;rfl
   ·refine JU (yh (hk.trans e)) λv t e1=>JU (yh e1) λv' t' e2=>e9 (vn e2) λv''=>?_;rfl,λu w g r=>rfl⟩) rfl) rfl rfl λsc hF n hn=> ?_
 refine tK hF λn0 n1 n2 n3 n4 n5 n6 n7 _=>?_;clear hF;have hkz:=hks.len;have dn: ∀i,i<=2->d≠t+i:=λi hi e=>by
  rcases i with _ | _ | _ | i
  ·rw [e]at hd0;exact absurd (nj.symm.trans hd0) (by simp)
  ·rw [e]at hd0;exact absurd (mx.symm.trans hd0) (by simp)
  ·rw [e]at hd0;exact absurd (kR.symm.trans hd0) (by simp)
  ·omega
 have dd:d<t\/t+2<d:=by have:=dn 0 (by decide);have:=dn 1 (by decide);have:=dn 2 (by decide);omega
 have hnt:t+2<n:=by
  refine aP (oZ (t+2) n) (λz=>?_) λz=>?_
  ·exact z
  ·have:=hn ⟨t+2,e0⟩ z;rw [kR]at this;exact rZ this
 have m0:n+d+1≠d:=by omega
 have mt:t+2<n+d+1:=by omega
 have fm:((cB t hs Z).set ⟨d,e0⟩ (.dict (jD kw))) ⟨n+d+1,e0⟩=none:=by rw [aj (by simpa using m0)];exact hn _ (by refine(?_:n<=n+d+1);omega)
 rw [fU (l:=⟨d,e0⟩) dd]at fm⊢;have lp: ∀(o:AO) (vs:List AV),(cB t hs ((Z.set ⟨d,e0⟩ o).set ⟨n+d+1,e0⟩ (.list vs))) ⟨n+d+1,e0⟩=some (.list vs):=λo vs=>by rw [lN (.inr mt),V.set_same]
 have ld: ∀(o:AO) (vs:List AV),(cB t hs ((Z.set ⟨d,e0⟩ o).set ⟨n+d+1,e0⟩ (.list vs))) ⟨d,e0⟩=some o:=λo vs=>by rw [lN dd,aj (by simp;omega),V.set_same]
 have em: ∀(o:AO) (vs:List AV),((cB t hs ((Z.set ⟨d,e0⟩ (.dict (jD kw))).set ⟨n+d+1,e0⟩ (.list vs)))).set ⟨d,e0⟩ o=(cB t hs ((Z.set ⟨d,e0⟩ o).set ⟨n+d+1,e0⟩ (.list vs))):=λo vs=>by rw [fU (l:=⟨d,e0⟩) dd,jO (by simp;omega),V.set_set]
 have ap: ∀(o:AO) (vs:List AV) (v:AV),vs.length<=1000->V.Ca C (k+1) (cB t hs ((Z.set ⟨d,e0⟩ o).set ⟨n+d+1,e0⟩ (.list vs))) (.bi "list.append") [.loc ⟨n+d+1,e0⟩,v] [] .none (cB t hs ((Z.set ⟨d,e0⟩ o).set ⟨n+d+1,e0⟩ (.list (vs++ [v])))):=λo vs v hv=>by
  have z:=dJ (C:=C) (k:=k+1) (x:=v) (lp o vs) (aV hv (by decide))
  rwa [fU (l:=⟨n+d+1,e0⟩) (.inr mt),V.set_set]at z
 refine yl (cP:=cB t (hs++ [(x,hval own kw)]) ((Z.set ⟨d,e0⟩ (.dict (jD kw))).set ⟨n+d+1,e0⟩ (.list ((own.toList++kw.map fv).map .str)))) ?_ ?_
 ·refine aE (au (dU ⟨n+d+1,e0⟩ ao (dW _) fm) (ag n4 rfl)) ?_;rw [fU (l:=⟨n+d+1,e0⟩) (.inr mt)];refine aE (ai:= [some (.loc ⟨t,e0⟩),some (.str x),some (ov own),some (.loc ⟨d,e0⟩),some (.loc ⟨n+d+1,e0⟩),none,none,none]) (ae:=(cB t hs ((Z.set ⟨d,e0⟩ (.dict (jD kw))).set ⟨n+d+1,e0⟩ (.list (own.toList.map .str))))) ?_ ?_
  ·cases own with
   | none=>exact qB (b:=false) (aq (c:=false) (aa n2 rfl) bV (cQ fN) rfl) bz
   | some y=>have hy1:=hy y rfl;exact qB (b:=true) (aq (c:=true) (aa n2 rfl) bV (cQ rE) rfl) (aJ (au (g9 (aa n0 rfl) (cJ h.toIs nj mx) (af (aa n2 rfl) ao) (nN (n:=Str.ofString "name") dS nZ) (KX h.toIs rfl) (s9 h.toIs (b:=false) (bU hy1.len (by decide)) hy1.ok) (λu w=>rfl) (λu=>rfl) rfl (λu=>rfl) (λu=>rfl) (λu=>rfl)) (ag n2 rfl)) (aJ (cv (aM (aa n4 rfl) (eg (lp _ _)) (af (aa n2 rfl) ao) bp (ap _ [] (.str y) (dW _)))) bz))
  have ol:own.toList.length<=1:=by cases own<;>simp
  have oy: ∀y∈own.toList,y.length<=1000:=λy hy'=>bU (hy y (by simpa using hy')).len (by decide);have pr: ∀(xs:List (Str×Option Str)) (z:List Str×Option (Str×Option Str)),(xs.foldl (λ(a:List Str×Option (Str×Option Str)) p=>(a.1++ [fv p],some p)) z).1=z.1++xs.map fv:=by
   intro xs
   induction xs with
   | nil=>intro z;simp
   | cons x xs ih=>intro z;rw [cX,ih];simp
  obtain⟨zl,Pd⟩: ∃zl:Option (Str×Option Str),zl=(kw.foldl (λ(a:List Str×Option (Str×Option Str)) p=>(a.1++ [fv p],some p)) (own.toList,none)).2:=⟨_,rfl⟩;have ek:(jD kw).map (λp=>AV.tup [.str p.1,p.2])=kw.map λp=>AV.tup [.str p.1,ov p.2]:=by delta jD;rw [dP];rfl
  refine aE (ai:= [some (.loc ⟨t,e0⟩),some (.str x),some (ov own),some (.loc ⟨d,e0⟩),some (.loc ⟨n+d+1,e0⟩),zl.map λp=> .str p.1,zl.map λp=>ov p.2,none]) (ae:=(cB t hs ((Z.set ⟨d,e0⟩ (.dict (jD kw))).set ⟨n+d+1,e0⟩ (.list ((own.toList++kw.map fv).map .str))))) (lG (l:=⟨d,e0⟩) (ld _ _) (ld _ _) (λcnt=> ?_)) ?_
  ·rw [em,em];have I:=zx (C:=C) (k:=k+1) (l:=⟨d,e0⟩) (n:=cnt) hdn hx0;rw [ek]at I;refine FY (aM (aa n3 rfl) (B4 (.inr ⟨cnt,ld _ _⟩)) ao bp (BI (.inr ⟨cnt,ld _ _⟩) hdn)) I (ld _ _) (MF (C:=C) (k:=k+1) (sc:=sc) (ok:=λaB=>aB ⟨d,e0⟩=some (.map (jD kw) cnt)) (enc:=λp:Str×Option Str=>AV.tup [.str p.1,ov p.2])
     (M:=λ(a:List Str×Option (Str×Option Str))=> [some (.loc ⟨t,e0⟩),some (.str x),some (ov own),some (.loc ⟨d,e0⟩),some (.loc ⟨n+d+1,e0⟩),a.2.map λp=> .str p.1,a.2.map λp=>ov p.2,none])
     (Sg:=λa=>(cB t hs ((Z.set ⟨d,e0⟩ (.map (jD kw) cnt)).set ⟨n+d+1,e0⟩ (.list (a.1.map .str))))) (step:=λa p=>(a.1++ [fv p],some p)) (P:=λa xs=>a.1.length+xs.length<=100/\ ∀p∈xs,LC p)
     (λu w g=>ld _ _) (λa p xs hP=>⟨by have:=hP.1;simp only [cV,cq,ic]at this⊢;omega,λq hq=>hP.2 q (.tail _ hq)⟩) ?_ kw (own.toList,none) ⟨by refine(?_:own.toList.length+kw.length<=100);omega,hkw⟩ (z:=(own.toList++kw.map fv,zl)) (Prod.ext (pr _ _) Pd.symm)) (λu w=>rfl)
   rintro ⟨a,o⟩ ⟨kk,vv⟩ xs ⟨hl,hok⟩
   have hp:=hok _ (.head _);have al:(a.map AV.str).length<=1000:=by rw [bu];have:a.length+((kk,vv)::xs).length<=100:=hl;omega
   refine Gj _ _ (i0 (cE (ag n5 rfl) (cE (ag n6 rfl) kq)) rfl (λu=>rfl) (λu=>rfl) hx0) ?_;refine aJ (au (g9 (aa n0 rfl) (cJ h.toIs nj mx) (af (aa n5 rfl) ao) (nN (n:=Str.ofString "name") dS nZ) (KX h.toIs rfl) (s9 h.toIs (b:=true) (bU hp.kl (by decide)) hp.ko) (λu w=>rfl) (λu=>rfl) rfl (λu=>rfl) (λu=>rfl) (λu=>rfl)) (ag n5 rfl)) ?_;have kb:V.B kk 20:=hp.kl;have ea: ∀y,(a++ [y]).map AV.str=a.map AV.str++ [.str y]:=λy=>by rw [fk];rfl
   have hpv:=hp.vl;cases vv with
   | none=>refine dy (aq (c:=true) (aa n6 rfl) bV (gK fN) rfl) ?_;dsimp only [fv,Option.elim];rw [ea];exact aJ (cv (aM (aa n4 rfl) (eg (lp _ _)) (af (jj (aa n5 rfl) h.lb (by decide+kernel) kb (by decide) (by decide+kernel) (λu w=>rfl) rfl) ao) bp (ap _ _ (.str (oF kk)) al))) bz
   | some vs=>have hv:=hpv vs rfl;refine cg (aq (c:=false) (aa n6 rfl) bV (gK rE) rfl) ?_;refine aJ (au (g9 (aa n0 rfl) (cJ h.toIs nj mx) (af (aa n6 rfl) ao) (nN (n:=Str.ofString "name") dS nZ) (KX h.toIs rfl) (s9 h.toIs (b:=false) (bU hv.1 (by decide)) hv.2) (λu w=>rfl) (λu=>rfl) rfl (λu=>rfl) (λu=>rfl) (λu=>rfl)) (ag n6 rfl)) ?_;dsimp only [fv,Option.elim];rw [ea];have db:V.B (oF kk) 100:=bU (uy hp.kl) (by decide);exact aJ (cv (aM (aa n4 rfl) (eg (lp _ _)) (af (aD (ar h.ok n7 (o8 h.toIs)) (af (jj (aa n5 rfl) h.lb (by decide+kernel) kb (by decide) (by decide+kernel) (λu w=>rfl) rfl) (af (aa n6 rfl) ao)) (KX h.toIs rfl) (JS h (k:=k) db hv.1)) ao) bp (ap _ _ (.str (tU (oF kk) vs)) al))) bz
  have z:=dJ (C:=C) (k:=k+1) (x:=hd (x,hval own kw)) (kR (t:=t) (hs:=hs) (Z:=(Z.set ⟨d,e0⟩ (.dict (jD kw))).set ⟨n+d+1,e0⟩ (.list ((own.toList++kw.map fv).map .str)))) (aV (m:=1000) (by rw [bu];exact hz) (by decide));rw [show hs.map hd++ [hd (x,hval own kw)]=(hs++ [(x,hval own kw)]).map hd by rw [fk];rfl,EH]at z;have jn:=w5 (C:=C) (k:=k+1) (x:=Str.ofString "; ") (xs:=own.toList++kw.map fv) (.loc (lp (.dict (jD kw)) ((own.toList++kw.map fv).map .str))) (qK (by decide) (λy hy'=>by
   refine aP (cm.mp hy') (λq=>?_) λq=>?_
   ·exact oy y q
   ·refine kE (bM.mp q) λp hp=>?_;exact tT (hkw p hp)) (by rw [cV,bu];omega))
  exact aE (cv (aM (bC (aa n0 rfl) (rh h.toIs nj mx gY gP)) (eg kR) (af (cU (af (g9 (aa n0 rfl) (cJ h.toIs nj mx) (af (aa n1 rfl) ao) (nN (n:=Str.ofString "name") dS nZ) (KX h.toIs rfl) (s9 h.toIs (b:=true) (bU hx.len (by decide)) hx.ok) (λu w=>rfl) (λu=>rfl) rfl (λu=>rfl) (λu=>rfl) (λu=>rfl)) (af (aM aW xj (af (aa n4 rfl) ao) bp jn) ao)) (dX rfl)) ao) bp z)) j0
 ·intro l o e;have i1:(cB t hs Z l).isSome=true:=by rw [nV (hs':=hs++ [(x,hval own kw)]),e];rfl
  have e1:l≠⟨n+d+1,e0⟩:=λz=>by rw [z,hn _ (by refine(?_:n<=n+d+1);omega)]at i1;exact tQ i1
  have e2:l≠⟨d,e0⟩:=λz=>by rw [z,hd0]at i1;exact tQ i1
  rw [<-fU (l:=⟨n+d+1,e0⟩) (.inr mt),<-fU (l:=⟨d,e0⟩) dd,aj e1,aj e2];exact e
noncomputable def lineOf (p:Str×Str):Str:=p.1++": "++p.2
noncomputable def kA (hs:List (Str×Str)):Str:=Txt.join (Str.ofString "\r\n") (hs.map lineOf++ [Str.ofString "",Str.ofString ""])
structure wR (hs:List (Str×Str)):Prop where
 len:hs.length<=100
 row: ∀p∈hs,p.1.length<=200/\p.2.length<=10000
theorem uM (h:wR hs): ∀y∈hs.map lineOf++ [Str.ofString "",Str.ofString ""],y.length<=10202:=λy hy=>by
 refine aP (cm.mp hy) (λq=>?_) λq=>?_
 ·refine kE (bM.mp q) λp hp=>bG (h.row p hp) λa b=>f9 (f9 a (iY (n:=2) rfl)) b
 ·have:y=Str.ofString "":=by simpa using q
  subst this;decide
theorem lY (h:wR hs):V.B (kA hs) 1100000:=by
 have z:=yC (x:=Str.ofString "\r\n") (uM h);refine bU z ?_;have e:(Str.ofString "\r\n").length=2:=by rfl
 have l:(hs.map lineOf++ [Str.ofString "",Str.ofString ""]).length<=102:=by rw [cV,bu];have:=h.len;refine(?_:hs.length+2<=102);omega
 have:=xe l (bT (10202+(Str.ofString "\r\n").length));rw [e]at this⊢;omega
theorem Kn (h:Is C) (ho:wR hs):
  V.Cd C (k+1) (cB t hs Z) (.ext 160) [.loc ⟨t,e0⟩] [] (.str (kA hs)) (cB t hs Z):=by
 have hx0:=h.hx;refine eA h.ok ⟨⟨_,_,_,by rw [h.K];exact rfl⟩,rfl,rfl,rfl,rfl,by rw [h.K];rfl,rfl,rfl,by decide+kernel⟩ [lo "self"] rfl [(Str.ofString "self",.loc ⟨t,e0⟩)] _
  (bQ (gA λa0=>rfl) rfl) rfl rfl λsc hF n hn=> ?_
 refine bG hF λn0 _=>?_;clear hF;refine iw ?_;have zl:(hs.map lineOf++ [Str.ofString "",Str.ofString ""]).length<=102:=by rw [cV,bu];have:=ho.len;refine(?_:hs.length+2<=102);omega
 have jn:=w5 (C:=C) (k:=k) (Z:=cB t hs Z) (x:=Str.ofString "\r\n") (xs:=hs.map lineOf++ [Str.ofString "",Str.ofString ""]) (v:= .lst (((hs.map lineOf).map .str)++ [.str (Str.ofString ""),.str (Str.ofString "")])) (by rw [fk];exact .lst _) (xB (uM ho) (by
  have e:(Str.ofString "\r\n").length=2:=by rfl
  rw [e];exact bU (xe zl (bT _)) (by decide)))
 refine bP (aM aW xj (af (ay (cp (out:=(hs.map lineOf).map .str) (link:= []) (cZ:= [none,(eF hs).map hd]) ⟨V.all1 rfl,wc,rfl,by decide+kernel,(bC (aa n0 rfl) (rh h nj mx gY gP)),i9,.loc kR,λu w=>rfl⟩ (λla hla=> ?_) rfl (bo (λx=>cc))) (gX (af aW (af aW ao)) (dX rfl)) (vt (.lst _) (.lst _) (aV (m:=102) (by have:=zl;simp only [cV,bu,cq,ic]at this⊢;exact this) (by decide)))) ao) bp jn);have W:=λ(elt:Expr) (scope:Scope) (pos:Pos) (gens:List Comprehension) (g:Comprehension) e ha hv=>hU (C:=C) (k:=k) (sc:=bB scope) (enc:=hd) (val:=λp=>AV.str (lineOf p)) (M:=λo:Option (Str×Str)=> [none,o.map hd]) (Sg:=λout=>(cB t hs Z).set la (.list out)) (ok:=λaB=>V.IsL aB (.loc ⟨t+2,e0⟩) (hs.map hd)) (la:=la) (elt:=elt) (gens:=gens) (scope:=scope) (pos:=pos) (g:=g) (xs:=hs) (bU ho.len (by decide))
  (λout=> .loc (by rw [aj (λe=>by rw [<-e,kR]at hla;exact rZ hla)];exact kR)) (λout=>V.set_same) (λout out'=>V.set_set) e ha hv
 rw [show hs.map (λp=>AV.str (lineOf p))=(hs.map lineOf).map AV.str by rw [dP];rfl]at W;refine W _ _ _ _ _ rfl (λo x out hx=>ag (i:=1) rfl rfl) (λx out hx=> ?_);refine bG (ho.row x hx) λa b=>ay aW (aa (i:=1) rfl rfl) (DH a b (by decide) (by decide))
theorem FP (h:Is C) (ho:wR hs) (hl: ∀c∈(kA hs).cps.toList,c<256):
  V.Cd C (k+4) (cB t hs Z) (.ext 167) [.loc ⟨t,e0⟩] [] (.bytes (jN (kA hs))) (cB t hs Z):=by
 have hx0:=h.hx;refine eA h.ok ⟨⟨_,_,_,by rw [h.K];exact rfl⟩,rfl,rfl,rfl,rfl,by rw [h.K];rfl,rfl,rfl,by decide+kernel⟩ [lo "self",gi "str"] rfl [("self",.loc ⟨t,e0⟩)] _
  (bQ (gA λa0=>rfl) rfl) rfl rfl λsc hF n hn=> ?_
 refine nR hF λn0 n1 _=>?_;clear hF;refine nJ (sQ) ?_;have cs:=zZ (k:=k+1) h.ok (nj (t:=t) (hs:=hs) (Z:=Z)) mx (f:=160) (by rw [h.K];kernel_rfl) (by rw [h.K];kernel_rfl) (V.Cd.ca (Kn h (k:=k) ho));exact bP (aM (aD (ar h.ok n1 (kG h)) (af (aa n0 rfl) ao) cL cs) DJ (af aW ao) bp (DZ (lY ho) (by decide) hl))
end L1
end
section
namespace L1
open Builtin Builtin.Str
noncomputable def fQ (page goal:Str) (q:Int):Str:=
 if q.fmod 3==0 then "/.."++goal
 else if q.fmod 3==1 then Txt.mul "../" (Txt.count page "/" - 1)++Txt.slice goal (some 1) none
 else("./"++Txt.mul "../" (Txt.count page "/" - 1+1))++Txt.slice goal (some 1) none
theorem Hf (h:Is C) (hp:V.B page 100) (hg:V.B goal 100) (hc:0<=Txt.count page "/"/\Txt.count page "/"<100):
  V.Ca C (k+1) Z (.ext 437) [.str page,.str goal,.int q] [] (.str (fQ page goal q)) Z:=by
 have hx0:=h.hx;refine lP h.ok ⟨⟨_,_,_,by rw [h.K];exact rfl⟩,rfl,rfl,rfl,rfl,by rw [h.K];rfl,rfl,rfl,by decide+kernel⟩ [lo "page",lo "goal",lo "q",lo "ups"] rfl [("page",.str page),("goal",.str goal),("q",.int q)] _
  (bQ (FH λa0 a1 a2=>rfl) rfl) rfl rfl λsc hF n hn=> ?_
 refine ud hF λn0 n1 n2 n3 _=>?_;clear hF;refine iw ?_;refine aE (au (ay (aM (aa n0 rfl) FR (af aW ao) bp Eu) aC J1) (ag n3 rfl)) ?_;delta fQ;rcases hq:(q.fmod 3==0)with _ | _
 ·rcases hq1:(q.fmod 3==1)with _ | _
  ·simp only [iP,↓reduceIte];refine cw (aq (c:=false) (ay (aa n2 rfl) aC (du (by decide) rfl)) aC (lF (by first | with_reducible assumption | rfl)) rfl) ?_;refine cw (aq (c:=false) (ay (aa n2 rfl) aC (du (by decide) rfl)) aC (lF (by first | with_reducible assumption | rfl)) rfl) ?_;exact bP (ay (ay aW (ay aW (ay (aa n3 rfl) aC qZ) (BA (by kln_le) (by decide) (by omega) (by omega))) (dB (by kln_le) (by kln_le) (by decide))) (aS (aa n1 rfl) (bJ (bH aC) bc bc) ej (cH (fA.int _) fA.none (by kln_le) (by decide))) (dB (by kln_le) (by kln_le) (by decide)))
  ·simp only [iP,↓reduceIte];refine cw (aq (c:=false) (ay (aa n2 rfl) aC (du (by decide) rfl)) aC (lF (by first | with_reducible assumption | rfl)) rfl) ?_;refine fH (aq (c:=true) (ay (aa n2 rfl) aC (du (by decide) rfl)) aC (lF (by first | with_reducible assumption | rfl)) rfl) ?_;exact bP (ay (ay aW (aa n3 rfl) (BA (by kln_le) (by decide) (by omega) (by omega))) (aS (aa n1 rfl) (bJ (bH aC) bc bc) ej (cH (fA.int _) fA.none (by kln_le) (by decide))) (dB (by kln_le) (by kln_le) (by decide)))
 ·simp only [↓reduceIte];refine fH (aq (c:=true) (ay (aa n2 rfl) aC (du (by decide) rfl)) aC (lF (by first | with_reducible assumption | rfl)) rfl) ?_;exact bP (ay aW (aa n1 rfl) (dB (by kln_le) (by kln_le) (by decide)))
end L1
end
section
namespace L1
open Builtin Builtin.Str
open V (AV AO)
theorem xD (hl:Z l=none) (hx:AV.pS xs) (h1:V.Go C k sc ms Z body (.ret (.loc l)) (Z.set l (.list xs))): ∃f aK cP,V.Ex C k sc ms Z body f aK cP/\V.Exit Z cP f (.lst xs) Z:=
 hH h1 ⟨oD (λu v z=>z) hl,λu z=>z,λu v z=> .inl z,.inr (.inl ⟨l,xs,rfl,rfl,V.set_same,hl,hx _⟩)⟩
theorem kU {q:Int} {m:Nat} (hm:0<m): ∃f:Nat,f<m/\q.fmod m=f:=by have h1:=E7 q (show(0:Int)<(m:Int) by omega);have h2:=Int.fmod_lt_of_pos q (show(0:Int)<(m:Int) by omega);exact V.i12 (q.fmod m).toNat (by omega+splitDisjunctions) (by omega+splitDisjunctions)
theorem kj {n:Int} {m:Nat} (hm:0<m) (h:m<=1000):0<=n.fmod m/\n.fmod m<1000000:=by refine V.c12 (kU (q:=n) (m:=m) hm) λf hf e=>?_;rw [e];omega
noncomputable def bq:List Int:= [0,1,2,3,4,5]
noncomputable def jM (f:Int->Str):AV:= .lst (bq.map λk=> .str (f k))
noncomputable def inV (f:Int->Int):AV:= .lst (bq.map λk=> .int (f k))
noncomputable def yi (f:Int->List Str):AV:= .lst (bq.map λk=> .lst ((f k).map .str))
theorem Fx:sM 0 6=bq.map .int:=by rfl
theorem bE: ∀k∈bq,0<=k/\k<1000000:=by decide
theorem JY: ∀k∈bq,0<=k/\k<6:=by decide
theorem DY (h0:0<=k) (h1:k<6):k∈bq:=by
 have:k=0\/k=1\/k=2\/k=3\/k=4\/k=5:=by omega
 rcases this with rfl | rfl | rfl | rfl | rfl | rfl<;>decide
theorem l9 {α:Type} (f:Int->α) (h:k∈bq):(bq.map f)[k.toNat]? =some (f k):=by
 rw [gq];have: ∀k∈bq,bq[k.toNat]? =some k:=by decide
 rw [this k h];rfl
noncomputable def gZ:List Str:= ["","/x","/x/y","/é"]
noncomputable def pa:List Str:= ["","\"","\\","; "]
noncomputable def Hg (n:Int):Str:=gZ[(n.fmod 4).toNat]?.getD Str.empty
noncomputable def MU (n:Int):Str:=pa[((n.fdiv 4).fmod 4).toNat]?.getD Str.empty
noncomputable def EP (k:Int):Str:=Txt.item "abcABC" k
noncomputable def A7 (k n:Int):Str:=Hg n++"/"++EP k++MU n
theorem EE {l:List Str} (hl:l.length=4) (m:Int):l[(m.fmod 4).toNat]? =some (l[(m.fmod 4).toNat]?.getD Str.empty)/\l[(m.fmod 4).toNat]?.getD Str.empty∈l:=by
 refine V.c12 (kU (q:=m) (m:=4) (by decide)) λf hf e=>?_;have e:m.fmod 4=(f:Int):=e;rw [e];have:(f:Int).toNat=f:=by omega
 rw [this];have hl:f<l.length:=by omega
 rw [nv hl];exact⟨rfl,List.getElem_mem hl⟩
theorem s6 (n:Int):Hg n∈gZ:=(EE rfl n).2
theorem wH (n:Int):MU n∈pa:=(EE rfl (n.fdiv 4)).2
theorem KR: ∀f∈gZ,V.B f 10:=by delta V.B;decide+kernel
theorem MA: ∀f∈pa,V.B f 10:=by delta V.B;decide+kernel
theorem MK: ∀k∈bq,V.B (EP k) 1/\fitsSsize k=true/\(Txt.charAt "abcABC" k).isSome=true:=by delta V.B;decide+kernel
theorem EI {C:V.Cx} (h:Is C) {nA:Int->Int}:
  V.Cd C (k+1) Z (.ext 430) [inV nA] [] (.lst (bq.map λk=> .str (A7 k (nA k)))) Z:=by
 have hx0:=h.hx;refine eA h.ok ⟨⟨_,_,_,by rw [h.K];exact rfl⟩,rfl,rfl,rfl,rfl,by rw [h.K];rfl,rfl,rfl,by decide+kernel⟩ [lo "numbers",lo "pages",lo "k",lo "n",lo "folder",gi "range"] rfl [("numbers",inV nA)] _
  (bQ (gA λa0=>rfl) rfl) rfl rfl λsc hF n hn=> ?_
 refine JB hF λn0 n1 n2 n3 n4 n5 _=>?_;clear hF;have hl:Z ⟨n,e0⟩=none:=hn _ (bT _);refine xD (l:=⟨n,e0⟩) hl (bo (λp=>cc)) ?_;refine aE (au (dU ⟨n,e0⟩ ao (dW _) hl) (ag n1 rfl)) ?_;have I6:=λtgt=>cM (tgt:=tgt) (C:=C) (k:=k) (a:=0) (b:=6) (by decide) (by decide) (by decide);simp only [Fx]at I6;refine iH (aD (ar h.ok n5 (dG h)) (af aC ao) cL cS) (I6 _) trivial (KL (C:=C) (k:=k) (sc:=sc) (ok:=λu=>True) (enc:=AV.int)
    (M:=λ(a:List Int×Option Int)=> [some (inV nA),some (.loc ⟨n,e0⟩),a.2.map .int,a.2.map λk=> .int (nA k),a.2.map λk=> .str (Hg (nA k)),none])
    (Sg:=λa=>Z.set ⟨n,e0⟩ (.list (a.1.map λk=> .str (A7 k (nA k))))) (step:=λa c=>(a.1++ [c],some c)) (P:=λa xs=>a.1.length+xs.length<=1000/\ ∀x∈xs,x∈bq)
    (λu v w=>trivial) (λa x xs hP=>⟨by have:=hP.1;simp only [cV,cq,ic]at this⊢;omega,λy hy=>hP.2 y (.tail _ hy)⟩) ?_ bq ([],none) ⟨by decide,λu z=>z⟩ (z:=(bq,some 5)) rfl) (λu v=>rfl) ?_
 ·rintro ⟨a,o⟩ c xs ⟨hl2,hP⟩
  have hc:=hP c (.head _);refine bG (bE c hc) λc0 c1=>nR (MK c hc) λl1 l2 l3=>?_;have f1:=KR _ (s6 (nA c));have s1:=MA _ (wH (nA c));have Ml:V.B "/" 1:=iY rfl;have al:(a.map λk=>AV.str (A7 k (nA k))).length<=sizeLine:=aV (m:=1000) (by rw [bu];have:a.length+(c::xs).length<=1000:=hl2;omega) (by decide);refine cx (ag n2 rfl) ?_;refine aJ (au (aS (aa n0 rfl) (aa n2 rfl) (bk (.lst _)) (bD (.lst _) c0 c1 (l9 _ hc))) (ag n3 rfl)) ?_;refine aJ (au (aS (gX (af aW (af aW (af aW (af aW ao)))) (dX rfl)) (ay (aa n3 rfl) aC (du (by decide) rfl)) (bk (.lst (gZ.map .str))) (bD (x:= .str (Hg (nA c))) (.lst (gZ.map .str)) (kj (m:=4) (by decide) (by decide)).1 (kj (m:=4) (by decide) (by decide)).2 (by rw [gq,(EE (l:=gZ) rfl (nA c)).1];rfl))) (ag n4 rfl)) ?_;refine(?_:V.Ex _ _ _ _ _ _ _ _ (Z.set ⟨n,e0⟩ (.list ((a++ [c]).map λk=> .str (A7 k (nA k))))));rw [fk];exact aJ (cv (aM (aa n1 rfl) iS (af (ay (ay (ay (aa n4 rfl) aW (dB (by kln_le) (by kln_le) (by decide))) (aS aW (aa n2 rfl) ej (GY (y:=EP c) l2 l3 rfl)) (dB (by kln_le) (by kln_le) (by decide))) (aS (gX (af aW (af aW (af aW (af aW ao)))) (dX rfl)) (ay (ay (aa n3 rfl) aC (gw (by decide) rfl rfl)) aC (du (by decide) rfl)) (bk (.lst (pa.map .str))) (bD (x:= .str (MU (nA c))) (.lst (pa.map .str)) (kj (m:=4) (by decide) (by decide)).1 (kj (m:=4) (by decide) (by decide)).2 (by rw [gq,(EE (l:=pa) rfl ((nA c).fdiv 4)).1];rfl))) (dB (by kln_le) (by kln_le) (by decide))) ao) bp (iT al))) bz
 ·exact bP (aa n1 rfl)
structure SG where
 parts:List Str
 part:Str
 marked:Bool
 held:Bool
 last:Option Nat
noncomputable def ch (c:Nat):Str:=⟨#[c]⟩
noncomputable def SG.step (s:SG) (c:Nat):SG:=
 if s.held then{s with part:=s.part++(if Txt.contains "\\\"" (ch c)then ch c else "\r"),held:=false,last:=some c}
 else if ch c=="\\"then{s with held:=true,last:=some c}
 else if ch c=="\""then{s with part:=s.part++"\n",marked:= !s.marked,last:=some c}
 else if(ch c==";") && !s.marked then{s with parts:=s.parts++ [s.part],part:="",last:=some c}
 else{s with part:=s.part++ch c,last:=some c}
noncomputable def Jm:SG:=⟨[],"",false,false,none⟩
noncomputable def signs (value:Str):List Str:=(λs:SG=>s.parts++ [s.part]) (value.cps.toList.foldl SG.step Jm)
theorem u3 (s:SG) (c:Nat):(s.step c).parts.length<=s.parts.length+1/\(s.step c).part.length<=s.part.length+1/\(s.step c).last=some c:=by
 have b1: ∀y:Str,y.length<=1->(s.part++y).length<=s.part.length+1:=λy hy=>f9 (bT _) hy;have b2:(ch c).length<=1:=bT _;delta SG.step;split
 ·refine nB (ju _) (b1 _ ?_) rfl;split
  ·exact b2
  ·decide
 split
 ·exact nB (ju _) (ju _) rfl
 split
 ·exact nB (ju _) (b1 _ (by decide)) rfl
 split
 ·refine nB ?_ ?_ rfl
  ·rw [cV];exact bT _
  ·exact dW _
 ·exact nB (ju _) (b1 _ b2) rfl
theorem FC (h:Is C) (hz:value.length<=100000):
  V.Cd C (k+1) Z (.ext 454) [.str value] [] (.lst ((signs value).map .str)) Z:=by
 have hx0:=h.hx;refine eA h.ok ⟨⟨_,_,_,by rw [h.K];exact rfl⟩,rfl,rfl,rfl,rfl,by rw [h.K];rfl,rfl,rfl,by decide+kernel⟩ [lo "value",lo "parts",lo "part",lo "marked",lo "held",lo "sign"] rfl [("value",.str value)] _
  (bQ (gA λa0=>rfl) rfl) rfl rfl λsc hF n hn=> ?_
 refine JB hF λn0 n1 n2 n3 n4 n5 _=>?_;clear hF;have hl:Z ⟨n,e0⟩=none:=hn _ (bT _);refine hH (cP:=Z.set ⟨n,e0⟩ (.list ((value.cps.toList.foldl SG.step Jm).parts.map .str))) ?_ ⟨oD (λu v z=>z) hl,λu z=>z,λu v z=> .inl z,.inl ⟨rfl,km (bo λp=>cc) _⟩⟩;refine aE (au (cU (af (dU ⟨n,e0⟩ ao (dW _) hl) (af aW (af dS (af dS ao)))) (dX rfl)) (i0 (cE (ag n1 rfl) (cE (ag n2 rfl) (cE (ag n3 rfl) (cE (ag n4 rfl) kq)))) rfl (λu=>rfl) (λu=>rfl) hx0)) ?_;refine iH (aa n0 rfl) Fo trivial (iF (C:=C) (k:=k) (sc:=sc) (ok:=λu=>True) (enc:=λc:Nat=>AV.str (ch c))
    (M:=λ(a:SG)=> [some (.str value),some (.loc ⟨n,e0⟩),some (.str a.part),some (.bool a.marked),some (.bool a.held),a.last.map λc=> .str (ch c)])
    (Sg:=λa=>Z.set ⟨n,e0⟩ (.list (a.parts.map .str))) (step:=SG.step) (P:=λa xs=>a.parts.length+xs.length<=100000/\a.part.length+xs.length<=100000)
    (λu v w=>trivial) (λa x xs hP=>by
     refine nR (u3 a x) λe1 e2 _=>?_;have h1:=hP.1;have h2:=hP.2;simp only [cq]at h1 h2;exact⟨by omega,by omega⟩) ?_ value.cps.toList Jm ⟨by refine(?_:0+_<=_);rw [pd,iK];exact hz,by refine(?_:0+_<=_);rw [pd,iK];exact hz⟩) (λu v=>rfl) ?_
 ·rintro ⟨ps,pt,mk,hd,la⟩ c xs ⟨hl2,hP⟩
  have pb:V.B pt 100000:=by have:pt.length+(c::xs).length<=100000:=hP;delta V.B;omega
  have pl:(ps.map AV.str).length<=sizeLine:=aV (m:=100000) (by rw [bu];have:ps.length+(c::xs).length<=100000:=hl2;omega) (by decide);have cb:V.B (ch c) 1:=bT _;refine cx (ag n5 rfl) ?_;delta SG.step;cases hd with
  | true=>
   refine dy (aX (b:=true) (aa n4 rfl) cu) ?_;rw [aG rfl];rcases hc:Txt.contains "\\\"" (ch c)with _ | _
   ·rw [az dN];exact aJ (ou n2 n4 (cU (af (ay (aa n2 rfl) (b8 (b:=false) (aq (c:=false) (aa n5 rfl) aW (HL hc) rfl) aW) (dB (by kln_le) (by kln_le) (by decide))) (af dS ao)) (dX rfl)) rfl rfl rfl rfl rfl rfl) bz
   ·rw [aG rfl];exact aJ (ou n2 n4 (cU (af (ay (aa n2 rfl) (b8 (b:=true) (aq (c:=true) (aa n5 rfl) aW (HL hc) rfl) (aa n5 rfl)) (dB (by kln_le) (by kln_le) (by decide))) (af dS ao)) (dX rfl)) rfl rfl rfl rfl rfl rfl) bz
  | false=>
   refine cg (aX (b:=false) (aa n4 rfl) cu) ?_;rw [az dN];rcases h1:(ch c=="\\")with _ | _
   ·refine cg (aq (c:=false) (aa n5 rfl) aW (V.s_eq h1) rfl) ?_;rw [az dN];rcases h2:(ch c=="\"")with _ | _
    ·refine cg (aq (c:=false) (aa n5 rfl) aW (V.s_eq h2) rfl) ?_;rw [az dN];rcases h3:(ch c==";")with _ | _
     ·rw [az (by simp)];refine cg (aY (b7 (aq (c:=false) (aa n5 rfl) aW (V.s_eq h3) rfl))) ?_;exact aJ (k9 n2 rfl (aa n5 rfl) (nH pb cb (by decide)) rfl) bz
     ·cases mk with
      | true=>rw [az (by simp)];refine cg (aY (ck (aq (c:=true) (aa n5 rfl) aW (V.s_eq h3) rfl) (b7 (d7 (b:=true) (aX (b:=true) (aa n3 rfl) cu))))) ?_;exact aJ (k9 n2 rfl (aa n5 rfl) (nH pb cb (by decide)) rfl) bz
      | false=>rw [aG (by simp)];refine dy (aY (ck (aq (c:=true) (aa n5 rfl) aW (V.s_eq h3) rfl) (ck (d7 (b:=false) (aX (b:=false) (aa n3 rfl) cu)) fZ))) ?_;dsimp only;rw [fk];exact aJ (cv (aM (aa n1 rfl) iS (af (aa n2 rfl) ao) bp (iT pl))) (aJ (au aW (ag n2 rfl)) bz)
    ·refine dy (aq (c:=true) (aa n5 rfl) aW (V.s_eq h2) rfl) ?_;rw [aG rfl];exact aJ (ou n2 n3 (cU (af (ay (aa n2 rfl) aW (dB (by kln_le) (by kln_le) (by decide))) (af (dD (aa n3 rfl) (V.v_not cu rfl)) ao)) (dX rfl)) rfl rfl rfl rfl rfl rfl) bz
   ·refine dy (aq (c:=true) (aa n5 rfl) aW (V.s_eq h1) rfl) ?_;rw [aG rfl];exact aJ (au dS (ag n4 rfl)) bz
 ·have fl: ∀(xs:List Nat) (a:SG),(xs.foldl SG.step a).parts.length<=a.parts.length+xs.length:=by
   intro xs
   induction xs with
   | nil=>intro a;exact bT _
   | cons c xs ih=>intro a;have h1:=ih (a.step c);have h2:=(u3 a c).1;rw [cX,cq];omega
  have pl:((value.cps.toList.foldl SG.step Jm).parts.map AV.str).length+1<=sizeLine:=aV (m:=100001) (by
   have:=fl value.cps.toList Jm;rw [bu];have z:value.cps.toList.length<=100000:=by rw [iK];exact hz
   have e:Jm.parts.length=0:=rfl;omega) (by decide)
  delta signs;rw [fk];exact bP (ay (aa n1 rfl) (gX (af (aa n2 rfl) ao) (dX rfl)) (vt (.loc V.set_same) (.lst _) pl))
theorem vJ (h:Is C):V.Glob C "_law_text" (.ext 437):=bW (by decide+kernel) ((mg h _).trans (by kernel_rfl))
theorem tw (h:Is C):V.Glob C "_law_parts" (.ext 447):=bW (by decide+kernel) ((mg h _).trans (by kernel_rfl))
theorem wV (h:Is C):V.Glob C "normpath" (.ext 423):=bW (by decide+kernel) ((mg h _).trans (by kernel_rfl))
theorem Hn (h:Is C):V.Glob C "join" (.ext 402):=bW (by decide+kernel) ((mg h _).trans (by kernel_rfl))
theorem z8 (h:Is C):V.Glob C "dirname" (.ext 416):=bW (by decide+kernel) ((mg h _).trans (by kernel_rfl))
theorem A8 (h:Is C):ib C k (cB t hs Z) (λx=>getAttr x "add_header" true) (.loc ⟨t,e0⟩) (λW r=>aw W (.bm 181 ⟨t,e0⟩) r) (cB t hs Z):=
 og h.ok nj mx (by rw [h.K];kernel_rfl) (by rw [h.K];kernel_rfl) (by rw [h.K];kernel_rfl) (λxs n=>by revert xs;exact gA λx0=>by rw [h.K];kernel_rfl)
theorem ND:"by_"++Str.ofString (toString (0:Int))=tJ:=by kernel_rfl
theorem Ol:"by_"++Str.ofString (toString (1:Int))=AB:=by kernel_rfl
noncomputable def own1:Str:="own: 1"
noncomputable def bit (q:Int):Bool:=q.fmod 2 !=0
noncomputable def mh (texts:List Str):List (Str×Option Str):= [tJ,AB].zip (texts.map some)
noncomputable def f6 (q:Int) (texts:List Str):List (Str×Option Str):=mh texts++(if bit (q.fdiv 2)then [(g8,if bit (q.fdiv 4)then some Str.empty else none)]else [])
noncomputable def eB (q:Int):Option Str:=if bit q then some (if bit (q.fdiv 2)then Str.empty else own1)else none
noncomputable def lay (q:Int) (texts:List Str):Str:=hval (eB q) (f6 q texts)
theorem t4 (texts:List Str) (h:texts.length<=2):(mh texts).map (·.1)= []\/(mh texts).map (·.1)= [tJ]\/(mh texts).map (·.1)= [tJ,AB]:=by
 rcases texts with _ | ⟨a,_ | ⟨b,_ | ⟨c,r⟩⟩⟩
 ·exact .inl rfl
 ·exact .inr (.inl rfl)
 ·exact .inr (.inr rfl)
 ·simp at h
theorem oh (q:Int) (texts:List Str) (h:texts.length<=2):keysOk (f6 q texts):=by
 delta f6 keysOk;split<;>rcases t4 texts h with e | e | e<;>rw [fk,e]<;>simp
theorem HC (h: ∀x∈texts,x.length<=100/\x.cps.all nF=true): ∀p∈mh texts,LC p:=by
 intro p hp;obtain⟨a,b⟩:=p;delta mh at hp;have h1:=(tS hp).1;have h2:=(tS hp).2;refine kE (bM.mp h2) λx hx=>?_;have k1: ∀a∈ [tJ,AB],a.length<=20/\a.cps.all nF=true:=by decide+kernel
 exact⟨(k1 a h1).1,(k1 a h1).2,λv e=>by cases e;exact h x hx⟩
theorem vF (h: ∀x∈texts,x.length<=100/\x.cps.all nF=true): ∀p∈f6 q texts,LC p:=by
 intro p hp;delta f6 at hp;refine aP (cm.mp hp) (λz=>?_) λz=>?_
 ·exact HC h p z
 ·split at z
  ·obtain rfl:=i8.mp z;refine⟨by refine(?_:g8.length<=20);decide+kernel,by refine(?_:g8.cps.all nF=true);decide+kernel,λv e=> ?_⟩;split at e
   ·cases e;decide+kernel
   ·exact dC e
  ·exact jc z
theorem NL:(tJ=g8)=False:=eq_false (by decide+kernel)
theorem na1:(AB=g8)=False:=eq_false (by decide+kernel)
theorem AH (texts:List Str) (h:texts.length<=2) (v:Option Str):V.dput (jD (mh texts)) g8 (ov v)=jD (mh texts++ [(g8,v)]):=by
 rcases texts with _ | ⟨a,_ | ⟨b,_ | ⟨c,r⟩⟩⟩
 ·rfl
 ·refine(?_:V.dput [(tJ,ov (some a))] g8 (ov v)= [(tJ,ov (some a)),(g8,ov v)]);delta V.dput;simp only [List.any_cons,List.any_nil,NL,na1,decide_false,Bool.or_false,iP,jG];rfl
 ·refine(?_:V.dput [(tJ,ov (some a)),(AB,ov (some b))] g8 (ov v)= [(tJ,ov (some a)),(AB,ov (some b)),(g8,ov v)]);delta V.dput;simp only [List.any_cons,List.any_nil,NL,na1,decide_false,Bool.or_false,iP,jG];rfl
 ·simp at h
theorem qj (q:Int): ∀y,eB q=some y->KP y:=by
 intro y e;delta eB at e;split at e
 ·obtain rfl:=dI e;split
  ·exact⟨by decide,by decide+kernel⟩
  ·exact⟨by decide+kernel,by decide+kernel⟩
 ·exact dC e
theorem Fc (texts:List Str) (h:bit (q.fdiv 2)=true):f6 q texts=mh texts++ [(g8,if bit (q.fdiv 4)then some Str.empty else none)]:=by delta f6;rw [aG h]
theorem EZ (texts:List Str) (h:bit (q.fdiv 2)=false):f6 q texts=mh texts:=by delta f6;rw [az (by rw [h];decide),iI]
theorem JR (h:L6 C) (wa:KP page) (htx: ∀x∈texts,x.length<=100/\x.cps.all nF=true) (hl:texts.length<=2) (hsz:hs.length<=1000):
  V.Cd C (k+3) (cB t hs Z) (.ext 442) [.loc ⟨t,e0⟩,.str page,.int q,.lst (texts.map .str)] [] .none (cB t (hs++ [(page,lay q texts)]) Z):=by
 have hx0:=h.hx;refine eA h.ok ⟨⟨_,_,_,by rw [h.K];exact rfl⟩,rfl,rfl,rfl,rfl,by rw [h.K];rfl,rfl,rfl,by decide+kernel⟩ [lo "table",lo "page",lo "q",ce "texts",lo "params",lo "own",gi "range",gi "len"] rfl [("table",.loc ⟨t,e0⟩),("page",.str page),("q",.int q),("texts",.lst (texts.map .str))] _
  (bQ (kS λa0 a1 a2 a3=>rfl) rfl) rfl rfl λsc hF n hn=> ?_
 refine tK hF λn0 n1 n2 n3 n4 n5 n6 n7 _=>?_;clear hF;have mt:t+2<n:=by
  refine aP (oZ (t+2) n) (λz=>?_) λz=>?_
  ·exact z
  ·have e:cB t hs Z ⟨t+2,e0⟩=_:=kR;rw [hn ⟨t+2,e0⟩ z]at e;exact dC e
 have em: ∀o:AO,(cB t hs Z).set ⟨n,e0⟩ o=cB t hs (Z.set ⟨n,e0⟩ o):=λo=>fU (.inr mt);have ld: ∀o:AO,cB t hs (Z.set ⟨n,e0⟩ o) ⟨n,e0⟩=some o:=λo=>by rw [<-em];exact V.set_same
 have Nl: ∀kw,qW (cB t hs (Z.set ⟨n,e0⟩ (.dict (jD kw)))) ⟨n,e0⟩ (jD kw):=λkw=> .inl (ld _);have hd1: ∀o:AO,cB t hs (Z.set ⟨n,e0⟩ o) ⟨n+1,e0⟩=none:=λo=>by rw [<-em,aj (by intro z;have:=dM V.Loc.tag z;simp at this)];exact hn _ (ju _)
 have dz: ∀kw,keysOk kw->(jD kw).length<=sizeLine:=λkw hk=>aV (m:=3) (by delta jD;rw [bu];exact hk.len) (by decide);have hks:=oh q texts hl;refine yl (hs':=hs++ [(page,lay q texts)]) (cP:=cB t (hs++ [(page,lay q texts)]) (Z.set ⟨n,e0⟩ (.dict (jD (f6 q texts))))) ?_ ?_
 ·refine aE (ai:= [some (.loc ⟨t,e0⟩),some (.str page),some (.int q),some (.lst (texts.map .str)),some (.loc ⟨n,e0⟩),none,none,none]) (ae:=cB t hs (Z.set ⟨n,e0⟩ (.dict (jD (mh texts))))) ?_ ?_
  ·have Mm: ∀a,(cB t hs (Z.set ⟨n,e0⟩ (.dict []))).set ⟨n,e0⟩ (.dict (V.dput [] tJ (.str a)))=cB t hs (Z.set ⟨n,e0⟩ (.dict (jD (mh [a])))):=λa=>by rw [<-em,V.set_set,em];rfl
   have es1: ∀a b,(cB t hs (Z.set ⟨n,e0⟩ (.dict (jD (mh [a]))))).set ⟨n,e0⟩ (.dict (V.dput (jD (mh [a])) AB (.str b)))=cB t hs (Z.set ⟨n,e0⟩ (.dict (jD (mh [a,b])))):=λa b=>by rw [<-em,V.set_set,em];rfl
   rcases texts with _ | ⟨a,_ | ⟨b,_ | ⟨c,r⟩⟩⟩
   ·refine eZ (link:= [(3,3)]) (cZ:= [none,none,none,some (.lst [])]) (aN:=cB t hs (Z.set ⟨n,e0⟩ (.dict []))) ⟨n,e0⟩ ⟨V.all1 rfl,V.all1 ⟨_,n3,rfl⟩,rfl,by decide+kernel,(aD (ar h.ok n6 (dG h.toIs)) (af (aD (ar h.ok n7 (fC h.toIs)) (af (aL n3 rfl) ao) bp (c5 (.lst _) (aV (m:=2) (by rw [bu];exact hl) (by decide)))) ao) cL cS),(cM (a:=0) (b:=0) (by decide) (by decide) (by decide)),trivial,λu w=>rfl⟩ (hn _ (bT _)) ?_ rfl (λenv=>⟨_,rfl⟩) (λu=>rfl) (λu=>rfl) (ag n4 rfl);rw [em];exact .nil trivial
   ·refine eZ (link:= [(3,3)]) (cZ:= [none,some (.int 0),none,some (.lst [.str a])]) (aN:=cB t hs (Z.set ⟨n,e0⟩ (.dict (jD (mh [a]))))) ⟨n,e0⟩ ⟨V.all1 rfl,V.all1 ⟨_,n3,rfl⟩,rfl,by decide+kernel,(aD (ar h.ok n6 (dG h.toIs)) (af (aD (ar h.ok n7 (fC h.toIs)) (af (aL n3 rfl) ao) bp (c5 (.lst _) (aV (m:=2) (by rw [bu];exact hl) (by decide)))) ao) cL cS),(cM (a:=0) (b:=1) (by decide) (by decide) (by decide)),trivial,λu w=>rfl⟩ (hn _ (bT _)) ?_ rfl (λenv=>⟨_,rfl⟩) (λu=>rfl) (λu=>rfl) (ag n4 rfl);rw [em];refine .take trivial (ag (i:=1) rfl rfl) (.inl ⟨rfl,rfl,rfl⟩) (.emit ?_) (.nil trivial);rw [<-Mm];exact sf (key:=tJ) (by rw [<-ND];exact ay aW (aD (ar h.ok (i:=2) rfl (kG h.toIs)) (af (aa (i:=1) rfl rfl) ao) cL (qI (by decide))) (kI (by decide+kernel))) (aS (aL (i:=3) rfl rfl) (aa (i:=1) rfl rfl) (bk (.lst _)) (bD (.lst _) (by decide) (by decide) rfl)) (.inl (ld _)) pJ (dW _)
   ·refine eZ (link:= [(3,3)]) (cZ:= [none,some (.int 1),none,some (.lst [.str a,.str b])]) (aN:=cB t hs (Z.set ⟨n,e0⟩ (.dict (jD (mh [a,b]))))) ⟨n,e0⟩ ⟨V.all1 rfl,V.all1 ⟨_,n3,rfl⟩,rfl,by decide+kernel,(aD (ar h.ok n6 (dG h.toIs)) (af (aD (ar h.ok n7 (fC h.toIs)) (af (aL n3 rfl) ao) bp (c5 (.lst _) (aV (m:=2) (by rw [bu];exact hl) (by decide)))) ao) cL cS),(cM (a:=0) (b:=2) (by decide) (by decide) (by decide)),trivial,λu w=>rfl⟩ (hn _ (bT _)) ?_ rfl (λenv=>⟨_,rfl⟩) (λu=>rfl) (λu=>rfl) (ag n4 rfl);rw [em];refine .take (b6:= [none,some (.int 0),none,some (.lst [.str a,.str b])]) (bX:=cB t hs (Z.set ⟨n,e0⟩ (.dict (jD (mh [a]))))) trivial (ag (i:=1) rfl rfl) (.inl ⟨rfl,rfl,rfl⟩) (.emit ?_) (.take trivial (ag (i:=1) rfl rfl) (.inl ⟨rfl,rfl,rfl⟩) (.emit ?_) (.nil trivial))
    ·rw [<-Mm];exact sf (key:=tJ) (by rw [<-ND];exact ay aW (aD (ar h.ok (i:=2) rfl (kG h.toIs)) (af (aa (i:=1) rfl rfl) ao) cL (qI (by decide))) (kI (by decide+kernel))) (aS (aL (i:=3) rfl rfl) (aa (i:=1) rfl rfl) (bk (.lst _)) (bD (.lst _) (by decide) (by decide) rfl)) (.inl (ld _)) pJ (dW _)
    ·rw [<-es1];exact sf (key:=AB) (by rw [<-Ol];exact ay aW (aD (ar h.ok (i:=2) rfl (kG h.toIs)) (af (aa (i:=1) rfl rfl) ao) cL (qI (by decide))) (kI (by decide+kernel))) (aS (aL (i:=3) rfl rfl) (aa (i:=1) rfl rfl) (bk (.lst _)) (bD (.lst _) (by decide) (by decide) rfl)) (Nl (mh [a])) (keysOk.dn (kw:=mh [a]) (.inr (.inl rfl))) (aV (m:=3) (show 1<=3 by decide) (by decide))
   ·simp at hl
  ·refine aE (ai:= [some (.loc ⟨t,e0⟩),some (.str page),some (.int q),some (.lst (texts.map .str)),some (.loc ⟨n,e0⟩),some (ov (if bit q then some own1 else none)),none,none]) (ae:=cB t hs (Z.set ⟨n,e0⟩ (.dict (jD (mh texts))))) ?_ ?_
   ·rcases hb:bit q with _ | _
    ·exact(au (b8 (b:=false) (aX (b:=false) (ay (aa n2 rfl) aC (du (by decide) rfl)) (cY hb)) bV) (ag n5 rfl))
    ·exact(au (b8 (b:=true) (aX (b:=true) (ay (aa n2 rfl) aC (du (by decide) rfl)) (cY hb)) aW) (ag n5 rfl))
   ·refine aE (ai:= [some (.loc ⟨t,e0⟩),some (.str page),some (.int q),some (.lst (texts.map .str)),some (.loc ⟨n,e0⟩),some (ov (eB q)),none,none]) (ae:=cB t hs (Z.set ⟨n,e0⟩ (.dict (jD (f6 q texts))))) ?_ ?_
    ·rcases hb:bit (q.fdiv 2)with _ | _
     ·rw [EZ texts hb];have eo:eB q=if bit q then some own1 else none:=by delta eB;rw [hb];rfl
      rw [eo];exact qB (b:=false) (aX (b:=false) (ay (ay (aa n2 rfl) aC (gw (by decide) rfl rfl)) aC (du (by decide) rfl)) (cY hb)) bz
     ·rw [Fc texts hb];have eo:eB q=if bit q then some Str.empty else none:=by delta eB;rw [hb];rfl
      rw [eo];refine qB (b:=true) (aX (b:=true) (ay (ay (aa n2 rfl) aC (gw (by decide) rfl rfl)) aC (du (by decide) rfl)) (cY hb)) (aJ (ai:= [some (.loc ⟨t,e0⟩),some (.str page),some (.int q),some (.lst (texts.map .str)),some (.loc ⟨n,e0⟩),some (ov (if bit q then some own1 else none)),none,none]) (ae:=cB t hs (Z.set ⟨n,e0⟩ (.dict (jD (mh texts++ [(g8,if bit (q.fdiv 4)then some Str.empty else none)]))))) ?_ (aJ (ai:= [some (.loc ⟨t,e0⟩),some (.str page),some (.int q),some (.lst (texts.map .str)),some (.loc ⟨n,e0⟩),some (ov (if bit q then some Str.empty else none)),none,none]) (ae:=cB t hs (Z.set ⟨n,e0⟩ (.dict (jD (mh texts++ [(g8,if bit (q.fdiv 4)then some Str.empty else none)]))))) ?_ bz))
      ·have st: ∀v:Option Str,J3 C (k+2) (cB t hs (Z.set ⟨n,e0⟩ (.dict (jD (mh texts))))) setItem (.loc ⟨n,e0⟩) (.str g8) (ov v) (λu w=>True) (cB t hs (Z.set ⟨n,e0⟩ (.dict (jD (mh texts++ [(g8,v)]))))):=λv=>by have z:=BS (C:=C) (k:=k+2) (key:=g8) (x:=ov v) (Nl (mh texts)) (keysOk.dn (by rcases t4 texts hl with e | e | e<;>delta keysOk<;>simp [e])) (aV (m:=3) (by delta jD;rw [bu];delta mh;rw [List.length_zip];simp;omega) (by decide));rw [AH texts hl,<-em,V.set_set,em,em]at z;exact z
       rcases hb4:bit (q.fdiv 4)with _ | _
       ·exact(au (b8 (b:=false) (aX (b:=false) (ay (ay (aa n2 rfl) aC (gw (by decide) rfl rfl)) aC (du (by decide) rfl)) (cY hb4)) bV) (tD (aa n4 rfl) aW (st none)))
       ·exact(au (b8 (b:=true) (aX (b:=true) (ay (ay (aa n2 rfl) aC (gw (by decide) rfl rfl)) aC (du (by decide) rfl)) (cY hb4)) aW) (tD (aa n4 rfl) aW (st (some Str.empty))))
      ·rcases hb:bit q with _ | _
       ·exact(au (b8 (b:=false) (aX (b:=false) (ay (aa n2 rfl) aC (du (by decide) rfl)) (cY hb)) bV) (ag n5 rfl))
       ·exact(au (b8 (b:=true) (aX (b:=true) (ay (aa n2 rfl) aC (du (by decide) rfl)) (cY hb)) aW) (ag n5 rfl))
    ·exact aE (cv (HX (aa n0 rfl) (A8 h.toIs) (af (aa n1 rfl) (af (aa n5 rfl) ao)) (aa n4 rfl) (Nl _) (hks.dn) (dz _ hks) (C5 h.ok ⟨_,_,_,_,by rw [h.K];exact rfl⟩) (B8 (Ik h (d:=n+1) (hd1 _) wa (qj q) (vF htx) hks hsz)) (λu w=>rfl) (λu=>rfl) (λu=>rfl) (λu=>rfl))) j0
 ·intro l o e;have i1:(cB t hs Z l).isSome=true:=by rw [nV (hs':=hs++ [(page,lay q texts)]),e];rfl
  have e1:l≠⟨n,e0⟩:=λz=>by rw [z,hn _ (bT _)]at i1;exact tQ i1
  rw [<-fU (l:=⟨n,e0⟩) (.inr mt),aj e1];exact e
theorem xq {α:Type} (x:α) (xs:List α):eS (x::xs) none (some 1) none= [x]:=by
 delta eS;have e:sliceBounds none (some 1) none (x::xs).length=(0,1,1):=by delta sliceBounds;simp;omega
 rw [e];rfl
theorem pz {α:Type} (x:α) (xs:List α):eS (x::xs) (some 1) none none=xs:=jt (x::xs) 1 (by simp)
noncomputable def Ef:Str:="by-0=\n"
noncomputable def Jq:Str:="by-1=\n"
noncomputable def nl:Str:="\n"
noncomputable def sp:Str:=" "
noncomputable def gQ:Str:="as-it-is"
theorem Lo:"by-"++Str.ofString (toString (0:Int))++"=\n"=Ef:=by kernel_rfl
theorem MD:"by-"++Str.ofString (toString (1:Int))++"=\n"=Jq:=by kernel_rfl
noncomputable def qE (texts:List Str):List Str:=([Ef,Jq].zip texts).map λp=>p.1++p.2++nl
noncomputable def gd (q:Int):List Str:=if bit q then [if bit (q.fdiv 2)then Str.empty else own1]else []
noncomputable def iO (q:Int) (texts:List Str):List Str:=gd q++qE texts++(if bit (q.fdiv 2)then [gQ]else [])
noncomputable def jL:List Str->List Str
 | []=> [Str.empty]
 | x::r=>x::r.map λp=>sp++p
noncomputable def partsOf (q:Int) (texts:List Str):List Str:=jL (iO q texts)
theorem xK (hl:texts.length<=2):(qE texts).length<=2:=by delta qE;rw [bu,List.length_zip];simp;omega
theorem vI (q:Int):(gd q).length<=1:=by delta gd;split<;>simp
theorem uO (hl:texts.length<=2):(iO q texts).length<=4:=by
 have:=xK hl;have:=vI q;delta iO;rw [cV,cV];split<;>simp<;>omega
theorem Ln (hb: ∀x∈texts,x.length<=100): ∀y∈qE texts,y.length<=120:=by
 intro y hy;delta qE at hy;refine kE (bM.mp hy) λp hp=>?_;obtain⟨a,b⟩:=p;have h1:=(tS hp).1;have h2:V.B b 100:=hb b (tS hp).2;have k1:V.B a 10:=by
  have: ∀a∈ [Ef,Jq],V.B a 10:=by delta V.B;decide+kernel
  exact this a h1
 exact bU (f9 (f9 k1 h2) (iY (x:=nl) rfl):V.B _ (10+100+1)) (by decide)
theorem Ha (hb: ∀x∈texts,x.length<=100): ∀y∈iO q texts,y.length<=120:=by
 intro y hy;unfold iO at hy;refine aP (cm.mp hy) (λhy=>?_) λhy=>?_
 ·refine aP (cm.mp hy) (λhy=>?_) λhy=>?_
  ·unfold gd at hy;split at hy
   ·obtain rfl:=i8.mp hy;split
    ·exact dW _
    ·decide+kernel
   ·exact jc hy
  ·exact Ln hb y hy
 ·split at hy
  ·obtain rfl:=i8.mp hy;decide+kernel
  ·exact jc hy
theorem Ez (h:Is C) (hb: ∀x∈texts,x.length<=100) (hl:texts.length<=2):
  V.Cd C (k+1) Z (.ext 447) [.int q,.lst (texts.map .str)] [] (.lst ((partsOf q texts).map .str)) Z:=by
 have hx0:=h.hx;refine eA h.ok ⟨⟨_,_,_,by rw [h.K];exact rfl⟩,rfl,rfl,rfl,rfl,by rw [h.K];rfl,rfl,rfl,by decide+kernel⟩ [lo "q",ce "texts",lo "parts",gi "range",gi "len"] rfl [("q",.int q),("texts",.lst (texts.map .str))] _
  (bQ (zN λa0 a1=>rfl) rfl) rfl rfl λsc hF n hn=> ?_
 refine Gy hF λn0 n1 n2 n3 n4 _=>?_;clear hF;have hl0:Z ⟨n,e0⟩=none:=hn _ (bT _);have rl:=uO (q:=q) hl;have bl:=xK hl;have ol:=vI q;refine hH (v:= .lst ((partsOf q texts).map .str)) (cP:=Z.set ⟨n,e0⟩ (.list ((iO q texts).map .str))) ?_ ⟨oD (λu w z=>z) hl0,λu z=>z,λu w z=> .inl z,.inl ⟨rfl,km (bo λp=>cc) _⟩⟩;refine aE (ai:= [some (.int q),some (.lst (texts.map .str)),some (.loc ⟨n,e0⟩),none,none]) (ae:=Z.set ⟨n,e0⟩ (.list ((gd q).map .str))) ?_ ?_
 ·rcases hb1:bit q with _ | _
  ·have eo:gd q= []:=by delta gd;rw [hb1];rfl
   rw [eo];exact(au (b8 (b:=false) (aX (b:=false) (ay (aa n0 rfl) aC (du (by decide) rfl)) (cY hb1)) (dU ⟨n,e0⟩ ao (dW _) hl0)) (ag n2 rfl))
  ·have eo:gd q= [if bit (q.fdiv 2)then Str.empty else own1]:=by delta gd;rw [hb1];rfl
   rw [eo];rcases hb2:bit (q.fdiv 2)with _ | _
   ·exact(au (b8 (b:=true) (aX (b:=true) (ay (aa n0 rfl) aC (du (by decide) rfl)) (cY hb1)) (dU ⟨n,e0⟩ (af (b8 (b:=false) (aX (b:=false) (ay (ay (aa n0 rfl) aC (gw (by decide) rfl rfl)) aC (du (by decide) rfl)) (cY hb2)) aW) ao) (by decide) hl0)) (ag n2 rfl))
   ·exact(au (b8 (b:=true) (aX (b:=true) (ay (aa n0 rfl) aC (du (by decide) rfl)) (cY hb1)) (dU ⟨n,e0⟩ (af (b8 (b:=true) (aX (b:=true) (ay (ay (aa n0 rfl) aC (gw (by decide) rfl rfl)) aC (du (by decide) rfl)) (cY hb2)) aW) ao) (by decide) hl0)) (ag n2 rfl))
 refine aE (ai:= [some (.int q),some (.lst (texts.map .str)),some (.loc ⟨n,e0⟩),none,none]) (ae:=Z.set ⟨n,e0⟩ (.list ((gd q++qE texts).map .str))) ?_ ?_
 ·have ia:di C k (Z.set ⟨n,e0⟩ (.list ((gd q).map .str))) (inplaceOp .Add) (.loc ⟨n,e0⟩) (.lst ((qE texts).map .str)) (λW r=>aw W (.loc ⟨n,e0⟩) r) (Z.set ⟨n,e0⟩ (.list ((gd q++qE texts).map .str))):=by have z:=Dl (C:=C) (k:=k) (v:= .lst ((qE texts).map .str)) (l:=⟨n,e0⟩) (V.set_same (Z:=Z) (o:= .list ((gd q).map .str))) (.lst _) (by rw [bu,bu];omega) (by intro z;cases z);rw [V.set_set,<-fk]at z;exact z
  rcases texts with _ | ⟨a,_ | ⟨b,_ | ⟨c,r⟩⟩⟩
  ·refine k9 n2 rfl (cp (out:=(qE []).map .str) (link:= [(1,3)]) (cZ:= [none,none,none,some (.lst [])]) ⟨V.all1 rfl,V.all1 ⟨_,n1,rfl⟩,rfl,by decide+kernel,(aD (ar h.ok n3 (dG h)) (af (aD (ar h.ok n4 (fC h)) (af (aL n1 rfl) ao) bp (c5 (.lst _) (aV (m:=2) (by rw [bu];exact hl) (by decide)))) ao) cL cS),(cM (a:=0) (b:=0) (by decide) (by decide) (by decide)),trivial,λu w=>rfl⟩ (λla hla=> ?_) rfl (bo (f:=AV.str) (λx=>cc))) ia rfl;exact .nil trivial
  ·refine k9 n2 rfl (cp (out:=(qE [a]).map .str) (link:= [(1,3)]) (cZ:= [none,some (.int 0),none,some (.lst [.str a])]) ⟨V.all1 rfl,V.all1 ⟨_,n1,rfl⟩,rfl,by decide+kernel,(aD (ar h.ok n3 (dG h)) (af (aD (ar h.ok n4 (fC h)) (af (aL n1 rfl) ao) bp (c5 (.lst _) (aV (m:=2) (by rw [bu];exact hl) (by decide)))) ao) cL cS),(cM (a:=0) (b:=1) (by decide) (by decide) (by decide)),trivial,λu w=>rfl⟩ (λla hla=> ?_) rfl (bo (f:=AV.str) (λx=>cc))) ia rfl;have Mm:((Z.set ⟨n,e0⟩ (.list ((gd q).map .str))).set la (.list [])).set la (.list ([]++ [.str (Ef++a++nl)]))=(Z.set ⟨n,e0⟩ (.list ((gd q).map .str))).set la (.list ((qE [a]).map .str)):=V.set_set;rw [<-Mm];exact .take trivial (ag (i:=1) rfl rfl) (.inl ⟨rfl,rfl,rfl⟩) (.emit (nE (v:= .str (Ef++a++nl)) (by rw [<-Lo];exact ay (ay (ay (ay aW (aD (ar h.ok (i:=2) rfl (kG h)) (af (aa (i:=1) rfl rfl) ao) cL (qI (by decide))) (kI (by decide+kernel))) aW (kI (by decide+kernel))) (aS (aL (i:=3) rfl rfl) (aa (i:=1) rfl rfl) (bk (.lst _)) (bD (.lst _) (by decide) (by decide) rfl)) (dB (a:=10) (b:=100) (by delta V.B;decide+kernel) (hb _ (by simp)) (by decide))) aW (dB (a:=110) (b:=1) (f9 (a:=10) (b:=100) (by delta V.B;decide+kernel) (hb _ (by simp))) (iY rfl) (by decide))) V.set_same (by decide))) (.nil trivial)
  ·refine k9 n2 rfl (cp (out:=(qE [a,b]).map .str) (link:= [(1,3)]) (cZ:= [none,some (.int 1),none,some (.lst [.str a,.str b])]) ⟨V.all1 rfl,V.all1 ⟨_,n1,rfl⟩,rfl,by decide+kernel,(aD (ar h.ok n3 (dG h)) (af (aD (ar h.ok n4 (fC h)) (af (aL n1 rfl) ao) bp (c5 (.lst _) (aV (m:=2) (by rw [bu];exact hl) (by decide)))) ao) cL cS),(cM (a:=0) (b:=2) (by decide) (by decide) (by decide)),trivial,λu w=>rfl⟩ (λla hla=> ?_) rfl (bo (f:=AV.str) (λx=>cc))) ia rfl;have es1:(((Z.set ⟨n,e0⟩ (.list ((gd q).map .str))).set la (.list [])).set la (.list ([]++ [.str (Ef++a++nl)]))).set la (.list (([]++ [.str (Ef++a++nl)])++ [.str (Jq++b++nl)]))=(Z.set ⟨n,e0⟩ (.list ((gd q).map .str))).set la (.list ((qE [a,b]).map .str)):=by rw [V.set_set,V.set_set];rfl
   rw [<-es1];exact .take (b6:= [none,some (.int 0),none,some (.lst [.str a,.str b])]) trivial (ag (i:=1) rfl rfl) (.inl ⟨rfl,rfl,rfl⟩) (.emit (nE (v:= .str (Ef++a++nl)) (by rw [<-Lo];exact ay (ay (ay (ay aW (aD (ar h.ok (i:=2) rfl (kG h)) (af (aa (i:=1) rfl rfl) ao) cL (qI (by decide))) (kI (by decide+kernel))) aW (kI (by decide+kernel))) (aS (aL (i:=3) rfl rfl) (aa (i:=1) rfl rfl) (bk (.lst _)) (bD (.lst _) (by decide) (by decide) rfl)) (dB (a:=10) (b:=100) (by delta V.B;decide+kernel) (hb _ (by simp)) (by decide))) aW (dB (a:=110) (b:=1) (f9 (a:=10) (b:=100) (by delta V.B;decide+kernel) (hb _ (by simp))) (iY rfl) (by decide))) V.set_same (by decide))) (.take trivial (ag (i:=1) rfl rfl) (.inl ⟨rfl,rfl,rfl⟩) (.emit (nE (v:= .str (Jq++b++nl)) (by rw [<-MD];exact ay (ay (ay (ay aW (aD (ar h.ok (i:=2) rfl (kG h)) (af (aa (i:=1) rfl rfl) ao) cL (qI (by decide))) (kI (by decide+kernel))) aW (kI (by decide+kernel))) (aS (aL (i:=3) rfl rfl) (aa (i:=1) rfl rfl) (bk (.lst _)) (bD (.lst _) (by decide) (by decide) rfl)) (dB (a:=10) (b:=100) (by delta V.B;decide+kernel) (hb _ (by simp)) (by decide))) aW (dB (a:=110) (b:=1) (f9 (a:=10) (b:=100) (by delta V.B;decide+kernel) (hb _ (by simp))) (iY rfl) (by decide))) V.set_same (show([]++ [AV.str (Ef++a++nl)]).length<=sizeLine from aV (m:=1) (bT _) (by decide)))) (.nil trivial))
  ·simp at hl
 refine aE (ai:= [some (.int q),some (.lst (texts.map .str)),some (.loc ⟨n,e0⟩),none,none]) (ae:=Z.set ⟨n,e0⟩ (.list ((iO q texts).map .str))) ?_ ?_
 ·rcases hb2:bit (q.fdiv 2)with _ | _
  ·have eo:iO q texts=gd q++qE texts:=by delta iO;rw [hb2];exact iI _
   rw [eo];exact qB (b:=false) (aX (b:=false) (ay (ay (aa n0 rfl) aC (gw (by decide) rfl rfl)) aC (du (by decide) rfl)) (cY hb2)) bz
  ·have eo:iO q texts=(gd q++qE texts)++ [gQ]:=by delta iO;rw [hb2];rfl
   rw [eo,fk (l₁:=gd q++qE texts)];exact qB (b:=true) (aX (b:=true) (ay (ay (aa n0 rfl) aC (gw (by decide) rfl rfl)) aC (du (by decide) rfl)) (cY hb2)) (aJ (cv (aM (aa n2 rfl) iS (af aW ao) bp (iT (aV (m:=3) (by rw [bu,cV];omega) (by decide))))) bz)
 have lz:((iO q texts).map AV.str).length<=sizeLine:=aV (m:=4) (by rw [bu];exact rl) (by decide);have rb:=Ha (q:=q) hb
 revert rl lz rb
 delta partsOf;generalize iO q texts=R;intro rl lz rb;rcases R with _ | ⟨x,r⟩
 ·exact bP (b8 (b:=false) (aX (b:=false) (aa n2 rfl) (fG (.loc V.set_same) lz rfl)) (gX (af aW ao) (dX rfl)))
 ·have Ml:eS ((x::r).map AV.str) none (some 1) none= [.str x]:=xq _ _;have sl2:eS ((x::r).map AV.str) (some 1) none none=r.map .str:=pz _ _;have zl: [AV.str x].length+(r.map λp=>AV.str (sp++p)).length<=sizeLine:=aV (m:=4) (by rw [bu];simp only [cq,ic]at rl⊢;omega) (by decide);have er:(jL (x::r)).map AV.str= [AV.str x]++r.map λp=>AV.str (sp++p):=by delta jL;rw [dj,dP];rfl
  rw [er];refine bP (b8 (b:=true) (aX (b:=true) (aa n2 rfl) (fG (.loc V.set_same) lz rfl)) (ay (aS (aa n2 rfl) (bJ bc (bH aC) bc) (bk (.loc V.set_same)) (fb (.loc V.set_same) .none (fA.int _) .none (by decide) lz Ml)) (cp (out:=r.map λp=>AV.str (sp++p)) (link:= []) (cZ:= [none,(eF r).map .str]) ⟨V.all1 rfl,wc,rfl,by decide+kernel,(aS (aa n2 rfl) (bJ (bH aC) bc bc) (bk (.loc V.set_same)) (fb (.loc V.set_same) (fA.int _) .none .none (by decide) lz sl2)),i9,.lst _,λu w=>rfl⟩ (λla hla=> ?_) rfl (bo (λx=>cc))) (vt (.lst _) (.lst _) zl)));exact hU (enc:=AV.str) (val:=λp=>AV.str (sp++p)) (M:=λo=> [none,o.map AV.str]) (Sg:=λout=>(Z.set ⟨n,e0⟩ (.list ((x::r).map .str))).set la (.list out)) (by simp only [cq]at rl;omega) (λu=> .lst _) (λu=>V.set_same) (λu w=>V.set_set) rfl (λo y out hy=>ag (i:=1) rfl rfl)
   (λy out hy=>ay aW (aa (i:=1) rfl rfl) (dB (a:=1) (b:=120) (iY rfl) (rb y (.tail _ hy)) (by decide)))
theorem A4 (h:V.Tv C k sc ms Z x b aK aB):Eh C k sc ms Z .And [x] b aK aB:=by
 cases b with
 | false=>exact b7 h
 | true=>exact ck h fZ
noncomputable def tri (n:Nat) (a r e:List AV) (Z:V.St):V.St:=λl=>
 if l=⟨n,e0⟩then some (.list a)else if l=⟨n+1,e0⟩then some (.list r)else if l=⟨n+2,e0⟩then some (.list e)else Z l
section
variable {n:Nat} {a r e x:List AV} {Z:V.St}
theorem KI:(⟨n+1,e0⟩:V.Loc)≠⟨n,e0⟩:=λz=>by have:=dM V.Loc.tag z;simp at this
theorem L5:(⟨n+2,e0⟩:V.Loc)≠⟨n,e0⟩:=λz=>by have:=dM V.Loc.tag z;simp at this
theorem L3:(⟨n+2,e0⟩:V.Loc)≠⟨n+1,e0⟩:=λz=>by have:=dM V.Loc.tag z;simp at this
theorem xu:tri n a r e Z ⟨n,e0⟩=some (.list a):=aG rfl
theorem Hw:tri n a r e Z ⟨n+1,e0⟩=some (.list r):=by delta tri;rw [az KI,aG rfl]
theorem Hb:tri n a r e Z ⟨n+2,e0⟩=some (.list e):=by delta tri;rw [az L5,az L3,aG rfl]
theorem Li:(tri n a r e Z).set ⟨n,e0⟩ (.list x)=tri n x r e Z:=by
 funext l;delta V.St.set tri;by_cases h:l=⟨n,e0⟩
 ·rw [aG h,aG h]
 ·rw [az h,az h,az h]
theorem LB:(tri n a r e Z).set ⟨n+1,e0⟩ (.list x)=tri n a x e Z:=by
 funext l;delta V.St.set tri;by_cases h:l=⟨n+1,e0⟩
 ·subst h;rw [aG rfl,az KI,aG rfl]
 ·rw [az h,az h,az h]
theorem J6:(tri n a r e Z).set ⟨n+2,e0⟩ (.list x)=tri n a r x Z:=by
 funext l;delta V.St.set tri;by_cases h:l=⟨n+2,e0⟩
 ·subst h;rw [aG rfl,az L5,az L3,aG rfl]
 ·rw [az h,az h,az h]
theorem Fq:((Z.set ⟨n,e0⟩ (.list [])).set ⟨n+1,e0⟩ (.list [])).set ⟨n+2,e0⟩ (.list [])=tri n [] [] [] Z:=by
 funext l;delta V.St.set tri;by_cases h:l=⟨n,e0⟩
 ·subst h;rw [az L5.symm,az KI.symm,aG rfl,aG rfl]
 ·by_cases h1:l=⟨n+1,e0⟩
  ·subst h1;rw [az L3.symm,aG rfl,az KI,aG rfl]
  ·by_cases h2:l=⟨n+2,e0⟩
   ·rw [aG h2,az h,az h1,aG h2]
   ·rw [az h2,az h1,az h,az h,az h1,az h2]
theorem FN (h0:l≠⟨n,e0⟩) (h1:l≠⟨n+1,e0⟩) (h2:l≠⟨n+2,e0⟩):tri n a r e Z l=Z l:=by delta tri;rw [az h0,az h1,az h2]
end
noncomputable def fw (N:List Int) (j:Int):List Int:=if N.any (· ==j)then N else N++ [j]
noncomputable def dc (ord:List Int) (nd:Int->List Int):List Int:=ord.foldl (λN k=>([k]++nd k).foldl fw N) []
noncomputable def cC (st:Int) (g:List Int):List Int:=if st=1 then g else g.reverse
theorem Ct {st:Int} (hst:st=1\/st= -1) (g:List Int):eS (g.map AV.int) none none (some st)=(cC st g).map .int:=by
 delta cC;refine aP hst (λz=>?_) λq=>?_
 ·subst z;rw [aG rfl,Ac]
 ·subst q;rw [az (by decide),zq,List.map_reverse]
theorem eR {st:Int} {g:List Int}:(cC st g).length=g.length:=by delta cC;split<;>simp
noncomputable def met (nd:Int->List Int) (E:List Int) (k:Int):Bool:=((nd k).filter λi=> !(E.any (· ==i))).isEmpty
noncomputable def mD (st:Int) (ord:List Int) (nd:Int->List Int) (E g:List Int):List Int:=(cC st g).flatMap λj=>ord.filter λk=>(nd k).any (· ==j) && met nd E k
noncomputable def gk:List Int->List Int
 | []=> []
 | x::r=>if r.any (· ==x)then gk r else x::gk r
inductive sE (st:Int) (ord:List Int) (nd:Int->List Int):List Int->List Int->List (List Int)->Prop
 | nil {E:List Int}:sE st ord nd E [] []
 | cons {E g:List Int} {rs:List (List Int)} (h:g≠ []) (hz:g.length<=1000) (hE:E.length<=1000) (r:sE st ord nd (E++g) (gk (mD st ord nd (E++g) g)) rs):sE st ord nd E g (g::rs)
noncomputable def Iz (nd:Int->List Int) (N:List Int):List Int:=N.filter λk=>(nd k).isEmpty
noncomputable def ix (n:Nat):List Int:=(List.range n).map λ(i:Nat)=>(i:Int)
theorem xN (n:Nat):sM 0 n=(ix n).map .int:=by delta sM ix;rw [dP,Int.sub_zero,vH];exact p5 λi u=>dM AV.int (Int.zero_add _)
theorem GZ (D:List Int):((ix D.length).filter λi=> !((D.drop (i.toNat+1)).any (· ==D[i.toNat]?.getD 0))).map (λi=>D[i.toNat]?.getD 0)=gk D:=by
 induction D with
 | nil=>simp [ix,gk]
 | cons x D ih=>
  have e:ix (x::D).length=0::(ix D.length).map (λi=>i+1):=by delta ix;rw [cq,List.range_succ_eq_map,dj,dP,dP];rfl
  have h0: ∀i∈ix D.length,0<=i:=λi hi=>by delta ix at hi;refine kE (bM.mp hi) λj _=>?_;exact Int.natCast_nonneg j
  have N3: ∀i∈ix D.length,(i+1).toNat=i.toNat+1:=λi hi=>by have:=h0 i hi;omega
  rw [e,pP,List.filter_map];have f:(ix D.length).filter ((λi=> !(((x::D).drop (i.toNat+1)).any (· ==(x::D)[i.toNat]?.getD 0))) ∘ λi=>i+1)=(ix D.length).filter λi=> !((D.drop (i.toNat+1)).any (· ==D[i.toNat]?.getD 0)):=by apply zC;intro i hi;refine(?_:(!(((x::D).drop ((i+1).toNat+1)).any (· ==(x::D)[(i+1).toNat]?.getD 0)))=_);rw [N3 i hi];rfl
  have g: ∀l:List Int,(∀i∈l,i∈ix D.length)->(l.map λi=>i+1).map (λi=>(x::D)[i.toNat]?.getD 0)=l.map λi=>D[i.toNat]?.getD 0:=λl hl=>by rw [dP];apply p5;intro i hi;refine(?_:(x::D)[(i+1).toNat]?.getD 0=_);rw [N3 i (hl i hi)];rfl
  have z:(!(((x::D).drop ((0:Int).toNat+1)).any (· ==(x::D)[(0:Int).toNat]?.getD 0)))= !(D.any (· ==x)):=rfl;rw [z,f];unfold gk;cases D.any (· ==x)
  ·rw [aG (by rfl),az (by decide),dj,g _ (λi hi=>(kO.mp hi).1),ih];rfl
  ·rw [az (by decide),aG rfl,g _ (λi hi=>(kO.mp hi).1),ih]
theorem pX {st:Int} {ord:List Int} {nd:Int->List Int} {C:V.Cx} {k:Nat} {sc:Scope} {te:Expr} {bd:List Stmt} {M:List Int->Option AV->List (Option AV)} {S:List (List Int)->List Int->V.St}
  (I4: ∀acc E d,V.Tv C k sc (M [] d) (S acc E) te false (M [] d) (S acc E))
  (Eb: ∀acc E g d,g≠ []->g.length<=1000->V.Tv C k sc (M g d) (S acc E) te true (M g d) (S acc E))
  (Nm: ∀acc E g d,acc.length<=1000->g.length<=1000->E.length<=1000->V.Ex C k sc (M g d) (S acc E) bd .next (M (gk (mD st ord nd (E++g) g)) (some (.lst ((mD st ord nd (E++g) g).map .int)))) (S (acc++ [g]) (E++g))):
  ∀{E g:List Int} {rs:List (List Int)} (acc:List (List Int)) (d:Option AV),sE st ord nd E g rs->acc.length+rs.length<=1000-> ∃d',V.Wr C k sc te bd [] (M g d) (S acc E) .next (M [] d') (S (acc++rs) (E++rs.flatten)):=by
 intro E g rs acc d R
 induction R generalizing acc d with
 | nil=>intro u;rw [iI,List.flatten_nil,iI];exact⟨_,.out (I4 acc _ d) bz⟩
 | @cons E g rs h hz hE r ih=>intro hl;simp only [cq]at hl;refine cG (ih (acc++ [g]) (some (.lst ((mD st ord nd (E++g) g).map .int))) (by rw [cV];simp only [cq,ic];omega)) λd' w=>?_;rw [eX,eX,<-List.flatten_cons]at w;exact⟨d',.turn (Eb acc E g d h hz) (Nm acc E g d (by omega) hz hE) (.inl rfl) w⟩
theorem Aq {st:Int} {ord:List Int} {nd:Int->List Int} {C:V.Cx} {k:Nat} {sc:Scope} {te:Expr} {bd rest:List Stmt} {pos:Pos} {f:V.AF} {aB:V.St} {M:List Int->Option AV->List (Option AV)} {S:List (List Int)->List Int->V.St} {g:List Int} {rs:List (List Int)} {d:Option AV}
  (R:sE st ord nd [] g rs) (hz:rs.length<=1000)
  (I4: ∀acc E d,V.Tv C k sc (M [] d) (S acc E) te false (M [] d) (S acc E))
  (Eb: ∀acc E g d,g≠ []->g.length<=1000->V.Tv C k sc (M g d) (S acc E) te true (M g d) (S acc E))
  (Nm: ∀acc E g d,acc.length<=1000->g.length<=1000->E.length<=1000->V.Ex C k sc (M g d) (S acc E) bd .next (M (gk (mD st ord nd (E++g) g)) (some (.lst ((mD st ord nd (E++g) g).map .int)))) (S (acc++ [g]) (E++g)))
  (hr: ∀d',V.Go C k sc (M [] d') (S rs rs.flatten) rest f aB):V.Go C k sc (M g d) (S [] []) (.While te bd [] pos::rest) f aB:=by
 refine cG (pX I4 Eb Nm [] d R (by simpa using hz)) λd' w=>aE (jY w) (hr d')
noncomputable def dH (nd:Int->List Int):AV:= .lst (bq.map λk=> .lst ((nd k).map .int))
noncomputable def xy (a:List Int×Option Int) (j:Int):List Int×Option Int:=(fw a.1 j,some j)
noncomputable def ug (nd:Int->List Int) (a:List Int×Option Int×Option Int) (k:Int):List Int×Option Int×Option Int:=((([k]++nd k).foldl xy (a.1,a.2.2)).1,some k,(([k]++nd k).foldl xy (a.1,a.2.2)).2)
theorem DV: ∀(xs:List Int) (a:List Int×Option Int),(xs.foldl xy a).1=xs.foldl fw a.1:=by
 intro aH;induction aH with
 | nil=>intro u;exact rfl
 | cons x xs ih=>intro a;exact ih (xy a x)
theorem Ff (nd:Int->List Int): ∀(xs:List Int) (a:List Int×Option Int×Option Int),(xs.foldl (ug nd) a).1=xs.foldl (λN k=>([k]++nd k).foldl fw N) a.1:=by
 intro aH;induction aH with
 | nil=>intro u;exact rfl
 | cons x xs ih=>
  intro a;rw [cX,ih,cX]
  congr 1
  exact DV _ _
theorem vg (N:List Int) (j:Int):(fw N j).length<=N.length+1:=by delta fw;split<;>simp
theorem xT: ∀(xs:List Int) (N:List Int),(xs.foldl fw N).length<=N.length+xs.length:=by
 intro aH;induction aH with
 | nil=>intro u;exact bT _
 | cons x xs ih=>intro N;have:=ih (fw N x);have:=vg N x;rw [cX,cq];omega
theorem Ap {nd:Int->List Int} (h: ∀k,(nd k).length<=2): ∀(xs:List Int) (N:List Int),(xs.foldl (λN k=>([k]++nd k).foldl fw N) N).length<=N.length+3 * xs.length:=by
 intro aH;induction aH with
 | nil=>intro u;exact bT _
 | cons x xs ih=>intro N;have h1:=ih (([x]++nd x).foldl fw N);have h2:=xT ([x]++nd x) N;have h3:=h x;simp only [cV,cq,ic]at h2;rw [cX,cq];omega
theorem JF {C:V.Cx} {k:Nat} {sc:Scope} {la:V.Loc} {e:Expr} {ok:V.St->Prop} {g:Comprehension} {gs:List Comprehension} {xs:List AV} {m0 m1:List (Option AV)} {s0:V.St} {Sg:List AV->V.St} {o o':List AV} (h:o=o') (z:V.CL C k sc la e ok g gs xs m0 s0 m1 (Sg o)):V.CL C k sc la e ok g gs xs m0 s0 m1 (Sg o'):=h▸z
theorem CR {C:V.Cx} (h:Is C) {k:Nat} {Z:V.St} {ord:List Int} {nd:Int->List Int} {st:Int} {rs:List (List Int)} (hord: ∀x∈ord,x∈bq) (hol:ord.length<=10) (hnd: ∀k,(nd k).length<=2) (hnk: ∀x∈dc ord nd,x∈bq) (hst:st=1\/st= -1) (hR:sE st ord nd [] (Iz nd (dc ord nd)) rs) (hrs:rs.length<=1000):
  V.Cd C (k+1) Z (.ext 464) [.lst (ord.map .int),dH nd,.int st] [] (.lst (rs.map λg=> .lst (g.map .int))) Z:=by
 have hx0:=h.hx;refine eA h.ok ⟨⟨_,_,_,by rw [h.K];exact rfl⟩,rfl,rfl,rfl,rfl,by rw [h.K];rfl,rfl,rfl,by decide+kernel⟩ [ce "order",ce "needs",lo "step",lo "named",lo "rounds",ce "ended",lo "k",lo "j",lo "group",ce "due",gi "range",gi "len"] rfl [("order",.lst (ord.map .int)),("needs",dH nd),("step",.int st)] _
  (bQ (FH λa0 a1 a2=>rfl) rfl) rfl rfl λsc hF n hn=> ?_
 refine tK hF λn0 n1 n2 n3 n4 n5 n6 n7 q0=>ud q0 λn8 n9 n10 AA _=>?_;clear hF;have hl0:Z ⟨n,e0⟩=none:=hn _ (bT _);have hl1:(Z.set ⟨n,e0⟩ (.list [])) ⟨n+1,e0⟩=none:=by rw [aj KI];exact hn _ (ju _)
 have hl2:((Z.set ⟨n,e0⟩ (.list [])).set ⟨n+1,e0⟩ (.list [])) ⟨n+2,e0⟩=none:=by rw [aj L3,aj L5];exact hn _ (gO n 2)
 obtain⟨kz,hkz⟩: ∃kz,kz=(ord.foldl (ug nd) ([],none,none)).2.1:=⟨_,rfl⟩;obtain⟨jz,Pe⟩: ∃jz,jz=(ord.foldl (ug nd) ([],none,none)).2.2:=⟨_,rfl⟩;have nm:(ord.foldl (ug nd) ([],none,none)).1=dc ord nd:=Ff nd ord _;have PD:(dc ord nd).length<=100:=by have:=Ap hnd ord [];delta dc;simp only [ic]at this;omega
 refine hH (v:= .lst (rs.map λg=> .lst (g.map .int))) (cP:=(tri n ((dc ord nd).map .int) ((rs).map λg:List Int=>AV.lst (g.map .int)) ((rs.flatten).map .int) Z)) ?_ ⟨λl o z=> ?_,λu z=>z,λu w z=> .inl z,.inr (.inl ⟨⟨n+1,e0⟩,_,rfl,rfl,Hw,hn _ (ju _),bo (λg=>km (bo (λx=>fK))) _⟩)⟩;rotate_left
 ·rw [FN (λq=>by rw [q,hl0]at z;exact dC z) (λq=>by rw [q,hn _ (ju _)]at z;exact dC z) (λq=>by rw [q,hn _ (gO n 2)]at z;exact dC z)];exact z
 refine aE (ai:= [some (.lst (ord.map .int)),some (dH nd),some (.int st),some (.loc ⟨n,e0⟩),some (.loc ⟨n+1,e0⟩),some (.loc ⟨n+2,e0⟩),none,none,none,none,none,none]) (ae:=tri n [] [] [] Z) ?_ ?_
 ·rw [<-Fq];exact oH (cU (af (dU ⟨n,e0⟩ ao (dW _) hl0) (af (dU ⟨n+1,e0⟩ ao (dW _) hl1) (af (dU ⟨n+2,e0⟩ ao (dW _) hl2) ao))) (dX rfl)) (i0 (cE (ag n3 rfl) (cE (ag n4 rfl) (cE (dm n5 rfl) kq))) rfl (λu=>rfl) (λu=>rfl) hx0) (λu=>rfl) (λenv hk hb=>wX (by rw [hk 5 "ended" .cell n5];rfl) hb rfl) (λu=>rfl)
 refine iH (aL n0 rfl) dF trivial (KL (C:=C) (k:=k) (sc:=sc) (ok:=λu=>True) (enc:=AV.int)
    (M:=λ(a:List Int×Option Int×Option Int)=> [some (.lst (ord.map .int)),some (dH nd),some (.int st),some (.loc ⟨n,e0⟩),some (.loc ⟨n+1,e0⟩),some (.loc ⟨n+2,e0⟩),a.2.1.map .int,a.2.2.map .int,none,none,none,none])
    (Sg:=λa=>(tri n ((a.1).map .int) (([]).map λg:List Int=>AV.lst (g.map .int)) (([]).map .int) Z)) (step:=ug nd) (P:=λa xs=>a.1.length+3 * xs.length<=1000/\ ∀x∈xs,x∈bq)
    (λu w t=>trivial) (λa x xs hP=>⟨by
     have h1:=hP.1;have h2:=xT ([x]++nd x) a.1;have h3:=hnd x;simp only [cV,cq,ic]at h1 h2;refine(?_:(([x]++nd x).foldl xy (a.1,a.2.2)).1.length+_<=_);rw [DV];refine(?_:(([x]++nd x).foldl fw a.1).length+_<=_);simp only [List.cons_append,kQ]at h2⊢;omega,λy hy=>hP.2 y (.tail _ hy)⟩) ?_ ord ([],none,none) ⟨by refine(?_:0+3 * ord.length<=1000);omega,hord⟩ (z:=(dc ord nd,kz,jz)) (Prod.ext nm (Prod.ext hkz.symm Pe.symm))) (λu w=>rfl) ?_
 ·rintro ⟨N,ko,jo⟩ x xs ⟨hl,hP⟩
  have hx:=hP x (.head _);have hl:N.length+3 * (xs.length+1)<=1000:=hl;have h2:=hnd x;refine cx (ag n6 rfl) ?_;have GX:=λ(tgt:Expr) (body:List Stmt) hturn=>iF (C:=C) (k:=k) (sc:=sc) (ok:=λu=>True) (tgt:=tgt) (body:=body) (enc:=AV.int)
   (M:=λ(a:List Int×Option Int)=> [some (.lst (ord.map .int)),some (dH nd),some (.int st),some (.loc ⟨n,e0⟩),some (.loc ⟨n+1,e0⟩),some (.loc ⟨n+2,e0⟩),some (.int x),a.2.map .int,none,none,none,none])
   (Sg:=λa=>(tri n ((a.1).map .int) (([]).map λg:List Int=>AV.lst (g.map .int)) (([]).map .int) Z)) (step:=xy) (P:=λa xs=>a.1.length+xs.length<=1000)
   (λu w t=>trivial) (λa j xs hP=>by have:=vg a.1 j;simp only [cq]at hP;refine(?_:(fw a.1 j).length+_<=_);omega) hturn ([x]++nd x) (N,jo) (by simp only [cV,cq,ic];omega)
  rw [fk]at GX;refine aJ (jv (ay (gX (af (aa n6 rfl) ao) (dX rfl)) (aS (aL n1 rfl) (aa n6 rfl) (bk (.lst _)) (bD (x:= .lst ((nd x).map .int)) (.lst _) (bE _ hx).1 (bE _ hx).2 (l9 _ hx))) (vt (.lst _) (.lst _) (aV (m:=3) (by rw [bu];simp only [cq,ic];omega) (by decide)))) dF trivial (GX _ _ ?_) (λu w=>rfl)) bz
  rintro ⟨N,jo⟩ j ys hP
  have hP:N.length+(ys.length+1)<=1000:=hP;refine cx (ag n7 rfl) ?_;delta xy fw;rcases hj:N.any (· ==j)with _ | _
  ·rw [az dN];refine dy (aq (c:=true) (aa n7 rfl) (aa n3 rfl) (iy (.loc xu) (by rw [hj];rfl)) rfl) ?_;dsimp only;have z:=dJ (C:=C) (k:=k) (x:= .int j) (xu (n:=n) (a:=N.map .int) (r:=([]:List (List Int)).map λg=>AV.lst (g.map .int)) (e:=([]:List Int).map .int) (Z:=Z)) (aV (m:=1000) (by rw [bu];omega) (by decide));rw [Li,show N.map AV.int++ [.int j]=(N++ [j]).map .int by rw [fk];rfl]at z;exact aJ (cv (aM (aa n3 rfl) (eg xu) (af (aa n7 rfl) ao) bp z)) bz
  ·rw [aG rfl];exact cg (aq (c:=false) (aa n7 rfl) (aa n3 rfl) (iy (.loc xu) (by rw [hj];rfl)) rfl) bz
 refine aE (bZ (link:= [(1,2)]) (out:=(Iz nd (dc ord nd)).map .int) (cZ:= [none,(eF (dc ord nd)).map .int,some (dH nd)]) ⟨V.all1 rfl,V.all1 ⟨_,n1,rfl⟩,rfl,by decide+kernel,(aa n3 rfl),i9,.loc xu,λu w=>rfl⟩ (λla hla=> ?_) rfl (bo (f:=AV.int) (λx=>fK)) (λenv=>⟨_,rfl⟩) (λu=>rfl) (λu=>rfl) (ag n8 rfl)) ?_
 ·have Pf:la≠⟨n,e0⟩:=λz=>by rw [z,xu]at hla;exact rZ hla
  refine fI (enc:=AV.int) (val:=AV.int) (p:=λk=>(nd k).isEmpty) (M:=λo=> [none,o.map .int,some (dH nd)]) (Sg:=λout=>(tri n ((dc ord nd).map .int) (([]).map λg:List Int=>AV.lst (g.map .int)) (([]).map .int) Z).set la (.list out)) (by omega) (λu=> .loc (by rw [aj Pf.symm];exact xu)) (λu=>V.set_same) (λu w=>V.set_set) rfl (λo y out hy=>ag (i:=1) rfl rfl) (λy out hy=> ?_) (λy out hy u=>aa (i:=1) rfl rfl);have vY:y∈bq:=hnk y hy;have e:(nd y).isEmpty= !(!((nd y).map AV.int).isEmpty):=by cases nd y<;>rfl
  rw [e];exact d7 (aX (aS (aL (i:=2) rfl rfl) (aa (i:=1) rfl rfl) (bk (.lst _)) (bD (x:= .lst ((nd y).map .int)) (.lst _) (bE _ vY).1 (bE _ vY).2 (l9 _ vY))) (fG (.lst _) (aV (m:=2) (by rw [bu];exact hnd y) (by decide)) rfl))
 refine Aq (M:=λg d=> [some (.lst (ord.map .int)),some (dH nd),some (.int st),some (.loc ⟨n,e0⟩),some (.loc ⟨n+1,e0⟩),some (.loc ⟨n+2,e0⟩),kz.map .int,jz.map .int,some (.lst (g.map .int)),d,none,none]) (S:=λacc E=>(tri n ((dc ord nd).map .int) ((acc).map λg:List Int=>AV.lst (g.map .int)) ((E).map .int) Z)) hR hrs (λacc E d=> ?_) (λacc E g d hg Nn=> ?_) (λacc E g d ha Nn hE=> ?_) (λd'=>bP (aa n4 rfl))
 ·exact aX (b:=false) (aa n8 rfl) (fG (.lst _) (dW _) rfl)
 ·exact aX (b:=true) (aa n8 rfl) (fG (.lst _) (aV (m:=1000) (by rw [bu];exact Nn) (by decide)) (by cases g with | nil=>exact absurd rfl hg | cons=>rfl))
 have z:=dJ (C:=C) (k:=k) (x:= .lst (g.map .int)) (Hw (n:=n) (a:=(dc ord nd).map .int) (r:=acc.map λg=>AV.lst (g.map .int)) (e:=E.map .int) (Z:=Z)) (aV (m:=1000) (by rw [bu];exact ha) (by decide));rw [LB,show(acc.map λg=>AV.lst (g.map .int))++ [AV.lst (g.map .int)]=(acc++ [g]).map λg=>AV.lst (g.map .int) by rw [fk];rfl]at z;refine aJ (cv (aM (aa n4 rfl) (eg Hw) (af (aa n8 rfl) ao) bp z)) ?_;clear z;generalize acc++ [g]=acc;have z:=Dl (C:=C) (k:=k) (v:= .lst (g.map .int)) (Hb (n:=n) (a:=(dc ord nd).map .int) (r:=acc.map λg=>AV.lst (g.map .int)) (e:=E.map .int) (Z:=Z)) (.lst _) (by rw [bu,bu];omega) (by intro q;cases q);rw [J6,<-fk]at z;refine aJ (xp n5 rfl (aa n8 rfl) z rfl) ?_;clear z;have hF:(E++g).length<=2000:=by rw [cV];omega
 generalize E++g=F at *;have N4: ∀{la:V.Loc} {o:AO},(tri n ((dc ord nd).map .int) ((acc).map λg:List Int=>AV.lst (g.map .int)) ((F).map .int) Z) la=none->(tri n ((dc ord nd).map .int) ((acc).map λg:List Int=>AV.lst (g.map .int)) ((F).map .int) Z).set la o ⟨n+2,e0⟩=some (.list (F.map .int)):=λ{la o} hz=>by rw [aj (λq=>by rw [<-q,Hb]at hz;exact rZ hz)];exact Hb
 generalize (tri n ((dc ord nd).map .int) ((acc).map λg:List Int=>AV.lst (g.map .int)) ((F).map .int) Z)=τ at *;have hdl:(mD st ord nd F g).length<=10000:=by
  delta mD;have: ∀l:List Int,(l.flatMap λj=>ord.filter λk=>(nd k).any (· ==j) && met nd F k).length<=l.length * 10:=by
   intro l
   induction l with
   | nil=>exact bT _
   | cons x l ih=>rw [gj,cV,cq,Nat.succ_mul];have:=Bx (λk=>(nd k).any (· ==x) && met nd F k) ord;omega
  have:=this (cC st g);rw [eR]at this;omega
 obtain⟨D,hD⟩: ∃D,D=mD st ord nd F g:=⟨_,rfl⟩;rw [<-hD]at hdl⊢;refine aJ (ai:= [some (.lst (ord.map .int)),some (dH nd),some (.int st),some (.loc ⟨n,e0⟩),some (.loc ⟨n+1,e0⟩),some (.loc ⟨n+2,e0⟩),kz.map .int,jz.map .int,some (.lst (g.map .int)),some (.lst (D.map .int)),none,none]) (ae:=τ) ?_ ?_
 ·have en:(cC st g).flatMap (λj=>(ord.filter λk=>(nd k).any (· ==j) && met nd F k).map AV.int)=D.map .int:=by rw [hD];delta mD;rw [List.map_flatMap]
  refine bZ (link:= [(5,3),(1,4),(0,5)]) (cZ:= [none,((cC st g).foldl (λ(s:Option Int×Option Int) x=>(some x,ord.foldl (λu x=>some x) s.2)) (none,none)).1.map AV.int,((cC st g).foldl (λ(s:Option Int×Option Int) x=>(some x,ord.foldl (λu x=>some x) s.2)) (none,none)).2.map AV.int,some (.loc ⟨n+2,e0⟩),some (dH nd),some (.lst (ord.map .int))]) ⟨V.all2 rfl rfl,vd ⟨_,n5,rfl⟩ (V.all2 ⟨_,n1,rfl⟩ ⟨_,n0,rfl⟩),rfl,by decide+kernel,(aS (aa n8 rfl) (bJ bc bc (bH (aa n2 rfl))) (bk (.lst _)) (fb (.lst _) .none .none (fA.int _) (by rcases hst with rfl | rfl<;>decide) (aV (m:=1000) (by rw [bu];exact Nn) (by decide)) (Ct hst g))),dF,trivial,λu w=>rfl⟩ (out:=D.map .int) (λla hla=> ?_) rfl (bo (f:=AV.int) (λx=>fK)) (λenv=>⟨_,rfl⟩) (λu=>rfl) (λu=>rfl) (dm n9 rfl);refine JF (Sg:=λo=>τ.set la (.list o)) ((kQ _).trans en) (yz (C:=C) (k:=k) (sc:=_) (enc:=AV.int) (f:=λj=>(ord.filter λk=>(nd k).any (· ==j) && met nd F k).map AV.int) (M:=λ(o o2:Option Int)=> [none,o.map AV.int,o2.map AV.int,some (.loc ⟨n+2,e0⟩),some (dH nd),some (.lst (ord.map .int))]) (nx:=λu o2=>ord.foldl (λu x=>some x) o2) (Sg:=λout=>τ.set la (.list out)) (ok:=λu=>True) (la:=la) (g:=_) (gx:=cC st g) (K:=10) (λout=>trivial) rfl (λo o2 x out hx=> ?_) (λx=>by rw [bu];exact bU (Bx _ _) hol) (λx o2 out hx hlen=> ?_) (cC st g) [] none none (λu z=>z) (aV (n:=([]:List AV).length+(cC st g).length * 10) (m:=10000) (by rw [eR,ic];omega) (by decide)))
  ·exact ag (i:=1) rfl rfl
  ·refine V.CB.gen (aL (i:=5) rfl rfl) dF trivial (λu w=>rfl) (ly (C:=C) (k:=k) (sc:=bB _) (enc:=AV.int) (val:=AV.int) (p:=λk=>(nd k).any (· ==x) && met nd F k) (M:=λo:Option Int=> [none,some (.int x),o.map AV.int,some (.loc ⟨n+2,e0⟩),some (dH nd),some (.lst (ord.map .int))]) (Sg:=λout=>τ.set la (.list out)) (ok:=λu=>True) (la:=la) (gx:=ord) (λout=>trivial) (λout=>V.set_same) (λout out'=>V.set_set) (λo y out hy=> ?_) (.inr ⟨_,rfl,(λy out hy=> ?_)⟩) (λy out hy u=> ?_) ord out o2 (λu z=>z) (bU (Nat.add_le_add_left hol _) hlen))
   ·exact ag (i:=2) rfl rfl
   ·have vY:=hord y hy;rcases h1:(nd y).any (· ==x)with _ | _
    ·exact aY (b7 (aq (c:=false) (aa (i:=1) rfl rfl) (aS (aL (i:=4) rfl rfl) (aa (i:=2) rfl rfl) (bk (.lst _)) (bD (x:= .lst ((nd y).map .int)) (.lst _) (bE _ vY).1 (bE _ vY).2 (l9 _ vY))) (uf (.lst _) h1) rfl))
    ·rw [Bool.true_and];have e2:(!(!(((nd y).filter λi=> !(F.any (· ==i))).map AV.int).isEmpty))=met nd F y:=by delta met;cases (nd y).filter λi=> !(F.any (· ==i))<;>rfl
     refine aY (ck (aq (c:=true) (aa (i:=1) rfl rfl) (aS (aL (i:=4) rfl rfl) (aa (i:=2) rfl rfl) (bk (.lst _)) (bD (x:= .lst ((nd y).map .int)) (.lst _) (bE _ vY).1 (bE _ vY).2 (l9 _ vY))) (uf (.lst _) h1) rfl) (A4 ?_));rw [<-e2];refine d7 (aX (cp (out:=((nd y).filter λi=> !(F.any (· ==i))).map AV.int) (link:= [(3,2)]) (cZ:= [none,(eF (nd y)).map .int,some (.loc ⟨n+2,e0⟩)]) ⟨V.all1 rfl,V.all1 ⟨_,rfl,rfl⟩,rfl,by decide+kernel,(aS (aL (i:=4) rfl rfl) (aa (i:=2) rfl rfl) (bk (.lst _)) (bD (x:= .lst ((nd y).map .int)) (.lst _) (bE _ vY).1 (bE _ vY).2 (l9 _ vY))),dF,trivial,λu w=>rfl⟩ (λD5 hla'=>fI (C:=C) (k:=k) (sc:=bB _) (la:=D5) (enc:=AV.int) (val:=AV.int) (p:=λi=> !(F.any (· ==i))) (M:=λo=> [none,o.map .int,some (.loc ⟨n+2,e0⟩)]) (Sg:=λo=>(τ.set la (.list out)).set D5 (.list o)) (ok:=λu=>True) (xs:=nd y) (bU (hnd y) (by decide)) (λu=>trivial) (λu=>V.set_same) (λu w=>V.set_set) rfl (λo i o' hi=> ?_) (λi o' hi=> ?_) (λi o' hi u=> ?_)) rfl (bo (f:=AV.int) (λx=>fK))) (fG (.lst _) (aV (m:=2) (by rw [bu];exact bU (Bx _ _) (hnd y)) (by decide)) rfl))
     ·exact ag (i:=1) rfl rfl
     ·exact aq (aa (i:=1) rfl rfl) (aL (i:=2) rfl rfl) (iy (.loc (by rw [aj (λq=>by rw [<-q,N4 hla]at hla';exact rZ hla')];exact N4 hla)) rfl) rfl
     ·exact aa (i:=1) rfl rfl
   ·exact aa (i:=2) rfl rfl
 ·have bd: ∀i∈ix D.length,0<=i/\i<1000000/\D[i.toNat]? =some (D[i.toNat]?.getD 0)/\i.toNat+1<=D.length:=λi hi=>by delta ix at hi;refine kE (bM.mp hi) λj hj=>?_;rw [An]at hj;rw [vH,nv hj];exact tN (Int.natCast_nonneg j) (by omega) rfl hj
  have I5:(ix D.length).length=D.length:=by delta ix;rw [bu,Cz]
  have dl:(D.map AV.int).length<=sizeLine:=aV (m:=10000) (by rw [bu];exact hdl) (by decide);have IR:=λtgt=>cM (tgt:=tgt) (C:=C) (k:=k) (a:=0) (b:=(D.length:Int)) (by decide) (by omega) (by omega);simp only [xN]at IR;refine aJ (bZ (link:= [(9,2)]) (out:=(gk D).map .int) (cZ:= [none,(eF (ix D.length)).map .int,some (.lst (D.map .int))]) ⟨V.all1 rfl,V.all1 ⟨_,n9,rfl⟩,rfl,by decide+kernel,(by have z:=c5 (C:=C) (k:=k) (Z:=τ) (.lst (D.map .int)) dl;rw [bu]at z;exact(aD (ar h.ok n10 (dG h)) (af (aD (ar h.ok AA (fC h)) (af (aL n9 rfl) ao) bp z) ao) cL cS)),IR _,trivial,λu w=>rfl⟩ (λla hla=> ?_) rfl (bo (f:=AV.int) (λx=>fK)) (λenv=>⟨_,rfl⟩) (λu=>rfl) (λu=>rfl) (ag n8 rfl)) bz;have ed:((ix D.length).filter λi=> !((D.drop (i.toNat+1)).any (· ==D[i.toNat]?.getD 0))).map (λi=>AV.int (D[i.toNat]?.getD 0))=(gk D).map .int:=by rw [<-GZ,dP];rfl
  have at1: ∀i∈ix D.length,(D.map AV.int)[i.toNat]? =some (.int (D[i.toNat]?.getD 0)):=λi hi=>by rw [gq,(bd i hi).2.2.1];rfl
  refine JF (Sg:=λo=>τ.set la (.list o)) ed (fI (C:=C) (k:=k) (sc:=bB _) (la:=la) (enc:=AV.int) (val:=λi:Int=>AV.int (D[i.toNat]?.getD 0)) (p:=λi=> !((D.drop (i.toNat+1)).any (· ==D[i.toNat]?.getD 0))) (M:=λo=> [none,o.map .int,some (.lst (D.map .int))]) (Sg:=λo=>τ.set la (.list o)) (ok:=λu=>True) (xs:=ix D.length) (by rw [I5];omega) (λu=>trivial) (λu=>V.set_same) (λu w=>V.set_set) rfl (λo i o' hi=> ?_) (λi o' hi=> ?_) (λi o' hi u=> ?_))
  ·exact ag (i:=1) rfl rfl
  ·have Ml:eS (D.map AV.int) (some (i+1)) none none=(D.drop (i.toNat+1)).map .int:=by have:=jt (D.map AV.int) (i.toNat+1) (by rw [bu];exact(bd i hi).2.2.2);rw [show((i.toNat+1:Nat):Int)=i+1 by have:=(bd i hi).1;omega]at this;rw [this,List.map_drop]
   exact aq (aS (aL (i:=2) rfl rfl) (aa (i:=1) rfl rfl) (bk (.lst _)) (bD (.lst _) (bd i hi).1 (bd i hi).2.1 (at1 i hi))) (aS (aL (i:=2) rfl rfl) (bJ (bH (ay (aa (i:=1) rfl rfl) aC qZ)) bc bc) (bk (.lst _)) (fb (.lst _) (fA.int _) .none .none (by decide) dl Ml)) (iy (.lst _) rfl) rfl
  ·exact(aS (aL (i:=2) rfl rfl) (aa (i:=1) rfl rfl) (bk (.lst _)) (bD (.lst _) (bd i hi).1 (bd i hi).2.1 (at1 i hi)))
noncomputable def crlf:Str:="\r\n"
noncomputable def Me:Str:=": "
theorem yf {q:SS} {x:Str}:(q.ins x).rd=q.rd:=by delta SS.ins;split<;>rfl
theorem zu:(SS.ig p q g).ks.length<=q.ks.length+1:=nK (q:=q) (y:=g)
theorem FG {p:Str}: ∀(gs:List Str) (q:SS) (N:Nat),q.ks.Nodup->(∀x,(q.su x).length<=N)->(gs.foldl (SS.ig p) q).ks.Nodup/\(gs.foldl (SS.ig p) q).ks.length<=q.ks.length+gs.length/\(gs.foldl (SS.ig p) q).rd=q.rd/\ ∀x,((gs.foldl (SS.ig p) q).su x).length<=N+gs.length:=by
 intro aH;induction aH with
 | nil=>intro q N h1 h2;exact tN h1 (bT _) rfl h2
 | cons g gs ih=>
  intro q N h1 h2;refine ku (ih (SS.ig p q g) (N+1) (ki (q:=q) (x:=g) h1) (λx=>vm h2 x)) λa b c d=>?_;have e:=zu (q:=q) (p:=p) (g:=g);refine tN a ?_ (c.trans (yf (q:=q) (x:=g))) λx=> ?_
  ·rw [cX,cq];omega
  ·have:=d x;rw [cX,cq];omega
theorem H5 {q:SS} {p:Str} {gs:List Str} {N:Nat} (h1:q.ks.Nodup) (h2: ∀x,(q.su x).length<=N):(q.add p gs).ks.Nodup/\(q.add p gs).ks.length<=q.ks.length+1+gs.length/\(q.add p gs).rd=q.rd/\ ∀x,((q.add p gs).su x).length<=N+gs.length:=by refine ku (FG (p:=p) gs (q.u7 p gs.length) N (ki (q:=q) (x:=p) h1) (λx=>r4 (y:=p) h2 x)) λa b c d=>?_;have e:(q.u7 p gs.length).ks.length<=q.ks.length+1:=nK (q:=q) (y:=p);exact tN a (bU b (by omega)) (c.trans (yf (q:=q) (x:=p))) d
noncomputable def tx (part:Str):Str:=(Txt.split part nl)[1]?.getD Str.empty
noncomputable def tg (path part:Str):Str:=gu (d0 (de path) (tx part))
noncomputable def kh (path:Str) (I7:List Str):List Str:=(I7.filter λpart=>Txt.contains part nl).map (tg path)
structure Dd (path val:Str) (I7 gs:List Str):Prop where
 pl:V.B path 200
 po:PyData.strOk path=true
 pc:Txt.partition (lineOf (path,val)) Me=(path,Me,val)
 ll:V.B (lineOf (path,val)) 11000
 vl:val.length<=10000
 sg:signs val=I7
 ok: ∀part∈I7,V.B part 300/\PyData.strOk part=true
 np:I7.length<=100
 dl:V.B (de path) 200
 it: ∀part∈I7,Txt.contains part nl=true->1<(Txt.split part nl).length/\V.B (tx part) 200/\V.B (d0 (de path) (tx part)) 400/\(((d0 (de path) (tx part)).length:Int) !=0)=true/\c1 (d0 (de path) (tx part))=false/\c2 (d0 (de path) (tx part))=true
 ah:kh path I7=gs
 go: ∀g∈gs,PyData.strOk g=true
 gn:gs.length<=2
theorem zH (h:V.B x n) (hn:decide (n<=10000000)=true):(partsBetween x (occurrences x y 0 x.length (x.length+1)) y.length).length<=sizeLine:=by have:=jx hn;delta V.B at h;rw [PyProof.Rows.len_partsBetween,jr];have:=StrLaws.occ_length_le x y 0 x.length (x.length+1);omega
noncomputable def gN (L:List (Str×List Str)) (q:SS):SS:=L.foldl (λq p=>q.add p.1 p.2) q
theorem FZ (h:Is C):ib C k (bx b q Z) (λx=>getAttr x "add" true) (.loc ⟨b,e0⟩) (λW r=>aw W (.bm 254 ⟨b,e0⟩) r) (bx b q Z):=
 og h.ok eE dY (by rw [h.K];kernel_rfl) (by rw [h.K];kernel_rfl) (by rw [h.K];kernel_rfl) (λxs n=>by revert xs;exact kS λx0 x1 x2 x3=>by rw [h.K];kernel_rfl)
theorem kW (l:List Str):(PyData.list (l.map .str)).depth<=9:=by
 refine(?_:PyData.depthAll (l.map PyData.str)+1<=9);have:PyData.depthAll (l.map PyData.str)<=1:=by
  induction l with
  | nil=>decide
  | cons x l ih=>exact Nat.max_le.mpr ⟨by simp [PyData.depth],ih⟩
 omega
theorem My {α:Type} {P:List α->Prop} (h: ∀a b c d e,P [a,b,c,d,e]): ∀l:List α,l.length=5->P l:=Bk λa=>kS (h a)
theorem HZ (h:bx b q Z l=some o):Z l=some o\/o.In λl=>(bx b q Z l).isSome=true:=aP (uR h) (λz=> .inl z.1) .inr
theorem C2 (hb:Cl b Z) (h:(Z l).isSome=true):(bx b q Z l).isSome=true:=by
 have:l.tag<b:=by
  refine aP (oZ l.tag b) (λz=>?_) λz=>?_
  ·exact z
  ·rw [hb l z]at h;exact tQ h
 rw [Bl this];exact h
theorem G9 {C:V.Cx} (h:Is C) {k:Nat} {Z:V.St} {t b:Nat} {oA:Int->Int} {pg vl:Int->Str} {pt:Int->List Str} {nd:Int->List Int}
  (hcl:Cl b (cB t (bq.map λi=>(pg (oA i),vl (oA i))) Z)) (ho:wR (bq.map λi=>(pg (oA i),vl (oA i)))) (h2: ∀c∈(kA (bq.map λi=>(pg (oA i),vl (oA i)))).cps.toList,c<256) (Np:L7 (kA (bq.map λi=>(pg (oA i),vl (oA i)))))
  (hsp:Txt.split (kA (bq.map λi=>(pg (oA i),vl (oA i)))) crlf=(bq.map λi=>lineOf (pg (oA i),vl (oA i)))++ [Str.empty,Str.empty]) (tI: ∀i∈bq,oA i∈bq) (hnd: ∀k,(nd k).length<=2) (hnk: ∀k∈bq,∀j∈nd k,j∈bq)
  (T: ∀k∈bq,Dd (pg k) (vl k) (pt k) ((nd k).map pg)):
  V.Cd C (k+7) (cB t (bq.map λi=>(pg (oA i),vl (oA i))) Z) (.ext 459) [.loc ⟨t,e0⟩,inV oA,jM pg,dH nd,yi pt] [] (.loc ⟨b,e0⟩) (bx b (gN (bq.map λi=>(pg (oA i),(nd (oA i)).map pg)) q0) (cB t (bq.map λi=>(pg (oA i),vl (oA i))) Z)):=by
 have hx0:=h.hx;refine eA h.ok ⟨⟨_,_,_,by rw (occs:= .all) [h.K];exact rfl⟩,rfl,rfl,rfl,rfl,by rw (occs:= .all) [h.K];rfl,rfl,rfl,by decide+kernel⟩ [lo "table",lo "order",ce "pages",lo "needs",lo "parts",lo "lines",lo "sorter",lo "i",ce "path",lo "colon",lo "value",lo "read",lo "ahead",gi "bytes",gi "len",gi "TopologicalSorter",gi "range",gi "_law_signs"] rfl [("table",.loc ⟨t,e0⟩),("order",inV oA),("pages",jM pg),("needs",dH nd),("parts",yi pt)] _
  (bQ (My λa0 a1 a2 a3 a4=>rfl) rfl) rfl rfl λsc hF n hn=> ?_
 refine tK hF λn0 n1 n2 n3 n4 n5 n6 n7 u=>tK u λn8 n9 n10 AA n12 n13 n14 n15 w=>nR w λn16 n17 _=>?_;clear hF;obtain⟨LN,hLN⟩: ∃LN,LN=(bq.map λi=>lineOf (pg (oA i),vl (oA i)))++ [Str.empty,Str.empty]:=⟨_,rfl⟩;have Nq:LN.length=8:=by rw (occs:= .all) [hLN];rfl
 have N5:(LN.map AV.str).length<=sizeLine:=aV (m:=8) (by rw (occs:= .all) [bu,Nq];exact bT _) (by decide);have hdr:eS (LN.map AV.str) (some 6) none none= [.str Str.empty,.str Str.empty]:=by have:=jt (LN.map AV.str) 6 (by rw (occs:= .all) [bu,Nq];decide);refine this.trans ?_;rw (occs:= .all) [hLN];rfl
 have Nr: ∀i∈bq,(LN.map AV.str)[i.toNat]? =some (.str (lineOf (pg (oA i),vl (oA i)))):=λi hi=>by
  have hlt:i.toNat<6:=by have:=JY i hi;omega+splitDisjunctions
  rw (occs:= .all) [hLN,gq,List.getElem?_append_left (by rw (occs:= .all) [bu];exact hlt),l9 (λi=>lineOf (pg (oA i),vl (oA i))) hi];rfl
 have mk:=rD h.ok (k:=k+5) (c:=304) (fi:=240) (kw:= []) (as:= []) (l:=⟨b,e0⟩) (d:=⟨b+1,e0⟩) (by rw (occs:= .all) [h.K];kernel_rfl) (by rw (occs:= .all) [h.K];kernel_rfl) (by rw (occs:= .all) [h.K];kernel_rfl) (hcl _ (bT _)) (hcl _ (by exact gO _ _)) (by exact L1.kD rfl) (ME h (k:=k+4) (Z:=cB t (bq.map λi=>(pg (oA i),vl (oA i))) Z) (b:=b) (hcl _ (by exact gO _ _)));have hbt:t+2<b:=by
  refine aP (oZ (t+2) b) (λz=>?_) λz=>?_
  ·exact z
  ·have e:cB t (bq.map λi=>(pg (oA i),vl (oA i))) Z ⟨t+2,e0⟩=_:=kR;rw [hcl ⟨t+2,e0⟩ z]at e;exact dC e
 refine hH (v:= .loc ⟨b,e0⟩) (cP:=bx b (gN (bq.map λi=>(pg (oA i),(nd (oA i)).map pg)) q0) (cB t (bq.map λi=>(pg (oA i),vl (oA i))) Z)) ?_ ⟨λg r z=>z,λl z=>C2 hcl z,λl o z=>HZ z,.inl ⟨rfl,Ow.is (.inl rfl)⟩⟩;refine aE (ai:= [some (.loc ⟨t,e0⟩),some (inV oA),some (jM pg),some (dH nd),some (yi pt),some (.lst (LN.map .str)),none,none,none,none,none,none,none,none,none,none,none,none]) (ae:=cB t (bq.map λi=>(pg (oA i),vl (oA i))) Z) (au (aM (aM (aD (ar h.ok n13 (lK h)) (af (aa n0 rfl) ao) cL (u6 (f:=167) h.ok nj mx (by rw (occs:= .all) [h.K];kernel_rfl) (by rw (occs:= .all) [h.K];kernel_rfl) (V.Cd.ca (FP (k:=k) h ho h2)))) DT (af aW ao) bp (CH (lY ho) (by decide) Np)) sW (af aW ao) bp (r9 (ys:=LN.map .str) (by decide+kernel) (lY ho) (by decide) (zH (lY ho) (by decide)) (by rw (occs:= .all) [hLN,<-hsp];rfl))) (ag n5 rfl)) ?_;refine cw (aY (ba (aq (c:=false) (aD (ar h.ok n14 (fC h)) (af (aa n5 rfl) ao) bp (c5 (.lst _) N5)) aC (GI (by rw (occs:= .all) [bu,Nq];rfl)) rfl) (ba (aq (c:=false) (aS (aa n5 rfl) (bJ (bH aC) bc bc) (bk (.lst _)) (fb (.lst _) (fA.int _) .none .none (by decide) N5 hdr)) (gX (af aW (af aW ao)) (dX rfl)) (nS (d:= .list [.str Str.empty,.str Str.empty]) (gG (.lst _) (d4 jq (d4 jq gJ))) (gG (.lst _) (d4 jq (d4 jq gJ))) (by decide+kernel) (by decide+kernel)) rfl) cj))) ?_;refine aE (ai:= [some (.loc ⟨t,e0⟩),some (inV oA),some (jM pg),some (dH nd),some (yi pt),some (.lst (LN.map .str)),some (.loc ⟨b,e0⟩),none,none,none,none,none,none,none,none,none,none,none]) (ae:=bx b q0 (cB t (bq.map λi=>(pg (oA i),vl (oA i))) Z)) (au (aD (ar h.ok n15 (kB h)) ao (KX h rfl) mk) (ag n6 rfl)) ?_;have Pg:(bq.foldl (λ(a:SS×Option Int) i=>(a.1.add (pg (oA i)) ((nd (oA i)).map pg),some i)) (q0,none)).1=gN (bq.map λi=>(pg (oA i),(nd (oA i)).map pg)) q0:=by
  have: ∀(xs:List Int) (a:SS×Option Int),(xs.foldl (λ(a:SS×Option Int) i=>(a.1.add (pg (oA i)) ((nd (oA i)).map pg),some i)) a).1=gN (xs.map λi=>(pg (oA i),(nd (oA i)).map pg)) a.1:=by
   intro xs
   induction xs with
   | nil=>intro a;rfl
   | cons x xs ih=>intro a;rw (occs:= .all) [cX,ih];rfl
  exact this _ _
 obtain⟨lo,hlo⟩: ∃lo:Option Int,bq.foldl (λ(a:SS×Option Int) i=>(a.1.add (pg (oA i)) ((nd (oA i)).map pg),some i)) (q0,none)=(gN (bq.map λi=>(pg (oA i),(nd (oA i)).map pg)) q0,lo):=⟨_,Prod.ext Pg rfl⟩;have I6:=λtgt=>cM (tgt:=tgt) (C:=C) (k:=k+6) (a:=0) (b:=6) (by decide) (by decide) (by decide);simp only [Fx]at I6;refine iH (aD (ar h.ok n16 (dG h)) (af aC ao) cL cS) (I6 _) trivial (KL (C:=C) (k:=k+6) (sc:=sc) (ok:=λg=>True) (enc:=AV.int)
    (M:=λ(a:SS×Option Int)=> [some (.loc ⟨t,e0⟩),some (inV oA),some (jM pg),some (dH nd),some (yi pt),some (.lst (LN.map .str)),some (.loc ⟨b,e0⟩),a.2.map .int,a.2.map λi=> .str (pg (oA i)),a.2.map λg=> .str Me,a.2.map λi=> .str (vl (oA i)),a.2.map λi=> .lst ((pt (oA i)).map .str),a.2.map λi=> .lst (((nd (oA i)).map pg).map .str),none,none,none,none,none])
    (Sg:=λa=>bx b a.1 (cB t (bq.map λi=>(pg (oA i),vl (oA i))) Z)) (step:=λa i=>(a.1.add (pg (oA i)) ((nd (oA i)).map pg),some i)) (P:=λa xs=>(∀i∈xs,i∈bq)/\a.1.ks.Nodup/\a.1.ks.length+3 * xs.length<=100/\a.1.rd=none/\ ∀x,(a.1.su x).length+2 * xs.length<=100)
    (λg r u1=>trivial) (λa i xs hP=>by
     refine ud hP λp0 p1 p2 p3 p4=>?_;clear hP;simp only [cq]at p2 p4;have gn:=(T (oA i) (tI i (p0 i (.head _)))).gn;refine ku (H5 (q:=a.1) (p:=pg (oA i)) (gs:=(nd (oA i)).map pg) (N:=100 - 2 * (xs.length+1)) p1 (λx=>by have:=p4 x;omega+splitDisjunctions)) λa1 a2 a3 a4=>?_;exact NP (λj hj=>p0 j (.tail _ hj)) a1 (by refine(?_:(a.1.add _ _).ks.length+_<=_);omega+splitDisjunctions) (a3.trans p3) λx=>by have:=a4 x;have:=p4 x;refine(?_:((a.1.add _ _).su x).length+_<=_);omega+splitDisjunctions) ?_ bq (q0,none) ⟨λg z=>z,pJ,by decide,rfl,λx=>by refine(?_:0+2 * bq.length<=100);decide⟩ hlo) (λg r=>rfl) (bP (aa n6 rfl))
 rintro ⟨q,io⟩ i xs ⟨p0,p1,p2,p3,p4⟩
 have hi:=p0 i (.head _);have hk:=tI i hi;have R:=T (oA i) hk;simp only [cq]at p2 p4;refine cx (ag n7 rfl) ?_;refine aJ (au (aM (aS (aa n5 rfl) (aa n7 rfl) (bk (.lst _)) (bD (.lst _) (bE _ hi).1 (bE _ hi).2 (Nr i hi))) uj (af aW ao) bp (G6 (by decide+kernel) R.ll (by decide) R.pc)) (i0 (cE (dm n8 rfl) (cE (ag n9 rfl) (cE (ag n10 rfl) kq))) rfl (λg=>rfl) (λg=>rfl) hx0)) ?_;have cs:=V.Cd.ca (FC h (k:=k+5) (Z:=bx b q (cB t (bq.map λi=>(pg (oA i),vl (oA i))) Z)) (value:=vl (oA i)) (bU R.vl (by decide)));rw [R.sg]at cs;refine aJ (au (aD (ar h.ok n17 (rI h)) (af (aa n10 rfl) ao) (KX h rfl) cs) (ag AA rfl)) ?_;refine cg (aY (ba (aq (c:=false) (aL n8 rfl) (aS (aL n2 rfl) (aS (aa n1 rfl) (aa n7 rfl) (bk (.lst _)) (bD (x:= .int (oA i)) (.lst _) (bE _ hi).1 (bE _ hi).2 (l9 (λi=>AV.int (oA i)) hi))) (bk (.lst _)) (bD (.lst _) (bE _ hk).1 (bE _ hk).2 (l9 (λk=>AV.str (pg k)) hk))) (lW (BH _)) rfl) (ba (aq (c:=false) (aa AA rfl) (aS (aa n4 rfl) (aS (aa n1 rfl) (aa n7 rfl) (bk (.lst _)) (bD (x:= .int (oA i)) (.lst _) (bE _ hi).1 (bE _ hi).2 (l9 (λi=>AV.int (oA i)) hi))) (bk (.lst _)) (bD (.lst _) (bE _ hk).1 (bE _ hk).2 (l9 (λk=>AV.lst ((pt k).map .str)) hk))) (nS (d:= .list ((pt (oA i)).map .str)) (gG (.lst _) (ja _)) (gG (.lst _) (ja _)) (oN _ λx hx=>(R.ok x hx).2) (kW _)) rfl) cj))) ?_;have av:((pt (oA i)).filter λpart=>Txt.contains part nl).map (λpart=>AV.str (tg (pg (oA i)) part))=((nd (oA i)).map pg).map .str:=by rw (occs:= .all) [<-R.ah];unfold kh;rw (occs:= .all) [dP];rfl
 refine aJ (bZ (link:= [(8,5)]) (out:=((nd (oA i)).map pg).map .str) (cZ:= [none,(eF (pt (oA i))).map .str,none,none,none,some (.str (pg (oA i)))]) ⟨V.all1 rfl,V.all1 ⟨_,n8,rfl⟩,rfl,by decide+kernel,(aa AA rfl),dF,trivial,λg r=>rfl⟩ (λla hla=> ?_) rfl (bo (f:=AV.str) (λx=>cc)) (λenv=>⟨_,rfl⟩) (λg=>rfl) (λg=>rfl) (ag n12 rfl)) ?_
 ·rw (occs:= .all) [<-av];refine fI (enc:=AV.str) (val:=λpart=>AV.str (tg (pg (oA i)) part)) (p:=λpart=>Txt.contains part nl) (M:=λo=> [none,o.map .str,none,none,none,some (.str (pg (oA i)))]) (Sg:=λout=>(bx b q (cB t (bq.map λi=>(pg (oA i),vl (oA i))) Z)).set la (.list out)) (bU R.np (by decide)) (λg=>trivial) (λg=>V.set_same) (λg r=>V.set_set) rfl (λo y out hy=>ag (i:=1) rfl rfl) (λy out hy=>aq aW (aa (i:=1) rfl rfl) (HL rfl) rfl) (λy out hy hc=> ?_);refine Gy (R.it y hy hc) λi1 i2 i3 i4 i5 i6=>?_;have yb:=(R.ok y hy).1;have at1:((Txt.split y nl).map AV.str)[(1:Int).toNat]? =some (.str (tx y)):=by rw (occs:= .all) [gq];unfold tx;refine(?_:((Txt.split y nl)[1]?).map AV.str=_);rw (occs:= .all) [nv i1];rfl
  exact(aD (ar h.ok (i:=2) rfl (wV h)) (af (aD (ar h.ok (i:=3) rfl (Hn h)) (af (aD (ar h.ok (i:=4) rfl (z8 h)) (af (aL (i:=5) rfl rfl) ao) (KX h rfl) (zU (k:=k+4) h R.pl)) (af (aS (aM (aa (i:=1) rfl rfl) sW (af aW ao) bp (r9 (by decide+kernel) yb (by decide) (qw yb (by decide)) rfl)) aC (bk (.lst _)) (bD (.lst _) (by decide) (by decide) at1)) ao)) (KX h rfl) (Iu (k:=k+4) h R.dl i2)) ao) (KX h rfl) (wG (k:=k+3) h i3 i4 i5 i6))
 have nz:((nd (oA i)).map AV.int).length<=1000000:=by rw (occs:= .all) [bu];exact bU (hnd _) (by decide)
 refine cg (aq (c:=false) (aa n12 rfl) (cp (link:= [(2,2)]) (out:=((nd (oA i)).map pg).map .str) (cZ:= [none,(eF (nd (oA i))).map .int,some (jM pg)]) ⟨V.all1 rfl,V.all1 ⟨_,n2,rfl⟩,rfl,by decide+kernel,(aS (aa n3 rfl) (aS (aa n1 rfl) (aa n7 rfl) (bk (.lst _)) (bD (x:= .int (oA i)) (.lst _) (bE _ hi).1 (bE _ hi).2 (l9 (λi=>AV.int (oA i)) hi))) (bk (.lst _)) (bD (.lst _) (bE _ hk).1 (bE _ hk).2 (l9 (λk=>AV.lst ((nd k).map .int)) hk))),dF,trivial,λg r=>rfl⟩ (λla hla=> ?_) rfl (bo (f:=AV.str) (λx=>cc))) (nS (d:= .list (((nd (oA i)).map pg).map .str)) (gG (.lst _) (ja _)) (gG (.lst _) (ja _)) (oN _ R.go) (kW _)) rfl) ?_
 ·have Ph:(nd (oA i)).map (λj=>AV.str (pg j))=((nd (oA i)).map pg).map .str:=by rw (occs:= .all) [dP];rfl
  rw (occs:= .all) [<-Ph];exact hU (enc:=AV.int) (val:=λj=>AV.str (pg j)) (M:=λo=> [none,o.map .int,some (jM pg)]) (Sg:=λout=>(bx b q (cB t (bq.map λi=>(pg (oA i),vl (oA i))) Z)).set la (.list out)) (bU (hnd _) (by decide)) (λg=>trivial) (λg=>V.set_same) (λg r=>V.set_set) rfl (λo y out hy=>ag (i:=1) rfl rfl)
   (λy out hy=>aS (aL (i:=2) rfl rfl) (aa (i:=1) rfl rfl) (bk (.lst _)) (bD (.lst _) (bE _ (hnk _ hk _ hy)).1 (bE _ (hnk _ hk _ hy)).2 (l9 (λk=>AV.str (pg k)) (hnk _ hk _ hy))))
 have gl:((nd (oA i)).map pg).length<=2:=by rw (occs:= .all) [bu];exact hnd _
 have ad:=J9 h (k:=k+2) (Z:=cB t (bq.map λi=>(pg (oA i),vl (oA i))) Z) (b:=b) (q:=q) (p:=pg (oA i)) (gs:=(nd (oA i)).map pg) hcl p1 (by omega+splitDisjunctions) p3 (λx=>by have:=p4 x;omega+splitDisjunctions);exact aJ (cv (Ft (aa n6 rfl) (FZ h) (af (aL n8 rfl) (EY (aa n12 rfl) (.lst _) (aV (m:=2) (by rw (occs:= .all) [bu];exact gl) (by decide)) ao (λg=>rfl))) (C5 h.ok ⟨_,_,_,_,by rw (occs:= .all) [h.K];exact rfl⟩) (B8 (by rw (occs:= .all) [iI];exact ad)) (λg r=>rfl) (λg=>rfl) (λg r e=>by cases e))) bz
theorem sO.zip {su:Str->List Str}: ∀{t:List Str} {x:Str},sO su (x::t)-> ∀p∈(x::t).zip t,p.2∈su p.1:=by
 intro aH;induction aH with
 | nil=>
  intro u v p hp;exact by exact jc hp
 | cons y t ih=>
  intro x h p hp;cases h with
  | cons h l=>
   rw [List.zip_cons_cons]at hp;refine aP (cI.mp hp) (λq=>?_) λhp=>?_
   ·subst q;exact h
   ·exact ih l p hp
theorem sO.tail {su:Str->List Str}: ∀{t:List Str} {x:Str},sO su (x::t)-> ∀y∈t,∃z,y∈su z:=by
 intro aH;induction aH with
 | nil=>
  intro u v y hy;exact by exact jc hy
 | cons y t ih=>
  intro x h z hz;cases h with
  | cons h l=>
   refine aP (cI.mp hz) (λq=>?_) λhz=>?_
   ·subst q;exact⟨_,h⟩
   ·exact ih l z hz
noncomputable def sY (p:Str×Str):AV:= .tup [.str p.1,.str p.2]
noncomputable def rW (pg:Int->Str) (nd:Int->List Int):List (Str×Str):=bq.flatMap λk=>(nd k).map λj=>(pg j,pg k)
theorem nW {q:SS} {pg:Int->Str} {nd:Int->List Int} {L:List Str} (Gb: ∀x,∀y∈q.su x,∃k∈bq,∃j∈nd k,pg j=x/\pg k=y) (hL:wO q.su L):
  ∃y M,L=y::(M++ [y])/\(M++ [y]).Nodup/\L.length<=8/\ ∀p∈L.zip (M++ [y]),p∈rW pg nd:=by
 refine fu hL λy M u=>?_;clear hL;subst u;intro GV lk;refine MI y M rfl GV ?_ λp hp=> ?_
 ·have:=uB GV (l₂:=bq.map pg) λz hz=>by refine cG (sO.tail lk z hz) λw hw=>?_;obtain⟨k,hk,j,_,_,e⟩:=Gb w z hw;exact bM.mpr ⟨k,hk,e⟩
  rw [bu]at this;have e6:bq.length=6:=rfl;rw [cq];omega
 ·obtain⟨k,hk,j,hj,e1,e2⟩:=Gb _ _ (sO.zip lk p hp);exact xl.mpr ⟨k,hk,bM.mpr ⟨j,hj,by rw [e1,e2]⟩⟩
theorem vo {l:List Str} (h:l.Nodup) (x:Str):l.countP (· ==x)<=1:=List.nodup_iff_count.mp h x
theorem EV (p:Str×Str):(sY p).A3:=Cm (p:=p)
theorem zK: ∀(l:List (Str×Str)),(∀x∈l,PyData.strOk x.1=true/\PyData.strOk x.2=true)->PyData.canLayAll0 (l.map λx=> .tuple [.str x.1,.str x.2])=true:=by
 intro aH;induction aH with
 | nil=>intro u;exact rfl
 | cons x l ih=>intro h;refine(?_:(((PyData.strOk x.1 && (PyData.strOk x.2 && true))) && PyData.canLayAll0 (l.map λx=> .tuple [.str x.1,.str x.2]))=true);rw [(h x (.head _)).1,(h x (.head _)).2,ih λy hy=>h y (.tail _ hy)];rfl
theorem ES {C:V.Cx} (h:Is C) {k:Nat} {Z:V.St} {b:Nat} {q:SS} {pg:Int->Str} {nd:Int->List Int} {held:Bool} (G:DM q) (hb:Cl b Z) (hr:q.rd=none) (hnd: ∀k,(nd k).length<=2) (hnk: ∀k∈bq,∀j∈nd k,j∈bq)
  (hres: ∀res,L2 q.su q.ks res->res.isSome=held) (Gb: ∀x,∀y∈q.su x,∃k∈bq,∃j∈nd k,pg j=x/\pg k=y) (hpo: ∀k∈bq,PyData.strOk (pg k)=true):
  V.Cd C (k+5) (bx b q Z) (.ext 469) [.loc ⟨b,e0⟩,jM pg,dH nd,.bool held] [] (.bool true) (bx b q.prep Z):=by
 have hx0:=h.hx;refine eA h.ok ⟨⟨_,_,_,by rw [h.K];exact rfl⟩,rfl,rfl,rfl,rfl,by rw [h.K];rfl,rfl,rfl,by decide+kernel⟩ [lo "sorter",ce "pages",ce "needs",lo "held_up",ce "ring",ce "steps",lo "twice",lo "lost",gi "CycleError",gi "range",gi "zip",gi "len"] rfl [("sorter",.loc ⟨b,e0⟩),("pages",jM pg),("needs",dH nd),("held_up",.bool held)] _
  (bQ (kS λa0 a1 a2 a3=>rfl) rfl) rfl rfl λsc hF n hn=> ?_
 refine tK hF λn0 n1 n2 n3 n4 n5 n6 n7 v=>ud v λn8 n9 n10 AA _=>?_;clear hF;refine V.c12 (Ky G b) λres hc run=>V.c12 (Ky (q:=q.prep) ⟨G.nd,G.su,G.len⟩ b) λEc hc' run'=>?_;have e1:=hres res hc;have e2:=hres Ec hc';refine lS (λy hy=>hy) (λz=>rfl) ?_ True.intro;cases held with
 | false=>
  obtain rfl:res=none:=by cases res<;>simp at e1⊢
  obtain rfl:Ec=none:=by cases Ec<;>simp at e2⊢
  refine aE (au (eT (GJ (aM (aa n0 rfl) (fJ h eE dY) ao (KX h rfl) (V.Cd.ca (run C h _ Z))) rY (lL (gX (af bV ao) (dX rfl))))) (dm n4 rfl)) ?_;refine aE (mF (cg (aY (ba (aq (c:=false) (aM (aa n0 rfl) (qX h eE dY) ao (KX h rfl) (V.Cd.ca (HY h (k:=k+2) G hb hr (run' C h _ Z)))) bV (cQ fN) rfl) (ba (aX (b:=false) (aa n3 rfl) cu) cj))) bz)) ?_;exact bP (eu (aL n4 rfl) (gX (af bV ao) (dX rfl)) (yx (d:= .list [.none]) (gG (.lst _) (d4 yc gJ)) (gG (.lst _) (d4 yc gJ)) (by decide+kernel) (by decide+kernel)) rfl)
 | true=>
  obtain⟨L,rfl⟩: ∃L,res=some L:=by cases res with | none=>simp at e1 | some L=>exact⟨L,rfl⟩
  obtain⟨L',rfl⟩: ∃L,Ec=some L:=by cases Ec with | none=>simp at e2 | some L=>exact⟨L,rfl⟩
  refine tM (nW Gb hc) λy M hL GV ll N6=>tM (nW Gb (q:=q) hc') λy' M' hL' _ Pj _=>?_;obtain⟨R1,Mn⟩: ∃R1,R1=M++ [y]:=⟨_,rfl⟩;rw [<-Mn]at hL GV N6;have Lz:(L.map AV.str).length<=sizeLine:=aV (m:=8) (by rw [bu];exact ll) (by decide);have Le:(!(L.map AV.str).isEmpty)=true:=by rw [hL];rfl
  have ht:eS (L.map AV.str) (some 1) none none=R1.map .str:=by rw [hL];exact pz _ _
  have Pk:R1.length<=8:=by rw [hL,cq]at ll;omega
  refine aE (au (eT (mz (aM (aa n0 rfl) (fJ h eE dY) ao (KX h rfl) (V.Cd.ca (run C h _ Z))) (fG (.lst _) Lz Le))) (dm n4 rfl)) ?_;obtain⟨ST,hST⟩: ∃ST,ST=rW pg nd:=⟨_,rfl⟩;have gC:V.Glob C "CycleError" (.ext 222):=lA h;have Ed:V.Glob C "range" (.ty "range"):=dG h;have I8:V.Glob C "zip" (.ty "zip"):=Lj h;have I9:V.Glob C "len" (.bi "len"):=fC h;refine Er (aK:= [some (.loc ⟨b,e0⟩),some (jM pg),some (dH nd),some (.bool true),some (.lst (L.map .str)),some (.lst (ST.map sY)),some (.lst []),some (.lst []),none,none,none,none]) (zO h.ok (sr (De (Aw (wq (Fi (aa n0 rfl) (qX h eE dY) ao (KX h rfl) (HS h (k:=k+2) G hb hr (run' C h _ Z) (by rw [hL'];rfl) (bU Pj (by decide))) (λu w=>rfl) (λu=>rfl) rfl (λu=>rfl)) rfl)))) (by intro z;cases z) (ar h.ok.h n8 gC) (HK h.ok (Dt h) (by decide)) (λe oe he O'=> ?_)) (λz=>by cases z);have h0:(C.hd e oe).hx≠some 0:=λz=>he (dI z);obtain⟨τ,Na⟩: ∃τ,τ=bx b q.prep Z:=⟨_,rfl⟩;rw [<-Na];have I6:=λtgt=>cM (tgt:=tgt) (C:=C.hd e oe) (k:=k+4) (a:=0) (b:=6) (by decide) (by decide) (by decide) h0;simp only [Fx]at I6;refine aJ (ai:= [some (.loc ⟨b,e0⟩),some (jM pg),some (dH nd),some (.bool true),some (.lst (L.map .str)),some (.lst (ST.map sY)),none,none,none,none,none,none]) (ae:=τ) ?_ ?_
  ·have inner:=λ(la:V.Loc) (kk:Int) (out:List AV) (hout:out.length+2<=sizeLine) (o2:Option Int) (elt:Expr) (scope:Scope) (pos:Pos) (gens:List Comprehension) (g:Comprehension) (e':g.ifs= []) ha hv=>ly (C:=C.hd e oe) (k:=k+4) (sc:=bB scope) (enc:=AV.int) (val:=λj=>sY (pg j,pg kk)) (p:=λu=>true) (M:=λo:Option Int=> [none,some (.int kk),o.map AV.int,some (dH nd),some (jM pg)]) (Sg:=λout=>τ.set la (.list out)) (ok:=λu=>True) (la:=la) (elt:=elt) (gens:=gens) (scope:=scope) (pos:=pos) (g:=g) (gx:=nd kk) (λout=>trivial) (λout=>V.set_same) (λout out'=>V.set_set) ha (.inl ⟨e',λu=>rfl⟩) hv (nd kk) out o2 (λu z=>z) (bU (Nat.add_le_add_left (hnd kk) _) hout);have en:bq.flatMap (λkk=>(nd kk).map λj=>sY (pg j,pg kk))=ST.map sY:=by rw [hST];delta rW;rw [List.map_flatMap];congr 1;funext kk;rw [dP];rfl
   refine bZ (link:= [(2,3),(1,4)]) (cZ:= [none,(bq.foldl (λ(s:Option Int×Option Int) x=>(some x,(nd x).foldl (λu x=>some x) s.2)) (none,none)).1.map AV.int,(bq.foldl (λ(s:Option Int×Option Int) x=>(some x,(nd x).foldl (λu x=>some x) s.2)) (none,none)).2.map AV.int,some (dH nd),some (jM pg)]) ⟨V.all2 rfl rfl,V.all2 ⟨_,n2,rfl⟩ ⟨_,n1,rfl⟩,rfl,by decide+kernel,(aD (ar O' n9 Ed) (af aC ao) cL cS),I6 _,trivial,λu w=>rfl⟩ (out:=ST.map sY) (λla hla=> ?_) rfl (bo (f:=sY) (λp=>EV p)) (λenv=>⟨_,rfl⟩) (λu=>rfl) (λu=>rfl) (dm n5 rfl);refine JF (Sg:=λo=>τ.set la (.list o)) ((kQ _).trans en) (yz (C:=C.hd e oe) (k:=k+4) (sc:=_) (enc:=AV.int) (f:=λkk=>(nd kk).map λj=>sY (pg j,pg kk)) (M:=λ(o o2:Option Int)=> [none,o.map AV.int,o2.map AV.int,some (dH nd),some (jM pg)]) (nx:=λkk o2=>(nd kk).foldl (λu x=>some x) o2) (Sg:=λout=>τ.set la (.list out)) (ok:=λu=>True) (la:=la) (e:=_) (g:=_) (gx:=bq) (K:=2) (λout=>trivial) rfl (λo o2 x out hx=> ?_) (λx=>by rw [bu];exact hnd x) (λx o2 out hx hlen=> ?_) bq [] none none (λu z=>z) (by decide))
   ·exact ag (i:=1) rfl rfl
   ·have z:=inner la x out hlen o2;have ft:(nd x).filter (λu=>true)=nd x:=CG.mpr λu w=>rfl;simp only [ft]at z;refine V.CB.gen (aS (aL (i:=3) rfl rfl) (aa (i:=1) rfl rfl) (bk (.lst _)) (bD (.lst _) (bE _ hx).1 (bE _ hx).2 (l9 (λk=>AV.lst ((nd k).map .int)) hx))) dF trivial (λu w=>rfl) (z _ _ _ _ _ rfl (λo y out hy=> ?_) (λy out hy u=> ?_))
    ·exact ag (i:=2) rfl rfl
    ·have vY:=hnk _ hx _ hy;exact cU (af (aS (aL (i:=4) rfl rfl) (aa (i:=2) rfl rfl) (bk (.lst _)) (bD (.lst _) (bE _ vY).1 (bE _ vY).2 (l9 (λk=>AV.str (pg k)) vY))) (af (aS (aL (i:=4) rfl rfl) (aa (i:=1) rfl rfl) (bk (.lst _)) (bD (.lst _) (bE _ hx).1 (bE _ hx).2 (l9 (λk=>AV.str (pg k)) hx))) ao)) (dX rfl)
  refine aJ (ai:= [some (.loc ⟨b,e0⟩),some (jM pg),some (dH nd),some (.bool true),some (.lst (L.map .str)),some (.lst (ST.map sY)),some (.lst []),none,none,none,none,none]) (ae:=τ) ?_ ?_
  ·refine bZ (link:= [(4,2)]) (cZ:= [none,(eF R1).map .str,some (.lst (L.map .str))]) ⟨V.all1 rfl,V.all1 ⟨_,n4,rfl⟩,rfl,by decide+kernel,(aS (aL n4 rfl) (bJ (bH aC) bc bc) (bk (.lst _)) (fb (.lst _) (fA.int _) .none .none (by decide) Lz ht)),dF,trivial,λu w=>rfl⟩ (out:= []) (λla hla=> ?_) rfl (bo (f:=AV.str) (l:= []) (λx=>cc)) (λenv=>⟨_,rfl⟩) (λu=>rfl) (λu=>rfl) (ag n6 rfl);have ef:(R1.filter λone=>decide ((((R1.countP (· ==one):Nat)):Int)>1)).map AV.str= []:=by
    rw [yU.mpr]
    ·rfl
    ·intro a u z;have:=vo GV a;have z:=jx z;omega
   exact JF (Sg:=λo=>τ.set la (.list o)) ef (fI (C:=C.hd e oe) (k:=k+4) (sc:=bB _) (la:=la) (enc:=AV.str) (val:=AV.str) (p:=λone=>decide ((((R1.countP (· ==one):Nat)):Int)>1)) (M:=λo=> [none,o.map .str,some (.lst (L.map .str))]) (Sg:=λo=>τ.set la (.list o)) (ok:=λu=>True) (xs:=R1) (bU Pk (by decide)) (λu=>trivial) (λu=>V.set_same) (λu w=>V.set_set) rfl (λo y out hy=>ag (i:=1) rfl rfl) (λy out hy=>aq (aM (aS (aL (i:=2) rfl rfl) (bJ (bH aC) bc bc) (bk (.lst _)) (fb (.lst _) (fA.int _) .none .none (by decide) Lz ht)) (CK (.lst _)) (af (aa (i:=1) rfl rfl) ao) bp (wx (.lst _) rfl)) aC Ly rfl) (λy out hy u=>aa (i:=1) rfl rfl))
  refine aJ (ai:= [some (.loc ⟨b,e0⟩),some (jM pg),some (dH nd),some (.bool true),some (.lst (L.map .str)),some (.lst (ST.map sY)),some (.lst []),some (.lst []),none,none,none,none]) (ae:=τ) ?_ ?_
  ·have zl:ng (L.map .str) (R1.map .str)=(L.zip R1).map sY:=by delta ng;rw [List.zip_map,dP];rfl
   have Nd:ng (L.map .str) (R1.map .str)≠ []:=by
    rw [zl,hL,Mn];cases M<;>simp
   have Nt:(L.zip R1).length<=8:=by rw [List.length_zip];omega
   have IZ:=λ(x:Str) (p:Pos)=>EF (C:=C.hd e oe) (k:=k+4) (x:=x) (p:=p) Nd h0;rw [zl]at IZ;refine jK (link:= [(5,2)]) (cZ:= [none,(eF (L.zip R1)).map sY,some (.lst (ST.map sY))]) ⟨V.all1 rfl,V.all1 ⟨_,n5,rfl⟩,rfl,by decide+kernel,xF (fn:=Expr.Tuple [] 0 ⟨0,0,0,0⟩) (ar O' n10 I8) (af (aL n4 rfl) (af (aS (aL n4 rfl) (bJ (bH aC) bc bc) (bk (.lst _)) (fb (.lst _) (fA.int _) .none .none (by decide) Lz ht)) ao)) (λu=>rfl) (λu=>rfl) (λu w=>rfl),IZ _ _⟩ (out:= []) (λla hla=> ?_) rfl (bo (f:=AV.str) (l:= []) (λx=>cc)) (λenv=>⟨_,rfl⟩) (λu=>rfl) (λu=>rfl) (ag n7 rfl);have ef:((L.zip R1).filter λu=>false).map sY= []:=by rw [yU.mpr λu w=>dN];rfl
   have so: ∀p∈ST,PyData.strOk p.1=true/\PyData.strOk p.2=true:=λp hp=>by rw [hST]at hp;refine V.c12 (xl.mp hp) λkk hk hp=>kE (bM.mp hp) λj hj=>⟨hpo _ (hnk _ hk _ hj),hpo _ hk⟩
   refine JF (Sg:=λo=>τ.set la (.list o)) ef (fI (C:=C.hd e oe) (k:=k+4) (sc:=bB _) (la:=la) (enc:=sY) (val:=sY) (p:=λu=>false) (M:=λo=> [none,o.map sY,some (.lst (ST.map sY))]) (Sg:=λo=>τ.set la (.list o)) (ok:=λu=>True) (xs:=L.zip R1) (bU Nt (by decide)) (λu=>trivial) (λu=>V.set_same) (λu w=>V.set_set) rfl (λo y out hy=>ag (i:=1) rfl rfl) (λy out hy=> ?_) (λy out hy hf=>by exact tQ hf));have Nu:=N6 y hy;rw [<-hST]at Nu;have N7:=so y Nu;have cy:PyData.canLay0 (.tuple [.str y.1,.str y.2])=true:=by refine(?_:(PyData.strOk y.1 && (PyData.strOk y.2 && true))=true);rw [N7.1,N7.2];rfl
   exact aq (c:=false) (aa (i:=1) rfl rfl) (aL (i:=2) rfl rfl) (vT (ds:=ST.map λp=> .tuple [.str p.1,.str p.2]) (d:= .tuple [.str y.1,.str y.2]) (gG (.lst _) (xM (λp=>mC (d4 jq (d4 jq gJ))) ST)) (mC (d4 jq (d4 jq gJ))) (zK ST so) cy (by simp [PyData.depth,PyData.depthAll]) (by
    rw [yT.mpr ⟨_,bM.mpr ⟨y,Nu,rfl⟩,by first | exact SeqAt.eqv_refl _ cy | exact eqv_refl _ cy⟩];rfl)) rfl
  have la:(L.map AV.str)[((-1:Int)+((L.map AV.str).length:Int)).toNat]? =some (.str y):=by
   have e:L.map AV.str=(y::M).map AV.str++ [.str y]:=by rw [hL,Mn];simp
   rw [e];exact i7
  have lb: -((L.map AV.str).length:Int)<= -1:=by rw [hL];simp;omega
  have lg:decide (((L.map AV.str).length:Int)>1)=true:=lE (by rw [hL,Mn,bu,cq,cV,List.length_singleton];omega);exact tE (eT (mB (aa n3 rfl) cu (mB (eu (aD (ar O' AA I9) (af (aL n4 rfl) ao) bp (c5 (.lst _) Lz)) aC (CN lg) rfl) cu (mB (eu (aS (aL n4 rfl) aC (bk (.lst _)) (bD (x:= .str y) (.lst _) (by decide) (by decide) (by rw [hL];rfl))) (aS (aL n4 rfl) (dD aC qh) (bk (.lst _)) (j8 (.lst _) (by decide) lb (by decide) la)) (V.s_eq (beq_self_eq_true _)) rfl) cu (mB (dD (aa n6 rfl) (V.v_not (fG (.lst _) (dW _) rfl) rfl)) cu (lL (dD (aa n7 rfl) (V.v_not (fG (.lst _) (dW _) rfl) rfl))))))))
inductive yZ (pg:Int->Str) (st:Int):SS->List (List Int)->SS->Prop
 | nil {q:SS} (hr:q.rd=some []) (ha:decide (q.nf<q.po)=false) (hn:q.ks.Nodup):yZ pg st q [] q
 | cons {q q':SS} {g:List Int} {rs:List (List Int)} (hg:g≠ []) (hr:q.rd=some (g.map pg)) (hn:q.ks.Nodup) (hk: ∀x∈g.map pg,x∈q.ks) (hz:g.length<=1000) (hle:q.nf<=q.po) (hi: ∀k∈g,k∈bq) (hd:DP (q.out (g.map pg)) ((cC st g).map pg))
   (t:yZ pg st ((q.out (g.map pg)).tP ((cC st g).map pg)) rs q'):yZ pg st q (g::rs) q'
theorem AK (h:Is C):ib C k (bx b q Z) (λx=>getAttr x "done" true) (.loc ⟨b,e0⟩) (λW r=>aw W (.bm 287 ⟨b,e0⟩) r) (bx b q Z):=
 og h.ok eE dY (by rw [h.K];kernel_rfl) (by rw [h.K];kernel_rfl) (by rw [h.K];kernel_rfl) (λxs n=>by revert xs;exact kS λx0 x1 x2 x3=>by rw [h.K];kernel_rfl)
theorem qF {st:Int} {g:List Int} {x:Int}:x∈cC st g↔x∈g:=by delta cC;split<;>simp
theorem Cb {q:SS} {r:List Str}:(q.out r).nf=q.nf:=by delta SS.out;rw [nO]
theorem pe {q:SS} {g:List Str}:(q.out g).ks=q.ks:=by delta SS.out;rw [nO]
theorem lq {q:SS} {g:List Str}:(q.out g).su=q.su:=by delta SS.out;rw [nO]
theorem zP (l:List Str):(PyData.tuple (l.map .str)).depth<=9:=kW l
noncomputable def pT (pg:Int->Str) (st:Int) (q:SS) (g:List Int):SS:=(q.out (g.map pg)).tP ((cC st g).map pg)
theorem yZ.end {pg:Int->Str} {st:Int} {q q':SS} {rs:List (List Int)} (h:yZ pg st q rs q'):q'=rs.foldl (pT pg st) q/\yZ pg st q' [] q':=by
 induction h with
 | nil hr ha hn=>exact⟨rfl,.nil hr ha hn⟩
 | cons _ _ _ _ _ _ _ _ _ ih=>exact ih
theorem DK {C:V.Cx} (h:Is C) {k:Nat} {Z:V.St} {b:Nat} {q q':SS} {pg:Int->Str} {rs:List (List Int)} {st:Int} (hst:st=1\/st= -1) (hpo: ∀k∈bq,PyData.strOk (pg k)=true) (hD:yZ pg st q rs q') (hks:q'.ks=q.ks):
  V.Cd C (k+5) (bx b q Z) (.ext 474) [.loc ⟨b,e0⟩,jM pg,.lst (rs.map λg=> .lst (g.map .int)),.int st] [] (.bool true) (bx b (q'.out []) Z):=by
 have hx0:=h.hx;refine eA h.ok ⟨⟨_,_,_,by rw [h.K];exact rfl⟩,rfl,rfl,rfl,rfl,by rw [h.K];rfl,rfl,rfl,by decide+kernel⟩ [lo "sorter",ce "pages",lo "rounds",lo "step",lo "group",gi "tuple"] rfl [("sorter",.loc ⟨b,e0⟩),("pages",jM pg),("rounds",.lst (rs.map λg=> .lst (g.map .int))),("step",.int st)] _
  (bQ (kS λa0 a1 a2 a3=>rfl) rfl) rfl rfl λsc hF n hn=> ?_
 refine JB hF λn0 n1 n2 n3 n4 n5 _=>?_;clear hF;refine bG hD.end λhq' hend=>lS (q':=q'.out []) (λy hy=> ?_) (λz=>rfl) ?_ True.intro
 ·rw [pe];exact hks▸hy
 have comp:=λ(la:V.Loc) (τ:V.St) (xs:List Int) (hin: ∀x∈xs,x∈bq) (hz:xs.length<=1000) (elt:Expr) (scope:Scope) (pos:Pos) (gens:List Comprehension) (g:Comprehension) (e':g.ifs= []) ha hv=>hU (C:=C) (k:=k+4) (sc:=bB scope) (elt:=elt) (pos:=pos) (scope:=scope) (gens:=gens) (g:=g) (la:=la) (enc:=AV.int) (val:=λj=>AV.str (pg j)) (M:=λo=> [none,o.map .int,some (jM pg)]) (Sg:=λo=>τ.set la (.list o)) (ok:=λu=>True) (xs:=xs) (bU hz (by decide)) (λu=>trivial) (λu=>V.set_same) (λu v=>V.set_set) e' ha hv;have em: ∀xs:List Int,xs.map (λj=>AV.str (pg j))=(xs.map pg).map .str:=λxs=>by rw [dP];rfl
 simp only [em]at comp;have pr:(rs.foldl (λ(a:SS×Option AV) g=>(pT pg st a.1 g,some (AV.lst (g.map .int)))) (q,none)).1=q':=by
  have: ∀(xs:List (List Int)) (a:SS×Option AV),(xs.foldl (λ(a:SS×Option AV) g=>(pT pg st a.1 g,some (AV.lst (g.map .int)))) a).1=xs.foldl (pT pg st) a.1:=by
   intro xs
   induction xs with
   | nil=>intro a;rfl
   | cons x xs ih=>intro a;rw [cX,ih];rfl
  rw [this,hq']
 obtain⟨lo,hlo⟩: ∃lo:Option AV,rs.foldl (λ(a:SS×Option AV) g=>(pT pg st a.1 g,some (AV.lst (g.map .int)))) (q,none)=(q',lo):=⟨_,Prod.ext pr rfl⟩;refine iH (aa n2 rfl) (dF) trivial (KL (C:=C) (k:=k+4) (sc:=sc) (ok:=λu=>True) (enc:=λg:List Int=>AV.lst (g.map .int))
    (M:=λ(a:SS×Option AV)=> [some (.loc ⟨b,e0⟩),some (jM pg),some (.lst (rs.map λg=> .lst (g.map .int))),some (.int st),a.2,none])
    (Sg:=λa=>bx b a.1 Z) (step:=λa g=>(pT pg st a.1 g,some (.lst (g.map .int)))) (P:=λa xs=>yZ pg st a.1 xs q')
    (λu v w=>trivial) (λa g xs hP=>by cases hP with | cons _ _ _ _ _ _ _ _ t=>exact t) ?_ rs (q,none) hD hlo) (λu v=>rfl) ?_
 ·rintro ⟨a,o⟩ g xs hP
  have hP:yZ pg st a (g::xs) q':=hP;cases hP with
  | cons hg hr hn hk gz hle hi hd t=>
  have gl:(g.map pg).length<=1000:=by rw [bu];exact gz
  have ge:((g.map pg).isEmpty)=false:=by cases g with | nil=>exact absurd rfl hg | cons=>rfl
  have po:decide ((a.out (g.map pg)).nf<(a.out (g.map pg)).po)=true:=by rw [Cb];refine(?_:decide (a.nf<a.po+((g.map pg).length:Nat))=true);have:0<g.length:=List.length_pos_iff.mpr hg;rw [bu,pL];omega
  have hi': ∀k∈cC st g,k∈bq:=λk hk=>hi k (qF.mp hk);have so: ∀x∈g.map pg,PyData.strOk x=true:=λx hx=>by refine kE (bM.mp hx) λk hk=>hpo k (hi k hk)
  refine cx (ag n4 rfl) ?_;refine cg (aY (ba (aq (c:=false) (aM (aa n0 rfl) (jW h eE dY) ao (KX h rfl) (V.Cd.ca (nX h (k:=k+1) hr gl))) dS (xY (by rw [ge];simp)) rfl) (ba (aq (c:=false) (aM (aa n0 rfl) (mM h eE dY) ao (KX h rfl) (V.Cd.ca (yG h (k:=k+1) hr gl hn hk))) (aD (ar h.ok n5 (yd h)) (af (cp (link:= [(1,2)]) (out:=((g).map pg).map .str) (cZ:= [none,(eF (g)).map .int,some (jM pg)]) ⟨V.all1 rfl,V.all1 ⟨_,n1,rfl⟩,rfl,by decide+kernel,(aa n4 rfl),dF,trivial,λu v=>rfl⟩ (λla hla=>comp la _ (g) hi (by first | exact gz | (rw [eR];exact gz)) _ _ _ _ _ rfl (λo y out hy=>ag (i:=1) rfl rfl) (λy out hy=>aS (aL (i:=2) rfl rfl) (aa (i:=1) rfl rfl) (bk (.lst _)) (bD (.lst _) (bE _ (hi y hy)).1 (bE _ (hi y hy)).2 (l9 (λk=>AV.str (pg k)) (hi y hy))))) rfl (bo (f:=AV.str) (λx=>cc))) ao) cL (qg (.lst _) (aV (m:=1000) (by rw [bu];exact gl) (by decide)))) (nS (d:= .tuple ((g.map pg).map .str)) (mC (ja _)) (mC (ja _)) (oN _ so) (zP _)) rfl) cj))) ?_;exact cg (aY (ba (aq (c:=false) (aM (aa n0 rfl) (jW h eE dY) ao (KX h rfl) (V.Cd.ca (nX h (k:=k+1) (r:= []) rfl (dW _)))) dS (xY (by rw [po];rfl)) rfl) (ba (aq (c:=false) (Dr (aa n0 rfl) (AK h) (cp (link:= [(1,2)]) (out:=((cC st g).map pg).map .str) (cZ:= [none,(eF (cC st g)).map .int,some (jM pg)]) ⟨V.all1 rfl,V.all1 ⟨_,n1,rfl⟩,rfl,by decide+kernel,(aS (aa n4 rfl) (bJ bc bc (bH (aa n3 rfl))) (bk (.lst _)) (fb (.lst _) .none .none (fA.int _) (by rcases hst with rfl | rfl<;>decide) (aV (m:=1000) (by rw [bu];exact gz) (by decide)) (Ct hst g))),dF,trivial,λu v=>rfl⟩ (λla hla=>comp la _ (cC st g) hi' (by first | exact gz | (rw [eR];exact gz)) _ _ _ _ _ rfl (λo y out hy=>ag (i:=1) rfl rfl) (λy out hy=>aS (aL (i:=2) rfl rfl) (aa (i:=1) rfl rfl) (bk (.lst _)) (bD (.lst _) (bE _ (hi' y hy)).1 (bE _ (hi' y hy)).2 (l9 (λk=>AV.str (pg k)) (hi' y hy))))) rfl (bo (f:=AV.str) (λx=>cc))) (.lst _) (aV (m:=1000) (by rw [bu,bu,eR];exact gz) (by decide)) (C5 h.ok ⟨_,_,_,_,by rw [h.K];exact rfl⟩) (B8 (Im h (k:=k+1) hd (by rw [bu,eR];exact gz))) (λu v=>rfl) (λu=>rfl) (λu=>rfl)) bV (cQ fN) rfl) cj))) bz
 ·cases hend with
  | nil hr ha hn=>
  exact bP (eT (mB (eu (aM (aa n0 rfl) (jW h eE dY) ao (KX h rfl) (V.Cd.ca (nX h (k:=k+1) hr (dW _)))) dS (MJ (c:=true) (by rw [ha];rfl)) rfl) cu (lL (eu (aM (aa n0 rfl) (mM h eE dY) ao (KX h rfl) (V.Cd.ca (yG h (k:=k+1) hr (dW _) hn (λx hx=>by exact jc hx)))) (cU ao (dX rfl)) (yx (d:= .tuple []) (mC gJ) (mC gJ) (by decide+kernel) (by decide+kernel)) rfl))))
noncomputable def d8:List Int:= [1558,5385,7183,688,5770,7845]
noncomputable def fx (k:Int):Int:=d8[k.toNat]?.getD 0
theorem Kd: ∀k∈bq,0<=k/\k<1000000/\d8[k.toNat]? =some (fx k):=by decide
noncomputable def numAt (ns:List Int) (k:Int):Int:=fx k+(eS ns (some k) none (some 6)).sum
noncomputable def Mb (n:Int):List Int:= [(n.fdiv 16).fmod 7,(n.fdiv 112).fmod 7].filter λj=>decide (j<6)
noncomputable def stOf (t:Int):Int:=if bit (t.fdiv 6)then -1 else 1
noncomputable def ir (t k:Int):Int:=(t+k).fmod 6
section
variable (nA:Int->Int)
noncomputable def jH (k:Int):Str:=A7 k (nA k)
noncomputable def tL (k:Int):List Int:=Mb (nA k)
noncomputable def uG (k:Int):List Str:=(ix (tL nA k).length).map λi=>fQ (jH nA k) (jH nA ((tL nA k)[i.toNat]?.getD 0)) ((nA k).fdiv 3136+i)
noncomputable def qA (k:Int):Int:=(nA k).fdiv 784
noncomputable def w8 (k:Int):Str:=lay (qA nA k) (uG nA k)
noncomputable def Ej (k:Int):List Str:=partsOf (qA nA k) (uG nA k)
noncomputable def mV (oA:Int->Int):List (Str×Str):=bq.map λi=>(jH nA (oA i),w8 nA (oA i))
noncomputable def tO (oA:Int->Int):SS:=gN (bq.map λi=>(jH nA (oA i),(tL nA (oA i)).map (jH nA))) q0
end
theorem nP (n:Int):(Mb n).length<=2:=Bx _ _
theorem pf (n:Int): ∀j∈Mb n,j∈bq:=by
 intro j hj;delta Mb at hj;have hm:=kO.mp hj;have h6:=jx hm.2;have h0:0<=j:=by
  refine aP (cI.mp hm.1) (λq=>?_) λh=>?_
  ·subst q;exact E7 _ (by decide)
  ·obtain rfl:=i8.mp h;exact E7 _ (by decide)
 exact DY h0 h6
theorem wm (t k:Int):ir t k∈bq:=DY (E7 _ (by decide)) (Int.fmod_lt_of_pos _ (by decide))
structure Plan (nA oA:Int->Int) (st:Int) (rs:List (List Int)) (q':SS):Prop where
 pg: ∀k∈bq,KP (jH nA k)/\V.B (jH nA k) 100/\(0<=Txt.count (jH nA k) "/"/\Txt.count (jH nA k) "/"<100)/\PyData.strOk (jH nA k)=true
 tx: ∀k∈bq,∀x∈uG nA k,x.length<=100/\x.cps.all nF=true
 ho:wR (mV nA oA)
 h2: ∀c∈(kA (mV nA oA)).cps.toList,c<256
 hl:L7 (kA (mV nA oA))
 hsp:Txt.split (kA (mV nA oA)) crlf=(bq.map λi=>lineOf (jH nA (oA i),w8 nA (oA i)))++ [Str.empty,Str.empty]
 row: ∀k∈bq,Dd (jH nA k) (w8 nA k) (Ej nA k) ((tL nA k).map (jH nA))
 nm: ∀x∈dc (bq.map oA) (tL nA),x∈bq
 N8:st=1\/st= -1
 rn:sE st (bq.map oA) (tL nA) [] (Iz (tL nA) (dc (bq.map oA) (tL nA))) rs
 rz:rs.length<=1000
 rg: ∀g∈rs,g.length<=1000
 gp:DM (tO nA oA)
 rd:(tO nA oA).rd=none
 res: ∀res,L2 (tO nA oA).su (tO nA oA).ks res->res.isSome=decide (((rs.map λg=>(g.length:Int)).sum)<6)
 su: ∀x,∀y∈(tO nA oA).su x,∃k∈bq,∃j∈tL nA k,jH nA j=x/\jH nA k=y
 dv:yZ (jH nA) st (tO nA oA).prep rs q'
 dk:q'.ks=(tO nA oA).ks
theorem La (h:Is C) (hz:ns.length<=1000) (P:Plan (numAt ns) (ir ns.sum) (stOf ns.sum) rs q'):
  V.Cd C (k+8) Z (.ext 479) [.lst (ns.map .int)] [] (.bool true) Z:=by
 have hx0:=h.hx;refine eA h.ok ⟨⟨_,_,_,by rw [h.K];exact rfl⟩,rfl,rfl,rfl,rfl,by rw [h.K];rfl,rfl,rfl,by decide+kernel⟩ [ce "script",ce "fixed",ce "turn",lo "k",ce "numbers",lo "order",lo "step",ce "pages",ce "needs",ce "texts",lo "table",lo "parts",lo "sorter",lo "rounds",lo "free",gi "sum",gi "range",gi "_law_pages",gi "Headers",gi "_law_lay",gi "_law_told",gi "_law_rounds",gi "_law_begun",gi "_law_driven"] rfl [("script",.lst (ns.map .int))] _
  (bQ (gA λa0=>rfl) rfl) rfl rfl λsc hF n hn=> ?_
 refine tK hF λn0 n1 n2 n3 n4 n5 n6 n7 r=>tK r λn8 n9 n10 AA n12 n13 n14 n15 s=>tK s λn16 n17 n18 n19 n20 n21 n22 n23 _=>?_;clear hF;obtain⟨t0,ht0⟩: ∃t0,t0=ns.sum:=⟨_,rfl⟩;obtain⟨nA,hnA⟩: ∃nA,nA=numAt ns:=⟨_,rfl⟩;obtain⟨oA,tI⟩: ∃oA,oA=ir t0:=⟨_,rfl⟩;obtain⟨st,hst⟩: ∃st,st=stOf t0:=⟨_,rfl⟩;rw [<-ht0,<-hnA,<-tI,<-hst]at P;obtain⟨nd,hnd⟩: ∃nd,nd=tL nA:=⟨_,rfl⟩;obtain⟨pg,wa⟩: ∃pg,pg=jH nA:=⟨_,rfl⟩;obtain⟨tx,htx⟩: ∃tx,tx=uG nA:=⟨_,rfl⟩;have Ja: ∀k,(nd k).length<=2:=λk=>by rw [hnd];exact nP _
 have Jb: ∀k∈bq,∀j∈nd k,j∈bq:=λk u=>by rw [hnd];exact pf _
 have N9: ∀k,(tx k).length<=2:=λk=>by have:=Ja k;rw [hnd]at this;rw [htx];delta uG ix;rw [bu,bu,Cz];exact this
 have oi: ∀i∈bq,oA i∈bq:=λi u=>by rw [tI];exact wm _ _
 have hsl:(ns.map AV.int).length<=sizeLine:=aV (m:=1000) (by rw [bu];exact hz) (by decide);have Jc:=P.pg;rw [<-wa]at Jc;have Nv:=P.tx;rw [<-htx]at Nv;have h':L6 C.up:=⟨⟨h.ok.up,h.K,h.hx⟩,Nat.succ_pos _⟩;have hup:C.up.hx=none:=h.hx;have I6:=λtgt=>cM (tgt:=tgt) (C:=C) (k:=k+7) (a:=0) (b:=6) (by decide) (by decide) (by decide);have Nw:=λtgt=>cM (tgt:=tgt) (C:=C.up) (k:=k+7) (a:=0) (b:=6) (by decide) (by decide) (by decide) (qM hup);simp only [Fx]at I6 Nw;have Oa: ∀hs,Cl (n+3) (cB n hs Z):=λhs l hl=>by rw [lN (.inr (by refine(?_:n+2<l.tag);omega))];exact hn l (by omega)
 refine hH (cP:=bx (n+3) (q'.out []) (cB n (mV nA oA) Z)) ?_ ⟨λl o e=> ?_,λu z=>z,λu w z=> .inl z,.inl ⟨rfl,True.intro⟩⟩;rotate_left
 ·have hl:l.tag<n:=by
   refine aP (oZ l.tag n) (λz=>?_) λz=>?_
   ·exact z
   ·rw [hn l z]at e;exact dC e
  rw [Bl (by omega),lN (.inl hl)];exact e
 refine aE (ai:= [some (.lst (ns.map .int)),some (.lst (d8.map .int)),some (.int t0),none,none,none,none,none,none,none,none,none,none,none,none,none,none,none,none,none,none,none,none,none]) (ae:=Z) (by rw [ht0];exact oH (cU (af (gX (af aC (af aC (af aC (af aC (af aC (af aC ao)))))) (dX rfl)) (af (aD (ar h.ok n15 (AZ h)) (af (aL n0 rfl) ao) bp (Dx (.lst _) hx0)) ao)) (dX rfl)) (i0 (cE (dm n1 rfl) (cE (dm n2 rfl) kq)) rfl (λu=>rfl) (λu=>rfl) hx0) (λu=>rfl) (λenv hk hb=>wU (by rw [hk 1 "fixed" .cell n1];rfl) hb rfl) (λu=>rfl)) ?_;refine aE (ai:= [some (.lst (ns.map .int)),some (.lst (d8.map .int)),some (.int t0),none,some (inV nA),none,none,none,none,none,none,none,none,none,none,none,none,none,none,none,none,none,none,none]) (ae:=Z) (bZ (link:= [(1,3),(0,4)]) (out:=bq.map λk=> .int (nA k)) (cZ:= [none,(eF bq).map .int,none,some (.lst (d8.map .int)),some (.lst (ns.map .int))]) ⟨V.all1 rfl,V.all2 ⟨_,n1,rfl⟩ ⟨_,n0,rfl⟩,rfl,by decide+kernel,(aD (ar h.ok n16 (dG h)) (af aC ao) cL cS),I6 _,trivial,λu w=>rfl⟩ (λla hla=> ?_) rfl (bo (λx=>fK)) (λenv=>⟨_,rfl⟩) (λu=>rfl) (λu=>rfl) (dm n4 rfl)) ?_
 ·refine hU (C:=C) (k:=k+7) (sc:=bB _) (la:=la) (enc:=AV.int) (val:=λk=>AV.int (nA k)) (M:=λo=> [none,o.map .int,none,some (.lst (d8.map .int)),some (.lst (ns.map .int))]) (Sg:=λo=>Z.set la (.list o)) (ok:=λu=>True) (xs:=bq) (by decide) (λu=>trivial) (λu=>V.set_same) (λu w=>V.set_set) rfl (λo y out hy=>ag (i:=1) rfl rfl) (λx out hx=> ?_);refine nR (Kd x hx) λk1 k2 k3=>?_;rw [hnA];exact ay (aS (aL (i:=3) rfl rfl) (aa (i:=1) rfl rfl) (bk (.lst _)) (bD (.lst _) k1 k2 (by rw [gq,k3];rfl))) (aD (ar h.ok (i:=2) rfl (AZ h)) (af (aS (aL (i:=4) rfl rfl) (bJ (bH (aa (i:=1) rfl rfl)) bc (bH aC)) (bk (.lst _)) (fb (.lst _) (fA.int _) .none (fA.int _) (by decide) hsl (Ar AV.int ns _ _ _))) ao) bp (Dx (.lst _) hx0)) qZ
 refine aE (ai:= [some (.lst (ns.map .int)),some (.lst (d8.map .int)),some (.int t0),none,some (inV nA),some (inV oA),none,none,none,none,none,none,none,none,none,none,none,none,none,none,none,none,none,none]) (ae:=Z) (bZ (link:= [(2,2)]) (out:=bq.map λi=> .int (oA i)) (cZ:= [none,(eF bq).map .int,some (.int t0)]) ⟨V.all1 rfl,V.all1 ⟨_,n2,rfl⟩,rfl,by decide+kernel,(aD (ar h.ok n16 (dG h)) (af aC ao) cL cS),I6 _,trivial,λu w=>rfl⟩ (λla hla=> ?_) rfl (bo (λx=>fK)) (λenv=>⟨_,rfl⟩) (λu=>rfl) (λu=>rfl) (ag n5 rfl)) ?_
 ·refine hU (C:=C) (k:=k+7) (sc:=bB _) (la:=la) (enc:=AV.int) (val:=λi=>AV.int (oA i)) (M:=λo=> [none,o.map .int,some (.int t0)]) (Sg:=λo=>Z.set la (.list o)) (ok:=λu=>True) (xs:=bq) (by decide) (λu=>trivial) (λu=>V.set_same) (λu w=>V.set_set) rfl (λo y out hy=>ag (i:=1) rfl rfl) (λx out hx=> ?_);rw [tI];exact ay (ay (aL (i:=2) rfl rfl) (aa (i:=1) rfl rfl) qZ) aC (du (by decide) rfl)
 refine Kz (v:= .int st) n6 (ai:= [some (.lst (ns.map .int)),some (.lst (d8.map .int)),some (.int t0),none,some (inV nA),some (inV oA),none,none,none,none,none,none,none,none,none,none,none,none,none,none,none,none,none,none]) (ae:=Z) ?_ (λu=>rfl) (λu=>rfl) ?_
 ·rw [hst];delta stOf;rcases hb:bit (t0.fdiv 6)with _ | _
  ·exact b8 (b:=false) (aX (b:=false) (ay (ay (aL n2 rfl) aC (gw (by decide) rfl rfl)) aC (du (by decide) rfl)) (cY hb)) aC
  ·exact b8 (b:=true) (aX (b:=true) (ay (ay (aL n2 rfl) aC (gw (by decide) rfl rfl)) aC (du (by decide) rfl)) (cY hb)) (dD aC qh)
 refine aE (ai:= [some (.lst (ns.map .int)),some (.lst (d8.map .int)),some (.int t0),none,some (inV nA),some (inV oA),some (.int st),some (jM pg),none,none,none,none,none,none,none,none,none,none,none,none,none,none,none,none]) (ae:=Z) ?_ ?_
 ·rw [wa];exact(au (aD (ar h'.ok n17 (rV h'.toIs)) (af (aL n4 rfl) ao) (KX h'.toIs rfl) (V.Cd.ca (EI h'.toIs (k:=k+6)))) (dm n7 rfl))
 refine aE (ai:= [some (.lst (ns.map .int)),some (.lst (d8.map .int)),some (.int t0),none,some (inV nA),some (inV oA),some (.int st),some (jM pg),some (dH nd),none,none,none,none,none,none,none,none,none,none,none,none,none,none,none]) (ae:=Z) (bZ (link:= []) (out:=bq.map λk=> .lst ((nd k).map .int)) (cZ:= [none,(eF bq).map λk=> .int (nA k)]) ⟨V.all1 rfl,wc,rfl,by decide+kernel,(aL n4 rfl),dF (qM hup),trivial,λu w=>rfl⟩ (λla hla=> ?_) rfl (bo (λx=>km (bo (λx=>fK)))) (λenv=>⟨_,rfl⟩) (λu=>rfl) (λu=>rfl) (dm n8 rfl)) ?_
 ·refine hU (C:=C.up) (k:=k+7) (sc:=bB _) (la:=la) (enc:=λk=>AV.int (nA k)) (val:=λk=>AV.lst ((nd k).map .int)) (M:=λo=> [none,o.map λk=> .int (nA k)]) (Sg:=λo=>Z.set la (.list o)) (ok:=λu=>True) (xs:=bq) (by decide) (λu=>trivial) (λu=>V.set_same) (λu w=>V.set_set) rfl (λo y out hy=>ag (i:=1) rfl rfl) (λx out hx=> ?_);have e2:(([(nA x).fdiv 16 |>.fmod 7,(nA x).fdiv 112 |>.fmod 7]:List Int).filter λj=>decide (j<6)).map AV.int=(nd x).map .int:=by rw [hnd];rfl
  refine cp (link:= []) (out:=(nd x).map .int) (cZ:= [none,(eF [(nA x).fdiv 16 |>.fmod 7,(nA x).fdiv 112 |>.fmod 7]).map .int]) ⟨V.all1 rfl,wc,rfl,by decide+kernel,cU (af (ay (ay (aa (i:=1) rfl rfl) aC (gw (by decide) rfl rfl)) aC (du (by decide) rfl)) (af (ay (ay (aa (i:=1) rfl rfl) aC (gw (by decide) rfl rfl)) aC (du (by decide) rfl)) ao)) (dX rfl),iA hup,trivial,λu w=>rfl⟩ (λD5 hla'=> ?_) rfl (bo (f:=AV.int) (λx=>fK));rw [<-e2];exact fI (enc:=AV.int) (val:=AV.int) (p:=λj=>decide (j<6)) (M:=λo=> [none,o.map .int]) (Sg:=λo=>(Z.set la (.list out)).set D5 (.list o)) (xs:= [(nA x).fdiv 16 |>.fmod 7,(nA x).fdiv 112 |>.fmod 7]) (show 2<=1000000 by decide) (λu=>trivial) (λu=>V.set_same) (λu w=>V.set_set) rfl (λo y out hy=>ag (i:=1) rfl rfl) (λy out hy=>aq (aa (i:=1) rfl rfl) aC Ig rfl) (λy out hy u=>(aa (i:=1) rfl rfl))
 refine aE (ai:= [some (.lst (ns.map .int)),some (.lst (d8.map .int)),some (.int t0),none,some (inV nA),some (inV oA),some (.int st),some (jM pg),some (dH nd),some (yi tx),none,none,none,none,none,none,none,none,none,none,none,none,none,none]) (ae:=Z) (bZ (link:= [(8,4),(4,5),(7,6)]) (out:=bq.map λk=> .lst ((tx k).map .str)) (cZ:= [none,(eF bq).map .int,none,none,some (dH nd),some (inV nA),some (jM pg)]) ⟨V.all1 rfl,vd ⟨_,n8,rfl⟩ (V.all2 ⟨_,n4,rfl⟩ ⟨_,n7,rfl⟩),rfl,by decide+kernel,(aD (ar h'.ok n16 (dG h'.toIs)) (af aC ao) cL cS),Nw _,trivial,λu w=>rfl⟩ (λla hla=> ?_) rfl (bo (λx=>km (bo (λx=>cc)))) (λenv=>⟨_,rfl⟩) (λu=>rfl) (λu=>rfl) (dm n9 rfl)) ?_
 ·refine hU (C:=C.up) (k:=k+7) (sc:=bB _) (la:=la) (enc:=AV.int) (val:=λk=>AV.lst ((tx k).map .str)) (M:=λo=> [none,o.map .int,none,none,some (dH nd),some (inV nA),some (jM pg)]) (Sg:=λo=>Z.set la (.list o)) (ok:=λu=>True) (xs:=bq) (by decide) (λu=>trivial) (λu=>V.set_same) (λu w=>V.set_set) rfl (λo y out hy=>dm (i:=1) rfl rfl) (λx out hx=> ?_);have nl:=Ja x;have e2:((ix (nd x).length).map λi=>AV.str (fQ (pg x) (pg ((nd x)[i.toNat]?.getD 0)) ((nA x).fdiv 3136+i)))=(tx x).map .str:=by rw [htx];delta uG;rw [dP,hnd,wa];rfl
  have IR:=λtgt=>cM (tgt:=tgt) (C:=C.up) (k:=k+7) (a:=0) (b:=((nd x).length:Int)) (by decide) (by omega) (by omega) (qM hup);simp only [xN]at IR;have bd: ∀i∈ix (nd x).length,0<=i/\i<1000000/\(nd x)[i.toNat]? =some ((nd x)[i.toNat]?.getD 0):=λi hi=>by delta ix at hi;refine kE (bM.mp hi) λj hj=>?_;rw [An]at hj;rw [vH,nv hj];exact nB (Int.natCast_nonneg j) (by omega) rfl
  have ln:=c5 (C:=C.up) (k:=k+7) (Z:=Z.set la (.list out)) (.lst ((nd x).map AV.int)) (aV (m:=2) (by rw [bu];exact nl) (by decide));rw [bu]at ln;refine cp (link:= [(1,3),(4,4),(5,5),(6,6)]) (out:=(tx x).map .str) (cZ:= [none,(eF (ix (nd x).length)).map .int,none,some (.int x),some (dH nd),some (inV nA),some (jM pg)]) ⟨V.all1 rfl,vd ⟨_,rfl,rfl⟩ (vd ⟨_,rfl,rfl⟩ (V.all2 ⟨_,rfl,rfl⟩ ⟨_,rfl,rfl⟩)),rfl,by decide+kernel,(aD (ar h'.ok (i:=2) rfl (dG h'.toIs)) (af (aD (ar h'.ok (i:=3) rfl (fC h'.toIs)) (af (aS (aL (i:=4) rfl rfl) (aL (i:=1) rfl rfl) (bk (.lst _)) (bD (.lst _) (bE _ hx).1 (bE _ hx).2 (l9 (λk=>AV.lst ((nd k).map .int)) hx))) ao) bp ln) ao) cL cS),IR _,trivial,λu w=>rfl⟩ (λD5 hla'=> ?_) rfl (bo (f:=AV.str) (λx=>cc));rw [<-e2];refine hU (enc:=AV.int) (val:=λi=>AV.str (fQ (pg x) (pg ((nd x)[i.toNat]?.getD 0)) ((nA x).fdiv 3136+i))) (M:=λo=> [none,o.map .int,none,some (.int x),some (dH nd),some (inV nA),some (jM pg)]) (Sg:=λo=>(Z.set la (.list out)).set D5 (.list o)) (xs:=ix (nd x).length) (by delta ix;rw [bu,Cz];omega) (λu=>trivial) (λu=>V.set_same) (λu w=>V.set_set) rfl (λo y out hy=>ag (i:=1) rfl rfl) (λi out hi=> ?_);refine nR (bd i hi) λb0 b1 b2=>?_;obtain⟨j,hj⟩: ∃j,j=(nd x)[i.toNat]?.getD 0:=⟨_,rfl⟩;rw [<-hj]at b2⊢;have Mo:j∈bq:=Jb x hx j (ip b2);have bj:((nd x).map AV.int)[i.toNat]? =some (.int j):=by rw [gq,b2];rfl
  exact(aD (ar h'.ok (i:=2) rfl (vJ h'.toIs)) (af (aS (aL (i:=6) rfl rfl) (aL (i:=3) rfl rfl) (bk (.lst _)) (bD (.lst _) (bE _ hx).1 (bE _ hx).2 (l9 (λk=>AV.str (pg k)) hx))) (af (aS (aL (i:=6) rfl rfl) (aS (aS (aL (i:=4) rfl rfl) (aL (i:=3) rfl rfl) (bk (.lst _)) (bD (.lst _) (bE _ hx).1 (bE _ hx).2 (l9 (λk=>AV.lst ((nd k).map .int)) hx))) (aa (i:=1) rfl rfl) (bk (.lst _)) (bD (.lst _) b0 b1 bj)) (bk (.lst _)) (bD (.lst _) (bE _ Mo).1 (bE _ Mo).2 (l9 (λk=>AV.str (pg k)) Mo))) (af (ay (ay (aS (aL (i:=5) rfl rfl) (aL (i:=3) rfl rfl) (bk (.lst _)) (bD (.lst _) (bE _ hx).1 (bE _ hx).2 (l9 (λk=>AV.int (nA k)) hx))) aC (gw (by decide) rfl rfl)) (aa (i:=1) rfl rfl) qZ) ao))) (KX h'.toIs rfl) (Hf h'.toIs (k:=k+6) (Jc x hx).2.1 (Jc j Mo).2.1 (Jc x hx).2.2.1))
 have mk:=rD h'.ok (k:=k+6) (c:=184) (fi:=76) (kw:= []) (as:= []) (Z:=Z) (l:=⟨n,e0⟩) (d:=⟨n+1,e0⟩) (by rw [h'.K];kernel_rfl) (by rw [h'.K];kernel_rfl) (by rw [h'.K];kernel_rfl) (hn _ (bT _)) (hn _ (by exact gO _ _)) (by exact L1.kD rfl) (Fu h'.toIs (k:=k+5) (Z:=Z) (t:=n) (hn _ (by exact gO _ _)));refine aE (ai:= [some (.lst (ns.map .int)),some (.lst (d8.map .int)),some (.int t0),none,some (inV nA),some (inV oA),some (.int st),some (jM pg),some (dH nd),some (yi tx),some (.loc ⟨n,e0⟩),none,none,none,none,none,none,none,none,none,none,none,none,none]) (ae:=cB n [] Z) (au (aD (ar h'.ok n18 (Ah h'.toIs)) ao (KX h'.toIs rfl) mk) (ag n10 rfl)) ?_;refine iH (aa n5 rfl) (dF (qM hup)) trivial (KL (C:=C.up) (k:=k+7) (sc:=sc) (ok:=λu=>True) (enc:=λi=>AV.int (oA i))
    (M:=λ(a:List (Str×Str)×Option Int)=> [some (.lst (ns.map .int)),some (.lst (d8.map .int)),some (.int t0),a.2.map .int,some (inV nA),some (inV oA),some (.int st),some (jM pg),some (dH nd),some (yi tx),some (.loc ⟨n,e0⟩),none,none,none,none,none,none,none,none,none,none,none,none,none])
    (Sg:=λa=>cB n a.1 Z) (step:=λa i=>(a.1++ [(pg (oA i),lay (qA nA (oA i)) (tx (oA i)))],some (oA i))) (P:=λa xs=>a.1.length+xs.length<=1000/\ ∀x∈xs,x∈bq)
    (λu w u1=>trivial) (λa x xs hP=>⟨by have:=hP.1;simp only [cV,cq,ic]at this⊢;omega,λy hy=>hP.2 y (.tail _ hy)⟩) ?_ bq ([],none) ⟨by decide,λu z=>z⟩ (z:=(mV nA oA,some (oA 5))) (by rw [wa,htx];rfl)) (λu w=>rfl) ?_
 ·rintro ⟨a,o⟩ i xs ⟨hl,hP⟩
  have hi:=hP i (.head _);have hx:=oi i hi;have hl:a.length+(xs.length+1)<=1000:=hl;refine cx (ag n3 rfl) ?_;exact aJ (cv (aD (ar h'.ok n19 (xG h'.toIs)) (af (aa n10 rfl) (af (aS (aL n7 rfl) (aa n3 rfl) (bk (.lst _)) (bD (.lst _) (bE _ hx).1 (bE _ hx).2 (l9 (λk=>AV.str (pg k)) hx))) (af (ay (aS (aL n4 rfl) (aa n3 rfl) (bk (.lst _)) (bD (.lst _) (bE _ hx).1 (bE _ hx).2 (l9 (λk=>AV.int (nA k)) hx))) aC (gw (by decide) rfl rfl)) (af (aS (aL n9 rfl) (aa n3 rfl) (bk (.lst _)) (bD (.lst _) (bE _ hx).1 (bE _ hx).2 (l9 (λk=>AV.lst ((tx k).map .str)) hx))) ao)))) (KX h'.toIs rfl) (V.Cd.ca (JR h' (k:=k+4) (Jc _ hx).1 (Nv _ hx) (N9 _) (by omega))))) bz
 obtain⟨kz,hkz⟩: ∃kz,kz=(some (oA 5)).map AV.int:=⟨_,rfl⟩;dsimp only;rw [<-hkz];refine aE (ai:= [some (.lst (ns.map .int)),some (.lst (d8.map .int)),some (.int t0),kz,some (inV nA),some (inV oA),some (.int st),some (jM pg),some (dH nd),some (yi tx),some (.loc ⟨n,e0⟩),some (.lst (bq.map λk=> .lst ((Ej nA k).map .str))),none,none,none,none,none,none,none,none,none,none,none,none]) (ae:=cB n (mV nA oA) Z) (bZ (link:= [(4,3),(9,4)]) (out:=bq.map λk=> .lst ((Ej nA k).map .str)) (cZ:= [none,(eF bq).map .int,none,some (inV nA),some (yi tx)]) ⟨V.all1 rfl,V.all2 ⟨_,n4,rfl⟩ ⟨_,n9,rfl⟩,rfl,by decide+kernel,(aD (ar h'.ok n16 (dG h'.toIs)) (af aC ao) cL cS),Nw _,trivial,λu w=>rfl⟩ (λla hla=> ?_) rfl (bo (λx=>km (bo (λx=>cc)))) (λenv=>⟨_,rfl⟩) (λu=>rfl) (λu=>rfl) (ag AA rfl)) ?_
 ·refine hU (C:=C.up) (k:=k+7) (sc:=bB _) (la:=la) (enc:=AV.int) (val:=λk=>AV.lst ((Ej nA k).map .str)) (M:=λo=> [none,o.map .int,none,some (inV nA),some (yi tx)]) (Sg:=λo=>V.St.set _ la (.list o)) (ok:=λu=>True) (xs:=bq) (by decide) (λu=>trivial) (λu=>V.set_same) (λu w=>V.set_set) rfl (λo y out hy=>ag (i:=1) rfl rfl) (λx out hx=> ?_);have ep:Ej nA x=partsOf (qA nA x) (tx x):=by rw [htx];rfl
  rw [ep];exact(aD (ar h'.ok (i:=2) rfl (tw h'.toIs)) (af (ay (aS (aL (i:=3) rfl rfl) (aa (i:=1) rfl rfl) (bk (.lst _)) (bD (.lst _) (bE _ hx).1 (bE _ hx).2 (l9 (λk=>AV.int (nA k)) hx))) aC (gw (by decide) rfl rfl)) (af (aS (aL (i:=4) rfl rfl) (aa (i:=1) rfl rfl) (bk (.lst _)) (bD (.lst _) (bE _ hx).1 (bE _ hx).2 (l9 (λk=>AV.lst ((tx k).map .str)) hx))) ao)) (KX h'.toIs rfl) (V.Cd.ca (Ez h'.toIs (k:=k+6) (λy hy=>(Nv x hx y hy).1) (N9 _))))
 have told:=V.Cd.ca (G9 h'.toIs (k:=k) (Z:=Z) (t:=n) (b:=n+3) (oA:=oA) (pg:=pg) (vl:=w8 nA) (pt:=Ej nA) (nd:=nd) (by rw [wa];exact Oa _) (by rw [wa];exact P.ho) (by rw [wa];exact P.h2) (by rw [wa];exact P.hl) (by rw [wa];exact P.hsp) oi Ja Jb (by rw [wa,hnd];exact P.row));have eq1:gN (bq.map λi=>(pg (oA i),(nd (oA i)).map pg)) q0=tO nA oA:=by rw [wa,hnd];rfl
 have eq2:(bq.map λi=>(pg (oA i),w8 nA (oA i)))=mV nA oA:=by rw [wa];rfl
 rw [eq1,eq2]at told;refine aE (ai:= [some (.lst (ns.map .int)),some (.lst (d8.map .int)),some (.int t0),kz,some (inV nA),some (inV oA),some (.int st),some (jM pg),some (dH nd),some (yi tx),some (.loc ⟨n,e0⟩),some (.lst (bq.map λk=> .lst ((Ej nA k).map .str))),some (.loc ⟨n+3,e0⟩),none,none,none,none,none,none,none,none,none,none,none]) (ae:=bx (n+3) (tO nA oA) (cB n (mV nA oA) Z)) (au (aD (ar h'.ok n20 (ua h'.toIs)) (af (aa n10 rfl) (af (aa n5 rfl) (af (aL n7 rfl) (af (aL n8 rfl) (af (aa AA rfl) ao))))) (KX h'.toIs rfl) told) (ag n12 rfl)) ?_;refine cw (aq (c:=false) (aa n12 rfl) bV (gK mm) rfl) ?_;have L0:=V.Cd.ca (CR h'.toIs (k:=k+6) (Z:=bx (n+3) (tO nA oA) (cB n (mV nA oA) Z)) (ord:=bq.map oA) (nd:=nd) (st:=st) (rs:=rs) (λx hx=>by refine kE (bM.mp hx) λi hi=>?_;exact oi i hi) (by rw [bu];decide) Ja (by rw [hnd];exact P.nm) P.N8 (by rw [hnd];exact P.rn) P.rz);have eo:(bq.map oA).map AV.int=bq.map λi=>AV.int (oA i):=by rw [dP];rfl
 rw [eo]at L0;refine aE (ai:= [some (.lst (ns.map .int)),some (.lst (d8.map .int)),some (.int t0),kz,some (inV nA),some (inV oA),some (.int st),some (jM pg),some (dH nd),some (yi tx),some (.loc ⟨n,e0⟩),some (.lst (bq.map λk=> .lst ((Ej nA k).map .str))),some (.loc ⟨n+3,e0⟩),some (.lst (rs.map λg=> .lst (g.map .int))),none,none,none,none,none,none,none,none,none,none]) (ae:=bx (n+3) (tO nA oA) (cB n (mV nA oA) Z)) (au (aD (ar h'.ok n21 (pG h'.toIs)) (af (aa n5 rfl) (af (aL n8 rfl) (af (aa n6 rfl) ao))) (KX h'.toIs rfl) L0) (ag n13 rfl)) ?_;have fl:(rs.map λg=>AV.int (g.length:Int))=(rs.map λg=>(g.length:Int)).map .int:=by rw [dP];rfl
 refine aE (ai:= [some (.lst (ns.map .int)),some (.lst (d8.map .int)),some (.int t0),kz,some (inV nA),some (inV oA),some (.int st),some (jM pg),some (dH nd),some (yi tx),some (.loc ⟨n,e0⟩),some (.lst (bq.map λk=> .lst ((Ej nA k).map .str))),some (.loc ⟨n+3,e0⟩),some (.lst (rs.map λg=> .lst (g.map .int))),some (.int (rs.map λg=>(g.length:Int)).sum),none,none,none,none,none,none,none,none,none]) (ae:=bx (n+3) (tO nA oA) (cB n (mV nA oA) Z)) (au (aD (ar h'.ok n15 (AZ h'.toIs)) (af (cp (link:= []) (out:=(rs.map λg=>(g.length:Int)).map .int) (cZ:= [none,(eF rs).map λg=> .lst (g.map .int),none]) ⟨V.all1 rfl,wc,rfl,by decide+kernel,(aa n13 rfl),dF (qM hup),trivial,λu w=>rfl⟩ (λla hla=> ?_) rfl (bo (λx=>fK))) ao) bp (Dx (.lst _) hup)) (ag n14 rfl)) ?_
 ·rw [<-fl];refine hU (enc:=λg:List Int=>AV.lst (g.map .int)) (val:=λg=>AV.int (g.length:Int)) (M:=λo=> [none,o.map λg=> .lst (g.map .int),none]) (Sg:=λo=>(bx (n+3) (tO nA oA) (cB n (mV nA oA) Z)).set la (.list o)) (xs:=rs) (bU P.rz (by decide)) (λu=>trivial) (λu=>V.set_same) (λu w=>V.set_set) rfl (λo y out hy=>ag (i:=1) rfl rfl) (λg out hg=> ?_);have ln:=c5 (C:=C.up) (k:=k+7) (Z:=(bx (n+3) (tO nA oA) (cB n (mV nA oA) Z)).set la (.list out)) (.lst (g.map AV.int)) (aV (m:=1000) (by rw [bu];exact P.rg g hg) (by decide));rw [bu]at ln;exact(aD (ar h'.ok (i:=2) rfl (fC h'.toIs)) (af (aa (i:=1) rfl rfl) ao) bp ln)
 have Pl:=V.Cd.ca (ES h'.toIs (k:=k+2) (Z:=cB n (mV nA oA) Z) (b:=n+3) (q:=tO nA oA) (pg:=pg) (nd:=nd) P.gp (Oa _) P.rd Ja Jb P.res (by rw [wa,hnd];exact P.su) (λk hk=>(Jc k hk).2.2.2));have Pm:=V.Cd.ca (DK h'.toIs (k:=k+2) (Z:=cB n (mV nA oA) Z) (b:=n+3) (q:=(tO nA oA).prep) (pg:=pg) (rs:=rs) (st:=st) P.N8 (λk hk=>(Jc k hk).2.2.2) (by rw [wa];exact P.dv) P.dk);exact bP (eT (mB (aD (ar h'.ok n22 (tB h'.toIs)) (af (aa n12 rfl) (af (aL n7 rfl) (af (aL n8 rfl) (af (eu (aa n14 rfl) aC Ig rfl) ao)))) (KX h'.toIs rfl) Pl) cu (lL (aD (ar h'.ok n23 (pR h'.toIs)) (af (aa n12 rfl) (af (aL n7 rfl) (af (aa n13 rfl) (af (aa n6 rfl) ao)))) (KX h'.toIs rfl) Pm))))
end L1
end
section
namespace L1
open Builtin Builtin.Str
noncomputable def jn (sep:List Nat):List (List Nat)->List Nat
 | []=> []
 | [x]=>x
 | x::y::r=>x++sep++jn sep (y::r)
noncomputable def jP (m:Nat):Nat->List (List Nat)->List Nat
 | _,[]=> []
 | _,[_]=> []
 | a,x::y::r=>(a+x.length)::jP m (a+x.length+m) (y::r)
noncomputable def lD (s sub:Str) (hi limit:Nat) (st:Array Nat×Nat) (i:Nat):Array Nat×Nat:=
 if((st.1.size<limit/\st.2<=i)/\i+sub.length<=hi)/\subAt s sub i=true then(st.1.push i,i+sub.length)else st
theorem wi (s sub:Str) (hi limit:Nat): ∀(l:List Nat) (st:Array Nat×Nat),(forIn l st (StrLaws.occBody s sub hi limit)).run=l.foldl (lD s sub hi limit) st:=by
 intro aH;induction aH with
 | nil=>intro u;exact rfl
 | cons a l ih=>
  intro st;rw [nc,cX];delta StrLaws.occBody lD;split
  ·exact ih _
  ·exact ih _
theorem Df {s sub:Str} {hi limit:Nat}: ∀(l:List Nat) (st:Array Nat×Nat),(∀i∈l,st.2<=i->i+sub.length<=hi->subAt s sub i=true->False)->l.foldl (lD s sub hi limit) st=st:=by
 intro aH;induction aH with
 | nil=>intro u v;exact rfl
 | cons a l ih=>intro st h;rw [cX];have e:lD s sub hi limit st a=st:=az λz=>h a (.head _) z.1.1.2 z.1.2 z.2;rw [e];exact ih st λi hi=>h i (.tail _ hi)
theorem iC {s sub:Str} {c0:Nat} {w:List Nat} (hs:sub.cps.toList=c0::w) {i:Nat} (h:subAt s sub i=true):s.cps.toList[i]? =some c0:=by
 rw [StrLaws.subAt_eq,hs,gB]at h;have hl:sub.length=w.length+1:=by refine(?_:sub.cps.size=_);rw [<-iK,hs];rfl
 rw [hl]at h;have:=dM (·[0]?) h;simp only [List.getElem?_cons_zero]at this;rw [FE (Nat.succ_pos _),xd,Nat.add_zero]at this;exact this
theorem kY:(jn sep (x::y::r)).length=x.length+sep.length+(jn sep (y::r)).length:=by refine(?_:(x++sep++jn sep (y::r)).length=_);rw [cV,cV]
theorem J7 {s sub:Str} {c0:Nat} {w:List Nat} {limit:Nat} (hs:sub.cps.toList=c0::w): ∀(ls:List (List Nat)) (pre:List Nat) (F:Array Nat),ls≠ []->(∀x∈ls,c0∉x)->s.cps.toList=pre++jn (c0::w) ls->F.size+ls.length<=limit+1->
  ((List.range' pre.length (s.length+1 - pre.length)).foldl (lD s sub s.length limit) (F,pre.length)).1.toList=F.toList++jP (w.length+1) pre.length ls:=by
 intro ls
 induction ls with
 | nil=>exact λu v h=>absurd rfl h
 | cons x l ih=>
  cases l with
  | nil=>
   intro pre F u hx hS v;have hl:s.length=pre.length+x.length:=by refine(?_:s.cps.size=_);rw [<-iK,hS,cV];rfl
   rw [Df]
   ·simp [jP]
   ·intro i hi hf hb h;have hc:=iC hs h;rw [hS,List.getElem?_append_right hf]at hc;exact hx x (.head _) (ip hc)
  | cons y r=>
   intro pre F u hx hS hlim;have hm:sub.length=w.length+1:=by refine(?_:sub.cps.size=_);rw [<-iK,hs];rfl
   have hl:s.length=pre.length+(x.length+(w.length+1)+(jn (c0::w) (y::r)).length):=by refine(?_:s.cps.size=_);rw [<-iK,hS,cV,kY];rfl
   have e1:List.range' pre.length (s.length+1 - pre.length)=List.range' pre.length x.length++([pre.length+x.length]++(List.range' (pre.length+x.length+1) w.length++List.range' (pre.length+x.length+(w.length+1)) (s.length+1 - (pre.length+x.length+(w.length+1))))):=by
    have a1:s.length+1 - pre.length=x.length+(1+(w.length+(s.length+1 - (pre.length+x.length+(w.length+1))))):=by omega
    rw [a1,<-List.range'_append_1,<-List.range'_append_1,<-List.range'_append_1,show pre.length+x.length+1+w.length=pre.length+x.length+(w.length+1) by omega];rfl
   have h1:(List.range' pre.length x.length).foldl (lD s sub s.length limit) (F,pre.length)=(F,pre.length):=by
    refine Df _ _ λi hi hf hb h=> ?_;have hc:=iC hs h;have hi2:i<pre.length+x.length:=by have:=(List.mem_range'_1.mp hi).2;exact this
    have hf:pre.length<=i:=hf;rw [hS,List.getElem?_append_right hf]at hc;have:(jn (c0::w) (x::y::r))[i - pre.length]? =x[i - pre.length]? :=by refine(?_:(x++(c0::w)++jn (c0::w) (y::r))[i - pre.length]? =_);rw [eX,List.getElem?_append_left (by omega)]
    rw [this]at hc;exact hx x (.head _) (ip hc)
   have h2:lD s sub s.length limit (F,pre.length) (pre.length+x.length)=(F.push (pre.length+x.length),pre.length+x.length+(w.length+1)):=by
    delta lD;rw [aG,hm];refine⟨⟨⟨?_,?_⟩,?_⟩,?_⟩
    ·simp only [cq]at hlim;refine(?_:F.size<limit);omega
    ·exact gO _ _
    ·rw [hm];omega
    ·rw [StrLaws.subAt_eq,hs,gB,hm,hS];refine(?_:((pre++(x++(c0::w)++jn (c0::w) (y::r))).drop (pre.length+x.length)).take (w.length+1)=c0::w);have ee:pre++(x++(c0::w)++jn (c0::w) (y::r))=(pre++x)++((c0::w)++jn (c0::w) (y::r)):=by simp only [eX]
     rw [ee,show pre.length+x.length=(pre++x).length from cV.symm,List.drop_left,show w.length+1=(c0::w).length from rfl,List.take_left]
   rw [e1,uA,h1,uA,cX,yR,h2,uA];have h3:(List.range' (pre.length+x.length+1) w.length).foldl (lD s sub s.length limit) (F.push (pre.length+x.length),pre.length+x.length+(w.length+1))=(F.push (pre.length+x.length),pre.length+x.length+(w.length+1)):=by refine Df _ _ λi hi hf hb h=> ?_;have hi2:=(List.mem_range'_1.mp hi).2;have hf:pre.length+x.length+(w.length+1)<=i:=hf;omega
   rw [h3];have lp:(pre++x++(c0::w)).length=pre.length+x.length+(w.length+1):=by rw [cV,cV];rfl
   have ih:=ih (pre++x++(c0::w)) (F.push (pre.length+x.length)) (λz=>by exact GC z) (λz hz=>hx z (.tail _ hz)) (by rw [hS];refine(?_:pre++(x++(c0::w)++jn (c0::w) (y::r))=_);simp only [eX]) (by rw [Array.size_push];simp only [cq]at hlim⊢;omega);rw [lp]at ih;rw [ih,Array.toList_push,eX];rfl
theorem yv {s sub:Str} {c0:Nat} {w:List Nat} (hs:sub.cps.toList=c0::w) {ls:List (List Nat)} (h:ls≠ []) (hx: ∀x∈ls,c0∉x) (hS:s.cps.toList=jn (c0::w) ls) {limit:Nat} (hl:ls.length<=limit+1):occurrences s sub 0 s.length limit=jP (w.length+1) 0 ls:=by rw [StrLaws.occ_eq,wi];have:=J7 hs ls [] #[] h hx hS (by simpa using hl);simpa using this
theorem iz (h:s.cps.toList=a++b++c):strSub s a.length (a.length+b.length)=⟨b.toArray⟩:=by
 delta strSub
 congr 1
 apply Array.ext';rw [Array.toList_extract,h];simp
theorem vq: ∀(ls:List (List Nat)) (pre:List Nat),ls≠ []->s.cps.toList=pre++jn (c0::w) ls->
  (((pre.length::(jP (w.length+1) pre.length ls).map (· +(w.length+1))).zip (jP (w.length+1) pre.length ls++ [s.length])).map λp=>strSub s p.1 p.2)=ls.map λx=>(⟨x.toArray⟩:Str):=by
 intro ls
 induction ls with
 | nil=>exact λu h=>absurd rfl h
 | cons x l ih=>
  cases l with
  | nil=>
   intro pre u hS;have hl:s.length=pre.length+x.length:=by refine(?_:s.cps.size=_);rw [<-iK,hS,cV];rfl
   refine(?_: [strSub s pre.length s.length]= [_]);rw [hl,iz (c:= []) (by rw [hS,iI];rfl)]
  | cons y r=>
   intro pre u hS;have lp:(pre++x++(c0::w)).length=pre.length+x.length+(w.length+1):=by rw [cV,cV];rfl
   have hS2:s.cps.toList=pre++x++((c0::w)++jn (c0::w) (y::r)):=by rw [hS];refine(?_:pre++(x++(c0::w)++jn (c0::w) (y::r))=_);simp only [eX]
   have ih:=ih (pre++x++(c0::w)) (λz=>by exact GC z) (by rw [hS2];simp only [eX]);rw [lp]at ih;refine(?_:strSub s pre.length (pre.length+x.length)::_=_);rw [iz hS2,dj];exact dM _ ih
theorem uN (m:Nat): ∀(ls:List (List Nat)) (a:Nat),ls≠ []->(jP m a ls).length+1=ls.length:=by
 intro aH;induction aH with
 | nil=>intro u h;exact absurd rfl h
 | cons x l₁ ih=>
  cases l₁ with
  | nil=>intro u v;exact rfl
  | cons y r=>intro a u;refine(?_:(jP m _ (y::r)).length+1+1=_);rw [ih _ (λz=>by exact GC z)];rfl
theorem Ge: ∀(ls:List (List Nat)),ls≠ []->ls.length<=(jn (c0::w) ls).length+1/\(2<=ls.length->w.length+1<=(jn (c0::w) ls).length):=by
 intro aH;induction aH with
 | nil=>intro h;exact absurd rfl h
 | cons x l₁ ih=>
  cases l₁ with
  | nil=>intro u;exact⟨by simp,λz=>by simp at z⟩
  | cons y r=>intro u;have ih:=(ih (λz=>by exact GC z)).1;rw [kY];simp only [cq]at ih⊢;exact⟨by omega,λu=>by omega⟩
theorem uQ {s sub:Str} {c0:Nat} {w:List Nat} (hs:sub.cps.toList=c0::w) (hk:Builtin.Str.strKind sub=1) {ls:List (List Nat)} (h:ls≠ []) (hx: ∀x∈ls,c0∉x) (hS:s.cps.toList=jn (c0::w) ls):Txt.split s sub=ls.map λx=>(⟨x.toArray⟩:Str):=by
 have hm:sub.length=w.length+1:=by refine(?_:sub.cps.size=_);rw [<-iK,hs];rfl
 have hl:s.length=(jn (c0::w) ls).length:=by refine(?_:s.cps.size=_);rw [<-iK,hS]
 have hk2: ¬Builtin.Str.strKind s<Builtin.Str.strKind sub:=by
  rw [hk];delta Builtin.Str.strKind;split
  ·omega
  ·split<;>omega
 have g:=Ge (c0:=c0) (w:=w) ls h;have oc:=yv hs h hx hS (limit:=s.length+1) (by rw [hl];omega);have one:ls.length=1-> [s]=ls.map λx=>(⟨x.toArray⟩:Str):=λz=>by
  refine cG (List.length_eq_one_iff.mp z) λx q=>?_;subst q;have:s=⟨x.toArray⟩:=by
   cases s with
   | mk a=>congr 1;apply Array.ext';exact hS
  rw [this];rfl
 have cl:=uN (w.length+1) ls 0 h;have pos:0<ls.length:=List.length_pos_iff.mpr h;delta Txt.split;split
 ·rename_i hc;simp only [Bool.or_eq_true,pL]at hc;refine aP hc (λhc=>?_) λhc=>?_
  ·exact one (by
    refine aP (oZ 1 ls.length) (λz=>?_) λz=>?_
    ·have:=g.2 z;omega
    ·omega)
  ·exact absurd hc hk2
 ·rw [oc];split
  ·rename_i hc;have:jP (w.length+1) 0 ls= []:=List.isEmpty_iff.mp hc;rw [this]at cl;exact one (by simp at cl;omega)
  ·delta partsBetween;rw [hm];exact vq ls [] h hS
theorem kg (sep:Str): ∀(xs:List Str),(Txt.join sep xs).cps.toList=jn sep.cps.toList (xs.map λx=>x.cps.toList):=by
 intro aH;induction aH with
 | nil=>exact rfl
 | cons x xs ih=>
  have key: ∀(ys:List Str) (acc:Array Nat) (z:List Nat),acc.toList=z->(ys.foldl (λacc p=>acc++sep.cps++p.cps) acc).toList=jn sep.cps.toList (z::ys.map λx=>x.cps.toList):=by
   intro ys
   induction ys with
   | nil=>intro acc z h;exact h
   | cons y ys ih=>
    intro acc z h;rw [cX,ih (acc++sep.cps++y.cps) (z++sep.cps.toList++y.cps.toList) (by rw [Cg,Cg,h]),dj];cases ys with
    | nil=>rfl
    | cons u us=>refine(?_:(z++sep.cps.toList++y.cps.toList)++sep.cps.toList++jn _ _=z++sep.cps.toList++(y.cps.toList++sep.cps.toList++jn _ _));simp only [eX]
  delta Txt.join glued;exact key xs x.cps x.cps.toList rfl
theorem oS {sep:Str} {c0:Nat} {w:List Nat} (hs:sep.cps.toList=c0::w) (hk:Builtin.Str.strKind sep=1) {xs:List Str} (h:xs≠ []) (hx: ∀x∈xs,c0∉x.cps.toList):Txt.split (Txt.join sep xs) sep=xs:=by rw [uQ hs hk (ls:=xs.map λx=>x.cps.toList) (by simpa using h) (λx hx'=>by refine kE (bM.mp hx') λy hy=>?_;exact hx y hy) (by rw [<-hs];exact kg sep xs),dP];exact(p5 λx u=>rfl).trans (List.map_id _)
theorem xX (hs:sep.cps.toList=c0::w) (hp:c0∉p.cps.toList):Txt.partition (p++sep++v) sep=(p,sep,v):=by
 have hm:sep.length=w.length+1:=by refine(?_:sep.cps.size=_);rw [<-iK,hs];rfl
 have hS:(p++sep++v).cps.toList=p.cps.toList++sep.cps.toList++v.cps.toList:=by refine(?_:(p.cps++sep.cps++v.cps).toList=_);rw [Cg,Cg]
 have hl:(p++sep++v).length=p.length+sep.length+v.length:=by refine(?_:(p++sep++v).cps.size=_);rw [<-iK,hS,cV,cV];rfl
 have pl:p.cps.toList.length=p.length:=iK;have hit:StrLaws.At (p++sep++v) sep (p++sep++v).length p.length:=by refine⟨by rw [hl];omega,?_⟩;rw [StrLaws.subAt_eq,gB,hS,<-pl,eX,List.drop_left];have:sep.length=sep.cps.toList.length:=iK.symm;rw [this,List.take_left]
 have no: ∀i,StrLaws.At (p++sep++v) sep (p++sep++v).length i->p.length<=i:=λi hi=>by
  refine aP (oZ i p.length) (λz=>?_) λz=>?_
  ·have hc:=iC hs hi.2;rw [hS,eX,List.getElem?_append_left (by rw [pl];exact z)]at hc;exact absurd (ip hc) hp
  ·exact z
 delta Txt.partition;refine aP (StrLaws.occ_head (p++sep++v) sep 1 (bT 1)) (λu=>bG u λh0 hn=>?_) λq=>fu q λi r h0 hi hn=>?_
 ·exact absurd hit (hn _)
 ·have ei:i=p.length:=by
   refine aP (oZ p.length i) (λz=>?_) λz=>?_
   ·exact absurd hit (hn _ z)
   ·exact Nat.le_antisymm z (no i hi)
  subst ei;rw [h0];have e1:strSub (p++sep++v) 0 p.length=p:=by have:=iz (s:=p++sep++v) (a:= []) (b:=p.cps.toList) (c:=sep.cps.toList++v.cps.toList) (by rw [hS,eX];rfl);rw [ic,pd,pl]at this;rw [this]
  have e2:strSub (p++sep++v) (p.length+sep.length) (p++sep++v).length=v:=by have:=iz (s:=p++sep++v) (a:=p.cps.toList++sep.cps.toList) (b:=v.cps.toList) (c:= []) (by rw [hS,iI]);rw [cV,pl,show sep.cps.toList.length=sep.length from iK,show v.cps.toList.length=v.length from iK]at this;rw [hl,this]
  refine(?_:(strSub _ 0 p.length,sep,strSub _ (p.length+sep.length) _)=_);rw [e1,e2]
noncomputable def cutAt (c:Nat):List Nat->List (List Nat)
 | []=> [[]]
 | a::l=>if a=c then []::cutAt c l else((a::(cutAt c l).headD [])::(cutAt c l).tail)
noncomputable def rp (c:Nat) (z l:List Nat):List Nat:=l.flatMap λa=>if a=c then z else [a]
theorem r5 (c:Nat) (l:List Nat):cutAt c l≠ []:=by
 cases l with
 | nil=>exact λz=>by cases z
 | cons a l=>unfold cutAt;split<;>exact λz=>by cases z
theorem Bh (c:Nat): ∀(l:List Nat),∀x∈cutAt c l,c∉x:=by
 intro l
 induction l with
 | nil=>intro x hx;obtain rfl:=i8.mp hx;exact λz=>by cases z
 | cons a l ih=>
  intro x hx;unfold cutAt at hx;split at hx
  ·refine aP (cI.mp hx) (λv=>?_) λhx=>?_
   ·subst v;exact λz=>by cases z
   ·exact ih x hx
  ·rename_i ha;cases hc:cutAt c l with
   | nil=>exact absurd hc (r5 c l)
   | cons p ps=>
    rw [hc]at hx ih;refine aP (cI.mp hx) (λu=>?_) λhx=>?_
    ·subst u;intro z;refine aP (cI.mp z) (λq=>?_) λz=>?_
     ·subst q;exact ha rfl
     ·exact ih p (.head _) z
    ·exact ih x (.tail _ hx)
theorem sF (c:Nat) (z:List Nat): ∀(l:List Nat),jn z (cutAt c l)=rp c z l:=by
 intro l
 induction l with
 | nil=>rfl
 | cons a l ih=>
  unfold rp at ih⊢;rw [gj,<-ih,show cutAt c (a::l)=if a=c then []::cutAt c l else((a::(cutAt c l).headD [])::(cutAt c l).tail)from rfl];cases hc:cutAt c l with
  | nil=>exact absurd hc (r5 c l)
  | cons p ps=>
   by_cases ha:a=c
   ·rw [aG ha,aG ha];rfl
   ·rw [az ha,az ha];cases ps<;>rfl
theorem Gk (c:Nat) (l:List Nat):rp c [c] l=l:=by
 delta rp
 induction l with
 | nil=>rfl
 | cons a l ih=>
  rw [gj,ih];split
  ·rename_i h;rw [h];rfl
  ·rfl
theorem AI {c:Nat} {z l:List Nat} {a:Nat} (h:a∈rp c z l):a∈z\/a∈l:=by
 delta rp at h;refine V.c12 (xl.mp h) λb hb h=>?_;split at h
 ·exact .inl h
 ·obtain rfl:=i8.mp h;exact .inr hb
theorem zV {x y:Str} {c:Nat} (hy:y.cps.toList=c:: []) (hk:Builtin.Str.strKind y=1):Txt.split x y=(cutAt c x.cps.toList).map λx=>(⟨x.toArray⟩:Str):=
 uQ hy hk (r5 c _) (Bh c _) (by rw [sF,Gk])
noncomputable def yD (p:Str):Str:="/"++Txt.join "/" (((cutAt 47 (Txt.slice p (some 1) none).cps.toList).map λx=>(⟨x.toArray⟩:Str)).foldl dh [])
theorem CX (p:Str):gu p=yD p:=by delta gu Gd yD;rw [zV (c:=47) (by decide+kernel) (by decide+kernel)]
noncomputable def rL (f:Str) (k:Int) (s:Str):Str:=f++"/"++EP k++s
noncomputable def kP (f:Str):Str:=rL f 0 Str.empty
noncomputable def FQ (f g:Str) (kd:Int):Str:=fQ (kP f) g kd
noncomputable def NB (d g t:Str):Bool:=(λj:Str=>decide (j.length<=400) && ((j.length:Int) !=0) && !(c1 j) && c2 j && (yD j==g)) (d0 d t)
noncomputable def Ji (kd:Int) (g:Str):Str:=if kd=0 then g else Txt.slice g (some 1) none
noncomputable def ma (d pre:Str) (kd:Int):Bool:=gZ.all λf'=>bq.all λk=>pa.all λs=>NB d (rL f' k s) (pre++Ji kd (rL f' k s))
noncomputable def kC (f:Str) (kd:Int):Str:=if kd=0 then "/.."else if kd=1 then Txt.mul "../" (Txt.count (kP f) "/" - 1)else "./"++Txt.mul "../" (Txt.count (kP f) "/" - 1+1)
theorem yn {f g:Str} {kd:Int} (hd:kd=0\/kd=1\/kd=2):FQ f g kd=kC f kd++Ji kd g:=by
 rcases hd with rfl | rfl | rfl<;>rfl
theorem JW:ma "/" "/.." 0=true:=by decide+kernel
theorem Lc:ma "/" "" 1=true:=by decide+kernel
theorem Km:ma "/" "./../" 2=true:=by decide+kernel
theorem J4:ma "/x" "/.." 0=true:=by decide+kernel
theorem Lb:ma "/x" "../" 1=true:=by decide+kernel
theorem JI:ma "/x" "./../../" 2=true:=by decide+kernel
theorem Lq:ma "/x/y" "/.." 0=true:=by decide+kernel
theorem K4:ma "/x/y" "../../" 1=true:=by decide+kernel
theorem Kb:ma "/x/y" "./../../../" 2=true:=by decide+kernel
theorem JQ:ma "/é" "/.." 0=true:=by decide+kernel
theorem Kq:ma "/é" "../" 1=true:=by decide+kernel
theorem J2:ma "/é" "./../../" 2=true:=by decide+kernel
theorem Fj {f f' s:Str} {k kd:Int} (hf:f∈gZ) (hf':f'∈gZ) (hk:k∈bq) (hs:s∈pa) (hd:kd=0\/kd=1\/kd=2):NB (de (kP f)) (rL f' k s) (FQ f (rL f' k s) kd)=true:=by
 rw [yn hd];have h:ma (de (kP f)) (kC f kd) kd=true:=by
  delta gZ at hf;simp only [cI,List.not_mem_nil,or_false]at hf;rcases hf with rfl | rfl | rfl | rfl<;>rcases hd with rfl | rfl | rfl
  ·rw [show de (kP "")="/" by decide+kernel,show kC "" 0="/.." by decide+kernel];exact JW
  ·rw [show de (kP "")="/" by decide+kernel,show kC "" 1="" by decide+kernel];exact Lc
  ·rw [show de (kP "")="/" by decide+kernel,show kC "" 2="./../" by decide+kernel];exact Km
  ·rw [show de (kP "/x")="/x" by decide+kernel,show kC "/x" 0="/.." by decide+kernel];exact J4
  ·rw [show de (kP "/x")="/x" by decide+kernel,show kC "/x" 1="../" by decide+kernel];exact Lb
  ·rw [show de (kP "/x")="/x" by decide+kernel,show kC "/x" 2="./../../" by decide+kernel];exact JI
  ·rw [show de (kP "/x/y")="/x/y" by decide+kernel,show kC "/x/y" 0="/.." by decide+kernel];exact Lq
  ·rw [show de (kP "/x/y")="/x/y" by decide+kernel,show kC "/x/y" 1="../../" by decide+kernel];exact K4
  ·rw [show de (kP "/x/y")="/x/y" by decide+kernel,show kC "/x/y" 2="./../../../" by decide+kernel];exact Kb
  ·rw [show de (kP "/é")="/é" by decide+kernel,show kC "/é" 0="/.." by decide+kernel];exact JQ
  ·rw [show de (kP "/é")="/é" by decide+kernel,show kC "/é" 1="../" by decide+kernel];exact Kq
  ·rw [show de (kP "/é")="/é" by decide+kernel,show kC "/é" 2="./../../" by decide+kernel];exact J2
 delta ma at h;rw [pM]at h;have h:=h f' hf';rw [pM]at h;have h:=h k hk;rw [pM]at h;exact h s hs
theorem oP {x y z:Str} {c:Nat} (hy:y.cps.toList=c:: []):(Txt.replace x y z).cps.toList=rp c z.cps.toList x.cps.toList:=by
 have ne:=r5 c x.cps.toList;have hS:x.cps.toList=jn (c:: []) (cutAt c x.cps.toList):=by rw [sF,Gk]
 have hl:x.length=(jn (c:: []) (cutAt c x.cps.toList)).length:=by rw [<-hS];exact iK.symm
 have hm:y.length=1:=by show y.cps.size=_;rw [<-iK,hy];rfl
 have oc:=yv hy ne (Bh c _) hS (limit:=x.length+1) (by have:=(Ge (c0:=c) (w:= []) _ ne).1;omega);have cl:=uN 1 (cutAt c x.cps.toList) 0 ne;delta Txt.replace;rw [oc,hm];split
 ·rename_i hc;have h0:jP 1 0 (cutAt c x.cps.toList)= []:=by
   rw [Bool.or_eq_true]at hc;refine aP hc (λhc=>?_) λhc=>?_
   ·exact List.isEmpty_iff.mp hc
   ·rw [show((1:Nat)==0)=false from rfl,Bool.false_and]at hc;cases hc
  rw [h0]at cl;refine cG (List.length_eq_one_iff.mp cl.symm) λp hp=>?_;have e1:=sF c z.cps.toList x.cps.toList;rw [hp]at e1 hS;rw [<-e1];exact hS
 ·have e0:partsBetween x (jP (([]:List Nat).length+1) 0 (cutAt c x.cps.toList)) 1=(cutAt c x.cps.toList).map λx=>(⟨x.toArray⟩:Str):=vq (cutAt c x.cps.toList) [] ne hS;rw [e0];exact(kg z _).trans (by rw [dP];exact(dM (jn z.cps.toList) (List.map_id _)).trans (sF c _ _))
theorem uI (v:Str):(esc v).cps.toList=rp 34 [92,34] (rp 92 [92,92] v.cps.toList):=by delta esc;rw [oP (c:=34) (by decide+kernel),oP (c:=92) (by decide+kernel)];rfl
theorem CF (a:Nat) (l:List Nat):rp 34 [92,34] (rp 92 [92,92] (a::l))=(if a=92 then [92,92]else if a=34 then [92,34]else [a])++rp 34 [92,34] (rp 92 [92,92] l):=by
 have e:rp 92 [92,92] (a::l)=(if a=92 then [92,92]else [a])++rp 92 [92,92] l:=by delta rp;rw [gj]
 have e2: ∀x y:List Nat,rp 34 [92,34] (x++y)=rp 34 [92,34] x++rp 34 [92,34] y:=λx y=>by delta rp;rw [List.flatMap_append]
 rw [e,e2]
 congr 1
 by_cases h:a=92
 ·subst h;rfl
 ·rw [az h,az h];delta rp;rw [gj];exact iI _
theorem kn {a b:Str} (h:a.cps.toList=b.cps.toList):a=b:=by
 cases a;cases b;congr 1;exact Array.ext' h
theorem dE (a b:Str):(a++b).cps.toList=a.cps.toList++b.cps.toList:=by refine(?_:(a.cps++b.cps).toList=_);rw [Cg]
theorem dK (a b c:Str):a++b++c=a++(b++c):=kn (by simp only [dE,eX])
theorem empty_app (a:Str):Str.empty++a=a:=kn (by rw [dE];rfl)
theorem qY (a:Str):a++Str.empty=a:=kn (by rw [dE];exact iI _)
noncomputable def SG.sh (s:SG) (P:List Str) (p0:Str):SG:=⟨P,p0++s.part,s.marked,s.held,s.last⟩
theorem xC (s:SG) (c:Nat) (h:(s.step c).parts= []):s.parts= []:=by
 revert h
 delta SG.step;split
 ·exact id
 split
 ·exact id
 split
 ·exact id
 split
 ·intro h;have:=dM List.length h;simp at this
 ·exact id
theorem w7: ∀(xs:List Nat) (s:SG),(xs.foldl SG.step s).parts= []->s.parts= []:=by
 intro aH;induction aH with
 | nil=>intro u h;exact h
 | cons c xs ih=>intro s h;exact xC s c (ih _ h)
theorem EM {s:SG} (P:List Str) (p0:Str) (h:(s.step c).parts= []):(s.sh P p0).step c=(s.step c).sh P p0:=by
 obtain⟨ps,pt,mk,hd,la⟩:=s
 revert h
 delta SG.step SG.sh;dsimp only;cases hd
 ·rw [az dN,az dN];by_cases h1:(ch c=="\\")=true
  ·rw [aG h1,aG h1];intro u;rfl
  ·rw [az h1,az h1];by_cases h2:(ch c=="\"")=true
   ·rw [aG h2,aG h2];intro u;simp only [dK]
   ·rw [az h2,az h2];by_cases h3:((ch c==";") && !mk)=true
    ·rw [aG h3];intro h;have:=dM List.length h;simp at this
    ·rw [az h3,az h3];intro u;simp only [dK]
 ·rw [aG rfl,aG rfl];intro u;simp only [dK]
theorem EX (P:List Str) (p0:Str): ∀(xs:List Nat) (s:SG),(xs.foldl SG.step s).parts= []->xs.foldl SG.step (s.sh P p0)=(xs.foldl SG.step s).sh P p0:=by
 intro aH;induction aH with
 | nil=>intro u v;exact rfl
 | cons c xs ih=>intro s h;rw [cX,EM P p0 (w7 xs _ h),ih _ h];rfl
noncomputable def ux (pc r:Str):Prop:= ∀(P:List Str) (p:Str) (l:Option Nat),∃l',pc.cps.toList.foldl SG.step ⟨P,p,false,false,l⟩=⟨P,p++r,false,false,l'⟩
theorem Be (xs:List Nat): ∀(s:SG) (l:Option Nat),∃l',xs.foldl SG.step {s with last:=l}={xs.foldl SG.step s with last:=l'}:=by
 induction xs with
 | nil=>intro s l;exact⟨l,rfl⟩
 | cons c xs ih=>
  intro s l;refine⟨(xs.foldl SG.step (s.step c)).last,?_⟩;have e:SG.step {s with last:=l} c=s.step c:=by delta SG.step;dsimp only
  rw [cX,cX,e]
theorem uV {xs:List Nat} {m m':Bool} (h:(λs:SG=>s.parts.isEmpty && (s.part==r) && (s.marked==m') && !s.held) (xs.foldl SG.step ⟨[],Str.empty,m,false,none⟩)=true) (P:List Str) (p:Str) (l:Option Nat):
  ∃l',xs.foldl SG.step ⟨P,p,m,false,l⟩=⟨P,p++r,m',false,l'⟩:=by
 have h:((xs.foldl SG.step ⟨[],Str.empty,m,false,none⟩).parts.isEmpty && ((xs.foldl SG.step ⟨[],Str.empty,m,false,none⟩).part==r) && ((xs.foldl SG.step ⟨[],Str.empty,m,false,none⟩).marked==m') && !(xs.foldl SG.step ⟨[],Str.empty,m,false,none⟩).held)=true:=h;simp only [mI,gB,B5,List.isEmpty_iff]at h;refine bG h λq h4=>bG q λz h3=>bG z λh1 h2=>?_;have key:=EX P p xs ⟨[],Str.empty,m,false,none⟩ h1;refine cG (Be xs ⟨P,p,m,false,none⟩ l) λl' hl=>⟨l',hl.trans ?_⟩;have e0:(⟨P,p,m,false,none⟩:SG)=(⟨[],Str.empty,m,false,none⟩:SG).sh P p:=by delta SG.sh;dsimp only;rw [qY]
 rw [e0,key];delta SG.sh;dsimp only;rw [h2,h3,h4]
theorem K6: ∀(l:List (Str×Str)) (P:List Str) (p:Str) (la:Option Nat),l≠ []->(∀x∈l,ux x.1 x.2)->
  (λs:SG=>s.parts++ [s.part]) ((jn (Str.ofString "; ").cps.toList (l.map λx=>x.1.cps.toList)).foldl SG.step ⟨P,p,false,false,la⟩)=P++(match l.map (·.2)with | []=> [] | r::rest=>(p++r)::rest.map λx=>sp++x):=by
 intro aH;induction aH with
 | nil=>intro u v w h g;exact absurd rfl h
 | cons x l₁ ih=>
  cases l₁ with
  | nil=>intro P p la u h;refine cG (h x (.head _) P p la) λl' e=>(?_:(λs:SG=>s.parts++ [s.part]) (x.1.cps.toList.foldl SG.step _)=_);rw [e];rfl
  | cons y r=>
   intro P p la u h;refine cG (h x (.head _) P p la) λl' e=>?_;refine(?_:(λs:SG=>s.parts++ [s.part]) ((x.1.cps.toList++(Str.ofString "; ").cps.toList++jn _ ((y::r).map λx=>x.1.cps.toList)).foldl SG.step _)=_);rw [uA,uA,e];have e2:(Str.ofString "; ").cps.toList.foldl SG.step ⟨P,p++x.2,false,false,l'⟩=⟨P++ [p++x.2],sp,false,false,some 32⟩:=by
    have:(Str.ofString "; ").cps.toList= [59,32]:=by decide+kernel
    rw [this];rw [cX,cX,yR];have s1:SG.step ⟨P,p++x.2,false,false,l'⟩ 59=⟨P++ [p++x.2],Str.ofString "",false,false,some 59⟩:=by delta SG.step;dsimp only;rw [az dN,az (by decide+kernel),az (by decide+kernel),aG (by decide+kernel)]
    rw [s1];delta SG.step;dsimp only;rw [az dN,az (by decide+kernel),az (by decide+kernel),az (by decide+kernel)];have:Str.ofString ""++ch 32=sp:=by decide+kernel
    rw [this]
   rw [e2,ih (P++ [p++x.2]) sp (some 32) (λz=>by exact GC z) (λz hz=>h z (.tail _ hz)),eX];rfl
theorem wK {l:List (Str×Str)} (h: ∀x∈l,ux x.1 x.2):signs (Txt.join "; " (l.map (·.1)))=jL (l.map (·.2)):=by
 delta signs;rw [kg,dP];cases l with
 | nil=>rfl
 | cons x r=>refine(K6 (x::r) [] "" none (λz=>by exact GC z) h).trans ?_;refine(?_:(""++x.2)::_=x.2::_);have:""++x.2=x.2:=empty_app x.2;rw [this]
theorem j3 (hs:sep.cps.toList=c0::w) (h:c0∉x.cps.toList):Txt.contains x sep=false:=by
 delta Txt.contains;refine aP (StrLaws.occ_head x sep 1 (bT 1)) (λz=>bG z λh0 _=>?_) λq=>fu q λi r h0 hi _=>?_
 ·rw [h0];rfl
 ·exact absurd (ip (iC hs hi.2)) h
theorem sG (hs:sep.cps.toList=c0::w) (hp:c0∉p.cps.toList):Txt.contains (p++sep++v) sep=true:=by
 have h:=xX (v:=v) hs hp;unfold Txt.contains;unfold Txt.partition at h;cases ho:occurrences (p++sep++v) sep 0 (p++sep++v).length 1 with
 | nil=>rw [ho]at h;have:=dM (λz:Str×Str×Str=>z.2.1.cps.toList) h;simp only [hs]at this;exact Iq this
 | cons=>rfl
theorem l5:nl.cps.toList=10:: []:=by decide+kernel
theorem Dq {a t:Str} (ha:10∉a.cps.toList) (ht:10∉t.cps.toList):Txt.split (a++nl++t++nl) nl= [a,t,Str.empty]:=by
 have e:a++nl++t++nl=Txt.join nl [a,t,Str.empty]:=kn (by
  rw [kg];simp only [dE];refine(?_:_=a.cps.toList++nl.cps.toList++(t.cps.toList++nl.cps.toList++ []));simp only [eX,iI])
 rw [e];refine oS l5 (by decide+kernel) (λz=>by exact GC z) λx hx=> ?_;rcases cI.mp hx with rfl | hx
 ·exact ha
 refine aP (cI.mp hx) (λq=>?_) λhx=>?_
 ·subst q;exact ht
 ·obtain rfl:=i8.mp hx;decide
theorem Lu {t:Str} (h:t.cps.all nF=true) {c:Nat} (hc:nF c=false):c∉t.cps.toList:=λhm=>by rw [pY]at h;have:=h c (nC.mp hm);rw [hc]at this;exact tQ this
theorem jd (h:t.cps.all (λc=>decide (c<256))=true):PyData.strOk t=true:=by delta PyData.strOk;rw [pY]at h⊢;intro c hc;have:=jx (h c hc);exact lE (by omega)
noncomputable def pD (c:Nat):Bool:=nF c && decide (c<256)
noncomputable def Je (p:Str):Int:=(([97,98,99,65,66,67]:List Nat).idxOf ((p.cps.toList.reverse.takeWhile (· !=47)).getLastD 0):Nat)
noncomputable def KU (f:Str) (k:Int) (s:Str):Bool:=
 (λp:Str=>decide (0<p.length) && decide (p.length<=40) && p.cps.all pD && p.cps.all (· !=58) && (Txt.count p "/"==Txt.count (kP f) "/") && decide (0<=Txt.count p "/") && decide (Txt.count p "/"<100) && (de p==de (kP f)) && decide ((de p).length<=200) && (Je p==k) && (Txt.slice p (some 1) none).cps.all pD && decide ((Txt.slice p (some 1) none).length<=40) && decide (0<(Txt.slice p (some 1) none).length)) (rL f k s)
theorem E2:(gZ.all λf=>bq.all λk=>pa.all λs=>KU f k s)=true:=by decide+kernel
structure Ho (f:Str) (k:Int) (p:Str):Prop where
 ln:p.length<=40
 ok:p.cps.all pD=true
 Pn:58∉p.cps.toList
 cn:Txt.count p "/"=Txt.count (kP f) "/"
 c0:0<=Txt.count p "/"
 c9:Txt.count p "/"<100
 dn:de p=de (kP f)
 dl:(de p).length<=200
 kk:Je p=k
 so:(Txt.slice p (some 1) none).cps.all pD=true
 sl:(Txt.slice p (some 1) none).length<=40
 sp:0<(Txt.slice p (some 1) none).length
 gp:0<p.length
theorem DS (hf:f∈gZ) (hk:k∈bq) (hs:s∈pa):Ho f k (rL f k s):=by
 have h:=E2;rw [pM]at h;have h:=h f hf;rw [pM]at h;have h:=h k hk;rw [pM]at h;have h:=h s hs;unfold KU at h
 revert h
 generalize rL f k s=p;intro h;simp only [mI,pL,gB]at h;refine bG h λq o=>bG q λz n=>bG z λu m=>bG u λv l=>bG v λw j=>bG w λy i=>bG y λt g=>bG t λr e=>bG r λx d=>bG x λq0 c=>bG q0 λq1 b=>bG q1 λa0 a=>⟨a,b,λhm=> ?_,d,e,g,i,j,l,m,n,o,a0⟩;rw [pY]at c;have:=c 58 (nC.mp hm);simp at this
theorem fh {t:Str} {P Q:Nat->Bool} (h:t.cps.all P=true) (i: ∀c,P c=true->Q c=true):t.cps.all Q=true:=by rw [pY]at h⊢;exact λc hc=>i c (h c hc)
theorem xO (c:Nat) (h:pD c=true):nF c=true:=by delta pD at h;rw [mI]at h;exact h.1
theorem ve (c:Nat) (h:pD c=true):decide (c<256)=true:=by delta pD at h;rw [mI]at h;exact h.2
theorem jA {a b:Str} {P:Nat->Bool} (h1:a.cps.all P=true) (h2:b.cps.all P=true):(a++b).cps.all P=true:=by
 rw [pY]at h1 h2⊢;intro c hc;have hc:=nC.mpr hc;rw [dE,cm]at hc;refine aP hc (λhc=>?_) λhc=>?_
 ·exact h1 c (nC.mp hc)
 ·exact h2 c (nC.mp hc)
theorem G4: ∀(ls:List (List Nat)) (c:Nat),c∈jn sep ls->c∈sep\/ ∃x∈ls,c∈x:=by
 intro aH;induction aH with
 | nil=>
  intro u h;exact by exact jc h
 | cons x l₁ ih=>
  cases l₁ with
  | nil=>intro c h;exact .inr ⟨x,.head _,h⟩
  | cons y r=>
   intro c h;have h:c∈x++sep++jn sep (y::r):=h;refine aP (cm.mp h) (λh=>?_) λh=>?_
   ·refine aP (cm.mp h) (λh=>?_) λh=>?_
    ·exact .inr ⟨x,.head _,h⟩
    ·exact .inl h
   ·refine aP (ih c h) (λh=>?_) λq=>V.c12 q λz hz h=>?_
    ·exact .inl h
    ·exact .inr ⟨z,.tail _ hz,h⟩
theorem vU {P:Nat->Bool} (h1:sep.cps.all P=true) (h2: ∀x∈xs,x.cps.all P=true):(Txt.join sep xs).cps.all P=true:=by
 rw [pY]at h1⊢;intro c hc;have hc:=nC.mpr hc;rw [kg]at hc;refine aP (G4 _ c hc) (λh=>?_) λu=>V.c12 u λz hz h=>?_
 ·exact h1 c (nC.mp h)
 ·refine V.c12 (bM.mp hz) λx hx q=>?_;subst q;have:=h2 x hx;rw [pY]at this;exact this c (nC.mp h)
structure tu (f g t:Str):Prop where
 ln:t.length<=60
 ps:0<t.length
 ok:t.cps.all pD=true
 es:(esc t).cps.all pD=true
 sg: ∀(P:List Str) (p:Str) (l:Option Nat),∃l',(esc t++"\"").cps.toList.foldl SG.step ⟨P,p,true,false,l⟩=⟨P,p++(t++nl),false,false,l'⟩
 jl:(d0 (de (kP f)) t).length<=400
 jp:(((d0 (de (kP f)) t).length:Int) !=0)=true
 j1:c1 (d0 (de (kP f)) t)=false
 j2:c2 (d0 (de (kP f)) t)=true
 to:gu (d0 (de (kP f)) t)=g
theorem Ou:"\\"=ch 92:=by decide+kernel
theorem Nz:"\""=ch 34:=by decide+kernel
theorem FJ (P:List Str): ∀(l:List Nat) (p:Str) (la:Option Nat),∃l',(rp 34 [92,34] (rp 92 [92,92] l)).foldl SG.step ⟨P,p,true,false,la⟩=⟨P,p++⟨l.toArray⟩,true,false,l'⟩:=by
 intro aH;induction aH with
 | nil=>intro p la;exact⟨la,by refine(?_:(⟨P,p,true,false,la⟩:SG)=⟨P,p++Str.empty,true,false,la⟩);rw [qY]⟩
 | cons a l ih=>
  intro p la;refine cG (ih (p++ch a) (some a)) λl' e=>⟨l',?_⟩;have e1:(if a=92 then [92,92]else if a=34 then [92,34]else [a]).foldl SG.step ⟨P,p,true,false,la⟩=⟨P,p++ch a,true,false,some a⟩:=by
   have Ob:SG.step ⟨P,p,true,false,la⟩ 92=⟨P,p,true,true,some 92⟩:=by delta SG.step;dsimp only;rw [az dN,aG (by decide+kernel)]
   by_cases h:a=92
   ·subst h;rw [aG rfl,cX,Ob,cX,yR];delta SG.step;dsimp only;rw [aG rfl,aG (by decide+kernel)]
   ·rw [az h];by_cases h2:a=34
    ·subst h2;rw [aG rfl,cX,Ob,cX,yR];delta SG.step;dsimp only;rw [aG rfl,aG (by decide+kernel)]
    ·rw [az h2,cX,yR];have n: ∀b:Nat,a≠b->(ch a==ch b)=false:=λb hb=>by rw [tq];exact λz=>hb (dM (λx:Str=>x.cps.toList.headD 0) z)
     have h1:(ch a=="\\")=false:=(dM (λz=>ch a==z) Ou).trans (n 92 h);have h3:(ch a=="\"")=false:=(dM (λz=>ch a==z) Nz).trans (n 34 h2);delta SG.step;dsimp only;rw [az dN,h1,az dN,h3,az dN,az (by rw [show(!true)=false from rfl,Bool.and_false];exact dN)]
  rw [CF,uA,e1,e]
  congr 1
  exact kn (by simp only [dE];exact eX _ _ _)
theorem Ib: ∀f∈gZ,∀kd∈([0,1,2]:List Int),(kC f kd).cps.all pD=true/\(kC f kd).length<=15:=by decide+kernel
theorem HG (h:t.cps.all pD=true):(esc t).cps.all pD=true:=by
 rw [pY]at h⊢;intro c hc;have hc:=nC.mpr hc;rw [uI]at hc;have k2: ∀c∈ [92,34],pD c=true:=by decide
 have k3: ∀c∈ [92,92],pD c=true:=by decide
 refine aP (AI hc) (λz=>?_) λz=>?_
 ·exact k2 c z
 ·refine aP (AI z) (λz=>?_) λz=>?_
  ·exact k3 c z
  ·exact h c (nC.mp z)
theorem xR (a b:Str):(a++b).length=a.length+b.length:=by refine(?_:(a++b).cps.size=a.cps.size+b.cps.size);rw [<-iK,<-iK,<-iK,dE,cV]
theorem Ov:(Str.ofString "\"").cps.toList= [34]:=by decide+kernel
theorem H8 (P:List Str) (p:Str) (la:Option Nat):SG.step ⟨P,p,true,false,la⟩ 34=⟨P,p++nl,false,false,some 34⟩:=by delta SG.step;dsimp only;rw [az dN,az (by decide+kernel),aG (by decide+kernel)];rfl
theorem FW (t:Str) (P:List Str) (p:Str) (la l':Option Nat) (e:(rp 34 [92,34] (rp 92 [92,92] t.cps.toList)).foldl SG.step ⟨P,p,true,false,la⟩=⟨P,p++t,true,false,l'⟩):(esc t++"\"").cps.toList.foldl SG.step ⟨P,p,true,false,la⟩=⟨P,p++(t++nl),false,false,some 34⟩:=by rw [dE,uI,uA,e,Ov,cX,yR,H8,dK]
theorem Ld (hf:f∈gZ) (hf':f'∈gZ) (hk:k∈bq) (hs:s∈pa) (hd:kd=0\/kd=1\/kd=2):tu f (rL f' k s) (FQ f (rL f' k s) kd):=by
 have hJ:=Fj hf hf' hk hs hd;have G:=DS hf' hk hs;refine bG (Ib f hf kd (by rcases hd with rfl | rfl | rfl<;>simp)) λp1 p2=>?_;have tl:(Ji kd (rL f' k s)).cps.all pD=true/\(Ji kd (rL f' k s)).length<=40/\0<(Ji kd (rL f' k s)).length:=by
  delta Ji;split
  ·exact nB G.ok G.ln G.gp
  ·exact nB G.so G.sl G.sp
 have et:=yn (f:=f) (g:=rL f' k s) hd;have ok:(FQ f (rL f' k s) kd).cps.all pD=true:=by rw [et];exact jA p1 tl.1
 have ln2:(FQ f (rL f' k s) kd).length<=60:=by rw [et,xR];exact bU (Nat.add_le_add p2 tl.2.1) (by decide)
 have ps:0<(FQ f (rL f' k s) kd).length:=by rw [et,xR];exact rO tl.2.2 (Nat.le_add_left _ _)
 revert hJ ok ln2 ps
 generalize FQ f (rL f' k s) kd=t;intro hJ ok ln2 ps;have hJ:(decide ((d0 (de (kP f)) t).length<=400) && (((d0 (de (kP f)) t).length:Int) !=0) && !(c1 (d0 (de (kP f)) t)) && c2 (d0 (de (kP f)) t) && (yD (d0 (de (kP f)) t)==rL f' k s))=true:=hJ;simp only [mI,pL,gB,B5]at hJ;refine bG hJ λq n=>bG q λz m=>bG z λu l=>bG u λi j=>?_;clear hJ;refine⟨ln2,ps,ok,HG ok,λP p la=> ?_,i,j,l,m,(CX _).trans n⟩;refine cG (FJ P t.cps.toList p la) λl' e=>?_;rw [show(⟨t.cps.toList.toArray⟩:Str)=t from kn rfl]at e;exact⟨some 34,FW t P p la l' e⟩
noncomputable def CM:List (Str×Str):= [(tJ,Ef),(AB,Jq)]
noncomputable def Jr (q:Int) (texts:List Str):List (Str×Str):=(gd q).map (λx=>(x,x))++(CM.zip texts).map (λp=>(fv (p.1.1,some p.2),p.1.2++p.2++nl))++(if bit (q.fdiv 2)then [(fv (g8,if bit (q.fdiv 4)then some Str.empty else none),gQ)]else [])
theorem DG (h:texts.length<=2):(CM.zip texts).map (λp=>fv (p.1.1,some p.2))=(mh texts).map fv/\(CM.zip texts).map (λp=>p.1.2++p.2++nl)=qE texts:=by
 rcases texts with _ | ⟨a,_ | ⟨b,_ | ⟨c,r⟩⟩⟩
 ·exact⟨rfl,rfl⟩
 ·exact⟨rfl,rfl⟩
 ·exact⟨rfl,rfl⟩
 ·simp at h
theorem He (q:Int):gd q=(eB q).toList:=by delta gd eB;split<;>rfl
theorem yp (h:texts.length<=2):(Jr q texts).map (·.1)=(eB q).toList++(f6 q texts).map fv:=by
 delta Jr f6;rw [fk,fk,dP,dP,fk,<-(DG h).1,<-He,eX]
 congr 1
 ·exact List.map_id _
 ·congr 1
  split<;>rfl
theorem Ep (h:texts.length<=2):(Jr q texts).map (·.2)=iO q texts:=by
 delta Jr iO;rw [fk,fk,dP,dP,<-(DG h).2]
 congr 1
 ·congr 1
  exact List.map_id _
 ·split<;>rfl
theorem mE (h:x∈gd q):x=Str.empty\/x=own1:=by
 delta gd at h;split at h
 ·obtain rfl:=i8.mp h;split
  ·exact .inl rfl
  ·exact .inr rfl
 ·exact jc h
theorem B0:ux Str.empty Str.empty:=λP p l=>uV (m:=false) (m':=false) (by decide+kernel) P p l
theorem HR:ux own1 own1:=λP p l=>uV (m:=false) (m':=false) (by decide+kernel) P p l
theorem Hm:ux (fv (g8,none)) gQ:=λP p l=>uV (m:=false) (m':=false) (by decide+kernel) P p l
theorem Iy:ux (fv (g8,some Str.empty)) gQ:=λP p l=>uV (m:=false) (m':=false) (by decide+kernel) P p l
theorem AS (h:0<t.length):fv (b,some t)=(oF b++"=\"")++(esc t++"\""):=by refine(?_:tU (oF b) t=_);delta tU;rw [aG (lE (by omega))];simp only [dK]
theorem Ey: ∀x∈CM,(λs:SG=>s.parts.isEmpty && (s.part==x.2) && (s.marked==true) && !s.held) ((oF x.1++"=\"").cps.toList.foldl SG.step ⟨[],Str.empty,false,false,none⟩)=true:=by decide+kernel
theorem K7 (T:tu f g t) (hx:x∈CM):ux (fv (x.1,some t)) (x.2++t++nl):=by intro P p l;rw [AS T.ps,dE,uA];refine cG (uV (m:=false) (m':=true) (r:=x.2) (Ey x hx) P p l) λl1 e1=>cG (T.sg P (p++x.2) l1) λl2 e2=>?_;rw [e1,e2];exact⟨l2,by simp only [dK]⟩
theorem Cj (h: ∀t∈texts,∃f g,tu f g t): ∀x∈Jr q texts,ux x.1 x.2/\x.1.cps.all pD=true:=by
 intro x hx;delta Jr at hx;refine aP (cm.mp hx) (λhx=>?_) λhx=>?_
 ·refine aP (cm.mp hx) (λhx=>?_) λhx=>?_
  ·refine kE (bM.mp hx) λy hy=>aP (mE hy) (λw=>?_) λv=>?_
   ·subst w;exact⟨B0,by decide+kernel⟩
   ·subst v;exact⟨HR,by decide+kernel⟩
  ·refine kE (bM.mp hx) λz hy=>?_;rcases z with⟨y,t⟩
   refine bG (tS hy) λh1 h2=>V.c21 (h t h2) λf g T=>⟨K7 T h1,?_⟩;refine(?_:(fv (y.1,some t)).cps.all pD=true);rw [AS T.ps];have k1: ∀x∈CM,(oF x.1++"=\"").cps.all pD=true:=by decide+kernel
   exact jA (k1 y h1) (jA T.es (by decide+kernel))
 ·split at hx
  ·obtain rfl:=i8.mp hx;split
   ·exact⟨Iy,by decide+kernel⟩
   ·exact⟨Hm,by decide+kernel⟩
  ·exact jc hx
theorem GA (q:Int):(q.fmod 3=0\/q.fmod 3=1\/q.fmod 3=2)/\(q.fmod 3).fmod 3=q.fmod 3:=by
 refine V.c12 (kU (q:=q) (m:=3) (by decide)) λf hf e=>?_;have e:q.fmod 3=(f:Int):=e;rw [e];have:f=0\/f=1\/f=2:=by omega+splitDisjunctions
 rcases this with rfl | rfl | rfl<;>exact⟨by decide,by decide⟩
theorem Kt (h:Ho f k p):fQ p g q=FQ f g (q.fmod 3):=by delta FQ fQ;rw [h.cn,(GA q).2]
theorem l7 (nA:Int->Int) (hk:k∈bq):Ho (Hg (nA k)) k (jH nA k):=DS (s6 _) hk (wH _)
theorem A9 (nA:Int->Int) (hk:k∈bq) (hj:j∈bq):tu (Hg (nA k)) (jH nA j) (fQ (jH nA k) (jH nA j) q):=by rw [Kt (l7 nA hk)];exact Ld (s6 _) (s6 _) hj (wH _) (GA q).1
theorem GK (h:i∈ix n):i.toNat<n:=by delta ix at h;refine kE (bM.mp h) λj hj=>?_;rw [An]at hj;rw [vH];exact hj
theorem HA {α:Type} (l:List Int) (f:Int->α):(ix l.length).map (λi=>f (l[i.toNat]?.getD 0))=l.map f:=by
 delta ix;rw [dP];apply List.ext_getElem
 ·simp
 ·intro i h1 h2;simp only [List.getElem_map,List.getElem_range,Function.comp];have hi:i<l.length:=by simpa using h2
  rw [vH,nv hi];rfl
section
variable (nA:Int->Int) {k:Int}
theorem Bm:(uG nA k).length<=2:=by delta uG ix;rw [bu,bu,Cz];exact nP _
theorem rF (hk:k∈bq) (h:t∈uG nA k): ∃g,tu (Hg (nA k)) g t:=by
 delta uG at h;refine kE (bM.mp h) λi hi=>?_;have hl:=GK hi;have hj:(tL nA k)[i.toNat]?.getD 0∈bq:=by rw [nv hl];exact pf _ _ (List.getElem_mem hl)
 exact⟨_,A9 nA hk hj⟩
theorem Ke (hk:k∈bq):(uG nA k).map (λt=>gu (d0 (de (jH nA k)) t))=(tL nA k).map (jH nA):=by
 delta uG;rw [dP,<-HA (tL nA k) (jH nA)];refine p5 λi hi=> ?_;have hl:=GK hi;have hj:(tL nA k)[i.toNat]?.getD 0∈bq:=by rw [nv hl];exact pf _ _ (List.getElem_mem hl)
 have T:=A9 nA (q:=(nA k).fdiv 3136+i) hk hj;refine(?_:gu (d0 (de (jH nA k)) (fQ _ _ _))=_);rw [(l7 nA hk).dn];exact T.to
end
theorem mG (hl:texts.length<=2) (h:r∈iO q texts):(r=Str.empty\/r=own1\/r=gQ)\/ ∃x∈CM,∃t∈texts,r=x.2++t++nl:=by
 delta iO at h;refine aP (cm.mp h) (λh=>?_) λh=>?_
 ·refine aP (cm.mp h) (λh=>?_) λh=>?_
  ·refine aP (mE h) (λw=>?_) λv=>?_
   ·subst w;exact .inl (.inl rfl)
   ·subst v;exact .inl (.inr (.inl rfl))
  ·rw [<-(DG hl).2]at h;refine kE (bM.mp h) λp hp=>?_;obtain⟨a,t⟩:=p;have z:=tS hp;exact .inr ⟨a,z.1,t,z.2,rfl⟩
 ·split at h
  ·obtain rfl:=i8.mp h;exact .inl (.inr (.inr rfl))
  ·exact jc h
theorem oo (h:x∈jL R):x=Str.empty\/ ∃r∈R,∃u∈ [Str.empty,sp],x=u++r:=by
 cases R with
 | nil=>exact .inl (i8.mp h)
 | cons r rest=>
  refine aP (cI.mp h) (λz=>?_) λh=>?_
  ·subst z;exact .inr ⟨x,.head _,Str.empty,.head _,(empty_app x).symm⟩
  ·refine kE (bM.mp h) λy hy=>.inr ⟨y,.tail _ hy,sp,.tail _ (.head _),rfl⟩
noncomputable def Mg (b:Str):Str:=⟨b.cps.extract 0 5⟩
theorem H3: ∀b∈CM,∀u∈ [Str.empty,sp],u++b.2=(u++Mg b.2)++nl/\(u++Mg b.2).cps.all (· !=10)=true/\(u++b.2).cps.all (λc=>decide (c<256))=true/\(u++b.2).length<=10:=by decide+kernel
theorem HI: ∀r∈ [Str.empty,own1,gQ],∀u∈ [Str.empty,sp],(u++r).cps.all (· !=10)=true/\(u++r).cps.all (λc=>decide (c<256))=true/\(u++r).length<=20:=by decide+kernel
theorem Bq {t:Str} (h:t.cps.all (· !=10)=true):10∉t.cps.toList:=λhm=>by rw [pY]at h;have:=h 10 (nC.mp hm);simp at this
theorem ke {f g t:Str} (T:tu f g t) {b:Str×Str} (hb:b∈CM) {u:Str} (hu:u∈ [Str.empty,sp]):Txt.contains (u++(b.2++t++nl)) nl=true/\Txt.split (u++(b.2++t++nl)) nl= [u++Mg b.2,t,Str.empty]/\(u++(b.2++t++nl)).length<=100/\PyData.strOk (u++(b.2++t++nl))=true:=by
 refine ku (H3 b hb u hu) λe h1 h2 h3=>?_;have n1:=Bq h1;have n2:=Lu (fh T.ok xO) (c:=10) (by decide);have ee:u++(b.2++t++nl)=(u++Mg b.2)++nl++t++nl:=by rw [<-e];simp only [dK]
 refine tN ?_ ?_ ?_ ?_
 ·rw [ee,dK _ t nl];exact sG l5 n1
 ·rw [ee];exact Dq n1 n2
 ·have:V.B ((u++b.2)++t++nl) (10+60+1):=f9 (f9 h3 T.ln) (iY rfl);rw [show u++(b.2++t++nl)=(u++b.2)++t++nl by simp only [dK]];exact bU this (by decide)
 ·rw [show u++(b.2++t++nl)=(u++b.2)++t++nl by simp only [dK]];exact jd (jA (jA h2 (fh T.ok ve)) (by decide+kernel))
theorem j7 {r:Str} (hr:r=Str.empty\/r=own1\/r=gQ) {u:Str} (hu:u∈ [Str.empty,sp]):Txt.contains (u++r) nl=false/\(u++r).length<=100/\PyData.strOk (u++r)=true:=by
 have hm:r∈ [Str.empty,own1,gQ]:=by rcases hr with rfl | rfl | rfl<;>simp
 refine nR (HI r hm u hu) λh1 h2 h3=>nB (j3 l5 (Bq h1)) (bU h3 (by decide)) (jd h2)
theorem DB (h: ∀r∈R,Txt.contains (sp++r) nl=Txt.contains r nl/\(Txt.contains r nl=true->tg path (sp++r)=tg path r)):kh path (jL R)=(R.filter λx=>Txt.contains x nl).map (tg path):=by
 delta kh;cases R with
 | nil=>refine(?_:List.map _ (List.filter _ [Str.empty])=_);have:Txt.contains Str.empty nl=false:=j3 l5 (by decide);rw [pP,az (by rw [this];decide)]
 | cons r rest=>
  have e: ∀l:List Str,(∀x∈l,x∈r::rest)->((l.map λp=>sp++p).filter λx=>Txt.contains x nl).map (tg path)=(l.filter λx=>Txt.contains x nl).map (tg path):=by
   intro l
   induction l with
   | nil=>intro u;rfl
   | cons x l ih=>
    intro hl;have ih:=ih λy hy=>hl y (.tail _ hy);refine bG (h x (hl x (.head _))) λa b=>?_;rw [dj,pP,pP,a];cases hc:Txt.contains x nl with
    | false=>rw [az dN,az dN];exact ih
    | true=>rw [aG rfl,aG rfl,dj,dj,ih,b hc]
  refine(?_:List.map _ (List.filter _ (r::rest.map λp=>sp++p))=_);rw [pP,pP];cases hc:Txt.contains r nl with
  | false=>rw [az dN,az dN];exact e rest λy hy=> .tail _ hy
  | true=>rw [aG rfl,aG rfl,dj,dj,e rest λy hy=> .tail _ hy]
theorem ym (T:tu f g t) (hb:b∈CM) (hu:u∈ [Str.empty,sp]) (path:Str):tx (u++(b.2++t++nl))=t/\tg path (u++(b.2++t++nl))=gu (d0 (de path) t):=by
 have e:tx (u++(b.2++t++nl))=t:=by delta tx;rw [(ke T hb hu).2.1];rfl
 exact⟨e,by delta tg;rw [e]⟩
theorem zz (hl:texts.length<=2) (h: ∀t∈texts,∃f g,tu f g t):kh path (partsOf q texts)=texts.map λt=>gu (d0 (de path) t):=by
 delta partsOf;rw [DB]
 ·delta iO;rw [Cv,Cv];have e1:(gd q).filter (λx=>Txt.contains x nl)= []:=by rw [yU];intro x hx z;have:=(j7 (r:=x) (u:=Str.empty) (by refine aP (mE hx) (λh=>?_) λh=>?_<;>simp [h]) (.head _)).1;rw [empty_app,z]at this;exact zv this
  have e3:(if bit (q.fdiv 2)then [gQ]else []).filter (λx=>Txt.contains x nl)= []:=by
   split
   ·rw [yU];intro x hx z;obtain rfl:=i8.mp hx;have:=(j7 (r:=gQ) (u:=Str.empty) (.inr (.inr rfl)) (.head _)).1;rw [empty_app,z]at this;exact zv this
   ·rfl
  have e2:(qE texts).filter (λx=>Txt.contains x nl)=qE texts:=by rw [CG];intro x hx;rw [<-(DG hl).2]at hx;refine kE (bM.mp hx) λp hp=>?_;have z:=tS (a:=p.1) (b:=p.2) hp;refine V.c21 (h p.2 z.2) λf g T=>?_;have:=(ke T z.1 (u:=Str.empty) (.head _)).1;rw [empty_app]at this;exact this
  rw [e1,e2,e3,kQ,iI,<-(DG hl).2,dP];have e4: ∀p∈CM.zip texts,(tg path ∘ λp=>p.1.2++p.2++nl) p=gu (d0 (de path) p.2):=λp hp=>by have z:=tS (a:=p.1) (b:=p.2) hp;refine V.c21 (h p.2 z.2) λf g T=>?_;have:=(ym T z.1 (u:=Str.empty) (.head _) path).2;rw [empty_app]at this;exact this
  rw [p5 e4];rcases texts with _ | ⟨a,_ | ⟨b,_ | ⟨c,r⟩⟩⟩
  ·rfl
  ·rfl
  ·rfl
  ·simp at hl
 ·intro r hr;refine aP (mG hl hr) (λhp=>?_) λv=>?_
  ·have a:=(j7 hp (u:=sp) (.tail _ (.head _))).1;have c:=(j7 hp (u:=Str.empty) (.head _)).1;rw [empty_app]at c;exact⟨by rw [a,c],λz=>by rw [c]at z;exact tQ z⟩
  ·rcases v with⟨b,hb,t,ht,rfl⟩
   refine V.c21 (h t ht) λf g T=>?_;have a:=(ke T hb (u:=sp) (.tail _ (.head _))).1;have c:=(ke T hb (u:=Str.empty) (.head _)).1;have d:=(ym T hb (u:=sp) (.tail _ (.head _)) path).2;have e:=(ym T hb (u:=Str.empty) (.head _) path).2;rw [empty_app]at c e;exact⟨by rw [a,c],λw=>by rw [d,e]⟩
theorem Fp (hl:texts.length<=2) (hx: ∀x∈texts,x.length<=100/\x.cps.all nF=true):(lay q texts).length<=10000:=by
 delta lay hval;have hb: ∀y∈(eB q).toList++(f6 q texts).map fv,y.length<=1000:=λy hy=>by
  refine aP (cm.mp hy) (λh=>?_) λh=>?_
  ·exact bU (qj q y (by simpa using h)).len (by decide)
  ·refine kE (bM.mp h) λp hp=>tT (vF hx p hp)
 have ln:((eB q).toList++(f6 q texts).map fv).length<=4:=by
  have:=(oh q texts hl).len;rw [cV,bu];cases eB q<;>simp<;>omega+splitDisjunctions
 have h1:(Txt.join "; " ((eB q).toList++(f6 q texts).map fv)).length<=((eB q).toList++(f6 q texts).map fv).length * (1000+"; ".length)+1000:=yC hb;have h2:"; ".length=2:=by rfl
 rw [h2]at h1;have:=Nat.mul_le_mul_right 1002 ln;omega+splitDisjunctions
theorem Co:Me.cps.toList=58:: [32]:=by decide+kernel
theorem zi:crlf.cps.toList=13:: [10]:=by decide+kernel
theorem DI {nA:Int->Int} (hk:k∈bq): ∀x∈uG nA k,x.length<=100/\x.cps.all nF=true:=λx hx=>by refine cG (rF nA hk hx) λg T=>⟨bU T.ln (by decide),fh T.ok xO⟩
theorem Bt {nA:Int->Int} (hk:k∈bq): ∀t∈uG nA k,∃f g,tu f g t:=λt ht=>by refine cG (rF nA hk ht) λg T=>?_;exact NF _ g T
theorem Ii {nA:Int->Int} (hk:k∈bq):(w8 nA k).cps.all pD=true:=by delta w8 lay hval;rw [<-yp (Bm nA)];refine vU (by decide+kernel) λx hx=>kE (bM.mp hx) λp hp=>(Cj (Bt hk) p hp).2
theorem A2 (nA:Int->Int) (hk:k∈bq):Dd (jH nA k) (w8 nA k) (Ej nA k) ((tL nA k).map (jH nA)):=by
 have G:=l7 nA hk;have tl:=Bm nA (k:=k);have vl:(w8 nA k).length<=10000:=Fp tl (DI hk);refine⟨bU G.ln (by decide),jd (fh G.ok ve),xX Co G.Pn,?_,vl,?_,λpart hp=> ?_,?_,G.dl,λpart hp hc=> ?_,?_,λg hg=> ?_,?_⟩
 ·exact bU (f9 (f9 G.ln (iY (x:=": ") rfl)) vl:V.B _ (40+2+10000)) (by decide)
 ·delta w8 lay hval;rw [<-yp tl,wK λx hx=>(Cj (Bt hk) x hx).1,Ep tl];rfl
 ·refine aP (oo hp) (λl=>?_) λp=>?_
  ·subst l;exact⟨dW _,by decide+kernel⟩
  ·rcases p with⟨r,hr,u,hu,rfl⟩
   refine aP (mG tl hr) (λh=>?_) λn=>?_
   ·have z:=j7 h hu;exact⟨bU z.2.1 (by decide),z.2.2⟩
   ·rcases n with⟨b,hb,t,ht,rfl⟩
    refine cG (rF nA hk ht) λg T=>?_;have z:=ke T hb hu;exact⟨bU z.2.2.1 (by decide),z.2.2.2⟩
 ·have:=uO (q:=qA nA k) tl;have e:(jL (iO (qA nA k) (uG nA k))).length<=1+(iO (qA nA k) (uG nA k)).length:=by
   cases iO (qA nA k) (uG nA k)with
   | nil=>decide
   | cons r rest=>refine(?_:(r::rest.map _).length<=1+(r::rest).length);simp
  refine(?_:(jL _).length<=100);omega+splitDisjunctions
 ·refine aP (oo hp) (λm=>?_) λy=>?_
  ·subst m;rw [j3 l5 (by decide)]at hc;exact tQ hc
  ·rcases y with⟨r,hr,u,hu,rfl⟩
   refine aP (mG tl hr) (λh=>?_) λw=>?_
   ·rw [(j7 h hu).1]at hc;exact tQ hc
   ·rcases w with⟨b,hb,t,ht,rfl⟩
    refine cG (rF nA hk ht) λg T=>?_;have z:=ym T hb hu (jH nA k);rw [z.1,(ke T hb hu).2.1,G.dn];exact MQ (show 1<3 by decide) (bU T.ln (by decide)) T.jl T.jp T.j1 T.j2
 ·refine(?_:kh _ (partsOf _ _)=_);rw [zz tl (Bt hk),Ke nA hk]
 ·refine kE (bM.mp hg) λj hj=>jd (fh (l7 nA (pf _ j hj)).ok ve)
 ·rw [bu];exact nP _
section
variable (nA oA:Int->Int) (tI: ∀i∈bq,oA i∈bq)
include tI
theorem BC (h:p∈mV nA oA): ∃k∈bq,p=(jH nA k,w8 nA k):=by refine kE (bM.mp h) λi hi=>V.i12 (oA i) (tI i hi) rfl
theorem JO:wR (mV nA oA):=by refine⟨by delta mV;rw [bu];decide,λp hp=> ?_⟩;refine uU (BC nA oA tI hp) λk hk=>⟨bU (l7 nA hk).ln (by decide),(A2 nA hk).vl⟩
theorem ya (h:p∈mV nA oA):(lineOf p).cps.all pD=true:=by refine uU (BC nA oA tI h) λk hk=>jA (jA (l7 nA hk).ok (by decide+kernel)) (Ii hk)
theorem yE: ∀c∈(kA (mV nA oA)).cps.toList,c<256:=by
 have h:(kA (mV nA oA)).cps.all (λc=>decide (c<256))=true:=by
  delta kA;refine vU (by decide+kernel) λx hx=>aP (cm.mp hx) (λhx=>?_) λhx=>?_
  ·refine kE (bM.mp hx) λp hp=>fh (ya nA oA tI hp) ve
  ·have: ∀x∈ [Str.ofString "",Str.ofString ""],x.cps.all (λc=>decide (c<256))=true:=by decide+kernel
   exact this x hx
 rw [pY]at h;exact λc hc=>jx (h c (nC.mp hc))
theorem BX:L7 (kA (mV nA oA)):=by
 refine⟨yE nA oA tI,λz=> ?_⟩;unfold kA at z;rw [kg]at z;have z:jn (Str.ofString "\r\n").cps.toList ((lineOf (jH nA (oA 0),w8 nA (oA 0))).cps.toList::(lineOf (jH nA (oA 1),w8 nA (oA 1))).cps.toList::_)= []:=z;have:=dM List.length z;rw [kY]at this;have e:(Str.ofString "\r\n").cps.toList.length=2:=by decide+kernel
 rw [e]at this;simp at this
theorem wW:Txt.split (kA (mV nA oA)) crlf=(bq.map λi=>lineOf (jH nA (oA i),w8 nA (oA i)))++ [Str.empty,Str.empty]:=by
 have e:(bq.map λi=>lineOf (jH nA (oA i),w8 nA (oA i)))=(mV nA oA).map lineOf:=by delta mV;rw [dP];rfl
 rw [e];refine oS zi (by decide+kernel) (by simp) λx hx=>aP (cm.mp hx) (λhx=>?_) λhx=>?_
 ·refine kE (bM.mp hx) λp hp=>Lu (fh (ya nA oA tI hp) xO) (by decide)
 ·have: ∀x∈ [Str.empty,Str.empty],13∉x.cps.toList:=by decide
  exact this x hx
end
noncomputable def lV (N:List Str) (x:Str):List Str:=if x∈N then N else N++ [x]
noncomputable def mU (q:SS):Prop:= ∀x,x∉q.ks->q.np x=0/\q.su x= []
theorem uF:y∈lV N x↔y∈N\/y=x:=by
 delta lV;split
 ·rename_i h;constructor
  ·exact .inl
  ·rintro (z | rfl)
   ·exact z
   ·exact h
 ·simp
theorem qU (h:mU q) (x:Str):(q.ins x).ks=lV q.ks x/\(q.ins x).np=q.np/\(q.ins x).su=q.su/\(q.ins x).rd=q.rd/\(q.ins x).po=q.po/\(q.ins x).nf=q.nf:=by
 delta SS.ins lV;split
 ·exact MQ rfl rfl rfl rfl rfl rfl
 ·rename_i hx;refine MQ rfl ?_ ?_ rfl rfl rfl
  ·funext y;refine(?_:upd q.np x 0 y=_);delta upd;split
   ·rename_i e;subst e;exact((h y hx).1).symm
   ·rfl
  ·funext y;refine(?_:upd q.su x [] y=_);delta upd;split
   ·rename_i e;subst e;exact((h y hx).2).symm
   ·rfl
structure Tells (q q':SS) (ks:List Str) (np:Str->Int) (su:Str->List Str):Prop where
 ks:q'.ks=ks
 np: ∀x,q'.np x=q.np x+np x
 su: ∀x,q'.su x=q.su x++su x
 rd:q'.rd=q.rd
 po:q'.po=q.po
 nf:q'.nf=q.nf
 cl:mU q'
theorem yO: ∀(gs:List Str) (q:SS),mU q->Tells q (gs.foldl (SS.ig p) q) (gs.foldl lV q.ks) (λu=>0) (λx=>(gs.filter (· ==x)).map λu=>p):=by
 intro aH;induction aH with
 | nil=>intro q h;exact⟨rfl,λx=>by simp,λx=>by simp,rfl,rfl,rfl,h⟩
 | cons g gs ih=>
  intro q h;refine Gy (qU h g) λa b c d e f=>?_;have hs:(SS.ig p q g).su=upd q.su g (q.su g++ [p]):=by refine(?_:upd (q.ins g).su g ((q.ins g).su g++ [p])=_);rw [c]
  have hn:(SS.ig p q g).np=q.np:=b;have hk:(SS.ig p q g).ks=lV q.ks g:=a;have cl:mU (SS.ig p q g):=λx hx=>by rw [hk,uF,not_or]at hx;rw [hn,hs];refine⟨(h x hx.1).1,?_⟩;delta upd;rw [az hx.2];exact(h x hx.1).2
  have T:=ih (SS.ig p q g) cl;refine⟨by rw [cX,T.ks,hk,cX],λx=>by rw [cX,T.np,hn],λx=> ?_,?_,?_,?_,by rw [cX];exact T.cl⟩
  ·rw [cX,T.su,hs,pP];delta upd;by_cases hx:x=g
   ·subst hx;rw [aG rfl,aG (beq_self_eq_true _),dj,eX];rfl
   ·rw [az hx,az (by rw [gB];exact λz=>hx z.symm)]
  ·rw [cX,T.rd];exact d
  ·rw [cX,T.po];exact e
  ·rw [cX,T.nf];exact f
theorem AR (h:mU q) (p:Str) (gs:List Str):Tells q (q.add p gs) ((p::gs).foldl lV q.ks) (λx=>if x=p then(gs.length:Int)else 0) (λx=>(gs.filter (· ==x)).map λu=>p):=by
 refine Gy (qU h p) λa b c d e f=>?_;have hn:(q.u7 p gs.length).np=upd q.np p (q.np p+(gs.length:Int)):=by refine(?_:upd (q.ins p).np p ((q.ins p).np p+(gs.length:Nat))=_);rw [b]
 have cl:mU (q.u7 p gs.length):=λx hx=>by
  have hx:x∉(q.ins p).ks:=hx;rw [a,uF,not_or]at hx;rw [hn];refine⟨?_,?_⟩
  ·delta upd;rw [az hx.2];exact(h x hx.1).1
  ·refine(?_:(q.ins p).su x= []);rw [c];exact(h x hx.1).2
 have T:=yO (p:=p) gs _ cl;refine⟨T.ks.trans (by refine(?_:gs.foldl lV (q.ins p).ks=_);rw [a,cX]),λx=> ?_,λx=>(T.su x).trans (by refine(?_:(q.ins p).su x++_=_);rw [c]),T.rd.trans d,T.po.trans e,T.nf.trans f,T.cl⟩;rw [show(q.add p gs).np x=_ from T.np x,hn];delta upd;by_cases hx:x=p
 ·subst hx;rw [aG rfl,aG rfl];omega
 ·rw [az hx,az hx]
noncomputable def oM (L:List (Str×List Str)) (x:Str):Int:=(L.map λr=>if x=r.1 then(r.2.length:Int)else 0).sum
theorem uz: ∀(L:List (Str×List Str)) (q:SS),mU q->Tells q (gN L q) (L.foldl (λN r=>(r.1::r.2).foldl lV N) q.ks) (oM L) (λx=>L.flatMap λr=>(r.2.filter (· ==x)).map λu=>r.1):=by
 intro aH;induction aH with
 | nil=>intro q h;exact⟨rfl,λx=>by simp [oM,gN],λx=>by simp [gN],rfl,rfl,rfl,h⟩
 | cons r L ih=>
  intro q h;have T1:=AR h r.1 r.2;have T2:=ih _ T1.cl;refine⟨T2.ks.trans (by rw [T1.ks];rfl),λx=> ?_,λx=> ?_,T2.rd.trans T1.rd,T2.po.trans T1.po,T2.nf.trans T1.nf,T2.cl⟩
  ·refine(?_:(gN L (q.add r.1 r.2)).np x=_);rw [T2.np,T1.np];delta oM;rw [dj,List.sum_cons];omega
  ·refine(?_:(gN L (q.add r.1 r.2)).su x=_);rw [T2.su,T1.su,gj,eX]
theorem Dp:mU q0:=λu v=>⟨rfl,rfl⟩
noncomputable def lB:List Str->List Str
 | []=> []
 | x::r=>if x∈r then lB r else x::lB r
theorem sA (q:SS) (y z:Str):(q.dec y).np z=q.np z - (if z=y then 1 else 0):=by
 delta SS.dec;have e: ∀z,(q.cf y (q.np y - 1)).np z=q.np z - (if z=y then 1 else 0):=λz=>by
  refine(?_:upd q.np y _ z=_);delta upd;by_cases h:z=y
  ·subst h;rw [aG rfl,aG rfl]
  ·rw [az h,az h];omega
 split
 ·exact e z
 ·exact e z
theorem FX (q:SS) (y:Str) (h:q.rd=some r):(q.dec y).rd=some (if q.np y=1 then r++ [y]else r):=by
 delta SS.dec;have e:(q.cf y (q.np y - 1)).np y=q.np y - 1:=by refine(?_:upd q.np y _ y=_);delta upd;rw [aG rfl]
 by_cases h1:q.np y=1
 ·rw [aG (by rw [e,h1];rfl),aG h1];refine(?_:(q.cf y _).rd.map (· ++ [y])=_);refine(?_:q.rd.map (· ++ [y])=_);rw [h];rfl
 ·rw [az (by rw [e,gB];omega),az h1];exact h
theorem BG (q:SS) (y:Str):(q.dec y).po=q.po/\(q.dec y).nf=q.nf:=by
 delta SS.dec;split<;>exact⟨rfl,rfl⟩
noncomputable def run (q:SS) (ys xs:List Str):SS:=((ys.foldl SS.dec q).r3).tP xs
noncomputable def qG (su:Str->List Str) (xs ys:List Str) (q:SS):Prop:= ∀r:List Str,q.su=su->q.rd=some r->xs.Nodup->(∀x∈xs,x∉ys++xs.flatMap su)->(∀k∈ys++xs.flatMap su,((ys++xs.flatMap su).count k:Int)<=q.np k)->
  (run q ys xs).rd=some (r++lB ((ys++xs.flatMap su).filter λk=>q.np k==((ys++xs.flatMap su).count k:Int)))/\(∀k,(run q ys xs).np k=if k∈xs then -2 else q.np k - ((ys++xs.flatMap su).count k:Int))/\(run q ys xs).po=q.po/\(run q ys xs).nf=q.nf+1+xs.length
theorem JM {su:Str->List Str}:qG su [] [] q:=by
 intro r hs hr hn hd hc;refine tN ?_ (λk=> ?_) rfl (by refine(?_:q.nf+1=q.nf+1+((0:Nat):Int));omega)
 ·refine(?_:q.rd=_);rw [hr];simp [lB]
 ·refine(?_:q.np k=_);simp
theorem K2 {su:Str->List Str} (IH:qG su xs (su x) (q.r3.cf x (-2))):qG su (x::xs) [] q:=by
 intro r hs hr hn hd hc;have hn':=gM.mp hn;have ih:=IH r hs hr hn'.2 (λz hz=>by
  have:=hd z (.tail _ hz);simpa only [kQ,gj]using this) (λk hk=>by
  have hk2:k∈ []++(x::xs).flatMap su:=by simpa only [kQ,gj]using hk
  have h1:=hc k hk2;have kx:k≠x:=λe=>hd x (.head _) (by have z:=hk2;rw [e]at z;exact z);refine(?_:_<=upd q.np x (-2) k);delta upd;rw [az kx];simpa only [kQ,gj]using h1)
 have e:run q [] (x::xs)=run (q.r3.cf x (-2)) (su x) xs:=by subst hs;rfl
 rw [e];refine ku ih λi1 i2 i3 i4=>?_;clear ih;have nk: ∀k,k≠x->(q.r3.cf x (-2)).np k=q.np k:=λk hk=>by refine(?_:upd q.np x (-2) k=_);delta upd;rw [az hk]
 refine tN ?_ (λk=> ?_) i3 ?_
 ·rw [i1,kQ,gj]
  congr 3
  apply zC;intro k hk;have kx:k≠x:=λe=>hd x (.head _) (by rw [e]at hk;simpa only [kQ,gj]using hk);rw [nk k kx]
 ·rw [i2,kQ,gj];by_cases hx:k=x
  ·subst hx;have c0:(su k++xs.flatMap su).count k=0:=List.count_eq_zero.mpr (by have:=hd k (.head _);simpa only [kQ,gj]using this);have:(q.r3.cf k (-2)).np k= -2:=by refine(?_:upd q.np k (-2) k=_);delta upd;rw [aG rfl]
   rw [az hn'.1,aG (.head _),this,c0];rfl
  ·rw [nk k hx];by_cases hxs:k∈xs
   ·rw [aG hxs,aG (.tail _ hxs)]
   ·rw [az hxs,az (by rw [cI,not_or];exact⟨hx,hxs⟩)]
 ·rw [i4,cq];refine(?_:q.nf+1+1+(xs.length:Int)=_);omega
theorem Gi {su:Str->List Str} (IH:qG su xs ys (q.dec y)):qG su xs (y::ys) q:=by
 intro r hs hr hn hd hc;obtain⟨D,hD⟩: ∃D,D=ys++xs.flatMap su:=⟨_,rfl⟩;have eD:y::ys++xs.flatMap su=y::D:=by rw [hD];rfl
 rw [eD]at hd hc⊢;have cy:=hc y (.head _);rw [zG]at cy;have ih:=IH (if q.np y=1 then r++ [y]else r) ((xi q y).trans hs) (FX q y hr) hn (λx hx=>by rw [<-hD];exact λz=>hd x hx (.tail _ z)) (λk hk=>by
  rw [<-hD]at hk⊢;have h1:=hc k (.tail _ hk);rw [sA];by_cases e:k=y
  ·subst e;rw [zG]at h1;rw [aG rfl];omega
  ·rw [List.count_cons_of_ne (λz=>e z.symm)]at h1;rw [az e];omega)
 rw [<-hD]at ih;have e:run q (y::ys) xs=run (q.dec y) ys xs:=rfl;rw [e];refine ku ih λi1 i2 i3 i4=>?_;clear ih;have P: ∀k,(((q.dec y).np k)==((D.count k:Nat):Int))=(q.np k==(((y::D).count k:Nat):Int)):=λk=>by
  rw [sA];by_cases e:k=y
  ·subst e;rw [zG,aG rfl];by_cases z:q.np k - 1=(D.count k:Int)
   ·rw [gB.mpr z,gB.mpr (by omega)]
   ·rw [tq.mpr z,tq.mpr (by omega)]
  ·rw [List.count_cons_of_ne (λz=>e z.symm),az e,Int.sub_zero]
 refine tN ?_ (λk=> ?_) (i3.trans (BG q y).1) (i4.trans (by rw [(BG q y).2]))
 ·rw [i1]
  congr 1
  rw [zC λk u=>P k,pP];by_cases h1:q.np y=1
  ·have c0:D.count y=0:=by omega
   have ny:y∉D:=List.count_eq_zero.mp c0;have py:(q.np y==(((y::D).count y:Nat):Int))=true:=by rw [zG,c0,h1];rfl
   rw [aG h1,aG py];rw [show lB (y::D.filter λk=>q.np k==(((y::D).count k:Nat):Int))=y::lB (D.filter λk=>q.np k==(((y::D).count k:Nat):Int))from by
    rw [lB,az (λz=>ny (kO.mp z).1)],eX];rfl
  ·rw [az h1];by_cases py:(q.np y==(((y::D).count y:Nat):Int))=true
   ·rw [aG py];have e1:=gB.mp py;rw [zG]at e1;have Po:y∈D:=List.count_pos_iff.mp (by omega);rw [show lB (y::D.filter λk=>q.np k==(((y::D).count k:Nat):Int))=lB (D.filter λk=>q.np k==(((y::D).count k:Nat):Int))from by
     rw [lB,aG (kO.mpr ⟨Po,py⟩)]]
   ·rw [az py]
 ·rw [i2,sA];by_cases hx:k∈xs
  ·rw [aG hx,aG hx]
  ·rw [az hx,az hx];by_cases e:k=y
   ·subst e;rw [zG,aG rfl];omega
   ·rw [List.count_cons_of_ne (λz=>e z.symm),az e];omega
theorem BF (su:Str->List Str) (xs:List Str): ∀(ys:List Str) (q:SS),qG su xs ys q:=by
 induction xs with
 | nil=>
  intro ys
  induction ys with
  | nil=>exact λq=>JM
  | cons y ys ih=>exact λq=>Gi (ih _)
 | cons x xs Pp=>
  intro ys
  induction ys with
  | nil=>exact λq=>K2 (Pp _ _)
  | cons y ys ih=>exact λq=>Gi (ih _)
theorem CI {q:SS} {su:Str->List Str} {xs:List Str} {r:List Str} (hs:q.su=su) (hr:q.rd=some r) (hn:xs.Nodup) (hd: ∀x∈xs,x∉xs.flatMap su) (hc: ∀k∈xs.flatMap su,((xs.flatMap su).count k:Int)<=q.np k):
  (q.tP xs).rd=some (r++lB ((xs.flatMap su).filter λk=>q.np k==((xs.flatMap su).count k:Int)))/\(∀k,(q.tP xs).np k=if k∈xs then -2 else q.np k - ((xs.flatMap su).count k:Int))/\(q.tP xs).po=q.po/\(q.tP xs).nf=q.nf+xs.length:=by
 have h:=BF su xs [] {q with nf:=q.nf - 1} r hs hr hn hd hc;have e:run {q with nf:=q.nf - 1} [] xs=q.tP xs:=by
  refine(?_:((({q with nf:=q.nf - 1}:SS)).r3).tP xs=_)
  congr 1
  delta SS.r3;refine(?_:({q with nf:=q.nf - 1+1}:SS)=q);rw [Int.sub_add_cancel]
 rw [e]at h;refine ku h λa b c d=>tN a b c ?_;rw [d];refine(?_:q.nf - 1+1+(xs.length:Int)=_);omega
theorem ez {E:List Int}:E.any (· ==i)=decide (i∈E):=by
 by_cases h:i∈E
 ·rw [lE h];exact yT.mpr ⟨i,h,beq_self_eq_true i⟩
 ·rw [mH h,zE];intro x hx z;exact h (by rw [<-gB.mp z];exact hx)
noncomputable def mQ (ord:List Int) (nd:Int->List Int) (j:Int):List Int:=ord.flatMap λk=>((nd k).filter (· ==j)).map λ_=>k
noncomputable def rT (nd:Int->List Int) (E:List Int) (k:Int):Nat:=(nd k).countP λi=> !(E.any (· ==i))
theorem E9 {nd:Int->List Int}:met nd E k=true↔rT nd E k=0:=by delta met rT;rw [List.countP_eq_length_filter,List.isEmpty_iff,List.length_eq_zero_iff]
theorem yY {l:List Int} {j k k':Int}:((l.filter (· ==j)).map λu=>k').count k=if k'=k then l.count j else 0:=by
 rw [List.map_const',List.count_replicate,<-List.countP_eq_length_filter];by_cases h:k'=k
 ·rw [aG (gB.mpr h),aG h];rfl
 ·rw [az (λz=>h (gB.mp z)),az h]
theorem Ci {nd:Int->List Int} {j k:Int}: ∀{ord:List Int},ord.Nodup->(mQ ord nd j).count k=if k∈ord then(nd k).count j else 0:=by
 intro aH;induction aH with
 | nil=>
  intro u;exact by simp [mQ]
 | cons a ord ih=>
  intro h;have h':=gM.mp h;have ih:=ih h'.2;have e:mQ (a::ord) nd j=((nd a).filter (· ==j)).map (λu=>a)++mQ ord nd j:=by delta mQ;rw [gj]
  rw [e,List.count_append,ih,yY];by_cases ha:a=k
  ·subst ha;rw [aG rfl,az h'.1,aG (.head _)];omega
  ·rw [az ha];by_cases hk:k∈ord
   ·rw [aG hk,aG (.tail _ hk)];omega
   ·rw [az hk,az (by rw [cI,not_or];exact⟨λz=>ha z.symm,hk⟩)]
theorem HM {js:List Int} (h:j∉js): ∀l:List Int,l.count j+l.countP (λi=>js.any (· ==i))=l.countP λi=>(j::js).any (· ==i):=by
 intro aH;induction aH with
 | nil=>exact rfl
 | cons a l ih=>
  have ih:=ih;rw [List.count_cons,zD,zD];simp only [ez]at ih⊢;by_cases e:a=j
  ·subst e;simp [h]at ih⊢;omega
  ·by_cases e2:a∈js
   ·simp [e,e2]at ih⊢;omega
   ·simp [e,e2]at ih⊢;omega
theorem zy {ord:List Int} {nd:Int->List Int} (hn:ord.Nodup) (hk:k∈ord): ∀{js:List Int},js.Nodup->(js.flatMap (mQ ord nd)).count k=(nd k).countP λi=>js.any (· ==i):=by
 intro aH;induction aH with
 | nil=>
  intro u;exact by simp
 | cons j js ih=>intro h;have h':=gM.mp h;rw [gj,List.count_append,ih h'.2,Ci hn,aG hk,HM h'.1]
theorem zS {nd:Int->List Int} {E g:List Int} (hd: ∀i∈g,i∉E):rT nd E k=rT nd (E++g) k+(nd k).countP λi=>g.any (· ==i):=by
 delta rT
 induction nd k with
 | nil=>rfl
 | cons a l ih=>
  rw [zD,zD,zD,ih];simp only [ez,cm];by_cases h1:a∈g
  ·have:=hd a h1;simp [h1,this];omega
  ·by_cases h2:a∈E<;>simp [h1,h2]<;>omega
noncomputable def zY (l l':List Int):Prop:=gk l=gk l'/\ ∀x,x∈l↔x∈l'
theorem xZ {l l':List Int} (h: ∀x,x∈l↔x∈l') (x:Int):l.any (· ==x)=l'.any (· ==x):=by
 rw [ez,ez];by_cases z:x∈l
 ·rw [lE z,lE ((h x).mp z)]
 ·rw [mH z,mH (λw=>z ((h x).mpr w))]
theorem zY.cons {l l':List Int} (h:zY l l') (x:Int):zY (x::l) (x::l'):=by refine⟨?_,λy=>by rw [cI,cI,h.2]⟩;unfold gk;rw [xZ h.2 x,h.1]
theorem zY.dup {l l':List Int} (h:zY l (x::l')):zY (x::l) (x::l'):=by have hx:x∈l:=(h.2 x).mpr (.head _);refine⟨?_,λy=>by rw [cI,h.2,cI];exact⟨λz=>z.elim .inl id,.inr⟩⟩;rw [<-h.1];refine(?_:(if l.any (· ==x)then gk l else x::gk l)=gk l);rw [ez,lE hx,aG rfl]
theorem zY.rep (h:zY l l') (k:Int): ∀n:Nat,zY (List.replicate (n+1) k++l) (k::l'):=by
 intro aH;induction aH with
 | zero=>exact h.cons k
 | succ n ih=>exact(ih).dup
theorem zY.blocks {nd:Int->List Int} (h:zY l l'): ∀ord:List Int,zY ((mQ ord nd j).filter (met nd F)++l) ((ord.filter λk=>(nd k).any (· ==j) && met nd F k)++l'):=by
 intro aH;induction aH with
 | nil=>exact h
 | cons k ord ih=>
  have ih:=ih;have e:mQ (k::ord) nd j=((nd k).filter (· ==j)).map (λu=>k)++mQ ord nd j:=by delta mQ;rw [gj]
  rw [e,Cv,pP,eX,List.map_const'];cases hm:met nd F k with
  | false=>rw [Bool.and_false,az dN,yU.mpr (λa ha=>by rw [(List.mem_replicate.mp ha).2,hm];decide)];exact ih
  | true=>
   rw [Bool.and_true,CG.mpr (λa ha=>by rw [(List.mem_replicate.mp ha).2,hm])];cases ha:(nd k).any (· ==j)with
   | false=>
    have:(nd k).filter (· ==j)= []:=by
     rw [yU];exact λa hx z=>by rw [zE]at ha;exact ha a hx z
    rw [this,az dN];exact ih
   | true=>
    rw [aG rfl];refine V.c12 (yT.mp ha) λa hx z=>?_;obtain⟨m,hm2⟩: ∃m,((nd k).filter (· ==j)).length=m+1:=by
     have:0<((nd k).filter (· ==j)).length:=List.length_pos_iff.mpr λw=>by have this:a∈(nd k).filter (· ==j):=kO.mpr ⟨hx,z⟩;rw [w]at this;exact jc this
     exact⟨_,(Nat.succ_pred_eq_of_pos this).symm⟩
    rw [hm2];exact ih.rep k m
theorem yB {nd:Int->List Int} {F ord:List Int}: ∀js:List Int,zY ((js.flatMap (mQ ord nd)).filter (met nd F)) (js.flatMap λj=>ord.filter λk=>(nd k).any (· ==j) && met nd F k):=by
 intro aH;induction aH with
 | nil=>exact⟨rfl,λu=>Iff.rfl⟩
 | cons j js ih=>rw [gj,gj,Cv];exact(ih).blocks ord
theorem si: ∀{l:List Int} {x:Int},x∈gk l↔x∈l
 | [],_=>Iff.rfl
 | y::l,x=>by
  have ih:=si (l:=l) (x:=x);unfold gk;rw [ez];by_cases h:y∈l
  ·rw [lE h,aG rfl,ih,cI];exact⟨.inr,λz=>z.elim (λe=>by rw [e];exact h) id⟩
  ·rw [mH h,az dN,cI,cI,ih]
theorem yW: ∀l:List Int,(gk l).Nodup:=by
 intro aH;induction aH with
 | nil=>exact pJ
 | cons y l ih=>
  have ih:=ih;unfold gk;rw [ez];by_cases h:y∈l
  ·rw [lE h,aG rfl];exact ih
  ·rw [mH h,az dN];exact gM.mpr ⟨λz=>h (si.mp z),ih⟩
structure Cfg (nd:Int->List Int) (pg:Int->Str) (ord:List Int):Prop where
 inj: ∀i∈bq,∀j∈bq,pg i=pg j->i=j
 Ja: ∀k,(nd k).length<=2
 Jb: ∀k,∀j∈nd k,j∈bq
 on:ord.Nodup
 oi: ∀k,k∈ord↔k∈bq
section
variable {nd:Int->List Int} {pg:Int->Str} {ord:List Int} (c:Cfg nd pg ord)
include c
theorem gV {l:List Int} (hl: ∀x∈l,x∈bq) (hk:k∈bq):pg k∈l.map pg↔k∈l:=by
 constructor
 ·intro h;refine V.c12 (bM.mp h) λx hx e=>?_;rw [<-c.inj x (hl x hx) k hk e];exact hx
 ·exact λh=>bM.mpr ⟨k,h,rfl⟩
theorem u0 (hk:k∈bq): ∀{l:List Int},(∀x∈l,x∈bq)->(l.map pg).count (pg k)=l.count k:=by
 intro aH;induction aH with
 | nil=>intro u;exact rfl
 | cons a l ih=>
  intro h;rw [dj,List.count_cons,List.count_cons,ih λx hx=>h x (.tail _ hx)]
  congr 1
  by_cases e:a=k
  ·subst e;simp
  ·have:pg a≠pg k:=λz=>e (c.inj a (h a (.head _)) k hk z);simp [e,this]
theorem me: ∀{l:List Int},(∀x∈l,x∈bq)->l.Nodup->(l.map pg).Nodup:=by
 intro aH;induction aH with
 | nil=>intro u v;exact pJ
 | cons a l ih=>intro h hn;have h':=gM.mp hn;rw [dj,gM];exact⟨λz=>h'.1 ((gV c (λx hx=>h x (.tail _ hx)) (h a (.head _))).mp z),ih (λx hx=>h x (.tail _ hx)) h'.2⟩
theorem G2: ∀{l:List Int},(∀x∈l,x∈bq)->lB (l.map pg)=(gk l).map pg:=by
 intro aH;induction aH with
 | nil=>intro u;exact rfl
 | cons a l ih=>
  intro h;have hl: ∀x∈l,x∈bq:=λx hx=>h x (.tail _ hx);have ih:=ih hl;rw [dj];unfold lB gk;rw [ez];by_cases e:a∈l
  ·rw [lE e,aG rfl,aG ((gV c hl (h a (.head _))).mpr e),ih]
  ·rw [mH e,az dN,az (λz=>e ((gV c hl (h a (.head _))).mp z)),ih,dj]
theorem pA (h:k∈mQ ord nd j):k∈bq/\j∈nd k:=by delta mQ at h;refine V.c12 (xl.mp h) λa ha hk=>kE (bM.mp hk) λx hx=>?_;have:=kO.mp hx;exact⟨(c.oi _).mp ha,by rw [<-gB.mp this.2];exact this.1⟩
theorem KV (hk:k∈bq) (hj:j∈nd k):k∈mQ ord nd j:=by delta mQ;exact xl.mpr ⟨k,(c.oi k).mpr hk,bM.mpr ⟨j,kO.mpr ⟨hj,beq_self_eq_true j⟩,rfl⟩⟩
end
inductive FI (nd:Int->List Int):List Int->Prop
 | nil:FI nd []
 | snoc {E:List Int} {k:Int} (h:FI nd E) (hk: ∀j∈nd k,j∈E):FI nd (E++ [k])
theorem FI.more {nd:Int->List Int} (h:FI nd E): ∀{g:List Int},(∀k∈g,∀j∈nd k,j∈E)->FI nd (E++g)
 | [],_=>by rw [iI];exact h
 | k::g,hg=>by have h1:=h.snoc (hg k (.head _));have:=FI.more h1 (g:=g) (λx hx j hj=>cm.mpr (.inl (hg x (.tail _ hx) j hj)));rw [eX]at this;exact this
structure RS (nd:Int->List Int) (pg:Int->Str) (ord:List Int) (q:SS) (E g:List Int):Prop where
 nk:q.ks.Nodup
 ks: ∀k∈bq,pg k∈q.ks
 kx: ∀x∈q.ks,∃k∈bq,x=pg k
 su: ∀j∈bq,q.su (pg j)=(mQ ord nd j).map pg
 rd:q.rd=some (g.map pg)
 pn:q.po=q.nf
 np: ∀k∈bq,k∉E->q.np (pg k)=(rT nd E k:Int)
 ne: ∀k∈bq,k∈E->q.np (pg k)= -2
 dg:(E++g).Nodup
 ei: ∀k∈E++g,k∈bq
 inv: ∀k∈bq,k∈E++g↔rT nd E k=0
 Oc:FI nd E
theorem wM {q:SS} {g:List Str} (z:Str):(q.out g).np z=if z∈g then -1 else q.np z:=by
 have: ∀(r:List Str) (q:SS),(r.foldl (λq x=>q.cf x (-1)) q).np z=if z∈r then -1 else q.np z:=by
  intro r
  induction r with
  | nil=>intro q;simp
  | cons x r ih=>
   intro q;rw [cX,ih];refine(?_:(if z∈r then(-1:Int)else upd q.np x (-1) z)=_);delta upd;by_cases h:z∈r
   ·rw [aG h,aG (.tail _ h)]
   ·rw [az h];by_cases e:z=x
    ·rw [aG e,aG (by rw [e];exact .head _)]
    ·rw [az e,az (by rw [cI,not_or];exact⟨e,h⟩)]
 exact this g q
theorem C3 {nd:Int->List Int} {E:List Int} (h:rT nd E k=0): ∀j∈nd k,j∈E:=by intro j hj;delta rT at h;rw [List.countP_eq_zero]at h;have:=h j hj;rw [ez]at this;simpa using this
theorem FF {st:Int} {g:List Int} (h:g.Nodup):(cC st g).Nodup:=by
 delta cC;split
 ·exact h
 ·exact List.pairwise_reverse.mpr (List.Pairwise.imp (λz=>z.symm) h)
section
variable {nd:Int->List Int} {pg:Int->Str} {ord:List Int} {st:Int} {q:SS} {E g:List Int}
theorem RS.len (R:RS nd pg ord q E g):E.length+g.length<=6:=by have:=uB R.dg (l₂:=bq) R.ei;rw [cV]at this;exact this
theorem RS.facts (c:Cfg nd pg ord) (R:RS nd pg ord q E g) (hol:ord.length<=10):(∀k∈g,k∈bq)/\g.Nodup/\(∀k∈g,k∉E)/\(∀j∈g,∀k∈mQ ord nd j,k∉E++g):=by have hn:=ue.mp R.dg;have hE: ∀k∈g,k∉E:=λk hk z=>hn.2.2 k z k hk rfl;refine tN (λk hk=>R.ei k (cm.mpr (.inr hk))) hn.2.1 hE λj hj k hk z=>bG (pA c hk) λh1 h2=>hE j hj (C3 ((R.inv k h1).mp z) j h2)
theorem RS.step (c:Cfg nd pg ord) (R:RS nd pg ord q E g) (hol:ord.length<=10):DP (q.out (g.map pg)) ((cC st g).map pg)/\RS nd pg ord (pT pg st q g) (E++g) (gk (mD st ord nd (E++g) g))/\(pT pg st q g).ks=q.ks:=by
 refine ku (R.facts c hol) λgi gn gE far=>?_;have pm: ∀x,x∈cC st g↔x∈g:=λx=>qF;have pi: ∀x∈cC st g,x∈bq:=λx hx=>gi x ((pm x).mp hx);have pn:=FF (st:=st) gn;obtain⟨D,hD⟩: ∃D,D=(cC st g).flatMap (mQ ord nd):=⟨_,rfl⟩;have Di: ∀k∈D,k∈bq/\k∉E++g/\ ∃j∈g,j∈nd k:=λk hk=>by rw [hD]at hk;refine V.c12 (xl.mp hk) λj hj hk=>bG (pA c hk) λh1 h2=>⟨h1,far j ((pm j).mp hj) k hk,j,(pm j).mp hj,h2⟩
 have fl:((cC st g).map pg).flatMap (q.out (g.map pg)).su=D.map pg:=by
  rw [lq,hD,List.map_flatMap,List.flatMap_map];have: ∀l:List Int,(∀x∈l,x∈bq)->(l.flatMap λj=>q.su (pg j))=l.flatMap λj=>(mQ ord nd j).map pg:=by
   intro l
   induction l with
   | nil=>intro u1;rfl
   | cons a l ih=>intro hl;rw [gj,gj,R.su a (hl a (.head _)),ih λx hx=>hl x (.tail _ hx)]
  exact this _ pi
 have Dk: ∀x∈D.map pg,∃k∈D,pg k=x:=λx hx=>by refine V.c12 (bM.mp hx) λk hk e=>?_;exact V.i12 k hk e
 have Dc: ∀k∈bq,(D.map pg).count (pg k)=(nd k).countP λi=>g.any (· ==i):=λk hk=>by
  rw [u0 c hk λx hx=>(Di x hx).1,hD,zy c.on ((c.oi k).mpr hk) pn]
  congr 1
  funext i;exact xZ pm i
 have np0: ∀k∈bq,k∉E++g->(q.out (g.map pg)).np (pg k)=(rT nd E k:Int):=λk hk hn=>by rw [cm,not_or]at hn;rw [wM,az (λz=>hn.2 ((gV c gi hk).mp z)),R.np k hk hn.1]
 have Pq: ∀k∈bq,k∈g->(q.out (g.map pg)).np (pg k)= -1:=λk hk hg=>by rw [wM,aG (bM.mpr ⟨k,hg,rfl⟩)]
 have Pr: ∀k∈bq,k∈E->(q.out (g.map pg)).np (pg k)= -2:=λk hk hE=>by rw [wM,az (λz=>gE k ((gV c gi hk).mp z) hE),R.ne k hk hE]
 have rs:=λk=>zS (nd:=nd) (E:=E) (g:=g) (k:=k) gE;have dl:D.length<=1000:=by
  have h1: ∀j,(mQ ord nd j).length<=ord.length * 2:=λj=>by
   delta mQ;have key: ∀l:List Int,(l.flatMap λk=>((nd k).filter (· ==j)).map λu1=>k).length<=l.length * 2:=by
    intro l
    induction l with
    | nil=>exact bT _
    | cons a l ih=>rw [gj,cV,bu,cq];have:=Bx (· ==j) (nd a);have:=c.Ja a;omega
   exact key ord
  have h2: ∀l:List Int,(l.flatMap (mQ ord nd)).length<=l.length * 20:=by
   intro l
   induction l with
   | nil=>exact bT _
   | cons a l ih=>rw [gj,cV,cq];have:=h1 a;omega
  have h3:=h2 (cC st g);have h4:=R.len;rw [eR]at h3;rw [hD];omega
 have dp:DP (q.out (g.map pg)) ((cC st g).map pg):=by
  refine⟨⟨[],rfl,by rw [fl,bu];simpa using dl⟩,by rw [pe];exact R.nk,λx hx y hy=> ?_,λx hx=> ?_,me c pi pn,λx hx y hy z=> ?_⟩
  ·rw [pe]at hx⊢;rw [lq]at hy;refine V.c12 (R.kx x hx) λk hk p=>?_;subst p;rw [R.su k hk]at hy;refine V.c12 (bM.mp hy) λk2 hk2 n=>?_;subst n;exact R.ks k2 (pA c hk2).1
  ·refine V.c12 (bM.mp hx) λk hk m=>?_;subst m;rw [pe];exact⟨R.ks k (pi k hk),Pq k (pi k hk) ((pm k).mp hk)⟩
  ·refine V.c12 (bM.mp hx) λk hk t=>?_;subst t;refine V.c12 (bM.mp hy) λk2 hk2 w=>?_;subst w;rw [lq,R.su k (pi k hk)]at z;have z:=(gV c (λx hx=>(pA c hx).1) (pi k2 hk2)).mp z;exact far k ((pm k).mp hk) k2 z (cm.mpr (.inr ((pm k2).mp hk2)))
 refine⟨dp,?_⟩;have Nx:((cC st g).map pg).flatMap q.su=D.map pg:=by rw [lq]at fl;exact fl
 have Ny: ∀k∈bq,pg k∈(cC st g).map pg↔k∈g:=λk hk=>(gV c pi hk).trans (pm k);have spec:=CI (q:=q.out (g.map pg)) (su:=q.su) (xs:=(cC st g).map pg) (r:= []) lq rfl (me c pi pn) (λx hx z=>by
  rw [Nx]at z;refine V.c12 (bM.mp hx) λk hk v=>?_;subst v;have:=(gV c (λx hx=>(Di x hx).1) (pi k hk)).mp z;exact(Di k this).2.1 (cm.mpr (.inr ((pm k).mp hk)))) (λx hx=>by
  rw [Nx]at hx⊢;refine V.c12 (Dk x hx) λk hk u=>?_;subst u;refine nR (Di k hk) λh1 h2 _=>?_;rw [Dc k h1,np0 k h1 h2];have:=rs k;omega)
 rw [Nx]at spec;refine ku spec λs1 s2 s3 s4=>?_;clear spec;obtain⟨ek,es,_,_⟩:=dp.all;have ek:(pT pg st q g).ks=q.ks:=ek.trans pe;have es:(pT pg st q g).su=q.su:=es.trans lq;have mt: ∀k,met nd (E++g) k=true↔rT nd (E++g) k=0:=λk=>E9;have e1:(D.map pg).filter (λx=>(q.out (g.map pg)).np x==(((D.map pg).count x:Nat):Int))=(D.filter (met nd (E++g))).map pg:=by
  rw [List.filter_map]
  congr 1
  apply zC;intro k hk;refine nR (Di k hk) λh1 h2 _=>(?_:((q.out (g.map pg)).np (pg k)==(((D.map pg).count (pg k):Nat):Int))=_);rw [Dc k h1,np0 k h1 h2];have:=rs k;cases hm:met nd (E++g) k with
  | true=>have:=(mt k).mp hm;rw [gB];omega
  | false=>
   have h3:rT nd (E++g) k≠0:=λz=>by rw [(mt k).mpr z]at hm;exact zv hm
   rw [tq];omega
 have e2:lB ((D.filter (met nd (E++g))).map pg)=(gk (mD st ord nd (E++g) g)).map pg:=by rw [G2 c λx hx=>(Di x (kO.mp hx).1).1,hD];exact dM (List.map pg) (yB (cC st g)).1
 have Jd: ∀k,k∈gk (mD st ord nd (E++g) g)↔k∈D/\rT nd (E++g) k=0:=λk=>by rw [si,<-mt,<-kO,hD];exact((yB (cC st g)).2 k).symm
 refine⟨⟨by rw [ek];exact R.nk,λk hk=>by rw [ek];exact R.ks k hk,λx hx=>R.kx x (by rw [<-ek];exact hx),λj hj=>by rw [es];exact R.su j hj,?_,?_,λk hk hn=> ?_,λk hk hm=> ?_,?_,λk hk=> ?_,λk hk=> ?_,R.Oc.more λk hk=>C3 ((R.inv k (gi k hk)).mp (cm.mpr (.inr hk)))⟩,ek⟩
 ·refine(?_:((q.out (g.map pg)).tP _).rd=_);rw [s1,e1,e2];rfl
 ·refine(?_:((q.out (g.map pg)).tP _).po=((q.out (g.map pg)).tP _).nf);rw [s3,s4,Cb,bu,eR];refine(?_:q.po+((g.map pg).length:Int)=_);rw [bu,R.pn]
 ·have h2:=hn;rw [cm,not_or]at h2;refine(?_:((q.out (g.map pg)).tP _).np (pg k)=_);rw [s2,az (λz=>h2.2 ((Ny k hk).mp z)),np0 k hk hn,Dc k hk];have:=rs k;omega
 ·refine(?_:((q.out (g.map pg)).tP _).np (pg k)=_);rw [s2];by_cases hg:k∈g
  ·rw [aG ((Ny k hk).mpr hg)]
  ·have hE:k∈E:=(cm.mp hm).resolve_right hg;rw [az (λz=>hg ((Ny k hk).mp z)),Pr k hk hE,Dc k hk];have h0:=(R.inv k hk).mp (cm.mpr (.inl hE));have:=rs k;omega
 ·rw [ue];refine nB R.dg (yW _) λx hx y hy e=> ?_;subst e;exact(Di x ((Jd x).mp hy).1).2.1 hx
 ·refine aP (cm.mp hk) (λh=>?_) λh=>?_
  ·exact R.ei k h
  ·exact(Di k ((Jd k).mp h).1).1
 ·rw [cm,Jd];have h3:=rs k;constructor
  ·rintro (h | h)
   ·have:=(R.inv k hk).mp h;omega
   ·exact h.2
  ·intro h;by_cases z:rT nd E k=0
   ·exact .inl ((R.inv k hk).mpr z)
   ·refine .inr ⟨?_,h⟩;have:(D.map pg).count (pg k)≠0:=by rw [Dc k hk];omega
    rw [u0 c hk λx hx=>(Di x hx).1]at this;exact List.count_pos_iff.mp (Nat.pos_of_ne_zero this)
end
theorem uL:y∈fw N x↔y∈N\/y=x:=by
 delta fw;rw [ez];by_cases h:x∈N
 ·rw [lE h,aG rfl];exact⟨.inl,λz=>z.elim id λe=>by rw [e];exact h⟩
 ·rw [mH h,az dN];simp
theorem xf (h:N.Nodup):(fw N x).Nodup:=by
 delta fw;rw [ez];by_cases hx:x∈N
 ·rw [lE hx,aG rfl];exact h
 ·rw [mH hx,az dN,ue];exact nB h (by simp) λa ha b hb e=>by simp at hb;subst hb;subst e;exact hx ha
noncomputable def vB (nd:Int->List Int) (N:List Int) (k:Int):List Int:=([k]++nd k).foldl fw N
theorem uX: ∀(l N:List Int),N.Nodup->(l.foldl fw N).Nodup/\ ∀x,x∈l.foldl fw N↔x∈N\/x∈l:=by
 intro aH;induction aH with
 | nil=>intro N h;exact⟨h,λx=>by simp⟩
 | cons a l ih=>intro N h;refine bG (ih (fw N a) (xf h)) λh1 h2=>⟨h1,λx=>by rw [cX,h2,uL,cI,or_assoc]⟩
theorem vG (nd:Int->List Int): ∀(ord N:List Int),N.Nodup->(ord.foldl (vB nd) N).Nodup/\ ∀x,x∈ord.foldl (vB nd) N↔x∈N\/ ∃k∈ord,x=k\/x∈nd k:=by
 intro aH;induction aH with
 | nil=>intro N h;exact⟨h,λx=>by simp⟩
 | cons a ord ih=>
  intro N h;refine bG (uX ([a]++nd a) N h) λh1 h2=>bG (ih (vB nd N a) h1) λh3 h4=>⟨h3,λx=> ?_⟩;rw [cX,h4];have:x∈vB nd N a↔x∈N\/(x=a\/x∈nd a):=by refine(?_:x∈([a]++nd a).foldl fw N↔_);rw [h2];simp
  rw [this];constructor
  ·rintro ((z | z) | ⟨k,hk,z⟩)
   ·exact .inl z
   ·exact .inr ⟨a,.head _,z⟩
   ·exact .inr ⟨k,.tail _ hk,z⟩
  ·rintro (z | ⟨k,hk,z⟩)
   ·exact .inl (.inl z)
   ·refine aP (cI.mp hk) (λq=>?_) λhk=>?_
    ·subst q;exact .inl (.inr z)
    ·exact .inr ⟨k,hk,z⟩
section
variable {nd:Int->List Int} {pg:Int->Str} {ord:List Int} (c:Cfg nd pg ord)
noncomputable def rowsOf (nd:Int->List Int) (pg:Int->Str) (ord:List Int):List (Str×List Str):=ord.map λk=>(pg k,(nd k).map pg)
include c
theorem Bi (hN: ∀x∈N,x∈bq) (hj:j∈bq):lV (N.map pg) (pg j)=(fw N j).map pg:=by
 delta lV fw;rw [ez];by_cases h:j∈N
 ·rw [lE h,aG ((gV c hN hj).mpr h),aG rfl]
 ·rw [mH h,az (λz=>h ((gV c hN hj).mp z)),az dN,fk];rfl
theorem za: ∀(l N:List Int),(∀x∈N,x∈bq)->(∀x∈l,x∈bq)->(l.map pg).foldl lV (N.map pg)=(l.foldl fw N).map pg/\ ∀x∈l.foldl fw N,x∈bq:=by
 intro aH;induction aH with
 | nil=>intro N hN u;exact⟨rfl,hN⟩
 | cons a l ih=>
  intro N hN hl;have ha:=hl a (.head _);have Pu: ∀x∈fw N a,x∈bq:=λx hx=>(uL.mp hx).elim (hN x) λe=>by rw [e];exact ha
  refine bG (ih (fw N a) Pu λx hx=>hl x (.tail _ hx)) λh1 h2=>⟨by rw [dj,cX,Bi c hN ha,h1,cX],h2⟩
theorem IC: ∀(o N:List Int),(∀x∈N,x∈bq)->(∀x∈o,x∈bq)->(rowsOf nd pg o).foldl (λN r=>(r.1::r.2).foldl lV N) (N.map pg)=(o.foldl (vB nd) N).map pg/\ ∀x∈o.foldl (vB nd) N,x∈bq:=by
 intro aH;induction aH with
 | nil=>intro N hN u;exact⟨rfl,hN⟩
 | cons a o ih=>
  intro N hN hl;have hi: ∀x∈ [a]++nd a,x∈bq:=λx hx=>by
   refine aP (cm.mp hx) (λh=>?_) λh=>?_
   ·obtain rfl:=i8.mp h;exact hl x (.head _)
   ·exact c.Jb a x h
  refine bG (za c ([a]++nd a) N hN hi) λh1 h2=>bG (ih (vB nd N a) h2 λx hx=>hl x (.tail _ hx)) λh3 h4=>⟨?_,h4⟩;refine(?_:(rowsOf nd pg o).foldl _ ((pg a::(nd a).map pg).foldl lV (N.map pg))=_);rw [show pg a::(nd a).map pg=([a]++nd a).map pg from rfl,h1];exact h3
theorem HV (hk:k∈bq): ∀{o:List Int},o.Nodup->(∀x∈o,x∈bq)->oM (rowsOf nd pg o) (pg k)=if k∈o then((nd k).length:Int)else 0:=by
 intro aH;induction aH with
 | nil=>intro u v;exact rfl
 | cons a o ih=>
  intro hn hl;have hn':=gM.mp hn;have ih:=ih hn'.2 λx hx=>hl x (.tail _ hx);unfold oM rowsOf at ih⊢;rw [dj,dj,List.sum_cons,ih];by_cases e:k=a
  ·subst e;rw [aG rfl,az hn'.1,aG (.head _),bu];omega
  ·rw [az (λz=>e (c.inj k hk a (hl a (.head _)) z))];by_cases ho:k∈o
   ·rw [aG ho,aG (.tail _ ho)];omega
   ·rw [az ho,az (by rw [cI,not_or];exact⟨e,ho⟩)];omega
theorem Io (hj:j∈bq):((rowsOf nd pg ord).flatMap λr=>(r.2.filter (· ==pg j)).map λu=>r.1)=(mQ ord nd j).map pg:=by
 unfold rowsOf mQ;rw [List.flatMap_map,List.map_flatMap]
 congr 1
 funext k;refine(?_:(((nd k).map pg).filter (· ==pg j)).map (λu=>pg k)=_);rw [List.filter_map,dP,dP];have:(nd k).filter ((· ==pg j) ∘ pg)=(nd k).filter (· ==j):=by
  apply zC;intro i hi;refine(?_:(pg i==pg j)=(i==j));by_cases e:i=j
  ·subst e;simp
  ·rw [tq.mpr e,tq.mpr λz=>e (c.inj i (c.Jb k i hi) j hj z)]
 rw [this];rfl
noncomputable def mj (nd:Int->List Int) (pg:Int->Str) (ord:List Int):SS:=gN (rowsOf nd pg ord) q0
theorem wD:RS nd pg ord (mj nd pg ord).prep [] (Iz nd (dc ord nd))/\DM (mj nd pg ord)/\(mj nd pg ord).rd=none/\(∀x∈dc ord nd,x∈bq):=by
 have oi: ∀x∈ord,x∈bq:=λx hx=>(c.oi x).mp hx;have T:=uz (rowsOf nd pg ord) q0 Dp;refine bG (IC c ord [] (λx hx=>by exact jc hx) oi) λk1 k2=>bG (vG nd ord [] pJ) λk3 k4=>?_;obtain⟨N,hN⟩: ∃N,N=dc ord nd:=⟨_,rfl⟩;have hN':ord.foldl (vB nd) []=N:=by rw [hN];rfl
 rw [hN']at k1 k2 k3 k4;rw [<-hN];have ks:(mj nd pg ord).ks=N.map pg:=T.ks.trans k1;have np: ∀k∈bq,(mj nd pg ord).np (pg k)=((nd k).length:Int):=λk hk=>by refine(?_:(gN _ q0).np (pg k)=_);rw [T.np,HV c hk c.on oi,aG ((c.oi k).mpr hk)];refine(?_:(0:Int)+_=_);omega
 have su: ∀j∈bq,(mj nd pg ord).su (pg j)=(mQ ord nd j).map pg:=λj hj=>by refine(?_:(gN _ q0).su (pg j)=_);rw [T.su,Io c hj];rfl
 have nin: ∀k∈bq,k∈N:=λk hk=>(k4 k).mpr (.inr ⟨k,(c.oi k).mpr hk,.inl rfl⟩);have r0: ∀k,rT nd [] k=(nd k).length:=λk=>by delta rT;rw [List.countP_eq_length];intro a w;rfl
 have kx: ∀x∈(mj nd pg ord).ks,∃k∈bq,x=pg k:=λx hx=>by rw [ks]at hx;refine V.c12 (bM.mp hx) λk hk v=>?_;subst v;exact V.i12 k (k2 k hk) rfl
 have tR: ∀k∈bq,pg k∈(mj nd pg ord).ks:=λk hk=>by rw [ks];exact bM.mpr ⟨k,nin k hk,rfl⟩
 have gm: ∀k,k∈Iz nd N↔k∈N/\(nd k).length=0:=λk=>by delta Iz;rw [kO,List.isEmpty_iff,List.length_eq_zero_iff]
 refine tN ⟨by refine(?_:(mj nd pg ord).ks.Nodup);rw [ks];exact me c k2 k3,tR,kx,su,?_,?_,λk hk w=>by rw [r0];exact np k hk,λk w h=>(by exact jc h),?_,λk hk=> ?_,λk hk=> ?_,.nil⟩ ⟨by rw [ks];exact me c k2 k3,λx hx y hy=> ?_,?_⟩ T.rd k2
 ·refine(?_:some ((mj nd pg ord).ks.filter λx=>(mj nd pg ord).np x==0)=_);rw [ks,List.filter_map];delta Iz
  congr 2
  apply zC;intro k hk;refine(?_:((mj nd pg ord).np (pg k)==0)=_);rw [np k (k2 k hk)];cases nd k<;>rfl
 ·refine(?_:(mj nd pg ord).po=(mj nd pg ord).nf);rw [show(mj nd pg ord).po=_ from T.po,show(mj nd pg ord).nf=_ from T.nf];rfl
 ·rw [kQ];exact List.Pairwise.filter _ k3
 ·rw [kQ]at hk;exact k2 k ((gm k).mp hk).1
 ·rw [kQ,gm,r0];exact⟨λz=>z.2,λz=>⟨nin k hk,z⟩⟩
 ·refine V.c12 (kx x hx) λk hk u=>?_;subst u;rw [su k hk]at hy;refine V.c12 (bM.mp hy) λk2 hk2 q=>?_;subst q;exact tR k2 (pA c hk2).1
 ·rw [ks,bu];have:=uB k3 (l₂:=bq) k2;exact bU this (by decide)
theorem yk: ∀x,∀y∈(mj nd pg ord).su x,∃k∈bq,∃j∈nd k,pg j=x/\pg k=y:=by
 intro x y hy;have T:=uz (rowsOf nd pg ord) q0 Dp;rw [show(mj nd pg ord).su x=_ from T.su x]at hy;refine aP (cm.mp hy) (λh=>?_) λh=>?_
 ·exact jc h
 ·refine V.c12 (xl.mp h) λr hr h=>?_;refine V.c12 (bM.mp hr) λk hk u=>?_;subst u;refine V.c12 (bM.mp h) λz hz q=>?_;subst q;have hz:=kO.mp hz;refine V.c12 (bM.mp hz.1) λj hj e=>?_;exact⟨k,(c.oi k).mp hk,j,hj,by rw [e];exact gB.mp hz.2,rfl⟩
theorem Au (hol:ord.length<=10) {st:Int}: ∀(n:Nat) (q:SS) (E g:List Int),RS nd pg ord q E g->6 - E.length<=n->
  ∃rs q',sE st ord nd E g rs/\yZ pg st q rs q'/\rs.length<=n/\(∀h∈rs,h.length<=6)/\RS nd pg ord q' (E++rs.flatten) []/\q'.ks=q.ks:=by
 intro n;have nil: ∀(q:SS) (E:List Int) (n:Nat),RS nd pg ord q E []-> ∃rs q',sE st ord nd E [] rs/\yZ pg st q rs q'/\rs.length<=n/\(∀h∈rs,h.length<=6)/\RS nd pg ord q' (E++rs.flatten) []/\q'.ks=q.ks:=λq E n R=>
  ⟨[],q,.nil,.nil R.rd (by rw [R.pn];simp) R.nk,dW _,λh hh=>(by exact jc hh),by rw [List.flatten_nil,iI];exact R,rfl⟩
 induction n with
 | zero=>intro q E g R hn;have:=R.len;have hg:g= []:=List.eq_nil_of_length_eq_zero (by omega);subst hg;exact nil q E 0 R
 | succ n ih=>
  intro q E g R hn;by_cases hg:g= []
  ·subst hg;exact nil q E (n+1) R
  ·have hl:=R.len;have gp:0<g.length:=List.length_pos_iff.mpr hg;refine ku (R.facts c hol) λgi gn gE far=>nR (R.step (st:=st) c hol) λdp R2 ek=>?_;refine NR (ih _ _ _ R2 (by rw [cV];omega)) λrs q' h1 h2 h3 h4 h5 h6=>?_;refine OD (g::rs) q' (.cons hg (by omega) (by omega) h1) (.cons hg R.rd R.nk (λx hx=> ?_) (by omega) (by rw [R.pn];exact Int.le_refl _) gi dp h2) (by rw [cq];omega+splitDisjunctions) (λh hh=> ?_) ?_ (h6.trans ek)
   ·refine kE (bM.mp hx) λk hk=>?_;exact R.ks k (gi k hk)
   ·refine aP (cI.mp hh) (λz=>?_) λhh=>?_
    ·subst z;omega
    ·exact h4 h hh
   ·rw [List.flatten_cons,<-eX];exact h5
omit c in
theorem AN.sub {su:Str->List Str} (h:AN su fl): ∀z∈fl,∀y∈su z,y∈fl:=by
 induction h with
 | nil=>intro z hz;exact jc hz
 | cons h n t ih=>
  intro z hz y hy;refine aP (cI.mp hz) (λq=>?_) λhz=>?_
  ·subst q;exact .tail _ (h y hy)
  ·exact .tail _ (ih z hz y hy)
omit c in
theorem AN.none {su:Str->List Str} {S:Str->Prop} (h:AN su fl):(∀x,S x->x∈fl)->(∀x,S x-> ∃z,S z/\x∈su z)-> ∀x,¬S x:=by
 induction h with
 | nil=>intro h1 v x hx;cases h1 x hx
 | cons h n t ih=>
  intro h1 h2;refine ih (λs hs=> ?_) h2;refine aP (cI.mp (h1 s hs)) (λu=>?_) λz=>?_
  ·subst u;refine V.c12 (h2 s hs) λz hz hy=>aP (cI.mp (h1 z hz)) (λq=>?_) λw=>?_
   ·subst q;exact absurd (h _ hy) n
   ·exact absurd (AN.sub t z w _ hy) n
  ·exact z
omit c in
theorem sO.pred {su:Str->List Str}: ∀{t:List Str} {a:Str},sO su (a::t)-> ∀x∈t,∃z∈a::t,x∈su z:=by
 intro aH;induction aH with
 | nil=>
  intro u v x hx;exact by exact jc hx
 | cons b t ih=>
  intro a h x hx;cases h with
  | cons h l=>
   refine aP (cI.mp hx) (λq=>?_) λhx=>?_
   ·subst q;exact V.i12 a (.head _) h
   ·refine V.c12 (ih l x hx) λz hz w=>V.i12 z (.tail _ hz) w
theorem Hz (R:RS nd pg ord q' E []) (Gb:q'.su=(mj nd pg ord).su) (hks:q'.ks=(mj nd pg ord).ks) (res:Option (List Str)) (h:L2 (mj nd pg ord).su (mj nd pg ord).ks res):res.isSome=decide ((E.length:Int)<6):=by
 have dn:E.Nodup:=by have:=R.dg;rw [iI]at this;exact this
 have ei: ∀k∈E,k∈bq:=λk hk=>R.ei k (cm.mpr (.inl hk));have inv: ∀k∈bq,k∈E↔rT nd E k=0:=λk hk=>by have:=R.inv k hk;rw [iI]at this;exact this
 have su: ∀j∈bq,(mj nd pg ord).su (pg j)=(mQ ord nd j).map pg:=λj hj=>by rw [<-Gb];exact R.su j hj
 cases res with
 | none=>
  refine V.c12 h λfl tp hf=>?_;clear h;have no:=AN.none (S:=λx=> ∃k∈bq,k∉E/\x=pg k) tp (λx m=>(by refine fP m λk hk _ e=>?_;clear m;rw [e];exact hf _ (by rw [<-hks];exact R.ks k hk))) (λx r=>by
   refine fP r λk hk hn e=>?_;clear r;have h0:rT nd E k≠0:=λz=>hn ((inv k hk).mpr z);obtain⟨i,hi,hz⟩: ∃i∈nd k,i∉E:=by delta rT at h0;rw [Ne,List.countP_eq_zero]at h0;refine Ba λw=>h0 λa ha z=>w ⟨a,ha,?_⟩;rw [ez]at z;simpa using z
   have Od:=c.Jb k i hi;refine V.i12 (pg i) ⟨i,Od,hz,rfl⟩ ?_;rw [e,su i Od];exact bM.mpr ⟨k,KV c hk hi,rfl⟩)
  have all: ∀k∈bq,k∈E:=λk hk=>Ba λz=>no (pg k) ⟨k,hk,z,rfl⟩;have:=uB (l₁:=bq) (l₂:=E) (by decide) all;have e6:bq.length=6:=rfl;refine(?_:false=_);rw [mH];omega
 | some L=>
  refine fu h λy M t=>?_;clear h;subst t;intro GV lk;have pr: ∀x∈M++ [y],∃z∈M++ [y],x∈(mj nd pg ord).su z:=λx hx=>by
   refine V.c12 (sO.pred lk x hx) λz hz w=>aP (cI.mp hz) (λv=>?_) λhz=>?_
   ·subst v;exact V.i12 z (by simp) w
   ·exact V.i12 z hz w
  have Oe: ∀x∈M++ [y],∃k∈bq,x=pg k:=λx hx=>by refine V.c12 (pr x hx) λz hz w=>?_;obtain⟨k,hk,_,_,_,e⟩:=yk c z x w;exact V.i12 k hk e.symm
  have out: ∀E,FI nd E-> ∀k∈bq,pg k∈M++ [y]->k∉E:=by
   intro E hA
   induction hA with
   | nil=>intro k g p z;exact jc z
   | snoc hA hk0 ih=>
    intro k hk hm z;refine aP (cm.mp z) (λz=>?_) λz=>?_
    ·exact ih k hk hm z
    ·obtain rfl:=i8.mp z;refine V.c12 (pr _ hm) λw hw hy=>?_;refine V.c12 (Oe w hw) λj hj u=>?_;subst u;rw [su j hj]at hy;have hs:=(gV c (λx hx=>(pA c hx).1) hk).mp hy;exact ih j hj hw (hk0 j (pA c hs).2)
  refine V.c12 (Oe y (by simp)) λky Of ey=>?_;have hn:ky∉E:=out E R.Oc ky Of (by rw [<-ey];simp);have:=uB (l₁:=ky::E) (l₂:=bq) (gM.mpr ⟨hn,dn⟩) (λx hx=>by
   refine aP (cI.mp hx) (λq=>?_) λhx=>?_
   ·subst q;exact Of
   ·exact ei x hx)
  have e6:bq.length=6:=rfl;rw [cq]at this;refine(?_:true=_);rw [lE];omega
end
theorem AY: ∀rs:List (List Int),(rs.map λg=>(g.length:Int)).sum=(rs.flatten.length:Int):=by
 intro aH;induction aH with
 | nil=>exact rfl
 | cons g rs ih=>
  exact by rw [dj,List.sum_cons,ih,List.flatten_cons,cV];omega
theorem AW (t:Int):(bq.map (ir t)).Nodup/\ ∀k,k∈bq.map (ir t)↔k∈bq:=by
 have e: ∀i,ir t i=(t % 6+i) % 6:=λi=>by delta ir;rw [Int.fmod_eq_emod_of_nonneg _ (by decide)];omega
 obtain⟨m,hm⟩: ∃m,m=t % 6:=⟨_,rfl⟩;have Pw:m=0\/m=1\/m=2\/m=3\/m=4\/m=5:=by omega
 have e2:bq.map (ir t)=bq.map λi=>(m+i) % 6:=p5 λi u=>by rw [e,hm]
 have nd:((bq.map λi=>(m+i) % 6)).Nodup/\(∀k∈bq,k∈bq.map λi=>(m+i) % 6):=by
  rcases Pw with rfl | rfl | rfl | rfl | rfl | rfl<;>decide
 rw [e2];exact⟨nd.1,λk=>⟨λh=>by rw [<-e2]at h;refine kE (bM.mp h) λi _=>?_;exact wm t i,nd.2 k⟩⟩
theorem MP (nA:Int->Int) (t:Int): ∃rs q',Plan nA (ir t) (stOf t) rs q':=by
 have tI: ∀i∈bq,ir t i∈bq:=λi u=>wm t i;refine bG (AW t) λon om=>?_;have c:Cfg (tL nA) (jH nA) (bq.map (ir t)):=⟨λi hi j hj e=>by rw [<-(l7 nA hi).kk,e,(l7 nA hj).kk],λk=>nP _,λk=>pf _,on,om⟩;have et:mj (tL nA) (jH nA) (bq.map (ir t))=tO nA (ir t):=by unfold mj tO rowsOf;rw [dP];rfl
 refine ku (wD c) λPx G rd nm=>?_;have hst:stOf t=1\/stOf t= -1:=by delta stOf;split<;>simp
 refine NR (Au c (by rw [bu];decide) (st:=stOf t) 6 _ [] _ Px (by simp)) λrs q' h1 h2 h3 h4 h5 h6=>?_;rw [kQ]at h5;have Gb:q'.su=(mj (tL nA) (jH nA) (bq.map (ir t))).su:=by
  have: ∀(rs:List (List Int)) (q q':SS),yZ (jH nA) (stOf t) q rs q'->q'.su=q.su:=by
   intro rs q q' h
   induction h with
   | nil=>rfl
   | cons _ _ _ _ _ _ _ hd _ ih=>rw [ih,hd.all.2.1,lq]
  have z:=this rs _ q' h2;exact z
 refine NF rs q' ⟨λk hk=> ?_,λk hk=>DI hk,JO nA _ tI,yE nA _ tI,BX nA _ tI,wW nA _ tI,λk hk=>A2 nA hk,nm,hst,h1,by omega,λg hg=>bU (h4 g hg) (by decide),?_,?_,λres hr=> ?_,?_,?_,?_⟩
 ·have P:=l7 nA hk;exact tN ⟨bU P.ln (by decide),fh P.ok xO⟩ (bU P.ln (by decide)) ⟨P.c0,P.c9⟩ (jd (fh P.ok ve))
 ·rw [<-et];exact G
 ·rw [<-et];exact rd
 ·rw [<-et]at hr;rw [AY];exact Hz c h5 Gb h6 res hr
 ·rw [<-et];exact yk c
 ·rw [<-et];exact h2
 ·rw [<-et];exact h6
end L1
end
section
set_option maxRecDepth 1000000
set_option maxHeartbeats 0
namespace H1
open PySem.Challenge
noncomputable abbrev kp:List Nat:= [0,1,3,4,5,7,9,10,11,12,13,15,17,19,20,22,24,26,27,28,29,30,32,33,34,35,36,37,38,39,40,41]
noncomputable abbrev qv:Program:=view pw_ik0233_01 kp
noncomputable abbrev lo:List Str:= [Str.ofString "tspecials",Str.ofString "_name_disallowed_re",Str.ofString "_value_disallowed_re",Str.ofString "_formatparam",Str.ofString "_NodeInfo"]
noncomputable abbrev hk:Hook:=kHook K Mv (λ_=>by kernel_rfl)
noncomputable abbrev xt (s:Shared):Bool:=xlAt qv [] s && recOk (RowW.records rw_ik0233_01.row.toRowW) s
theorem check (w:World):(HD.top pw_ik0233_01 (stepT (denote treeTable) (opening pw_ik0233_01) w) (stepT (denote treeTable) pw_ik0233_01 w) (λt=>t.atExitBegin.map List.isEmpty) stepOk (start (opening pw_ik0233_01)) (fenceModules? pw_ik0233_01) Heap.nsMap 3600).map (λr=>(staticsOk (importedModules pw_ik0233_01.main.body) r.1.heap r.2.abs.heap && namesBound pw_ik0233_01 r.2.abs.heap && gensDone r.2.abs && laidKept r.1.heap r.2.abs.heap,openSeen qv lo (importedModules pw_ik0233_01.main.body) xt true r.2.abs,Mv.map r.2.abs.heap.get?))=some (true,openGood qv lo,(K w.params).map λp=>some p.2):=by rw [PySem.W.Fast.te10156331382660048174,PySem.W.Fast.te11892475500146522536,PySem.W.Fast.te14364793385576792824,PySem.W.Fast.te6613529449190102663,PySem.W.Fast.te1435165496053646825,PySem.W.Fast.te14289696077712309145,PySem.W.Fast.te3805553451399329143,PySem.W.Fast.te8920871248978507458,PySem.W.Fast.te4187177175401517315,PySem.W.Fast.te5923862056798008813];kernel_rfl
theorem left:LeftO rw_ik0233_01.row.prog qv lo xt hk.obs hk.val 3600:=λw=>by
 obtain⟨s0,s1,e,f⟩:=HD.HQ (F:=λu s=>(openSeen qv lo (importedModules pw_ik0233_01.main.body) xt true s,Mv.map s.heap.get?)) (check w);show(openEnds treeTable pw_ik0233_01 w 3600).map _=_
 rw [e];exact dM some f
theorem said:rw_ik0233_01.wellSaid=true:=by rw [PySem.W.Fast.te9446332074065402090];kernel_rfl
theorem hd (walk: ∀(d:DefRec),defOf qv rw_ik0233_01.row.name=some (d,[])->WalkO qv lo (XL qv []) hk.says rw_ik0233_01.row.toRowW d [] λf vs=>PySem.call f vs):rw_ik0233_01.Holds:=by
 refine holds_law said λsaid=>holds_open (q:=qv) (loose:=lo) (Xt:=xt) (XP:=XL qv []) (Yf:=hk.obs) (Ya:=hk.val) (YP:=hk.says) (N:=3600) left hk.of hk.keeps (λs e=>xl_of s (Bool.and_eq_true_iff.mp e).1) XL.keeps (by rfl) (by rfl) (by rfl) (λs e=>recFacts_of (Bool.and_eq_true_iff.mp e).2) (by rfl) said (by decide+kernel) ⟨rfl,rfl,rfl,rfl,rfl,by decide+kernel⟩ ?hw ?hc
 case hw=>w_witness2
 case hc=>exact walk _ rfl
end H1
end
section
namespace L1
theorem CE: ∀{vs:List Value} {ns:List Int},IntsAre vs ns->aU W (ns.map .int) vs:=by
 intro vs ns h
 induction h with
 | nil=>exact .nil
 | cons n t _ ih=>exact .cons b9 ih
set_option tactic.hygienic true in
theorem El {mg mb:Str->Option Value} {mean:ExcName->Option Value} (T:Top p loose mean mg mb aI.heap) (KX:(H1.K w.params).In aI.heap) (hg:aI.gens= #[]) (hmg:mg (Str.ofString "law")=some (.ref fa)) (hL:aI.heap.IsList a vs.toArray) (w1:Well w.params aI.heap (.ref a) d) (hI:IntsAre vs ns) (hz:ns.length<=63)
  {R:Result->Shared->Prop} (hR: ∀s',(∀b o,aI.heap.get? b=some o->s'.heap.get? b=some o)->s'.os=aI.os->s'.gens= #[]->R (.ok (.ret (.bool true))) s'):
  codeAny (model Challenge.rw_ik0233_01.row.prog w) callerA (.call (.ref fa) ⟨[.ref a],[]⟩) R aI:=by
 obtain⟨C,hC⟩: ∃C:V.Cx,C=⟨Challenge.rw_ik0233_01.row.prog,w,H1.K w.params,aI.heap,aI.os,mg,mb,none,aI.toks⟩:=⟨_,rfl⟩;have O:C.Ok:=by subst hC;exact⟨KX,T.g,T.b,T.builtins,T.nolimit⟩
 have I:Is C:=⟨O,by subst hC;rfl,by subst hC;rfl⟩;have hm:C.mg (Str.ofString "law")=some (.ref 479):=(L1.mg I _).trans (by kernel_rfl);have hfa:fa=479:=by
  have:C.mg=mg:=by subst hC;rfl
  rw [this,hmg]at hm;exact Value.ref.inj (dI hm)
 subst hfa;obtain⟨W,hW⟩: ∃W:V.Wd,W=⟨λu=>none,aI.heap.get?⟩:=⟨_,rfl⟩;have hobj:aI.heap.get? a=some {cls:= .type "list",data:= .seq vs.toArray}:=by
  obtain⟨o,ho,hc,n,hd⟩:=hL;have key: ∀o',aI.heap.get? a=some o'->o'.cls= .type "list"/\o'.data= .seq vs.toArray n:=λo' e=>by rw [ho]at e;obtain rfl:=dI e;exact⟨hc,hd⟩
  clear ho hc hd;cases w1
  case list h1 h2=>
   have e:=(key _ h2).2;simp only [Data.seq.injEq]at e;rw [h2,e.1]
  all_goals
   exfalso;have e:=(key _ (by assumption)).1;simp at e
 have hv:aw W (.lst (ns.map .int)) (.ref a):=by exact v5 a _ vs 0 rfl (by rw [hW];exact hobj) rfl rfl (CE hI)
 have inv:V.Inv C W (λu=>none) aI:=by subst hC hW;refine⟨λl=>rfl,λl l' a e=>(by exact dC e),λl a o e=>(by exact dC e),λl a e=>(by exact dC e),λa o e=>⟨o,e,.refl o⟩,λa o e=>e,λa o e=>e,hg,rfl,bT _,?_,λl a e=>(by exact dC e)⟩;refine sL T.g λo es ep ho _=>⟨o,ho⟩
 refine V.c21 (MP (numAt ns) ns.sum) λrs q' P=>?_;have call:=La I (k:=0) (Z:=λu=>none) (ns:=ns) (by omega) P W (.ref 479) [.ref a] [] rfl (.cons hv .nil) rfl callerA aI [] ⟨by decide+kernel,by decide+kernel,⟨λu=>rfl,λu=> .inl rfl⟩⟩ rfl (λe he=>(by exact jc he)) inv;have eM:C.M=model Challenge.rw_ik0233_01.row.prog w:=by subst hC;rfl
 rw [eM]at call;refine kZ call λr s' h=> ?_
 match r,h with
 | .ok (.ret r),h=>obtain⟨W',le,I',q⟩:=h;subst q;refine hR s' (λb o e=>I'.kept b o (by subst hC;exact e)) (I'.os.trans (by subst hC;rfl)) I'.gens
 | .ok .next,h=>exact h.elim
 | .ok .brk,h=>exact h.elim
 | .ok .cont,h=>exact h.elim
 | .error _,h=>exact h.elim
end L1
end
set_option maxRecDepth 100000 in
set_option maxHeartbeats 8000000 in
theorem PySem.Challenge.cw_ik0233_01_holds : PySem.Challenge.rw_ik0233_01.Holds := by
 refine H1.hd λd hdd=> ?_;intro w IJ aI mg mb G Y fa o pm cd doc dV kV ho hd hcd hD hmg hg args vals as hpre hlay hrd hwl hlo;have KX:=kIn_of Y;have hmg:mg (Str.ofString "law")=some (.ref fa):=(dM mg (defOf_name hdd)).symm.trans hmg;refine Ground.open G ?_;intro T B D TE TW;clear hd hD hcd D
 wrow_args hpre hlay hrd hwl hlo
 refine enter_call ?_;rename_i hL _ w1 _ hI _ hcond _;refine L1.El T KX hg hmg hL w1 hI (by omega) λs' h1 h2 h3=>GoodW.toG ⟨.inl ⟨.bool true,.bool true,[],rfl,λ_=>rfl,.bool true,(by kernel_rfl),unshared_nil⟩,h1,h2,h3⟩
