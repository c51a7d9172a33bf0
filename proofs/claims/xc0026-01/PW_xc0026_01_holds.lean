import PyProof.Rows.All
import Wide.All
import OpenK.AllK
import KE.KEqDict
import KE.KBytesAny
import Wide.FinOn
import PySem.Challenge.RW_xc0026_01
set_option Elab.async false
set_option genSizeOf false
set_option genSizeOfSpec false
set_option bootstrap.genMatcherCode false
set_option linter.all false
namespace av
theorem MW:type_of% @Option.some.inj:= @Option.some.inj
theorem MX:type_of% @List.length_map:= @List.length_map
theorem MY:type_of% @congrArg:= @congrArg
theorem MZ:type_of% @PySem.wpAny_bind:= @PySem.wpAny_bind
theorem M4:type_of% @Nat.le_trans:= @Nat.le_trans
theorem M5:type_of% @Nat.lt_of_le_of_lt:= @Nat.lt_of_le_of_lt
theorem M6:type_of% @PySem.wpAny_pure:= @PySem.wpAny_pure
theorem M7:type_of% @if_pos:= @if_pos
theorem M8:type_of% @if_neg:= @if_neg
theorem M9:type_of% @Bool.and_eq_true_iff:= @Bool.and_eq_true_iff
theorem Nb:type_of% @List.getD_eq_getElem?_getD:= @List.getD_eq_getElem?_getD
theorem Nc:type_of% @List.getElem?_eq_getElem:= @List.getElem?_eq_getElem
theorem Nd:type_of% @decide_eq_true_eq:= @decide_eq_true_eq
theorem Nf:type_of% @List.mem_cons_self:= @List.mem_cons_self
theorem Ng:type_of% @List.mem_range:= @List.mem_range
theorem Nh:type_of% @List.mem_singleton:= @List.mem_singleton
theorem Ni:type_of% @List.length_append:= @List.length_append
theorem Nj:type_of% @List.mem_cons_of_mem:= @List.mem_cons_of_mem
theorem Nk:type_of% @List.length_range:= @List.length_range
theorem Nl:type_of% @List.not_mem_nil:= @List.not_mem_nil
theorem Nm:type_of% @congrFun:= @congrFun
theorem Nn:type_of% @List.mem_map:= @List.mem_map
theorem Np:type_of% @List.mem_cons:= @List.mem_cons
theorem Nq:type_of% @decide_eq_true:= @decide_eq_true
theorem Nr:type_of% @of_decide_eq_true:= @of_decide_eq_true
theorem Nt:type_of% @List.mem_filter:= @List.mem_filter
theorem Nu:type_of% @List.map_append:= @List.map_append
theorem Nv:type_of% @List.length_filter_le:= @List.length_filter_le
theorem Nw:type_of% @List.mem_of_getElem?:= @List.mem_of_getElem?
theorem Nx:type_of% @List.all_eq_true:= @List.all_eq_true
theorem Ny:type_of% @List.getElem?_eq_some_iff:= @List.getElem?_eq_some_iff
theorem Nz:type_of% @List.getElem?_map:= @List.getElem?_map
theorem NA:type_of% @List.nodup_cons:= @List.nodup_cons
theorem NB:type_of% @Nat.le_refl:= @Nat.le_refl
theorem NC:type_of% @PySem.mem_of_lookup:= @PySem.mem_of_lookup
theorem ND:type_of% @Nat.le_of_lt:= @Nat.le_of_lt
theorem NF:type_of% @Nat.lt_of_lt_of_le:= @Nat.lt_of_lt_of_le
theorem NG:type_of% @Int.natCast_nonneg:= @Int.natCast_nonneg
theorem NH:type_of% @PySem.wpAny_mono:= @PySem.wpAny_mono
theorem NJ:type_of% @beq_iff_eq:= @beq_iff_eq
theorem NK:type_of% @List.mem_append:= @List.mem_append
theorem NM:type_of% @Nat.le_add_right:= @Nat.le_add_right
theorem NO:type_of% @List.map_map:= @List.map_map
theorem NP:type_of% @List.append_nil:= @List.append_nil
theorem NQ:type_of% @decide_eq_false:= @decide_eq_false
theorem NR:type_of% @Nat.le_of_eq:= @Nat.le_of_eq
theorem NS:type_of% @List.append_assoc:= @List.append_assoc
theorem NU:type_of% @Nat.le_of_not_lt:= @Nat.le_of_not_lt
theorem NV:type_of% @Bool.and_eq_true:= @Bool.and_eq_true
theorem NW:type_of% @Nat.lt_trans:= @Nat.lt_trans
theorem NX:type_of% @Bool.false_ne_true:= @Bool.false_ne_true
theorem NY:type_of% @Nat.add_le_add:= @Nat.add_le_add
theorem NZ:type_of% @Nat.ne_of_lt:= @Nat.ne_of_lt
theorem N0:type_of% @Nat.le_of_lt_succ:= @Nat.le_of_lt_succ
theorem N1:type_of% @List.size_toArray:= @List.size_toArray
theorem N2:type_of% @List.map_congr_left:= @List.map_congr_left
theorem N3:type_of% @Nat.mod_lt:= @Nat.mod_lt
theorem N4:type_of% @Nat.ne_of_gt:= @Nat.ne_of_gt
theorem N5:type_of% @Int.ofNat_lt:= @Int.ofNat_lt
theorem N6:type_of% @List.nodup_nil:= @List.nodup_nil
theorem N7:type_of% @Nat.lt_succ_self:= @Nat.lt_succ_self
theorem N8:type_of% @Nat.mul_le_mul_left:= @Nat.mul_le_mul_left
theorem N9:type_of% @PySem.wpAny_execs_cons:= @PySem.wpAny_execs_cons
theorem Oa:type_of% @Nat.lt_irrefl:= @Nat.lt_irrefl
theorem Ob:type_of% @List.map_cons:= @List.map_cons
theorem Oc:type_of% @Int.toNat_natCast:= @Int.toNat_natCast
theorem Od:type_of% @List.getElem?_eq_none:= @List.getElem?_eq_none
theorem Oe:type_of% @List.eq_nil_of_length_eq_zero:= @List.eq_nil_of_length_eq_zero
theorem Of:type_of% @List.getElem?_append_left:= @List.getElem?_append_left
theorem Og:type_of% @Nat.le_add_left:= @Nat.le_add_left
theorem Oh:type_of% @Nat.succ_pos:= @Nat.succ_pos
theorem Oi:type_of% @Bool.or_eq_true_iff:= @Bool.or_eq_true_iff
theorem Oj:type_of% @Bool.eq_iff_iff:= @Bool.eq_iff_iff
theorem Ol:type_of% @PySem.wpAny_newObj_type:= @PySem.wpAny_newObj_type
theorem Om:type_of% @List.filter_cons:= @List.filter_cons
theorem Oo:type_of% @List.cons.inj:= @List.cons.inj
theorem Oq:type_of% @List.mem_append_left:= @List.mem_append_left
theorem Ot:type_of% @Int.ofNat_le:= @Int.ofNat_le
theorem Ou:type_of% @Nat.zero_le:= @Nat.zero_le
theorem Ov:type_of% @Nat.add_le_add_left:= @Nat.add_le_add_left
theorem Ow:type_of% @List.length_replicate:= @List.length_replicate
theorem Ox:type_of% @Ne.symm:= @Ne.symm
theorem Oy:type_of% @Nat.le_succ_of_le:= @Nat.le_succ_of_le
theorem Oz:type_of% @List.nodup_append:= @List.nodup_append
theorem OA:type_of% @List.forall_mem_cons:= @List.forall_mem_cons
theorem OB:type_of% @Bool.false_eq_true:= @Bool.false_eq_true
theorem OC:type_of% @Option.map_eq_some_iff:= @Option.map_eq_some_iff
theorem OD:type_of% @Nat.succ_le_succ:= @Nat.succ_le_succ
theorem OE:type_of% @List.length_take:= @List.length_take
theorem OF:type_of% @Nat.lt_succ_of_lt:= @Nat.lt_succ_of_lt
theorem OG:type_of% @List.flatMap_cons:= @List.flatMap_cons
theorem OH:type_of% @PySem.wpAny_holding:= @PySem.wpAny_holding
theorem OJ:type_of% @PySem.wpAny_call_entry:= @PySem.wpAny_call_entry
theorem OK:type_of% @Nat.le_succ:= @Nat.le_succ
theorem OL:type_of% @Nat.not_lt_zero:= @Nat.not_lt_zero
theorem OM:type_of% @List.replicate_append_replicate:= @List.replicate_append_replicate
theorem ON:type_of% @decide_eq_decide:= @decide_eq_decide
theorem OO:type_of% @Nat.pos_of_ne_zero:= @Nat.pos_of_ne_zero
theorem OP:type_of% @Nat.succ.inj:= @Nat.succ.inj
theorem OQ:type_of% @List.filter_congr:= @List.filter_congr
theorem OR:type_of% @beq_false_of_ne:= @beq_false_of_ne
theorem OS:type_of% @Nat.le_antisymm:= @Nat.le_antisymm
theorem OT:type_of% @beq_eq_false_iff_ne:= @beq_eq_false_iff_ne
theorem OU:type_of% @PySem.wpAny_field:= @PySem.wpAny_field
theorem OV:type_of% @Nat.lt_of_lt_of_eq:= @Nat.lt_of_lt_of_eq
theorem OW:type_of% @List.mem_append_right:= @List.mem_append_right
theorem OX:type_of% @PySem.wpAny_assign_Name:= @PySem.wpAny_assign_Name
theorem OY:type_of% @List.findIdx?_eq_some_iff_getElem:= @List.findIdx?_eq_some_iff_getElem
theorem OZ:type_of% @Classical.byContradiction:= @Classical.byContradiction
theorem O0:type_of% @Nat.testBit_eq_decide_div_mod_eq:= @Nat.testBit_eq_decide_div_mod_eq
theorem O1:type_of% @Nat.lt_succ_of_le:= @Nat.lt_succ_of_le
theorem O2:type_of% @Nat.lt_of_succ_lt:= @Nat.lt_of_succ_lt
theorem O3:type_of% @Nat.add_comm:= @Nat.add_comm
theorem O4:type_of% @List.getElem?_of_mem:= @List.getElem?_of_mem
theorem O5:type_of% @Int.ofNat.inj:= @Int.ofNat.inj
theorem O6:type_of% @Nat.add_lt_add_left:= @Nat.add_lt_add_left
theorem O7:type_of% @List.filterMap_cons:= @List.filterMap_cons
theorem O8:type_of% @beq_self_eq_true:= @beq_self_eq_true
theorem O9:type_of% @Nat.not_le_of_lt:= @Nat.not_le_of_lt
theorem Pa:type_of% @Nat.min_le_right:= @Nat.min_le_right
theorem Pb:type_of% @List.nodup_range:= @List.nodup_range
theorem Pc:type_of% @List.filter_eq_nil_iff:= @List.filter_eq_nil_iff
theorem Pe:type_of% @Bool.or_eq_true:= @Bool.or_eq_true
theorem au {P Q:Prop}{G:Prop}(h:P/\Q)(k:P->Q->G):G:=k h.1 h.2
theorem eU {P Q R:Prop}{G:Prop}(h:P/\Q/\R)(k:P->Q->R->G):G:=k h.1 h.2.1 h.2.2
theorem kS {P Q R S:Prop}{G:Prop}(h:P/\Q/\R/\S)(k:P->Q->R->S->G):G:=k h.1 h.2.1 h.2.2.1 h.2.2.2
theorem LS {P Q R S T U:Prop}{G:Prop}(h:P/\Q/\R/\S/\T/\U)(k:P->Q->R->S->T->U->G):G:=k h.1 h.2.1 h.2.2.1 h.2.2.2.1 h.2.2.2.2.1 h.2.2.2.2.2
theorem ak {b:Sort u}{P:b->Prop}{G:Prop}(h:∃a,P a)(k:∀a,P a->G):G:=h.elim λa h=>k a h
theorem af {b:Sort u}{P Q:b->Prop}{G:Prop}(h:∃a,P a/\Q a)(k:∀a,P a->Q a->G):G:=h.elim λa h=>k a h.1 h.2
theorem bf {b:Type}{P Q R:b->Prop}{G:Prop}(h:∃a,P a/\Q a/\R a)(k:∀a,P a->Q a->R a->G):G:=h.elim λa h=>k a h.1 h.2.1 h.2.2
theorem ni {b:Type}{P Q R S:b->Prop}{G:Prop}(h:∃a,P a/\Q a/\R a/\S a)(k:∀a,P a->Q a->R a->S a->G):G:=h.elim λa h=>k a h.1 h.2.1 h.2.2.1 h.2.2.2
theorem JR {b:Type}{P Q R S T:b->Prop}{G:Prop}(h:∃a,P a/\Q a/\R a/\S a/\T a)(k:∀a,P a->Q a->R a->S a->T a->G):G:=h.elim λa h=>k a h.1 h.2.1 h.2.2.1 h.2.2.2.1 h.2.2.2.2
theorem eZ {c d:Type}{P:c->d->Prop}{G:Prop}(h:∃a b,P a b)(k:∀a b,P a b->G):G:=h.elim λa h=>h.elim λb h=>k a b h
theorem aW {c d:Type}{P Q:c->d->Prop}{G:Prop}(h:∃a b,P a b/\Q a b)(k:∀a b,P a b->Q a b->G):G:=h.elim λa h=>h.elim λb h=>k a b h.1 h.2
theorem aP {c d:Type}{P Q R:c->d->Prop}{G:Prop}(h:∃a b,P a b/\Q a b/\R a b)(k:∀a b,P a b->Q a b->R a b->G):G:=h.elim λa h=>h.elim λb h=>k a b h.1 h.2.1 h.2.2
theorem jb {c d:Type}{P Q R S:c->d->Prop}{G:Prop}(h:∃a b,P a b/\Q a b/\R a b/\S a b)(k:∀a b,P a b->Q a b->R a b->S a b->G):G:=h.elim λa h=>h.elim λb h=>k a b h.1 h.2.1 h.2.2.1 h.2.2.2
theorem jY {c d:Type}{P Q R S T:c->d->Prop}{G:Prop}(h:∃a b,P a b/\Q a b/\R a b/\S a b/\T a b)(k:∀a b,P a b->Q a b->R a b->S a b->T a b->G):G:=h.elim λa h=>h.elim λb h=>k a b h.1 h.2.1 h.2.2.1 h.2.2.2.1 h.2.2.2.2
theorem wJ {c d:Type}{P Q R S T U:c->d->Prop}{G:Prop}(h:∃a b,P a b/\Q a b/\R a b/\S a b/\T a b/\U a b)(k:∀a b,P a b->Q a b->R a b->S a b->T a b->U a b->G):G:=h.elim λa h=>h.elim λb h=>k a b h.1 h.2.1 h.2.2.1 h.2.2.2.1 h.2.2.2.2.1 h.2.2.2.2.2
theorem JS {c d:Type}{P Q R S T U V X:c->d->Prop}{G:Prop}(h:∃a b,P a b/\Q a b/\R a b/\S a b/\T a b/\U a b/\V a b/\X a b)(k:∀a b,P a b->Q a b->R a b->S a b->T a b->U a b->V a b->X a b->G):G:=h.elim λa h=>h.elim λb h=>k a b h.1 h.2.1 h.2.2.1 h.2.2.2.1 h.2.2.2.2.1 h.2.2.2.2.2.1 h.2.2.2.2.2.2.1 h.2.2.2.2.2.2.2
theorem JT {d e f:Type}{P:d->e->f->Prop}{G:Prop}(h:∃a b c,P a b c)(k:∀a b c,P a b c->G):G:=h.elim λa h=>h.elim λb h=>h.elim λc h=>k a b c h
theorem DI {d e f:Type}{P Q:d->e->f->Prop}{G:Prop}(h:∃a b c,P a b c/\Q a b c)(k:∀a b c,P a b c->Q a b c->G):G:=h.elim λa h=>h.elim λb h=>h.elim λc h=>k a b c h.1 h.2
theorem jn {d e f:Type}{P Q R:d->e->f->Prop}{G:Prop}(h:∃a b c,P a b c/\Q a b c/\R a b c)(k:∀a b c,P a b c->Q a b c->R a b c->G):G:=h.elim λa h=>h.elim λb h=>h.elim λc h=>k a b c h.1 h.2.1 h.2.2
theorem dX {d e f:Type}{P Q R S:d->e->f->Prop}{G:Prop}(h:∃a b c,P a b c/\Q a b c/\R a b c/\S a b c)(k:∀a b c,P a b c->Q a b c->R a b c->S a b c->G):G:=h.elim λa h=>h.elim λb h=>h.elim λc h=>k a b c h.1 h.2.1 h.2.2.1 h.2.2.2
theorem DJ {d e f:Type}{P Q R S T:d->e->f->Prop}{G:Prop}(h:∃a b c,P a b c/\Q a b c/\R a b c/\S a b c/\T a b c)(k:∀a b c,P a b c->Q a b c->R a b c->S a b c->T a b c->G):G:=h.elim λa h=>h.elim λb h=>h.elim λc h=>k a b c h.1 h.2.1 h.2.2.1 h.2.2.2.1 h.2.2.2.2
theorem lC {d e f:Type}{P Q R S T U:d->e->f->Prop}{G:Prop}(h:∃a b c,P a b c/\Q a b c/\R a b c/\S a b c/\T a b c/\U a b c)(k:∀a b c,P a b c->Q a b c->R a b c->S a b c->T a b c->U a b c->G):G:=h.elim λa h=>h.elim λb h=>h.elim λc h=>k a b c h.1 h.2.1 h.2.2.1 h.2.2.2.1 h.2.2.2.2.1 h.2.2.2.2.2
theorem sR {d e f:Type}{P Q R S T U V:d->e->f->Prop}{G:Prop}(h:∃a b c,P a b c/\Q a b c/\R a b c/\S a b c/\T a b c/\U a b c/\V a b c)(k:∀a b c,P a b c->Q a b c->R a b c->S a b c->T a b c->U a b c->V a b c->G):G:=h.elim λa h=>h.elim λb h=>h.elim λc h=>k a b c h.1 h.2.1 h.2.2.1 h.2.2.2.1 h.2.2.2.2.1 h.2.2.2.2.2.1 h.2.2.2.2.2.2
theorem sS {e f g i:Type}{P Q:e->f->g->i->Prop}{G:Prop}(h:∃a b c d,P a b c d/\Q a b c d)(k:∀a b c d,P a b c d->Q a b c d->G):G:=h.elim λa h=>h.elim λb h=>h.elim λc h=>h.elim λd h=>k a b c d h.1 h.2
theorem oR {e f g i:Type}{P Q R:e->f->g->i->Prop}{G:Prop}(h:∃a b c d,P a b c d/\Q a b c d/\R a b c d)(k:∀a b c d,P a b c d->Q a b c d->R a b c d->G):G:=h.elim λa h=>h.elim λb h=>h.elim λc h=>h.elim λd h=>k a b c d h.1 h.2.1 h.2.2
theorem JU {e f g i:Type}{P Q R S:e->f->g->i->Prop}{G:Prop}(h:∃a b c d,P a b c d/\Q a b c d/\R a b c d/\S a b c d)(k:∀a b c d,P a b c d->Q a b c d->R a b c d->S a b c d->G):G:=h.elim λa h=>h.elim λb h=>h.elim λc h=>h.elim λd h=>k a b c d h.1 h.2.1 h.2.2.1 h.2.2.2
theorem DK {e f g i:Type}{P Q R S T:e->f->g->i->Prop}{G:Prop}(h:∃a b c d,P a b c d/\Q a b c d/\R a b c d/\S a b c d/\T a b c d)(k:∀a b c d,P a b c d->Q a b c d->R a b c d->S a b c d->T a b c d->G):G:=h.elim λa h=>h.elim λb h=>h.elim λc h=>h.elim λd h=>k a b c d h.1 h.2.1 h.2.2.1 h.2.2.2.1 h.2.2.2.2
theorem JV {e f g i:Type}{P Q R S T U:e->f->g->i->Prop}{G:Prop}(h:∃a b c d,P a b c d/\Q a b c d/\R a b c d/\S a b c d/\T a b c d/\U a b c d)(k:∀a b c d,P a b c d->Q a b c d->R a b c d->S a b c d->T a b c d->U a b c d->G):G:=h.elim λa h=>h.elim λb h=>h.elim λc h=>h.elim λd h=>k a b c d h.1 h.2.1 h.2.2.1 h.2.2.2.1 h.2.2.2.2.1 h.2.2.2.2.2
theorem DL {f g i j l:Type}{P Q R S:f->g->i->j->l->Prop}{G:Prop}(h:∃a b c d e,P a b c d e/\Q a b c d e/\R a b c d e/\S a b c d e)(k:∀a b c d e,P a b c d e->Q a b c d e->R a b c d e->S a b c d e->G):G:=h.elim λa h=>h.elim λb h=>h.elim λc h=>h.elim λd h=>h.elim λe h=>k a b c d e h.1 h.2.1 h.2.2.1 h.2.2.2
theorem JW {f g i j l:Type}{P Q R S T:f->g->i->j->l->Prop}{G:Prop}(h:∃a b c d e,P a b c d e/\Q a b c d e/\R a b c d e/\S a b c d e/\T a b c d e)(k:∀a b c d e,P a b c d e->Q a b c d e->R a b c d e->S a b c d e->T a b c d e->G):G:=h.elim λa h=>h.elim λb h=>h.elim λc h=>h.elim λd h=>h.elim λe h=>k a b c d e h.1 h.2.1 h.2.2.1 h.2.2.2.1 h.2.2.2.2
theorem DM {i j l m n o p:Type}{P Q R:i->j->l->m->n->o->p->Prop}{G:Prop}(h:∃a b c d e f g,P a b c d e f g/\Q a b c d e f g/\R a b c d e f g)(k:∀a b c d e f g,P a b c d e f g->Q a b c d e f g->R a b c d e f g->G):G:=h.elim λa h=>h.elim λb h=>h.elim λc h=>h.elim λd h=>h.elim λe h=>h.elim λf h=>h.elim λg h=>k a b c d e f g h.1 h.2.1 h.2.2
@[elab_as_elim] theorem Ha {c:Sort u}{a b:c}{motive:c->Prop} (h:b=a) (x:motive b):motive a:=h▸x
@[elab_as_elim] theorem fU {c:Sort u}{a b:c}{motive:c->Prop} (h:a=b) (x:motive b):motive a:=by rw[h];exact x
theorem lu {b c:Nat}(h:a<b)(k:Nat.ble b c=true):a<c:=NF h (Nat.le_of_ble_eq_true k)
theorem lw {b c:Nat}(h:a<=b)(k:Nat.ble b c=true):a<=c:=M4 h (Nat.le_of_ble_eq_true k)
theorem lv {b c:Nat}(h:a<=b)(k:Nat.blt b c=true):a<c:=M5 h (Nat.le_of_ble_eq_true k)
end av
local macro_rules
 |`(tactic|rw[$e:term])=>`(tactic|first|(with_reducible_and_instances refine av.fU $e ?_;try with_reducible rfl)|(with_reducible_and_instances refine av.fU ($e _) ?_;try with_reducible rfl)|(with_reducible_and_instances refine av.fU ($e _ _) ?_;try with_reducible rfl)|(with_reducible_and_instances refine av.fU ($e _ _ _) ?_;try with_reducible rfl)|(refine av.fU $e ?_;try with_reducible rfl)|(rewrite[$e:term];with_reducible rfl)|rewrite[$e:term])
 |`(tactic|rw[<-$e:term])=>`(tactic|first|(with_reducible_and_instances refine av.Ha $e ?_;try with_reducible rfl)|(with_reducible_and_instances refine av.Ha ($e _) ?_;try with_reducible rfl)|(with_reducible_and_instances refine av.Ha ($e _ _) ?_;try with_reducible rfl)|(refine av.Ha $e ?_;try with_reducible rfl)|(rewrite[<-$e:term];with_reducible rfl)|rewrite[<-$e:term])
 |`(tactic|rw[$e:term,$es,*])=>`(tactic|(first|with_reducible_and_instances refine av.fU $e ?_|with_reducible_and_instances refine av.fU ($e _) ?_|with_reducible_and_instances refine av.fU ($e _ _) ?_|with_reducible_and_instances refine av.fU ($e _ _ _) ?_|refine av.fU $e ?_|rewrite[$e:term]);rw[$es,*])
 |`(tactic|rw[<-$e:term,$es,*])=>`(tactic|(first|with_reducible_and_instances refine av.Ha $e ?_|with_reducible_and_instances refine av.Ha ($e _) ?_|with_reducible_and_instances refine av.Ha ($e _ _) ?_|refine av.Ha $e ?_|rewrite[<-$e:term]);rw[$es,*])
 |`(tactic|show $t:term)=>`(tactic|first|refine(?_:$t)|change $t)
namespace av
open PySem
section
theorem ns {b:Type}{a:b}{p:Prop}(h:none=some a):p:=nomatch h
theorem nb {p:Prop}(h:false=true):p:=nomatch h
set_option genSizeOf true in set_option genSizeOfSpec true in
inductive D where
 |none
 |bool (b:Bool)
 |int (i:Int)
 |str (s:Str)
 |list (xs:List D)
 |tup (xs:List D)
 |dict (ks:List Str)(vs:List D)
 |inst (vs:List D)
noncomputable def cB (f:D->D->Option Bool):List D->List D->Option Bool
 |[],[]=>some true
 |[],_::_=>some false
 |_::_,[]=>some false
 |x::a,y::d=>match f x y,cB f a d with
  |some b,some c=>some (b&&c)
  |_,_=>none
noncomputable def dh (f:D->D->Option Bool)(a:List Str)(b:List D):List Str->List D->Option Bool
 |k::d,v::e=>match dh f a b d e with
  |some c=>match (a.idxOf? k).bind λi=>b[i]? with
   |some g=>(f v g).map (· &&c)
   |none=>if a.contains k then none else some false
  |none=>none
 |[],[]=>some true
 |_,_=>none
noncomputable def D.gm:Nat->D->D->Option Bool
 |0,_,_=>Option.none
 |n+1,a,b=>match a,b with
  | .none,.none=>some true
  | .int a,.int b=>some (a==b)
  | .str a,.str b=>some (a==b)
  | .bool a,.bool b=>some (a==b)
  | .list c,.list d=>cB (D.gm n) c d
  | .tup c,.tup d=>cB (D.gm n) c d
  |_,_=>Option.none
noncomputable def D.nj:Nat->D->D->Option Bool
 |0,_,_=>Option.none
 |n+1,a,b=>match a,b with
  | .tup f,.tup g=>cB (D.nj n) f g
  | .dict e h,.dict c d=>if e.length=c.length then dh (D.nj n) c d e h else some false
  |a,b=>D.gm (n+1) a b
noncomputable def D.mem (x:D):List D->Option Bool
 |[]=>some false
 |y::a=>match D.gm 6 y x,D.mem x a with
  |some b,some c=>some (b||c)
  |_,_=>Option.none
set_option genSizeOf false
inductive Slot where
 |val (d:D)
 |own (d:D)
 |rows (rs:List (List D))
 |obj (fs:List D)
 |ext (xs:List D)
 |raw (v:Value)
noncomputable abbrev St:=Nat->Option Slot
noncomputable def St.set (Z:St)(x:Nat)(s:Slot):St:=λy=>if y=x then some s else Z y
noncomputable def St.cut (Z:St)(a:List Nat):St:=λy=>if a.contains y then Z y else none
inductive Fn where
 |len|sum|list|tuple|min|max|abs|strOf|hex|jo|kB|all|join|count|index|cU|sT|sU|sset
 |user (f:Nat)
 |dY (f:Nat)
 deriving DecidableEq
inductive dj where
 |one (x:Nat)
 |many (xs:List Nat)
 deriving DecidableEq
mutual
inductive ME where
 |none
 |bool (b:Bool)
 |int (i:Int)
 |str (s:Str)
 |var (x:Nat)
 |bin (op:Operator)(a b:ME)
 |neg (a:ME)
 |not (a:ME)
 |and (a b:ME)
 |or (a b:ME)
 |cmp (op:CmpOp)(a b:ME)
 |ite (t a b:ME)
 |list (es:List ME)
 |tup (es:List ME)
 |dict (kvs:List (ME×ME))
 |comp (e:ME)(cap:List Nat)(g:MG)(gs:List MG)
 |gI (e:ME)(cap:List Nat)(g:MG)
 |dM (k v:ME)(cap:List Nat)(g:MG)
 |idx (a i:ME)
 |jc (a:ME)(lo hi st:Option ME)
 |attr (a:ME)(k:Nat)
 |fn (f:Fn)(es:List ME)
 |range (es:List ME)
 |enum (e:ME)
 |zip (a b:ME)
 |items (e:ME)
 |values (e:ME)
inductive MG where
 |mk (t:dj)(it:ME)(ifs:List ME)
end
noncomputable def lim:Int:=2^62
noncomputable def D.bin (op:Operator):D->D->Option D
 | .int a,.int b=>match op with
  | .Add=>some (.int (a+b))
  | .Sub=>some (.int (a - b))
  | .Mult=>if a.natAbs<2^64&&b.natAbs<2^64 then some (.int (a*b)) else Option.none
  | .FloorDiv=>if b≠0/\b.natAbs<2^30 then some (.int (a.fdiv b)) else Option.none
  | .Mod=>if b≠0 then some (.int (a.fmod b)) else Option.none
  | .Pow=>if 0<=b/\b<=64/\a.natAbs<2^64 then some (.int (a^b.toNat)) else Option.none
  | .LShift=>if 0<=b/\b<=64/\a.natAbs<2^64 then some (.int (a*2^b.toNat)) else Option.none
  | .BitAnd=>some (.int (Builtin.bitAnd a b))
  | .BitOr=>some (.int (Builtin.bitOr a b))
  | .BitXor=>some (.int (Builtin.bitXor a b))
  |_=>Option.none
 | .int a,.bool b=>match op with
  | .Mult=>if a.natAbs<2^64 then some (.int (a*(if b then 1 else 0))) else Option.none
  |_=>Option.none
 | .str a,.str b=>match op with
  | .Add=>if a.length<2^20/\b.length<2^20 then some (.str (a++b)) else Option.none
  |_=>Option.none
 | .str a,.int b=>match op with
  | .Mult=>if a.length=1/\b<2^16/\ -(2^16)<b then some (.str ⟨(List.replicate b.toNat (a.cps.toList.headD 0)).toArray⟩) else Option.none
  |_=>Option.none
 | .list a,.list b=>match op with
  | .Add=>if a.length<2^20/\b.length<2^20 then some (.list (a++b)) else Option.none
  |_=>Option.none
 | .tup a,.tup b=>match op with
  | .Add=>if a.length<2^20/\b.length<2^20 then some (.tup (a++b)) else Option.none
  |_=>Option.none
 | .list a,.int b=>match op with
  | .Mult=>if a.length<2^10/\b<2^10/\ -(2^10)<b then some (.list (List.replicate b.toNat a).flatten) else Option.none
  |_=>Option.none
 |_,_=>Option.none
noncomputable def gR (a:Int):Str:=PySem.baseText "0x" 16 a
noncomputable def D.truthy:D->Option Bool
 | .bool b=>some b
 | .int i=>some (i !=0)
 |_=>Option.none
noncomputable def D.ii (f:Int->Int->Bool):D->D->Option Bool
 | .int a,.int b=>some (f a b)
 |_,_=>Option.none
noncomputable def D.bb:D->D->Option Bool
 | .bool a,.bool b=>some (a==b)
 |_,_=>Option.none
noncomputable def D.isIn (x:D):D->Option Bool
 | .list a=>D.mem x a
 | .tup a=>D.mem x a
 | .dict b _=>match x with
  | .str s=>some (b.contains s)
  |_=>Option.none
 |_=>Option.none
noncomputable def D.isTup:D->Bool
 | .tup _=>true
 |_=>false
noncomputable def D.cmp (op:CmpOp)(x y:D):Option Bool:=match op with
 | .Eq=>D.nj 6 x y
 | .NotEq=>cond (D.isTup x) Option.none ((D.gm 6 x y).map (!·))
 | .In=>D.isIn x y
 | .NotIn=>(D.isIn x y).map (!·)
 | .Is=>D.bb x y
 | .Lt=>D.ii (λa b=>decide (a<b)) x y
 | .LtE=>D.ii (λa b=>decide (a<=b)) x y
 | .Gt=>D.ii (λa b=>decide (b<a)) x y
 | .GtE=>D.ii (λa b=>decide (b<=a)) x y
 |_=>Option.none
noncomputable def lD (xs:List D)(lo hi st:Option Int):List D:=
 (sliceRange (sliceBounds lo hi st xs.length).1 (sliceBounds lo hi st xs.length).2.1 (sliceBounds lo hi st xs.length).2.2).filterMap (xs[·]?)
noncomputable def D.slice (x:D)(lo hi st:Option Int):Option D:=match x with
 | .list a=>if st≠some 0/\a.length<2^20 then some (.list (lD a lo hi st)) else Option.none
 | .tup a=>match lo,hi,st with
  |Option.none,some h,Option.none=>if 0<=h/\h<a.length/\a.length<2^20 then some (.tup (a.take h.toNat)) else Option.none
  |_,_,_=>Option.none
 |_=>Option.none
noncomputable def D.index (x i:D):Option D:=match x,i with
 | .list a,.int i=>if 0<=i/\i<lim then a[i.toNat]? else Option.none
 | .tup a,.int i=>if 0<=i/\i<lim then a[i.toNat]? else Option.none
 | .dict b d,.str s=>(b.idxOf? s).bind λj=>d[j]?
 | .str s,.int i=>if 0<=i/\i<lim then s.cps[i.toNat]?.map λc=>.str ⟨#[c]⟩ else Option.none
 |_,_=>Option.none
noncomputable def wK (a b c:Int):List D:=(List.range (Builtin.Range.rangeSize a b c).toNat).map λ(k:Nat)=>.int (a+k*c)
noncomputable def D.range:List D->Option (List D)
 |[.int n]=>if n.natAbs<2^20 then some (wK 0 n 1) else Option.none
 |[.int a,.int b]=>if a.natAbs<2^20/\b.natAbs<2^20 then some (wK a b 1) else Option.none
 |[.int a,.int b,.int c]=>if a.natAbs<2^20/\b.natAbs<2^20/\c.natAbs<2^20/\c≠0 then some (wK a b c) else Option.none
 |_=>Option.none
noncomputable def D.ints:List D->Option (List Int)
 |[]=>some []
 | .int i::r=>(D.ints r).map (i:: ·)
 |_=>Option.none
noncomputable def D.strs:List D->Option (List Str)
 |[]=>some []
 | .str i::r=>(D.strs r).map (i:: ·)
 |_=>Option.none
noncomputable def D.bools:List D->Option (List Bool)
 |[]=>some []
 | .bool i::r=>(D.bools r).map (i:: ·)
 |_=>Option.none
noncomputable def insI (x:Int):List Int->List Int
 |[]=>[x]
 |y::a=>if x<=y then x::y::a else y::insI x a
noncomputable def sortI:List Int->List Int
 |[]=>[]
 |x::a=>insI x (sortI a)
noncomputable def dE:List (Int×String):=[(1,"OPTIMIZED"),(2,"NEWLOCALS"),(4,"VARARGS"),(8,"VARKEYWORDS"),(16,"NESTED"),(32,"GENERATOR"),(64,"NOFREE"),(128,"COROUTINE"),(256,"ITERABLE_COROUTINE"),(512,"ASYNC_GENERATOR")]
noncomputable def D.elems:D->Option (List D)
 | .list a=>some a
 | .tup a=>some a
 | .dict b _=>some (b.map .str)
 | .str s=>some (s.cps.toList.map λc=>.str ⟨#[c]⟩)
 |_=>Option.none
noncomputable def dN (k:Nat):List D->List D
 |[]=>[]
 |x::a=>.tup [.int k,x]::dN (k+1) a
noncomputable def iV:List D->List D->List D
 |x::a,y::b=>.tup [x,y]::iV a b
 |_,_=>[]
noncomputable def one:List D->Option D
 |[x]=>some x
 |_=>none
noncomputable def two (g:D->D->Option D):List D->Option D
 |[x,y]=>g x y
 |_=>none
noncomputable def D.l?:D->Option (List D)
 | .list a=>some a
 |_=>Option.none
noncomputable def D.MF:D->Option (List D)
 | .list a=>some a
 | .tup a=>some a
 |_=>Option.none
noncomputable def D.i?:D->Option Int
 | .int i=>some i
 |_=>Option.none
noncomputable def D.s?:D->Option Str
 | .str s=>some s
 |_=>Option.none
noncomputable def D.t?:D->Option (List D)
 | .tup a=>some a
 |_=>Option.none
noncomputable def D.d?:D->Option (List Str×List D)
 | .dict a b=>some (a,b)
 |_=>Option.none
noncomputable def D.n?:D->Option Unit
 | .none=>some ()
 |_=>Option.none
noncomputable def D.MH:D->Option Bool
 | .int _=>some true
 | .bool _=>some true
 |_=>Option.none
noncomputable def D.HT:D->Option Unit
 | .inst _=>some ()
 |_=>Option.none
noncomputable def sV (k:Int)(d:D):D:=match dE.lookup k with
 |some n=>.str (Str.ofString n)
 |none=>d
noncomputable def fN (U:Nat->List D->Option D)(f:Fn)(ds:List D):Option D:=match f with
 | .len=>(one ds).bind λx=>x.MF.bind λc=>if c.length<2^40 then some (.int c.length) else none
 | .sum=>(one ds).bind λx=>x.l?.bind λc=>(D.ints c).map λis=>.int is.sum
 | .list=>(one ds).bind λx=>x.l?.bind λc=>if c.length<2^20 then some (.list c) else none
 | .tuple=>(one ds).bind λx=>x.l?.bind λc=>if c.length<2^20 then some (.tup c) else none
 | .min=>two (λx y=>x.i?.bind λa=>y.i?.bind λb=>some (.int (if b<a then b else a))) ds
 | .max=>two (λx y=>x.i?.bind λa=>y.i?.bind λb=>some (.int (if b>a then b else a))) ds
 | .abs=>(one ds).bind λx=>x.i?.bind λa=>some (.int (if a<0 then -a else a))
 | .strOf=>(one ds).bind λx=>x.i?.bind λa=>if a.natAbs<2^64 then some (.str (toString a)) else none
 | .hex=>(one ds).bind λx=>x.i?.bind λa=>if a.natAbs<2^60 then some (.str (gR a)) else none
 | .jo=>(one ds).bind λx=>x.MH.map .bool
 | .kB=>(one ds).bind λx=>x.i?.bind λ_=>some (.bool false)
 | .all=>(one ds).bind λx=>x.l?.bind λc=>(D.bools c).map λbs=>.bool (bs.all id)
 | .join=>two (λx y=>x.s?.bind λs=>y.l?.bind λc=>(D.strs c).bind λd=>if(d.map (·.length)).sum+d.length*s.length<=16777216 then some (.str (PySem.Txt.join s d)) else none) ds
 | .count=>two (λx y=>x.l?.bind λc=>(c.mapM λz=>D.gm 6 z y).map λbs=>.int (bs.countP id:Nat)) ds
 | .index=>two (λx y=>x.l?.bind λc=>y.s?.bind λs=>(D.strs c).bind λd=>if d.length<2^40 then(d.idxOf? s).map λ(i:Nat)=>.int (i:Int) else none) ds
 | .sset=>(one ds).bind λx=>x.l?.bind λc=>(D.ints c).bind λis=>if is.length<64 then some (.list ((sortI is).map .int)) else none
 | .cU=>two (λx y=>x.i?.bind λk=>some (sV k y)) ds
 | .sT=>some (.str " ")
 | .sU=>some (.str "\t")
 | .user f=>U f ds
 | .dY f=>ds.head?.bind λx=>x.HT.bind λ_=>U f ds
noncomputable def noOwn (Z:St):ME->Bool
 | .var x=>match Z x with
  |some (.val _)=>true
  |_=>false
 | .idx (.var x) _=>match Z x with
  |some (.rows _)=>false
  |_=>true
 | .items (.var x)=>match Z x with
  |some (.val _)=>true
  |_=>false
 | .values (.var x)=>match Z x with
  |some (.val _)=>true
  |_=>false
 | .range _=>true
 | .enum _=>false
 | .items _=>false
 | .values _=>false
 | .zip _ _=>false
 | .ite _ _ _=>false
 |_=>true
noncomputable def zg:ME->Bool
 | .list _=>true
 |_=>false
noncomputable def uS:ME->Bool
 | .bin b a _=>b== .Mult&&zg a
 |_=>false
noncomputable def dq:ME->Bool
 | .list _=>true
 | .dict _=>true
 | .comp _ _ _ _=>true
 | .dM _ _ _ _=>true
 | .bin c a b=>(c== .Mult&&zg a)||(c== .Add&&uS b)
 | .fn f _=>f== .list
 |_=>false
noncomputable def bB (Z:St):dj->D->Option St
 | .one x,d=>some (Z.set x (.val d))
 | .many [x,y],.tup [a,b]=>some ((Z.set x (.val a)).set y (.val b))
 |_,_=>none
noncomputable def e7 (Z:St):dj->D->Option St
 | .one x,d=>if(Z x).isSome then none else some (Z.set x (.val d))
 | .many [x,y],.tup [a,b]=>if(Z x).isSome||(Z y).isSome then none else some ((Z.set x (.val a)).set y (.val b))
 |_,_=>none
noncomputable def putD {a:Type}(ks:List Str)(vs:List a)(k:Str)(v:a):List Str×List a:=
 match ks.idxOf? k with
 |some i=>(ks,vs.set i v)
 |none=>(ks++[k],vs++[v])
noncomputable def Slot.free:Slot->Option Slot
 | .val d=>some (.val d)
 | .own d=>some (.val d)
 | .rows a=>some (.val (.list (a.map .list)))
 | .obj _=>none
 | .ext _=>none
 | .raw _=>none
noncomputable def St.free (Z:St):St:=λx=>(Z x).bind Slot.free
structure Ev where
 m:St->ME->Option D
 v:St->ME->Option D
 t:St->ME->Option Bool
 i:St->dj->ME->Option (List D)
noncomputable def bz (r:Ev)(Z:St):List ME->Option Bool
 |[]=>some true
 |c::a=>do if<-r.t Z c then bz r Z a else pure false
noncomputable def bD (f:D->Option (List D)):List D->Option (List D)
 |[]=>some []
 |x::c=>do
  let a<-f x
  let b<-bD f c
  pure (a++b)
noncomputable def i7 (r:Ev)(e:ME):List MG->St->Option (List D)
 |[],a=>do pure [<-r.m a e]
 | .mk t it ifs::c,a=>if !noOwn a it then none else do
  let f<-r.i a t it
  bD (λd=>do
   let b<-e7 a t d
   if<-bz r b ifs then i7 r e c b else pure []) f
noncomputable def cw (r:Ev)(e:ME)(t:dj)(ifs:List ME)(gs:List MG)(Z:St)(d:D):Option (List D):=do
 let a<-e7 Z t d
 if<-bz r a ifs then i7 r e gs a else pure []
noncomputable def di (r:Ev)(k v:ME)(t:dj)(ifs:List ME)(Z:St):List D->List Str×List D->Option (List Str×List D)
 |[],acc=>some acc
 |d::b,acc=>do
  let a<-e7 Z t d
  if<-bz r a ifs then
   match<-r.m a k with
   | .str s=>do
    let x<-r.m a v
    di r k v t ifs Z b (putD acc.1 acc.2 s x)
   |_=>none
  else di r k v t ifs Z b acc
noncomputable def fO (r:Ev)(Z:St):Option ME->Option (Option Int)
 |none=>some none
 |some e=>do match<-r.m Z e with
  | .int i=>pure (some i)
  |_=>none
noncomputable def cV (U:Nat->List D->Option D)(r:Ev)(Z:St):ME->Option D
 | .none=>some .none
 | .bool b=>some (.bool b)
 | .int i=>some (.int i)
 | .str s=>some (.str s)
 | .var x=>match Z x with
  |some (.val d)=>some d
  |_=>none
 | .bin n a b=>do
  let x<-r.v Z a
  let y<-r.v Z b
  D.bin n x y
 | .neg a=>do match<-r.m Z a with
  | .int i=>some (.int (-i))
  |_=>none
 | .and a b=>do
  match<-r.m Z a with
  | .bool true=>r.m Z b
  | .bool false=>pure (.bool false)
  |_=>none
 | .or a b=>do
  match<-r.m Z a with
  | .bool false=>r.m Z b
  | .bool true=>pure (.bool true)
  |_=>none
 | .cmp n a b=>do
  let x<-r.v Z a
  let y<-r.v Z b
  (D.cmp n x y).map .bool
 | .ite t a b=>do if<-r.t Z t then r.m Z a else r.m Z b
 | .list j=>if j.length<64 then(j.mapM (r.m Z)).map .list else none
 | .tup j=>if j.length<64 then(j.mapM (r.m Z)).map .tup else none
 | .dict o=>match o with
  |[]=>some (.dict [] [])
  |[(k,v)]=>do
   match<-r.m Z k with
   | .str s=>do let d<-r.m Z v;pure (.dict [s] [d])
   |_=>none
  |_=>none
 | .comp e c g p=>match g with
  | .mk t it ifs=>do
   let m<-r.i Z t it
   let out<-bD (cw r e t ifs p (Z.cut c)) m
   if out.length<2^20 then pure (.list out) else none
 | .gI e c g=>match g with
  | .mk t it ifs=>do
   let m<-r.i Z t it
   let out<-bD (cw r e t ifs [] (Z.cut c)) m
   let is<-D.ints out
   if is.length<64&&is.all (λi=>decide (0<=i/\i<6)) then pure (.list ((sortI is.eraseDups).map .int)) else none
 | .dM k v c g=>match g with
  | .mk t it ifs=>do
   let m<-r.i Z t it
   let acc<-di r k v t ifs (Z.cut c) m ([],[])
   if acc.1.length<2^10 then pure (.dict acc.1 acc.2) else none
 | .idx a i=>do
  let x<-r.v Z a
  let y<-r.m Z i
  D.index x y
 | .jc a lo hi st=>do
  let x<-r.v Z a
  let l<-fO r Z lo
  let h<-fO r Z hi
  let s<-fO r Z st
  D.slice x l h s
 | .attr a k=>match a with
  | .var x=>match Z x with
   |some (.val (.inst q))=>q[k]?
   |some (.obj fs)=>fs[k]?
   |_=>none
  |_=>none
 | .fn f j=>match f with
  | .user _=>do fN U f (<-j.mapM (r.m Z))
  | .dY _=>do fN U f (<-j.mapM (r.m Z))
  | .cU=>do fN U f (<-j.mapM (r.m Z))
  |_=>do fN U f (<-j.mapM (r.v Z))
 |_=>none
noncomputable def sW (r:Ev)(Z:St):ME->Option D
 | .var x=>match Z x with
  |some (.val d)=>some d
  |some (.own d)=>some d
  |_=>none
 | .idx (.var x) i=>match Z x with
  |some (.rows a)=>do
   match<-r.m Z i with
   | .int i=>if 0<=i/\i<lim then(a[i.toNat]?).map .list else none
   |_=>none
  |_=>r.m Z (.idx (.var x) i)
 |e=>r.m Z e
noncomputable def sX (r:Ev)(Z:St):ME->Option Bool
 | .not a=>do pure (!(<-r.t Z a))
 | .and a b=>do if<-r.t Z a then r.t Z b else pure false
 | .or a b=>do if<-r.t Z a then pure true else r.t Z b
 | .ite t a b=>do if<-r.t Z t then r.t Z a else r.t Z b
 | .cmp c a b=>do
  let x<-r.v Z a
  let y<-r.v Z b
  D.cmp c x y
 |e=>do D.truthy (<-r.v Z e)
noncomputable def itemsOf (t:dj):D->Option (List D)
 | .list a=>some a
 |x=>match t with
  | .one _=>D.elems x
  | .many _=>none
noncomputable def sY:D->Option (List D)
 | .list a=>if a.length<2^20 then some (dN 0 a) else none
 |_=>none
noncomputable def zh:D->D->Option (List D)
 | .list a,.list b=>some (iV a b)
 |_,_=>none
noncomputable def sZ:D->Option (List D)
 | .dict a b=>some (iV (a.map .str) b)
 |_=>none
noncomputable def oS:D->Option (List D)
 | .dict _ a=>some a
 |_=>none
noncomputable def wL (r:Ev)(Z:St)(t:dj):ME->Option (List D)
 | .ite c a b=>do if<-r.t Z c then r.i Z t a else r.i Z t b
 | .range d=>match t with
  | .one _=>(d.mapM (r.m Z)).bind D.range
  | .many _=>none
 | .enum e=>match t with
  | .one _=>none
  | .many _=>(r.v Z e).bind sY
 | .zip a b=>match t with
  | .one _=>none
  | .many _=>(r.v Z a).bind λx=>(r.v Z b).bind (zh x)
 | .items e=>match t with
  | .one _=>none
  | .many _=>(r.v Z e).bind sZ
 | .values e=>match t with
  | .one _=>(r.v Z e).bind oS
  | .many _=>none
 |e=>(r.v Z e).bind (itemsOf t)
noncomputable def ev (U:Nat->List D->Option D):Nat->Ev
 |0=>⟨λ_ _=>none,λ_ _=>none,λ_ _=>none,λ_ _ _=>none⟩
 |n+1=>let r:=ev U n
  ⟨cV U r,sW r,sX r,wL r⟩
inductive Fl where
 |next
 |brk
 |ret (d:D)
inductive MS where
 |asg (x:Nat)(e:ME)
 |own (x:Nat)(e:ME)
 |cN (xs:List (Nat×Nat))(es:List ME)
 |unpack (xs:List Nat)(e:ME)
 |chain (xs:List Nat)(e:ME)
 |aug (x:Nat)(op:Operator)(e:ME)
 |setItem (x:Nat)(i e:ME)
 |eh (x:Nat)(i e:ME)
 |append (x:Nat)(e:ME)
 |extend (x:Nat)(e:ME)
 |cG (x:Nat)(i e:ME)
 |setAttr (x k:Nat)(e:ME)
 |gJ (y:Option Nat)(f:Nat)(es:List ME)(x:Nat)
 |iff (t:ME)(a b:List MS)
 |cW (t:dj)(it:ME)(body orelse:List MS)
 |du (t:ME)(body:List MS)
 |ret (e:ME)
 |brk
 |stuck
mutual
noncomputable def gS:D->Bool
 | .inst _=>false
 | .list a=>ej a
 | .tup a=>ej a
 | .dict _ b=>ej b
 |_=>true
noncomputable def ej:List D->Bool
 |[]=>true
 |x::a=>gS x&&ej a
end
noncomputable def dv (k:Nat)(d:D):Option Slot:=match k,d with
 |0,d=>some (.val d)
 |1,.list a=>some (.own (.list a))
 |1,.dict c b=>if ej b then some (.own (.dict c b)) else none
 |2,.list a=>(a.mapM λ(d:D)=>match d with
  | .list e=>some e
  |_=>none).map .rows
 |_,_=>none
noncomputable def dA (Z:St):List (Nat×Nat)->List D->Option St
 |[],[]=>some Z
 |(x,k)::a,d::b=>do dA (Z.set x (<-dv k d)) a b
 |_,_=>none
noncomputable abbrev Ex:=St->Option (Fl×St)
noncomputable def ck (b:Ex)(Z0:St->D->Option St):List D->Ex
 |[],c=>some (.next,c)
 |d::e,c=>do
  let Z1<-Z0 c d
  match<-b Z1 with
  |(.next,a)=>ck b Z0 e a
  |(f,a)=>some (f,a)
noncomputable def cy (t:St->Option Bool)(b:Ex):Nat->Ex
 |0,_=>none
 |n+1,c=>do
  if<-t c then
   match<-b c with
   |(.next,a)=>cy t b n a
   |(.brk,a)=>some (.next,a)
   |(f,a)=>some (f,a)
  else some (.next,c)
noncomputable def ay (x:MS->Ex):List MS->Ex
 |[],b=>some (.next,b)
 |st::rest,b=>do
  match<-x st b with
  |(.next,a)=>ay x rest a
  |(f,a)=>some (f,a)
noncomputable def Slot.kC:Slot->Option (List D)
 | .own d=>d.l?
 |_=>none
noncomputable def Slot.qq:Slot->Option (List Str×List D)
 | .own d=>d.d?
 |_=>none
noncomputable def Slot.zi:Slot->Option (List (List D))
 | .rows a=>some a
 |_=>none
noncomputable def Slot.zj:Slot->Option (List D)
 | .obj fs=>some fs
 |_=>none
noncomputable def Slot.int?:Slot->Option Int
 | .val d=>d.i?
 |_=>none
noncomputable def Slot.app (d:D):Slot->Option Slot
 | .own w=>w.l?.bind λa=>if a.length<2^20 then some (.own (.list (a++[d]))) else none
 | .ext a=>if a.length<2^20 then some (.ext (a++[d])) else none
 |_=>none
noncomputable def zc (N:Nat->List D->List D->Option (D×List D))(r:Ev)(x:MS->Ex):MS->Ex
 | .asg y e,c=>do some (.next,c.set y (.val (<-r.m c e)))
 | .own y e,c=>do some (.next,c.set y (<-dv 1 (<-r.m c e)))
 | .cN n o,c=>do
  let h<-o.mapM (r.m c)
  some (.next, <-dA c n h)
 | .unpack n e,c=>do
  let d<-r.m c e
  let h<-d.t?
  some (.next, <-dA c (n.map λx=>(x,0)) h)
 | .chain A e,c=>do
  let d<-r.m c e
  some (.next,A.foldl (λc y=>c.set y (.val d)) c)
 | .aug y m e,c=>if !(m== .Add||m== .Sub||m== .BitXor||m== .LShift||m== .BitOr) then none else do
  let sl<-c y
  let a<-sl.int?
  let d<-r.m c e
  let b<-d.i?
  some (.next,c.set y (.val (<-D.bin m (.int a) (.int b))))
 | .setItem y i e,c=>do
  let d<-r.m c e
  let k<-r.m c i
  let sl<-c y
  match k with
  | .int j=>do
   let g<-sl.kC
   if 0<=j/\j<g.length/\g.length<2^40 then some (.next,c.set y (.own (.list (g.set j.toNat d)))) else none
  | .str s=>do
   let p<-sl.qq
   if gS d&&p.1.length<2^10 then(let p:=putD p.1 p.2 s d;some (.next,c.set y (.own (.dict p.1 p.2)))) else none
  |_=>none
 | .eh y i e,c=>do
  let k<-r.m c i
  let sl<-c y
  let p<-sl.qq
  let s<-k.s?
  let j<-p.1.idxOf? s
  let u<-p.2[j]?
  let a<-u.i?
  let w<-r.m c e
  let b<-w.i?
  if p.1.length<2^10 then(let p:=putD p.1 p.2 s (.int (a+b));some (.next,c.set y (.own (.dict p.1 p.2)))) else none
 | .append y e,c=>do
  let d<-r.m c e
  let sl<-c y
  some (.next,c.set y (<-sl.app d))
 | .extend y e,c=>do
  let d<-r.v c e
  let h<-d.l?
  let sl<-c y
  let g<-sl.kC
  if g.length+h.length<2^20 then some (.next,c.set y (.own (.list (g++h)))) else none
 | .cG y i e,c=>do
  let k<-r.m c i
  let sl<-c y
  let v<-sl.zi
  let j<-k.i?
  let d<-r.v c e
  let h<-d.l?
  let g<-if 0<=j/\j<lim then v[j.toNat]? else none
  if g.length+h.length<2^20 then some (.next,c.set y (.rows (v.set j.toNat (g++h)))) else none
 | .setAttr y k e,c=>do
  let d<-r.m c e
  let sl<-c y
  let fs<-sl.zj
  if k=fs.length/\k<5 then some (.next,c.set y (.obj (fs++[d]))) else none
 | .gJ z f o y,c=>do
  let h<-o.mapM (r.m c)
  let sl<-c y
  let g<-sl.kC
  let q<-N f h g
  match z with
  |some z=>some (.next,(c.set y (.own (.list q.2))).set z (.val q.1))
  |none=>do
   let _<-q.1.n?
   some (.next,c.set y (.own (.list q.2)))
 | .iff t a b,c=>do if<-r.t c t then ay x a c else ay x b c
 | .cW t it body orelse,c=>if !noOwn c it then none else do
  let g<-r.i c t it
  match<-ck (ay x body) (λc d=>bB c t d) g c with
  |(.next,l)=>ay x orelse l
  |(.brk,l)=>some (.next,l)
  |(f,l)=>some (f,l)
 | .du t body,c=>cy (λc=>r.t c t) (ay x body) 64 c
 | .ret e,c=>do some (.ret (<-r.m c.free e),c)
 | .brk,c=>some (.brk,c)
 | .stuck,_=>none
noncomputable def ex (U:Nat->List D->Option D)(N:Nat->List D->List D->Option (D×List D)):Nat->MS->Ex
 |0=>λ_ _=>none
 |n+1=>zc N (ev U 40) (ex U N n)
end
structure CT where
 aE:List Str
 qr:List Str
 rows:List Str
noncomputable def tc:List (Str×Nat):=[("_law_flag",0),("add_callers",1),("count_calls",2),("add_func_stats",3),("pretty_flags",4),("_law_reached",5),("_law_tables",6),("Whitespace",7),("_law_marked",11),("_law_least",12),("_law_read",13)]
noncomputable def meths:List (Str×Nat):=[("longest_run_of_spaces",8),("indent_level",9),("less",10)]
noncomputable def fills:List (Str×Nat):=[("_law_hangs",0),("_law_run",1)]
noncomputable def dF:List Str:=["raw","n","nt","norm","is_simple"]
noncomputable def glob (sc:Scope)(x:Str):Bool:=sc.names.lookup x==some .globalImplicit
noncomputable def uT:List (Str×Fn):=[("len",.len),("sum",.sum),("list",.list),("tuple",.tuple),("min",.min),("max",.max),("abs",.abs),("str",.strOf),("hex",.hex),("all",.all)]
noncomputable def zd:List (Str×Fn):=[("join",.join),("count",.count),("index",.index)]
noncomputable def ah {a b:Type}(f:a->Option b):List a->Option (List b)
 |[]=>some []
 |x::c=>match f x,ah f c with
  |some y,some d=>some (y::d)
  |_,_=>none
noncomputable def cv (c:CT)(sc:Scope)(x:Str):Option Nat:=if sc.names.lookup x==some .local||sc.names.lookup x==some .cell then c.aE.idxOf? x else none
inductive EV where
 |name (x:Str)(p:Pos)
 |tup (es:List Expr)(k:Nat)(p:Pos)
 |attr (o:Expr)(a:Str)(p:Pos)
 |item (a i:Expr)(p:Pos)
 |slice (lo hi st:Option Expr)(p:Pos)
 |set (e:Expr)(g:List Comprehension)(i:Scope)(p:Pos)
 |call (f:Expr)(a:List Expr)(k:List Keyword)(p:Pos)
 |other
noncomputable def gK:Expr->EV
 | .Name x p=>.name x p
 | .Tuple b k p=>.tup b k p
 | .Attribute o a p=>.attr o a p
 | .Subscript a i p=>.item a i p
 | .Slice lo hi st p=>.slice lo hi st p
 | .SetComp e g i p=>.set e g i p
 | .Call f a k p=>.call f a k p
 |_=>.other
noncomputable def nameOf (e:Expr):Option Str:=match gK e with
 | .name x _=>some x
 |_=>none
noncomputable def lE (e:Expr):Option (List Expr):=match gK e with
 | .tup a _ _=>some a
 |_=>none
noncomputable def e8 (e:Expr):Option (Expr×Str×Pos):=match gK e with
 | .attr o a p=>some (o,a,p)
 |_=>none
noncomputable def itemOf (e:Expr):Option (Expr×Expr):=match gK e with
 | .item a i _=>some (a,i)
 |_=>none
noncomputable def sliceOf (e:Expr):Option (Option Expr×Option Expr×Option Expr):=match gK e with
 | .slice lo hi st _=>some (lo,hi,st)
 |_=>none
noncomputable def setOf (e:Expr):Option (Expr×List Comprehension×Scope):=match gK e with
 | .set e g i _=>some (e,g,i)
 |_=>none
noncomputable def lF (e:Expr):Option (Expr×List Expr×List Keyword×Pos):=match gK e with
 | .call f a k p=>some (f,a,k,p)
 |_=>none
noncomputable def bN (e:Expr):Bool:=(lF e).isNone
noncomputable def DN {b c:Type}(g:b->Option c):List b->Option c
 |[a]=>g a
 |_=>none
noncomputable def JI {c d:Type}(g:c->c->Option d):List c->Option d
 |[a,b]=>g a b
 |_=>none
noncomputable def lG (c:CT)(sc:Scope)(e:Expr):Option Nat:=(nameOf e).bind (cv c sc)
noncomputable def iW (c:CT)(sc:Scope)(e:Expr):Option dj:=match gK e with
 | .name x _=>(cv c sc x).map .one
 | .tup d _ _=>JI (λa b=>(lG c sc a).bind λi=>(lG c sc b).bind λj=>if i=j then none else some (.many [i,j])) d
 |_=>none
noncomputable def DC (sc a:Scope):Bool:=
 a.kind== .function&&a.names.all (λx=>a.names.lookup x.1==some x.2)&&
 a.names.all (λx=>x.2 != .free||sc.names.lookup x.1==some .cell||sc.names.lookup x.1==some .free)&&
 ((a.names.filter λx=>x.2== .cell).map (·.1)).Nodup&&((a.names.filter λx=>x.2== .free).map (·.1)).Nodup
structure Cm where
 e:Scope->Expr->Option ME
 i:Scope->Expr->Option ME
noncomputable def jZ (c:CT)(r:Cm)(outer inner:Scope):List Comprehension->Option (List MG)
 |[]=>some []
 |⟨t,it,ifs,a⟩::f=>if a≠0 then none else do
  let g<-iW c inner t
  let d<-r.i outer it
  let b<-ah (r.e inner) ifs
  let e<-jZ c r inner inner f
  pure (.mk g d b::e)
noncomputable def gT (c:CT)(sc:Scope):List Nat:=sc.names.filterMap λ(n,k)=>if k== .free then c.aE.idxOf? n else none
noncomputable def j0 (r:Cm)(sc:Scope):Option Expr->Option (Option ME)
 |none=>some none
 |some e=>(r.e sc e).map some
noncomputable def oU (c:CT)(r:Cm)(sc:Scope):List Expr->Option ME:=DN λa=>match setOf a with
 |some (e,gens,b)=>if DC sc b then(jZ c r sc b gens).bind (DN λg=>do pure (.gI (<-r.e b e) (gT c b) g)) else none
 |none=>do pure (.fn .sset [<-r.e sc a])
noncomputable def oV (r:Cm)(sc:Scope):List Expr->Option ME:=JI λa b=>(nameOf b).bind λt=>if glob sc t then(if t=="int" then do pure (.fn .jo [<-r.e sc a]) else if t=="tuple" then do pure (.fn .kB [<-r.e sc a]) else none) else none
noncomputable def td (c:CT)(r:Cm)(sc:Scope)(x:Str)(args:List Expr):Option ME:=
 if glob sc x then match tc.lookup x with
  |some k=>do pure (.fn (.user k) (<-ah (r.e sc) args))
  |none=>match uT.lookup x with
   |some b=>do pure (.fn b (<-ah (r.e sc) args))
   |none=>if x=="sorted" then oU c r sc args else if x=="isinstance" then oV r sc args else none
 else none
noncomputable def uU (r:Cm)(sc:Scope)(o:Expr)(m:Str)(args:List Expr):Option ME:=
 if m=="get" then(nameOf o).bind λx=>if x=="COMPILER_FLAG_NAMES"&&glob sc x then do pure (.fn .cU (<-ah (r.e sc) args)) else none
 else match zd.lookup m with
  |some b=>do pure (.fn b ((<-r.e sc o)::(<-ah (r.e sc) args)))
  |none=>match meths.lookup m with
   |some k=>do pure (.fn (.dY k) ((<-r.e sc o)::(<-ah (r.e sc) args)))
   |none=>none
noncomputable def cBool (r:Cm)(sc:Scope)(op:BoolOp):List Expr->Option ME:=JI λa b=>do
 let x<-r.e sc a
 let y<-r.e sc b
 match op with
 | .And=>pure (.and x y)
 | .Or=>pure (.or x y)
noncomputable def LU (r:Cm)(sc:Scope)(l:Expr)(a:List CmpOp)(c:List Expr):Option ME:=DN (λd=>DN (λb=>do pure (.cmp d (<-r.e sc l) (<-r.e sc b))) c) a
noncomputable def Hb (r:Cm)(sc:Scope):List (Option Expr)->List Expr->Option ME
 |[],[]=>some (.dict [])
 |[some k],[v]=>do pure (.dict [(<-r.e sc k, <-r.e sc v)])
 |_,_=>none
noncomputable def jq (c:CT)(r:Cm)(sc:Scope)(e:Expr)(gens:List Comprehension)(a:Scope):Option ME:=
 if DC sc a then do
  match<-jZ c r sc a gens with
  |[g]=>pure (.comp (<-r.e a e) (gT c a) g [])
  |[g,b]=>pure (.comp (<-r.e a e) (gT c a) g [b])
  |_=>none
 else none
noncomputable def JJ (c:CT)(r:Cm)(sc:Scope)(k v:Expr)(gens:List Comprehension)(a:Scope):Option ME:=
 if DC sc a then do
  match<-jZ c r sc a gens with
  |[g]=>pure (.dM (<-r.e a k) (<-r.e a v) (gT c a) g)
  |_=>none
 else none
noncomputable def Hc (c:CT)(r:Cm)(sc:Scope):Expr->Option ME
 | .Constant k _ _=>match k with
  | .none=>some .none
  | .bool b=>some (.bool b)
  | .int i=>some (.int i)
  | .str s=>some (.str s)
  |_=>none
 | .Name x _=>(c.aE.idxOf? x).map .var
 | .BinOp l g b _=>do pure (.bin g (<-r.e sc l) (<-r.e sc b))
 | .UnaryOp g a _=>match g with
  | .USub=>do pure (.neg (<-r.e sc a))
  | .Not=>do pure (.not (<-r.e sc a))
  |_=>none
 | .BoolOp g h _=>cBool r sc g h
 | .Compare l j u _=>LU r sc l j u
 | .IfExp t a b _=>do pure (.ite (<-r.e sc t) (<-r.e sc a) (<-r.e sc b))
 | .List m _=>(ah (r.e sc) m).map .list
 | .Tuple m _ _=>(ah (r.e sc) m).map .tup
 | .Dict w h _=>Hb r sc w h
 | .ListComp e gens d _=>jq c r sc e gens d
 | .DictComp k v gens d _=>JJ c r sc k v gens d
 | .Subscript a i _=>match sliceOf i with
  |some (lo,hi,st)=>do pure (.jc (<-r.e sc a) (<-j0 r sc lo) (<-j0 r sc hi) (<-j0 r sc st))
  |none=>do pure (.idx (<-r.e sc a) (<-r.e sc i))
 | .Attribute o a _=>(nameOf o).bind λx=>if x=="Whitespace"&&glob sc x then(if a=="S" then some (.fn .sT []) else if a=="T" then some (.fn .sU []) else none)
   else do pure (.attr (<-r.e sc o) (<-dF.idxOf? a))
 | .Call f args n p=>match n with
  |[]=>match nameOf f with
   |some x=>td c r sc x args
   |none=>(e8 f).bind λq=>if bN q.1&&q.2.2.endLine==p.line&&decide (args.length<20) then uU r sc q.1 q.2.1 args else none
  |_=>none
 |_=>none
noncomputable def oW (r:Cm)(sc:Scope)(x:Str)(args:List Expr)(d:Option ME):Option ME:=
 if glob sc x&&x=="range" then do pure (.range (<-ah (r.e sc) args))
 else if glob sc x&&x=="enumerate" then DN (λa=>do pure (.enum (<-r.e sc a))) args
 else if glob sc x&&x=="zip" then JI (λa b=>do pure (.zip (<-r.e sc a) (<-r.e sc b))) args
 else d
noncomputable def oX (r:Cm)(sc:Scope)(o:Expr)(m:Str)(d:Option ME):Option ME:=
 if m=="items" then do pure (.items (<-r.e sc o)) else if m=="values" then do pure (.values (<-r.e sc o)) else d
noncomputable def HU (r:Cm)(sc:Scope)(f:Expr)(args:List Expr)(pos:Pos)(d:Option ME):Option ME:=match nameOf f with
 |some x=>oW r sc x args d
 |none=>match e8 f with
  |some q=>if args.isEmpty then(if bN q.1&&q.2.2.endLine==pos.line then oX r sc q.1 q.2.1 d else none) else d
  |none=>d
noncomputable def Mv (r:Cm)(sc:Scope)(e:Expr):Option ME:=match e with
 | .Call f args c d=>match c with
  |[]=>HU r sc f args d (r.e sc e)
  |_=>r.e sc e
 | .IfExp t a b _=>do pure (.ite (<-r.e sc t) (<-r.i sc a) (<-r.i sc b))
 |_=>r.e sc e
noncomputable def cm (c:CT):Nat->Cm
 |0=>⟨λ_ _=>none,λ_ _=>none⟩
 |n+1=>let r:=cm c n;⟨Hc c r,Mv r⟩
noncomputable def kind (c:CT)(x:Str):Nat:=if c.qr.contains x then 1 else if c.rows.contains x then 2 else 0
noncomputable def Hd:ME->Bool
 | .comp (.list []) _ (.mk (.one _) _ []) []=>true
 |_=>false
noncomputable def zk:Nat->ME->Bool
 |0,_=>true
 |1,e=>dq e
 |2,e=>Hd e
 |_+3,_=>false
noncomputable def iI:List (Nat×Nat)->List ME->Bool
 |[],[]=>true
 |(_,k)::is,e::a=>zk k e&&iI is a
 |_,_=>false
noncomputable def oY (sc:Scope)(a vs:List Expr):Bool:= !(vs.all (constantsAlone 8))&&sc.kind== .function&&vs.all (fun| .Starred ..=>false|_=>true)
noncomputable def uV (c:CT)(r:Cm)(sc:Scope)(z:Option Nat)(g:Expr)(args:List Expr):Option MS:=do
 let f<-nameOf g
 let y<-(args.getLast?).bind nameOf
 let a<-ah (r.e sc) args.dropLast
 let k<-fills.lookup f
 let i<-c.aE.idxOf? y
 if glob sc f then pure (.gJ z k a i) else none
noncomputable def zl (c:CT)(r:Cm)(sc:Scope)(x:Str)(v:Expr):Option MS:=do
 let i<-cv c sc x
 match (do
  let q<-lF v
  if q.2.2.1.isEmpty then uV c r sc (some i) q.1 q.2.1 else none) with
 |some m=>pure m
 |none=>do
  let e<-r.e sc v
  if kind c x=0 then pure (.asg i e) else if kind c x==1&&dq e then pure (.own i e) else none
noncomputable def zm (c:CT)(r:Cm)(sc:Scope)(xs:List Expr)(v:Expr):Option MS:=do
 let ns<-ah nameOf xs
 match lE v with
 |some b=>do
  let is<-ah (λn=>(cv c sc n).map λi=>(i,kind c n)) ns
  let a<-ah (r.e sc) b
  if iI is a&&oY sc xs b&&decide (is.map (·.1)).Nodup&&decide (a.length<64) then pure (.cN is a) else none
 |none=>do
  let is<-ah (cv c sc) ns
  let e<-r.e sc v
  if ns.all (λn=>kind c n==0) then pure (.unpack is e) else none
noncomputable def uW (c:CT)(r:Cm)(sc:Scope)(v:Expr):List Expr->Option MS
 |[t]=>match nameOf t with
  |some x=>zl c r sc x v
  |none=>match lE t with
   |some a=>zm c r sc a v
   |none=>match itemOf t with
    |some q=>do
     let x<-nameOf q.1
     pure (.setItem (<-c.aE.idxOf? x) (<-r.e sc q.2) (<-r.e sc v))
    |none=>do
     let q<-e8 t
     let x<-nameOf q.1
     pure (.setAttr (<-c.aE.idxOf? x) (<-dF.idxOf? q.2.1) (<-r.e sc v))
 |b=>do
  let ns<-ah nameOf b
  pure (.chain (<-ah (cv c sc) ns) (<-r.e sc v))
noncomputable def HV (c:CT)(r:Cm)(sc:Scope)(t:Expr)(op:Operator)(v:Expr):Option MS:=match nameOf t with
 |some x=>do pure (.aug (<-cv c sc x) op (<-r.e sc v))
 |none=>do
  let q<-itemOf t
  let x<-nameOf q.1
  if op=.Add then do pure (.eh (<-c.aE.idxOf? x) (<-r.e sc q.2) (<-r.e sc v)) else none
noncomputable def zo (c:CT)(r:Cm)(sc:Scope)(o:Expr)(m:Str)(a:Expr):Option MS:=match nameOf o with
 |some x=>if m=="append" then do pure (.append (<-c.aE.idxOf? x) (<-r.e sc a))
  else if m=="extend" then do pure (.extend (<-c.aE.idxOf? x) (<-r.e sc a)) else none
 |none=>if m=="extend" then do
   let q<-itemOf o
   let x<-nameOf q.1
   pure (.cG (<-c.aE.idxOf? x) (<-r.e sc q.2) (<-r.e sc a))
  else none
noncomputable def zq (c:CT)(r:Cm)(sc:Scope)(v:Expr):Option MS:=do
 let q<-lF v
 if q.2.2.1.isEmpty then match e8 q.1 with
  |some p=>match q.2.1 with
   |[a]=>if p.2.2.endLine==q.2.2.2.line then zo c r sc p.1 p.2.1 a else none
   |_=>none
  |none=>uV c r sc none q.1 q.2.1
 else none
noncomputable def LV (c:CT)(sc:Scope)(r:Cm)(d:Stmt->Option MS):Stmt->Option MS
 | .Assign g v _=>uW c r sc v g
 | .AugAssign t h v _=>HV c r sc t h v
 | .Expr v _=>zq c r sc v
 | .If t a b _=>do pure (.iff (<-r.e sc t) (a.map λs=>(d s).getD .stuck) (b.map λs=>(d s).getD .stuck))
 | .For t it a b _=>do
  let i<-iW c sc t
  let f<-r.i sc it
  pure (.cW i f (<-ah d a) (<-ah d b))
 | .While t a b _=>match b with
  |[]=>do pure (.du (<-r.e sc t) (<-ah d a))
  |_=>none
 | .Return v _=>match v with
  |some e=>do pure (.ret (<-r.e sc e))
  |none=>none
 | .Break _=>some .brk
 |_=>none
noncomputable def cS (c:CT)(sc:Scope):Nat->Stmt->Option MS
 |0=>λ_=>none
 |n+1=>LV c sc (cm c 40) (cS c sc n)
end av
namespace av
open PySem PySem.W PyProof.Rows
section
theorem ob {b c:Type}{o:Option b}{f:b->Option c}{r:c}(h:o.bind f=some r):∃a,o=some a/\f a=some r:=by
 cases o with
 |none=>exact ns h
 |some a=>exact⟨a,rfl,h⟩
theorem om {b c:Type}{o:Option b}{f:b->c}{r:c}(h:o.map f=some r):∃a,o=some a/\f a=r:=by
 cases o with
 |none=>exact ns h
 |some a=>cases h;exact⟨a,rfl,rfl⟩
theorem zr {c d e:Type}{o:Option c}{p:Option d}{f:c->d->Option e}{r:e}(h:(o.bind λa=>p.bind (f a))=some r):∃a b,o=some a/\p=some b/\f a b=some r:=by
 refine af (ob h) λa g h=>?_
 refine af (ob h) λb i h=>?_
 exact⟨a,b,g,i,h⟩
theorem fe {a:Type}{p:Prop}[Decidable p]{o:Option a}{r:a}(h:(if p then o else none)=some r):p/\o=some r:=by
 by_cases q:p
 .rw[M7 q] at h;exact⟨q,h⟩
 .rw[M8 q] at h;exact ns h
theorem bV {b c:Type}{o:Option b}{f:b->Option c}{r:c}{Q:Prop}(h:o.bind f=some r)(k:∀a,o=some a->f a=some r->Q):Q:=let ⟨a,d,e⟩:=ob h;k a d e
theorem LW {c d e:Type}{o:Option c}{p:Option d}{f:c->d->Option e}{r:e}{Q:Prop}(h:(o.bind λa=>p.bind (f a))=some r)(k:∀a b,o=some a->p=some b->f a b=some r->Q):Q:=let ⟨a,b,g,i,j⟩:=zr h;k a b g i j
theorem cT {a:Type}{p Q:Prop}[Decidable p]{o:Option a}{r:a}(h:(if p then o else none)=some r)(k:p->o=some r->Q):Q:=let ⟨b,c⟩:=fe h;k b c
theorem sK {c:Type}{a b:c}{R:c->Prop}(h:some a=some b)(k:R a):R b:=MW h▸k
theorem wM {c b:Type}{o:Option c}{f:c->b}{r:b}{R:b->Prop}(h:o.map f=some r)(k:∀a,o=some a->R (f a)):R r:=let ⟨a,d,e⟩:=om h;e▸k a d
theorem bind1 {b c:Type}{o:Option b}{f:b->c}{r:c}(h:(do pure (f (<-o)))=some r):∃a,o=some a/\r=f a:=by
 cases o with
 |none=>exact ns h
 |some a=>cases h;exact⟨a,rfl,rfl⟩
theorem uX {c d e:Type}{o:Option c}{p:Option d}{f:c->d->e}{r:e}(h:(do pure (f (<-o) (<-p)))=some r):∃a b,o=some a/\p=some b/\r=f a b:=by
 refine af (ob h) λa g h=>?_
 refine af (bind1 h) λb i h=>?_
 exact⟨a,b,g,i,h⟩
theorem He {d e g i:Type}{o:Option d}{p:Option e}{q:Option g}{f:d->e->g->i}{r:i}(h:(do pure (f (<-o) (<-p) (<-q)))=some r):∃a b c,o=some a/\p=some b/\q=some c/\r=f a b c:=by
 refine af (ob h) λa j h=>?_
 refine aP (uX h) λb c k l h=>?_
 exact⟨a,b,c,j,k,l,h⟩
theorem qs {c b:Type}{o:Option c}{f:c->b}{r:b}{R:b->Prop}(h:(do pure (f (<-o)))=some r)(k:∀a,o=some a->R (f a)):R r:=let ⟨a,d,e⟩:=bind1 h;e▸k a d
theorem te {d e c:Type}{o:Option d}{p:Option e}{f:d->e->c}{r:c}{R:c->Prop}(h:(do pure (f (<-o) (<-p)))=some r)(k:∀a b,o=some a->p=some b->R (f a b)):R r:=let ⟨a,b,g,i,j⟩:=uX h;j▸k a b g i
theorem Hf {e g i d:Type}{o:Option e}{p:Option g}{q:Option i}{f:e->g->i->d}{r:d}{R:d->Prop}(h:(do pure (f (<-o) (<-p) (<-q)))=some r)(k:∀a b c,o=some a->p=some b->q=some c->R (f a b c)):R r:=let ⟨a,b,c,j,l,m,n⟩:=He h;n▸k a b c j l m
noncomputable abbrev aR (vs:List Value)(n:Nat):Obj:={cls:=.type "list",data:=.seq vs.toArray n}
noncomputable abbrev iX (vs:List Value)(n:Nat):Obj:={cls:=.type "tuple",data:=.seq vs.toArray n}
structure Wd where
 prog:Program
 w:World
 cls:Addr
 h0:Heap
 mg:Str->Option Value
 mb:Str->Option Value
 K:Frag
 fn:Nat->Option Value
 nn:Nat->Option Value
noncomputable def bE:List Str:=["raw","n","nt","norm","is_simple"]
noncomputable abbrev aD:=Addr->Prop
mutual
def Rep (W:Wd)(Mu:aD)(h:Heap):D->Value->Prop
 | .none,v=>v=.none
 | .bool b,v=>v=.bool b
 | .int i,v=>∃t,v=.int i t
 | .str s,v=>∃t,v=.str s t
 | .list d,v=>∃a c n,v=.ref a/\ ¬Mu a/\h.get? a=some (aR c n)/\aq W Mu h d c
 | .tup d,v=>∃a c n,v=.ref a/\ ¬Mu a/\h.get? a=some (iX c n)/\aq W Mu h d c
 | .dict f d,v=>∃a c,v=.ref a/\(a==sysModules)=false/\ ¬Mu a/\h.DictOf (strKind W.prog W.w) a (f.zip c)/\f.length=c.length/\aq W Mu h d c
 | .inst d,v=>∃a e c,v=.ref a/\ ¬Mu a/\h.get? a=some (instObj W.cls e)/\ ¬Mu e/\h.DictOf (strKind W.prog W.w) e (bE.zip c)/\c.length=5/\aq W Mu h d c
def aq (W:Wd)(Mu:aD)(h:Heap):List D->List Value->Prop
 |[],a=>a=[]
 |d::b,a=>∃v r,a=v::r/\Rep W Mu h d v/\aq W Mu h b r
end
def Fz (Mu:aD)(h:Heap)(a:aD)(c:Heap):Prop:= ∀b o, ¬Mu b->h.get? b=some o-> ¬a b/\c.get? b=some o
theorem Fz.trans {M2 c:aD}{d f g:Heap}(x:Fz a d M2 f)(y:Fz M2 f c g):Fz a d c g:=
 λb o m e=>let p:=x b o m e;y b o p.1 p.2
theorem Fz.keep {h a:Heap}(k:∀b o,h.get? b=some o->a.get? b=some o):Fz Mu h Mu a:=λb o m e=>⟨m,k b o e⟩
theorem bl {prog:Program}{w:World}{h c:Heap}{b:List (Str×Value)}(x:h.DictOf (strKind prog w) a b)(k:∀o,h.get? a=some o->c.get? a=some o):c.DictOf (strKind prog w) a b:=
 let ⟨o,d,f,e,r⟩:=x;⟨o,d,f,k o e,r⟩
theorem bH {prog:Program}{w:World}{h:Heap}{b:List (Str×Value)}(x:h.DictOf (strKind prog w) a b):∃o,h.get? a=some o:=
 let ⟨o,_,_,e,_⟩:=x;⟨o,e⟩
section
variable {W:Wd}{Mu Mu':aD}{h h':Heap}{d:D}{ds:List D}{v:Value}{vs:List Value}
theorem Rep.bI {n:Nat}(m:¬Mu a)(g:h.get? a=some (aR vs n))(l:aq W Mu h ds vs):Rep W Mu h (.list ds) (.ref a):=by exact⟨a,vs,n,rfl,m,g,l⟩
theorem Rep.gU {n:Nat}(m:¬Mu a)(g:h.get? a=some (iX vs n))(l:aq W Mu h ds vs):Rep W Mu h (.tup ds) (.ref a):=by exact⟨a,vs,n,rfl,m,g,l⟩
theorem Rep.bY {ks:List Str}(y:(a==sysModules)=false)(m:¬Mu a)(g:h.DictOf (strKind W.prog W.w) a (ks.zip vs))(q:ks.length=vs.length)(l:aq W Mu h ds vs):Rep W Mu h (.dict ks ds) (.ref a):=by exact⟨a,vs,rfl,y,m,g,q,l⟩
theorem Rep.mkInst {b:Addr}(m:¬Mu a)(g:h.get? a=some (instObj W.cls b))(c:¬Mu b)(e:h.DictOf (strKind W.prog W.w) b (bE.zip vs))(q:vs.length=5)(l:aq W Mu h ds vs):Rep W Mu h (.inst ds) (.ref a):=by exact⟨a,b,vs,rfl,m,g,c,e,q,l⟩
@[elab_as_elim] theorem Rep.bp {motive:Value->Prop} (r:Rep W Mu h (.list ds) v) (k:∀a vs n, ¬Mu a->h.get? a=some (aR vs n)->aq W Mu h ds vs->motive (.ref a)):motive v:=dX r λa vs n e m g l=>e▸k a vs n m g l
@[elab_as_elim] theorem Rep.tupK {motive:Value->Prop} (r:Rep W Mu h (.tup ds) v) (k:∀a vs n, ¬Mu a->h.get? a=some (iX vs n)->aq W Mu h ds vs->motive (.ref a)):motive v:=dX r λa vs n e m g l=>e▸k a vs n m g l
@[elab_as_elim] theorem Rep.dO  {motive:Value->Prop} (r:Rep W Mu h (.dict ks ds) v) (k:∀a vs,(a==sysModules)=false-> ¬Mu a->h.DictOf (strKind W.prog W.w) a (ks.zip vs)->ks.length=vs.length->aq W Mu h ds vs->motive (.ref a)):motive v:=wJ r λa vs e y m g q l=>e▸k a vs y m g q l
@[elab_as_elim] theorem Rep.qt {motive:Value->Prop} (r:Rep W Mu h (.inst ds) v) (k:∀a b vs, ¬Mu a->h.get? a=some (instObj W.cls b)-> ¬Mu b->h.DictOf (strKind W.prog W.w) b (bE.zip vs)->vs.length=5->aq W Mu h ds vs->motive (.ref a)):motive v:=sR r λa b vs e m g c f q l=>e▸k a b vs m g c f q l
@[elab_as_elim] theorem Rep.bG {i:Int}{motive:Value->Prop} (r:Rep W Mu h (.int i) v) (k:∀t,motive (.int i t)):motive v:=ak r λt e=>e▸k t
@[elab_as_elim] theorem Rep.fB {i:Str}{motive:Value->Prop} (r:Rep W Mu h (.str i) v) (k:∀t,motive (.str i t)):motive v:=ak r λt e=>e▸k t
theorem aq.nil:aq W Mu h [] []:=rfl
theorem aq.cons (a:Rep W Mu h d v)(b:aq W Mu h ds vs):aq W Mu h (d::ds) (v::vs):=by exact⟨v,vs,rfl,a,b⟩
theorem aq.DO (r:aq W Mu h [] vs):vs=[]:=r
@[elab_as_elim] theorem aq.kT {motive:List Value->Prop} (r:aq W Mu h [] vs) (k:motive []):motive vs:=r.DO▸k
@[elab_as_elim] theorem aq.eB {motive:List Value->Prop} (r:aq W Mu h (d::ds) vs) (k:∀v c,Rep W Mu h d v->aq W Mu h ds c->motive (v::c)):motive vs:=aP r λv c e a b=>e▸k v c a b
@[elab_as_elim] theorem aq.ind {motive:List D->List Value->Prop} (r:aq W Mu h ds vs) (n:motive [] []) (k:∀d ds v vs,Rep W Mu h d v->aq W Mu h ds vs->motive ds vs->motive (d::ds) (v::vs)):motive ds vs:=by
 induction ds generalizing vs with
 |nil=>exact r.kT n
 |cons d ds c=>exact r.eB λv e a b=>k d ds v e a b (c b)
theorem Rep.move (F:Fz Mu h Mu' h')(r:Rep W Mu h d v):Rep W Mu' h' d v:=
 D.rec (motive_1:=λd=>∀v,Rep W Mu h d v->Rep W Mu' h' d v) (motive_2:=λds=>∀vs,aq W Mu h ds vs->aq W Mu' h' ds vs) (λ_ r=>r) (λ_ _ r=>r) (λ_ _ r=>r) (λ_ _ r=>r)
  (λ_ c _ r=>r.bp λa vs _ m g l=>.bI (F a _ m g).1 (F a _ m g).2 (c vs l))
  (λ_ c _ r=>r.tupK λa vs _ m g l=>.gU (F a _ m g).1 (F a _ m g).2 (c vs l))
  (λ_ _ c _ r=>r.dO λa vs y m g q l=>ak (bH g) λ_ j=>.bY y (F a _ m j).1 (bl g λo e=>(F a o m e).2) q (c vs l))
  (λ_ c _ r=>r.qt λa p vs m g s t q l=>ak (bH t) λ_ j=>.mkInst (F a _ m g).1 (F a _ m g).2 (F p _ s j).1 (bl t λo e=>(F p o s e).2) q (c vs l))
  (λ_ r=>r.kT aq.nil) (λ_ _ k n _ r=>r.eB λv u a b=>.cons (k v a) (n u b)) d v r
theorem aq.move (F:Fz Mu h Mu' h')(r:aq W Mu h ds vs):aq W Mu' h' ds vs:=r.ind aq.nil λ_ _ _ _ a _ b=>.cons (a.move F) b
theorem aq.length (r:aq W Mu h ds vs):ds.length=vs.length:=r.ind rfl λ_ _ _ _ _ _ e=>MY Nat.succ e
theorem aq.append {c:List Value}(r:aq W Mu h ds vs)(q:aq W Mu h es c):aq W Mu h (ds++es) (vs++c):=r.ind q λ_ _ _ _ a _ b=>.cons a b
theorem aq.at {i:Nat}(r:aq W Mu h ds vs)(e:ds[i]?=some d):∃v,vs[i]?=some v/\Rep W Mu h d v:=
 r.ind (motive:=λds vs=>∀i,ds[i]?=some d-> ∃v,vs[i]?=some v/\Rep W Mu h d v) (λ_ e=>ns e) (λ_ _ v _ a _ b i=>match i with
  |0=>λe=>⟨v,rfl,MW e▸a⟩
  |i+1=>b i) i e
theorem aq.take (k:Nat)(r:aq W Mu h ds vs):aq W Mu h (ds.take k) (vs.take k):=by
 revert k
 refine r.ind (λk=>?_) λd ds v vs a _ b k=>?_
 .cases k<;>exact aq.nil
 .cases k with
  |zero=>exact aq.nil
  |succ k=>exact .cons a (b k)
theorem aq.set (p:Rep W Mu h d v)(k:Nat)(r:aq W Mu h ds vs):aq W Mu h (ds.set k d) (vs.set k v):=by
 revert k
 refine r.ind (λk=>?_) λd ds v vs a c b k=>?_
 .cases k<;>exact aq.nil
 .cases k with
  |zero=>exact .cons p c
  |succ k=>exact .cons a (b k)
def aC (W:Wd)(Mu:aD)(h:Heap)(d:D)(v:Value):Prop:=match d with
 | .list ds=>∃a vs n,v=.ref a/\h.get? a=some (aR vs n)/\aq W Mu h ds vs
 | .dict b ds=>∃a vs,v=.ref a/\(a==sysModules)=false/\h.DictOf (strKind W.prog W.w) a (b.zip vs)/\b.length=vs.length/\aq W Mu h ds vs
 |d=>Rep W Mu h d v
theorem aC.bI {n:Nat}(g:h.get? a=some (aR vs n))(l:aq W Mu h ds vs):aC W Mu h (.list ds) (.ref a):=by exact⟨a,vs,n,rfl,g,l⟩
theorem aC.bY {ks:List Str}(y:(a==sysModules)=false)(g:h.DictOf (strKind W.prog W.w) a (ks.zip vs))(q:ks.length=vs.length)(l:aq W Mu h ds vs):aC W Mu h (.dict ks ds) (.ref a):=by exact⟨a,vs,rfl,y,g,q,l⟩
@[elab_as_elim] theorem aC.bp {motive:Value->Prop} (r:aC W Mu h (.list ds) v) (k:∀a vs n,h.get? a=some (aR vs n)->aq W Mu h ds vs->motive (.ref a)):motive v:=jn r λa vs n e g l=>e▸k a vs n g l
@[elab_as_elim] theorem aC.dO  {motive:Value->Prop} (r:aC W Mu h (.dict ks ds) v) (k:∀a vs,(a==sysModules)=false->h.DictOf (strKind W.prog W.w) a (ks.zip vs)->ks.length=vs.length->aq W Mu h ds vs->motive (.ref a)):motive v:=jY r λa vs e y g q l=>e▸k a vs y g q l
theorem Rep.view (r:Rep W Mu h d v):aC W Mu h d v:=by
 cases d with
 |list ds=>exact r.bp λa vs n _ g l=>.bI g l
 |dict b ds=>exact r.dO λa vs y _ g q l=>.bY y g q l
 |_=>exact r
theorem aC.keep (k:∀b o,h.get? b=some o->h'.get? b=some o)(r:aC W Mu h d v):aC W Mu h' d v:=by
 have F:Fz Mu h Mu h':=Fz.keep k
 cases d with
 |list ds=>exact r.bp λa vs n g l=>.bI (k _ _ g) (l.move F)
 |dict c ds=>exact r.dO λa vs y g q l=>.bY y (bl g λo e=>k _ _ e) q (l.move F)
 |_=>exact Rep.move F r
end
section
variable {M:Model}{A:Around}{E:Value->Shared->Prop}
theorem aG (s:Shared):Keeps s s:=⟨s.heap,s.toks,rfl,λ_ _ e=>e⟩
theorem ai {s c:Shared}(x:Keeps s s')(y:Keeps s' c):Keeps s c:=by
 refine aW x λh t a k=>?_;subst a
 refine aW y λd f a g=>?_;subst a
 exact⟨d,f,rfl,λb o e=>g b o (k b o e)⟩
theorem ag {s:Shared}(x:Keeps s s'):∀b o,s.heap.get? b=some o->s'.heap.get? b=some o:=by
 refine aW x λh t a k=>?_;subst a;exact k
def GV {a:Type}(M:Model)(A:Around)(s:Shared)(t:Sem a)(P:Heap->a->Prop):Prop:=
 ∀(Q:a->Shared->Prop) (E:Value->Shared->Prop),(∀v b,Keeps s b->P b.heap v->Q v b)->wpAny M A t Q E s
theorem GV.mono {b:Type}{s:Shared}{t:Sem b}{P Q:Heap->b->Prop}(h:GV M A s t P)(k:∀a s',Keeps s s'->P s'.heap a->Q s'.heap a):GV M A s t Q:=
 λ_ _ K=>h _ _ λa s' x p=>K a s' x (k a s' x p)
theorem GV.use {b:Type}{s:Shared}{t:Sem b}{P:Heap->b->Prop}{Q:b->Shared->Prop}(h:GV M A s t P)(k:∀a s',Keeps s s'->P s'.heap a->Q a s'):wpAny M A t Q E s:=h Q E k
end
end
section
variable {W:Wd}{A:Around}{s:Shared}{Mu:aD}
noncomputable abbrev Wd.M (W:Wd):Model:=model W.prog W.w
theorem cX (s:Shared):Keeps s {s with toks:=s.toks+1}:=⟨_,_,rfl,λ_ _ e=>e⟩
theorem ff (s:Shared)(o:Obj):Keeps s {s with heap:=s.heap.push o}:=⟨_,_,rfl,λ_ _ e=>Heap.get?_push_of_some o e⟩
theorem zt (s:Shared)(t:Nat):Keeps s {s with toks:=t}:=⟨_,_,rfl,λ_ _ e=>e⟩
theorem aN {i:Int}{t:Tok}:Rep W Mu h (.int i) (.int i t):=by exact⟨t,rfl⟩
theorem cO {i:Str}{t:Tok}:Rep W Mu h (.str i) (.str i t):=by exact⟨t,rfl⟩
theorem eC {b:Bool}:Rep W Mu h (.bool b) (.bool b):=rfl
theorem qu :Rep W Mu h .none .none:=rfl
section
variable {h:Heap}{v:Value}{ds:List D}{motive:Value->Prop}
theorem lH {i:Int}(r:aC W Mu h (.int i) v):∃t,v=.int i t:=r
theorem qv {i:Str}(r:aC W Mu h (.str i) v):∃t,v=.str i t:=r
theorem j1 {b:Bool}(r:aC W Mu h (.bool b) v):v=.bool b:=r
theorem wN (r:aC W Mu h .none v):v=.none:=r
theorem qw (r:aC W Mu h (.tup ds) v):∃a vs n,v=.ref a/\ ¬Mu a/\h.get? a=some (iX vs n)/\aq W Mu h ds vs:=r
theorem iJ (r:aC W Mu h (.dict ks ds) v):∃a vs,v=.ref a/\(a==sysModules)=false/\h.DictOf (strKind W.prog W.w) a (ks.zip vs)/\ks.length=vs.length/\aq W Mu h ds vs:=r
@[elab_as_elim] theorem aC.bG {i:Int} (r:aC W Mu h (.int i) v) (k:∀t,motive (.int i t)):motive v:=ak r λt e=>e▸k t
@[elab_as_elim] theorem aC.fB {i:Str} (r:aC W Mu h (.str i) v) (k:∀t,motive (.str i t)):motive v:=ak r λt e=>e▸k t
@[elab_as_elim] theorem aC.gV {b:Bool} (r:aC W Mu h (.bool b) v) (k:motive (.bool b)):motive v:=j1 r▸k
@[elab_as_elim] theorem aC.uY (r:aC W Mu h .none v) (k:motive .none):motive v:=wN r▸k
@[elab_as_elim] theorem aC.tupK (r:aC W Mu h (.tup ds) v) (k:∀a vs n, ¬Mu a->h.get? a=some (iX vs n)->aq W Mu h ds vs->motive (.ref a)):motive v:=Rep.tupK r k
end
def Old (Mu:aD)(h:Heap):Prop:= ∀b,Mu b-> ∃o,h.get? b=some o
theorem Old.fresh (o:Old Mu h):¬Mu h.objs.size:=λm=>let ⟨_,e⟩:=o _ m;Oa _ (Heap.lt_size e)
theorem Old.keep {a:Heap}(o:Old Mu h)(k:∀b o,h.get? b=some o->a.get? b=some o):Old Mu a:=λb m=>let ⟨x,e⟩:=o b m;⟨x,k b x e⟩
theorem fC (o:Old Mu h)(r:aq W Mu h ds vs):Rep W Mu (h.push (aR vs 0)) (.list ds) (.ref h.objs.size):=by
 exact .bI o.fresh (Heap.get?_push_size _ rfl) (r.move (Fz.keep λ_ _ e=>Heap.get?_push_of_some _ e))
theorem jd (o:Old Mu h)(r:aq W Mu h ds vs):Rep W Mu (h.push (iX vs 0)) (.tup ds) (.ref h.objs.size):=by
 exact .gU o.fresh (Heap.get?_push_size _ rfl) (r.move (Fz.keep λ_ _ e=>Heap.get?_push_of_some _ e))
theorem lI {a:Int}(h:a.natAbs<2^64):Builtin.Int.intBits a<=64:=intBits_le_64 (by lia) (by lia)
theorem qx {x y:Str}(h:x.cps=y.cps):x=y:=by cases x;cases y;cases h;rfl
theorem nr (x y:Str)(h:(x.length==0)=true):x++y=y:=
 qx ((MY (· ++y.cps) (Array.size_eq_zero_iff.mp (eq_of_beq h))).trans Array.empty_append)
theorem nu (x y:Str)(h:(y.length==0)=true):x++y=x:=
 qx ((MY (x.cps++ ·) (Array.size_eq_zero_iff.mp (eq_of_beq h))).trans Array.append_empty)
theorem len_app (x y:Str):(x++y).length=x.length+y.length:=by
 exact Array.size_append
theorem tf {x y:Str}{t:Tok}(hx:x.length<2^20)(a:y.length<2^20):GV W.M A s (binaryOp .Add (.str x t) (.str y u)) (λh v=>Rep W Mu h (.str (x++y)) v):=λQ E K=>by
 refine P.add_str ?_
 by_cases h1:(x.length==0)=true
 .rw[M7 h1]
  refine(K _ _ (aG s) ?_)
  rw[nr x y h1];exact cO
 .rw[M8 h1]
  by_cases h2:(y.length==0)=true
  .rw[M7 h2]
   refine(K _ _ (aG s) ?_)
   rw[nu x y h2];exact cO
  .rw[M8 h2]
   exact⟨by rw[len_app];show _<=2^24;lia,K _ _ (cX s) cO⟩
theorem cI (h:Heap):h.get? h.objs.size=none:=Heap.get?_none_of_le (NB _)
theorem oZ (vs a:List Value):vs.toArray++a.toArray=(vs++a).toArray:=List.append_toArray ..
theorem zu {b:Nat}(h:a<2^20)(k:b<2^20):a+b<=2^24:=M4 (NY (ND h) (ND k)) (by decide)
theorem jr {l b:Addr}{c:List Value}{n k:Nat}(o:Old Mu s.heap)(d:s.heap.get? l=some (aR vs n))(hb:s.heap.get? b=some (aR c k))(f:aq W Mu s.heap xs vs)(g:aq W Mu s.heap ys c)(hx:xs.length<2^20)(i:ys.length<2^20):
  GV W.M A s (binaryOp .Add (.ref l) (.ref b)) (λh v=>Rep W Mu h (.list (xs++ys)) v/\ ∀a,v=.ref a->s.heap.get? a=none):=λQ E K=>
 concat_meets ⟨_,d,rfl⟩ ⟨_,hb,rfl⟩ noFill_list_add seq_list_add PySem.F.slot_list_add PySem.F.entry_list_add (PySem.F.args_list_add_2 _ _) (list_addW l b vs.toArray c.toArray n k none none #[] #[] (zu (a:=vs.length) (b:=c.length) (f.length▸hx) (g.length▸i)))
  ⟨d,hb,oZ vs c▸K _ _ (ff s _) ⟨fC o (f.append g),λ_ e=>Value.ref.inj e▸cI _⟩⟩
theorem nil_of {a:Type}{xs:List D}{vs:List a}(l:xs.length=vs.length)(h:vs.toArray.isEmpty=true):xs=[]/\vs=[]:=by
 cases vs with
 |nil=>exact⟨Oe l,rfl⟩
 |cons _ _=>exact nb h
theorem qy {l b:Addr}{c:List Value}{n k:Nat}(o:Old Mu s.heap)(d:s.heap.get? l=some (iX vs n))(hb:s.heap.get? b=some (iX c k))(j:¬Mu l)(mb:¬Mu b)(e:aq W Mu s.heap xs vs)(f:aq W Mu s.heap ys c)(hx:xs.length<2^20)(m:ys.length<2^20):
  GV W.M A s (binaryOp .Add (.ref l) (.ref b)) (λh v=>Rep W Mu h (.tup (xs++ys)) v):=λQ E K=>by
 have p:=zu (a:=vs.length) (b:=c.length) (e.length▸hx) (f.length▸m)
 refine if g:vs.toArray.isEmpty=true then ?_ else if i:c.toArray.isEmpty=true then ?_ else ?_
 .exact concat_meets ⟨_,d,rfl⟩ ⟨_,hb,rfl⟩ noFill_tuple_add seq_tuple_add PySem.F.slot_tuple_add PySem.F.entry_tuple_add (PySem.F.args_tuple_add_2 _ _) (tuple_addW0 l b _ c.toArray n k none none #[] #[] g)
   ⟨d,hb,K _ _ (aG s) ((nil_of e.length g).1▸ .gU mb hb f)⟩
 .exact concat_meets ⟨_,d,rfl⟩ ⟨_,hb,rfl⟩ noFill_tuple_add seq_tuple_add PySem.F.slot_tuple_add PySem.F.entry_tuple_add (PySem.F.args_tuple_add_2 _ _) (tuple_addW1 l b vs.toArray _ n k none none #[] #[] g i)
   ⟨d,hb,K _ _ (aG s) ((nil_of f.length i).1▸(NP xs).symm▸ .gU j d e)⟩
 .exact concat_meets ⟨_,d,rfl⟩ ⟨_,hb,rfl⟩ noFill_tuple_add seq_tuple_add PySem.F.slot_tuple_add PySem.F.entry_tuple_add (PySem.F.args_tuple_add_2 _ _) (tuple_addW2 l b vs.toArray c.toArray n k none none #[] #[] g i p)
   ⟨d,hb,oZ vs c▸K _ _ (ff s _) (jd o (e.append f))⟩
theorem foldl_rep (vs:List Value)(k:Nat):∀acc:Array Value,List.foldl (λa b=>a++b) acc (List.replicate k vs.toArray)=acc++((List.replicate k vs).flatten).toArray:=by
 induction k with
 |zero=>exact λacc=>Array.append_empty.symm
 |succ k c=>exact λacc=>(c _).trans (Array.append_assoc.trans (MY (acc++ ·) (oZ ..)))
theorem aq.rep (r:aq W Mu h xs vs)(k:Nat):aq W Mu h (List.replicate k xs).flatten (List.replicate k vs).flatten:=by
 induction k with
 |zero=>exact aq.nil
 |succ k a=>exact r.append a
theorem kD {l:Addr}{n:Nat}{x:Int}(o:Old Mu s.heap)(b:s.heap.get? l=some (aR vs n))(d:aq W Mu s.heap xs vs)(m:xs.length<2^10)(p:x<2^10)(q: -(2^10)<x):
  GV W.M A s (binaryOp .Mult (.ref l) (.int x u)) (λh v=>Rep W Mu h (.list (List.replicate x.toNat xs).flatten) v/\ ∀a,v=.ref a->s.heap.get? a=none):=λQ E K=>by
 have r:=d.length
 have c:vs.toArray.size*x.toNat<=2^24:=by
  rw[N1]
  have f:vs.length<=2^10:=by lia
  have g:x.toNat<=2^10:=by lia
  calc vs.length*x.toNat<=2^10*2^10:=Nat.mul_le_mul f g
   _<=2^24:=by decide
 refine wpAny_binaryOp_repeat_ref (T:="list") (U:="int") (by decide) ⟨_,b,rfl⟩ (λi=>typeIs_int i x u) noFill_list_mul F.fills_int_mul F.slot_int_rmul repeat_list F.slot_int_index.lookup
  (call_meets F.slot_int_rmul (typeIs_int s x u) F.entry_int_rmul (F.args_int_rmul_2 _ _) (int___rmul___int_list x u l vs.toArray n)
   ⟨b,rfl,⟨_,b,rfl⟩,call_meets F.slot_list_mul ⟨_,b,rfl⟩ F.entry_list_mul (F.args_list_mul_2 _ _)
    (AutoListH.list___mul___list_int_3 l vs.toArray n x u (by simp[Builtin.List.listFitsIndex];lia) (by lia) (by simp[Builtin.List.listTooLong,sizeLine] at c |-;exact c))
    ⟨b,?_⟩⟩)
 have e:(List.foldl (λj k=>j++k) #[] (List.replicate (if vs.toArray.isEmpty=true then 0 else x.toNat) vs.toArray))=((List.replicate x.toNat vs).flatten).toArray:=by
  rw[foldl_rep]
  by_cases hv:vs=[]
  .subst hv;simp
  .simp[hv]
 rw[e]
 exact K _ _ (ff s _) ⟨fC o (d.rep _),by rintro a ⟨⟩;exact cI _⟩
end
section
variable {W:Wd}{A:Around}{s:Shared}{Mu:aD}
theorem nQ (c:Nat):∀(k:Nat) (acc:Array Nat),(List.replicate k #[c]).foldl (· ++ ·) acc=acc++(List.replicate k c).toArray
 |0,acc=>by simp
 |k+1,acc=>by
  rw[List.replicate_succ,List.foldl_cons,nQ c k,List.replicate_succ]
  apply Array.ext'
  simp
theorem DP {x:Str}{n:Int}(h:x.length=1):Txt.mul x n=⟨(List.replicate n.toNat (x.cps.toList.headD 0)).toArray⟩:=by
 obtain ⟨⟨l⟩⟩:=x
 have b:l.length=1:=h
 refine ak (List.length_eq_one_iff.mp b) λc a=>?_;subst a
 unfold Txt.mul
 by_cases h1:n<1
 .rw[M7 h1]
  have:n.toNat=0:=by lia
  rw[this];rfl
 .rw[M8 h1]
  by_cases h2:n=1
  .subst h2;rfl
  .have d:(n==1||(Str.mk ⟨[c]⟩).length==0)=false:=by
    have:(n==1)=false:=by simpa using h2
    rw[this];rfl
   rw[d,M8 NX]
   congr 1
   have:=nQ c n.toNat #[]
   simpa using this
theorem zv {a b:Int}(h0:0<=b)(e:b<=64)(f:a.natAbs<2^64):(Builtin.Int.intBits a:Int)*b<=2^27:=by
 have g:=lI f
 have:=Int.mul_le_mul (a:=(Builtin.Int.intBits a:Int)) (b:=b) (c:=64) (d:=64) (by exact Ot.mpr g) e h0 (by exact NG _)
 exact Int.le_trans this (by decide)
theorem HW {db d:D}{vb:Value}(o:Old Mu s.heap)(g:aC W Mu s.heap j q)(f:aC W Mu s.heap db vb)(e:D.bin op j db=some d):
  GV W.M A s (binaryOp op q vb) (λh v=>Rep W Mu h d v):=by
 cases j with
 |int a=>
  refine g.bG λt=>?_
  cases db with
  |int b=>
   refine f.bG λu=>?_
   clear g f o
   cases op
   .obtain rfl:=MW e;exact λQ E K=>P.add_int (K _ _ (cX s) aN)
   .obtain rfl:=MW e;exact λQ E K=>P.sub_int (K _ _ (cX s) aN)
   .refine au (fe e) λc e=>?_
    obtain rfl:=MW e
    exact λQ E K=>P.mul_int (K _ _ (cX s) aN) (IntMulOk.of_left (lI (Nr (M9.mp c).1)))
   .exact ns e
   .exact ns e
   .refine au (fe e) λc e=>?_
    obtain rfl:=MW e
    exact λQ E K=>PyProof.Rows.mod_int c (K _ _ (cX s) aN)
   .refine au (fe e) λc e=>?_
    obtain rfl:=MW e
    exact λQ E K=>PyProof.Rows.pow_int c.1 (zv c.1 c.2.1 c.2.2) (K _ _ (cX s) aN)
   .refine au (fe e) λc e=>?_
    obtain rfl:=MW e
    exact λQ E K=>PyProof.Rows.lshift_int_small c.1 (Int.le_trans c.2.1 (by decide)) c.2.2 (K _ _ (cX s) aN)
   .exact ns e
   .obtain rfl:=MW e;exact λQ E K=>PyProof.Rows.or_int (K _ _ (cX s) aN)
   .obtain rfl:=MW e;exact λQ E K=>PyProof.Rows.xor_int (K _ _ (cX s) aN)
   .obtain rfl:=MW e;exact λQ E K=>PyProof.Rows.and_int (K _ _ (cX s) aN)
   .refine au (fe e) λc e=>?_
    obtain rfl:=MW e
    exact λQ E K=>PyProof.Rows.floordiv_int c.1 (K _ _ (cX s) aN) (Or.inl (PyProof.noPylong_small (by exact c.2)))
  |bool b=>
   refine f.gV ?_
   cases op<;>first|exact ns e|skip
   refine au (fe e) λc e=>?_
   obtain rfl:=MW e
   exact λQ E K=>IntBool.mul_int_bool (K _ _ (cX s) aN)
  |_=>exact ns e
 |str a=>
  refine g.fB λt=>?_
  cases db with
  |str b=>
   refine f.fB λu=>?_
   cases op<;>first|exact ns e|skip
   refine au (fe e) λc e=>?_
   obtain rfl:=MW e
   exact tf c.1 c.2
  |int b=>
   refine f.bG λu=>?_
   cases op<;>first|exact ns e|skip
   refine au (fe e) λc e=>?_
   obtain rfl:=MW e
   intro Q E K
   refine SB.mul (mulOk_of 1 (2^16) (by exact NR c.1) (by lia) (by lia) (by decide) (by decide)) λC k=>?_
   rw[DP c.1]
   exact(K _ _ (zt s k) cO)
  |_=>exact ns e
 |list a=>
  refine g.bp λx r n hx i=>?_
  cases db with
  |list b=>
   refine f.bp λy w k l m=>?_
   cases op<;>first|exact ns e|skip
   refine au (fe e) λc e=>?_
   obtain rfl:=MW e
   exact(jr o hx l i m c.1 c.2).mono λ_ _ _ p=>p.1
  |int b=>
   refine f.bG λu=>?_
   cases op<;>first|exact ns e|skip
   refine au (fe e) λc e=>?_
   obtain rfl:=MW e
   exact(kD o hx i c.1 c.2.1 c.2.2).mono λ_ _ _ p=>p.1
  |_=>exact ns e
 |tup a=>
  refine g.tupK λx r n z hx i=>?_
  cases db with
  |tup b=>
   refine f.tupK λy w k B l m=>?_
   cases op<;>first|exact ns e|skip
   refine au (fe e) λc e=>?_
   obtain rfl:=MW e
   exact qy o hx l z B i m c.1 c.2
  |_=>exact ns e
 |_=>exact ns e
theorem wO {d:D}{f vb:Value}(o:Old Mu s.heap)(j:aC W Mu s.heap (.list xs) f)(g:aC W Mu s.heap y vb)(e:D.bin op (.list xs) y=some d):
  GV W.M A s (binaryOp op f vb) (λh v=>Rep W Mu h d v/\ ∀a,v=.ref a->s.heap.get? a=none):=by
 refine j.bp λx p n hx i=>?_
 cases y with
 |list b=>
  refine g.bp λy q k l m=>?_
  cases op<;>first|exact ns e|skip
  refine au (fe e) λc e=>?_
  obtain rfl:=MW e
  exact jr o hx l i m c.1 c.2
 |int b=>
  refine g.bG λu=>?_
  cases op<;>first|exact ns e|skip
  refine au (fe e) λc e=>?_
  obtain rfl:=MW e
  exact kD o hx i c.1 c.2.1 c.2.2
 |_=>exact ns e
end
end av
namespace av
open PySem PySem.W PyProof.Rows PySem.SeqAt
theorem uZ {f:D->D->Option Bool}{x y:D}{r:Bool}(h:cB f (x::xs) (y::ys)=some r):∃c d,f x y=some c/\cB f xs ys=some d/\(c&&d)=r:=by
 have h:(match f x y,cB f xs ys with
  |some b,some c=>some (b&&c)
  |_,_=>none)=some r:=h
 revert h
 generalize f x y=o
 generalize cB f xs ys=p
 intro h
 cases o with
 |none=>exact ns h
 |some c=>
  cases p with
  |none=>exact ns h
  |some d=>exact⟨c,d,rfl,rfl,MW h⟩
@[elab_as_elim] theorem LX {f:D->D->Option Bool}{x y:D}  {r:Bool}{motive:Bool->Prop} (h:cB f (x::xs) (y::ys)=some r) (k:∀c d,f x y=some c->cB f xs ys=some d->motive (c&&d)):motive r:=aP (uZ h) λc d a b e=>e▸k c d a b
section
variable {W:Wd}{Mu:aD}{h:Heap}{v:Value}{vs:List Value}{d:D}{ds xs ys:List D}
theorem aq.tl (b:aq W Mu h (d::ds) (v::vs)):Rep W Mu h d v/\aq W Mu h ds vs:=aP b λ_ _ e a c=>⟨(Oo e).1▸a,(Oo e).2▸c⟩
theorem aq.LY {p:Prop}(b:aq W Mu h (d::ds) []):p:=aW b λ_ _ e _=>nomatch e
theorem aq.MJ {p:Prop}(b:aq W Mu h [] (v::vs)):p:=nomatch (b.DO)
theorem qz (f:D->D->Option Bool)(g:∀a b r v,f a b=some r->aC W Mu h a v->aC W Mu h b v->r=true)(a:aq W Mu h xs vs):∀ys r,cB f xs ys=some r->aq W Mu h ys vs->r=true:=by
 refine a.ind (λys r e b=>?_) λd ds v vs i _ j ys r e b=>?_
 .cases ys with
  |nil=>exact(MW e).symm
  |cons y ys=>exact b.LY
 .cases ys with
  |nil=>exact b.MJ
  |cons y ys=>exact LX e λc d k l=>M9.mpr ⟨g _ _ c v k i.view b.tl.1.view,j _ _ l b.tl.2⟩
theorem fP (f:D->D->Option Bool)(c:∀a b r v,f a b=some r->aC W Mu h a v->aC W Mu h b v->r=true){r:Bool}(e:cB f xs ys=some r)(a:aq W Mu h xs vs)(b:aq W Mu h ys vs):r=true:=qz f c a ys r e b
theorem DQ {b:List Value}{n m:Nat}(h:aR a n=aR b m):a=b:=MY (λo:Obj=>match o.data with
 | .seq x _=>x.toList
 |_=>[]) h
theorem DR {b:List Value}{n m:Nat}(h:iX a n=iX b m):a=b:=MY (λo:Obj=>match o.data with
 | .seq x _=>x.toList
 |_=>[]) h
theorem aC.Hg {G:Prop}(a:aC W Mu h (.list xs) v)(b:aC W Mu h (.list ys) v)(k:∀vs,aq W Mu h xs vs->aq W Mu h ys vs->G):G:=
 jn a λ_ vs _ e hx c=>jn b λ_ j _ f g i=>k vs c (DQ (MW (hx.symm.trans (Value.ref.inj (e.symm.trans f)▸g)))▸i)
theorem aC.HX {G:Prop}(a:aC W Mu h (.tup xs) v)(b:aC W Mu h (.tup ys) v)(k:∀vs,aq W Mu h xs vs->aq W Mu h ys vs->G):G:=
 dX (qw a) λ_ vs _ e _ hx c=>dX (qw b) λ_ j _ f _ g i=>k vs c (DR (MW (hx.symm.trans (Value.ref.inj (e.symm.trans f)▸g)))▸i)
end
inductive EP (f:D->D->Option Bool):D->D->Bool->Prop
 |none:EP f .none .none true
 |bool {a b:Bool}:EP f (.bool a) (.bool b) (a==b)
 |int {a b:Int}:EP f (.int a) (.int b) (a==b)
 |str {a b:Str}:EP f (.str a) (.str b) (a==b)
 |list {xs ys:List D}{r:Bool}:cB f xs ys=some r->EP f (.list xs) (.list ys) r
 |tup {xs ys:List D}{r:Bool}:cB f xs ys=some r->EP f (.tup xs) (.tup ys) r
theorem zw {n:Nat}{b:D}{r:Bool}(e:D.gm (n+1) a b=some r):EP (D.gm n) a b r:=by
 cases a with
 |none=>
  cases b with
  |none=>exact sK (R:=EP _ _ _) e .none
  |_=>exact ns e
 |bool p=>
  cases b with
  |bool q=>exact sK (R:=EP _ _ _) e .bool
  |_=>exact ns e
 |int p=>
  cases b with
  |int q=>exact sK (R:=EP _ _ _) e .int
  |_=>exact ns e
 |str p=>
  cases b with
  |str q=>exact sK (R:=EP _ _ _) e .str
  |_=>exact ns e
 |list c=>
  cases b with
  |list d=>exact .list e
  |_=>exact ns e
 |tup c=>
  cases b with
  |tup d=>exact .tup e
  |_=>exact ns e
 |_=>cases b<;>exact ns e
theorem qA {W:Wd}(n:Nat):∀(a b:D) (r:Bool) (v:Value),D.gm n a b=some r->aC W Mu h a v->aC W Mu h b v->r=true:=by
 induction n with
 |zero=>exact λ_ _ _ _ e _ _=>ns e
 |succ n k=>
  intro a b r v e c d
  have x:=zw e
  clear e
  induction x with
  |none=>rfl
  |bool=>exact NJ.mpr (Value.bool.inj ((j1 c).symm.trans (j1 d)))
  |int=>exact ak (lH c) λ_ f=>ak (lH d) λ_ g=>NJ.mpr (Value.int.inj (f.symm.trans g)).1
  |str=>exact ak (qv c) λ_ f=>ak (qv d) λ_ g=>NJ.mpr (Value.str.inj (f.symm.trans g)).1
  |list e=>exact c.Hg d λ_ i j=>fP _ k e i j
  |tup e=>exact c.HX d λ_ i j=>fP _ k e i j
theorem gn (f:D->D->Option Bool):∀{ys:List D}{r:Bool},cB f xs ys=some r->xs.length=ys.length->
  ∃e:Nat->Bool,r=(List.range xs.length).all e/\ ∀j x y,xs[j]?=some x->ys[j]?=some y->f x y=some (e j):=by
 induction xs with
 |nil=>
  intro ys r h l
  cases ys with
  |nil=>exact⟨λ_=>true,(MW h).symm,λj x y h=>ns h⟩
  |cons _ _=>exact nomatch l
 |cons x xs a=>
  intro ys r h l
  cases ys with
  |nil=>exact nomatch l
  |cons y ys=>
   refine LX h λc d b g=>af (a g (OP l)) λe i hp=>⟨λj=>Nat.casesOn j c λj=>e j,?_,λj=>?_⟩
   .rw[List.length_cons,List.range_succ_eq_map,List.all_cons,List.all_map,i]
    rfl
   .cases j with
    |zero=>exact λ_ _ hx k=>MW hx▸MW k▸b
    |succ j=>exact hp j
theorem j2 (f:D->D->Option Bool):∀{ys:List D}{r:Bool},cB f xs ys=some r->xs.length≠ys.length->r=false:=by
 induction xs with
 |nil=>
  intro ys r h l
  cases ys with
  |nil=>exact absurd rfl l
  |cons _ _=>exact(MW h).symm
 |cons x xs a=>
  intro ys r h l
  cases ys with
  |nil=>exact(MW h).symm
  |cons y ys=>exact LX h λc d e b=>(MY (c&& ·) (a b λq=>l (MY Nat.succ q))).trans (Bool.and_false c)
theorem tg (f:D->D->Option Bool):∀{ys:List D}{r:Bool},cB f xs ys=some r->
  ∃e:Nat->Bool, ∀j x y,xs[j]?=some x->ys[j]?=some y->f x y=some (e j):=by
 induction xs with
 |nil=>exact λ_=>⟨λ_=>true,λj x y h=>ns h⟩
 |cons x xs a=>
  intro ys r h
  cases ys with
  |nil=>exact⟨λ_=>true,λj x y _ h=>ns h⟩
  |cons y ys=>
   refine aP (uZ h) λc d b g _=>ak (a g) λe hp=>⟨λj=>Nat.casesOn j c λj=>e j,λj=>?_⟩
   cases j with
   |zero=>exact λ_ _ hx i=>MW hx▸MW i▸b
   |succ j=>exact hp j
theorem aA {h:Heap}{n:Nat}(e:h.get? a=some (aR vs n)):h.IsList a vs.toArray:=⟨_,e,rfl,n,rfl⟩
theorem bJ {h:Heap}{n:Nat}(e:h.get? a=some (iX vs n)):h.IsTuple a vs.toArray:=⟨_,e,rfl,n,rfl⟩
theorem item_at {W:Wd}{s:Shared}{A:Around}{xs ys:List D}{c:List Value}{f:D->D->Option Bool}{e:Nat->Bool}(l:∀j x y,xs[j]?=some x->ys[j]?=some y->f x y=some (e j))(m:∀a b r d vb,f a b=some r->aC W Mu s.heap a d->aC W Mu s.heap b vb->EqAt A.in1 s d vb r)(g:aq W Mu s.heap xs vs)(h:aq W Mu s.heap ys c)(j:Nat)(n:j<vs.toArray.size)(o:j<c.toArray.size):EqAt A.in1 s vs.toArray[j] c.toArray[j] (e j):=by
 have i:=Nc (show j<xs.length from g.length▸n)
 have k:=Nc (show j<ys.length from h.length▸o)
 refine af (g.at i) λv p t=>af (h.at k) λu w z=>?_
 have q:=m _ _ _ _ _ (l j _ _ i k) t.view z.view
 rwa [<-(Ny.mp p).2, <-(Ny.mp w).2] at q
section
variable {W:Wd}{Mu:aD}{s:Shared}{A:Around}{f:D->D->Option Bool}{xs ys:List D}{r:Bool}{x y:Addr}{vs ws:List Value}{k k':Nat}
theorem zx (e:cB f xs ys=some r)(hi:∀a b r g vb,f a b=some r->aC W Mu s.heap a g->aC W Mu s.heap b vb->EqAt A.in1 s g vb r)(h:A.units<cLine)(i:aq W Mu s.heap xs vs)(j:aq W Mu s.heap ys ws)(hx:s.heap.get? x=some (aR vs k))(l:s.heap.get? y=some (aR ws k')):RcAt A s (.ref x) (.ref y) r:=by
 have d:=i.length
 have m:=j.length
 by_cases c:xs.length=ys.length
 .refine af (gn _ e c) λn q hp=>?_
  rw[q,d]
  exact RcAt.lists (aA hx) (aA l) ((d.symm.trans c).trans m) h (item_at hp hi i j)
 .rw[j2 _ e c]
  exact RcAt.lists_lengths (aA hx) (aA l) (bne_iff_ne.mpr λq=>c (d.trans (Eq.trans q m.symm))) h
theorem u3 (e:cB f xs ys=some r)(hi:∀a b r i vb,f a b=some r->aC W Mu s.heap a i->aC W Mu s.heap b vb->EqAt A.in1 s i vb r)(j:A.units<cLine)(d:aq W Mu s.heap xs vs)(g:aq W Mu s.heap ys ws)(hx:s.heap.get? x=some (iX vs k))(l:s.heap.get? y=some (iX ws k')):RcAt A s (.ref x) (.ref y) r:=by
 have h:=d.length
 have m:=g.length
 by_cases c:xs.length=ys.length
 .refine af (gn _ e c) λn q hp=>?_
  have:=RcAt.tuples (bJ hx) (bJ l) j (item_at hp hi d g)
  have o:vs.toArray.size=ws.toArray.size:=(h.symm.trans c).trans m
  rwa [<-o,Nat.min_self,O8,Bool.and_true,show vs.toArray.size=xs.length from h.symm, <-q] at this
 .rw[j2 _ e c]
  refine ak (tg _ e) λn hp=>?_
  have:=RcAt.tuples (bJ hx) (bJ l) j (item_at hp hi d g)
  rwa [show(vs.toArray.size==ws.toArray.size)=false from OT.mpr λq=>c (h.trans (Eq.trans q m.symm)),Bool.and_false] at this
end
theorem lJ {A:Around}{n:Nat}(h:A.units+(n+1)<cLine):A.in1.units+n<cLine:=by rw[Around.in1_units,Nat.add_right_comm];exact h
theorem jt {A:Around}{s:Shared}{x:Addr}{r:Bool}{P:Value->Prop}(same:P (.ref x)->r=true)(c:P (.ref y))(b:RcAt A s (.ref x) (.ref y) r):EqAt A s (.ref x) (.ref y) r/\RcAt A s (.ref x) (.ref y) r:=by
 refine⟨?_,b⟩
 by_cases a:x=y
 .rw[same (a▸c),a]
  exact EqAt.same _
 .exact EqAt.of_refs a b
theorem lL {W:Wd}{s:Shared}(n:Nat):∀(A:Around) (a b:D) (r:Bool) (c vb:Value),D.gm n a b=some r->aC W Mu s.heap a c->aC W Mu s.heap b vb->A.units+n<cLine->
  EqAt A s c vb r/\RcAt A s c vb r:=by
 induction n with
 |zero=>exact λ_ _ _ _ _ _ e=>ns e
 |succ n u=>
  intro A a b r c vb e d f l
  have same:=λv=>qA (W:=W) (Mu:=Mu) (h:=s.heap) (n+1) a b r v e
  have x:=zw e
  clear e
  have o:=λa b r c vb e p q=>(u A.in1 a b r c vb e p q (lJ l)).1
  have t:A.units<cLine:=M5 (NM _ _) l
  induction x with
  |none=>exact d.uY (f.uY ⟨EqAt.same _,RcAt.none_none⟩)
  |bool=>exact d.gV (f.gV ⟨EqAt.bool_bool _ _,RcAt.bool_bool _ _⟩)
  |int=>exact d.bG λ_=>f.bG λ_=>⟨EqAt.int_int _ _ _ _,RcAt.int_int _ _ _ _⟩
  |str=>exact d.fB λ_=>f.fB λ_=>⟨EqAt.str_str _ _ _ _,RcAt.str_str _ _ _ _⟩
  |list e=>exact d.bp λx w k hx g=>f.bp λy z B i j=>jt (same _ (.bI hx g)) (.bI i j) (zx e o t g j hx i)
  |tup e=>exact d.tupK λx w k m hx g=>f.tupK λy z B C i j=>jt (P:=aC W Mu s.heap _) (same _ (Rep.gU m hx g)) (Rep.gU C i j) (u3 e o t g j hx i)
def th (es:Array DictEntry)(ks:List Str)(vs:List Value):Prop:=
 es.size=ks.length/\ks.length=vs.length/\(∀i (h:i<es.size), ∃t,es[i].key=.str (ks.getD i Str.empty) t/\es[i].val=vs.getD i .none)
theorem nR {prog:Program}{w:World}{es:List DictEntry}(p:Pairs (strKind prog w) es a):
  es.length=a.length/\ ∀(i:Nat) (e:DictEntry),es[i]?=some e-> ∃k v t,a[i]?=some (k,v)/\e.key=Value.str k t/\e.val=v:=by
 induction p with
 |nil=>exact⟨rfl,λi e h=>by simp at h⟩
 |@cons e b es a d f _ c=>
  refine⟨by simp[c.1],λi g h=>?_⟩
  cases i with
  |zero=>
   simp at h;subst h
   refine ak (Value.isStrOf_shape d) λt ht=>?_
   exact⟨b.1,b.2,t,rfl,ht,f⟩
  |succ i=>exact c.2 i g (by simpa using h)
section
variable {prog:Program}{w:World}{A:Around}{E:Value->Shared->Prop}{s:Shared}
theorem o3 {d:Addr}{o:Obj}{es:Array DictEntry}{x:Str}{t:Tok}{hh:Int}{Q:Option Nat->Shared->Prop}(f:s.heap.get? d=some o)(g:o.data=.dict es ep)(i:∀e∈es, ∃y u,e.key=.str y u)(h:Q (es.findIdx? λe=>e.key.isStr x) s):wpAny (model prog w) A (dictFind d (.str x t) hh) Q E s:=by
 unfold dictFind
 refine OH ?_
 refine MZ (wpAny_dictEntries f g ?_)
 dsimp only
 have a:(es.all λe=>isExactStrKey e.key)=true:=by
  rw[Array.all_eq_true']
  intro e k
  refine eZ (i e k) λy u c=>?_
  rw[c];rfl
 rw[M7 a]
 unfold foundByValue
 cases hj:es.findIdx? λe=>e.key.isStr x with
 |none=>
  rw[hj] at h
  exact M6 h
 |some j=>
  rw[hj] at h
  obtain ⟨b,hp,_⟩:=Array.findIdx?_eq_some_iff_getElem.mp hj
  dsimp only
  rw[Array.getElem?_eq_getElem b]
  dsimp only
  refine MZ (wpAny_dictEpoch f g ?_)
  refine eZ (i es[j] (Array.getElem_mem b)) λy u c=>?_
  have l:y=x:=by rw[c] at hp;exact eq_of_beq hp
  rw[c,l]
  refine MZ (EqAt.str_str x u x t prog w _ _ ?_)
  refine MZ (wpAny_dictEpoch f g ?_)
  rw[M8 (by simp)]
  rw[M7 (by simp)]
  exact MZ (wpAny_rule (M6 h))
theorem qB {es:Array DictEntry}{ks:List Str}(hs:es.size=ks.length)(l:∀i (h:i<es.size), ∃t,es[i].key=.str (ks.getD i Str.empty) t)(x:Str):
  (es.findIdx? λe=>e.key.isStr x)=ks.idxOf? x:=by
 have f:∀i (h:i<es.size),es[i].key.isStr x=(ks.getD i Str.empty==x):=λi h=>by
  refine ak (l i h) λt ht=>?_
  rw[ht];rfl
 cases g:ks.idxOf? x with
 |none=>
  rw[List.idxOf?_eq_none_iff] at g
  rw[Array.findIdx?_eq_none_iff]
  intro e m
  obtain ⟨i,hi,rfl⟩:=Array.mem_iff_getElem.mp m
  rw[f i hi]
  have c:i<ks.length:=by lia
  have:ks.getD i Str.empty∈ks:=by
   rw[Nb,Nc c]
   exact List.getElem_mem c
  simp only[OT]
  intro e;exact g (e▸this)
 |some j=>
  have b:=g
  unfold List.idxOf? at b
  rw[OY] at b
  obtain ⟨d,hp,k⟩:=b
  have a:j<es.size:=by lia
  refine Array.findIdx?_eq_some_iff_getElem.mpr ⟨a,?_,λi hi=>?_⟩
  .rw[f j a,Nb,Nc d];exact hp
  .rw[f i (by exact NW hi a),Nb,Nc (by exact NW hi d)]
   exact k i hi
theorem nv {nm:String}{b:Addr}{T ob:Obj}{es es':Array DictEntry}{K:Nat}{d:List Str}{D:List Value}{Q:Bool->Shared->Prop}{r:Bool}(X:(a==sysModules)=false)(hb:(b==sysModules)=false)(f:s.heap.get? a=some T)(g:T.data=.dict es ep)(m:s.heap.get? b=some ob)(n:ob.data=.dict es' K)(Y:th es ks vs)(xb:th es' d D)(J:Nat->Bool->Prop)(h0:ks.length=d.length->J 0 r)(step:∀i r,i<ks.length->J i r->(d.idxOf? (ks.getD i Str.empty)=none/\r=false)\/
   ∃j c I,d.idxOf? (ks.getD i Str.empty)=some j/\EqAt A s (vs.getD i .none) (D.getD j .none) c/\r=(c&&I)/\J (i+1) I)(fin:∀r,J ks.length r->r=true)(h:Q (decide (ks.length=d.length)&&r) s):
  wpAny (model prog w) A (Builtin.Dict.samePairs nm a b) Q E s:=by
 refine eU Y λL xa2 M=>?_
 refine eU xb λN xb2 o=>?_
 have v:∀e∈es', ∃y u,e.key=.str y u:=λe O=>by
  obtain ⟨i,hi,rfl⟩:=Array.mem_iff_getElem.mp O
  refine af (o i hi) λt ht U=>?_
  exact⟨_,t,ht⟩
 unfold Builtin.Dict.samePairs Builtin.Dict.showsAll
 rw[M8 (show¬(a==sysModules)=true by rw[X];exact NX),M8 (show¬(b==sysModules)=true by rw[hb];exact NX)]
 refine MZ (M6 (MZ (M6 ?_)))
 refine MZ (wpAny_dictEntries f g ?_)
 dsimp only
 refine MZ (wpAny_dictEntries m n ?_)
 by_cases F:es.size=es'.size
 case neg=>
  rw[M7 (by simpa using F)]
  have:¬ks.length=d.length:=by lia
  rw[NQ this,Bool.false_and] at h
  exact MZ (wpAny_rule (M6 h))
 rw[M8 (by simpa using F)]
 have V:ks.length=d.length:=by lia
 rw[Nq V,Bool.true_and] at h
 refine MZ (wpAny_dictEpoch f g (MZ ?_))
 rw[Std.Legacy.Range.forIn_eq_forIn_range']
 simp only[Std.Legacy.Range.size,Nat.sub_zero,Nat.add_sub_cancel,Nat.div_one]
 refine wpAny_forIn_list _ (λrest q P=>P=s/\q=(none,())/\ ∃i c,rest=List.range' i (es.size - i)/\i<=es.size/\J i c/\(c=r)) _ ?_ ?_ _ _ ⟨rfl,rfl,0,r,by simp,Ou _,h0 V,rfl⟩
 .rintro x rest q P ⟨rfl,rfl,i,c,hr,hi,hJ,rfl⟩
  have k:i<es.size:=by
   rcases Nat.lt_or_ge i es.size with h|h
   .exact h
   .rw[Nat.sub_eq_zero_of_le h] at hr;simp at hr
  obtain ⟨rfl,z⟩:x=i/\rest=List.range' (i+1) (es.size - (i+1)):=by
   have e:es.size - i=(es.size - (i+1))+1:=by lia
   rw[e,List.range'_succ] at hr
   injection hr with h1 h2
   exact⟨h1,h2⟩
  refine MZ (wpAny_dictEntries f g ?_)
  rw[Array.getElem?_eq_getElem k]
  refine af (M x k) λt G H=>?_
  show wpAny _ _ (holding [es[x].key,es[x].val] _>>=_) _ _ _
  rw[G,H]
  refine MZ (OH (MZ (o3 m n v ?_)))
  rw[qB N (λi hi=>let ⟨t,p,_⟩:=o i hi;⟨t,p⟩)]
  rcases step x c (by exact OV k (by assumption)) hJ with ⟨hn,rfl⟩|⟨j,c',I,W,O,rfl,R⟩
  .rw[hn]
   refine M6 ?_
   show wpAny _ _ (if(!false)=true then _ else _) _ _ _
   rw[M7 (by decide)]
   exact M6 (M6 h)
  .rw[W]
   have B:=W
   unfold List.idxOf? at B
   rw[OY] at B
   obtain ⟨hjl,_,_⟩:=B
   have l:j<es'.size:=by lia
   refine MZ (wpAny_dictEntries m n ?_)
   rw[Array.getElem?_eq_getElem l]
   refine af (o j l) λU U C=>?_
   dsimp only
   rw[C]
   refine OH (O prog w _ _ ?_)
   cases c' with
   |false=>
    rw[Bool.false_and] at h
    show wpAny _ _ (if(!false)=true then _ else _) _ _ _
    rw[M7 (by decide)]
    exact M6 (M6 h)
   |true=>
    show wpAny _ _ (if(!true)=true then _ else _) _ _ _
    rw[M8 (by decide)]
    refine MZ (wpAny_dictEpoch f g ?_)
    rw[M8 (by simp)]
    exact M6 ⟨rfl,rfl,x+1,I,z,k,R,by simp⟩
 .rintro q P ⟨rfl,rfl,i,c,hr,hi,hJ,rfl⟩
  have S:i=es.size:=by
   rcases Nat.lt_or_ge i es.size with h|h
   .have e:es.size - i=(es.size - (i+1))+1:=by lia
    rw[e,List.range'_succ] at hr;exact nomatch hr
   .exact OS hi h
  have:=fin c (by rw[<-L, <-S];exact hJ)
  subst this
  exact M6 h
end
theorem zip_fst_snd {ks:List Str}{vs:List Value}(h:ks.length=vs.length)(i:Nat)(k:Str)(v:Value)(e:(ks.zip vs)[i]?=some (k,v)):ks[i]?=some k/\vs[i]?=some v:=by
 rw[List.getElem?_zip_eq_some] at e
 exact e
theorem zy {prog:Program}{w:World}{es:Array DictEntry}{ks:List Str}(p:Pairs (strKind prog w) es.toList (ks.zip vs))(h:ks.length=vs.length):th es ks vs:=by
 refine au (nR p) λa b=>?_
 have c:(ks.zip vs).length=ks.length:=by simp;lia
 refine⟨by rw[<-c, <-a];simp,h,λi hi=>?_⟩
 refine jn (b i es[i] (by simp[hi])) λk v t d e f=>?_
 refine au (zip_fst_snd h i k v d) λg j=>?_
 refine⟨t,?_,?_⟩
 .rw[e,Nb,g];rfl
 .rw[f,Nb,j];rfl
theorem qC {e:Program}{A:Around}{s:Shared}{b:Addr}{ks d:List Str}{f:List Value}{r:Bool}(u:(a==sysModules)=false)(hb:(b==sysModules)=false)(q:s.heap.DictOf (strKind e p) a (ks.zip vs))(db:s.heap.DictOf (strKind e p) b (d.zip f))(v:ks.length=vs.length)(y:d.length=f.length)(z:A.units<cLine)(J:Nat->Bool->Prop)(h0:ks.length=d.length->J 0 r)(step:∀i r,i<ks.length->J i r->(d.idxOf? (ks.getD i Str.empty)=none/\r=false)\/
   ∃j c t,d.idxOf? (ks.getD i Str.empty)=some j/\EqAt A.in1 s (vs.getD i .none) (f.getD j .none) c/\r=(c&&t)/\J (i+1) t)(fin:∀r,J ks.length r->r=true):RcAt A s (.ref a) (.ref b) (decide (ks.length=d.length)&&r):=λprog w E Q h=>by
 refine lC (id q) λH I K g L k l B l=>?_
 refine lC (id db) λob C D m F n l G l=>?_
 have o:s.TypeIs (.ref a) "dict":=q.typeIs
 have tb:s.TypeIs (.ref b) "dict":=db.typeIs
 refine wpAny_richCompare_same_room (op:=.Eq) o tb PySem.F.slot_dict_eq (OJ PySem.F.slot_dict_eq o PySem.F.entry_dict_eq ?_ (PySem.F.args_dict_eq_2 _ _)) z
 show wpAny _ _ (Builtin.Dict.dictSlotArgs "__eq__" ⟨[.ref a,.ref b],[]⟩>>=_) _ _ s
 refine MZ ?_
 unfold Builtin.Dict.dictSlotArgs
 refine MZ (wpAny_notOrdered_dict o ?_)
 show wpAny _ _ (pure (Value.ref a,Value.ref b)) _ _ s
 refine M6 ?_
 refine MZ (wpAny_isInstance (T:="dict") tb PySem.F.sub_dict_dict ?_)
 simp only[Bool.not_true,OB,if_false]
 refine MZ (M6 (MZ (M6 ?_)))
 refine MZ (nv u hb g k m n (zy B v) (zy G y) J h0 step fin ?_)
 exact M6 ⟨_,rfl,(λx=>nomatch x),by simpa using h⟩
theorem ju {ks:List Str}{x:Str}(h:ks.idxOf? x=none):ks.contains x=false:=by
 rw[List.idxOf?_eq_none_iff] at h
 simpa using h
theorem zz {W:Wd}(l:aq W Mu h ds vs){i:Nat}(hi:i<ds.length):∃d,ds[i]?=some d/\Rep W Mu h d (vs.getD i .none):=by
 refine af (l.at (Nc hi)) λv a r=>?_
 exact⟨_,Nc hi,by rw[Nb,a];exact r⟩
theorem o4 {ks:List Str}{x:Str}(h:ks.idxOf? x=some j):ks.contains x=true:=by
 cases a:ks.contains x with
 |true=>rfl
 |false=>exact ns ((List.idxOf?_eq_none_iff.mpr λm=>nb (a.symm.trans (List.contains_iff_mem.mpr m))).symm.trans h)
theorem u4 {f:D->D->Option Bool}{g:List D}{k:Str}{d:D}{r:Bool}(h:dh f a g (k::ks) (d::ds)=some r):
  ∃c,dh f a g ks ds=some c/\((a.idxOf? k=none/\r=false)\/ ∃j l b,a.idxOf? k=some j/\g[j]?=some l/\f d l=some b/\r=(b&&c)):=by
 have h:(match dh f a g ks ds with
  |some c=>match (a.idxOf? k).bind λi=>g[i]? with
   |some m=>(f d m).map (· &&c)
   |none=>if a.contains k then none else some false
  |none=>none)=some r:=h
 revert h
 generalize dh f a g ks ds=o
 intro h
 cases o with
 |none=>exact ns h
 |some c=>
  refine⟨c,rfl,?_⟩
  cases hj:a.idxOf? k with
  |none=>
   rw[hj] at h
   have h:(if a.contains k then none else some false)=some r:=h
   rw[ju hj] at h
   exact .inl ⟨rfl,(MW h).symm⟩
  |some j=>
   rw[hj] at h
   have h:(match g[j]? with
    |some m=>(f d m).map (· &&c)
    |none=>if a.contains k then none else some false)=some r:=h
   cases n:g[j]? with
   |none=>
    rw[n] at h
    have h:(if a.contains k then none else some false)=some r:=h
    rw[o4 hj] at h
    exact ns h
   |some l=>
    rw[n] at h
    exact af (om h) λb hb e=>.inr ⟨j,l,b,rfl,n,hb,e.symm⟩
theorem qD (f:D->D->Option Bool)(a:List Str)(g:List D){ks:List Str}{ds:List D}{i:Nat}{r:Bool}{d:D}(hi:i<ks.length)(l:ds[i]?=some d)(h:dh f a g (ks.drop i) (ds.drop i)=some r):
  ∃c,dh f a g (ks.drop (i+1)) (ds.drop (i+1))=some c/\
   ((a.idxOf? (ks.getD i Str.empty)=none/\r=false)\/ ∃j k b,a.idxOf? (ks.getD i Str.empty)=some j/\g[j]?=some k/\f d k=some b/\r=(b&&c)):=by
 refine ak (Ny.mp l) λm e=>?_
 rw[List.drop_eq_getElem_cons hi,List.drop_eq_getElem_cons m,e] at h
 rw[Nb,Nc hi]
 exact u4 h
theorem ti (f:D->D->Option Bool)(a:List Str)(b:List D){ks:List Str}{ds:List D}{r:Bool}(c:ks.length=ds.length)(h:dh f a b (ks.drop ks.length) (ds.drop ks.length)=some r):r=true:=by
 rw[List.drop_length,c,List.drop_length] at h
 exact(MW h).symm
theorem wQ {prog:Program}{w:World}{es:List DictEntry}{b:List (Str×Value)}(p:Pairs (strKind prog w) es a)(q:Pairs (strKind prog w) es b):a=b:=by
 induction p generalizing b with
 |nil=>cases q;rfl
 |cons c d _ e=>
  cases q with
  |cons f g q=>rw[e q,Prod.ext ((strKind prog w).inj _ _ _ c f) (d.symm.trans g)]
theorem lM {prog:Program}{w:World}{h:Heap}{ks c:List Str}{d:List Value}(x:h.DictOf (strKind prog w) a (ks.zip vs))(y:h.DictOf (strKind prog w) a (c.zip d))(l:ks.length=vs.length)(m:c.length=d.length):ks=c/\vs=d/\ks.Nodup:=by
 refine lC x λt u v g z i n o nd=>?_
 refine lC y λob p q j r k n s n=>?_
 obtain rfl:=MW (g.symm.trans j)
 obtain rfl:=(Data.dict.inj (i.symm.trans k)).1
 have f:∀{a:List Str} {b:List Value},a.length=b.length->(a.zip b).map (·.1)=a:=λh=>List.map_fst_zip (NR h)
 have e:=wQ o s
 obtain rfl:ks=c:=(f l).symm.trans ((MY (List.map (·.1)) e).trans (f m))
 exact⟨rfl,(List.map_snd_zip (NR l.symm)).symm.trans ((MY (List.map Prod.snd) e).trans (List.map_snd_zip (NR m.symm))),f l▸nd⟩
theorem zA {ks:List Str}(nd:ks.Nodup){i:Nat}(hi:i<ks.length):ks.idxOf? ks[i]=some i:=by
 unfold List.idxOf?
 rw[OY]
 exact⟨hi,O8 _,λj a q=>List.pairwise_iff_getElem.mp nd j i (NW a hi) hi a (eq_of_beq q)⟩
section
variable {W:Wd}{Mu:aD}{h:Heap}{v:Value}{ks ks':List Str}{ds ds':List D}
theorem aC.zB {G:Prop}(a:aC W Mu h (.dict ks ds) v)(b:aC W Mu h (.dict ks' ds') v)(k:∀vs,ks=ks'->ks.Nodup->ks.length=vs.length->aq W Mu h ds vs->aq W Mu h ds' vs->G):G:=
 jY (iJ a) λ_ vs e _ hx c d=>jY (iJ b) λ_ l f _ g i j=>eU (lM hx (Value.ref.inj (e.symm.trans f)▸g) c i) λp q nd=>k vs p nd c d (q▸j)
theorem wR {f:D->D->Option Bool}(w:∀a b r v,f a b=some r->aC W Mu h a v->aC W Mu h b v->r=true)(x:aq W Mu h ds' vs){i:List D}{n:List Value}(l:aq W Mu h i n):
  ∀(g:List Str) (r:Bool),(∀(j:Nat) (k:Str),g[j]?=some k-> ∃p,ks.idxOf? k=some p/\vs[p]?=n[j]?)->g.length=i.length->dh f ks ds' g i=some r->r=true:=by
 refine l.ind (λg r _ m e=>?_) λd i v n rd _ y g r hp m e=>?_
 .cases g with
  |nil=>exact(MW e).symm
  |cons _ _=>exact nomatch m
 .cases g with
  |nil=>exact nomatch m
  |cons k g=>
   refine af (u4 e) λc z o=>af (hp 0 k rfl) λp t A=>o.elim (λq=>ns (q.1.symm.trans t)) λq=>dX q λj J b B C E F=>?_
   have s:=MW (B.symm.trans t)
   refine af (x.at C) λu G H=>?_
   have I:u=v:=MW (G.symm.trans (s▸A))
   rw[F,w _ _ _ v E rd.view (I▸H).view,y g c (λj k q=>hp (j+1) k q) (OP m) z];rfl
end
inductive EO (n:Nat):D->D->Bool->Prop
 |tup {xs ys:List D}{r:Bool}:cB (D.nj n) xs ys=some r->EO n (.tup xs) (.tup ys) r
 |dict {ks ks':List Str}{ds ds':List D}{r:Bool}:ks.length=ks'.length->dh (D.nj n) ks' ds' ks ds=some r->EO n (.dict ks ds) (.dict ks' ds') r
 |apart {ks ks':List Str}{ds ds':List D}:ks.length≠ks'.length->EO n (.dict ks ds) (.dict ks' ds') false
 |plain {a b:D}{r:Bool}:D.gm (n+1) a b=some r->EO n a b r
theorem Hh {n:Nat}{b:D}{r:Bool}(e:D.nj (n+1) a b=some r):EO n a b r:=by
 cases a with
 |tup h=>
  cases b with
  |tup i=>exact .tup e
  |_=>exact .plain e
 |dict d g=>
  cases b with
  |dict c f=>
   have e:(if d.length=c.length then dh (D.nj n) c f d g else some false)=some r:=e
   by_cases q:d.length=c.length
   .rw[M7 q] at e;exact .dict q e
   .rw[M8 q] at e;exact sK e (.apart q)
  |_=>exact .plain e
 |_=>exact .plain e
theorem zC {W:Wd}(n:Nat):∀(a b:D) (r:Bool) (v:Value),D.nj n a b=some r->aC W Mu h a v->aC W Mu h b v->r=true:=by
 induction n with
 |zero=>exact λ_ _ _ _ e _ _=>ns e
 |succ n i=>
  intro a b r v e c d
  have x:=Hh e
  clear e
  induction x with
  |tup e=>exact c.HX d λ_ f g=>fP _ i e f g
  |plain e=>exact qA _ _ _ _ _ e c d
  |apart q=>exact c.zB d λ_ e _ _ _ _=>absurd (MY List.length e) q
  |dict q e=>
   refine c.zB d λp l nd m f g=>?_
   subst l
   refine wR i g f _ _ (λj k q=>ak (Ny.mp q) λo e=>⟨j,e▸zA nd o,rfl⟩) (m.trans f.length.symm) e
theorem zD {W:Wd}{s:Shared}(n:Nat):∀(A:Around) (a b:D) (r:Bool) (z vb:Value),D.nj n a b=some r->aC W Mu s.heap a z->aC W Mu s.heap b vb->A.units+n<cLine->
  EqAt A s z vb r/\RcAt A s z vb r:=by
 induction n with
 |zero=>exact λ_ _ _ _ _ _ e=>ns e
 |succ n S=>
  intro A a b r z vb e G H B
  have same:=λv=>zC (W:=W) (Mu:=Mu) (h:=s.heap) (n+1) a b r v e
  have x:=Hh e
  clear e
  have J:A.units<cLine:=M5 (NM _ _) B
  have Q:=λa b r z vb e p q=>(S A.in1 a b r z vb e p q (lJ B)).1
  induction x with
  |plain e=>exact lL _ _ _ _ _ _ _ e G H B
  |tup e=>exact G.tupK λx R k m hx f=>H.tupK λy K k' T g o=>jt (P:=aC W Mu s.heap _) (same _ (Rep.gU m hx f)) (Rep.gU T g o) (u3 e Q J f o hx g)
  |dict I e=>
   rename_i U L V M r
   refine G.dO λx R C hx t f=>H.dO λy K E g F o=>jt (same _ (.bY C hx t f)) (.bY E g F o) ?_
   have:=qC (A:=A) C E hx g t F J (λi c=>dh (D.nj n) L M (U.drop i) (V.drop i)=some c) (r:=r) (λ_=>e)
    (λi c hi hJ=>by
     refine af (zz f (i:=i) ((t.trans f.length.symm)▸hi)) λd X rd=>?_
     refine af (qD _ _ _ hi X hJ) λY N w=>w.imp id λw=>?_
     refine dX w λj d' b hj O hb q=>?_
     refine af (o.at O) λu B ru=>⟨j,b,Y,hj,?_,q,N⟩
     rw[Nb (l:=K),B]
     exact Q _ _ _ _ _ hb rd.view ru.view)
    (λc hJ=>ti _ _ _ (t.trans f.length.symm) hJ)
   rwa [Nq I,Bool.true_and] at this
  |apart I=>
   refine G.dO λx R C hx t f=>H.dO λy K E g F o=>jt (same _ (.bY C hx t f)) (.bY E g F o) ?_
   have:=qC (A:=A) C E hx g t F J (λ_ c=>False) (r:=true) (λh=>absurd h I) (λi c hi hJ=>hJ.elim) (λc hJ=>hJ.elim)
   rwa [NQ I,Bool.false_and] at this
noncomputable def u5 (o:Obj):Nat:=match o.data with
 | .dict _ _=>6
 | .seq _ _=>if o.cls=.type "list" then 4 else 5
 |_=>7
noncomputable def vk (h:Heap):Value->Nat
 | .none=>0
 | .bool _=>1
 | .int _ _=>2
 | .str _ _=>3
 | .ref x=>match h.get? x with
  |some o=>u5 o
  |none=>8
 |_=>8
noncomputable def dk:D->Nat
 | .none=>0
 | .bool _=>1
 | .int _=>2
 | .str _=>3
 | .list _=>4
 | .tup _=>5
 | .dict _ _=>6
 | .inst _=>7
theorem o5 {h:Heap}{x:Addr}{o:Obj}(e:h.get? x=some o):vk h (.ref x)=u5 o:=by
 show(match h.get? x with
  |some o=>u5 o
  |none=>8)=_
 rw[e]
theorem zE {W:Wd}{d:D}{v:Value}(r:Rep W Mu h d v):vk h v=dk d:=by
 cases d with
 |none=>exact MY (vk h) r
 |bool b=>exact MY (vk h) r
 |int i=>exact r.bG λ_=>rfl
 |str i=>exact r.fB λ_=>rfl
 |list c=>exact r.bp λa e n _ g _=>o5 g
 |tup c=>exact r.tupK λa e n _ g _=>o5 g
 |dict k c=>
  refine r.dO λa e _ _ g _ _=>jn g λo l m f _ j=>(o5 f).trans ?_
  unfold u5
  rw[j.1];rfl
 |inst c=>exact r.qt λa p e _ g _ _ _ _=>o5 g
theorem ze {n m:Nat}{p:Prop}(h:n=m)(d:Nat.beq n m=false):p:=absurd h (Nat.ne_of_beq_eq_false d)
section
variable {W:Wd}{Mu:aD}{h:Heap}
theorem gW {b:D}{v:Value}(c:Rep W Mu h a v)(d:Rep W Mu h b v):dk a=dk b:=(zE c).symm.trans (zE d)
theorem JX {G:Prop}{v:Value}(d:Rep W Mu h (.inst ds) v)(f:Rep W Mu h (.inst a) v)(k:∀vs,aq W Mu h ds vs->aq W Mu h a vs->G):G:=
 sR d λ_ g vs e _ hx _ b i j=>sR f λ_ l m n _ o _ c p r=>
  have q:g=l:=MW (MY Obj.dict (MW (hx.symm.trans (Value.ref.inj (e.symm.trans n)▸o))))
  k vs j ((lM b (q▸c) (show bE.length=vs.length from i.symm) (show bE.length=m.length from p.symm)).2.1▸r)
theorem qE (a:D):∀b v,Rep W Mu h a v->Rep W Mu h b v->a=b:=by
 refine D.rec (motive_1:=λa=>∀b v,Rep W Mu h a v->Rep W Mu h b v->a=b) (motive_2:=λas=>∀bs g,aq W Mu h as g->aq W Mu h bs g->as=bs) ?_ ?_ ?_ ?_ ?_ ?_ ?_ ?_ ?_ ?_ a
 .intro b v f c
  cases b with
  |none=>rfl
  |_=>exact ze (gW f c) rfl
 .intro x b v f c
  cases b with
  |bool y=>exact MY D.bool (Value.bool.inj (f.symm.trans c))
  |_=>exact ze (gW f c) rfl
 .intro x b v f c
  cases b with
  |int y=>exact ak f λ_ e=>ak c λ_ o=>MY D.int (Value.int.inj (e.symm.trans o)).1
  |_=>exact ze (gW f c) rfl
 .intro x b v f c
  cases b with
  |str y=>exact ak f λ_ e=>ak c λ_ o=>MY D.str (Value.str.inj (e.symm.trans o)).1
  |_=>exact ze (gW f c) rfl
 .intro z i b v f c
  cases b with
  |list s=>exact f.view.Hg c.view λg j k=>MY D.list (i s g j k)
  |_=>exact ze (gW f c) rfl
 .intro z i b v f c
  cases b with
  |tup s=>exact f.view.HX c.view λg j k=>MY D.tup (i s g j k)
  |_=>exact ze (gW f c) rfl
 .intro A w i b v f c
  cases b with
  |dict B l=>exact f.view.zB c.view λg e _ _ j k=>e▸MY (D.dict A) (i l g j k)
  |_=>exact ze (gW f c) rfl
 .intro w i b v f c
  cases b with
  |inst l=>exact JX f c λg j k=>MY D.inst (i l g j k)
  |_=>exact ze (gW f c) rfl
 .intro bs g f c
  cases bs with
  |nil=>rfl
  |cons b bs=>exact f.DO▸c |>.LY
 .intro d w t u bs g f c
  cases bs with
  |nil=>exact c.DO▸f |>.LY
  |cons b bs=>exact aP f λv r e p q=>have c:aq W Mu h (b::bs) (v::r):=e▸c;t b v p c.tl.1▸u bs r q c.tl.2▸rfl
theorem u6 (a b:D)(v:Value)(c:Rep W Mu h a v)(d:Rep W Mu h b v):a=b:=qE a b v c d
end
theorem u7 {W:Wd}{s:Shared}{A:Around}{x:D}(c:aC W Mu s.heap x a)(f:A.units+6<cLine):
  ∃e:Value->Bool,(∀d v b,Rep W Mu s.heap d v->D.gm 6 d x=some b->e v=b/\EqAt A s v a b):=by
 classical
 refine⟨λv=>if h:∃d,Rep W Mu s.heap d v then(D.gm 6 (Classical.choose h) x).getD false else false,λd v b rd e=>?_⟩
 have hex:∃d,Rep W Mu s.heap d v:=⟨d,rd⟩
 refine⟨?_,(lL 6 A d x b v a e rd.view c f).1⟩
 show dite _ _ _=b
 rw[dif_pos hex,u6 _ _ _ (Classical.choose_spec hex) rd,e]
 rfl
theorem u9 {x y:D}{b:Bool}(h:D.mem x (y::ys)=some b):∃c d,D.gm 6 y x=some c/\D.mem x ys=some d/\(c||d)=b:=by
 have h:(match D.gm 6 y x,D.mem x ys with
  |some b,some c=>some (b||c)
  |_,_=>none)=some b:=h
 revert h
 generalize D.gm 6 y x=o
 generalize D.mem x ys=p
 intro h
 cases o with
 |none=>exact ns h
 |some c=>
  cases p with
  |none=>exact ns h
  |some d=>exact⟨c,d,rfl,rfl,MW h⟩
theorem DS {W:Wd}{x:D}{e:Value->Bool}(f:∀d v b,Rep W Mu h d v->D.gm 6 d x=some b->e v=b)(l:aq W Mu h ys vs):∀b,D.mem x ys=some b->vs.any e=b:=by
 refine l.ind (λb a=>MW a) λy ys v vs p _ g b a=>aP (u9 a) λc d i j q=>?_
 rw[List.any_cons,f y v c p i,g d j,q]
theorem zF {x:D}{ys:List D}:∀{b:Bool},D.mem x ys=some b-> ∀y∈ys, ∃c,D.gm 6 y x=some c:=by
 induction ys with
 |nil=>exact λ_ _ h=>nomatch h
 |cons y ys a=>exact λe z f=>aP (u9 e) λc d g i _=>(Np.mp f).elim (λq=>⟨c,q▸g⟩) (a i z)
theorem qF {W:Wd}{ys:List D}{vs:List Value}(l:aq W Mu h ys vs):∀v∈vs, ∃y∈ys,Rep W Mu h y v:=
 l.ind (λv h=>nomatch h) λy ys u r p _ b v a=>(Np.mp a).elim (λq=>⟨y,.head _,q▸p⟩) λa=>af (b v a) λz c d=>⟨z,.tail _ c,d⟩
theorem jv {ks:List Str}{vs:List Value}(l:ks.length=vs.length)(k:Str):(valueAt (ks.zip vs) k).isSome=ks.contains k:=by
 unfold valueAt
 rw[Option.isSome_map,Oj,List.find?_isSome]
 simp only[Nd,List.contains_iff_mem]
 have:(ks.zip vs).map (·.1)=ks:=by
  rw[show(λx:Str×Value=>x.1)=Prod.fst from rfl,List.map_fst_zip (by exact NR l)]
 constructor
 .rintro ⟨x,hx,rfl⟩
  rw[<-this]
  exact List.mem_map_of_mem hx
 .intro a
  rw[<-this] at a
  refine af (Nn.mp a) λx hx e=>?_
  exact⟨x,hx,e⟩
section
variable {W:Wd}{A:Around}{s:Shared}{Mu:aD}
theorem vc {o:Option Bool}{b:Bool}(h:o.map (!·)=some b):o=some (!b):=by
 refine af (om h) λc a d=>?_;subst a;subst d
 rw[Bool.not_not]
theorem HY {n:Nat}{x:D}{i:Value}{b:Bool}(c:aC W Mu s.heap x h)(d:aC W Mu s.heap y i)(j:A.units+(n+1)<cLine)(e:D.gm (n+1) x y=some b)(nt:∀xs,x≠ .tup xs):RcNeAt A s h i (!b):=by
 have l:A.units<cLine:=M5 (NM _ _) j
 have p:=zw e
 clear e
 induction p with
 |none=>exact c.uY (d.uY RcNeAt.none_none)
 |bool=>exact c.gV (d.gV (RcNeAt.bool_bool _ _))
 |int=>exact c.bG λ_=>d.bG λ_=>RcNeAt.int_int _ _ _ _
 |str=>exact c.fB λ_=>d.fB λ_=>RcNeAt.str_str _ _ _ _
 |tup _=>exact(nt _ rfl).elim
 |list e=>
  rename_i xs v r
  refine c.bp λx B k hx m=>d.bp λy C E o t=>?_
  have g:=m.length
  have u:=t.length
  by_cases f:xs.length=v.length
  .refine af (gn _ e f) λw q hp=>?_
   rw[q,g]
   exact RcNeAt.lists (A:=A) (e:=w) (aA hx) (aA o) ((g.symm.trans f).trans u) l (item_at hp (λa b r z vb e p q=>(lL n A.in1 a b r z vb e p q (lJ j)).1) m t)
  .rw[j2 _ e f]
   exact RcNeAt.lists_lengths (aA hx) (aA o) (bne_iff_ne.mpr λq=>f (g.trans (Eq.trans q u.symm))) l
theorem JY {n m:Nat}(h:n+8<m):n+6<m:=M5 (Ov (by decide) _) h
theorem JZ {x:D}{c:Value}{b:Bool}(d:aC W Mu s.heap x a)(f:aC W Mu s.heap y c)(g:A.units+8<cLine)(e:D.gm 6 x y=some (!b))(nt:∀xs,x≠ .tup xs):
  GV W.M A s (compareOp .NotEq a c) (λ_ v=>v=.bool b):=λQ E K=>by
 exact HY (A:=A) (n:=5) d f (JY g) e nt W.prog W.w E Q (K _ _ (aG s) (by rw[Bool.not_not]))
end
section
variable {W:Wd}{A:Around}{s:Shared}{Mu:aD}
theorem vd {f:Int->Int->Bool}{x:D}{b:Bool}(h:D.ii f x y=some b):∃p q,x=.int p/\y=.int q/\f p q=b:=by
 cases x with
 |int p=>
  cases y with
  |int q=>exact⟨p,q,rfl,rfl,MW h⟩
  |_=>exact ns h
 |_=>cases y<;>exact ns h
theorem J0 {x:D}{b:Bool}(h:D.bb x y=some b):∃p q,x=.bool p/\y=.bool q/\(p==q)=b:=by
 cases x with
 |bool p=>
  cases y with
  |bool q=>exact⟨p,q,rfl,rfl,MW h⟩
  |_=>exact ns h
 |_=>cases y<;>exact ns h
inductive DT (x:D)(b:Bool):D->Prop
 |list {ys:List D}:D.mem x ys=some b->DT x b (.list ys)
 |tup {ys:List D}:D.mem x ys=some b->DT x b (.tup ys)
 |dict {k:Str}{ks:List Str}{ds:List D}:x=.str k->ks.contains k=b->DT x b (.dict ks ds)
theorem in_of {x:D}{b:Bool}(h:D.isIn x y=some b):DT x b y:=by
 cases y with
 |list a=>exact .list h
 |tup a=>exact .tup h
 |dict c d=>
  cases x with
  |str k=>exact .dict rfl (MW h)
  |_=>exact ns h
 |_=>exact ns h
theorem kU {x:D}{vs:List Value}{b:Bool}(i:aC W Mu s.heap x a)(j:A.units+8<cLine)(l:aq W Mu s.heap ys vs)(e:D.mem x ys=some b):∃f:Value->Bool,(∀v∈vs.toArray,EqAt A.in1 s v a (f v))/\vs.toArray.any f=b:=by
 refine ak (u7 (A:=A.in1) i (lJ (n:=6) (O2 j))) λf g=>?_
 refine⟨f,λv k=>?_,?_⟩
 .refine af (qF l v (List.mem_toArray.mp k)) λd m rd=>?_
  refine ak (zF e d m) λc o=>?_
  have:=g d v c rd o
  rw[this.1];exact this.2
 .rw[List.any_toArray,DS (λd v b rd h=>(g d v b rd h).1) l b e]
theorem qG {x:D}{o:Option Bool}{b:Bool}(h:cond (D.isTup x) none o=some b):o=some b/\ ∀xs,x≠ .tup xs:=by
 cases q:D.isTup x with
 |true=>rw[q] at h;exact ns h
 |false=>rw[q] at h;exact⟨h,λxs e=>by subst e;exact nb q.symm⟩
theorem zG {x:D}{w z:Value}{b:Bool}(h:aC W Mu s.heap x w)(i:aC W Mu s.heap y z)(o:A.units+8<cLine)(e:D.cmp op x y=some b):
  GV W.M A s (compareOp op w z) (λ_ v=>v=.bool b):=λQ E K=>by
 cases op with
 |Eq=>exact(zD 6 A x y b w z e h i (JY o)).2 W.prog W.w E _ (K _ _ (aG s) rfl)
 |NotEq=>exact JZ h i o (vc (qG e).1) (qG e).2 Q E K
 |In=>
  have p:=in_of e
  clear e
  induction p with
  |list e=>
   refine i.bp λa r n j l=>?_
   refine af (kU h o l e) λf k m=>?_
   exact in_listAt f (aA j) k (K _ _ (aG s) (MY Value.bool m))
  |tup e=>
   refine i.tupK λa r n C j l=>?_
   refine af (kU h o l e) λf k m=>?_
   exact in_tupleAt f (bJ j) k (K _ _ (aG s) (MY Value.bool m))
  |dict q e=>
   subst q
   refine h.fB λt=>?_
   refine i.dO λa r na j B l=>?_
   exact wpAny_in_of (strKind_is W.prog W.w _ t) na j.mapOf (K _ _ (cX s) (MY Value.bool ((jv B _).trans e)))
 |NotIn=>
  have p:=in_of (vc e)
  clear e
  induction p with
  |list e=>
   refine i.bp λa r n j l=>?_
   refine af (kU h o l e) λf k m=>?_
   exact notIn_listAt f (aA j) k (K _ _ (aG s) (by rw[m,Bool.not_not]))
  |tup e=>
   refine i.tupK λa r n C j l=>?_
   refine af (kU h o l e) λf k m=>?_
   exact notIn_tupleAt f (bJ j) k (K _ _ (aG s) (by rw[m,Bool.not_not]))
  |dict q e=>
   subst q
   refine h.fB λt=>?_
   refine i.dO λa r na j B l=>?_
   exact wpAny_notIn_of (strKind_is W.prog W.w _ t) na j.mapOf (K _ _ (cX s) (by rw[jv B,e,Bool.not_not]))
 |Is=>
  refine aP (J0 e) λp q c d g=>?_;subst c;subst d;subst g
  refine h.gV ?_
  refine i.gV ?_
  exact PyProof.Rows.is_bool (K _ _ (aG s) rfl)
 |IsNot=>exact ns e
 |Lt=>
  refine aP (vd e) λp q c d g=>?_;subst c;subst d;subst g
  refine h.bG λt=>?_
  refine i.bG λu=>?_
  exact P.lt_int (K _ _ (aG s) rfl)
 |LtE=>
  refine aP (vd e) λp q c d g=>?_;subst c;subst d;subst g
  refine h.bG λt=>?_
  refine i.bG λu=>?_
  exact P.le_int (K _ _ (aG s) rfl)
 |Gt=>
  refine aP (vd e) λp q c d g=>?_;subst c;subst d;subst g
  refine h.bG λt=>?_
  refine i.bG λu=>?_
  exact P.gt_int (K _ _ (aG s) rfl)
 |GtE=>
  refine aP (vd e) λp q c d g=>?_;subst c;subst d;subst g
  refine h.bG λt=>?_
  refine i.bG λu=>?_
  exact P.ge_int (K _ _ (aG s) rfl)
theorem wU {x:D}{b:Bool}(d:aC W Mu s.heap x a)(e:D.truthy x=some b):GV W.M A s (truthy a) (λ_ c=>c=b):=by
 cases x with
 |bool p=>exact d.gV λQ E K=>wpAny_truthy_bool (K _ _ (aG s) (MW e))
 |int i=>exact d.bG λt Q E K=>P.truthy_int (K _ _ (aG s) (MW e))
 |_=>exact ns e
end
section
variable {W:Wd}{A:Around}{s:Shared}{Mu:aD}{E:Value->Shared->Prop}
theorem j3 {sl:Expr}{o i:Value}(h:∀a b p,sl≠ .Slice a b none p):subscripted sl false o i=operate [o,i] (getItem o i):=by
 cases sl<;>first|rfl|skip
 rename_i a b c p
 cases c with
 |none=>exact(h a b p rfl).elim
 |some _=>rfl
theorem fD {ks:List Str}:∀{vs:List Value}{k:Str}{j:Nat}{v:Value},ks.idxOf? k=some j->vs[j]?=some v->valueAt (ks.zip vs) k=some v:=by
 induction ks with
 |nil=>exact λh _=>ns h
 |cons y ks d=>
  intro vs k j v h b
  cases vs with
  |nil=>exact ns b
  |cons u vs=>
   rw[List.idxOf?_cons] at h
   unfold valueAt
   rw[List.zip_cons_cons]
   by_cases e:y=k
   .rw[M7 (NJ.mpr e)] at h
    rw[List.find?_cons_of_pos (p:=λc:Str×Value=>decide (c.1=k)) (a:=(y,u)) (Nq e)]
    obtain rfl:=MW h
    exact b
   .rw[M8 λq=>e (eq_of_beq q)] at h
    rw[List.find?_cons_of_neg (p:=λc:Str×Value=>decide (c.1=k)) (a:=(y,u)) λq=>e (Nr q)]
    refine af (om h) λg f q=>?_
    subst q
    exact d f b
inductive IX:D->D->D->Prop
 |list {xs:List D}{k:Int}{d:D}:0<=k->k<lim->xs[k.toNat]?=some d->IX (.list xs) (.int k) d
 |tup {xs:List D}{k:Int}{d:D}:0<=k->k<lim->xs[k.toNat]?=some d->IX (.tup xs) (.int k) d
 |dict {ks:List Str}{ds:List D}{k:Str}{j:Nat}{d:D}:ks.idxOf? k=some j->ds[j]?=some d->IX (.dict ks ds) (.str k) d
 |str {x:Str}{k:Int}{c:Nat}:0<=k->k<lim->x.cps[k.toNat]?=some c->IX (.str x) (.int k) (.str ⟨#[c]⟩)
theorem Hi {x i d:D}(e:D.index x i=some d):IX x i d:=by
 cases x with
 |list a=>
  cases i with
  |int k=>exact au (fe e) λh e=>.list h.1 h.2 e
  |_=>exact ns e
 |tup a=>
  cases i with
  |int k=>exact au (fe e) λh e=>.tup h.1 h.2 e
  |_=>exact ns e
 |dict b f=>
  cases i with
  |str k=>exact af (ob e) λj h e=>.dict h e
  |_=>exact ns e
 |str x=>
  cases i with
  |int k=>exact au (fe e) λh e=>wM (R:=IX _ _) e λc q=>.str h.1 h.2 q
  |_=>exact ns e
 |_=>exact ns e
inductive SX (lo hi st:Option Int):D->D->Prop
 |list {xs:List D}:st≠some 0->xs.length<2^20->SX lo hi st (.list xs) (.list (lD xs lo hi st))
 |tup {xs:List D}{h:Int}:lo=none->hi=some h->st=none->0<=h->h<xs.length->xs.length<2^20->SX lo hi st (.tup xs) (.tup (xs.take h.toNat))
theorem Hj {x d:D}{lo hi st:Option Int}(e:D.slice x lo hi st=some d):SX lo hi st x d:=by
 cases x with
 |list a=>refine au (fe e) λh e=>?_;exact sK (R:=SX _ _ _ _) e (.list h.1 h.2)
 |tup a=>
  rcases lo with _|lo
  .rcases hi with _|hi
   .exact ns e
   .rcases st with _|st
    .refine au (fe e) λh e=>?_;exact sK (R:=SX _ _ _ _) e (.tup rfl rfl rfl h.1 h.2.1 h.2.2)
    .exact ns e
  .exact ns e
 |_=>exact ns e
theorem fQ {vs:List Value}{k:Nat}{v:Value}(h:vs[k]?=some v):vs.toArray[k]?=some v:=by rw[List.getElem?_toArray];exact h
theorem zH {k:Int}{n:Nat}(h0:0<=k)(h:k.toNat<n):seqIndex? k n=some k.toNat:=by
 unfold seqIndex?
 rw[M8 (Int.not_lt.mpr h0)]
 exact M7 (M9.mpr ⟨Nq h0,Nq ((Int.toNat_lt h0).mp h)⟩)
theorem j4 {k:Int}(h:k<lim):k<2^63:=Int.lt_trans h (by decide)
theorem zI {k:Int}(h:0<=k): -(2^63)<=k:=Int.le_trans (by decide) h
theorem tj {x i d:D}{r:Value}(k:aC W Mu s.heap x q)(m:aC W Mu s.heap i r)(e:D.index x i=some d):GV W.M A s (getItem q r) (λh v=>Rep W Mu h d v):=λQ E K=>by
 have p:=Hi e
 clear e
 induction p with
 |list h0 c e=>exact m.bG λt=>k.bp λa o n f l=>af (l.at e) λv b g=>wpAny_getItem_list (aA f) h0 (j4 c) (fQ b) (K _ _ (aG s) g)
 |tup h0 c e=>
  exact m.bG λt=>k.tupK λa o n _ f l=>af (l.at e) λv b g=>PyProof.Rows.getItem_tuple (t:=a) (items:=o.toArray) ⟨_,f,rfl,n,rfl⟩ (zI h0) (j4 c) (zH h0 (Ny.mp b).1) (fQ b) (K _ _ (aG s) g)
 |dict w y=>exact m.fB λt=>k.dO λa o na f z l=>af (l.at y) λv b g=>wpAny_getItem_of (strKind_is W.prog W.w _ t) f.mapOf (fD w b) (K _ _ (cX s) g)
 |str h0 c j=>
  refine m.bG λt=>k.fB λu=>P.getItem_str ?_ (by rw[zH (n:=Str.length _) h0 (Array.getElem?_eq_some_iff.mp j).1];exact j) (K _ _ (cX s) cO)
  rw[NQ (Int.not_lt.mpr (zI h0)),NQ (Int.not_le.mpr (j4 c))];rfl
theorem zJ {W:Wd}{Mu:aD}(l:aq W Mu h ds vs)(is:List Nat):aq W Mu h (is.filterMap (ds[·]?)) (is.filterMap (vs[·]?)):=by
 induction is with
 |nil=>exact aq.nil
 |cons i is a=>
  rw[O7,O7]
  cases b:ds[i]? with
  |none=>
   rw[List.getElem?_eq_none_iff.mpr (l.length▸List.getElem?_eq_none_iff.mp b)]
   exact a
  |some d=>
   refine af (l.at b) λv c r=>?_
   rw[c]
   exact aq.cons r a
theorem nz {sl:Addr}{n:Nat}{c d b:Value}{lo hi st:Option Int}(o:Old Mu s.heap)(f:s.heap.get? a=some (aR vs n))(l:aq W Mu s.heap xs vs)(hs:s.heap.IsSliceOf sl c d b)(g:IsPart c lo)(i:IsPart d hi)(ps:IsPart b st)(h0:st≠some 0)(hsz:xs.length<2^20):
  GV W.M A s (getItem (.ref a) (.ref sl)) (λh v=>Rep W Mu h (.list (lD xs lo hi st)) v):=λQ E K=>by
 have j:=l.length
 refine wpAny_getItem_list_slice (aA f) hs g i ps h0 ?_ (by rw[N1];show _<=2^24;lia)
 refine(K _ _ (ff s _) ?_)
 have e:slicePick vs.toArray lo hi st=((sliceRange (sliceBounds lo hi st xs.length).1 (sliceBounds lo hi st xs.length).2.1 (sliceBounds lo hi st xs.length).2.2).filterMap (vs[·]?)).toArray:=by
  unfold slicePick
  rw[N1,j]
  have:(λ(x:Nat)=>vs.toArray[x]?)=λ(x:Nat)=>vs[x]?:=by funext x;simp
  rw[this]
 rw[e]
 exact fC o (zJ l _)
theorem qH (b n:Nat)(hb:b<=n):Builtin.Slice.sliceAdjust none (some (b:Int)) 1 (n:Int)=(0,(b:Int)):=by
 have e:(if(b:Int)<0 then max ((b:Int)+n) (if(1:Int)<0 then -1 else 0) else min (b:Int) (if(1:Int)<0 then(n:Int) - 1 else n))=b:=(M8 (Int.not_lt.mpr (NG b))).trans (Int.min_eq_left (Ot.mpr hb))
 exact MY (Prod.mk (0:Int)) e
theorem qI (b:Nat):Builtin.Slice.slicePlaces 0 (b:Int) 1=b:=by
 cases b with
 |zero=>rfl
 |succ b=>
  have e:(if(0:Int)<((b+1:Nat):Int) then(((b+1:Nat):Int) - 0 - 1)/1+1 else 0)=((b+1:Nat):Int):=by
   rw[M7 (show(0:Int)<((b+1:Nat):Int) from N5.mpr (Oh b)),Int.ediv_one,Int.sub_zero,Int.sub_add_cancel]
  exact MY Int.toNat e
theorem o6 {sl:Addr}{b n:Nat}{Q:Int×Int×Nat->Shared->Prop}(hs:s.heap.IsSliceOf sl .none (.int b u) .none)(hb:b<=n)(h:Q (0,1,b) s):
  wpAny W.M A (Builtin.Slice.sliceApplied (.ref sl) (pure (n:Int))) Q E s:=by
 refine bf (id hs) λos a d c=>?_
 unfold Builtin.Slice.sliceApplied Builtin.Slice.sliceFields
 refine MZ (MZ (OU a c (x:=.none) rfl (MZ (OU a c (x:=.int b u) rfl (MZ (OU a c (x:=.none) rfl (M6 ?_)))))))
 refine MZ (slicePart_none ?_)
 show wpAny _ _ (if((1:Int)==0)=true then _ else _) _ _ s
 rw[M8 (by decide)]
 refine MZ (slicePart_none (MZ (slicePart_int (MZ (M6 ?_)))))
 show wpAny _ _ (match Builtin.Slice.sliceAdjust none (some (b:Int)) 1 (n:Int) with|(lo,hi)=>pure (lo,(1:Int),Builtin.Slice.slicePlaces lo hi 1)) _ _ s
 rw[qH b n hb]
 show wpAny _ _ (pure ((0:Int),(1:Int),Builtin.Slice.slicePlaces 0 (b:Int) 1)) _ _ s
 rw[qI b]
 exact M6 h
theorem wV (vs:List Value)(b:Nat):((List.range b).filterMap λ(k:Nat)=>vs.toArray[((0:Int)+(k:Int)*1).toNat]?)=vs.take b:=by
 have e:(λ(k:Nat)=>vs.toArray[((0:Int)+(k:Int)*1).toNat]?)=(vs.toArray[·]?)∘(0+ ·):=by
  funext k
  rw[Int.zero_add,Int.mul_one,Oc]
  exact MY (vs.toArray[·]?) (Nat.zero_add k).symm
 rw[e, <-List.filterMap_map]
 exact pick_run vs.toArray 0 b
theorem o7 {sl:Addr}{n:Nat}{b:Nat}(o:Old Mu s.heap)(j:s.heap.get? a=some (iX vs n))(l:aq W Mu s.heap xs vs)(hs:s.heap.IsSliceOf sl .none (.int b u) .none)(hb:b<xs.length)(hsz:xs.length<2^20):
  GV W.M A s (getItem (.ref a) (.ref sl)) (λh v=>Rep W Mu h (.tup (xs.take b)) v):=λQ E K=>by
 have k:=l.length
 have ht:IsTup s.heap a vs.toArray:=⟨_,j,rfl,n,rfl⟩
 refine bf (id hs) λos e f p=>?_
 have g:s.TypeIs (.ref sl) "slice":=⟨os,e,f⟩
 have d:b<vs.toArray.size:=show b<vs.length from k▸hb
 have i:¬(((0:Int)==0&&(1:Int)==1&&b==vs.toArray.size)=true):=λq=>Oa _ (eq_of_beq (M9.mp q).2▸d)
 have c:sizeOk (.seq (vs.take b).toArray):=by
  show(vs.take b).toArray.size<=sizeLine
  rw[N1,OE]
  exact M4 (Nat.min_le_left _ _) (M4 (ND (NW hb hsz)) (by decide))
 have fin:=K (.ref s.heap.objs.size) _ (ff s _) (jd o (l.take b))
 unfold getItem
 refine OH ?_
 first|refine MZ (M6 ?_)|skip
 refine MZ (wpAny_sequenceKey ht.typeIs (by decide) ?_)
 refine MZ (wpAny_callSpecial?_slot (name:=Str.ofString "__getitem__") ht.typeIs slot_tuple_getitem
  (OJ slot_tuple_getitem ht.typeIs entry_tuple_getitem ?_ (args_tuple_getitem _ _)))
 show wpAny _ _ (Builtin.Tuple.tupleItemsOf (.ref a)>>=_) _ _ s
 refine MZ (tupleItemsOf_ ht ?_)
 refine MZ (wpAny_typeOf g ?_)
 rw[M7 (by decide)]
 refine MZ (o6 hs (ND d) ?_)
 show wpAny _ _ (if((0:Int)==0&&(1:Int)==1&&b==vs.toArray.size)=true then _ else _) _ _ s
 rw[M8 i,wV vs b]
 first
  |exact MZ (m:=Builtin.Tuple.tupleExact _) (Ol (M6 ⟨_,rfl,M6 fin⟩) c)
  |exact MZ (m:=Builtin.Tuple.tupleExact _) (Ol (MZ (M6 (M6 ⟨_,rfl,M6 fin⟩))) c)
  |exact MZ (MZ (m:=Builtin.Tuple.tupleExact _) (Ol (M6 (M6 ⟨_,rfl,M6 fin⟩)) c))
theorem qJ {x d:D}{f g i b:Value}{sl:Addr}{lo hi st:Option Int}(o:Old Mu s.heap)(j:aC W Mu s.heap x f)(hs:s.heap.IsSliceOf sl g i b)(k:IsPart g lo)(m:IsPart i hi)(ps:IsPart b st)(e:D.slice x lo hi st=some d):GV W.M A s (getItem f (.ref sl)) (λh v=>Rep W Mu h d v):=by
 have p:=Hj e
 clear e
 induction p with
 |list h0 q=>exact j.bp λa r n c l=>nz o c l hs k m ps h0 q
 |tup t u w h0 y z=>
  refine j.tupK λa r n _ c l=>?_
  subst t;subst u;subst w
  cases k
  cases ps
  cases m
  exact o7 o c l (Int.toNat_of_nonneg h0▸hs) (N5.mp (Int.toNat_of_nonneg h0▸y)) z
end
structure Good (A:Around)(l:Nat):Prop where
 hh:A.handled=none
 depth:A.depth+3*l<900
 units:A.units+12*l<9000
theorem Good.room {A:Around}{l:Nat}(g:Good A l):A.units+100<cLine:=NF (Nat.add_lt_add_right (M5 (NM _ _) g.units) _) (by decide)
section
variable {W:Wd}{A:Around}{s:Shared}{Mu:aD}{E:Value->Shared->Prop}
@[elab_as_elim] theorem J1  {d:D}{is:List Int}{motive:D->List Int->Prop} (e:D.ints (d::xs)=some is) (k:∀i a,D.ints xs=some a->motive (.int i) (i::a)):motive d is:=by
 cases d with
 |int i=>exact wM (R:=motive _) e λa h=>k i a h
 |_=>exact ns e
@[elab_as_elim] theorem Hk  {d:D}{is:List Str}{motive:D->List Str->Prop} (e:D.strs (d::xs)=some is) (k:∀i a,D.strs xs=some a->motive (.str i) (i::a)):motive d is:=by
 cases d with
 |str i=>exact wM (R:=motive _) e λa h=>k i a h
 |_=>exact ns e
@[elab_as_elim] theorem HZ  {d:D}{is:List Bool}{motive:D->List Bool->Prop} (e:D.bools (d::xs)=some is) (k:∀i a,D.bools xs=some a->motive (.bool i) (i::a)):motive d is:=by
 cases d with
 |bool i=>exact wM (R:=motive _) e λa h=>k i a h
 |_=>exact ns e
theorem lO {is:List Int}(e:D.ints xs=some is)(l:aq W Mu h xs vs):IntsAre vs is:=by
 revert is
 refine l.ind (motive:=λxs vs=>∀{is},D.ints xs=some is->IntsAre vs is) (λe=>MW e▸ .nil) λd b v vs p _ a is e=>?_
 revert p
 exact J1 e λi c h p=>p.bG λt=>.cons _ t (a h)
theorem zK {is:List Str}(e:D.strs xs=some is)(l:aq W Mu h xs vs):StrsAre vs is:=by
 revert is
 refine l.ind (motive:=λxs vs=>∀{is},D.strs xs=some is->StrsAre vs is) (λe=>MW e▸ .nil) λd b v vs p _ a is e=>?_
 revert p
 exact Hk e λi c h p=>p.fB λt=>.cons _ t (a h)
theorem DU {is:List Int}(h:IntsAre vs is):∀(i:Nat) (v:Value),vs[i]?=some v-> ∃t,v=Value.int (is.getD i 0) t:=by
 induction h with
 |nil=>exact λ_ _ h=>ns h
 |cons n t r a=>
  intro i
  cases i with
  |zero=>exact λv h=>⟨t,(MW h).symm⟩
  |succ i=>exact a i
theorem kE (is:List Int):∀n,n<=is.length->preSum (λi=>is.getD i 0) n=(is.take n).sum
 |0,_=>by simp[preSum]
 |n+1,h=>by
  rw[preSum,kE is n (by exact ND h),List.take_add_one]
  have:is[n]?=some (is[n]'(by exact h)):=Nc (by exact h)
  rw[Nb,this]
  simp only[Option.toList_some,List.sum_append,List.sum_cons,List.sum_nil,Option.getD_some,Int.add_zero]
theorem fg {l:Addr}{items:Array Value}{Q:Value->Shared->Prop}(d:s.heap.IsList l items)(h:∀I a,(∀b o,s.heap.get? b=some o->a.get? b=some o)->s.heap.get? I=none->(∀b∈[I,l],b<a.objs.size)->l≠I->a.IsListIter I l 0->a.IsList l items->Q (.ref I) {s with heap:=a}):
  wpAny W.M A (pyIter (.ref l)) Q E s:=by
 have c:l<s.heap.objs.size:=by refine af d λf e f=>?_;exact Heap.lt_size e
 refine wpAny_pyIter_list d (h _ _ (λ_ _ e=>Heap.get?_push_of_some _ e) (Heap.get?_none_of_le (NB _)) (λb hb=>?_) (NZ c) ⟨_,Heap.get?_push_size _ rfl,rfl,rfl⟩ (d.push _))
 rw[Heap.size_push]
 rcases Np.mp hb with rfl|hb
 .exact N7 _
 .rcases Np.mp hb with rfl|hb
  .exact OF c
  .cases hb
theorem H0 {l:Addr}{vs:List Value}{n:Nat}{xs:List D}{is:List Int}(hh:A.handled=none)(m:s.heap.get? l=some (aR vs n))(r:aq W Mu s.heap xs vs)(e:D.ints xs=some is):
  GV W.M A s (call (.builtin "sum") [.ref l]) (λh v=>Rep W Mu h (.int is.sum) v):=λQ E K=>by
 have hi:=lO e r
 refine call_sum_walkG (fg (aA m) λI w p q a c it d=>?_)
 refine⟨I,_,_,_,_,_,λi=>is.getD i 0,rfl,Walks.list (A:=A.in1) hh I l c vs.toArray,⟨it,d⟩,a,λi v t=>DU hi i v (by simpa using t),λf u x g=>?_⟩
 .refine(K _ _ ⟨f,u,rfl,λb o j=>g b o (λk=>?_) (p b o j)⟩ ?_)
  .simp only[Np,Nl,or_false] at k
   subst k
   rw[q] at j
   cases j
  .rw[N1,hi.length,kE is _ (NB _),List.take_length]
   exact aN
theorem tm {x d:D}{f:Value}(g:aC W Mu s.heap x f)(e:fN (λ_ _=>none) .len [x]=some d):GV W.M A s (call (.builtin "len") [f]) (λh v=>Rep W Mu h d v):=λQ E K=>by
 cases x<;>first|exact ns e|skip
 .refine au (fe e) λj e=>?_
  obtain rfl:=MW e
  refine g.bp λa i n b l=>?_
  have c:=l.length
  refine PySem.Calls.call_len_list (aA b) (by rw[N1];lia) (K _ _ ⟨_,_,rfl,λ_ _ e=>e⟩ ?_)
  rw[N1, <-c];exact aN
 .refine au (fe e) λj e=>?_
  obtain rfl:=MW e
  refine g.tupK λa i n k b l=>?_
  have c:=l.length
  refine PyProof.Rows.len_tuple (t:=a) (items:=i.toArray) ⟨_,b,rfl,n,rfl⟩ (by rw[N1];lia) (K _ _ ⟨_,_,rfl,λ_ _ e=>e⟩ ?_)
  rw[N1, <-c];exact aN
theorem DV {l:Addr}{vs:List Value}{n:Nat}{Q:Value->Shared->Prop}(d:s.heap.get? l=some (aR vs n))(hsz:vs.length<2^20)(e:∀a f,(∀b c,s.heap.get? b=some c->a.get? b=some c)->a.get? s.heap.objs.size=some (aR vs f)->Q (.ref s.heap.objs.size) {s with heap:=a}):
  wpAny W.M A (call (.type "list") [.ref l]) Q E s:=
 call_list_seq l (.inl rfl) d rfl rfl e (by rw[N1];show _<=2^24;exact av.lw (N0 hsz) rfl)
theorem zL {l:Addr}{vs:List Value}{n:Nat}{xs:List D}(o:Old Mu s.heap)(c:s.heap.get? l=some (aR vs n))(r:aq W Mu s.heap xs vs)(hsz:xs.length<2^20):
  GV W.M A s (call (.type "tuple") [.ref l]) (λh v=>Rep W Mu h (.tup xs) v):=λQ E K=>by
 have:=r.length
 refine call_tuple_list (aA c) (λd a=>(K _ _ ⟨_,_,rfl,λb o e=>Heap.get?_push_of_some _ (a b o e)⟩ ?_)) (by rw[N1];show _<=2^24;lia)
 exact .gU (o.keep a).fresh (Heap.get?_push_size _ rfl) (r.move (Fz.keep λb o e=>Heap.get?_push_of_some _ (a b o e)))
theorem zM {bs:List Bool}(e:D.bools xs=some bs)(l:aq W Mu h xs vs):vs.length=bs.length/\ ∀(i:Nat) (v:Value),vs[i]?=some v->v=Value.bool (bs.getD i false):=by
 revert bs
 refine l.ind (motive:=λxs vs=>∀{bs},D.bools xs=some bs->vs.length=bs.length/\ ∀(i:Nat) (v:Value),vs[i]?=some v->v=Value.bool (bs.getD i false)) (λe=>MW e▸⟨rfl,λ_ _ h=>ns h⟩) λd b v vs p _ a bs e=>?_
 revert p
 refine HZ e λi c h p=>⟨MY Nat.succ (a h).1,λj=>?_⟩
 cases j with
 |zero=>exact λu q=>(MW q).symm.trans p
 |succ j=>exact(a h).2 j
theorem all_range (bs:List Bool):(List.range bs.length).all (λi=>bs.getD i false)=bs.all id:=by
 rw[Oj,Nx,Nx]
 constructor
 .intro h b hb
  obtain ⟨i,hi,rfl⟩:=List.mem_iff_getElem.mp hb
  have:=h i (Ng.mpr hi)
  simpa[Nb,hi] using this
 .intro h i hi
  have hi:=Ng.mp hi
  have:=h bs[i] (List.getElem_mem hi)
  simpa[Nb,hi] using this
theorem H2 {l:Addr}{vs:List Value}{n:Nat}{xs:List D}{bs:List Bool}(hh:A.handled=none)(k:s.heap.get? l=some (aR vs n))(r:aq W Mu s.heap xs vs)(e:D.bools xs=some bs):
  GV W.M A s (call (.builtin "all") [.ref l]) (λh v=>Rep W Mu h (.bool (bs.all id)) v):=λQ E K=>by
 refine au (zM e r) λb1 b2=>?_
 refine call_all_walk (fg (aA k) λI x m p q a it c=>?_)
 refine⟨I,_,_,_,_,_,λi=>bs.getD i false,rfl,Walks.list (A:=A.in1) hh I l a vs.toArray,⟨it,c⟩,λi v y Q z t u=>?_,λd w f=>?_⟩
 .have:=b2 i v (by simpa using t)
  subst this
  exact wpAny_truthy_bool u
 .refine(K _ _ ⟨d,w,rfl,λb o g=>f b o (λj=>?_) (m b o g)⟩ ?_)
  .simp only[Np,Nl,or_false] at j
   subst j
   rw[p] at g
   cases g
  .rw[N1,b1,all_range]
   exact eC
theorem jw {l:Addr}{vs:List Value}{n:Nat}{xs:List D}{a:List Str}{x:Str}{t:Tok}(b:s.heap.get? l=some (aR vs n))(r:aq W Mu s.heap xs vs)(e:D.strs xs=some a)(hsz:(a.map (·.length)).sum+a.length*x.length<=16777216):
  GV W.M A s (call (.builtin "str.join") [.str x t,.ref l]) (λh v=>Rep W Mu h (.str (PySem.Txt.join x a)) v):=λQ E K=>
 join_list (aA b) (by simpa using zK e r) hsz λc k=>(K _ _ (zt s k) cO)
theorem cY {d e:Type}{f:d->Option e}{x:d}{xs:List d}{r:List e}(h:(x::xs).mapM f=some r):∃y ys,f x=some y/\xs.mapM f=some ys/\y::ys=r:=by
 rw[List.mapM_cons] at h
 exact aP (uX (o:=f x) (p:=xs.mapM f) (f:=List.cons) h) λy ys a b c=>⟨y,ys,a,b,c.symm⟩
theorem wW {x:D}{e:Value->Bool}(f:∀d v b,Rep W Mu h d v->D.gm 6 d x=some b->e v=b)(l:aq W Mu h ys vs):
  ∀bs,(ys.mapM λy=>D.gm 6 y x)=some bs->vs.countP e=bs.countP id:=by
 refine l.ind (λbs a=>MW a▸rfl) λy ys v vs p _ g bs a=>aP (cY a) λc i j k q=>?_
 rw[<-q,List.countP_cons,List.countP_cons,f y v c p j,g i k]
 rfl
theorem wX {x:D}{ys:List D}:∀{bs:List Bool},(ys.mapM λy=>D.gm 6 y x)=some bs-> ∀y∈ys, ∃c,D.gm 6 y x=some c:=by
 induction ys with
 |nil=>exact λ_ _ h=>nomatch h
 |cons y ys a=>exact λb z d=>aP (cY b) λc g e f _=>(Np.mp d).elim (λq=>⟨c,q▸e⟩) (a f z)
theorem zN {l:Addr}{vs:List Value}{n:Nat}{xs:List D}{x:D}{a:Value}{bs:List Bool}(j:A.units+8<cLine)(g:s.heap.get? l=some (aR vs n))(r:aq W Mu s.heap xs vs)(k:aC W Mu s.heap x a)(e:(xs.mapM λy=>D.gm 6 y x)=some bs):
  GV W.M A s (call (.builtin "list.count") [.ref l,a]) (λh v=>Rep W Mu h (.int (bs.countP id:Nat)) v):=λQ E K=>by
 refine ak (u7 (A:=A.in1) k (lJ (n:=6) (O2 j))) λf i=>?_
 refine call_meets F.slot_list_count ⟨_,g,rfl⟩ F.entry_list_count (F.args_list_count_2 _ _) (list_countAt l vs.toArray n none #[] a f) ⟨g,λv m=>?_,?_⟩
 .refine af (qF r v (by simpa using m)) λd o rd=>?_
  refine ak (wX e d o) λc p=>?_
  have:=i d v c rd p
  rw[this.1];exact this.2
 .refine(K _ _ (cX s) ?_)
  have:=wW (λd v b rd h=>(i d v b rd h).1) r _ e
  rw[List.toList_toArray,this]
  exact aN
theorem DW (e:D.strs xs=some a)(l:aq W Mu h xs vs):vs.length=a.length/\ ∀(i:Nat) (v:Value),vs[i]?=some v-> ∃t,v=Value.str (a.getD i Str.empty) t:=by
 revert a
 refine l.ind (motive:=λxs vs=>∀{a},D.strs xs=some a->vs.length=a.length/\ ∀(i:Nat) (v:Value),vs[i]?=some v-> ∃t,v=Value.str (a.getD i Str.empty) t) (λe=>MW e▸⟨rfl,λ_ _ h=>ns h⟩) λd c v vs p _ b bs e=>?_
 revert p
 refine Hk e λi f h p=>⟨MY Nat.succ (b h).1,λj=>?_⟩
 cases j with
 |zero=>exact λu q=>MW q▸p
 |succ j=>exact(b h).2 j
theorem zO {l:Addr}{vs:List Value}{n:Nat}{xs:List D}{c:List Str}{x:Str}{t:Tok}{j:Nat}(w:s.heap.get? l=some (aR vs n))(r:aq W Mu s.heap xs vs)(e:D.strs xs=some c)(z:c.idxOf? x=some j)(hsz:c.length<2^40):
  GV W.M A s (call (.builtin "list.index") [.ref l,.str x t]) (λh v=>Rep W Mu h (.int j) v):=λQ E K=>by
 refine au (DW e r) λb1 b2=>?_
 have b:=z
 unfold List.idxOf? at b
 rw[OY] at b
 obtain ⟨d,hp,g⟩:=b
 let f:Value->Bool:=λv=>v.isStr x
 have y:∀(i:Nat) (hi:i<vs.toArray.size),f vs.toArray[i]=(c[i]'(by rw[N1] at hi;lia)==x):=λi hi=>by
  have a:i<vs.length:=by simpa using hi
  refine ak (b2 i vs[i] (Nc a)) λu k=>?_
  have o:vs.toArray[i]=vs[i]:=by simp
  show Value.isStr vs.toArray[i] x=_
  rw[o,k,Nb,Nc (by exact OV a (by assumption))]
  rfl
 refine call_meets F.slot_list_index ⟨_,w,rfl⟩ F.entry_list_index (F.args_list_index_2 _ _) (list_indexAt l vs.toArray n none #[] (.str x t) f j (by rw[N1];exact OV d b1.symm) (by lia) ?_ λm B p=>?_) ⟨w,λv q=>?_,K _ _ (cX s) aN⟩
 .rw[y];exact hp
 .rw[y]
  simpa using g m p
 .obtain ⟨i,hi,rfl⟩:=Array.mem_iff_getElem.mp q
  have a:i<vs.length:=by simpa using hi
  refine ak (b2 i vs[i] (Nc a)) λu k=>?_
  have o:vs.toArray[i]=vs[i]:=by simp
  show EqAt _ _ vs.toArray[i] _ (Value.isStr vs.toArray[i] x)
  rw[o,k]
  exact EqAt.str_str _ u x t
theorem H3 {a b:Int}{t u:Tok}(hh:A.handled=none):GV W.M A s (call (.builtin "min") [.int a t,.int b u]) (λh v=>Rep W Mu h (.int (if b<a then b else a)) v):=λQ E K=>by
 refine min_two_ints hh λc d e=>(K _ _ ⟨c,d,rfl,e⟩ ?_)
 split<;>exact aN
theorem H4 {a b:Int}{t u:Tok}(hh:A.handled=none):GV W.M A s (call (.builtin "max") [.int a t,.int b u]) (λh v=>Rep W Mu h (.int (if b>a then b else a)) v):=λQ E K=>by
 refine max_two_ints hh λc d e=>(K _ _ ⟨c,d,rfl,e⟩ ?_)
 split<;>exact aN
theorem H5 {a:Int}{t:Tok}:GV W.M A s (call (.builtin "abs") [.int a t]) (λh v=>Rep W Mu h (.int (if a<0 then -a else a)) v):=λQ E K=>
 PyProof.Rows.call_abs_int λu b=>(K _ _ (zt s b) aN)
theorem log2_small {a:Int}(h:a.natAbs<2^64):a.natAbs.log2<1920:=by
 by_cases h0:a.natAbs=0
 .rw[h0];decide
 .exact NW ((Nat.log2_lt h0).mpr h) (by decide)
theorem zP {a:Int}{t:Tok}(h:a.natAbs<2^64):GV W.M A s (call (.type "str") [.int a t]) (λh v=>Rep W Mu h (.str (toString a)) v):=λQ E K=>
 P.str_of_int (log2_small h) (K _ _ (cX s) cO)
theorem H6 {a:Int}{t:Tok}(h:a.natAbs<2^60):GV W.M A s (call (.builtin "hex") [.int a t]) (λh v=>Rep W Mu h (.str (gR a)) v):=λQ E K=>
 P.hex_of_int (K _ _ (cX s) cO) (PySem.baseText_under (by decide) (by decide) (by exact av.lu h rfl))
theorem zQ {x d:D}{a:Value}(b:aC W Mu s.heap x a)(e:fN (λ_ _=>none) .jo [x]=some d):GV W.M A s (call (.builtin "isinstance") [a,.type "int"]) (λh v=>Rep W Mu h d v):=λQ E K=>by
 cases x<;>first|exact ns e|skip
 .refine b.gV ?_
  obtain rfl:=MW e
  exact IsiPair.bool_int (K _ _ (aG s) eC)
 .refine b.bG λt=>?_
  obtain rfl:=MW e
  exact IsiPair.int_int (K _ _ (aG s) eC)
theorem zR {x d:D}{a:Value}(b:aC W Mu s.heap x a)(e:fN (λ_ _=>none) .kB [x]=some d):GV W.M A s (call (.builtin "isinstance") [a,.type "tuple"]) (λh v=>Rep W Mu h d v):=λQ E K=>by
 cases x<;>first|exact ns e|skip
 refine b.bG λt=>?_
 obtain rfl:=MW e
 exact IsiPair.int_tuple (K _ _ (cX s) eC)
theorem insI_perm (x:Int)(l:List Int):(insI x l).Perm (x::l):=by
 induction l with
 |nil=>exact .refl _
 |cons y a b=>
  unfold insI
  by_cases h:x<=y
  .rw[M7 h]
  .rw[M8 h];exact(b.cons y).trans (.swap x y a)
theorem sortI_perm (l:List Int):(sortI l).Perm l:=by
 induction l with
 |nil=>exact .refl _
 |cons x b a=>exact(insI_perm x _).trans (a.cons x)
theorem qK (x:Int){l:List Int}(h:l.Pairwise (· <= ·)):(insI x l).Pairwise (· <= ·):=by
 induction h with
 |nil=>exact .cons (λ_ h=>nomatch h) .nil
 |@cons y c b d e=>
  unfold insI
  by_cases h:x<=y
  .rw[M7 h];exact .cons (λz a=>(Np.mp a).elim (λq=>q▸h) λa=>Int.le_trans h (b z a)) (.cons b d)
  .rw[M8 h];exact .cons (λz a=>(Np.mp ((insI_perm x c).mem_iff.mp a)).elim (λq=>q▸Int.le_of_lt (Int.not_le.mp h)) (b z)) e
theorem o8 (l:List Int):(sortI l).Pairwise (· <= ·):=by
 induction l with
 |nil=>exact .nil
 |cons x b a=>exact qK x a
theorem lP {a b:List Int}(p:a.Perm b)(h:a.Pairwise (· <= ·)):a=sortI b:=
 lks_uniq (p.trans (sortI_perm b).symm) h (o8 b)
theorem wY {is:List Int}(i:IntsAre vs is):aq W Mu h (is.map .int) vs:=by
 induction i with
 |nil=>exact aq.nil
 |cons n t r a=>exact aq.cons aN a
theorem wZ {l:Addr}{vs:List Value}{n:Nat}{xs:List D}{is:List Int}(o:Old Mu s.heap)(d:s.heap.get? l=some (aR vs n))(r:aq W Mu s.heap xs vs)(e:D.ints xs=some is)(a:is.length<64):
  GV W.M A s (call (.builtin "sorted") [.ref l]) (λh v=>Rep W Mu h (.list ((sortI is).map .int)) v):=λQ E K=>by
 have hi:=lO e r
 refine sorted_ints (aA d) hi (by rw[hi.length];exact a) λout f g i j=>?_
 refine ak (sortedAll_at s.heap vs out) λc k=>?_
 have p:∀b o,s.heap.get? b=some o->(sortedAll s.heap vs out).get? b=some o:=λ_ _=>sortedAll_old
 refine(K _ _ ⟨_,_,rfl,p⟩ ?_)
 refine .bI (vs:=out.toList) (n:=c) (λm=>?_) (by simpa using k) ?_
 .refine ak (o _ m) λx hx=>?_
  exact Oa _ (O2 (Heap.lt_size hx))
 .rw[<-lP i j]
  exact wY g
end
def aJ (env:Env)(h:Heap)(x:Str)(v:Value):Prop:=
 (env.kindOf x=some .local/\ ∃m,h.Ns env.locals m/\m x=some v)\/
 ((env.kindOf x=some .cell\/env.kindOf x=some .free)/\ ∃c,env.cells.lookup x=some c/\h.IsCell c (some v))
theorem aJ.keeps {a:Heap}{x:Str}{v:Value}(n:aJ env h x v)(k:∀b o,h.get? b=some o->a.get? b=some o):aJ env a x v:=
 n.imp (λq=>⟨q.1,af q.2 λm b c=>⟨m,b.keeps k,c⟩⟩) λq=>⟨q.1,af q.2 λc b d=>⟨c,b,d.keeps k⟩⟩
structure Lay (env:Env):Prop where
 apart:∀n c,env.cells.lookup n=some c->c≠env.locals
 inj:∀n n' c,env.cells.lookup n=some c->env.cells.lookup n'=some c->n=n'
structure jx (sc:Scope)(env:Env):Prop where
 kind:env.scope.kind=.function
 glob:env.globals=mainGlobals
 bi:env.builtins=builtinsNs
 sub:∀x k,sc.names.lookup x=some k->k≠ .free->env.kindOf x=some k
 cells:∀x,sc.names.lookup x=some .cell\/sc.names.lookup x=some .free->(∃c,env.cells.lookup x=some c)/\(env.kindOf x=some .cell\/env.kindOf x=some .free)
 lay:Lay env
def a8 (W:Wd)(R Mu:aD)(h:Heap):List (List D)->List Value->Prop
 |[],c=>c=[]
 |r::e,c=>∃a d n b,c=.ref a::b/\R a/\h.get? a=some (aR d n)/\aq W Mu h r d/\a8 W R Mu h e b
def bj (W:Wd)(R Mu:aD)(h:Heap):Slot->Value->Prop
 | .val d,v=>Rep W Mu h d v
 | .own d,v=>aC W Mu h d v/\(∀a,v=.ref a->R a)/\((∃e,d=.list e)\/(∃f b,d=.dict f b))
 | .rows g,v=>∃a b n,v=.ref a/\R a/\h.get? a=some (aR b n)/\a8 W R Mu h g b/\b.Nodup/\Value.ref a∉b
 | .obj fs,v=>∃a c b,v=.ref a/\R a/\h.get? a=some (instObj W.cls c)/\(R c/\c<a)/\h.DictOf (strKind W.prog W.w) c (bE.zip b)/\b.length<=5/\aq W Mu h fs b
 | .ext e,v=>∃a b n,v=.ref a/\R a/\h.get? a=some (aR b n)/\aq W Mu h e b
 | .raw u,v=>v=u
def View (W:Wd)(aE:List Str)(env:Env)(R:Nat->aD)(Mu:aD)(h:Heap)(Z:St):Prop:=
 ∀i sl,Z i=some sl-> ∃x v,aE[i]?=some x/\aJ env h x v/\bj W (R i) Mu h sl v
theorem aC.J2 {W:Wd}{c:aD}{f:Heap}{d:D}{v:Value}{R:aD}(F:Fz Mu h c f)(G:∀b o,R b->h.get? b=some o->f.get? b=some o)(i:∀a,v=.ref a->R a)(j:(∃xs,d=.list xs)\/(∃ks vs,d=.dict ks vs))(r:aC W Mu h d v):aC W c f d v:=by
 cases d with
 |list k=>exact jn r λa vs n e g l=>⟨a,vs,n,e,G _ _ (i a e) g,l.move F⟩
 |dict ks k=>exact jY r λa vs e y g q l=>⟨a,vs,e,y,bl g (λo x=>G _ _ (i a e) x),q,l.move F⟩
 |_=>exact j.elim (λq=>ak q λ_ e=>ze (MY dk e) rfl) λq=>eZ q λ_ _ e=>ze (MY dk e) rfl
section
variable {W:Wd}{R R' Mu Mu':aD}{h h':Heap}{r:List D}{rs:List (List D)}{vs:List Value}
theorem a8.nil:a8 W R Mu h [] []:=rfl
theorem a8.cons {a:Addr}{b:List Value}{n:Nat}(x:R a)(g:h.get? a=some (aR b n))(l:aq W Mu h r b)(q:a8 W R Mu h rs vs):a8 W R Mu h (r::rs) (.ref a::vs):=by exact⟨a,b,n,vs,rfl,x,g,l,q⟩
@[elab_as_elim] theorem a8.kT {motive:List Value->Prop} (q:a8 W R Mu h [] vs) (k:motive []):motive vs:=(show vs=[] from q)▸k
@[elab_as_elim] theorem a8.eB {motive:List Value->Prop} (q:a8 W R Mu h (r::rs) vs) (k:∀a b n c,R a->h.get? a=some (aR b n)->aq W Mu h r b->a8 W R Mu h rs c->motive (.ref a::c)):motive vs:=DK q λa b n c e x g l q=>e▸k a b n c x g l q
@[elab_as_elim] theorem a8.ind {motive:List (List D)->List Value->Prop} (q:a8 W R Mu h rs vs) (n:motive [] []) (k:∀r rs a b n vs,R a->h.get? a=some (aR b n)->aq W Mu h r b->a8 W R Mu h rs vs->motive rs vs->motive (r::rs) (.ref a::vs)):motive rs vs:=by
 induction rs generalizing vs with
 |nil=>exact q.kT n
 |cons r rs c=>exact q.eB λa b m d x g l q=>k r rs a b m d x g l q (c q)
theorem a8.move (F:Fz Mu h Mu' h')(G:∀b o,R b->h.get? b=some o->h'.get? b=some o)(S:∀b,R b->R' b)(q:a8 W R Mu h rs vs):a8 W R' Mu' h' rs vs:=
 q.ind a8.nil λ_ _ _ _ _ _ x g l _ q=>.cons (S _ x) (G _ _ x g) (l.move F) q
end
theorem bj.move {W:Wd}{R c:aD}{i:Heap}{sl:Slot}{v:Value}(F:Fz Mu h c i)(G:∀b o,R b->h.get? b=some o->i.get? b=some o)(S:∀b,R b->j b)(r:bj W R Mu h sl v):bj W j c i sl v:=by
 cases sl with
 |val d=>exact Rep.move F r
 |own d=>exact⟨r.1.J2 F G r.2.1 r.2.2,λa e=>S _ (r.2.1 a e),r.2.2⟩
 |rows m=>exact dX r λa f n e hr g q=>⟨a,f,n,e,S _ hr,G _ _ hr g,q.1.move F G S,q.2⟩
 |obj fs=>exact lC r λa k f e hr g hx q l=>⟨a,k,f,e,S _ hr,G _ _ hr g,⟨S _ hx.1,hx.2⟩,bl q (λo x=>G _ _ hx.1 x),l.1,l.2.move F⟩
 |ext p=>exact dX r λa f n e hr g q=>⟨a,f,n,e,S _ hr,G _ _ hr g,q.move F⟩
 |raw u=>exact r
theorem View.move {W:Wd}{aE:List Str}{R g:Nat->aD}{d:aD}{f:Heap}{Z:St}(F:Fz Mu h d f)(G:∀i b o,R i b->h.get? b=some o->f.get? b=some o)(S:∀i b,R i b->g i b)(N:∀i x v,Z i≠none->aE[i]?=some x->aJ env h x v->aJ env f x v)(V:View W aE env R Mu h Z):View W aE env g d f Z:=λi sl e=>
 aP (V i sl e) λx v a b c=>⟨x,v,a,N i x v (e▸Option.some_ne_none _) a b,c.move F (G i) (S i)⟩
theorem View.keeps {W:Wd}{aE:List Str}{R:Nat->aD}{h a:Heap}{Z:St}(k:∀b o,h.get? b=some o->a.get? b=some o)(V:View W aE env R Mu h Z):View W aE env R Mu a Z:=
 V.move (Fz.keep k) (λ_ b o _=>k b o) (λ_ _ x=>x) λ_ _ _ _ _ n=>n.keeps k
noncomputable def lQ (aE:List Str):Bool:=(aE.all λx=> !(x==("__debug__":Str))&& !(x==("__classdict__":Str)))&&decide aE.Nodup
structure fh (env:Env)(h:Heap):Prop where
 ns:∃m,h.Ns env.locals m
 cells:∀n c,env.cells.lookup n=some c-> ∃v,h.IsCell c v
theorem fh.keeps {a:Heap}(x:fh env h)(k:∀b o,h.get? b=some o->a.get? b=some o):fh env a:=
 ⟨ak x.ns λm e=>⟨m,e.keeps k⟩,λn c e=>ak (x.cells n c e) λv q=>⟨v,q.keeps k⟩⟩
structure Cx (W:Wd)(aE:List Str)(sc:Scope)(env:Env)(R:Nat->aD)(Mu:aD)(Z:St)(A:Around)(l:Nat)(s:Shared):Prop where
 ok:jx sc env
 base:∀b o,W.h0.get? b=some o->s.heap.get? b=some o
 old:Old Mu s.heap
 sub:∀i b,R i b->Mu b
 above:∀b,Mu b->W.h0.get? b=none
 view:View W aE env R Mu s.heap Z
 good:Good A l
 tb:lQ aE=true
 live:fh env s.heap
theorem Cx.keep {W:Wd}{aE:List Str}{sc:Scope}{R:Nat->aD}{Z:St}{A:Around}{l:Nat}{s:Shared}(c:Cx W aE sc env R Mu Z A l s)(k:Keeps s s'):Cx W aE sc env R Mu Z A l s':=
 ⟨c.ok,λb o e=>ag k b o (c.base b o e),c.old.keep (ag k),c.sub,c.above,c.view.keeps (ag k),c.good,c.tb,c.live.keeps (ag k)⟩
section
variable {W:Wd}{A:Around}{E:Value->Shared->Prop}{s:Shared}{env:Env}{aE:List Str}{sc:Scope}{R:Nat->aD}{Mu:aD}{Z:St}{l:Nat}
theorem o9 (h:lQ aE=true){i:Nat}{x:Str}(e:aE[i]?=some x):(x==("__debug__":Str))=false/\(x==("__classdict__":Str))=false:=by
 have:=Nx.mp (M9.mp h).1 x (Nw e)
 simpa using this
theorem pg (h:lQ aE=true):aE.Nodup:=Nr (M9.mp h).2
theorem jy {x:Str}{pos:Pos}{v:Value}{Q:Value->Shared->Prop}(e:env.scope.kind=.function)(n:aJ env s.heap x v)(f:(x==("__debug__":Str))=false)(h:(x==("__classdict__":Str))=false)(g:Q v s):
  wpAny W.M A (eval (.Name x pos) env) Q E s:=by
 rcases n with ⟨a,m,i,d⟩|⟨a|a,c,b,d⟩
 .exact wpAny_Name (wpAny_loadName_local e a i d g) f
 .exact wpAny_Name (wpAny_loadName_cell e a b d g) f
 .exact wpAny_Name (wpAny_loadName_free e a b d g h) f
theorem nA {x:Str}{v:Value}{Q:Value->Shared->Prop}(e:env.scope.kind=.function)(n:aJ env s.heap x v)(g:(x==("__classdict__":Str))=false)(f:Q v s):
  wpAny W.M A (loadName env x) Q E s:=by
 rcases n with ⟨a,m,h,d⟩|⟨a|a,c,b,d⟩
 .exact wpAny_loadName_local e a h d f
 .exact wpAny_loadName_cell e a b d f
 .exact wpAny_loadName_free e a b d f g
theorem cz {aE:List Str}{x:Str}{i:Nat}(h:aE.idxOf? x=some i):aE[i]?=some x:=by
 rw[List.idxOf?,OY] at h
 exact af h λa b _=>(Nc a).trans (MY some (eq_of_beq b))
theorem j5 {i:Nat}{sl:Slot}{x:Str}{Q:Value->Shared->Prop}(C:Cx W aE sc env R Mu Z A l s)(hi:aE.idxOf? x=some i)(e:Z i=some sl)(h:∀v,bj W (R i) Mu s.heap sl v->Q v s):
  wpAny W.M A (eval (.Name x pos) env) Q E s:=
 aP (C.view i sl e) λy v a n r=>have q:=o9 C.tb (cz hi);jy C.ok.kind (MW (a.symm.trans (cz hi))▸n) q.1 q.2 (h v r)
theorem jz {x:Str}{pos:Pos}{v:Value}{Q:Value->Shared->Prop}(C:Cx W aE sc env R Mu Z A l s)(hg:W.h0.Ns mainGlobals W.mg)(hx:sc.names.lookup x=some .globalImplicit)(a:W.mg x=some v)(b:(x==("__debug__":Str))=false)(h:Q v s):
  wpAny W.M A (eval (.Name x pos) env) Q E s:=
 Calls.Name_function_global C.ok.kind (C.ok.sub x _ hx (by decide)) (Calls.loadGlobal_global (by rw[C.ok.glob];exact hg.keeps C.base) a h) b
theorem fX {x:Str}{pos:Pos}{v:Value}{Q:Value->Shared->Prop}(C:Cx W aE sc env R Mu Z A l s)(hg:W.h0.Ns mainGlobals W.mg)(hb:W.h0.Ns builtinsNs W.mb)(hx:sc.names.lookup x=some .globalImplicit)(hn:W.mg x=none)(a:W.mb x=some v)(b:(x==("__debug__":Str))=false)(h:Q v s):wpAny W.M A (eval (.Name x pos) env) Q E s:=
 Calls.Name_function_global C.ok.kind (C.ok.sub x _ hx (by decide)) (Calls.loadGlobal_builtin (by rw[C.ok.glob];exact hg.keeps C.base) hn (by rw[C.ok.bi];exact hb.keeps C.base) a h) b
end
def fE (W:Wd)(Mu:aD)(h:Heap):List D->List Value->Prop
 |[],a=>a=[]
 |d::b,a=>∃v r,a=v::r/\aC W Mu h d v/\fE W Mu h b r
section
variable {W:Wd}{Mu:aD}{h h':Heap}{d:D}{ds:List D}{v:Value}{vs:List Value}
theorem fE.cons (a:aC W Mu h d v)(b:fE W Mu h ds vs):fE W Mu h (d::ds) (v::vs):=by exact⟨v,vs,rfl,a,b⟩
@[elab_as_elim] theorem fE.eB {motive:List Value->Prop} (r:fE W Mu h (d::ds) vs) (k:∀v c,aC W Mu h d v->fE W Mu h ds c->motive (v::c)):motive vs:=aP r λv c e a b=>e▸k v c a b
end
noncomputable def fF:List (Str×Value):=[("len",.builtin "len"),("sum",.builtin "sum"),("list",.type "list"),("tuple",.type "tuple"),("min",.builtin "min"),("max",.builtin "max"),("abs",.builtin "abs"),("str",.type "str"),("hex",.builtin "hex"),("all",.builtin "all"),("sorted",.builtin "sorted"),("isinstance",.builtin "isinstance"),("int",.type "int"),("range",.type "range"),("enumerate",.type "enumerate"),("zip",.type "zip")]
def fR (W:Wd)(a:Value):Prop:= ∀h:Heap,(∀b o,W.h0.get? b=some o->h.get? b=some o)-> ∃k,(k=Keeper.frame\/k=Keeper.machine\/k=Keeper.boundFrame)/\Looks W.M h (keeperOf a) k
structure gX (W:Wd):Prop where
 g:W.h0.Ns mainGlobals W.mg
 b:W.h0.Ns builtinsNs W.mb
 bi:∀p∈fF,W.mg p.1=none/\W.mb p.1=some p.2
 JK:W.K.In W.h0
 keep:∀f fv,W.fn f=some fv->fR W fv
 J3:∀x k,tc.lookup x=some k-> ∃fv,W.mg x=some fv/\W.fn k=some fv
 dY:∀x k,meths.lookup x=some k-> ∃f,W.fn k=some (.ref f)/\findIn W.K (.ref W.cls) x=some (some (.ref f))/\isFn W.K (.ref f)=true/\plainGet W.K W.cls x=true
 dict:hasDictIn W.K W.cls=true
 J4:W.mg "Whitespace"=some (.ref W.cls)
 J5:∀p∈[(("S":Str),(" ":Str)),("T","\t")], ∃mc t,readsIn W.K W.cls mc=true/\findCls W.K (.ref W.cls) mc p.1=some (.val (.str p.2 t))
 at_:∀x∈bE,plainGet W.K W.cls x=true/\ ∃a,findIn W.K (.ref W.cls) x=some a/\noGet W.K a=true
 flags:∃a f,W.mg "COMPILER_FLAG_NAMES"=some (.ref a)/\(a==sysModules)=false/\W.h0.MapOf (intKind W.prog W.w) a f/\
  ∀k,match dE.lookup k with
   |some n=>∃t,f k=some (.str (Str.ofString n) t)
   |none=>f k=none
section
variable {W:Wd}{A:Around}{s:Shared}{Mu:aD}
def en (W:Wd)(Mu:aD)(h:Heap)(t:dj)(d:D)(v:Value):Prop:=match t with
 | .one _=>Rep W Mu h d v
 | .many _=>∀a b,d=.tup [a,b]-> ∃T c vb,v=.ref T/\h.IsTuple T #[c,vb]/\Rep W Mu h a c/\Rep W Mu h b vb
inductive aY:dj->Expr->Prop
 |one {x:Nat}{n:Str}{p:Pos}:aY (.one x) (.Name n p)
 |many {xs:List Nat}{es:List Expr}{k:Nat}{p:Pos}:aY (.many xs) (.Tuple es k p)
inductive gY (W:Wd)(A:Around)(t:dj)(target:Expr)(Mu:aD)(fz:Prop)(ds:List D)(s0:Shared)(it:Value)(s:Shared):Prop
 |mk {I:Addr}{fp wr:List Addr}{n:Nat}{P Md:Nat->Value->Heap->Prop}{St:Nat->Heap->Prop}(ei:it=.ref I)(hn:n=ds.length)(KT:KTurns W.prog W.w A target I fp wr n P Md St)(st:St 0 s.heap)
  (sl:∀j h,St j h-> ∀b∈fp, ∃o,h.get? b=some o)(self:∀j (s:Shared)(Q:Value->Shared->Prop)(E:Value->Shared->Prop),St j s.heap->Q (.ref I) s->wpAny W.M A (pyIter (.ref I)) Q E s)(hwr:∀b∈wr,s0.heap.get? b=none)(hfz:fz-> ∀b∈fp, ¬Mu b)
  (items:∀i d v h Mu',ds[i]?=some d->Fz Mu s0.heap Mu' h->P i v h->en W Mu' h t d v):gY W A t target Mu fz ds s0 it s
end
noncomputable abbrev UT:=Nat->List D->Option D
def J6 (W:Wd)(U:UT)(l:Nat):Prop:= ∀f c,W.fn f=some c-> ∀(A:Around) (s:Shared) (a:aD) (e:List D) (g:List Value) (d:D),Good A l->
 (∀b o,W.h0.get? b=some o->s.heap.get? b=some o)->Old a s.heap->(∀b,a b->W.h0.get? b=none)->aq W a s.heap e g->U f e=some d->GV W.M A s (call c g) (λh v=>Rep W a h d v)
section
variable {W:Wd}{U:UT}{n l:Nat}
structure bF (W:Wd)(U:UT)(l n:Nat):Prop where
 e:∀{c:CT} {k:Nat} {sc:Scope} {e:Expr} {me:ME} {A:Around} {s:Shared} {env:Env} {R:Nat->aD} {Mu:aD} {Z:St} {d:D},
  (cm c k).e sc e=some me->(ev U n).m Z me=some d->Cx W c.aE sc env R Mu Z A l s->GV W.M A s (eval e env) (λh v=>Rep W Mu h d v)
 f:∀{c:CT} {k:Nat} {sc:Scope} {e:Expr} {me:ME} {A:Around} {s:Shared} {env:Env} {R:Nat->aD} {Mu:aD} {Z:St} {d:D},
  (cm c k).e sc e=some me->dq me=true->(ev U n).m Z me=some d->Cx W c.aE sc env R Mu Z A l s->GV W.M A s (eval e env) (λh v=>Rep W Mu h d v/\ ∀a,v=.ref a->s.heap.get? a=none)
 v:∀{c:CT} {k:Nat} {sc:Scope} {e:Expr} {me:ME} {A:Around} {s:Shared} {env:Env} {R:Nat->aD} {Mu:aD} {Z:St} {d:D},
  (cm c k).e sc e=some me->(ev U n).v Z me=some d->Cx W c.aE sc env R Mu Z A l s->GV W.M A s (eval e env) (λh v=>aC W Mu h d v)
 vf:∀{c:CT} {k:Nat} {sc:Scope} {e:Expr} {me:ME} {A:Around} {s:Shared} {env:Env} {R:Nat->aD} {Mu:aD} {Z:St} {d:D},
  (cm c k).e sc e=some me->(ev U n).v Z me=some d->noOwn Z me=true->Cx W c.aE sc env R Mu Z A l s->GV W.M A s (eval e env) (λh v=>Rep W Mu h d v)
 t:∀{c:CT} {k:Nat} {sc:Scope} {e:Expr} {me:ME} {A:Around} {s:Shared} {env:Env} {R:Nat->aD} {Mu:aD} {Z:St} {b:Bool},
  (cm c k).e sc e=some me->(ev U n).t Z me=some b->Cx W c.aE sc env R Mu Z A l s->GV W.M A s (isTrue e env (eval e env)) (λ_ x=>x=b)
 i:∀{c:CT} {k:Nat} {sc:Scope} {e:Expr} {me:ME} {A:Around} {s:Shared} {env:Env} {R:Nat->aD} {Mu:aD} {Z:St} {t:dj} {target:Expr} {ds:List D} (E:Value->Shared->Prop),
  (cm c k).i sc e=some me->(ev U n).i Z t me=some ds->aY t target->Cx W c.aE sc env R Mu Z A l s->
  wpAny W.M A (eval e env) (λx s1=>Keeps s s1/\wpAny W.M A (pyIter x) (λit s2=>Keeps s1 s2/\ ∃sm,Keeps s sm/\Keeps sm s2/\gY W A t target Mu (noOwn Z me=true) ds sm it s2) E s1) E s
section
variable {A:Around}{E:Value->Shared->Prop}{s:Shared}{env:Env}{c:CT}{k:Nat}{sc:Scope}{R:Nat->aD}{Mu:aD}{Z:St}
theorem bq {e:Expr}(h:(cm c k).e sc e=some a):∀x p,e≠ .Starred x p:=by
 rintro x p rfl
 cases k<;>cases h
theorem aT {e:Expr}{rest:List Expr}(h:∀x p,e≠ .Starred x p):starEach (e::rest) env=(false,eval e env)::starEach rest env:=by
 cases e<;>first|rfl|exact absurd rfl (h _ _)
theorem dP {a b:Type}{f:a->Option b}{x:a}{xs:List a}{r:List b}(h:ah f (x::xs)=some r):∃y ys,r=y::ys/\f x=some y/\ah f xs=some ys:=by
 have h:(match f x,ah f xs with
  |some y,some ys=>some (y::ys)
  |_,_=>none)=some r:=h
 revert h
 generalize f x=o
 generalize ah f xs=p
 intro h
 cases o with
 |none=>exact ns h
 |some c=>
  cases p with
  |none=>exact ns h
  |some d=>exact⟨c,d,(MW h).symm,rfl,rfl⟩
@[elab_as_elim] theorem bZ {a b:Type}{f:a->Option b}{x:a}{xs:List a}{r:List b}{motive:List b->Prop} (h:ah f (x::xs)=some r) (k:∀y ys,f x=some y->ah f xs=some ys->motive (y::ys)):motive r:=
 aP (dP h) λy ys e p q=>e▸k y ys p q
theorem gZ {d e:Type}{f:d->Option e}{x:d}{xs:List d}{r:List e}(h:(x::xs).mapM f=some r):∃y ys,r=y::ys/\f x=some y/\xs.mapM f=some ys:=aP (cY h) λy ys a b c=>⟨y,ys,c.symm,a,b⟩
@[elab_as_elim] theorem ve {d e:Type}{f:d->Option e}{x:d}{xs:List d}{r:List e}{motive:List e->Prop} (h:(x::xs).mapM f=some r) (k:∀y ys,f x=some y->xs.mapM f=some ys->motive (y::ys)):motive r:=
 aP (cY h) λy ys a b c=>c▸k y ys a b
@[elab_as_elim] theorem cq {d:Type}{a b:d}{motive:d->Prop} (h:some a=some b) (k:motive a):motive b:=MW h▸k
theorem j6 (i:bF W U l n):∀{mes:List ME}{ds:List D}{s:Shared},ah ((cm c k).e sc) es=some mes->mes.mapM ((ev U n).m Z)=some ds->Cx W c.aE sc env R Mu Z A l s->
  GV W.M A s (spliced (backTo pos (starEach es env))) (λh vs=>aq W Mu h ds vs):=by
 induction es with
 |nil=>
  intro mes ds s h
  refine cq h λa=>?_
  exact cq a λC Q E K=>Calls.spliced_nil (K _ _ (aG s) aq.nil)
 |cons e es j=>
  intro mes ds s h
  refine bZ h λt mes b m a=>ve a λd ds o p C Q E K=>?_
  rw[aT (bq b)]
  exact Calls.spliced_cons ((i.e b o C).use λv s1 f q=>(j m p (C.keep f)).use λvs u g r=>K _ _ (ai f g) (.cons (q.move (Fz.keep (ag g))) r))
theorem lR (i:bF W U l n):∀{mes:List ME}{ds:List D}{s:Shared},ah ((cm c k).e sc) es=some mes->mes.mapM ((ev U n).v Z)=some ds->Cx W c.aE sc env R Mu Z A l s->
  GV W.M A s (spliced (backTo pos (starEach es env))) (λh vs=>fE W Mu h ds vs):=by
 induction es with
 |nil=>
  intro mes ds s h
  refine cq h λa=>?_
  exact cq a λC Q E K=>Calls.spliced_nil (K _ _ (aG s) rfl)
 |cons e es j=>
  intro mes ds s h
  refine bZ h λt mes b m a=>ve a λd ds o p C Q E K=>?_
  rw[aT (bq b)]
  exact Calls.spliced_cons ((i.v b o C).use λv s1 f q=>(j m p (C.keep f)).use λvs u g r=>K _ _ (ai f g) (.cons (q.keep (ag g)) r))
theorem fY {s:Shared}(k:Keeps s s'):s.heap.get? s'.heap.objs.size=none:=by
 cases e:s.heap.get? s'.heap.objs.size with
 |none=>rfl
 |some o=>exact absurd (Heap.lt_size (ag k _ _ e)) (Oa _)
theorem kF {d e:Type}{f:d->Option e}{xs:List d}:∀{r:List e},xs.mapM f=some r->r.length=xs.length:=by
 induction xs with
 |nil=>exact λh=>MW h▸rfl
 |cons x xs g=>exact λh=>aP (cY h) λy i a b c=>c▸MY Nat.succ (g b)
theorem zS {n m:Nat}(h:n<64)(e:m=n):m<=2^24:=e▸M4 (ND h) (by decide)
theorem nS (g:bF W U l n)(i:ah ((cm c k).e sc) es=some mes)(d:mes.mapM ((ev U n).m Z)=some ds)(j:mes.length<64)(C:Cx W c.aE sc env R Mu Z A l s):
  GV W.M A s (eval (.List es pos) env) (λh v=>Rep W Mu h (.list ds) v/\ ∀a,v=.ref a->s.heap.get? a=none):=λQ E K=>by
 refine wpAny_List ((j6 g i d C).use λm s1 b f=>⟨zS j (f.length.symm.trans (kF d)),?_⟩)
 exact K _ _ (ai b (ff s1 _)) ⟨fC (C.keep b).old f,λ_ e=>Value.ref.inj e▸fY b⟩
theorem zT (e:bF W U l n){f:Nat}(g:ah ((cm c k).e sc) es=some mes)(a:mes.mapM ((ev U n).m Z)=some ds)(i:mes.length<64)(C:Cx W c.aE sc env R Mu Z A l s):
  GV W.M A s (eval (.Tuple es f pos) env) (λh v=>Rep W Mu h (.tup ds) v):=λQ E K=>by
 refine wpAny_Tuple ((j6 e g a C).use λj s1 b d=>⟨zS i (d.length.symm.trans (kF a)),?_⟩)
 exact(K _ _ (ai b (ff s1 _)) (jd (C.keep b).old d))
theorem zU (i:bF W U l n){b:Expr}{mb:ME}{x d:D}(m:(cm c k).e sc a=some j)(o:(cm c k).e sc b=some mb)(p:(ev U n).v Z j=some x)(q:(ev U n).v Z mb=some y)(e:D.bin op x y=some d)(C:Cx W c.aE sc env R Mu Z A l s):GV W.M A s (eval (.BinOp a op b pos) env) (λh v=>Rep W Mu h d v):=λQ E K=>by
 refine wpAny_BinOp ((i.v m p C).use λv s1 f r=>(i.v o q (C.keep f)).use λu F g t=>?_)
 refine(HW (C.keep (ai f g)).old (r.keep (ag g)) t e).use λw G z B=>(K _ _ (ai f (ai g z)) B)
theorem xc (j:bF W U l n){a b:Expr}{m mb:ME}{x d:D}(q:(cm c k).e sc a=some m)(r:(cm c k).e sc b=some mb)(t:(ev U n).v Z m=some x)(z:(ev U n).v Z mb=some y)(hx:∃xs,x=.list xs)(e:D.bin op x y=some d)(C:Cx W c.aE sc env R Mu Z A l s):GV W.M A s (eval (.BinOp a op b pos) env) (λh v=>Rep W Mu h d v/\ ∀a,v=.ref a->s.heap.get? a=none):=λQ E K=>by
 refine ak hx λxs i=>?_;subst i
 refine wpAny_BinOp ((j.v q t C).use λv s1 f B=>(j.v r z (C.keep f)).use λu I g F=>?_)
 refine(wO (C.keep (ai f g)).old (B.keep (ag g)) F e).use λw J G p=>(K _ _ (ai f (ai g G)) ⟨p.1,λa H=>?_⟩)
 cases e:s.heap.get? a with
 |none=>rfl
 |some o=>exact ns ((p.2 a H).symm.trans (ag (ai f g) _ _ e))
theorem zV (d:bF W U l n){b:ME}{i:Int}(e:(cm c k).e sc a=some b)(f:(ev U n).m Z b=some (.int i))(C:Cx W c.aE sc env R Mu Z A l s):
  GV W.M A s (eval (.UnaryOp .USub a pos) env) (λh v=>Rep W Mu h (.int (-i)) v):=λQ E K=>by
 refine wpAny_UnaryOp ((d.e e f C).use λv s1 g j=>?_)
 refine j.view.bG λt=>?_
 exact P.neg_int (K _ _ (ai g (cX s1)) aN)
theorem DX {p q:Prop}(h:q):if false=true then p else q:=h
theorem DY {p q:Prop}(h:p):if true=true then p else q:=h
theorem DZ {r:Ev}{b:ME}{d:D}(h:cV U r Z (.and a b)=some d):∃q,r.m Z a=some (.bool q)/\cond q (r.m Z b) (some (.bool false))=some d:=by
 refine af (ob (o:=r.m Z a) h) λx f e=>?_
 cases x with
 |bool q=>cases q<;>exact⟨_,f,e⟩
 |_=>exact ns e
theorem H7 {r:Ev}{b:ME}{d:D}(h:cV U r Z (.or a b)=some d):∃q,r.m Z a=some (.bool q)/\cond q (some (.bool true)) (r.m Z b)=some d:=by
 refine af (ob (o:=r.m Z a) h) λx f e=>?_
 cases x with
 |bool q=>cases q<;>exact⟨_,f,e⟩
 |_=>exact ns e
theorem zW (g:bF W U l n){b:Expr}{i mb:ME}{d:D}(j:(cm c k).e sc a=some i)(m:(cm c k).e sc b=some mb)(e:cV U (ev U n) Z (.and i mb)=some d)(C:Cx W c.aE sc env R Mu Z A l s):
  GV W.M A s (eval (.BoolOp .And [a,b] pos) env) (λh v=>Rep W Mu h d v):=λQ E K=>by
 refine af (DZ e) λq o e=>?_
 refine BoolOp_and ((g.e j o C).use λv s1 f p=>?_)
 refine p.view.gV ?_
 refine wpAny_truthy_bool ?_
 cases q with
 |false=>
  obtain rfl:=MW e
  exact DX (K _ _ f eC)
 |true=>exact DY (BoolOp_one ((g.e m e (C.keep f)).use λu w r t=>K _ _ (ai f r) t))
theorem D1 (g:bF W U l n){b:Expr}{i mb:ME}{d:D}(j:(cm c k).e sc a=some i)(m:(cm c k).e sc b=some mb)(e:cV U (ev U n) Z (.or i mb)=some d)(C:Cx W c.aE sc env R Mu Z A l s):
  GV W.M A s (eval (.BoolOp .Or [a,b] pos) env) (λh v=>Rep W Mu h d v):=λQ E K=>by
 refine af (H7 e) λq o e=>?_
 refine BoolOp_or ((g.e j o C).use λv s1 f p=>?_)
 refine p.view.gV ?_
 refine wpAny_truthy_bool ?_
 cases q with
 |true=>
  obtain rfl:=MW e
  exact DY (K _ _ f eC)
 |false=>exact DX (BoolOp_one ((g.e m e (C.keep f)).use λu w r t=>K _ _ (ai f r) t))
theorem lS {e:Expr}(h:(cm c k).e sc e=some a):behindInMarks op e=false:=by
 cases e<;>first|rfl|(cases k<;>cases h)
theorem zX (d:bF W U l n){b:Expr}{f mb:ME}{x:D}(m:(cm c k).e sc a=some f)(g:(cm c k).e sc b=some mb)(o:(ev U n).v Z f=some x)(p:(ev U n).v Z mb=some y)(e:D.cmp op x y=some q)(C:Cx W c.aE sc env R Mu Z A l s):GV W.M A s (eval (.Compare a [op] [b] pos) env) (λh v=>v=.bool q):=λQ E K=>by
 refine wpAny_Compare1 ((d.v m o C).use λv s1 i r=>(d.v g p (C.keep i)).use λu F j t=>?_) (lS g)
 refine(zG (r.keep (ag j)) t (M5 (Ov (by decide) _) C.good.room) e).use λw G z B=>(K _ _ (ai i (ai j z)) B)
theorem zY (g:bF W U l n){t b:Expr}{mt m mb:ME}{d:D}(h0:(cm c k).e sc t=some mt)(p:(cm c k).e sc a=some m)(r:(cm c k).e sc b=some mb)(e:cV U (ev U n) Z (.ite mt m mb)=some d)(C:Cx W c.aE sc env R Mu Z A l s):GV W.M A s (eval (.IfExp t a b pos) env) (λh v=>Rep W Mu h d v):=λQ E K=>by
 refine af (ob (o:=(ev U n).t Z mt) e) λq w e=>?_
 refine IfExp_ ((g.t h0 w C).use λx s1 f y=>?_)
 subst y
 cases x with
 |true=>exact DY ((g.e p e (C.keep f)).use λu z i j=>K _ _ (ai f i) j)
 |false=>exact DX ((g.e r e (C.keep f)).use λu z i j=>K _ _ (ai f i) j)
end
end
section
variable {W:Wd}{U:UT}{n l:Nat}{A:Around}{E:Value->Shared->Prop}{s:Shared}{env:Env}{c:CT}{k:Nat}{sc:Scope}{R:Nat->aD}{Mu:aD}{Z:St}
theorem aC.Hl {xs:List D}{v:Value}(r:aC W Mu s.heap (.list xs) v):s.TypeIs v "list":=r.bp λ_ _ _ g _=>(aA g).typeIs
theorem aC.J7 {xs:List D}{v:Value}(r:aC W Mu s.heap (.tup xs) v):s.TypeIs v "tuple":=r.tupK λ_ _ _ _ g _=>⟨_,g,rfl⟩
theorem aC.J8 {ks:List Str}{xs:List D}{v:Value}(r:aC W Mu s.heap (.dict ks xs) v):s.TypeIs v "dict":=r.dO λ_ _ _ g _ _=>g.typeIs
theorem aC.LZ {x:Str}{v:Value}(r:aC W Mu s.heap (.str x) v):s.TypeIs v "str":=r.fB λ_=>typeIs_str _ _ _
theorem zZ {value slice:Expr}{x d i:D}{b:Value}{g:List Value}{Q:Value->Shared->Prop}(f:aC W Mu s.heap x a)(e:D.index x i=some d)(hs:subscripted slice false a b=operate g (getItem a b))(h:wpAny W.M A (getItem a b) Q E s):wpAny W.M A (subscriptTail value slice a b) Q E s:=by
 have p:=Hi e
 clear e
 induction p with
 |list=>exact tail_any f.Hl slot_list_getitem.lookup h hs
 |tup=>exact tail_any f.J7 slot_tuple_getitem.lookup h hs
 |dict=>exact tail_any f.J8 PySem.slot_dict_getitem.lookup h hs
 |str=>exact tail_any f.LZ slot_str_getitem.lookup h hs
theorem z0 {value slice:Expr}{x d:D}{lo hi st:Option Int}{b:Value}{f:List Value}{Q:Value->Shared->Prop}(g:aC W Mu s.heap x a)(e:D.slice x lo hi st=some d)(hs:subscripted slice false a b=operate f (getItem a b))(h:wpAny W.M A (getItem a b) Q E s):wpAny W.M A (subscriptTail value slice a b) Q E s:=by
 have p:=Hj e
 clear e
 induction p with
 |list=>exact tail_any g.Hl slot_list_getitem.lookup h hs
 |tup=>exact tail_any g.J7 slot_tuple_getitem.lookup h hs
theorem z3 {e:Expr}{d:ME}(h:(cm c k).e sc e=some d):∀a b st p,e≠ .Slice a b st p:=by
 rintro a b st p rfl
 cases k<;>cases h
theorem z4 (g:bF W U l n){i:Expr}{m:ME}{x d:D}(t:(cm c k).e sc a=some j)(o:(cm c k).e sc i=some m)(z:(ev U n).v Z j=some x)(B:(ev U n).m Z m=some y)(e:D.index x y=some d)(C:Cx W c.aE sc env R Mu Z A l s):GV W.M A s (eval (.Subscript a i pos) env) (λh v=>Rep W Mu h d v):=λQ E K=>by
 refine Subscript_ ((g.v t z C).use λv s1 q r=>(g.e o B (C.keep q)).use λu I f F=>?_)
 refine zZ (r.keep (ag f)) e (j3 λa b p=>z3 o a b none p) ?_
 exact(tj (r.keep (ag f)) F.view e).use λw J G H=>(K _ _ (ai q (ai f G)) H)
theorem j7 (m:bF W U l n){o:Option Expr}{b:Option Int}{Q:Value->Shared->Prop}(f:j0 (cm c k) sc o=some a)(g:fO (ev U n) Z a=some b)(C:Cx W c.aE sc env R Mu Z A l s)(h:∀v s',Keeps s s'->IsPart v b->Q v s'):wpAny W.M A (evalPart o env) Q E s:=by
 cases o with
 |none=>
  obtain rfl:=MW f
  obtain rfl:=MW g
  exact wpAny_evalPart_none (h _ _ (aG s) .none)
 |some e=>
  refine af (om f) λp r q=>?_
  subst q
  refine af (ob (o:=(ev U n).m Z p) g) λd u j=>?_
  cases d with
  |int i=>
   obtain rfl:=MW j
   exact wpAny_evalPart_some ((m.e r u C).use λv s1 w x=>h _ _ w (x.bG λt=>.int i t))
  |_=>exact ns j
theorem jA {lo hi st:Option Expr}{o i:Value}:∃a,subscripted (.Slice lo hi st p) false o i=operate a (getItem o i):=by
 cases st with
 |none=>exact⟨[i,o],rfl⟩
 |some s=>exact⟨[o,i],rfl⟩
theorem z5 (q:bF W U l n){lo hi st:Option Expr}{b f g:Option ME}{x d:D}{z os:Option Int}(H:(cm c k).e sc a=some u)(I:j0 (cm c k) sc lo=some b)(J:j0 (cm c k) sc hi=some f)(L:j0 (cm c k) sc st=some g)(M:(ev U n).v Z u=some x)(N:fO (ev U n) Z b=some y)(O:fO (ev U n) Z f=some z)(P:fO (ev U n) Z g=some os)(e:D.slice x y z os=some d)(C:Cx W c.aE sc env R Mu Z A l s):GV W.M A s (eval (.Subscript a (.Slice lo hi st p) pos) env) (λh v=>Rep W Mu h d v):=λQ E K=>by
 refine Subscript_ ((q.v H M C).use λv s1 j B=>?_)
 refine wpAny_Slice (j7 q I N (C.keep j) λS s2 t T=>j7 q J O (C.keep (ai j t)) λV s3 F X=>j7 q L P (C.keep (ai j (ai t F))) λY G k4 p4=>?_)
 have k5:=ff G ({cls:=.type "slice",data:=.fields #[S,V,Y]}:Obj)
 have r:=ai t (ai F (ai k4 k5))
 refine ak (jA (lo:=lo) (hi:=hi) (st:=st) (p:=p) (o:=v) (i:=.ref G.heap.objs.size)) λops m=>?_
 refine z0 (B.keep (ag r)) e m ?_
 exact(qJ (C.keep (ai j r)).old (B.keep (ag r)) (Heap.IsSliceOf.new ..) T X p4 e).use λw s6 k6 r6=>(K _ _ (ai j (ai r k6)) r6)
theorem eR {s:Shared}(g:s.heap.Ns mainGlobals W.mg)(k:Keeps s s'):(s'.heap.objs.size==sysModules)=false:=
 DI g λo _ _ e _=>OT.mpr λh=>absurd (h▸Heap.lt_size (ag k _ _ e)) (by decide)
theorem lT (w:gX W)(C:Cx W c.aE sc env R Mu Z A l s):GV W.M A s (eval (.Dict [] [] pos) env) (λh v=>Rep W Mu h (.dict [] []) v/\ ∀a,v=.ref a->s.heap.get? a=none):=λQ E K=>
 wpAny_Dict_empty (K _ _ (ff s _) ⟨.bY (vs:=[]) (eR (w.g.keeps C.base) (aG s)) C.old.fresh (Heap.DictOf.new _) rfl aq.nil,λ_ e=>Value.ref.inj e▸cI _⟩)
theorem Cx.grow {aE:List Str}{X:aD}(C:Cx W aE sc env R Mu Z A l s)(k:Keeps s s')(fresh:∀b,X b->s.heap.get? b=none)(live:∀b,X b-> ∃o,s'.heap.get? b=some o):
  Cx W aE sc env R (λb=>Mu b\/X b) Z A l s' where
 ok:=C.ok
 base:=λb o e=>ag k b o (C.base b o e)
 old:=λb h=>h.elim (λm=>let ⟨o,e⟩:=C.old b m;⟨o,ag k b o e⟩) (live b)
 sub:=λi b r=>.inl (C.sub i b r)
 above:=λb h=>h.elim (C.above b) λx=>by
  cases e:W.h0.get? b with
  |none=>rfl
  |some o=>have:=C.base b o e;rw[fresh b x] at this;cases this
 view:=C.view.move (λb o m e=>⟨λh=>h.elim m λx=>(by rw[fresh b x] at e;cases e),ag k b o e⟩) (λ_ b o _ e=>ag k b o e) (λ_ _ x=>x) λ_ _ _ _ _ nn=>nn.keeps (ag k)
 good:=C.good
 tb:=C.tb
 live:=C.live.keeps (ag k)
theorem lU (w:gX W)(u:bF W U l n){i f:Expr}{mk:ME}{x:Str}{d:D}(H:(cm c k).e sc i=some mk)(I:(cm c k).e sc f=some y)(J:(ev U n).m Z mk=some (.str x))(L:(ev U n).m Z y=some d)(C:Cx W c.aE sc env R Mu Z A l s):GV W.M A s (eval (.Dict [some i] [f] pos) env) (λh v=>Rep W Mu h (.dict [x] [d]) v/\ ∀a,v=.ref a->s.heap.get? a=none):=λQ E K=>by
 refine wpAny_Dict_pairs (knd:=strKind W.prog W.w) (pairs:=[(eval i env,do let x<-eval f env;standAt pos;pure x)]) rfl nofun (by simp) ?_
 have z:=ff s ({cls:=.type "dict",data:=.dict #[]}:Obj)
 have B:=C.grow (X:=λb=>b=s.heap.objs.size) z (λb h=>h▸cI _) (λb h=>⟨_,h▸Heap.get?_push_size _ rfl⟩)
 refine evalPairs_cons ((u.e H J B).use λvk s1 j N=>?_)
 refine MZ ((u.e I L (B.keep j)).use λg O F P=>MZ (wpAny_standAt (M6 (evalPairs_nil ?_))))
 refine N.view.fB λt=>?_
 have S:=ai z (ai j F)
 have T:O.heap.DictOf (strKind W.prog W.w) s.heap.objs.size []:=bl (Heap.DictOf.new s.heap) λo e=>ag (ai j F) _ _ e
 refine⟨[(x,g)],⟨strKind_is W.prog W.w x t,rfl,trivial⟩,T,λV G hs=>K _ _ ?_ ⟨?_,?_⟩⟩
 .refine aW S λY t2' p q=>?_
  subst p
  refine⟨V,_,rfl,λb o e=>?_⟩
  have hb:b≠s.heap.objs.size:=NZ (Heap.lt_size e)
  exact(hs.2 b hb).trans (q b o e)
 .have r:merged ([]:List (Str×Value)) [(x,g)]=[(x,g)]:=by simp[merged,stored]
  rw[r] at G
  refine .bY (vs:=[g]) (eR (w.g.keeps C.base) (aG s)) C.old.fresh G rfl (.cons ?_ aq.nil)
  refine P.move λb o m e=>⟨λr=>m (.inl r),?_⟩
  exact(hs.2 b λh=>m (.inr h)).trans e
 .rintro a ⟨⟩;exact cI _
theorem nB {o:Obj}{h:Heap}{i:Addr}{x:Str}{v:Value}(m:h.DictOf (strKind W.prog W.w) i a)(p:h.get? i=some o)(r:valueAt a x=some v):lookIn x o=some (some v):=by
 refine lC m λw t y b j d j hp j=>?_
 rw[p] at b;cases b
 have:=hp.find x
 rw[r] at this
 simp only[OC] at this
 refine af this λe u f=>?_;subst f
 have g:t.toList.find? (λe=>e.key.isStr x)=some e:=by
  have q:(λe:DictEntry=>e.key.isStr x)=λe=>(strKind W.prog W.w).is x e.key:=funext λe=>((strKind W.prog W.w).strs x x 0 e.key (strKind_is W.prog W.w x 0)).symm
  rw[q];exact u
 unfold lookIn
 rw[d]
 dsimp only
 rw[g]
theorem qL (w:gX W){x e:Addr}{d:List (Str×Value)}{v:Value}{expr:Bool}{Q:Value->Shared->Prop}(hb:∀b o,W.h0.get? b=some o->s.heap.get? b=some o)(hx:s.heap.get? x=some (instObj W.cls e))(f:s.heap.DictOf (strKind W.prog W.w) e d)(h:a∈bE)(i:valueAt d a=some v)(hh:handedIn v=true)(j:Q v {s with toks:=s.toks+1}):
  wpAny W.M A (getAttr (.ref x) a expr) Q E s:=by
 refine ak (bH f) λo g=>?_
 obtain ⟨m,p,q,r⟩:=w.at_ a h
 have I:_root_.PySem.W.InstAt s.heap x (instObj W.cls e) W.cls (some o):=⟨hx,rfl,rfl,g⟩
 exact get_value (w.JK.keeps hb) I (plainGet_of m).1 (findObj_own w.dict q r (nB f g i)) hh j
theorem lV {d:D}{v:Value}(r:Rep W Mu h d v):handedIn v=true:=by
 cases d with
 |none=>exact MY handedIn r
 |bool b=>exact MY handedIn r
 |int i=>exact r.bG λ_=>rfl
 |str i=>exact r.fB λ_=>rfl
 |list a=>exact r.bp λ_ _ _ _ _ _=>rfl
 |tup a=>exact r.tupK λ_ _ _ _ _ _=>rfl
 |dict e a=>exact r.dO λ_ _ _ _ _ _ _=>rfl
 |inst a=>exact r.qt λ_ _ _ _ _ _ _ _ _=>rfl
theorem qM {i:Nat}(h:dF.idxOf? a=some i):a∈bE/\bE.idxOf? a=some i/\bE[i]?=some a:=
 have q:bE[i]?=some a:=cz h
 ⟨Nw q,h,q⟩
theorem z6 {r:Ev}{i:Nat}{d:D}(h:cV U r Z (.attr (.var i) j)=some d):∃ds,(Z i=some (.val (.inst ds))\/Z i=some (.obj ds))/\ds[j]?=some d:=by
 have h:(match Z i with
  |some (.val (.inst a))=>a[j]?
  |some (.obj fs)=>fs[j]?
  |_=>none)=some d:=h
 revert h
 generalize Z i=o
 intro h
 rcases o with _|sl
 .exact ns h
 cases sl with
 |val b=>
  cases b with
  |inst ds=>exact⟨ds,.inl rfl,h⟩
  |_=>exact ns h
 |obj ds=>exact⟨ds,.inr rfl,h⟩
 |_=>exact ns h
theorem xd (w:gX W){x:Str}{z:Pos}{i:Nat}{d:D}(t:c.aE.idxOf? x=some i)(B:dF.idxOf? a=some j)(e:cV U (ev U n) Z (.attr (.var i) j)=some d)(C:Cx W c.aE sc env R Mu Z A l s):
  GV W.M A s (eval (.Attribute (.Name x z) a pos) env) (λh v=>Rep W Mu h d v):=λQ E K=>by
 refine eU (qM B) λu y I=>?_
 refine af (z6 e) λJ f e=>?_
 cases f with
 |inl f=>exact Attribute_name (j5 C t f λv r=>Rep.qt r λb F G _ g _ q _ o=>af (o.at e) λv p m=>qL w C.base g q u (fD y p) (lV m) (K _ _ (cX s) m))
 |inr f=>
  refine Attribute_name (j5 C t f λv r=>sR r λb F G H _ g _ q _ o=>?_)
  subst H
  exact af (o.at e) λv p m=>qL w C.base g q u (fD y p) (lV m) (K _ _ (cX s) m)
theorem qN (w:gX W){a y:Str}{b pos:Pos}(d:(a,y)∈[(("S":Str),(" ":Str)),("T","\t")])(hg:sc.names.lookup ("Whitespace":Str)=some .globalImplicit)(C:Cx W c.aE sc env R Mu Z A l s):
  GV W.M A s (eval (.Attribute (.Name "Whitespace" b) a pos) env) (λh v=>Rep W Mu h (.str y) v):=λQ E K=>by
 refine aW (w.J5 _ d) λg t e f=>?_
 refine Attribute_name (jz C w.g hg w.J4 (by decide) ?_)
 exact cls_value (w.JK.keeps C.base) e f rfl (K _ _ (cX s) cO)
theorem cC (h:ah ((cm c k).e sc) es=some mes):(backTo pos (starEach es env)).any (·.1)=false/\(backTo pos (starEach es env)).all (λx=> !x.1)=true:=by
 induction es generalizing mes with
 |nil=>exact⟨rfl,rfl⟩
 |cons e es b=>
  refine aP (dP h) λg a _ d f=>?_
  rw[aT (bq d)]
  exact b f
theorem bO {f:Value}{args:List (Bool×Sem Value)}{Q:Args->Shared->Prop}(hp:args.any (·.1)=false)(h:wpAny W.M A (spliced args) (λvs s'=>Q ⟨vs,[]⟩ s') E s):wpAny W.M A (evalArgs f true args []) Q E s:=by
 cases args with
 |nil=>
  unfold evalArgs
  show wpAny W.M A (spliced []>>=_) Q E s
  refine MZ (NH h (λvs s' a=>?_) λ_ _ x=>x)
  refine OH ?_
  exact MZ (M6 (MZ (M6 (M6 a))))
 |cons x rest=>
  obtain ⟨b,x⟩:=x
  cases b with
  |false=>exact Calls.evalArgs_plain h
  |true=>exact nb hp.symm
noncomputable def z7:Fn->Value
 | .len=>.builtin "len"
 | .sum=>.builtin "sum"
 | .list=>.type "list"
 | .tuple=>.type "tuple"
 | .min=>.builtin "min"
 | .max=>.builtin "max"
 | .abs=>.builtin "abs"
 | .strOf=>.type "str"
 | .hex=>.builtin "hex"
 | .all=>.builtin "all"
 |_=>.none
noncomputable def Hm (o:Option Value)(v:Value):Bool:=match o with
 |some (.builtin a)=>v== .builtin a
 |some (.type a)=>v== .type a
 |_=>false
theorem z8 {o:Option Value}{v:Value}(h:Hm o v=true):o=some v/\((∃i,v=.builtin i)\/ ∃T,v=.type T):=by
 cases o with
 |none=>exact nb h
 |some w=>
  cases w with
  |builtin a=>exact have q:v=.builtin a:=eq_of_beq h;⟨MY some q.symm,.inl ⟨_,q⟩⟩
  |type a=>exact have q:v=.type a:=eq_of_beq h;⟨MY some q.symm,.inr ⟨_,q⟩⟩
  |_=>exact nb h
theorem D2:(uT.all λp=>Hm (fF.lookup p.1) (z7 p.2)&& !(p.1==("__debug__":Str)))=true:=by decide+kernel
theorem vg (w:gX W){x:Str}{b:Fn}(h:uT.lookup x=some b):(W.mg x=none/\W.mb x=some (z7 b))/\(x==("__debug__":Str))=false/\((∃i,z7 b=.builtin i)\/ ∃T,z7 b=.type T):=by
 refine au (M9.mp (Nx.mp D2 _ (NC h))) λa d=>?_
 refine au (z8 a) λe f=>?_
 exact⟨w.bi _ (NC e),(Bool.not_eq_true' _).mp d,f⟩
theorem aX {f:Value}{args:List (Bool×Sem Value)}{Q:Value->Shared->Prop}(a:(∃i,f=.builtin i)\/ ∃T,f=.type T)(hp:args.any (·.1)=false)(h:wpAny W.M A (spliced args) (λvs s1=>wpAny W.M A (call f vs) Q E s1) E s):wpAny W.M A (callWith pos f [] args []) Q E s:=by
 rcases a with ⟨i,rfl⟩|⟨T,rfl⟩
 .exact Calls.callWith_builtin hp (bO hp h)
 .exact PyProof.Rows.callWith_type hp (bO hp h)
theorem bw {x:Str}{args:List Expr}{Q:Value->Shared->Prop}(h:wpAny W.M A (eval (.Name x a) env) (λf s1=>wpAny W.M A (callWith pos f [] (backTo pos (starEach args env)) []) Q E s1) E s):
  wpAny W.M A (eval (.Call (.Name x a) args [] pos) env) Q E s:=by
 show wpAny W.M A (eval (.Name x a) env>>=λf=>callWith pos f [] (backTo pos (starEach args env)) []) Q E s
 exact MZ h
theorem H8 {x:D}(r:fE W Mu h [x] vs):∃v,vs=[v]/\aC W Mu h x v:=aP r λv _ e a b=>⟨v,e.trans (MY (v:: ·) b),a⟩
@[elab_as_elim] theorem fE.eV  {x:D}  {motive:List Value->Prop} (r:fE W Mu h [x] vs) (k:∀v,aC W Mu h x v->motive [v]):motive vs:=af (H8 r) λv e a=>e▸k v a
@[elab_as_elim] theorem fE.xe  {x:D}  {motive:List Value->Prop} (r:fE W Mu h [x,y] vs) (k:∀v u,aC W Mu h x v->aC W Mu h y u->motive [v,u]):motive vs:=r.eB λv _ a b=>b.eV λu b=>k v u a b
theorem nU {xs:List D}{v:Value}(o:Old Mu s.heap)(r:aC W Mu s.heap (.list xs) v)(hsz:xs.length<2^20):
  GV W.M A s (call (.type "list") [v]) (λh v=>Rep W Mu h (.list xs) v/\ ∀a,v=.ref a->s.heap.get? a=none):=λQ E K=>by
 refine r.bp λa i n f b=>?_
 exact DV f (b.length▸hsz) λg j d hg=>K _ _ ⟨g,_,rfl,d⟩ ⟨.bI o.fresh hg (b.move (Fz.keep d)),λ_ e=>Value.ref.inj e▸cI _⟩
inductive BR:Fn->List D->D->Prop
 |len {x d:D}(e:fN (λ_ _=>none) .len [x]=some d):BR .len [x] d
 |sum {xs:List D}{is:List Int}(h:D.ints xs=some is):BR .sum [.list xs] (.int is.sum)
 |list {xs:List D}(h:xs.length<2^20):BR .list [.list xs] (.list xs)
 |tuple {xs:List D}(h:xs.length<2^20):BR .tuple [.list xs] (.tup xs)
 |min {a b:Int}:BR .min [.int a,.int b] (.int (if b<a then b else a))
 |max {a b:Int}:BR .max [.int a,.int b] (.int (if b>a then b else a))
 |abs {a:Int}:BR .abs [.int a] (.int (if a<0 then -a else a))
 |strOf {a:Int}(h:a.natAbs<2^64):BR .strOf [.int a] (.str (toString a))
 |hex {a:Int}(h:a.natAbs<2^60):BR .hex [.int a] (.str (gR a))
 |all {xs:List D}{bs:List Bool}(h:D.bools xs=some bs):BR .all [.list xs] (.bool (bs.all id))
noncomputable def Mw:Fn->Bool
 | .len| .sum| .list| .tuple| .min| .max| .abs| .strOf| .hex| .all=>true
 |_=>false
theorem D3:(uT.all λp=>Mw p.2)=true:=by decide+kernel
@[elab_as_elim] theorem eV {a:Type}  {g:D->Option a}{r:a}{motive:List D->Prop} (h:(one ds).bind g=some r) (k:∀x,g x=some r->motive [x]):motive ds:=by
 cases ds with
 |nil=>exact ns h
 |cons x ds=>
  cases ds with
  |nil=>exact k x h
  |cons _ _=>exact ns h
@[elab_as_elim] theorem D4 {x:D}  {g:D->D->Option D}{r:D}{motive:List D->Prop} (h:two g (x::ds)=some r) (k:∀y,g x y=some r->motive [y]):motive ds:=by
 cases ds with
 |nil=>exact ns h
 |cons y ds=>
  cases ds with
  |nil=>exact k y h
  |cons _ _=>exact ns h
@[elab_as_elim] theorem xe  {g:D->D->Option D}{r:D}{motive:List D->Prop} (h:two g ds=some r) (k:∀x y,g x y=some r->motive [x,y]):motive ds:=by
 cases ds with
 |nil=>exact ns h
 |cons x ds=>exact D4 h (k x)
section
variable {β:Type}{x:D}{r:β}{motive:D->Prop}
@[elab_as_elim] theorem D.lK {g:List D->Option β} (h:(D.l? x).bind g=some r) (k:∀xs,g xs=some r->motive (.list xs)):motive x:=by
 cases x with
 |list xs=>exact k xs h
 |_=>exact ns h
@[elab_as_elim] theorem D.iK {g:Int->Option β} (h:(D.i? x).bind g=some r) (k:∀i,g i=some r->motive (.int i)):motive x:=by
 cases x with
 |int i=>exact k i h
 |_=>exact ns h
@[elab_as_elim] theorem D.sK {g:Str->Option β} (h:(D.s? x).bind g=some r) (k:∀i,g i=some r->motive (.str i)):motive x:=by
 cases x with
 |str i=>exact k i h
 |_=>exact ns h
end
theorem D.z9 {d:D}{i:Int}(h:d.i?=some i):d=.int i:=by
 cases d with
 |int j=>exact MW h▸rfl
 |_=>exact ns h
theorem D.J9 {d:D}{i:Str}(h:d.s?=some i):d=.str i:=by
 cases d with
 |str j=>exact MW h▸rfl
 |_=>exact ns h
theorem D.H9 {d:D}{i:List D}(h:d.l?=some i):d=.list i:=by
 cases d with
 |list j=>exact MW h▸rfl
 |_=>exact ns h
theorem D.L0 {d:D}{i:List D}(h:d.t?=some i):d=.tup i:=by
 cases d with
 |tup j=>exact MW h▸rfl
 |_=>exact ns h
theorem D.L1 {d:D}{i:Unit}(h:d.n?=some i):d=.none:=by
 cases d with
 |none=>rfl
 |_=>exact ns h
theorem D5 {d:D}(e:fN U .list ds=some d):∃xs,xs.length<2^20/\ds=[.list xs]/\d=.list xs:=
 eV e λx e=>D.lK e λxs e=>au (fe e) λh q=>⟨xs,h,rfl,(MW q).symm⟩
theorem Ka {f:Fn}{d:D}(i:Mw f=true)(e:fN U f ds=some d):BR f ds d:=by
 cases f with
 |len=>exact eV e λx e=>.len e
 |sum=>exact eV e λx e=>D.lK e λg e=>wM (R:=BR _ _) e λ_ h=>.sum h
 |list=>exact eV e λx e=>D.lK e λg e=>cT e λh e=>cq e (.list h)
 |tuple=>exact eV e λx e=>D.lK e λg e=>cT e λh e=>cq e (.tuple h)
 |min=>exact xe e λx y e=>D.iK e λa e=>D.iK e λb e=>cq e .min
 |max=>exact xe e λx y e=>D.iK e λa e=>D.iK e λb e=>cq e .max
 |abs=>exact eV e λx e=>D.iK e λa e=>cq e .abs
 |strOf=>exact eV e λx e=>D.iK e λa e=>cT e λh e=>cq e (.strOf h)
 |hex=>exact eV e λx e=>D.iK e λa e=>cT e λh e=>cq e (.hex h)
 |all=>exact eV e λx e=>D.lK e λg e=>wM (R:=BR _ _) e λ_ h=>.all h
 |_=>exact nb i
theorem Kb {f:Fn}{d:D}(e:BR f ds d)(g:Good A l)(o:Old Mu s.heap)(r:fE W Mu s.heap ds vs):
  GV W.M A s (call (z7 f) vs) (λh v=>Rep W Mu h d v):=by
 induction e with
 |len e=>exact r.eV λv b=>tm b e
 |sum h=>exact r.eV λv b=>b.bp λa q n i j=>H0 g.hh i j h
 |list h=>exact r.eV λv b=>(nU o b h).mono λ_ _ _ p=>p.1
 |tuple h=>exact r.eV λv b=>b.bp λa q n i j=>zL o i j h
 |min=>exact r.xe λv u b m=>b.bG λt=>m.bG λw=>H3 g.hh
 |max=>exact r.xe λv u b m=>b.bG λt=>m.bG λw=>H4 g.hh
 |abs=>exact r.eV λv b=>b.bG λt=>H5
 |strOf h=>exact r.eV λv b=>b.bG λt=>zP h
 |hex h=>exact r.eV λv b=>b.bG λt=>H6 h
 |all h=>exact r.eV λv b=>b.bp λa q n i j=>H2 g.hh i j h
theorem Aa (w:gX W)(g:bF W U l n){x:Str}{f:Fn}{i:Pos}{d:D}(hx:uT.lookup x=some f)(hg:sc.names.lookup x=some .globalImplicit)(a:ah ((cm c k).e sc) es=some mes)(j:mes.mapM ((ev U n).v Z)=some ds)(e:fN U f ds=some d)(C:Cx W c.aE sc env R Mu Z A l s):GV W.M A s (eval (.Call (.Name x i) es [] pos) env) (λh v=>Rep W Mu h d v):=λQ E K=>by
 obtain ⟨⟨m,o⟩,p,q⟩:=vg w hx
 refine bw (fX C w.g w.b hg m o p ?_)
 refine aX q (cC a).1 ((lR g a j C).use λy s1 b r=>?_)
 exact(Kb (Ka (Nx.mp D3 _ (NC hx)) e) C.good (C.keep b).old r).use λv z t u=>(K _ _ (ai b t) u)
theorem tq (w:gX W)(m:bF W U l n){p pos:Pos}{es:List Expr}{mes:List ME}{ds:List D}{d:D}(hg:sc.names.lookup ("list":Str)=some .globalImplicit)(i:ah ((cm c k).e sc) es=some mes)(q:mes.mapM ((ev U n).v Z)=some ds)(e:fN U .list ds=some d)(C:Cx W c.aE sc env R Mu Z A l s):
  GV W.M A s (eval (.Call (.Name "list" p) es [] pos) env) (λh v=>Rep W Mu h d v/\ ∀a,v=.ref a->s.heap.get? a=none):=λQ E K=>by
 obtain ⟨⟨r,t⟩,u,y⟩:=vg w (x:="list") (b:=.list) (by decide+kernel)
 refine bw (fX C w.g w.b hg r t u ?_)
 refine aX y (cC i).1 ((lR m i q C).use λJ s1 f g=>?_)
 revert g
 refine bf (D5 e) λL z B F=>?_
 subst B;subst F
 refine λg=>g.eV λv G=>(nU (C.keep f).old G z).use λv M H j=>(K _ _ (ai f H) ⟨j.1,λa I=>?_⟩)
 cases e:s.heap.get? a with
 |none=>rfl
 |some o=>exact ns ((j.2 a I).symm.trans (ag f _ _ e))
theorem Ab:(tc.all λp=> !(p.1==("__debug__":Str)))=true:=by decide+kernel
theorem xf (w:gX W)(u:J6 W U l)(p:bF W U l n){x:Str}{f:Nat}{d:D}(hx:tc.lookup x=some f)(hg:sc.names.lookup x=some .globalImplicit)(g:ah ((cm c k).e sc) es=some mes)(r:mes.mapM ((ev U n).m Z)=some ds)(e:U f ds=some d)(C:Cx W c.aE sc env R Mu Z A l s):GV W.M A s (eval (.Call (.Name x q) es [] pos) env) (λh v=>Rep W Mu h d v):=λQ E K=>by
 refine af (w.J3 x f hx) λj t m=>?_
 have y:(x==("__debug__":Str))=false:=by
  exact(Bool.not_eq_true' _).mp (Nx.mp Ab _ (NC hx))
 refine bw (jz C w.g hg t y ?_)
 refine callWith_of (P:=λh=>∀b o,W.h0.get? b=some o->h.get? b=some o) (by rw[(cC g).1];rfl) (w.keep f j m) (bO (cC g).1 ?_)
 refine(j6 p g r C).use λz s1 i B=>⟨(C.keep i).base,?_⟩
 have a:=C.keep i
 exact(u f j m A s1 Mu ds z d a.good a.base a.old a.above B e).use λv H F G=>(K _ _ (ai i F) G)
theorem qO (w:gX W)(z:bF W U l n){a:Expr}{r:ME}{x d:D}{B f pos:Pos}{b:Bool}(hg:sc.names.lookup ("isinstance":Str)=some .globalImplicit)(t:(cm c k).e sc a=some r)(F:(ev U n).v Z r=some x)(ht:sc.names.lookup (if b then("int":Str) else "tuple")=some .globalImplicit)(e:fN U (if b then .jo else .kB) [x]=some d)(C:Cx W c.aE sc env R Mu Z A l s):
  GV W.M A s (eval (.Call (.Name "isinstance" B) [a,.Name (if b then("int":Str) else "tuple") f] [] pos) env) (λh v=>Rep W Mu h d v):=λQ E K=>by
 refine au (w.bi ("isinstance",.builtin "isinstance") (Nw (i:=11) rfl)) λG H=>?_
 refine bw (fX C w.g w.b hg G H (by decide) ?_)
 have g:starEach [a,.Name (if b then("int":Str) else "tuple") f] env=[(false,eval a env),(false,eval (.Name (if b then("int":Str) else "tuple") f) env)]:=by rw[aT (bq t)];rfl
 rw[g]
 refine aX (.inl ⟨_,rfl⟩) rfl ?_
 refine Calls.spliced_cons ((z.v t F C).use λv s1 j u=>Calls.spliced_cons ?_)
 have y:=C.keep j
 cases b with
 |true=>
  refine au (w.bi ("int",.type "int") (Nw (i:=12) rfl)) λm o=>?_
  refine fX y w.g w.b ht m o (by decide) (Calls.spliced_nil ?_)
  exact(zQ u e).use λv I p q=>(K _ _ (ai j p) q)
 |false=>
  refine au (w.bi ("tuple",.type "tuple") (Nw (i:=3) rfl)) λm o=>?_
  refine fX y w.g w.b ht m o (by decide) (Calls.spliced_nil ?_)
  exact(zR u e).use λv I p q=>(K _ _ (ai j p) q)
theorem qP (w:gX W)(m:bF W U l n){a:Expr}{f:ME}{x d:D}{o pos:Pos}(hg:sc.names.lookup ("sorted":Str)=some .globalImplicit)(g:(cm c k).e sc a=some f)(p:(ev U n).v Z f=some x)(e:fN U .sset [x]=some d)(C:Cx W c.aE sc env R Mu Z A l s):GV W.M A s (eval (.Call (.Name "sorted" o) [a] [] pos) env) (λh v=>Rep W Mu h d v):=λQ E K=>by
 refine au (w.bi ("sorted",.builtin "sorted") (Nw (i:=10) rfl)) λq r=>?_
 refine bw (fX C w.g w.b hg q r (by decide) ?_)
 have b:starEach [a] env=[(false,eval a env)]:=by rw[aT (bq g)];rfl
 rw[b]
 refine aX (.inl ⟨_,rfl⟩) rfl ?_
 refine Calls.spliced_cons ((m.v g p C).use λv s1 j t=>Calls.spliced_nil ?_)
 cases x with
 |list G=>
  refine af (ob e) λis hi e=>au (fe e) λu e=>?_
  obtain rfl:=MW e
  exact t.bp λH I J y z=>(wZ (C.keep j).old y z hi u).use λv L B F=>(K _ _ (ai j B) F)
 |_=>exact ns e
end
section
variable {W:Wd}{U:UT}{n l:Nat}{A:Around}{E:Value->Shared->Prop}{s:Shared}{env:Env}{c:CT}{k:Nat}{sc:Scope}{R:Nat->aD}{Mu:aD}{Z:St}
theorem gp {o:Expr}{w:Sem Value}(h:bN o=true):attributeBase o a env w=w:=by
 cases o with
 |Call f a k p=>exact nb h
 |_=>rfl
theorem tr (h:ah ((cm c k).e sc) es=some mes)(a:es.length<20):
  ((backTo pos (starEach es env)).all (λx=> !x.1)&&(backToKw pos (keywordEach [] env)).all (λx=>x.1.isSome)&&decide (es.length+([]:List Keyword).length+(if([]:List Keyword).isEmpty then 0 else 1)<30))=true:=by
 rw[(cC h).2]
 rw[Nq (show es.length+([]:List Keyword).length+(if([]:List Keyword).isEmpty then 0 else 1)<30 from NW a (by decide))]
 rfl
theorem nV {o:Expr}{m:Str}{apos pos:Pos}{es:List Expr}{mes:List ME}{Q:Value->Shared->Prop}(hn:bN o=true)(d:(apos.endLine==pos.line)=true)(hlen:es.length<20)(j:ah ((cm c k).e sc) es=some mes)(h:wpAny W.M A (eval o env) (λi b=>∃T id,PlainAttrs T/\_root_.PySem.Slot T m id/\typeOf (.builtin id)=pure (.type "method_descriptor")/\b.TypeIs i T/\(∀a,i=.ref a-> ∃ob,b.heap.get? a=some ob/\ob.dict=none)/\
   wpAny W.M A (spliced (backTo pos (starEach es env))) (λvs f=>wpAny W.M A (call (.builtin id) (i::vs)) Q E f) E b) E s):
  wpAny W.M A (eval (.Call (.Attribute o m apos) es [] pos) env) Q E s:=by
 refine wpAny_Call_method_lateS (gp hn) (tr j hlen) d (NH h (λi b g=>?_) λ_ _ e=>e)
 refine wJ g λT id p q r t u v=>?_
 exact⟨T,id,p,q,r,t,u,Calls.callWith_builtin (cC j).1 (bO (cC j).1 v)⟩
theorem dG {h:Heap}{n:Nat}(e:h.get? a=some (aR vs n)):∀b,Value.ref a=.ref b-> ∃ob,h.get? b=some ob/\ob.dict=none:=
 λb q=>Value.ref.inj q▸⟨_,e,rfl⟩
inductive MR:Fn->D->List D->D->Prop
 |join {x:Str}{xs:List D}{ss:List Str}(hs:D.strs xs=some ss)(hc:(ss.map (·.length)).sum+ss.length*x.length<=16777216):MR .join (.str x) [.list xs] (.str (PySem.Txt.join x ss))
 |count {xs:List D}{y:D}{bs:List Bool}(hb:(xs.mapM λz=>D.gm 6 z y)=some bs):MR .count (.list xs) [y] (.int (bs.countP id:Nat))
 |index {xs:List D}{s:Str}{ss:List Str}{j:Nat}(hs:D.strs xs=some ss)(hc:ss.length<2^40)(hj:ss.idxOf? s=some j):MR .index (.list xs) [.str s] (.int (j:Int))
noncomputable def Kc:Fn->Str
 | .join=>"join"
 | .count=>"count"
 | .index=>"index"
 |_=>""
theorem D6:(zd.all λp=>(p.1==Kc p.2)&&(p.2== .join||p.2== .count||p.2== .index))=true:=by decide+kernel
theorem Kd {m:Str}{f:Fn}{x:D}{d:D}(b:zd.lookup m=some f)(e:fN U f (x::ds)=some d):m=Kc f/\MR f x ds d:=by
 refine au (M9.mp (Nx.mp D6 _ (NC b))) λg i=>⟨NJ.mp g,?_⟩
 clear b g
 cases f with
 |join=>exact D4 e λy e=>D.sK e λs e=>D.lK e λh e=>bV e λo hs e=>cT e λa e=>cq e (.join hs a)
 |count=>exact D4 e λy e=>D.lK e λh e=>wM (R:=MR _ _ _) e λbs hb=>.count hb
 |index=>exact D4 e λy e=>D.lK e λh e=>D.sK e λs e=>bV e λo hs e=>cT e λa e=>wM (R:=MR _ _ _) e λj p=>.index hs a p
 |_=>exact nb i
theorem Ac (w:bF W U l n){o:Expr}{m:Str}{f:Fn}{apos pos:Pos}{es:List Expr}{M:ME}{d:D}(N:zd.lookup m=some f)(hn:bN o=true)(i:(apos.endLine==pos.line)=true)(hlen:es.length<20)(h0:(cm c k).e sc o=some M)(y:ah ((cm c k).e sc) es=some mes)(O:(M::mes).mapM ((ev U n).v Z)=some ds)(e:fN U f ds=some d)(C:Cx W c.aE sc env R Mu Z A l s):
  GV W.M A s (eval (.Call (.Attribute o m apos) es [] pos) env) (λh v=>Rep W Mu h d v):=λQ E K=>by
 refine aP (gZ O) λx ds' B P G=>?_;subst B
 refine au (Kd N e) λH e=>?_;subst H
 refine nV hn i hlen y ((w.v h0 P C).use λov s1 z I=>?_)
 have J:=C.keep z
 clear N h0 O P
 induction e with
 |join hs L=>
  refine I.fB λt=>?_
  refine⟨"str","str.join",F.plainAttrs_str,F.slot_str_join,F.type_str_join,typeIs_str _ _ _,nofun,(lR w y G J).use λS T b j=>?_⟩
  refine j.eV λv p=>p.bp λa V X g q=>?_
  exact(jw g q hs L).use λv Y r u=>(K _ _ (ai z (ai b r)) u)
 |count hb=>
  refine I.bp λa V X g q=>?_
  refine⟨"list","list.count",F.plainAttrs_list,F.slot_list_count,F.type_list_count,(aA g).typeIs,dG g,(lR w y G J).use λS T b j=>?_⟩
  refine j.eV λv p=>?_
  exact(zN (M5 (Ov (by decide) _) C.good.room) (ag b _ _ g) (q.move (Fz.keep (ag b))) p hb).use λv Y r u=>(K _ _ (ai z (ai b r)) u)
 |index hs L hj=>
  refine I.bp λa V X g q=>?_
  refine⟨"list","list.index",F.plainAttrs_list,F.slot_list_index,F.type_list_index,(aA g).typeIs,dG g,(lR w y G J).use λS T b j=>?_⟩
  refine j.eV λv p=>p.fB λt=>?_
  exact(zO (ag b _ _ g) (q.move (Fz.keep (ag b))) hs hj L).use λv Y r u=>(K _ _ (ai z (ai b r)) u)
theorem D7 {d:D}(e:fN U .cU ds=some d):∃i y,ds=[.int i,y]/\d=sV i y:=xe e λx y e=>D.iK e λi e=>⟨i,y,rfl,(MW e).symm⟩
theorem nl {b:Type}{a:b}{l:List b}{p:Prop}(h:[]=a::l):p:=nomatch h
theorem Hn {i j:Type}{g:i->Option j}{mes:List i}{a b:j}(h:mes.mapM g=some [a,b]):∃d f,mes=[d,f]/\g d=some a/\g f=some b:=by
 cases mes with
 |nil=>exact nl (MW h)
 |cons d mes=>
  refine aP (cY h) λy o p q e=>?_
  obtain rfl:=(Oo e).1
  rw[(Oo e).2] at q
  cases mes with
  |nil=>exact nl (MW q)
  |cons f mes=>
   refine aP (cY q) λy o r m e=>?_
   obtain rfl:=(Oo e).1
   rw[(Oo e).2] at m
   cases mes with
   |nil=>exact⟨d,f,rfl,p,r⟩
   |cons _ _=>exact aP (cY m) λ_ _ _ _ e=>nl e.symm
theorem allM {a b:Type}{f:a->Option b}{es:List a}:∀{r:List b},ah f es=some r->es.mapM f=some r:=by
 induction es with
 |nil=>exact λh=>h
 |cons e es d=>exact λh=>bZ h λy g p q=>by rw[List.mapM_cons,p,d q];rfl
theorem Ia {f:Expr->Option ME}{g:ME->Option D}{b:D}(m:ah f es=some mes)(o:mes.mapM g=some [a,b]):∃d h i j,es=[d,h]/\f d=some i/\f h=some j/\g i=some a/\g j=some b:=
 aP (Hn o) λi j e p r=>aP (Hn (allM (m.trans (MY some e)))) λd h q t u=>⟨d,h,i,j,q,t,u,p,r⟩
theorem xg (w:gX W)(z:bF W U l n){M apos pos:Pos}{es:List Expr}{mes:List ME}{ds:List D}{d:D}(hg:sc.names.lookup ("COMPILER_FLAG_NAMES":Str)=some .globalImplicit)(b:(apos.endLine==pos.line)=true)(hlen:es.length<20)(B:ah ((cm c k).e sc) es=some mes)(N:mes.mapM ((ev U n).m Z)=some ds)(e:fN U .cU ds=some d)(C:Cx W c.aE sc env R Mu Z A l s):
  GV W.M A s (eval (.Call (.Attribute (.Name "COMPILER_FLAG_NAMES" M) "get" apos) es [] pos) env) (λh v=>Rep W Mu h d v):=λQ E K=>by
 refine jb w.flags λa f O P S T=>?_
 refine aW (D7 e) λi y g V=>?_;subst g;subst V
 refine DK (Ia B N) λG H m1 m2 j b1 b3 X Y=>?_;subst j
 have m:starEach [G,H] env=[(false,eval G env),(false,eval H env)]:=by rw[aT (bq b1),aT (bq b3)];rfl
 refine wpAny_Call_method_lateS (gp rfl) (tr B hlen) b (jz C w.g hg O (by decide) ?_)
 have p:s.heap.MapOf (intKind W.prog W.w) a f:=DI S λo es q u r=>⟨o,es,q,C.base a o u,r⟩
 refine⟨"dict","dict.get",F.plainAttrs_dict,F.slot_dict_get,F.type_dict_get,p.typeIs,p.noDict,?_⟩
 rw[m]
 refine wpAny_dict_get2 (knd:=intKind W.prog W.w) P ((z.e b1 X C).use λv1 s1 I r1=>(z.e b3 Y (C.keep I)).use λv2 J k2 r2=>?_)
 refine r1.view.bG λt=>?_
 have L:=ai I k2
 have M1:J.heap.MapOf (intKind W.prog W.w) a f:=DI p λo es q u r=>⟨o,es,q,ag L a o u,r⟩
 refine⟨i,f,intKind_is W.prog W.w i t,M1,K _ _ (ai L (cX J)) ?_⟩
 have hi:=T i
 unfold sV
 cases hl:dE.lookup i with
 |none=>
  rw[hl] at hi
  rw[show f i=none from hi]
  exact r2
 |some nm=>
  rw[hl] at hi
  refine ak hi λt' x=>?_
  rw[x]
  exact cO
theorem qQ {o:Obj}{h:Heap}{g:Addr}{x:Str}(m:h.DictOf (strKind W.prog W.w) g (bE.zip vs))(r:h.get? g=some o)(B:vs.length=5)(hx:x∉bE):shadowIn (some o) x=some false:=by
 refine lC m λC u D b a d a hp a=>?_
 obtain rfl:=MW (r.symm.trans b)
 have f:valueAt (bE.zip vs) x=none:=by
  unfold valueAt
  rw[Option.map_eq_none_iff,List.find?_eq_none]
  intro p hp
  have:=(List.of_mem_zip hp).1
  simp only[Nd]
  rintro rfl
  exact hx this
 have q:(λe:DictEntry=>e.key.isStr x)=λe=>(strKind W.prog W.w).is x e.key:=funext λe=>((strKind W.prog W.w).strs x x 0 e.key (strKind_is W.prog W.w x 0)).symm
 have j:=hp.find x
 rw[f,Option.map_eq_none_iff, <-q] at j
 refine au (nR hp) λF w=>?_
 have hr:u.toList.any (·.refKey)=false:=by
  rw[List.any_eq_false]
  intro e y
  refine ak (List.mem_iff_getElem?.mp y) λi hi=>?_
  refine jn (w i e (by simpa using hi)) λk v t a z a=>?_
  simp[DictEntry.refKey,z]
 have:lookIn x o=some none:=by
  unfold lookIn
  rw[d]
  dsimp only
  rw[j]
  dsimp only
  rw[hr];rfl
 show(lookIn x o).map _=_
 rw[this];rfl
theorem Ad {o:Expr}{m:Str}{apos pos:Pos}{es:List Expr}{Q:Value->Shared->Prop}(hn:bN o=true)(b:(apos.endLine==pos.line)=true)(hlen:es.length<20)(r:ah ((cm c k).e sc) es=some mes)(h:wpAny W.M A (eval o env) (λq a=>∀t,wpAny W.M A (getMethod q m t) (λp f=>wpAny W.M A (callWith pos p.1 p.2 (backTo pos (starEach es env)) []) Q E f) E a) E s):
  wpAny W.M A (eval (.Call (.Attribute o m apos) es [] pos) env) Q E s:=by
 have g:=tr (env:=env) (pos:=pos) r hlen
 rw[arm_eval_Call,gp hn]
 refine MZ (NH h (λq a i=>?_) λ_ _ e=>e)
 refine MZ (wpAny_standAt ?_)
 have d:methodCallForm (es.length+([]:List Keyword).length) (backTo pos (starEach es env)) (backToKw pos (keywordEach [] env))=true:=g
 have j:methodCallPos true o env apos pos=pure pos:=by unfold methodCallPos;simp[b]
 unfold methodCall
 rw[d]
 refine MZ (OH (NH (i _) (λp v u=>?_) λ_ _ e=>e))
 exact MZ (wpAny_of_eq j u)
theorem tu (w:gX W)(u:J6 W U l)(G:bF W U l n){o:Expr}{m:Str}{f:Nat}{apos pos:Pos}{es:List Expr}{H:ME}{d:D}(J:meths.lookup m=some f)(hn:bN o=true)(a:(apos.endLine==pos.line)=true)(hlen:es.length<20)(h0:(cm c k).e sc o=some H)(i:ah ((cm c k).e sc) es=some mes)(T:(H::mes).mapM ((ev U n).m Z)=some ds)(e:U f ds=some d)(hi:∃fs r,ds=.inst fs::r)(C:Cx W c.aE sc env R Mu Z A l s):
  GV W.M A s (eval (.Call (.Attribute o m apos) es [] pos) env) (λh v=>Rep W Mu h d v):=λQ E K=>by
 refine aP (gZ T) λx V z X Y=>?_;subst z
 refine eZ hi λfs r hr=>?_
 cases hr
 refine ni (w.dY m f J) λfa L p2 p3 M=>?_
 have B:m∉bE:=by
  exact Nr (Nx.mp (show(meths.all λp=>decide (p.1∉bE))=true by decide+kernel) _ (NC J))
 refine Ad hn a hlen i ((G.e h0 X C).use λov s1 N O pl=>?_)
 have j:=C.keep N
 refine sR O λb dx vs F ζ g ζ q hl rl=>?_;subst F
 refine ak (bH q) λod S=>?_
 have I:_root_.PySem.W.InstAt s1.heap b (instObj W.cls dx) W.cls (some od):=⟨g,rfl,rfl,S⟩
 refine method_fn (w.JK.keeps j.base) I (plainGet_of M).1 (plainGet_of M).2 p2 (NJ.mp p3) (qQ q S hl B) ?_
 refine callWith_of (P:=λh=>∀b o,W.h0.get? b=some o->h.get? b=some o) (by rw[(cC i).1];rfl) (w.keep f _ L) (bO (cC i).1 ?_)
 refine(j6 G i Y j).use λvs s2 t r2=>⟨(j.keep t).base,?_⟩
 have y:=j.keep t
 exact(u f _ L A s2 Mu _ _ d y.good y.base y.old y.above (.cons (O.move (Fz.keep (ag t))) r2) e).use λv s3 k3 r3=>(K _ _ (ai N (ai t k3)) r3)
theorem qR (f:bF W U l n){d:ME}{b:Bool}(g:(cm c k).e sc a=some d)(e:(ev U n).t Z d=some b)(C:Cx W c.aE sc env R Mu Z A l s):
  GV W.M A s (isTrue (.UnaryOp .Not a pos) env (eval (.UnaryOp .Not a pos) env)) (λ_ x=>x= !b):=λQ E K=>
 wpAny_isTrue_Not ((f.t g e C).use λx s1 h i=>(K _ _ h (by rw[i])))
theorem kG (g:bF W U l n){b:Expr}{f mb:ME}{r:Bool}(i:(cm c k).e sc a=some f)(j:(cm c k).e sc b=some mb)(e:sX (ev U n) Z (.and f mb)=some r)(C:Cx W c.aE sc env R Mu Z A l s):
  GV W.M A s (isTrue (.BoolOp .And [a,b] pos) env (eval (.BoolOp .And [a,b] pos) env)) (λ_ x=>x=r):=λQ E K=>by
 refine af (ob (o:=(ev U n).t Z f) e) λq m e=>?_
 .refine isTrue_and ((g.t i m C).use λx s1 d p=>?_)
  subst p
  cases x with
  |false=>
   obtain rfl:=MW e
   refine DX ?_
   exact(K _ _ d rfl)
  |true=>
   refine DY ?_
   refine isTrue_and ((g.t j e (C.keep d)).use λy u h t=>?_)
   subst t
   cases y with
   |false=>
    refine DX ?_
    exact(K _ _ (ai d h) rfl)
   |true=>
    refine DY ?_
    exact isTrue_and_nil (K _ _ (ai d h) rfl)
theorem Ae (g:bF W U l n){b:Expr}{f mb:ME}{r:Bool}(i:(cm c k).e sc a=some f)(j:(cm c k).e sc b=some mb)(e:sX (ev U n) Z (.or f mb)=some r)(C:Cx W c.aE sc env R Mu Z A l s):
  GV W.M A s (isTrue (.BoolOp .Or [a,b] pos) env (eval (.BoolOp .Or [a,b] pos) env)) (λ_ x=>x=r):=λQ E K=>by
 refine af (ob (o:=(ev U n).t Z f) e) λq m e=>?_
 .refine isTrue_or ((g.t i m C).use λx s1 d p=>?_)
  subst p
  cases x with
  |true=>
   obtain rfl:=MW e
   refine DY ?_
   exact(K _ _ d rfl)
  |false=>
   refine DX ?_
   refine isTrue_or ((g.t j e (C.keep d)).use λy u h t=>?_)
   subst t
   cases y with
   |true=>
    refine DY ?_
    exact(K _ _ (ai d h) rfl)
   |false=>
    refine DX ?_
    exact isTrue_or_nil (K _ _ (ai d h) rfl)
theorem Ke (f:bF W U l n){t b:Expr}{mt i mb:ME}{r:Bool}(h0:(cm c k).e sc t=some mt)(j:(cm c k).e sc a=some i)(m:(cm c k).e sc b=some mb)(e:sX (ev U n) Z (.ite mt i mb)=some r)(C:Cx W c.aE sc env R Mu Z A l s):GV W.M A s (isTrue (.IfExp t a b pos) env (eval (.IfExp t a b pos) env)) (λ_ x=>x=r):=λQ E K=>by
 refine af (ob (o:=(ev U n).t Z mt) e) λq p e=>?_
 .refine isTrue_IfExp ((f.t h0 p C).use λx s1 d v=>?_)
  subst v
  cases x with
  |true=>
   refine DY ?_
   exact(f.t j e (C.keep d)).use λu w g h=>(K _ _ (ai d g) h)
  |false=>
   refine DX ?_
   exact(f.t m e (C.keep d)).use λu w g h=>(K _ _ (ai d g) h)
theorem aS (d:bF W U l n){b:Expr}{f mb:ME}{x:D}(j:(cm c k).e sc a=some f)(g:(cm c k).e sc b=some mb)(m:(ev U n).v Z f=some x)(o:(ev U n).v Z mb=some y)(e:D.cmp op x y=some q)(C:Cx W c.aE sc env R Mu Z A l s):GV W.M A s (isTrue (.Compare a [op] [b] pos) env (eval (.Compare a [op] [b] pos) env)) (λ_ v=>v=q):=λQ E K=>by
 refine wpAny_isTrue_Compare1 ((d.v j m C).use λv s1 h p=>(d.v g o (C.keep h)).use λu B i r=>?_) (lS g)
 refine(zG (p.keep (ag i)) r (M5 (Ov (by decide) _) C.good.room) e).use λw F t z=>?_
 subst z
 exact wpAny_truthy_bool (K _ _ (ai h (ai i t)) rfl)
theorem Kf (f:bF W U l n){d:ME}{x:D}(g:(cm c k).e sc a=some d)(h:(ev U n).v Z d=some x)(e:D.truthy x=some q)(C:Cx W c.aE sc env R Mu Z A l s)(i:∀w,isTrue a env w=(do let v<-w;standAt a.pos;holding [v] (truthy v))):GV W.M A s (isTrue a env (eval a env)) (λ_ v=>v=q):=λQ E K=>by
 refine isTrue_plain ((f.v g h C).use λv s1 j m=>?_) (i _)
 exact(wU m e).use λb r o p=>(K _ _ (ai j o) p)
theorem tv {t:dj}{d:D}{v:Value}(r:Rep W Mu h d v):en W Mu h t d v:=by
 cases t with
 |one x=>exact r
 |many o=>
  intro a b e
  rw[e] at r
  exact r.tupK λT g n _ f l=>l.eB (motive:=λg=>h.get? T=some (iX g n)->_) (λi _ j l=>l.eB λvb _ m l=>l.kT λf=>⟨T,i,vb,rfl,bJ f,j,m⟩) f
theorem fc {P:Addr->Prop}{a:Addr}{l:List Addr}(h:P a)(k:∀b∈l,P b):∀b∈a::l,P b:=λb m=>(Np.mp m).elim (λe=>e▸h) (k b)
theorem fn {P:Addr->Prop}:∀b∈([]:List Addr),P b:=λ_ m=>nomatch m
theorem ph {elts:List Expr}{d:Nat}{pos:Pos}{I:Addr}{v:Value}{o:Obj}{T:String}{Q:Unit->Shared->Prop}(e:s.heap.get? I=some o)(f:o.cls=.type T)(g:["enumerate","zip","dict_itemiterator","dict_reverseitemiterator","odict_iterator","itertools.zip_longest","itertools.pairwise"].contains T=false)(b:Q () s):
  wpAny W.M A (letOwnedTupleGo (.Tuple elts d pos) (.ref I) v) Q E s:=by
 cases v with
 |ref a=>
  refine MZ (m:=load I) (wpAny_load e ?_)
  rw[f]
  cases o.data with
  |fields h=>
   show wpAny W.M A (if(_&&h[0]?==some (rawInt a))=true then _ else _) Q E s
   rw[g,Bool.false_and]
   exact M6 b
  |_=>exact M6 b
 |_=>exact M6 b
theorem Ib {t:dj}{target:Expr}{I:Addr}{v:Value}{o:Obj}{T:String}{Q:Unit->Shared->Prop}(b:aY t target)(d:s.heap.get? I=some o)(e:o.cls=.type T)(f:["enumerate","zip","dict_itemiterator","dict_reverseitemiterator","odict_iterator","itertools.zip_longest","itertools.pairwise"].contains T=false)(a:Q () s):
  wpAny W.M A (letOwnedTupleGo target (.ref I) v) Q E s:=by
 cases b with
 |one=>exact M6 a
 |many=>exact ph d e f a
theorem Ic {x:Nat}{target:Expr}{it v:Value}{Q:Unit->Shared->Prop}(a:aY (.one x) target)(b:Q () s):wpAny W.M A (letOwnedTupleGo target it v) Q E s:=by
 cases a
 exact M6 b
theorem gY.walk {x:Nat}{target:Expr}{ds:List D}{fz:Prop}{e:Shared}{fp wr:List Addr}{n:Nat}{P:Nat->Value->Prop}{St:Nat->Heap->Prop}(p:aY (.one x) target)(m:Walks W.prog W.w A I fp wr n P St)(hn:n=ds.length)(st:St 0 s.heap)(sl:∀j h,St j h-> ∀b∈fp, ∃o,h.get? b=some o)(f:∀b∈wr,e.heap.get? b=none)(g:fz-> ∀b∈fp, ¬Mu b)(items:∀i d v h a,ds[i]?=some d->Fz Mu e.heap a h->P i v->Rep W a h d v):gY W A (.one x) target Mu fz ds e (.ref I) s:=
 .mk rfl hn (KTurns.ofWalks m λ_ _ _ _ _ _ q=>Ic p q) st sl m.self f g items
noncomputable abbrev j8 (W:Wd)(A:Around)(t:dj)(target:Expr)(Mu:aD)(fz:Prop)(ds:List D)(s:Shared):Value->Shared->Prop:=λit s'=>Keeps s s'/\gY W A t target Mu fz ds s it s'
theorem jB {P:Value->Prop}{vs:List Value}{i:Nat}{v:Value}(h:vs[i]?=some u)(k:vs.toArray[i]?=some v)(p:P u):P v:=MW ((fQ h).symm.trans k)▸p
theorem qS (q:Rep W Mu s.heap (.list ds) (.ref a)):¬Mu a:=jn q λ_ _ _ e m _=>Value.ref.inj e▸m
theorem hB (q:Rep W Mu s.heap (.dict ks ds) (.ref a)):¬Mu a:=jb q λ_ _ e _ m _=>Value.ref.inj e▸m
theorem vh {t:dj}{target:Expr}{v:Value}(hh:A.handled=none)(C:aY t target)(o:Old Mu s.heap)(r:aC W Mu s.heap (.list ds) v):
  wpAny W.M A (pyIter v) (j8 W A t target Mu (Rep W Mu s.heap (.list ds) v) ds s) E s:=by
 refine r.bp λa G n H l=>?_
 have z:=λI (b:a≠I)=>Walks.list (prog:=W.prog) (w:=W.w) (A:=A) hh I a b G.toArray
 exact fg (aA H) λI J K B L b f g=>⟨⟨J,_,rfl,K⟩,.mk rfl l.length.symm (KTurns.ofWalks (z I b) λi u X Q Y st M=>af st.1 λN p O=>Ib C p O.1 (by decide) M) ⟨f,g⟩
  (λj h st=>fc (ak st.1 λo e=>⟨o,e.1⟩) (fc (ak st.2 λo e=>⟨o,e.1⟩) fn)) (z I b).self (fc B fn)
  (λq=>fc (λm=>ak (o _ m) λN e=>ns (B.symm.trans e)) (fc (qS q) fn))
  λi d u h x S F T=>af (l.at S) λu' y V=>jB (P:=en W x h t d) y T (tv (V.move F))⟩
theorem Ie {x:Nat}{target:Expr}{v:Value}(hh:A.handled=none)(m:aY (.one x) target)(o:Old Mu s.heap)(r:aC W Mu s.heap (.tup ds) v):
  wpAny W.M A (pyIter v) (j8 W A (.one x) target Mu True ds s) E s:=by
 refine r.tupK λa p n q b l=>?_
 exact wpAny_pyIter_tuple (bJ b) ⟨ff s _,.walk m (Walks.tuple (A:=A) hh s.heap.objs.size a (NZ (Heap.lt_size b)) p.toArray) l.length.symm ⟨⟨_,Heap.get?_push_size _ rfl,rfl,rfl⟩,bJ (Heap.get?_push_of_some _ b)⟩
  (λj h st=>fc (ak st.1 λo e=>⟨o,e.1⟩) (fc (ak st.2 λo e=>⟨o,e.1⟩) fn)) (fc (cI _) fn) (λ_=>fc o.fresh (fc q fn))
  λi d u h f t F w=>af (l.at t) λz g y=>jB (P:=Rep W f h d) g w (y.move F)⟩
theorem D8 {x:Nat}{target:Expr}{v:Value}(hh:A.handled=none)(z:aY (.one x) target)(o:Old Mu s.heap)(r:aC W Mu s.heap (.dict ks ds) v):
  wpAny W.M A (pyIter v) (j8 W A (.one x) target Mu (Rep W Mu s.heap (.dict ks ds) v) (ks.map .str) s) E s:=by
 refine r.dO λa g na m p l=>ak (bH m) λK f=>ak m.dictAt λB b=>?_
 have hlen:(ks.zip g).length=(ks.map D.str).length:=by rw[MX,List.length_zip,p,Nat.min_self]
 refine wpAny_pyIter_dict na b ⟨ff s _,.walk z (Walks.dictKeys (knd:=strKind W.prog W.w) (A:=A) hh s.heap.objs.size a (NZ (Heap.lt_size f)) (ks.zip g) B) hlen ⟨⟨_,Heap.get?_push_size _ rfl,rfl,rfl⟩,b.at' λo e=>Heap.get?_push_of_some _ e⟩
  (λj h st=>fc (ak st.1 λo e=>⟨o,e.1⟩) (fc (eZ st.2 λo _ e=>⟨o,e.1⟩) fn)) (fc (cI _) fn) (λq=>fc o.fresh (fc (hB q) fn)) λi d u h G w F H=>aW H λk y I J=>?_⟩
 rw[Nz,(zip_fst_snd p i k y I).1] at w
 exact ak (Value.isStrOf_shape J) λt e=>e▸MW w▸cO
theorem kH {x:Nat}{target:Expr}{y:Str}{ob:Obj}{St:Nat->Heap->Prop}(b:aY (.one x) target)(o:Old Mu s.heap)(f:Walks W.prog W.w A s.heap.objs.size [s.heap.objs.size] [s.heap.objs.size] y.cps.size (SignAt y) St)(sl:∀j h,St j h-> ∃o,h.get? s.heap.objs.size=some o)(st:St 0 (s.heap.push ob)):
  j8 W A (.one x) target Mu True (y.cps.toList.map λc=>.str ⟨#[c]⟩) s (.ref s.heap.objs.size) {s with heap:=s.heap.push ob}:=by
 refine⟨ff s _,.walk b f (MX ..).symm st (λj h hs=>fc (sl j h hs) fn) (fc (cI _) fn) (λ_=>fc o.fresh fn) λi d u h g a F m=>aW m λc q p e=>?_⟩
 rw[Nz,Array.getElem?_toList,p] at a
 exact e▸MW a▸cO
theorem Ig {x:Nat}{target:Expr}{v:Value}(hh:A.handled=none)(a:aY (.one x) target)(o:Old Mu s.heap)(r:aC W Mu s.heap (.str y) v):
  wpAny W.M A (pyIter v) (j8 W A (.one x) target Mu True (y.cps.toList.map λc=>.str ⟨#[c]⟩) s) E s:=by
 refine r.fB λt=>?_
 cases ha:y.cps.all (· <128)
 .exact wpAny_pyIter_wide ha (kH a o (Walks.strWide hh _ y t) (λ_ _ h=>ak h λo e=>⟨o,e.1⟩) ⟨_,Heap.get?_push_size _ rfl,rfl,rfl⟩)
 .exact wpAny_pyIter_ascii ha (kH a o (Walks.strAscii hh _ y t) (λ_ _ h=>ak h λo e=>⟨o,e.1⟩) ⟨_,Heap.get?_push_size _ rfl,rfl,rfl⟩)
end
section
variable {W:Wd}{U:UT}{n l:Nat}{A:Around}{E:Value->Shared->Prop}{s s0:Shared}{env:Env}{c:CT}{k:Nat}{sc:Scope}{R:Nat->aD}{Mu:aD}{Z:St}
theorem vj {a b:Int}{n m:Nat}(d:a.natAbs<n)(hb:b.natAbs<m):(a+b).natAbs<n+m:=M5 (Int.natAbs_add_le a b) (Nat.add_lt_add d hb)
theorem Af {a:Int}(h:a.natAbs<2^62):Builtin.Range.rangeFitsLong a=true:=by
 refine M9.mpr ⟨Nq ?_,Nq (Int.lt_of_le_of_lt Int.le_natAbs (Int.lt_trans (N5.mpr h) (by decide)))⟩
 exact Int.neg_le_of_neg_le (Int.le_trans (show -a<=(a.natAbs:Int) from Int.natAbs_neg a▸Int.le_natAbs) (Int.le_of_lt (Int.lt_trans (N5.mpr h) (by decide))))
theorem toNat_abs (a:Int):a.toNat<=a.natAbs:=Int.toNat_le.mpr Int.le_natAbs
theorem size_le {a b c:Int}(d:a.natAbs<2^20)(hb:b.natAbs<2^20):Builtin.Range.rangeSize a b c=((Builtin.Range.rangeSize a b c).toNat:Int)/\(Builtin.Range.rangeSize a b c).toNat<=2^22:=by
 refine⟨PyProof.Rows.rangeSize_toNat a b c,M4 (PyProof.Rows.rangeSize_toNat_le a b c) ?_⟩
 have h:∀{a b:Int},a.natAbs<2^20->b.natAbs<2^20->(a - b).toNat<=2^20+2^20:=λd hb=>M4 (toNat_abs _) (ND (M5 (Int.natAbs_sub_le _ _) (Nat.add_lt_add d hb)))
 exact M4 (NY (h hb d) (h d hb)) (by decide)
theorem Ag {a b c:Int}(e:a.natAbs<2^20)(hb:b.natAbs<2^20)(d:c.natAbs<2^20):Builtin.Range.small a b c=true:=by
 have up:∀{x:Int} {n:Nat},x.natAbs<n->n<=2^62->Builtin.Range.rangeFitsLong x=true:=λh k=>Af (NF h k)
 have h:=size_le (c:=c) e hb
 have hs:Builtin.Range.rangeFitsLong (Builtin.Range.rangeSize a b c)=true:=by
  rw[h.1]
  exact up (n:=2^22+1) (by rw[Int.natAbs_natCast];exact O1 h.2) (by decide)
 unfold Builtin.Range.small
 rw[up e (by decide),up hb (by decide),up d (by decide),hs]
 refine Oi.mpr (.inr ?_)
 by_cases q:c>0
 .rw[M7 q];exact up (vj hb (M5 (Int.natAbs_sub_le c 1) (Nat.add_lt_add_right d _))) (by decide)
 .rw[M8 q];exact up (vj hb (M5 (Int.natAbs_add_le c 1) (Nat.add_lt_add_right d _))) (by decide)
theorem Ah {x:Nat}{target:Expr}{b c:Int}{t v:Tok}{r:Addr}(hh:A.handled=none)(w:aY (.one x) target)(o:Old Mu s0.heap)(m:Keeps s0 s)(hr:IsRange s.heap r a b c t u v)(p:a.natAbs<2^20)(hb:b.natAbs<2^20)(y:c.natAbs<2^20):
  wpAny W.M A (pyIter (.ref r)) (λit s'=>Keeps s s'/\gY W A (.one x) target Mu True (wK a b c) s0 it s') E s:=by
 have h:=size_le (c:=c) p hb
 refine wpAny_pyIter_range hr (Ag p hb y) ⟨ff s _,.walk w (Walks.range (A:=A) hh s.heap.objs.size a c (Builtin.Range.rangeSize a b c).toNat) ((MX ..).trans Nk).symm ?_ (λj h hs=>fc ⟨_,hs⟩ fn) (fc (fY m) fn) (λ_=>fc (o.keep (ag m)).fresh fn) λi d u h z f F B=>?_⟩
 .show IsRangeIter _ _ _ _ _
  rw[<-h.1,show((0:Nat):Int)=0 from rfl,Int.zero_mul,Int.add_zero,Int.sub_zero]
  exact Heap.get?_push_size _ rfl
 .refine ak B λt e=>?_
  unfold wK at f
  rw[Nz] at f
  refine af (om f) λj g q=>?_
  obtain rfl:i=j:=ak (Ny.mp g) λhi g=>List.getElem_range hi▸g
  exact e▸q▸aN
theorem D9 {ks:List Str}{vs:List Value}(a:ks.length=vs.length)(b:aq W Mu h ds vs):(ks.zip vs).length=ds.length:=by rw[List.length_zip,a,Nat.min_self,b.length]
theorem xh {x:Nat}{target:Expr}{v:Addr}(hh:A.handled=none)(B:aY (.one x) target)(o:Old Mu s0.heap)(f:Keeps s0 s)(r:aC W Mu s0.heap (.dict ks ds) (.ref a))(C:s.heap.IsValuesView v a):
  wpAny W.M A (pyIter (.ref v)) (λit s'=>Keeps s s'/\gY W A (.one x) target Mu (Rep W Mu s0.heap (.dict ks ds) (.ref a)) ds s0 it s') E s:=by
 refine jY (iJ r) λO t G na g w y=>?_
 obtain rfl:=Value.ref.inj G
 have z:s.heap.DictOf (strKind W.prog W.w) a (ks.zip t):=bl g λo e=>ag f _ _ e
 refine ak (bH z) λP m=>ak z.dictAt λH b=>?_
 exact wpAny_pyIter_values C b ⟨ff s _,.walk B (Walks.dictValues (knd:=strKind W.prog W.w) (A:=A) hh s.heap.objs.size a (NZ (Heap.lt_size m)) (ks.zip t) H) (D9 w y) ⟨⟨_,Heap.get?_push_size _ rfl,rfl,rfl⟩,b.at' λo e=>Heap.get?_push_of_some _ e⟩
  (λj h st=>fc (ak st.1 λo e=>⟨o,e.1⟩) (fc (eZ st.2 λo _ e=>⟨o,e.1⟩) fn)) (fc (fY f) fn) (λq=>fc (o.keep (ag f)).fresh (fc (hB q) fn))
  λi d u h J K F L=>ak L λk M=>af (y.at K) λQ p N=>MW (p.symm.trans (zip_fst_snd w i k u M).2)▸N.move F⟩
theorem qT (xs:List D):∀ys:List D,(iV xs ys).length=min xs.length ys.length:=by
 induction xs with
 |nil=>exact λys=>(Nat.zero_min _).symm
 |cons x xs a=>
  intro ys
  cases ys with
  |nil=>rfl
  |cons y ys=>exact(MY (· +1) (a ys)).trans (Nat.add_min_add_right ..).symm
theorem vm :∀{ys:List D}{i:Nat}{d:D},(iV xs ys)[i]?=some d-> ∃x y,xs[i]?=some x/\ys[i]?=some y/\d=.tup [x,y]:=by
 induction xs with
 |nil=>exact λh=>ns h
 |cons x xs a=>
  intro ys i d h
  cases ys with
  |nil=>exact ns h
  |cons y ys=>
   cases i with
   |zero=>exact⟨x,y,rfl,rfl,(MW h).symm⟩
   |succ i=>exact a h
theorem Ai (xs:List D):∀k:Nat,(dN k xs).length=xs.length:=by
 induction xs with
 |nil=>exact λ_=>rfl
 |cons x xs a=>exact λk=>MY (· +1) (a (k+1))
theorem Ea :∀{k i:Nat}{d:D},(dN k xs)[i]?=some d-> ∃x,xs[i]?=some x/\d=.tup [.int ((k+i:Nat):Int),x]:=by
 induction xs with
 |nil=>exact λh=>ns h
 |cons x xs a=>
  intro k i d h
  cases i with
  |zero=>exact⟨x,rfl,(MW h).symm⟩
  |succ i=>exact af (a h) λy b e=>⟨y,b,by rw[e,Nat.add_right_comm k 1 i];rfl⟩
theorem lW:entryFor table "dict_itemiterator.__iter__"=some Builtin.«dict_keyiterator.__iter__»:=
 entryFor_alias (id':="dict_keyiterator.__iter__") (by kernel_rfl) rfl (by decide+kernel) (by kernel_rfl)
theorem tx {d:Addr}{i n:Nat}{Q:Value->Shared->Prop}(st:∃ok b,IsItemIter s.heap I d i n ep ok b)(h:Q (.ref I) s):wpAny W.M A (pyIter (.ref I)) Q E s:=by
 refine eZ st λok b e=>?_
 have a:s.TypeIs (.ref I) "dict_itemiterator":=⟨_,e,rfl⟩
 refine wpAny_pyIter_slot a F.slot_dict_itemiterator_iter (OJ F.slot_dict_itemiterator_iter a lW ?_ (F.args_dict_itemiterator_iter_1 _))
 show wpAny _ _ (ret (.ref I)) _ _ s
 exact M6 ⟨_,rfl,"dict_itemiterator",_,a,F.slot_dict_itemiterator_next.lookup,h⟩
theorem Aj {target:Expr}{v:Addr}(hh:A.handled=none)(I:aY (.many xs) target)(o:Old Mu s0.heap)(m:Keeps s0 s)(r:aC W Mu s0.heap (.dict ks ds) (.ref a))(J:s.heap.IsItemsView v a):
  wpAny W.M A (pyIter (.ref v)) (λit s'=>Keeps s s'/\gY W A (.many xs) target Mu (Rep W Mu s0.heap (.dict ks ds) (.ref a)) (iV (ks.map .str) ds) s0 it s') E s:=by
 refine jY (iJ r) λa' w K na x L G=>?_
 obtain rfl:=Value.ref.inj K
 cases I
 have H:s.heap.DictOf (strKind W.prog W.w) a (ks.zip w):=bl x λo e=>ag m _ _ e
 refine ak (bH H) λo' z=>ak H.dictAt λM b=>?_
 have hlen:(ks.zip w).length=(iV (ks.map .str) ds).length:=by rw[qT,MX,List.length_zip,G.length]
 refine wpAny_pyIter_items J b ⟨ff s _,.mk rfl hlen (kti_itemsTurns (knd:=strKind W.prog W.w) (A:=A) hh s.heap.objs.size a (NZ (Heap.lt_size z)) (ks.zip w) M) ⟨⟨.none,.none,Heap.get?_push_size _ rfl⟩,b.at' λo e=>Heap.get?_push_of_some _ e⟩
  (λj h st=>fc (eZ st.1 λ_ _ e=>⟨_,e⟩) (fc (eZ st.2 λo _ e=>⟨o,e.1⟩) fn)) (λj s Q E st h=>tx st.1 h) (fc (fY m) fn) (λq=>fc (o.keep (ag m)).fresh (fc (hB q) fn)) λi d u h O P F S p q e=>?_⟩
 refine JU S λT B k y V X f Y=>aP (vm P) λx' y' hx hy e'=>au (zip_fst_snd L i k y X) λf1 f2=>af (G.at hy) λu' C ru=>ak (Value.isStrOf_shape f) λt e2=>?_
 have g:=D.tup.inj (e.symm.trans e')
 rw[Nz,f1] at hx
 have hp:p=.str k:=(Oo g).1.trans (MW hx).symm
 have hq:q=y':=(Oo (Oo g).2).1
 have hu:u'=y:=MW (C.symm.trans f2)
 exact⟨T,B,y,V,Y,hp▸e2▸cO,hq▸hu▸ru.move F⟩
theorem hH {s:Shared}(k:Keeps s s'){b:Addr}(h:s'.heap.objs.size<=b):s.heap.get? b=none:=by
 cases e:s.heap.get? b with
 |none=>rfl
 |some o=>exact absurd (Heap.lt_size (ag k _ _ e)) (Nat.not_lt.mpr h)
theorem Eb {xs:List Nat}{target:Expr}{ds:List D}{v:Value}(hh:A.handled=none)(J:aY (.many xs) target)(r:aC W Mu s.heap (.list ds) v):
  wpAny W.M A (call (.type "enumerate") [v]) (λK s1=>Keeps s s1/\wpAny W.M A (pyIter K) (λit s'=>Keeps s1 s'/\gY W A (.many xs) target Mu False (dN 0 ds) s it s') E s1) E s:=by
 refine r.bp λa L n g l=>?_
 cases J
 have b:a<s.heap.objs.size:=Heap.lt_size g
 have C:=WalksT.enumerate (prog:=W.prog) (w:=W.w) (A:=A) hh (s.heap.objs.size+1) s.heap.objs.size a (Nat.succ_ne_self _) (NZ (OF b)) (NZ b) L.toArray
 refine call_enumerate_list (aA g) λM G m N H=>⟨⟨M,_,rfl,H⟩,wpAny_pyIter_enum G ⟨aG _,.mk rfl (l.length.symm.trans (Ai ds 0).symm) (KTurns.ofWalksU C.toU) ⟨⟨_,G⟩,m,aA (H _ _ g)⟩
  (λj h st=>fc (ak st.1 λ_ e=>⟨_,e⟩) (fc (ak st.2.1 λo e=>⟨o,e.1⟩) (fc (ak st.2.2 λo e=>⟨o,e.1⟩) fn))) C.self (fc (hH (aG s) (OK _)) (fc (hH (aG s) (NB _)) fn)) False.elim λi d u h x O F Q p q e=>?_⟩⟩
 refine aP Q λT vals S z V=>aW z λt y z X=>af (Ea O) λI hx Y=>af (l.at hx) λu' B ru=>?_
 have f:=D.tup.inj (e.symm.trans Y)
 have hp:p=.int (i:Int):=(Oo f).1.trans (MY (λk:Nat=>D.int (k:Int)) (Nat.zero_add i))
 have hq:q=I:=(Oo (Oo f).2).1
 exact⟨T,_,y,S,X▸V,hp▸aN,hq▸jB (P:=λv=>Rep W x h I v) B z (ru.move F)⟩
theorem Ih {xs:List Nat}{target:Expr}{ds es:List D}{v u:Value}(hh:A.handled=none)(X:aY (.many xs) target)(r:aC W Mu s.heap (.list ds) v)(q:aC W Mu s.heap (.list es) u):
  wpAny W.M A (call (.type "zip") [v,u]) (λY s1=>Keeps s s1/\wpAny W.M A (pyIter Y) (λit s'=>Keeps s1 s'/\gY W A (.many xs) target Mu False (iV ds es) s it s') E s1) E s:=by
 refine r.bp λa vs n H l=>q.bp λb us m hb Q=>?_
 cases X
 have t:a<s.heap.objs.size:=Heap.lt_size H
 have g:b<s.heap.objs.size:=Heap.lt_size hb
 have f:∀{x:Nat} (k:Nat),x<s.heap.objs.size->x≠s.heap.objs.size+k:=λk h=>NZ (NF h (NM _ _))
 have B:∀j k:Nat,j≠k->s.heap.objs.size+j≠s.heap.objs.size+k:=λj k h e=>h (Nat.add_left_cancel e)
 have apart:ZipApart (s.heap.objs.size+4) (s.heap.objs.size+2) (s.heap.objs.size+3) s.heap.objs.size (s.heap.objs.size+1) a b:=by
  have z:∀k:Nat,k≠0->s.heap.objs.size≠s.heap.objs.size+k:=λk=>λh e=>B 0 k h.symm e
  constructor<;>first|exact f _ t|exact f _ g|exact f 0 t|exact f 0 g|exact B _ _ (by decide)|exact z _ (by decide)|exact(z _ (by decide)).symm
 have S:=WalksT.zip2 (prog:=W.prog) (w:=W.w) (A:=A) hh _ _ _ _ _ _ _ apart vs.toArray us.toArray
 have fr:∀k,s.heap.get? (s.heap.objs.size+k)=none:=λk=>hH (aG s) (NM _ _)
 refine call_zip_2 (aA H) (aA hb) λh' V h1 h2 i1 i2 hsz I=>⟨⟨h',_,rfl,I⟩,wpAny_pyIter_zip V ⟨aG _,.mk rfl ?_ (KTurns.ofWalksU S.toU) ⟨V,h1,⟨_,_,h2⟩,i1,i2,aA (I _ _ H),aA (I _ _ hb)⟩
  (λj h st=>fc ⟨_,st.1⟩ (fc ⟨_,st.2.1⟩ (fc (eZ st.2.2.1 λ_ _ e=>⟨_,e⟩) (fc (ak st.2.2.2.1 λo e=>⟨o,e.1⟩) (fc (ak st.2.2.2.2.1 λo e=>⟨o,e.1⟩) (fc (ak st.2.2.2.2.2.1 λo e=>⟨o,e.1⟩) (fc (ak st.2.2.2.2.2.2 λo e=>⟨o,e.1⟩) fn)))))))
  S.self (fc (fr 4) (fc (fr 3) (fc (fr 0) (fc (fr 1) fn)))) False.elim λi d u h C hd F hP p q e=>?_⟩⟩
 .rw[qT,l.length,Q.length];rfl
 .refine aP hP λT vals e1 J hT=>aP J λx y hx J e2=>aP (vm hd) λx' y' K L e'=>af (l.at K) λu' M ru=>af (Q.at L) λw' N O=>?_
  have G:=D.tup.inj (e.symm.trans e')
  exact⟨T,x,y,e1,e2▸hT,(Oo G).1▸jB (P:=λv=>Rep W C h x' v) M hx (ru.move F),(Oo (Oo G).2).1▸jB (P:=λv=>Rep W C h y' v) N J (O.move F)⟩
end
def KB (X:aD)(s s':Shared):Prop:= ∃h a,s'={s with heap:=h,toks:=a}/\ ∀b o, ¬X b->s.heap.get? b=some o->h.get? b=some o
theorem KB.refl (X:aD)(s:Shared):KB X s s:=⟨s.heap,s.toks,rfl,λ_ _ _ e=>e⟩
@[elab_as_elim] theorem KB.K {X:aD}{s:Shared}{motive:Shared->Prop} (a:KB X s s') (k:∀h t,(∀b o, ¬X b->s.heap.get? b=some o->h.get? b=some o)->motive {s with heap:=h,toks:=t}):motive s':=aW a λh t e p=>e▸k h t p
theorem KB.trans {X:aD}{s c:Shared}(a:KB X s s')(b:KB X s' c):KB X s c:=
 a.K (motive:=λs'=>KB X s' c->KB X s c) (λ_ _ p b=>b.K λd f q=>⟨d,f,rfl,λb o n e=>q b o n (p b o n e)⟩) b
theorem KB.of {X:aD}{s:Shared}(k:Keeps s s'):KB X s s':=aW k λh t e p=>⟨h,t,e,λb o _ e=>p b o e⟩
theorem KB.get {X:aD}{s:Shared}(k:KB X s s'):∀b o, ¬X b->s.heap.get? b=some o->s'.heap.get? b=some o:=k.K λ_ _ p=>p
theorem KB.mono {X Y:aD}{s:Shared}(k:KB X s s')(h:∀b,X b->Y b):KB Y s s':=aW k λa t e p=>⟨a,t,e,λb o n e=>p b o (λx=>n (h b x)) e⟩
theorem KB.keeps {X:aD}{s:Shared}(k:KB X s s')(h:∀b,X b->s.heap.get? b=none):Keeps s s':=aW k λa t e p=>⟨a,t,e,λb o e=>p b o (λx=>ns ((h b x).symm.trans e)) e⟩
def iY (sc:Scope)(env:Env)(b:Addr):Prop:=b=env.locals\/ ∃n,sc.names.lookup n=some .cell/\env.cells.lookup n=some b
section
variable {W:Wd}{U:UT}{n l:Nat}{A:Around}{E:Value->Shared->Prop}{s s0:Shared}{env:Env}{c:CT}{k:Nat}{sc:Scope}{R:Nat->aD}{Mu:aD}{Z:St}
theorem fh.lives (x:fh env h){b:Addr}(hb:iY sc env b):∃o,h.get? b=some o:=
 hb.elim (λq=>sS x.ns λ_ o _ _ e _=>⟨o,q▸e⟩) λq=>af q λn _ e=>aW (x.cells n b e) λ_ o e _=>⟨o,e⟩
theorem tA (a:env.scope.kind=.function):(env.scope.kind== .class||(env.scope.kind== .module&&env.locals !=env.globals))=false:=by rw[a];rfl
theorem Ec {h:Heap}{m b:Str->Option Value}(p:h.Ns a b)(q:h.Ns a m)(y:Str):b y=m y:=
 dX p λv d e f g _ i=>dX q λw j o r t _ u=>by
  obtain rfl:=MW (f.symm.trans r)
  obtain rfl:=(Data.dict.inj (g.symm.trans t)).1
  exact(i y).symm.trans (u y)
theorem jC {x:Str}{v:Value}{Q:Unit->Shared->Prop}(ok:jx sc env)(lv:fh env s.heap)(hx:sc.names.lookup x=some .local\/sc.names.lookup x=some .cell)(B:∀s',KB (iY sc env) s s'->aJ env s'.heap x v->(∀y u,y≠x->aJ env s.heap y u->aJ env s'.heap y u)->fh env s'.heap->Q () s'):
  wpAny W.M A (storeName env x v) Q E s:=by
 cases hx with
 |inl hx=>
  have g:=ok.sub x _ hx (by decide)
  refine ak lv.ns λm j=>?_
  refine wpAny_storeName_local g j (λr hn hs=>B _ ⟨r,_,rfl,λb o nb e=>hs.extBut b o (λh=>nb (.inl h)) e⟩ (.inl ⟨g,_,hn,M7 rfl⟩) (λy u t na=>?_) ⟨⟨_,hn⟩,λn c e=>ak (lv.cells n c e) λw q=>⟨w,q.sameBut hs (ok.lay.apart n c e)⟩⟩) (tA ok.kind)
  exact na.imp (λq=>⟨q.1,af q.2 λC a d=>⟨_,hn,(M8 t).trans ((Ec a j y).symm.trans d)⟩⟩) λq=>⟨q.1,af q.2 λc a d=>⟨c,a,d.sameBut hs (ok.lay.apart y c a)⟩⟩
 |inr hx=>
  have g:=ok.sub x _ hx (by decide)
  refine ak (ok.cells x (.inl hx)).1 λc f=>ak (lv.cells x c f) λv0 z=>?_
  refine wpAny_storeName_cell ok.kind g f z λr D hs=>B _ ⟨r,_,rfl,λb o nb e=>hs.extBut b o (λh=>nb (.inr ⟨x,hx,h▸f⟩)) e⟩ (.inr ⟨.inl g,c,f,D⟩) (λy u t na=>?_) ⟨ak lv.ns λm j=>⟨m,j.sameBut hs (Ox (ok.lay.apart x c f))⟩,λy p e=>?_⟩
  .exact na.imp (λq=>⟨q.1,af q.2 λC a d=>⟨C,a.sameBut hs (Ox (ok.lay.apart x c f)),d⟩⟩) λq=>⟨q.1,af q.2 λp a d=>⟨p,a,d.sameBut hs λe=>t (ok.lay.inj y x c (e▸a) f)⟩⟩
  .by_cases i:p=c
   .exact⟨_,i▸D⟩
   .exact ak (lv.cells y p e) λw q=>⟨w,q.sameBut hs i⟩
structure Wr (sc:Scope)(env:Env)(R:Nat->aD)(Mu:aD):Prop where
 mu:∀b,iY sc env b->Mu b
 no:∀b,iY sc env b-> ∀i, ¬R i b
theorem j9 {aE:List Str}{x:Str}{i j:Nat}(h:aE.idxOf? x=some i)(a:aE[j]?=some x)(nd:aE.Nodup):j=i:=
 ak (Ny.mp (cz h)) λ_ b=>ak (Ny.mp a) λ_ d=>(List.getElem_inj nd).mp (d.trans b.symm)
theorem bP {x:Str}{i:Nat}(h:cv c sc x=some i):(sc.names.lookup x=some .local\/sc.names.lookup x=some .cell)/\c.aE.idxOf? x=some i:=
 au (fe h) λa h=>⟨(Oi.mp a).imp eq_of_beq eq_of_beq,h⟩
theorem fi {i:Nat}{sl:Slot}{G:Prop}(e:Z.set i a j=some sl)(k1:j=i->a=sl->G)(k2:j≠i->Z j=some sl->G):G:=by
 have e:(if j=i then some a else Z j)=some sl:=e
 by_cases h:j=i
 .rw[M7 h] at e;exact k1 h (MW e)
 .rw[M8 h] at e;exact k2 h e
theorem pn {x:Str}{i:Nat}{d:D}{v:Value}(C:Cx W c.aE sc env R Mu Z A l s)(wr:Wr sc env R Mu)(hi:c.aE.idxOf? x=some i)(nd:c.aE.Nodup)(r:Rep W Mu s.heap d v)(kb:KB (iY sc env) s s')(na:aJ env s'.heap x v)(ot:∀y u,y≠x->aJ env s.heap y u->aJ env s'.heap y u)(lv:fh env s'.heap):Cx W c.aE sc env R Mu (Z.set i (.val d)) A l s' where
 ok:=C.ok
 base:=λb o e=>kb.get b o (λf=>ns ((C.above b (wr.mu b f)).symm.trans e)) (C.base b o e)
 old:=λb m=>by
  by_cases f:iY sc env b
  .exact lv.lives f
  .exact ak (C.old b m) λo e=>⟨o,kb.get b o f e⟩
 sub:=C.sub
 above:=C.above
 view:=λj sl e=>fi e (λhj e=>e▸hj▸⟨x,v,cz hi,na,r.move λb o m e=>⟨m,kb.get b o (λf=>m (wr.mu b f)) e⟩⟩)
  λhj e=>aP (C.view j sl e) λy u hy n q=>⟨y,u,hy,ot y u (λhxy=>hj (j9 hi (hxy▸hy) nd)) n,q.move (λb o m e=>⟨m,kb.get b o (λf=>m (wr.mu b f)) e⟩) (λb o m e=>kb.get b o (λf=>wr.no b f j m) e) λ_ x=>x⟩
 good:=C.good
 tb:=C.tb
 live:=lv
def EV.of:EV->Expr->Prop
 | .name x p,e=>e=.Name x p
 | .tup b k p,e=>e=.Tuple b k p
 | .attr o a p,e=>e=.Attribute o a p
 | .item a i p,e=>e=.Subscript a i p
 | .slice lo hi st p,e=>e=.Slice lo hi st p
 | .set x g i p,e=>e=.SetComp x g i p
 | .call f a k p,e=>e=.Call f a k p
 | .other,_=>True
theorem Ho (e:Expr):(gK e).of e:=by
 cases e with
 |Name=>exact rfl
 |Tuple=>exact rfl
 |Attribute=>exact rfl
 |Subscript=>exact rfl
 |Slice=>exact rfl
 |SetComp=>exact rfl
 |Call=>exact rfl
 |_=>exact True.intro
theorem lX {e:Expr}{v:EV}(h:gK e=v):v.of e:=h▸Ho e
@[elab_as_elim] theorem Ed {b d:Type}{g:b->Option d}{l:List b}{r:d}{motive:List b->Prop} (h:DN g l=some r) (k:∀a,g a=some r->motive [a]):motive l:=by
 cases l with
 |nil=>exact ns h
 |cons a l=>
  cases l with
  |nil=>exact k a h
  |cons _ _=>exact ns h
@[elab_as_elim] theorem Ii {d e:Type}{g:d->d->Option e}{l:List d}{r:e}{motive:List d->Prop} (h:JI g l=some r) (k:∀a b,g a b=some r->motive [a,b]):motive l:=by
 cases l with
 |nil=>exact ns h
 |cons a l=>
  cases l with
  |nil=>exact ns h
  |cons b l=>
   cases l with
   |nil=>exact k a b h
   |cons _ _=>exact ns h
theorem xi {v:EV}{x:Str}(h:(match v with
  | .name x _=>some x
  |_=>none)=some x):∃p,v=.name x p:=by
 cases v with
 |name y p=>exact⟨p,MW h▸rfl⟩
 |_=>exact ns h
theorem bh {e:Expr}{x:Str}(h:nameOf e=some x):∃p,e=.Name x p:=ak (xi h) λp q=>⟨p,lX q⟩
theorem qU {e:Expr}{i:Nat}(h:lG c sc e=some i):∃x p,e=.Name x p/\cv c sc x=some i:=af (ob h) λx a h=>ak (bh a) λp e=>⟨x,p,e,h⟩
inductive LJ (c:CT)(sc:Scope):Expr->dj->Prop
 |one {x:Str}{p:Pos}{i:Nat}:cv c sc x=some i->LJ c sc (.Name x p) (.one i)
 |two {x y:Str}{px py p:Pos}{i j:Nat}{kk:Nat}:cv c sc x=some i->cv c sc y=some j->LJ c sc (.Tuple [.Name x px,.Name y py] kk p) (.many [i,j])
theorem tB {e:Expr}{t:dj}(h:iW c sc e=some t):LJ c sc e t:=by
 have q:=Ho e
 have h:(match gK e with
  | .name x _=>(cv c sc x).map dj.one
  | .tup g _ _=>JI (λa b=>(lG c sc a).bind λi=>(lG c sc b).bind λj=>if i=j then none else some (dj.many [i,j])) g
  |_=>none)=some t:=h
 revert q h
 generalize gK e=v
 intro q h
 cases v with
 |name x p=>exact(show e=.Name x p from q)▸wM (R:=LJ c sc _) (f:=dj.one) h λ_ q=>.one q
 |tup g u p=>
  rw[show e=.Tuple g u p from q]
  refine Ii h λa b h=>aP (zr (o:=lG c sc a) (p:=lG c sc b) h) λi j m r d=>aW (qU m) λx B w m=>aW (qU r) λy C z r=>?_
  rw[w,z]
  by_cases q:i=j
  .rw[M7 q] at d;exact ns d
  .rw[M8 q] at d;exact cq d (.two m r)
 |_=>exact ns h
theorem nW {x:Nat}{d:D}(h:bB Z (.many [x,y]) d=some Z'):∃a b,d=.tup [a,b]/\(Z.set x (.val a)).set y (.val b)=Z':=by
 cases d with
 |tup e=>
  rcases e with _|⟨a,_|⟨b,_|⟨_,_⟩⟩⟩
  .exact ns h
  .exact ns h
  .exact⟨a,b,rfl,MW h⟩
  .exact ns h
 |_=>exact ns h
theorem Ee {target:Expr}{t:dj}{d:D}{v:Value}{Q:Unit->Shared->Prop}(C:Cx W c.aE sc env R Mu Z A l s)(wr:Wr sc env R Mu)(nd:c.aE.Nodup)(lv:fh env s.heap)(ht:iW c sc target=some t)(r:en W Mu s.heap t d v)(e:bB Z t d=some Z')(F:∀s',KB (iY sc env) s s'->Cx W c.aE sc env R Mu Z' A l s'->fh env s'.heap->Q () s'):wpAny W.M A (assign target env v) Q E s:=by
 have g:=tB ht
 clear ht
 induction g with
 |one hi=>
  refine au (bP hi) λhx hi=>?_
  obtain rfl:=MW e
  exact OX (jC C.ok lv hx λs' kb na ot i=>F s' kb (pn C wr hi nd r kb na ot i) i)
 |two hi x=>
  refine au (bP hi) λhx hi=>?_
  refine au (bP x) λJ x=>?_
  refine aW (nW e) λa b y h=>?_;subst y;subst h
  refine dX (r a b rfl) λT S vb h K L M=>?_;subst h
  refine wpAny_assign_Tuple C.good.hh K rfl rfl λu hs=>?_
  have w:Keeps s {s with heap:=u}:=⟨u,_,rfl,λb o e=>hs b o (NZ (Heap.lt_size e)) e⟩
  have G:Fz Mu s.heap Mu u:=Fz.keep λb o e=>ag w b o e
  have H:=C.keep w
  refine wpAny_assignInOrder_more (OX (jC H.ok (lv.keeps (ag w)) hx λN kb na ot j=>?_))
  have I:=pn H wr hi nd (L.move G) kb na ot j
  have O:Fz Mu u Mu N.heap:=λb o m e=>⟨m,kb.get b o (λf=>m (wr.mu b f)) e⟩
  refine wpAny_assignInOrder_more (OX (jC I.ok j J λP p z B q=>wpAny_assignInOrder_none ?_))
  exact F P ((KB.of w).trans (kb.trans p)) (pn I wr x nd (M.move (G.trans O)) p z B q) q
end
theorem pq {n:Nat}{x:Str}{k:NameKind}{r:List (Str×NameKind)}{acc:List (Str×Addr)}:cellsFrom n ((x,k)::r) acc=if(k== .cell)=true then cellsFrom (n+1) r ((x,n)::acc) else cellsFrom n r acc:=rfl
theorem eo (names:List (Str×NameKind)):∀(n:Nat) (acc:List (Str×Addr)),cellsFrom n names acc=cellsFrom n names []++acc:=by
 induction names with
 |nil=>exact λ_ _=>rfl
 |cons p r a=>
  intro n acc
  rw[pq,pq]
  by_cases h:(p.2== .cell)=true
  .rw[M7 h,M7 h,a (n+1) (_::acc),a (n+1) [_],NS];rfl
  .rw[M8 h,M8 h];exact a n acc
theorem lY (a b:List (Str×Addr))(x:Str):(a++b).lookup x=(a.lookup x).or (b.lookup x):=by
 induction a with
 |nil=>rfl
 |cons p a c=>
  rw[List.cons_append,List.lookup_cons,List.lookup_cons]
  cases x==p.1 with
  |true=>rfl
  |false=>exact c
theorem fS {names:List (Str×NameKind)}:∀{n:Nat}{x:Str}{c:Addr},(x,c)∈cellsFrom n names []->(x,NameKind.cell)∈names:=by
 induction names with
 |nil=>exact λh=>nomatch h
 |cons p r b=>
  intro n x c h
  rw[pq] at h
  by_cases a:(p.2== .cell)=true
  .rw[M7 a,eo] at h
   refine(NK.mp h).elim (λh=>.tail _ (b h)) λh=>?_
   have e:=Nh.mp h
   have d:x=p.1:=MY Prod.fst e
   have:(x,NameKind.cell)=p:=Prod.ext d (eq_of_beq a).symm
   exact this▸ .head _
  .rw[M8 a] at h;exact .tail _ (b h)
structure Kg (sc isc:Scope):Prop where
 kind:isc.kind=.function
 look:∀x∈isc.names,isc.names.lookup x.1=some x.2
 free:∀x∈isc.names,x.2=.free->sc.names.lookup x.1=some .cell\/sc.names.lookup x.1=some .free
theorem pv {sc:Scope}(h:DC sc a=true):Kg sc a:=by
 have h:=(M9.mp (M9.mp h).1).1
 have b:=(M9.mp (M9.mp h).1)
 refine⟨eq_of_beq b.1,λx hx=>eq_of_beq (Nx.mp b.2 x hx),λx hx c=>?_⟩
 have:=Nx.mp (M9.mp h).2 x hx
 rw[c] at this
 exact(Oi.mp this).imp eq_of_beq eq_of_beq
section
variable {W:Wd}{U:UT}{n l:Nat}{A:Around}{E:Value->Shared->Prop}{s s0:Shared}{env:Env}{c:CT}{k:Nat}{sc isc:Scope}{R:Nat->aD}{Mu:aD}{Z:St}
theorem Ef (ok:jx sc env)(names:List (Str×NameKind)):∀(acc:List (Str×Addr)),(∀x∈names,x.2=.free->sc.names.lookup x.1=some .cell\/sc.names.lookup x.1=some .free)->
  ∃cl,(forIn names acc λx j=>if(x.2==NameKind.free)=true then do let a<-cellOf env x.1;pure (ForInStep.yield ((x.1,a)::j)) else pure (ForInStep.yield j):Sem (List (Str×Addr)))=pure cl/\
   (∀x c,(x,c)∈cl->(x,c)∈acc\/((x,NameKind.free)∈names/\env.cells.lookup x=some c))/\(∀x,(x,NameKind.free)∈names-> ∃c,(x,c)∈cl)/\(∀y∈acc,y∈cl):=by
 induction names with
 |nil=>exact λacc _=>⟨acc,List.forIn_nil ..,λx c h=>.inl h,λx h=>absurd h Nl,λy h=>h⟩
 |cons p r m=>
  intro acc o
  have hr:=λx hx=>o x (Nj _ hx)
  rw[List.forIn_cons]
  by_cases d:(p.2== .free)=true
  .have t:=eq_of_beq d
   refine ak (ok.cells p.1 (o _ Nf t)).1 λa u=>ni (m ((p.1,a)::acc) hr) λcl e g i f=>⟨cl,?_,λx c b=>?_,λx b=>?_,λz v=>f z (Nj _ v)⟩
   .rw[M7 d,show cellOf env p.1=pure a by unfold cellOf;rw[u],pure_bind,pure_bind]
    exact e
   .refine(g x c b).elim (λb=>(Np.mp b).elim (λe=>.inr ?_) .inl) λq=>.inr ⟨Nj _ q.1,q.2⟩
    have ex:x=p.1:=MY Prod.fst e
    have w:c=a:=MY Prod.snd e
    exact⟨show(x,NameKind.free)∈p::r from(Prod.ext ex t.symm:(x,NameKind.free)=p)▸ .head _,ex▸w▸u⟩
   .exact(Np.mp b).elim (λe=>⟨a,f _ ((MY Prod.fst e:x=p.1)▸ .head _)⟩) (i x)
  .refine ni (m acc hr) λcl e g i f=>⟨cl,?_,λx c b=>(g x c b).imp id λq=>⟨Nj _ q.1,q.2⟩,λx b=>?_,f⟩
   .rw[M8 d,pure_bind]
    exact e
   .exact(Np.mp b).elim (λe=>absurd (NJ.mpr (MY Prod.snd e).symm) d) (i x)
theorem Ak {l:List (Str×Addr)}{x:Str}{c:Addr}(h:(x,c)∈l):∃b,l.lookup x=some b:=by
 induction l with
 |nil=>exact nomatch h
 |cons p r d=>
  rw[List.lookup_cons]
  cases a:x==p.1 with
  |true=>exact⟨p.2,rfl⟩
  |false=>exact(Np.mp h).elim (λe=>nb (a.symm.trans (NJ.mpr (MY Prod.fst e)))) d
theorem kW (ok:jx sc env)(b:Kg sc isc):∃cl,closureFor isc env=pure cl/\(∀x c,cl.lookup x=some c->isc.names.lookup x=some .free/\env.cells.lookup x=some c)/\(∀x,isc.names.lookup x=some .free-> ∃c,cl.lookup x=some c/\env.cells.lookup x=some c):=by
 have old:∀{cl:List (Str×Addr)} {x c},((x,c)∈([]:List (Str×Addr))\/((x,NameKind.free)∈isc.names/\env.cells.lookup x=some c))->(x,NameKind.free)∈isc.names/\env.cells.lookup x=some c:=λh=>h.elim (λh=>nomatch h) id
 refine ni (Ef ok isc.names [] b.free) λcl e d g _=>⟨cl,?_,λx c h=>?_,λx hx=>?_⟩
 .exact(MY (λt:Sem (List (Str×Addr))=>t>>=λi=>pure i) e).trans (pure_bind _ _)
 .have q:=old (cl:=cl) (d x c (NC h))
  exact⟨b.look _ q.1,q.2⟩
 .exact ak (g x (NC hx)) λc j=>ak (Ak j) λf a=>⟨f,a,(old (cl:=cl) (d x f (NC a))).2⟩
theorem gq {x:Str}{kd:NameKind}{names:List (Str×NameKind)}(h:names.lookup x=some kd):
  (names.map λ(n,k)=>if(k==NameKind.free&&env.scope.kind== .function&&env.kindOf n==some .cell) then(n,NameKind.cell) else(n,k)).lookup x=
   some (if(kd==NameKind.free&&env.scope.kind== .function&&env.kindOf x==some .cell) then .cell else kd):=by
 induction names with
 |nil=>exact ns h
 |cons p r a=>
  rw[List.lookup_cons] at h
  have e:∀b:Bool,(if b=true then(p.1,NameKind.cell) else(p.1,p.2))=(p.1,if b=true then NameKind.cell else p.2):=λb=>by cases b<;>rfl
  show List.lookup x ((if(p.2==NameKind.free&&env.scope.kind== .function&&env.kindOf p.1==some .cell)=true then(p.1,NameKind.cell) else(p.1,p.2))::_)=_
  rw[e,List.lookup_cons]
  cases hx:x==p.1 with
  |true=>
   rw[hx] at h
   rw[eq_of_beq hx, <-MW h]
  |false=>
   rw[hx] at h
   exact a h
noncomputable abbrev cJ (isc:Scope)(L:Nat)(cl:List (Str×Addr)):List (Str×Addr):=cellsFrom (L+1) isc.names cl
noncomputable abbrev fj (isc:Scope)(h:Heap):Heap:=pushCells (h.push {cls:=.type "dict",data:=.dict #[]}) isc.names
theorem pz {Q:Env->Shared->Prop}(h:Q {scope:=isc,locals:=s.heap.objs.size,globals:=env.globals,cells:=cJ isc s.heap.objs.size cl,qual:=env.qual,func:=none,code:=env.code,frame:=env.frame,builtins:=env.builtins} {s with heap:=fj isc s.heap}):
  wpAny W.M A (newFunctionEnv isc env.globals cl [] env.qual none .none (some env)) Q E s:=by
 simp only[newFunctionEnv,Option.isSome_some,if_true]
 refine MZ (wpAny_alloc ?_)
 refine MZ (wpAny_layCells _ (λname kind cells=>by cases hkc:kind==NameKind.cell<;>simp[hkc]) _ _ _ _ ?_)
 rw[show({s with heap:=s.heap.push {cls:=.type "dict",data:=.dict #[]}}:Shared).heap.objs.size=s.heap.objs.size+1 from Heap.size_push ..]
 refine MZ (m:=forIn ([]:List (Str×Value)) PUnit.unit _) ?_
 rw[List.forIn_nil]
 exact M6 (M6 h)
structure CF (W:Wd)(sc isc:Scope)(env:Env)(s:Shared)(cenv:Env)(h':Heap):Prop where
 ok:jx isc cenv
 live:fh cenv h'
 keep:∀b o,s.heap.get? b=some o->h'.get? b=some o
 fresh:∀b,iY isc cenv b->s.heap.objs.size<=b
 names:∀x∈isc.names,isc.names.lookup x.1=some x.2
 Ij:∀x v,isc.names.lookup x=some .free->aJ env s.heap x v->aJ cenv h' x v
theorem xk (names:List (Str×NameKind)):CellsOk (pushCells h names) h.objs.size (cellsFrom h.objs.size names []):=
 cellsFrom_ok names h h.objs.size [] ⟨λ_ _ a=>(nomatch a),List.Pairwise.nil⟩ (NB _)
theorem Kh (ok:jx sc env)(lv:fh env s.heap)(m:Kg sc isc){cl:List (Str×Addr)}(F:∀x c,cl.lookup x=some c->isc.names.lookup x=some .free/\env.cells.lookup x=some c)(G:∀x,isc.names.lookup x=some .free-> ∃c,cl.lookup x=some c/\env.cells.lookup x=some c):
  CF W sc isc env s {scope:=relabel isc env,locals:=s.heap.objs.size,globals:=env.globals,cells:=cJ isc s.heap.objs.size cl,qual:=env.qual,func:=none,code:=env.code,frame:=env.frame,builtins:=env.builtins} (fj isc s.heap):=by
 have H:(s.heap.push {cls:=.type "dict",data:=.dict #[]}:Heap).objs.size=s.heap.objs.size+1:=Heap.size_push ..
 have i:=xk (h:=s.heap.push {cls:=.type "dict",data:=.dict #[]}) isc.names
 rw[H] at i
 have keep:∀b o,s.heap.get? b=some o->(fj isc s.heap).get? b=some o:=λb o e=>pushCells_keeps _ _ b o (Heap.get?_push_of_some _ e)
 have look:∀x c,(cJ isc s.heap.objs.size cl).lookup x=some c->(isc.names.lookup x=some .cell/\(x,c)∈cellsFrom (s.heap.objs.size+1) isc.names [])\/(isc.names.lookup x=some .free/\env.cells.lookup x=some c):=by
  intro x c e
  unfold cJ at e
  rw[eo,lY] at e
  cases p:(cellsFrom (s.heap.objs.size+1) isc.names []).lookup x with
  |some B=>
   rw[p] at e
   cases e
   have C:=NC p
   exact .inl ⟨m.look _ (fS C),C⟩
  |none=>
   rw[p] at e
   exact .inr (F x c e)
 have f:∀x c,env.cells.lookup x=some c->c<s.heap.objs.size:=λx c e=>ak (lv.cells x c e) λ_ q=>q.lt
 have g:∀x,isc.names.lookup x=some .free->Env.kindOf {scope:=relabel isc env,locals:=s.heap.objs.size,globals:=env.globals,cells:=cJ isc s.heap.objs.size cl,qual:=env.qual,func:=none,code:=env.code,frame:=env.frame,builtins:=env.builtins} x=some .cell\/
   Env.kindOf {scope:=relabel isc env,locals:=s.heap.objs.size,globals:=env.globals,cells:=cJ isc s.heap.objs.size cl,qual:=env.qual,func:=none,code:=env.code,frame:=env.frame,builtins:=env.builtins} x=some .free:=λx hx=>by
  have:=gq (env:=env) hx
  show List.lookup x _=_\/List.lookup x _=_
  unfold relabel
  dsimp only
  rw[this]
  split
  .exact .inl rfl
  .exact .inr rfl
 have d:∀x,isc.names.lookup x=some .free-> ∃c,(cJ isc s.heap.objs.size cl).lookup x=some c/\env.cells.lookup x=some c:=λx hx=>by
  refine af (G x hx) λc a b=>?_
  refine⟨c,?_,b⟩
  unfold cJ
  rw[eo,lY]
  cases p:(cellsFrom (s.heap.objs.size+1) isc.names []).lookup x with
  |some B=>
   have:=m.look _ (fS (NC p))
   rw[hx] at this;cases this
  |none=>exact a
 have ns:(fj isc s.heap).Ns s.heap.objs.size λ_=>none:=(Heap.Ns.new s.heap (.type "dict")).keeps (pushCells_keeps _ _)
 refine⟨⟨?_,ok.glob,ok.bi,?_,?_,⟨?_,?_⟩⟩,⟨⟨_,ns⟩,?_⟩,keep,?_,m.look,?_⟩
 .show(relabel isc env).kind=_
  exact m.kind
 .intro x I hx u
  have:=gq (env:=env) hx
  show List.lookup x _=_
  unfold relabel
  dsimp only
  rw[this,M8]
  intro h
  have:I=.free:=by simpa using (M9.mp (M9.mp h).1).1
  exact u this
 .refine λx hx=>hx.elim (λhx=>?_) λhx=>af (d x hx) λc r _=>⟨⟨c,r⟩,g x hx⟩
  refine ak (Option.isSome_iff_exists.mp (cellsFrom_some isc.names (s.heap.objs.size+1) cl (.inl hx))) λc r=>⟨⟨c,r⟩,.inl ?_⟩
  exact(gq (env:=env) hx).trans rfl
 .exact λx c e=>(look x c e).elim (λq=>N4 (i.empty x c q.2).2) λq=>NZ (f x c q.2)
 .refine λx y c J D=>(look x c J).elim (λt=>(look y c D).elim (λj=>name_of_addr i.apart t.2 j.2) λj=>?_) λt=>(look y c D).elim (λj=>?_) λj=>ok.lay.inj x y c t.2 j.2
  .exact absurd (f y c j.2) (Nat.not_lt.mpr (Nat.le_of_succ_le (i.empty x c t.2).2))
  .exact absurd (f x c t.2) (Nat.not_lt.mpr (Nat.le_of_succ_le (i.empty y c j.2).2))
 .exact λx c e=>(look x c e).elim (λq=>⟨none,(i.empty x c q.2).1⟩) λq=>ak (lv.cells x c q.2) λv w=>⟨v,w.keeps keep⟩
 .exact λb hb=>hb.elim (λe=>e▸NB _) λq=>af q λx hx e=>(look x b e).elim (λq=>Nat.le_of_succ_le (i.empty x b q.2).2) λq=>NameKind.noConfusion (MW (hx.symm.trans q.1))
 .refine λx v hx na=>af (d x hx) λc r q=>na.elim (λn=>?_) λn=>af n.2 λB z w=>?_
  .have u:=(ok.cells x (m.free _ (NC hx) rfl)).2
   rw[n.1] at u
   exact u.elim (λh=>NameKind.noConfusion (MW h)) λh=>NameKind.noConfusion (MW h)
  .obtain rfl:=MW (q.symm.trans z)
   exact .inr ⟨g x hx,c,r,w.keeps keep⟩
end
noncomputable def b7 {c d:Type}(f:c->d->Option c):c->List d->Option c
 |a,[]=>some a
 |a,x::e=>match f a x with
  |some b=>b7 f b e
  |none=>none
theorem je {c e:Type}{f:c->e->Option c}{a:c}{d:e}{ds:List e}:b7 f a (d::ds)=(f a d).bind λb=>b7 f b ds:=by
 show(match f a d with
  |some b=>b7 f b ds
  |none=>none)=_
 cases f a d<;>rfl
theorem kc {c e:Type}{f:c->e->Option c}{a fin:c}{d:e}{ds:List e}(h:b7 f a (d::ds)=some fin):∃b,f a d=some b/\b7 f b ds=some fin:=ob (je.symm.trans h)
theorem tC {c e:Type}{f:c->e->Option c}{a b:c}{d:e}{ds:List e}(h:f a d=some b):b7 f a (d::ds)=b7 f b ds:=by
 rw[je,h];rfl
theorem vn {a:Type}{l:List a}(h:j<l.length):∃d,l[j]?=some d/\l.drop j=d::l.drop (j+1):=⟨l[j],Nc h,List.drop_eq_getElem_cons h⟩
theorem pA {n:Nat}(h:j<n):n+1 - (j+1)<n+1 - j:=Nat.sub_lt_sub_left (OF h) (N7 j)
noncomputable def jD (ifs:List Expr)(env:Env):Sem Bool:=
 forIn ifs true λc r=>if r=true then do let ok<-isTrue c env (eval c env);pure (ForInStep.yield ok) else pure (ForInStep.yield r)
noncomputable def fT (target:Expr)(pos:Pos)(ifs:List Expr)(body:Sem Unit)(loop:Sem Fin)(it:Value)(env:Env):Sem Fin:=do
 standAt pos
 match<-pyNext it with
 |none=>pure (.done .next)
 |some v=>
  letOwnedTupleGo target it v
  assign target env v
  let mut ok:=true
  for c in ifs do
   if ok then ok<-isTrue c env (eval c env)
  if ok then body
  loop
section
variable {W:Wd}{U:UT}{n l:Nat}{A:Around}{E:Value->Shared->Prop}{s s0:Shared}{env cenv:Env}{c:CT}{k:Nat}{sc isc:Scope}{R:Nat->aD}{Mu:aD}{Z:St}
theorem Al {l:List Expr}:∀{s:Shared}{Q:Bool->Shared->Prop},Q false s->wpAny W.M A (forIn l false λc r=>if r=true then do let ok<-isTrue c env (eval c env);pure (ForInStep.yield ok) else pure (ForInStep.yield r)) Q E s:=by
 induction l with
 |nil=>exact λh=>M6 h
 |cons x l a=>
  intro s Q h
  rw[List.forIn_cons]
  exact MZ (M6 (a h))
theorem Am (g:bF W U l n){ifs:List Expr}:∀{a:List ME}{b:Bool}{s:Shared},ah ((cm c k).e sc) ifs=some a->bz (ev U n) Z a=some b->Cx W c.aE sc env R Mu Z A l s->
  GV W.M A s (jD ifs env) (λ_ x=>x=b):=by
 induction ifs with
 |nil=>
  intro a b s h
  exact cq h λd C Q E K=>M6 (K _ _ (aG s) (MW d))
 |cons e ifs i=>
  intro a b s h
  refine bZ h λj a m p d C Q E K=>af (ob (o:=(ev U n).t Z j) d) λq r d=>?_
  unfold jD
  rw[List.forIn_cons]
  refine MZ (MZ ((g.t m r C).use λx s1 f t=>M6 ?_))
  subst t
  cases x with
  |true=>exact(i p d (C.keep f)).use λy w u v=>K _ _ (ai f u) v
  |false=>exact Al (K _ _ f (MW d))
theorem xl {e:Expr}{i:Nat}{target:Expr}{ifs:List Expr}{body:Sem Unit}{acc:Value}{fp wr:List Addr}{n0:Nat}{P Md:Nat->Value->Heap->Prop}{St:Nat->Heap->Prop}{G:Result->Shared->Prop}{M:Type}{stp:M->D->Option M}{a0 fin:M}{ds:List D}{CSa:M->Shared->Prop}{t:dj}(hc:(Code.compLoop e i (.ref I) acc cenv).isFrame=false)(hq:(Code.compLoop e i (.ref I) acc cenv).quiet=true)(N:A.under (.compLoop e i (.ref I) acc cenv)=A)(O:compTurn e i (.ref I) acc cenv=fT target pos ifs body (again (.compLoop e i (.ref I) acc cenv)) (.ref I) cenv)(KT:KTurns W.prog W.w A target I fp wr n0 P Md St)(hn:n0=ds.length)(st:St 0 s.heap)(hf:b7 stp a0 ds=some fin)(Q:CSa a0 s)(sl:∀j h,St j h-> ∀b∈fp, ∃o,h.get? b=some o)(q:∀a s1 r,CSa a s1->KB (· ∈wr) s1 r->(∀b∈wr, ∃o,r.heap.get? b=some o)->CSa a r)(items:∀i d v s1 a,ds[i]?=some d->CSa a s1->P i v s1.heap->en W Mu s1.heap t d v)(turn:∀a y d rest v s1,stp a d=some y->b7 stp y rest=some fin->CSa a s1->en W Mu s1.heap t d v-> ∀S,wpAny W.M A (assign target cenv v) (λ_ r=>wpAny W.M A (jD ifs cenv) (λok H=>
   if ok=true then wpAny W.M A body (λ_ u=>CSa y u/\ ∀b∈fp, ∀o,s1.heap.get? b=some o->u.heap.get? b=some o) S H
   else CSa y H/\ ∀b∈fp, ∀o,s1.heap.get? b=some o->H.heap.get? b=some o) S r) S s1)(done:∀s1 r,CSa fin s1->KB (· ∈wr) s1 r->G (.ok .next) r):
  codeAny W.M A (.compLoop e i (.ref I) acc cenv) G s:=by
 refine codeAny_loop hq (λm s1=>∃j a,j<=n0/\m=n0+1 - j/\b7 stp a (ds.drop j)=some fin/\CSa a s1/\St j s1.heap) ?_ (n0+1) ⟨0,a0,Ou _,rfl,hf,Q,st⟩
 rintro m s1 ⟨j,a,hj,rfl,g,cs,J⟩
 rw[N]
 show wpAny _ A (if(Code.compLoop e i (.ref I) acc cenv).isFrame then _ else(compTurn e i (.ref I) acc cenv).onRaise (λx=>do noteFrame x cenv;theTreesLotGoes x)) _ _ s1
 rw[hc]
 refine wpAny_noted ?_
 rw[O]
 unfold fT
 refine MZ (wpAny_standAt (MZ ?_))
 by_cases p:j<n0
 .refine KT.item j _ _ _ p J λv h1 w T B=>?_
  dsimp only
  refine MZ (KT.go j v _ _ _ T λV hP z X=>?_)
  have kb:KB (· ∈wr) s1 {s1 with heap:=V,toks:=w}:=⟨V,w,rfl,λb o nb e=>X b o nb (B b o nb e)⟩
  have K:=q a _ _ cs kb λb hb=>sl _ _ z b (KT.sub b hb)
  refine af (vn (hn▸p)) λd hd C=>?_
  rw[C] at g
  refine af (kc g) λy hs g=>?_
  .have ir:=items j d v _ a hd K hP
   have tt:=turn a y d _ v _ hs g K ir (notedBy W.M A cenv λe F=>G (.error e) F)
   have tail:∀u,(CSa y u/\ ∀b∈fp, ∀o,V.get? b=some o->u.heap.get? b=some o)->wpAny W.M A (again (Code.compLoop e i (.ref I) acc cenv)) (λfl F=>match fl with
     | .done f=>G (.ok f) F
     | .again c'=>c'=Code.compLoop e i (.ref I) acc cenv/\ ∃m,m<n0+1 - j/\(∃j a,j<=n0/\m=n0+1 - j/\b7 stp a (ds.drop j)=some fin/\CSa a F/\St j F.heap)) (notedBy W.M A cenv λe F=>G (.error e) F) u:=λu h4=>
    M6 ⟨rfl,n0+1 - (j+1),pA p,j+1,y,p,rfl,g,h4.1,KT.frame _ _ _ z h4.2⟩
   refine MZ (NH tt (λ_ r t2=>MZ (NH t2 (λok H Y=>?_) λ_ _ L=>L)) λ_ _ L=>L)
   cases ok with
   |false=>
    exact MZ (M6 (tail H Y))
   |true=>
    simp only[if_true] at Y |-
    exact MZ (NH Y (λ_ u t4=>tail u t4) λ_ _ L=>L)
 .obtain rfl:j=n0:=OS hj (Nat.not_lt.mp p)
  refine KT.done _ _ _ J λh1 w B=>?_
  dsimp only
  rw[List.drop_eq_nil_of_le (NR hn.symm)] at g
  exact M6 (done _ _ (MW g▸cs) ⟨h1,w,rfl,B⟩)
end
def bu (env:Env)(b:Addr):Prop:=b=env.locals\/ ∃n,env.cells.lookup n=some b
section
variable {W:Wd}{U:UT}{n l:Nat}{A:Around}{E:Value->Shared->Prop}{s s0 s':Shared}{env cenv:Env}{c:CT}{k:Nat}{sc isc:Scope}{R:Nat->aD}{Mu:aD}{Z Z':St}{X:aD}{aE:List Str}
theorem cZ {x:Str}{v:Value}(hx:∀b,X b-> ¬bu env b)(kb:KB X s s')(h:aJ env s.heap x v):aJ env s'.heap x v:=
 h.imp (λq=>⟨q.1,af q.2 λm a d=>⟨m,a.at' λo e=>kb.get _ o (λq=>hx _ q (.inl rfl)) e,d⟩⟩) λq=>⟨q.1,af q.2 λc a d=>⟨c,a,af d λo f g=>⟨o,kb.get _ o (λq=>hx _ q (.inr ⟨x,a⟩)) f,g⟩⟩⟩
theorem gu (hx:∀b,X b-> ¬bu env b)(kb:KB X s s')(h:fh env s.heap):fh env s'.heap:=
 ⟨ak h.ns λm a=>⟨m,a.at' λo e=>kb.get _ o (λq=>hx _ q (.inl rfl)) e⟩,λn c e=>aW (h.cells n c e) λv o d f=>⟨v,o,kb.get _ o (λq=>hx _ q (.inr ⟨n,e⟩)) d,f⟩⟩
theorem Cx.kb (C:Cx W aE sc env R Mu Z A l s)(kb:KB X s s')(mu:∀b,X b->Mu b)(no:∀b,X b-> ∀i, ¬R i b)(fr:∀b,X b-> ¬bu env b)(lv:∀b,X b-> ∃o,s'.heap.get? b=some o):Cx W aE sc env R Mu Z A l s' where
 ok:=C.ok
 base:=λb o e=>kb.get b o (λf=>ns ((C.above b (mu b f)).symm.trans e)) (C.base b o e)
 old:=λb m=>by
  by_cases f:X b
  .exact lv b f
  .exact ak (C.old b m) λo e=>⟨o,kb.get b o f e⟩
 sub:=C.sub
 above:=C.above
 view:=C.view.move (λb o m e=>⟨m,kb.get b o (λf=>m (mu b f)) e⟩) (λi b o m e=>kb.get b o (λf=>no b f i m) e) (λ_ _ x=>x) λ_ _ _ _ _ nn=>cZ fr kb nn
 good:=C.good
 tb:=C.tb
 live:=gu fr kb C.live
theorem Cx.less (C:Cx W aE sc env R Mu Z' A l s)(h:∀i sl,Z i=some sl->Z' i=some sl):Cx W aE sc env R Mu Z A l s:=
 ⟨C.ok,C.base,C.old,C.sub,C.above,λi sl e=>C.view i sl (h i sl e),C.good,C.tb,C.live⟩
theorem qV {x:Nat}{sl:_root_.av.Slot}(h:¬(Z x).isSome=true):∀i s,Z i=some s->Z.set x sl i=some s:=λi s e=>
 (M8 λq=>h (by rw[<-q,e];rfl):(if i=x then some sl else Z i)=Z i).trans e
theorem Eg {t:dj}{d:D}(h:e7 Z t d=some Z'):bB Z t d=some Z'/\ ∀i sl,Z i=some sl->Z' i=some sl:=by
 cases t with
 |one x=>
  have h:(if(Z x).isSome=true then none else some (Z.set x (.val d)))=some Z':=h
  by_cases hx:(Z x).isSome=true
  .rw[M7 hx] at h;exact ns h
  .rw[M8 hx] at h;exact⟨h,MW h▸qV hx⟩
 |many f=>
  rcases f with _|⟨x,_|⟨y,_|⟨z,f⟩⟩⟩
  .exact ns h
  .exact ns h
  .cases d with
   |tup g=>
    rcases g with _|⟨a,_|⟨b,_|⟨_,_⟩⟩⟩
    .exact ns h
    .exact ns h
    .have h:(if((Z x).isSome||(Z y).isSome)=true then none else some ((Z.set x (.val a)).set y (.val b)))=some Z':=h
     by_cases hx:((Z x).isSome||(Z y).isSome)=true
     .rw[M7 hx] at h;exact ns h
     .rw[M8 hx] at h
      refine⟨h,MW h▸λi s e=>?_⟩
      have q:=λp=>hx (Oi.mpr p)
      have j:=qV (sl:=.val a) (λp=>q (.inl p)) i s e
      exact(M8 λp=>q (.inr (by rw[<-p,e];rfl)):(if i=y then some (Slot.val b) else Z.set x (.val a) i)=_).trans j
    .exact ns h
   |_=>exact ns h
  .exact ns h
structure hK (W:Wd)(α:Type) where
 P:aD->Addr->α->Heap->Prop
 has:∀{Mu D' a h},P Mu D' a h-> ∃o,h.get? D'=some o/\ ∀v,o.data≠ .cell v
 move:∀{Mu Mu' D' a h h'},P Mu D' a h->Fz Mu h Mu' h'->(∀o,h.get? D'=some o->h'.get? D'=some o)->P Mu' D' a h'
def Ik (W:Wd)(Mu:aD)(d:Addr)(a:List D)(h:Heap):Prop:= ∃b n,h.get? d=some (aR b n)/\aq W Mu h a b
noncomputable def tD (W:Wd):hK W (List D) where
 P:=λMu D' a h=>Ik W Mu D' a h
 has:=λh=>aW h λ_ _ e _=>⟨_,e,λ_ q=>Data.noConfusion q⟩
 move:=λh F k=>aW h λvs n e r=>⟨vs,n,k _ e,r.move F⟩
structure LF (isc:Scope)(cenv:Env)(R:Nat->aD)(Mu:aD)(D':Addr):Prop where
 JL:Wr isc cenv R Mu
 An:Mu D'
 Ki:∀i, ¬R i D'
 JM:¬bu cenv D'
noncomputable def XD (isc:Scope)(cenv:Env)(a:Addr):aD:=λb=>iY isc cenv b\/b=a
def hV {b:Type}(W:Wd)(K:hK W b)(ok:b->Prop)(aE:List Str)(isc:Scope)(cenv:Env)(R:Nat->aD)(Mu:aD)(A:Around)(l:Nat)(d:Addr)(body:Sem Unit)(f:St->b->Option b):Prop:=
 ∀Z' a e s,f Z' a=some e->Cx W aE isc cenv R Mu Z' A l s->K.P Mu d a s.heap->ok e-> ∀E,wpAny W.M A body (λ_ s'=>Cx W aE isc cenv R Mu Z' A l s'/\KB (XD isc cenv d) s s'/\K.P Mu d e s'.heap) E s
variable {α:Type}{K:hK W α}{ok:α->Prop}
theorem hK.keeps {d:Addr}{a:α}{f:Heap}(x:K.P Mu d a h)(k:∀b o,h.get? b=some o->f.get? b=some o):K.P Mu d a f:=K.move x (Fz.keep k) λo e=>k _ o e
theorem hK.kb {d:Addr}{a:α}(x:K.P Mu d a s.heap)(kb:KB X s s')(mu:∀b,X b->Mu b)(h:¬X d):K.P Mu d a s'.heap:=
 K.move x (λb o m e=>⟨m,kb.get b o (λf=>m (mu b f)) e⟩) λo e=>kb.get _ o h e
theorem kX {b:Addr}(h:iY isc cenv b):bu cenv b:=h.imp id λq=>af q λn _ e=>⟨n,e⟩
def qW (a:List D):Prop:=a.length<2^20
noncomputable def fG (r:Ev)(b:ME)(gs:List MG):St->List D->Option (List D):=λZ' a=>(i7 r b gs Z').map (a++ ·)
theorem ke {r:Ev}{b:ME}{g:List D}(h:fG r b [] Z a=some g):∃d,r.m Z b=some d/\a++[d]=g:=
 af (om (o:=i7 r b [] Z) h) λo i e=>af (bind1 (o:=r.m Z b) (f:=λd=>[d]) i) λd j m=>⟨d,j,m▸e⟩
theorem nX (x:bF W U l n){f:Expr}{t:ME}{g:Addr}(y:(cm c k).e isc f=some t)(i:LF isc cenv R Mu g):
  hV W (tD W) qW c.aE isc cenv R Mu A l g (do let _<-call (.builtin "list.append") [.ref g, <-eval f cenv]) (fG (ev U n) t []):=by
 intro Z' a I s z C B j E
 refine af (ke z) λd D q=>?_
 subst q
 refine MZ ((x.e y D C).use λv s1 p F=>aW (hK.keeps (K:=tD W) B (ag p)) λu m e r=>?_)
 have j:(a++[d]).length<2^20:=j
 rw[Ni,r.length] at j
 refine MZ (wpAny_list_append_plain (items:=u.toArray) (hsz:=M4 (ND (O2 j)) (by decide)) ⟨m,e⟩ λw hp hs=>M6 (ak hp λH hp=>?_))
 have kb:KB (· =g) s1 {s1 with heap:=w}:=⟨w,_,rfl,λb o nb e=>hs.extBut b o nb e⟩
 exact⟨(C.keep p).kb kb (λb h=>h▸i.An) (λb h=>h▸i.Ki) (λb h=>h▸i.JM) (λb h=>⟨_,h▸hp⟩),(KB.of p).trans (kb.mono λb h=>.inr h),u++[v],H,by simpa using hp,
  (r.append (.cons F aq.nil)).move λb o m e=>⟨m,kb.get b o (λh=>m (h▸i.An)) e⟩⟩
noncomputable def eD (r:Ev)(Z:St)(t:dj)(b:List ME)(f:St->α->Option α)(a:α)(d:D):Option α:=do
 let Z'<-e7 Z t d
 if<-bz r Z' b then f Z' a else pure a
theorem Eh {target:Expr}{t:dj}{ifs:List Expr}{g:List ME}{body:Sem Unit}{f:St->α->Option α}{i:Addr}{d:D}{v:Value}{a m:α}(M:bF W U l n)(ht:iW c isc target=some t)(B:ah ((cm c k).e isc) ifs=some g)(F:LF isc cenv R Mu i)(hb:hV W K ok c.aE isc cenv R Mu A l i body f)(hs:eD (ev U n) Z t g f a d=some m)(C:Cx W c.aE isc cenv R Mu Z A l s)(N:K.P Mu i a s.heap)(O:ok m)(r:en W Mu s.heap t d v):
  wpAny W.M A (assign target cenv v) (λ_ G=>wpAny W.M A (jD ifs cenv) (λok j=>
   if ok=true then wpAny W.M A body (λ_ z=>Cx W c.aE isc cenv R Mu Z A l z/\KB (XD isc cenv i) s z/\K.P Mu i m z.heap) E j
   else Cx W c.aE isc cenv R Mu Z A l j/\KB (XD isc cenv i) s j/\K.P Mu i m j.heap) E G) E s:=by
 refine af (ob (o:=e7 Z t d) hs) λZ' H hs=>au (Eg H) λI p=>Ee C F.JL (pg C.tb) C.live ht r I λG kb J P=>?_
 have u:K.P Mu i a G.heap:=hK.kb N kb F.JL.mu λh=>F.JM (kX h)
 refine af (ob (o:=bz (ev U n) Z' g) hs) λq Q hs=>(Am M B Q J).use λx j w S=>?_
 subst S
 have y:KB (XD isc cenv i) s j:=(kb.mono λb h=>.inl h).trans (KB.of w)
 cases x with
 |false=>exact DX ⟨(J.keep w).less p,y,MW hs▸hK.keeps u (ag w)⟩
 |true=>exact DY (NH (hb Z' a m j hs (J.keep w) (hK.keeps u (ag w)) O E) (λ_ z L=>⟨L.1.less p,y.trans L.2.1,L.2.2⟩) λ_ _ e=>e)
theorem gv {f:D->Option (List D)}:∀{out a:List D},bD f ds=some out->b7 (λa d=>(f d).map (a++ ·)) a ds=some (a++out):=by
 induction ds with
 |nil=>exact λh=>MW h▸MY some (NP _).symm
 |cons d ds e=>
  intro out a h
  refine aP (uX (o:=f d) (p:=bD f ds) (f:=(· ++ ·)) h) λo r g i q=>?_
  subst q
  refine(tC (b:=a++o) (by rw[g];rfl)).trans ?_
  rw[e i,NS]
theorem qX {f:D->Option (List D)}:∀{fin a:List D},b7 (λa d=>(f d).map (a++ ·)) a ds=some fin-> ∃r,fin=a++r:=by
 induction ds with
 |nil=>exact λh=>⟨[],(MW h).symm.trans (NP _).symm⟩
 |cons d ds e=>exact λh=>af (kc h) λb g h=>af (om g) λx _ q=>ak (e h) λr hr=>⟨x++r,by rw[hr, <-q,NS]⟩
theorem kI {f:D->Option (List D)}{fin a:List D}(h:b7 (λa d=>(f d).map (a++ ·)) a ds=some fin):a.length<=fin.length:=
 ak (qX h) λr e=>by rw[e,Ni];exact NM ..
theorem eX {r:Ev}{t:dj}{b:List ME}{e:ME}:eD r Z t b (fG r e gs)=λa d=>(cw r e t b gs Z d).map (a++ ·):=by
 funext a d
 unfold eD cw fG
 cases e7 Z t d with
 |none=>rfl
 |some Z'=>
  show(bz r Z' b>>=λq=>_)=Option.map _ (bz r Z' b>>=λq=>_)
  cases bz r Z' b with
  |none=>rfl
  |some q=>
   cases q with
   |false=>exact MY some (NP a).symm
   |true=>rfl
end
section
variable {W:Wd}{U:UT}{n l:Nat}{A:Around}{E:Value->Shared->Prop}{s s0 s':Shared}{env cenv:Env}{c:CT}{k:Nat}{sc isc:Scope}{R:Nat->aD}{Mu Mu':aD}{Z Z':St}{X:aD}{aE:List Str}
theorem Cx.drop (C:Cx W aE sc env R Mu Z A l s)(kb:KB X s s')(sub:∀b,Mu' b->Mu b)(mu:∀b,X b->Mu b)(ap:∀b,X b-> ¬Mu' b)(fr:∀b,X b-> ¬bu env b)(rs:∀i b,R i b->Mu' b):Cx W aE sc env R Mu' Z A l s' where
 ok:=C.ok
 base:=λb o e=>kb.get b o (λf=>ns ((C.above b (mu b f)).symm.trans e)) (C.base b o e)
 old:=λb m=>ak (C.old b (sub b m)) λo e=>⟨o,kb.get b o (λf=>ap b f m) e⟩
 sub:=rs
 above:=λb m=>C.above b (sub b m)
 view:=C.view.move (λb o m e=>⟨λh=>m (sub b h),kb.get b o (λf=>m (mu b f)) e⟩) (λi b o m e=>kb.get b o (λf=>ap b f (rs i b m)) e) (λ_ _ x=>x) λ_ _ _ _ _ nn=>cZ fr kb nn
 good:=C.good
 tb:=C.tb
 live:=gu fr kb C.live
variable {α:Type}{K:hK W α}{ok:α->Prop}
theorem qY {e:Expr}{i:Nat}{target:Expr}{ifs:List Expr}{body:Sem Unit}{g:Addr}{fp wr:List Addr}{n0:Nat}{P N:Nat->Value->Heap->Prop}{z:Nat->Heap->Prop}{M:Result->Shared->Prop}{a0 fin:α}{ds:List D}{t:dj}{f:St->α->Option α}(O:bF W U l n)(Q:(Code.compLoop e i (.ref I) (.ref g) cenv).isFrame=false)(S:(Code.compLoop e i (.ref I) (.ref g) cenv).quiet=true)(B:A.under (.compLoop e i (.ref I) (.ref g) cenv)=A)(F:compTurn e i (.ref I) (.ref g) cenv=fT target pos ifs body (again (.compLoop e i (.ref I) (.ref g) cenv)) (.ref I) cenv)(KT:KTurns W.prog W.w A target I fp wr n0 P N z)(hn:n0=ds.length)(st:z 0 s.heap)(sl:∀j h,z j h-> ∀b∈fp, ∃o,h.get? b=some o)(w:∀b∈fp, ¬XD isc cenv g b)(r:∀b∈wr,Mu b/\(∀i, ¬R i b)/\ ¬bu cenv b/\b≠g)(items:∀i d v h,ds[i]?=some d->(∀b o, ¬Mu b->s.heap.get? b=some o->h.get? b=some o)->P i v h->en W Mu h t d v)(ht:iW c isc target=some t)(G:ah ((cm c k).e isc) ifs=some p)(H:LF isc cenv R Mu g)(hb:hV W K ok c.aE isc cenv R Mu A l g body f)(T:b7 (eD (ev U n) Z t p f) a0 ds=some fin)(J:∀a rest,b7 (eD (ev U n) Z t p f) a rest=some fin->ok a)(C:Cx W c.aE isc cenv R Mu Z A l s)(V:K.P Mu g a0 s.heap)(done:∀s1 u,Cx W c.aE isc cenv R Mu Z A l s1->KB (λb=>XD isc cenv g b\/b∈wr) s s1->K.P Mu g fin s1.heap->KB (· ∈wr) s1 u->M (.ok .next) u):
  codeAny W.M A (.compLoop e i (.ref I) (.ref g) cenv) M s:=by
 have L:∀b,XD isc cenv g b->Mu b:=λb h=>h.elim (H.JL.mu b) λh=>h▸H.An
 refine xl (t:=t) (Mu:=Mu) (stp:=eD (ev U n) Z t p f) (a0:=a0) (fin:=fin) (ds:=ds)
  (CSa:=λa s1=>Cx W c.aE isc cenv R Mu Z A l s1/\KB (λb=>XD isc cenv g b\/b∈wr) s s1/\K.P Mu g a s1.heap)
  Q S B F KT hn st T ⟨C,KB.refl _ _,V⟩ sl ?_ ?_ ?_ ?_
 .exact λa s1 u q kb lv=>⟨q.1.kb kb (λb h=>(r b h).1) (λb h=>(r b h).2.1) (λb h=>(r b h).2.2.1) lv,q.2.1.trans (kb.mono λb h=>.inr h),hK.kb q.2.2 kb (λb h=>(r b h).1) λh=>(r _ h).2.2.2 rfl⟩
 .exact λi d v s1 a hd q hP=>items i d v _ hd (λb o m e=>q.2.1.get b o (λh=>m (h.elim (L b) λh=>(r b h).1)) e) hP
 .intro a a' d rest v s1 hs hr q ir E'
  refine NH (Eh O ht G H hb hs q.1 q.2.2 (J _ _ hr) ir) (λ_ u h2=>NH h2 (λok s3 x=>?_) λ_ _ e=>e) λ_ _ e=>e
  cases ok with
  |false=>exact⟨⟨x.1,q.2.1.trans (x.2.1.mono λb h=>.inl h),x.2.2⟩,λb hb o e=>x.2.1.get b o (w b hb) e⟩
  |true=>exact NH x (λ_ s4 y=>⟨⟨y.1,q.2.1.trans (y.2.1.mono λb h=>.inl h),y.2.2⟩,λb hb o e=>y.2.1.get b o (w b hb) e⟩) λ_ _ e=>e
 .exact λs1 u q kb=>done s1 u q.1 q.2.1 q.2.2 kb
theorem lZ (a target iter:Expr)(ifs:List Expr)(scope:Scope)(pos:Pos)(it acc:Value)(env:Env):
  compTurn (.ListComp a [⟨target,iter,ifs,0⟩] scope pos) 0 it acc env=fT target iter.pos ifs (do let _<-call (.builtin "list.append") [acc, <-eval a env]) (again (.compLoop (.ListComp a [⟨target,iter,ifs,0⟩] scope pos) 0 it acc env)) it env:=rfl
theorem qZ (e target iter b a:Expr)(ifs d:List Expr)(scope:Scope)(pos:Pos)(it acc:Value)(env:Env):
  compTurn (.ListComp e [⟨target,iter,ifs,0⟩,⟨b,a,d,0⟩] scope pos) 0 it acc env=fT target iter.pos ifs (do
    let x<-eval a env
    standAt a.pos
    let x<-foldedSetIterable a env x
    let g<-holding [x] (pyIter x)
    let _<-runOwn (.compStart (.ListComp e [⟨target,iter,ifs,0⟩,⟨b,a,d,0⟩] scope pos) 1 g acc env) env
    pure ())
   (again (.compLoop (.ListComp e [⟨target,iter,ifs,0⟩,⟨b,a,d,0⟩] scope pos) 0 it acc env)) it env:=by
 unfold fT
 simp only[bind_assoc,pure_bind]
 unfold compTurn
 refine MY (λf=>standAt iter.pos>>=f) (funext λ_=>MY (λf=>pyNext it>>=f) (funext λr=>?_))
 cases r with
 |none=>rfl
 |some v=>
  refine MY (λf=>letOwnedTupleGo target it v>>=f) (funext λ_=>MY (λf=>assign target env v>>=f) (funext λ_=>MY (λf=>jD ifs env>>=f) (funext λok=>?_)))
  cases ok with
  |false=>simp only[OB,if_false]
  |true=>simp only[if_true,bind_assoc,pure_bind];rfl
theorem q6 (e target iter a b:Expr)(ifs d:List Expr)(scope:Scope)(pos:Pos)(it acc:Value)(env:Env):
  compTurn (.ListComp e [⟨target,iter,ifs,0⟩,⟨a,b,d,0⟩] scope pos) 1 it acc env=fT a b.pos d (do let _<-call (.builtin "list.append") [acc, <-eval e env])
   (again (.compLoop (.ListComp e [⟨target,iter,ifs,0⟩,⟨a,b,d,0⟩] scope pos) 1 it acc env)) it env:=rfl
theorem nY {e:Expr}{depth:Nat}{it acc:Value}{d:Result->Shared->Prop}{g:Comprehension}(hg:(clausesOf e)[depth]?=some g)(o:g.is_async=0)(p:(Code.compStart e depth it acc cenv).isFrame=false)(m:(Code.compLoop e depth it acc cenv).quiet=true)(b:∀a,(Code.compLoop e depth a acc cenv).quiet=true)(h0:codeAny W.M A (.compLoop e depth it acc cenv) d s)(h:wpAny W.M A (pyIter it) (λa s'=>codeAny W.M A (.compLoop e depth a acc cenv) d s') (notedBy W.M A cenv λx s'=>d (.error x) s') s)(f:A.under (.compStart e depth it acc cenv)=A):
  codeAny W.M A (.compStart e depth it acc cenv) d s:=by
 refine codeAny_of_tree ?_
 rw[f]
 show wpAny _ _ (if(Code.compStart e depth it acc cenv).isFrame then _ else(compStart e depth it acc cenv).onRaise (λx=>do noteFrame x cenv;standAt theWindowsPlace)) _ _ s
 rw[p]
 refine wpAny_notedAt ?_
 unfold compStart
 rw[hg]
 have i:(g.is_async !=0)=false:=by rw[o];rfl
 simp only[Option.elim,i,OB,if_false]
 show wpAny _ _ (ask>>=_) _ _ s
 refine MZ (wpAny_askSetting (wpAny_ite ?_))
 split
 .first
   |exact MZ (M6 (M6 (And.intro m h0)))
   |exact M6 (And.intro m h0)
 .refine MZ (wpAny_rule ?_)
  first
   |exact MZ (wpAny_standAt (MZ (NH h (λa s' j=>M6 (And.intro (b _) j)) λ_ _ x=>x)))
   |(show wpAny _ _ (standAt g.iter.pos>>=_) _ _ s;exact MZ (wpAny_standAt (MZ (NH h (λa s' j=>M6 (And.intro (b _) j)) λ_ _ x=>x))))
end
section
variable {W:Wd}{U:UT}{n l:Nat}{A:Around}{E:Value->Shared->Prop}{s s0 s':Shared}{env cenv:Env}{c:CT}{k:Nat}{sc isc:Scope}{R:Nat->aD}{Mu Mu':aD}{Z Z':St}{X Y:aD}{aE:List Str}
theorem KB.nE (kb:KB (λb=>Y b\/X b) s s')(h:∀b,X b->s.heap.get? b=none):KB Y s s':=aW kb λa t e p=>⟨a,t,e,λb o n e=>p b o (λq=>q.elim n λx=>ns ((h b x).symm.trans e)) e⟩
theorem fH {e:Expr}(h:(cm c k).i sc e=some a):∀env x,foldedSetIterable e env x=pure x:=by
 intro env x
 cases e<;>first|rfl|skip
 cases k with
 |zero=>cases h
 |succ k=>cases k<;>cases h
theorem az {a:Prop}{h:Heap}{b:Addr}{o:Obj}(x:h.get? b=none)(e:h.get? b=some o):a:=ns (x.symm.trans e)
theorem none_of {h a:Heap}(k:∀b o,h.get? b=some o->a.get? b=some o){b:Addr}(e:a.get? b=none):h.get? b=none:=by
 cases q:h.get? b with
 |none=>rfl
 |some o=>exact ns (e.symm.trans (k b o q))
theorem Ao {r:Ev}{e:ME}{t:dj}{it:ME}{ifs:List ME}{o:List D}(h:i7 r e (.mk t it ifs::gs) Z=some o):noOwn Z it=true/\ ∃xs,r.i Z t it=some xs/\bD (cw r e t ifs gs Z) xs=some o:=by
 have h:(if(!noOwn Z it)=true then none else(r.i Z t it).bind (bD (cw r e t ifs gs Z)))=some o:=h
 cases hn:noOwn Z it with
 |false=>rw[hn] at h;exact ns h
 |true=>rw[hn] at h;exact⟨rfl,ob h⟩
theorem xm (ih:bF W U l n){target iter:Expr}{ifs:List Expr}{t:List ME}{D z:ME}{F:dj}{w:Addr}(h1:(cm c k).e isc y=some D)(h2:(cm c k).i isc p=some z)(ht:iW c isc j=some F)(L:aY F j)(hif:ah ((cm c k).e isc) u=some t)(G:LF isc cenv R Mu w)(hun:∀I,A.under (.compLoop (.ListComp y [⟨target,iter,ifs,0⟩,⟨j,p,u,0⟩] isc pos) 1 (.ref I) (.ref w) cenv)=A)(M:∀I,A.under (.compStart (.ListComp y [⟨target,iter,ifs,0⟩,⟨j,p,u,0⟩] isc pos) 1 (.ref I) (.ref w) cenv)=A):
  hV W (tD W) qW c.aE isc cenv R Mu A l w (do
    let x<-eval p cenv
    standAt p.pos
    let x<-foldedSetIterable p cenv x
    let z<-holding [x] (pyIter x)
    let _<-runOwn (.compStart (.ListComp y [⟨target,iter,ifs,0⟩,⟨j,p,u,0⟩] isc pos) 1 z (.ref w) cenv) cenv
    pure ()) (fG (ev U n) D [.mk F z t]):=by
 intro Z' a a' s N C ac hl E
 refine af (om (o:=i7 (ev U n) D [.mk F z t] Z') N) λo hf2 q=>?_
 subst q
 refine au (Ao hf2) λhno N=>af N λxs hi N=>?_
 .have he:bD (cw (ev U n) D F t [] Z') xs=some o:=N
  have hfo:b7 (eD (ev U n) Z' F t (fG (ev U n) D [])) a xs=some (a++o):=by rw[eX];exact gv he
  have hok:∀a1 rest,b7 (eD (ev U n) Z' F t (fG (ev U n) D [])) a1 rest=some (a++o)->qW a1:=λa1 rest h=>by rw[eX] at h;exact M5 (kI h) hl
  refine MZ (NH (ih.i E h2 hi L C) (λx s1 hx=>?_) λ_ _ e=>e)
  refine au hx λk1 hx=>?_
  refine MZ (wpAny_standAt (MZ (wpAny_of_eq (fH h2 cenv x) (MZ (OH (NH hx (λit S B=>?_) λ_ _ e=>e))))))
  refine au B λk2 B=>bf B λsm km km2 B=>?_
  obtain @⟨I,fp,wr,n0,P,Md,Sx,ei,hn,KT,st,sl,self,H,hfz,items⟩:=B
  subst ei
  have T:Keeps s S:=ai k1 k2
  have fresh:∀b,b∈wr->s.heap.get? b=none:=λb hb=>none_of (ag km) (H b hb)
  have J:∀b,b∈wr-> ∃o,S.heap.get? b=some o:=λb hb=>sl 0 _ st b (KT.sub b hb)
  have C2:=C.grow (X:=(· ∈wr)) T fresh J
  have O:LF isc cenv R (λb=>Mu b\/b∈wr) w:=⟨⟨λb h=>.inl (G.JL.mu b h),G.JL.no⟩,.inl G.An,G.Ki,G.JM⟩
  have hXm:∀b,XD isc cenv w b->Mu b:=λb h=>h.elim (G.JL.mu b) λh=>h▸G.An
  refine aW ac λvs m hD rl=>?_
  have ac2:Ik W (λb=>Mu b\/b∈wr) w a S.heap:=⟨vs,m,ag T _ _ hD,rl.move λb o nb e=>⟨λh=>h.elim nb λhb=>az (fresh b hb) e,ag T _ _ e⟩⟩
  have Q:∀b,b∈wr-> ¬bu cenv b:=λb hb h=>by
   exact h.elim (λq=>sS C.live.ns λ_ _ _ _ e _=>az (fresh b hb) (q▸e)) λq=>ak q λx hx=>aW (C.live.cells x b hx) λ_ _ e _=>az (fresh b hb) e
  refine MZ (wpAny_runOwn ?_)
  have loop:codeAny W.M A (.compLoop (.ListComp y [⟨target,iter,ifs,0⟩,⟨j,p,u,0⟩] isc pos) 1 (.ref I) (.ref w) cenv)
    (λr s'=>match r with| .ok f=>wpAny W.M A (pure ()) (λ_ s'=>Cx W c.aE isc cenv R Mu Z' A l s'/\KB (XD isc cenv w) s s'/\(tD W).P Mu w (a++o) s'.heap) E s'| .error e=>cameBackBy W.M A cenv E e s') S:=by
   refine qY (K:=tD W) (fp:=fp) (wr:=wr) (Mu:=λb=>Mu b\/b∈wr) (Z:=Z') (f:=fG (ev U n) D []) ih rfl rfl (hun I) (q6 ..) KT hn st sl (λb hb h=>hfz hno b hb (hXm b h))
    (λb hb=>⟨.inr hb,λi r=>ak (C.old b (C.sub i b r)) λo e=>az (fresh b hb) e,Q b hb,λh=>az (fresh w (h▸hb)) hD⟩) ?_ ht hif O (nX ih h1 O) hfo hok C2 ac2 ?_
   .intro i d v h hd hk hP
    refine items i d v h _ hd (λb o nb e=>⟨λq=>q.elim nb λhb=>az (H b hb) e,hk b o (λq=>q.elim nb λhb=>az (H b hb) e) (ag km2 _ _ e)⟩) hP
   .intro s3 s4 c3 k3 a3 V
    have kk:KB (λb=>XD isc cenv w b\/b∈wr) s s4:=(KB.of T).trans (k3.trans (V.mono λb h=>.inr h))
    refine M6 ⟨c3.drop V (λb h=>.inl h) (λb h=>.inr h) (λb hb h=>ak (C.old b h) λo e=>az (fresh b hb) e) Q C.sub,kk.nE fresh,?_⟩
    exact aW a3 λus m' e' r'=>⟨us,m',V.get _ _ (λhb=>az (fresh _ hb) hD) e',r'.move λb o nb e=>⟨λh=>nb (.inl h),V.get b o (λhb=>nb (.inr hb)) e⟩⟩
  exact nY (g:=⟨j,p,u,0⟩) rfl rfl rfl rfl (λ_=>rfl) loop (self 0 _ _ _ st loop) (M I)
end
section
variable {W:Wd}{U:UT}{n l:Nat}{A:Around}{E:Value->Shared->Prop}{s s0 s2 s4 s':Shared}{env cenv:Env}{c:CT}{k:Nat}{sc isc:Scope}{R:Nat->aD}{Mu Mu':aD}{Z Z':St}{X Y:aD}{aE:List Str}
theorem Ei (C:Cx W c.aE sc env R Mu Z A l s)(ks:Keeps s s2)(cf:CF W sc isc env s2 cenv h4)(fresh:∀b,X b->s.heap.get? b=none)(live:∀b,X b-> ∃o,h4.get? b=some o):
  Cx W c.aE isc cenv R (λb=>Mu b\/X b) (Z.cut (gT c isc)) A l {s2 with heap:=h4,toks:=tk} where
 ok:=cf.ok
 base:=λb o e=>cf.keep b o (ag ks b o (C.base b o e))
 old:=λb h=>h.elim (λm=>ak (C.old b m) λo e=>⟨o,cf.keep b o (ag ks b o e)⟩) (live b)
 sub:=λi b r=>.inl (C.sub i b r)
 above:=λb h=>h.elim (C.above b) λx=>by
  cases e:W.h0.get? b with
  |none=>rfl
  |some o=>exact az (fresh b x) (C.base b o e)
 view:=λi sl e=>by
  refine au (fe e) λhc e=>aP (C.view i sl e) λx v hx na r=>?_
  refine af (List.mem_filterMap.mp (List.contains_iff_mem.mp hc)) λp hy hi=>?_
  have hi:(if(p.2==NameKind.free)=true then c.aE.idxOf? p.1 else none)=some i:=hi
  refine au (fe hi) λhk hi=>?_
  have hxy:x=p.1:=MW (hx.symm.trans (cz hi))
  have hfree:isc.names.lookup x=some .free:=by rw[hxy, <-eq_of_beq hk];exact cf.names _ hy
  exact⟨x,v,hx,cf.Ij x v hfree (na.keeps (ag ks)),r.move (λb o m e=>⟨λh=>h.elim m λq=>az (fresh b q) e,cf.keep b o (ag ks b o e)⟩) (λb o _ e=>cf.keep b o (ag ks b o e)) λ_ x=>x⟩
 good:=C.good
 tb:=C.tb
 live:=cf.live
theorem l4 {target:Expr}{t:dj}(h:iW c isc target=some t):aY t target:=by
 have g:=tB h
 clear h
 induction g with
 |one _=>exact .one
 |two _ _=>exact .many
theorem hX {α:Type}{K:hK W α}{ok:α->Prop}(ih:bF W U l n){H:Sem Value}{ob:Obj}{target iter:Expr}{ifs:List Expr}{rest:List Comprehension}{it:ME}{t:dj}{L:List ME}{f:St->α->Option α}{body:Addr->Env->Sem Unit}{a0 fin:α}{cl:List (Str×Addr)}{RR:Value->Addr->Result->Shared->Prop}(oc:Kg sc isc)(F:(∀x c,cl.lookup x=some c->isc.names.lookup x=some .free/\env.cells.lookup x=some c)/\(∀x,isc.names.lookup x=some .free-> ∃c,cl.lookup x=some c/\env.cells.lookup x=some c))(h2:(cm c k).i sc iter=some it)(ht:iW c isc target=some t)(hif:ah ((cm c k).e isc) ifs=some L)(hcl0:clausesOf p=⟨target,iter,ifs,0⟩::rest)(hc:∀I j cenv,(Code.compLoop p 0 (.ref I) (.ref j) cenv).isFrame=false)(hq:∀I j cenv,(Code.compLoop p 0 I (.ref j) cenv).quiet=true)(hun:∀I j cenv,A.under (.compLoop p 0 (.ref I) (.ref j) cenv)=A)(hc':∀I j cenv,(Code.compStart p 0 (.ref I) (.ref j) cenv).isFrame=false)(hun':∀I j cenv,A.under (.compStart p 0 (.ref I) (.ref j) cenv)=A)(hnew:∀(s:Shared) (Q:Value->Shared->Prop),Q (.ref s.heap.objs.size) {s with heap:=s.heap.push ob}->wpAny W.M A H Q E s)(hob:ob.isFreed=false)(hob0:∀(Mu':aD) h j,Fz Mu s.heap Mu' h->(j==sysModules)=false->h.get? j=some ob->K.P Mu' j a0 h)(hobc:∀v,ob.data≠ .cell v)(w:gX W)(heq:∀I j cenv,compTurn p 0 (.ref I) (.ref j) cenv=fT target iter.pos ifs (body j cenv) (again (.compLoop p 0 (.ref I) (.ref j) cenv)) (.ref I) cenv)(hb:∀cenv j (Mu':aD),LF isc cenv R Mu' j->(∀b,Mu b->Mu' b)->hV W K ok c.aE isc cenv R Mu' A l j (body j cenv) f)(hi:(ev U n).i Z t it=some xs)(he:b7 (eD (ev U n) (Z.cut (gT c isc)) t L f) a0 xs=some fin)(hok:∀a rest,b7 (eD (ev U n) (Z.cut (gT c isc)) t L f) a rest=some fin->ok a)(C:Cx W c.aE sc env R Mu Z A l s)(hRR:∀j C' s5 m,Keeps s s5->s.heap.get? j=none->s.heap.get? C'=none->j≠C'->s5.heap.Ns C' m->K.P (λb=>Mu b\/b=C') j fin s5.heap->RR (.ref j) C' (.ok .next) s5):
  wpAny W.M A (eval iter env) (λx s1=>wpAny W.M A (pyIter x) (λit s2=>wpAny W.M A H (λacc G=>wpAny W.M A (newFunctionEnv isc env.globals cl [] env.qual none .none (some env)) (λcenv s4=>
   codeAny W.M A (.compStart p 0 it acc {cenv with scope:=relabel isc env}) (RR acc cenv.locals) s4) E G) E s2) E s1) E s:=by
 refine NH (ih.i E h2 hi (l4 ht) C) (λx s1 hx=>?_) λ_ _ e=>e
 refine au hx λk1 hx=>?_
 refine NH hx (λitv s2 M=>?_) λ_ _ e=>e
 refine au M λk2 M=>bf M λsm km T M=>?_
 obtain @⟨I,fp,wr,n0,P,Md,Sx,ei,hn,KT,st,sl,self,hwr,hfz,items⟩:=M
 subst ei
 refine hnew _ _ (pz ?_)
 have ks:Keeps s s2:=ai k1 k2
 have k3:Keeps s {s2 with heap:=s2.heap.push ob}:=ai ks (ff s2 _)
 have B:CF W sc isc env {s2 with heap:=s2.heap.push ob} _ _:=Kh C.ok (C.live.keeps (ag k3)) oc F.1 F.2
 generalize V:({s2 with heap:=s2.heap.push ob}:Shared)=G at B k3 |-
 generalize hce:({scope:=relabel isc env,locals:=G.heap.objs.size,globals:=env.globals,cells:=cJ isc G.heap.objs.size cl,qual:=env.qual,func:=none,code:=env.code,frame:=env.frame,builtins:=env.builtins}:Env)=u at B
 have z:u.locals=G.heap.objs.size:=by rw[<-hce]
 have hD3:G.heap.get? s2.heap.objs.size=some ob:=by rw[<-V];exact Heap.get?_push_size _ hob
 have J:G.heap.objs.size=s2.heap.objs.size+1:=by rw[<-V];exact Heap.size_push ..
 have O:Keeps s2 G:=by rw[<-V];exact ff s2 _
 have hD4:=B.keep _ _ hD3
 have fresh:∀b,(b∈wr\/b=s2.heap.objs.size\/iY isc u b)->s.heap.get? b=none:=by
  exact λb h=>h.elim (λhb=>none_of (ag km) (hwr b hb)) λh=>h.elim (λe=>e▸fY ks) λhb=>hH k3 (B.fresh b hb)
 have live:∀b,(b∈wr\/b=s2.heap.objs.size\/iY isc u b)-> ∃o,(fj isc G.heap).get? b=some o:=by
  exact λb h=>h.elim (λhb=>ak (sl 0 _ st b (KT.sub b hb)) λo e=>⟨o,B.keep _ _ (ag O _ _ e)⟩) λh=>h.elim (λe=>⟨_,e▸hD4⟩) λhb=>B.live.lives hb
 have C4:=Ei (tk:=G.toks) C k3 B fresh live
 have hceD:¬bu u s2.heap.objs.size:=by
  rintro (h|⟨x,hx⟩)
  .rw[z,J] at h;exact Nat.succ_ne_self _ h.symm
  .by_cases y:isc.names.lookup x=some .cell
   .have:=B.fresh _ (.inr ⟨x,y,hx⟩)
    rw[J] at this;exact Nat.not_succ_le_self _ this
   .refine aW (B.live.cells x _ hx) λv o e hd=>?_
    exact hobc _ (MW (hD4.symm.trans e)▸hd)
 have noR:∀b,(b∈wr\/b=s2.heap.objs.size\/iY isc u b)-> ∀i, ¬R i b:=λb hb i r=>ak (C.old b (C.sub i b r)) λo e=>az (fresh b hb) e
 have lf:LF isc u R (λb=>Mu b\/(b∈wr\/b=s2.heap.objs.size\/iY isc u b)) s2.heap.objs.size:=
  ⟨⟨λb h=>.inr (.inr (.inr h)),λb h=>noR b (.inr (.inr h))⟩,.inr (.inr (.inl rfl)),noR _ (.inr (.inl rfl)),hceD⟩
 have S:∀b,b∈fp->b<s2.heap.objs.size:=λb hb=>ak (sl 0 _ st b hb) λo e=>Heap.lt_size e
 have hfp:∀b∈fp, ¬XD isc u s2.heap.objs.size b:=by
  rintro b hb (h|h)
  .have:=B.fresh b h
   rw[J] at this
   exact absurd (S b hb) (Nat.not_lt.mpr (Nat.le_of_succ_le this))
  .exact Oa _ (h▸S b hb)
 have N:∀b∈wr,(Mu b\/(b∈wr\/b=s2.heap.objs.size\/iY isc u b))/\(∀i, ¬R i b)/\ ¬bu u b/\b≠s2.heap.objs.size:=λb hb=>
  ⟨.inr (.inl hb),noR b (.inl hb),by
   have hlt:=S b (KT.sub b hb)
   rintro (h|⟨x,hx⟩)
   .rw[z,J] at h;exact absurd (h▸hlt) (Nat.not_lt.mpr (OK _))
   .by_cases y:isc.names.lookup x=some .cell
    .have:=B.fresh _ (.inr ⟨x,y,hx⟩)
     rw[J] at this;exact absurd hlt (Nat.not_lt.mpr (Nat.le_of_succ_le this))
    .have hce2:∃v,s.heap.IsCell b v:=by
      have:isc.names.lookup x=some .free/\env.cells.lookup x=some b:=by
       rw[<-hce] at hx
       unfold cJ at hx
       rw[eo,lY] at hx
       cases hq:(cellsFrom (G.heap.objs.size+1) isc.names []).lookup x with
       |some c'=>
        have hm:=fS (NC hq)
        exact absurd (oc.look _ hm) y
       |none=>
        rw[hq] at hx
        exact F.1 x b hx
      exact C.live.cells x b this.2
     refine aW hce2 λv o e ζ=>?_
     exact az (fresh b (.inl hb)) e,NZ (S b (KT.sub b hb))⟩
 have st4:Sx 0 (fj isc G.heap):=KT.frame _ _ _ st λb _ o e=>B.keep _ _ (ag O _ _ e)
 have loop:codeAny W.M A (.compLoop p 0 (.ref I) (.ref s2.heap.objs.size) u) (RR (.ref s2.heap.objs.size) G.heap.objs.size) {G with heap:=fj isc G.heap}:=by
  refine qY (K:=K) (ok:=ok) (fp:=fp) (wr:=wr) (Mu:=λb=>Mu b\/(b∈wr\/b=s2.heap.objs.size\/iY isc u b)) (Z:=Z.cut (gT c isc)) (f:=f) (a0:=a0) (fin:=fin) ih (hc I _ u) (hq _ _ u) (hun I _ u) (heq I _ u) KT hn st4 sl hfp N ?_ ht hif lf (hb u _ _ lf λb h=>.inl h) he hok C4
   (hob0 _ _ _ (λb o nb e=>⟨λh=>h.elim nb λq=>az (fresh b q) e,B.keep _ _ (ag k3 _ _ e)⟩) (eR (w.g.keeps C.base) ks) hD4) ?_
  .intro i d v h hd hk hP
   have frm:∀b o,sm.heap.get? b=some o-> ¬(b∈wr\/b=s2.heap.objs.size\/iY isc u b):=by
    rintro b o e (hb|rfl|hb)
    .exact az (hwr b hb) e
    .exact az (fY T) e
    .exact az (hH (ai T O) (B.fresh b hb)) e
   exact items i d v h _ hd (λb o nb e=>⟨λq=>q.elim nb (frm b o e),hk b o (λq=>q.elim nb (frm b o e)) (B.keep _ _ (ag O _ _ (ag T _ _ e)))⟩) hP
  .intro s5 s6 c5 k5 a5 k6
   refine ak c5.live.ns λm hm=>?_
   have hCw:u.locals∉wr:=λh=>(N _ h).2.2.1 (.inl rfl)
   have hDw:s2.heap.objs.size∉wr:=λh=>(N _ h).2.2.2 rfl
   have kk:KB (λb=>b∈wr\/b=s2.heap.objs.size\/iY isc u b) s s6:=(KB.of (ai k3 ⟨_,_,rfl,B.keep⟩)).trans ((k5.mono λb h=>h.elim (λh=>h.elim (λh=>.inr (.inr h)) λh=>.inr (.inl h)) .inl).trans (k6.mono λb h=>.inl h))
   refine hRR _ _ s6 m (kk.keeps fresh) (fresh _ (.inr (.inl rfl))) (fresh _ (.inr (.inr (.inl z.symm)))) (λh=>by rw[J] at h;exact Nat.succ_ne_self _ h.symm) ?_ ?_
   .rw[<-z]
    exact hm.at' λo e=>k6.get _ o hCw e
   .exact K.move a5 (λb o nb e=>⟨λh=>h.elim (λh=>nb (.inl h)) λh=>nb (.inr (.inr (.inr (.inl (h.trans z.symm))))),k6.get b o (λh=>nb (.inr (.inl h))) e⟩) λo e=>k6.get _ o hDw e
 exact nY (g:=⟨target,iter,ifs,0⟩) (by rw[hcl0];rfl) rfl (hc' _ _ _) (hq _ _ _) (λ_=>hq _ _ _) loop (self 0 _ _ _ st4 loop) (hun' _ _ _)
end
section
variable {c:CT}{r:Cm}{sc isc:Scope}{e:Expr}{me:ME}
theorem xn {v:EV}{q:Expr×Str×Pos}(h:(match v with
  | .attr o a p=>some (o,a,p)
  |_=>none)=some q):v=.attr q.1 q.2.1 q.2.2:=by
 cases v with
 |attr o a p=>exact MW h▸rfl
 |_=>exact ns h
theorem iL {q:Expr×Str×Pos}(h:e8 e=some q):e=.Attribute q.1 q.2.1 q.2.2:=lX (xn h)
theorem Ap {v:EV}{q:Expr×List Comprehension×Scope}(h:(match v with
  | .set e g i _=>some (e,g,i)
  |_=>none)=some q):∃p,v=.set q.1 q.2.1 q.2.2 p:=by
 cases v with
 |set e g i p=>exact⟨p,MW h▸rfl⟩
 |_=>exact ns h
theorem Aq {q:Expr×List Comprehension×Scope}(h:setOf e=some q):∃p,e=.SetComp q.1 q.2.1 q.2.2 p:=ak (Ap h) λp q=>⟨p,lX q⟩
theorem tE {v:EV}{q:Option Expr×Option Expr×Option Expr}(h:(match v with
  | .slice lo hi st _=>some (lo,hi,st)
  |_=>none)=some q):∃p,v=.slice q.1 q.2.1 q.2.2 p:=by
 cases v with
 |slice lo hi st p=>exact⟨p,MW h▸rfl⟩
 |_=>exact ns h
theorem tF {q:Option Expr×Option Expr×Option Expr}(h:sliceOf e=some q):∃p,e=.Slice q.1 q.2.1 q.2.2 p:=ak (tE h) λp q=>⟨p,lX q⟩
theorem tG (h:sliceOf e=none):∀a b st q,e≠ .Slice a b st q:=λa b st q x=>by rw[x] at h;exact ns h.symm
theorem dH {x:Str}(h:glob sc x=true):sc.names.lookup x=some .globalImplicit:=eq_of_beq h
theorem str_is {x:Str}(h:(x==y)=true):x=y:=NJ.mp h
theorem eE {outer inner:Scope}{g:Comprehension}(h:jZ c r outer inner (g::gs)=some ms):
  ∃t it ifs b,g.is_async=0/\ms=.mk t it ifs::b/\iW c inner g.target=some t/\r.i outer g.iter=some it/\ah (r.e inner) g.ifs=some ifs/\jZ c r inner inner gs=some b:=by
 obtain ⟨i,j,d,a⟩:=g
 by_cases f:a=0
 .subst f
  exact bV (o:=iW c inner i) h λt k h=>dX (He h) λit ifs b l m n e=>⟨t,it,ifs,b,rfl,e,k,l,m,n⟩
 .have h:(if a≠0 then none else _)=some ms:=h
  exact ns ((M7 f).symm.trans h)
theorem aH {outer inner:Scope}(h:jZ c r outer inner []=some ms):ms=[]:=(MW h).symm
structure G1 (c:CT)(r:Cm)(outer inner:Scope)(gens:List Comprehension)(t:dj)(it:ME)(ifs:List ME)(target iter:Expr)(ifs0:List Expr)(gs:List Comprehension):Prop where
 eq:gens=⟨target,iter,ifs0,0⟩::gs
 t:iW c inner target=some t
 it:r.i outer iter=some it
 ifs:ah (r.e inner) ifs0=some ifs
theorem kY {outer inner:Scope}{gens:List Comprehension}{g:MG}(h:jZ c r outer inner gens=some (g::ms)):
  ∃t it ifs target iter b gs,g=.mk t it ifs/\G1 c r outer inner gens t it ifs target iter b gs/\jZ c r inner inner gs=some ms:=by
 cases gens with
 |nil=>exact nl (aH h).symm
 |cons q gs=>
  refine JV (eE h) λt it ifs f d e i j k l=>?_
  obtain ⟨target,iter,b,a⟩:=q
  have d:a=0:=d
  subst d
  exact⟨t,it,ifs,target,iter,b,gs,(Oo e).1,⟨rfl,i,j,k⟩,(Oo e).2▸l⟩
theorem kZ {outer inner:Scope}{gens:List Comprehension}(h:jZ c r outer inner gens=some []):gens=[]:=by
 cases gens with
 |nil=>rfl
 |cons q a=>exact sS (eE h) λ_ _ _ _ _ e=>nl e.1
inductive CL (c:CT)(r:Cm)(sc isc:Scope)(elt:Expr)(gens:List Comprehension):ME->Prop
 |one {e:ME}{t:dj}{it:ME}{ifs:List ME}{target iter:Expr}{ifs0:List Expr}(g:G1 c r sc isc gens t it ifs target iter ifs0 [])(h:r.e isc elt=some e):CL c r sc isc elt gens (.comp e (gT c isc) (.mk t it ifs) [])
 |two {e:ME}{t t2:dj}{it it2:ME}{ifs ifs2:List ME}{target iter target2 iter2:Expr}{ifs0 ifs02:List Expr}(g:G1 c r sc isc gens t it ifs target iter ifs0 [⟨target2,iter2,ifs02,0⟩])
   (g2:G1 c r isc isc [⟨target2,iter2,ifs02,0⟩] t2 it2 ifs2 target2 iter2 ifs02 [])(h:r.e isc elt=some e):CL c r sc isc elt gens (.comp e (gT c isc) (.mk t it ifs) [.mk t2 it2 ifs2])
theorem Hp {gens:List Comprehension}(h:jq c r sc a gens isc=some me):DC sc isc=true/\CL c r sc isc a gens me:=by
 refine au (fe h) λf h=>⟨f,af (ob h) λb hg h=>?_⟩
 cases b with
 |nil=>exact ns h
 |cons g b=>
  refine DM (kY hg) λt it ifs target iter m y e q n=>?_
  cases b with
  |nil=>exact qs (R:=CL c r sc isc a gens) (o:=r.e isc a) h λ_ i=>e▸ .one (kZ n▸q) i
  |cons z b=>
   refine DM (kY n) λA u s d j k v w p x=>?_
   cases b with
   |nil=>
    have l:=p.eq
    rw[kZ x] at l p
    exact qs (R:=CL c r sc isc a gens) (o:=r.e isc a) h λ_ i=>e▸w▸ .two (l▸q) (l▸p) i
   |cons _ _=>exact ns h
theorem Il {b:Expr}{gens:List Comprehension}{e:ME}{f:List Nat}{x:Nat}{it:ME}(h:jq c r sc b gens isc=some (.comp e f (.mk (.one x) it []) [])):
  DC sc isc=true/\f=gT c isc/\r.e isc b=some e/\ ∃target iter a,G1 c r sc isc gens (.one x) it [] target iter a []:=by
 refine au (fe h) λj h=>af (ob h) λi hg h=>?_
 cases i with
 |nil=>exact ns h
 |cons g i=>
  refine DM (kY hg) λt it ifs target iter a p e q n=>?_
  cases i with
  |nil=>
   refine af (bind1 (o:=r.e isc b) h) λm l d=>?_
   have d:=ME.comp.inj d
   have k:=MG.mk.inj (d.2.2.1.trans e)
   exact⟨j,d.2.1,d.1▸l,target,iter,a,k.1▸k.2.1▸k.2.2▸kZ n▸q⟩
  |cons s i=>
   cases i with
   |nil=>exact af (bind1 (o:=r.e isc b) h) λm l d=>nl (ME.comp.inj d).2.2.2
   |cons _ _=>exact ns h
inductive CD (c:CT)(r:Cm)(sc isc:Scope)(kx vx:Expr)(gens:List Comprehension):ME->Prop
 |one {mk mv:ME}{t:dj}{it:ME}{ifs:List ME}{target iter:Expr}{ifs0:List Expr}(g:G1 c r sc isc gens t it ifs target iter ifs0 [])(h1:r.e isc kx=some mk)(h2:r.e isc vx=some mv):CD c r sc isc kx vx gens (.dM mk mv (gT c isc) (.mk t it ifs))
theorem Hq {b:Expr}{gens:List Comprehension}(h:JJ c r sc a b gens isc=some me):DC sc isc=true/\CD c r sc isc a b gens me:=by
 refine au (fe h) λd h=>⟨d,af (ob h) λf hg h=>?_⟩
 cases f with
 |nil=>exact ns h
 |cons g f=>
  cases f with
  |nil=>exact DM (kY hg) λt it ifs target iter i m e q j=>te (R:=CD c r sc isc a b gens) (o:=r.e isc a) (p:=r.e isc b) h λ_ _ k l=>e▸ .one (kZ j▸q) k l
  |cons _ _=>exact ns h
def tH (f:Fn):Prop:= ∀(U:UT) (r:Ev) (a:St) (b:List ME),cV U r a (.fn f b)=(b.mapM (r.v a)).bind (fN U f)
noncomputable def Im:Fn->Bool
 | .user _| .dY _| .cU=>false
 |_=>true
theorem nZ {f:Fn}(h:Im f=true):tH f:=by
 cases f with
 |user=>exact nb h
 |«dY»=>exact nb h
 |cU=>exact nb h
 |_=>exact λ_ _ _ _=>rfl
theorem Io:(uT.all λp=>Im p.2)=true:=by decide+kernel
theorem Ip:(zd.all λp=>Im p.2&& !(p.2== .list))=true:=by decide+kernel
theorem l5 {x:Str}{f:Fn}(h:uT.lookup x=some f):tH f/\(∀es,dq (.fn f es)=true->f=.list):=
 ⟨nZ (Nx.mp Io _ (NC h)),λes q=>eq_of_beq q⟩
theorem q7 {x:Str}{f:Fn}(h:zd.lookup x=some f):tH f/\ ∀es,dq (.fn f es)=false:=
 au (M9.mp (Nx.mp Ip _ (NC h))) λa b=>⟨nZ a,λes=>(Bool.not_eq_true' _).mp b⟩
inductive CE (c:CT)(r:Cm)(sc:Scope):Expr->ME->Prop
 |none {kk:Nat}{p:Pos}:CE c r sc (.Constant .none kk p) .none
 |bool {b:Bool}{kk:Nat}{p:Pos}:CE c r sc (.Constant (.bool b) kk p) (.bool b)
 |int {i:Int}{kk:Nat}{p:Pos}:CE c r sc (.Constant (.int i) kk p) (.int i)
 |str {s:Str}{kk:Nat}{p:Pos}:CE c r sc (.Constant (.str s) kk p) (.str s)
 |var {x:Str}{p:Pos}{i:Nat}(h:c.aE.idxOf? x=some i):CE c r sc (.Name x p) (.var i)
 |bin {a b:Expr}{op:Operator}{p:Pos}{ma mb:ME}(h1:r.e sc a=some ma)(h2:r.e sc b=some mb):CE c r sc (.BinOp a op b p) (.bin op ma mb)
 |neg {a:Expr}{p:Pos}{ma:ME}(h:r.e sc a=some ma):CE c r sc (.UnaryOp .USub a p) (.neg ma)
 |not {a:Expr}{p:Pos}{ma:ME}(h:r.e sc a=some ma):CE c r sc (.UnaryOp .Not a p) (.not ma)
 |and {a b:Expr}{p:Pos}{ma mb:ME}(h1:r.e sc a=some ma)(h2:r.e sc b=some mb):CE c r sc (.BoolOp .And [a,b] p) (.and ma mb)
 |or {a b:Expr}{p:Pos}{ma mb:ME}(h1:r.e sc a=some ma)(h2:r.e sc b=some mb):CE c r sc (.BoolOp .Or [a,b] p) (.or ma mb)
 |cmp {a b:Expr}{op:CmpOp}{p:Pos}{ma mb:ME}(h1:r.e sc a=some ma)(h2:r.e sc b=some mb):CE c r sc (.Compare a [op] [b] p) (.cmp op ma mb)
 |ite {t a b:Expr}{p:Pos}{mt ma mb:ME}(h0:r.e sc t=some mt)(h1:r.e sc a=some ma)(h2:r.e sc b=some mb):CE c r sc (.IfExp t a b p) (.ite mt ma mb)
 |list {es:List Expr}{p:Pos}{mes:List ME}(h:ah (r.e sc) es=some mes):CE c r sc (.List es p) (.list mes)
 |tup {es:List Expr}{kk:Nat}{p:Pos}{mes:List ME}(h:ah (r.e sc) es=some mes):CE c r sc (.Tuple es kk p) (.tup mes)
 |Ar {p:Pos}:CE c r sc (.Dict [] [] p) (.dict [])
 |As {a b:Expr}{p:Pos}{ma mb:ME}(h1:r.e sc a=some ma)(h2:r.e sc b=some mb):CE c r sc (.Dict [some a] [b] p) (.dict [(ma,mb)])
 |comp {elt:Expr}{gens:List Comprehension}{isc:Scope}{p:Pos}{m:ME}{cap:List Nat}{g:MG}{gs:List MG}(h:jq c r sc elt gens isc=some (.comp m cap g gs)):CE c r sc (.ListComp elt gens isc p) (.comp m cap g gs)
 |dM {kx vx:Expr}{gens:List Comprehension}{isc:Scope}{p:Pos}{mk mv:ME}{cap:List Nat}{g:MG}(h:JJ c r sc kx vx gens isc=some (.dM mk mv cap g)):CE c r sc (.DictComp kx vx gens isc p) (.dM mk mv cap g)
 |jc {a:Expr}{lo hi st:Option Expr}{p q:Pos}{ma:ME}{ml mh ms:Option ME}(h1:r.e sc a=some ma)(h2:j0 r sc lo=some ml)(h3:j0 r sc hi=some mh)(h4:j0 r sc st=some ms):CE c r sc (.Subscript a (.Slice lo hi st q) p) (.jc ma ml mh ms)
 |idx {a i:Expr}{p:Pos}{ma mi:ME}(h1:r.e sc a=some ma)(h2:r.e sc i=some mi)(h:∀a b st q,i≠ .Slice a b st q):CE c r sc (.Subscript a i p) (.idx ma mi)
 |sT {q p:Pos}(h:sc.names.lookup ("Whitespace":Str)=some .globalImplicit):CE c r sc (.Attribute (.Name "Whitespace" q) "S" p) (.fn .sT [])
 |sU {q p:Pos}(h:sc.names.lookup ("Whitespace":Str)=some .globalImplicit):CE c r sc (.Attribute (.Name "Whitespace" q) "T" p) (.fn .sU [])
 |attr {x a:Str}{q p:Pos}{m:ME}{j:Nat}(h1:r.e sc (.Name x q)=some m)(h2:dF.idxOf? a=some j):CE c r sc (.Attribute (.Name x q) a p) (.attr m j)
 |user {x:Str}{q p:Pos}{es:List Expr}{f:Nat}{mes:List ME}(h:tc.lookup x=some f)(hg:sc.names.lookup x=some .globalImplicit)(h1:ah (r.e sc) es=some mes):CE c r sc (.Call (.Name x q) es [] p) (.fn (.user f) mes)
 |uT {x:Str}{q p:Pos}{es:List Expr}{f:Fn}{mes:List ME}(h:uT.lookup x=some f)(hg:sc.names.lookup x=some .globalImplicit)(h1:ah (r.e sc) es=some mes):CE c r sc (.Call (.Name x q) es [] p) (.fn f mes)
 |gI {elt:Expr}{gens:List Comprehension}{isc:Scope}{np cp p:Pos}{t:dj}{it m:ME}{ifs:List ME}(hok:DC sc isc=true)(h:jZ c r sc isc gens=some [.mk t it ifs])(h1:r.e isc elt=some m)(hg:sc.names.lookup ("sorted":Str)=some .globalImplicit):
   CE c r sc (.Call (.Name "sorted" np) [.SetComp elt gens isc cp] [] p) (.gI m (gT c isc) (.mk t it ifs))
 |sset {a:Expr}{np p:Pos}{ma:ME}(h1:r.e sc a=some ma)(hg:sc.names.lookup ("sorted":Str)=some .globalImplicit):CE c r sc (.Call (.Name "sorted" np) [a] [] p) (.fn .sset [ma])
 |pB {a:Expr}{np tp p:Pos}{ma:ME}{b:Bool}(h1:r.e sc a=some ma)(hg:sc.names.lookup ("isinstance":Str)=some .globalImplicit)(ht:sc.names.lookup (if b then("int":Str) else "tuple")=some .globalImplicit):
   CE c r sc (.Call (.Name "isinstance" np) [a,.Name (if b then("int":Str) else "tuple") tp] [] p) (.fn (if b then .jo else .kB) [ma])
 |flag {np ap p:Pos}{es:List Expr}{mes:List ME}(hl:(ap.endLine==p.line)=true)(hn:es.length<20)(hg:sc.names.lookup ("COMPILER_FLAG_NAMES":Str)=some .globalImplicit)(h1:ah (r.e sc) es=some mes):
   CE c r sc (.Call (.Attribute (.Name "COMPILER_FLAG_NAMES" np) "get" ap) es [] p) (.fn .cU mes)
 |zd {o:Expr}{m:Str}{f:Fn}{ap p:Pos}{es:List Expr}{mo:ME}{mes:List ME}(hc:bN o=true)(hl:(ap.endLine==p.line)=true)(hn:es.length<20)(h:zd.lookup m=some f)(h0:r.e sc o=some mo)(h1:ah (r.e sc) es=some mes):
   CE c r sc (.Call (.Attribute o m ap) es [] p) (.fn f (mo::mes))
 |dY {o:Expr}{m:Str}{f:Nat}{ap p:Pos}{es:List Expr}{mo:ME}{mes:List ME}(hc:bN o=true)(hl:(ap.endLine==p.line)=true)(hn:es.length<20)(h:meths.lookup m=some f)(h0:r.e sc o=some mo)(h1:ah (r.e sc) es=some mes):
   CE c r sc (.Call (.Attribute o m ap) es [] p) (.fn (.dY f) (mo::mes))
theorem xp {q p:Pos}{args:List Expr}(hg:sc.names.lookup ("sorted":Str)=some .globalImplicit)(h:oU c r sc args=some me):CE c r sc (.Call (.Name "sorted" q) args [] p) me:=by
 refine Ed h λa h=>?_
 have h:(match setOf a with
  |some (e,gens,isc)=>if DC sc isc then(jZ c r sc isc gens).bind (DN λg=>do pure (.gI (<-r.e isc e) (gT c isc) g)) else none
  |none=>do pure (.fn .sset [<-r.e sc a]))=some me:=h
 cases hs:setOf a with
 |some t=>
  rw[hs] at h
  refine ak (Aq hs) λp e=>e▸cT h λd h=>bV h λi b h=>?_
  revert b
  refine Ed h λg h b=>qs (R:=CE c r sc _) (o:=r.e t.2.2 t.1) h λm f=>?_
  cases g with
  |mk t it ifs=>exact .gI d b f hg
 |none=>
  rw[hs] at h
  exact qs (R:=CE c r sc _) (o:=r.e sc a) h λj f=>.sset f hg
theorem xq {q p:Pos}{args:List Expr}(hg:sc.names.lookup ("isinstance":Str)=some .globalImplicit)(h:oV r sc args=some me):CE c r sc (.Call (.Name "isinstance" q) args [] p) me:=by
 refine Ii h λa b h=>bV h λt hn h=>ak (bh hn) λi e=>e▸cT h λd h=>?_
 have d:=dH d
 by_cases ht:(t=="int")=true
 .rw[M7 ht] at h
  rw[str_is ht] at d |-
  exact qs (R:=CE c r sc _) (o:=r.e sc a) h λg f=>.pB (b:=true) f hg d
 .rw[M8 ht] at h
  refine cT h λht h=>?_
  rw[str_is ht] at d |-
  exact qs (R:=CE c r sc _) (o:=r.e sc a) h λg f=>.pB (b:=false) f hg d
theorem Au {x:Str}{args:List Expr}(h:td c r sc x args=some me):CE c r sc (.Call (.Name x q) args [] p) me:=by
 refine cT h λhg h=>?_
 have hg:=dH hg
 cases hf:tc.lookup x with
 |some f=>
  rw[hf] at h
  exact qs (R:=CE c r sc _) (o:=ah (r.e sc) args) h λa b=>.user hf hg b
 |none=>
  rw[hf] at h
  cases hb:av.uT.lookup x with
  |some f=>
   rw[hb] at h
   exact qs (R:=CE c r sc _) (o:=ah (r.e sc) args) h λa b=>.uT hb hg b
  |none=>
   rw[hb] at h
   have h:(if(x=="sorted")=true then oU c r sc args else if(x=="isinstance")=true then oV r sc args else none)=some me:=h
   by_cases hx:(x=="sorted")=true
   .rw[M7 hx] at h
    rw[str_is hx] at hg |-
    exact xp hg h
   .rw[M8 hx] at h
    refine cT h λhx h=>?_
    rw[str_is hx] at hg |-
    exact xq hg h
theorem Ej {o:Expr}{m:Str}{j p:Pos}{args:List Expr}(k:bN o=true)(i:(j.endLine==p.line)=true)(hn:args.length<20)(h:uU r sc o m args=some me):CE c r sc (.Call (.Attribute o m j) args [] p) me:=by
 unfold uU at h
 by_cases hm:(m=="get")=true
 .rw[M7 hm] at h
  refine bV h λx hx h=>ak (bh hx) λq e=>e▸cT h λl h=>au (M9.mp l) λh0 hg=>?_
  have hg:=dH hg
  rw[str_is h0] at hg |-
  rw[str_is hm]
  exact qs (R:=CE c r sc _) h λd g=>.flag i hn hg g
 .rw[M8 hm] at h
  cases hf:av.zd.lookup m with
  |some f=>
   rw[hf] at h
   exact te (R:=CE c r sc _) (o:=r.e sc o) (p:=ah (r.e sc) args) (f:=λa b=>ME.fn f (a::b)) h λn d h0 g=>.zd k i hn hf h0 g
  |none=>
   rw[hf] at h
   cases hk:meths.lookup m with
   |some f=>
    rw[hk] at h
    exact te (R:=CE c r sc _) (o:=r.e sc o) (p:=ah (r.e sc) args) (f:=λa b=>ME.fn (.dY f) (a::b)) h λn d h0 g=>.dY k i hn hk h0 g
   |none=>rw[hk] at h;exact ns h
theorem Ek {o:Expr}(h:Hc c r sc (.Attribute o a p)=some me):CE c r sc (.Attribute o a p) me:=by
 refine bV (o:=nameOf o) h λx hn h=>ak (bh hn) λq e=>?_
 rw[e] at h |-
 by_cases d:(x=="Whitespace"&&glob sc x)=true
 .have h:=(M7 d).symm.trans h
  refine au (M9.mp d) λhx hg=>?_
  have hg:=dH hg
  rw[str_is hx] at hg |-
  by_cases b:(a=="S")=true
  .rw[str_is b];exact cq ((M7 b).symm.trans h) (.sT hg)
  .refine cT ((M8 b).symm.trans h) λb h=>?_
   rw[str_is b];exact cq h (.sU hg)
 .exact te (R:=CE c r sc _) ((M8 d).symm.trans h) λ_ _ f g=>.attr f g
theorem El {f:Expr}{args:List Expr}{a:List Keyword}(h:Hc c r sc (.Call f args a p)=some me):CE c r sc (.Call f args a p) me:=by
 cases a with
 |cons _ _=>exact ns h
 |nil=>
  have h:(match nameOf f with
   |some x=>td c r sc x args
   |none=>(e8 f).bind λq=>if(bN q.1&&q.2.2.endLine==p.line&&decide (args.length<20))=true then uU r sc q.1 q.2.1 args else none)=some me:=h
  cases hn:nameOf f with
  |some x=>
   rw[hn] at h
   exact ak (bh hn) λq e=>e▸Au h
  |none=>
   rw[hn] at h
   exact bV (o:=e8 f) h λt d h=>iL d▸cT h λb h=>au (M9.mp b) λb g=>au (M9.mp b) λi j=>Ej i j (Nr g) h
theorem Iq {i:Expr}(h:Hc c r sc (.Subscript a i p)=some me):CE c r sc (.Subscript a i p) me:=by
 have h:(match sliceOf i with
  |some (lo,hi,st)=>do pure (.jc (<-r.e sc a) (<-j0 r sc lo) (<-j0 r sc hi) (<-j0 r sc st))
  |none=>do pure (.idx (<-r.e sc a) (<-r.e sc i)))=some me:=h
 cases hs:sliceOf i with
 |some t=>
  rw[hs] at h
  exact ak (tF hs) λq e=>e▸bV h λj b h=>Hf (R:=CE c r sc _) h λ_ _ _ d f g=>.jc b d f g
 |none=>
  rw[hs] at h
  exact te (R:=CE c r sc _) h λ_ _ b d=>.idx b d (tG hs)
theorem Em (h:Hb r sc ks vs=some me):CE c r sc (.Dict ks vs p) me:=by
 cases ks with
 |nil=>
  cases vs with
  |nil=>exact cq h .Ar
  |cons _ _=>exact ns h
 |cons k ks=>
  cases k with
  |none=>exact ns h
  |some k=>
   cases ks with
   |cons _ _=>exact ns h
   |nil=>
    cases vs with
    |nil=>exact ns h
    |cons v vs=>
     cases vs with
     |nil=>exact te (R:=CE c r sc _) (o:=r.e sc k) (p:=r.e sc v) (f:=λa b=>ME.dict [(a,b)]) h λ_ _ d g=>.As d g
     |cons _ _=>exact ns h
theorem kJ (h:Hc c r sc e=some me):CE c r sc e me:=by
 cases e with
 |Constant k u p=>
  cases k with
  |none=>exact cq h .none
  |bool b=>exact cq h .bool
  |int i=>exact cq h .int
  |str s=>exact cq h .str
  |_=>exact ns h
 |Name x p=>exact wM (R:=CE c r sc _) (o:=c.aE.idxOf? x) h λi hi=>.var hi
 |BinOp a j b p=>exact te (R:=CE c r sc _) (o:=r.e sc a) (p:=r.e sc b) (f:=ME.bin j) h λ_ _ d g=>.bin d g
 |UnaryOp j a p=>
  cases j with
  |Not=>exact qs (R:=CE c r sc _) (o:=r.e sc a) (f:=ME.not) h λ_ d=>.not d
  |USub=>exact qs (R:=CE c r sc _) (o:=r.e sc a) (f:=ME.neg) h λ_ d=>.neg d
  |_=>exact ns h
 |BoolOp j v p=>
  refine Ii h λa b h=>aP (zr (o:=r.e sc a) (p:=r.e sc b) h) λB mb d g h=>?_
  cases j with
  |And=>exact cq h (.and d g)
  |Or=>exact cq h (.or d g)
 |Compare a w C p=>exact Ed h λj h=>Ed h λb h=>te (R:=CE c r sc _) (o:=r.e sc a) (p:=r.e sc b) (f:=ME.cmp j) h λ_ _ d g=>.cmp d g
 |IfExp t a b p=>exact Hf (R:=CE c r sc _) (o:=r.e sc t) (p:=r.e sc a) (q:=r.e sc b) (f:=ME.ite) h λ_ _ _ h0 d g=>.ite h0 d g
 |List l p=>exact wM (R:=CE c r sc _) (o:=ah (r.e sc) l) h λm d=>.list d
 |Tuple l u p=>exact wM (R:=CE c r sc _) (o:=ah (r.e sc) l) h λm d=>.tup d
 |Dict D v p=>exact Em h
 |ListComp n gens isc p=>
  have h:jq c r sc n gens isc=some me:=h
  have q:=(Hp h).2
  revert h
  induction q<;>exact λh=>.comp h
 |DictComp y z gens isc p=>
  have h:JJ c r sc y z gens isc=some me:=h
  have q:=(Hq h).2
  revert h
  induction q;exact λh=>.dM h
 |Subscript a i p=>exact Iq h
 |Attribute o a p=>exact Ek h
 |Call f args A p=>exact El h
 |_=>exact ns h
noncomputable def Av (e:Expr):Bool:= !Nat.beq e.ctorIdx 5
inductive CI (c:CT)(r:Cm)(sc:Scope):Expr->ME->Prop
 |range {np p:Pos}{es:List Expr}{mes:List ME}(hg:sc.names.lookup ("range":Str)=some .globalImplicit)(h1:ah (r.e sc) es=some mes):CI c r sc (.Call (.Name "range" np) es [] p) (.range mes)
 |enum {np p:Pos}{a:Expr}{ma:ME}(hg:sc.names.lookup ("enumerate":Str)=some .globalImplicit)(h1:r.e sc a=some ma):CI c r sc (.Call (.Name "enumerate" np) [a] [] p) (.enum ma)
 |zip {np p:Pos}{a b:Expr}{ma mb:ME}(hg:sc.names.lookup ("zip":Str)=some .globalImplicit)(h1:r.e sc a=some ma)(h2:r.e sc b=some mb):CI c r sc (.Call (.Name "zip" np) [a,b] [] p) (.zip ma mb)
 |items {o:Expr}{ap p:Pos}{mo:ME}(hc:bN o=true)(hl:(ap.endLine==p.line)=true)(h1:r.e sc o=some mo):CI c r sc (.Call (.Attribute o "items" ap) [] [] p) (.items mo)
 |values {o:Expr}{ap p:Pos}{mo:ME}(hc:bN o=true)(hl:(ap.endLine==p.line)=true)(h1:r.e sc o=some mo):CI c r sc (.Call (.Attribute o "values" ap) [] [] p) (.values mo)
 |ite {t a b:Expr}{p:Pos}{mt ma mb:ME}(h0:r.e sc t=some mt)(h1:r.i sc a=some ma)(h2:r.i sc b=some mb):CI c r sc (.IfExp t a b p) (.ite mt ma mb)
 |dflt {e:Expr}{me:ME}(h:r.e sc e=some me)(hn:Av e=true):CI c r sc e me
theorem Aw {x:Str}{args:List Expr}(h:oW r sc x args (r.e sc (.Call (.Name x j) args [] p))=some me):CI c r sc (.Call (.Name x j) args [] p) me:=by
 unfold oW at h
 by_cases d:(glob sc x&&x=="range")=true
 .rw[M7 d] at h
  refine au (M9.mp d) λhg hx=>?_
  have hg:=dH hg
  rw[str_is hx] at hg |-
  exact qs (R:=CI c r sc _) h λ_ q=>.range hg q
 .rw[M8 d] at h
  by_cases g:(glob sc x&&x=="enumerate")=true
  .rw[M7 g] at h
   refine au (M9.mp g) λhg hx=>?_
   have hg:=dH hg
   rw[str_is hx] at hg |-
   rcases args with _|⟨a,_|⟨b,_⟩⟩
   .exact ns h
   .exact qs (R:=CI c r sc _) (o:=r.e sc a) (f:=ME.enum) h λ_ q=>.enum hg q
   .exact ns h
  .rw[M8 g] at h
   by_cases i:(glob sc x&&x=="zip")=true
   .rw[M7 i] at h
    refine au (M9.mp i) λhg hx=>?_
    have hg:=dH hg
    rw[str_is hx] at hg |-
    rcases args with _|⟨a,_|⟨b,_|⟨_,_⟩⟩⟩
    .exact ns h
    .exact ns h
    .exact te (R:=CI c r sc _) (o:=r.e sc a) (p:=r.e sc b) (f:=ME.zip) h λ_ _ q k=>.zip hg q k
    .exact ns h
   .rw[M8 i] at h
    exact .dflt h rfl
theorem En {o:Expr}{m:Str}{a p:Pos}(b:bN o=true)(d:(a.endLine==p.line)=true)(h:oX r sc o m (r.e sc (.Call (.Attribute o m a) [] [] p))=some me):CI c r sc (.Call (.Attribute o m a) [] [] p) me:=by
 unfold oX at h
 by_cases hi:(m=="items")=true
 .rw[M7 hi] at h
  rw[str_is hi]
  exact qs (R:=CI c r sc _) h λ_ q=>.items b d q
 .rw[M8 hi] at h
  by_cases hv:(m=="values")=true
  .rw[M7 hv] at h
   rw[str_is hv]
   exact qs (R:=CI c r sc _) h λ_ q=>.values b d q
  .rw[M8 hv] at h
   exact .dflt h rfl
theorem Kj (h:Mv r sc e=some me):CI c r sc e me:=by
 cases e with
 |IfExp t a b p=>exact Hf (R:=CI c r sc _) (o:=r.e sc t) (p:=r.i sc a) (q:=r.i sc b) (f:=ME.ite) h λ_ _ _ h0 d g=>.ite h0 d g
 |Call f args i p=>
  rcases i with _|⟨_,_⟩
  .have h:(match nameOf f with
    |some x=>oW r sc x args (r.e sc (.Call f args [] p))
    |none=>match e8 f with
     |some q=>if args.isEmpty=true then(if(bN q.1&&q.2.2.endLine==p.line)=true then oX r sc q.1 q.2.1 (r.e sc (.Call f args [] p)) else none) else r.e sc (.Call f args [] p)
     |none=>r.e sc (.Call f args [] p))=some me:=h
   cases hn:nameOf f with
   |some x=>
    rw[hn] at h
    refine ak (bh hn) λq j=>?_;subst j
    exact Aw h
   |none=>
    rw[hn] at h
    cases k:e8 f with
    |none=>rw[k] at h;exact .dflt h rfl
    |some t=>
     rw[k] at h
     dsimp only at h
     by_cases he:args.isEmpty=true
     .rw[M7 he] at h
      refine au (fe h) λm l=>?_
      refine au (M9.mp m) λd g=>?_
      rw[List.isEmpty_iff.mp he,iL k] at l |-
      exact En d g l
     .rw[M8 he] at h;exact .dflt h rfl
  .exact .dflt h rfl
 |_=>exact .dflt h rfl
end
section
variable {U:UT}{r:Ev}{Z:St}{d:D}
theorem l6 {e:ME}{t:dj}{it:ME}{ifs:List ME}(h:cV U r Z (.comp e a (.mk t it ifs) gs)=some d):
  ∃xs out,r.i Z t it=some xs/\bD (cw r e t ifs gs (Z.cut a)) xs=some out/\out.length<2^20/\d=.list out:=by
 refine af (ob (o:=r.i Z t it) h) λxs b h=>?_
 refine af (ob (o:=bD (cw r e t ifs gs (Z.cut a)) xs) h) λout c h=>?_
 refine au (fe h) λf h=>?_
 exact⟨xs,out,b,c,f,(MW h).symm⟩
theorem xr {k v:ME}{t:dj}{it:ME}{ifs:List ME}(h:cV U r Z (.dM k v a (.mk t it ifs))=some d):
  ∃xs out,r.i Z t it=some xs/\di r k v t ifs (Z.cut a) xs ([],[])=some out/\out.1.length<2^10/\d=.dict out.1 out.2:=by
 refine af (ob (o:=r.i Z t it) h) λxs b h=>?_
 refine af (ob (o:=di r k v t ifs (Z.cut a) xs ([],[])) h) λout c h=>?_
 refine au (fe h) λe h=>?_
 exact⟨xs,out,b,c,e,(MW h).symm⟩
theorem pC {b:ME}(h:cV U r Z (.bin op a b)=some d):∃x y,r.v Z a=some x/\r.v Z b=some y/\D.bin op x y=some d:=zr (o:=r.v Z a) (p:=r.v Z b) (f:=D.bin op) h
theorem Eo {b:ME}(h:cV U r Z (.idx a b)=some d):∃x y,r.v Z a=some x/\r.m Z b=some y/\D.index x y=some d:=zr (o:=r.v Z a) (p:=r.m Z b) (f:=D.index) h
theorem Ep {lo hi st:Option ME}(h:cV U r Z (.jc a lo hi st)=some d):∃x l h s,r.v Z a=some x/\fO r Z lo=some l/\fO r Z hi=some h/\fO r Z st=some s/\D.slice x l h s=some d:=by
 refine af (ob (o:=r.v Z a) h) λx b h=>?_
 refine af (ob (o:=fO r Z lo) h) λl c h=>?_
 refine aP (zr (o:=fO r Z hi) (p:=fO r Z st) (f:=D.slice x l) h) λy s e g h=>?_
 exact⟨x,l,y,s,b,c,e,g,h⟩
theorem Er {b:ME}(h:cV U r Z (.cmp op a b)=some d):∃x y q,r.v Z a=some x/\r.v Z b=some y/\D.cmp op x y=some q/\.bool q=d:=by
 refine aP (zr (o:=r.v Z a) (p:=r.v Z b) (f:=λx y=>(D.cmp op x y).map D.bool) h) λx y c e h=>?_
 refine af (om h) λq g i=>?_
 exact⟨x,y,q,c,e,g,i⟩
theorem inv_neg (h:cV U r Z (.neg a)=some d):∃i,r.m Z a=some (.int i)/\.int (-i)=d:=by
 refine af (ob (o:=r.m Z a) h) λx b h=>?_
 cases x<;>first|exact ns h|exact⟨_,b,MW h⟩
theorem Es {i:Nat}(h:cV U r Z (.var i)=some d):Z i=some (.val d):=by
 have h:(match Z i with
  |some (.val d)=>some d
  |_=>none)=some d:=h
 cases hs:Z i with
 |none=>rw[hs] at h;exact ns h
 |some s=>
  rw[hs] at h
  cases s<;>first|exact ns h|(rw[MW h])
theorem jE (h:cV U r Z (.list es)=some d):∃ds,es.length<64/\es.mapM (r.m Z)=some ds/\.list ds=d:=by
 refine au (fe h) λa h=>?_
 refine af (om h) λds b c=>?_
 exact⟨ds,a,b,c⟩
theorem Et (h:cV U r Z (.tup es)=some d):∃ds,es.length<64/\es.mapM (r.m Z)=some ds/\.tup ds=d:=by
 refine au (fe h) λa h=>?_
 refine af (om h) λds b c=>?_
 exact⟨ds,a,b,c⟩
theorem n3 {b:ME}(h:cV U r Z (.dict [(a,b)])=some d):∃s y,r.m Z a=some (.str s)/\r.m Z b=some y/\.dict [s] [y]=d:=by
 refine af (ob (o:=r.m Z a) h) λx c h=>?_
 cases x<;>first|exact ns h|skip
 refine af (bind1 (o:=r.m Z b) h) λy e f=>?_
 exact⟨_,y,c,e,f.symm⟩
end
section
variable {W:Wd}{U:UT}{n l:Nat}{A:Around}{E:Value->Shared->Prop}{s s0 s2 s4 s':Shared}{env cenv:Env}{c:CT}{k:Nat}{sc isc:Scope}{R:Nat->aD}{Mu Mu':aD}{Z Z':St}{X Y:aD}{aE:List Str}
structure L2 (W:Wd)(Mu:aD)(s:Shared)(out:List D)(D' C':Addr)(s5:Shared)(m:Str->Option Value):Prop where
 keeps:Keeps s s5
 newD:s.heap.get? D'=none
 Ax:s.heap.get? C'=none
 ne:D'≠C'
 ns:s5.heap.Ns C' m
 acc:Ik W (λb=>Mu b\/b=C') D' out s5.heap
theorem Ay {r:Ev}{e:ME}{t:dj}{ifs:List ME}{out:List D}(a:bD (cw r e t ifs gs Z) xs=some out):b7 (eD r Z t ifs (fG r e gs)) [] xs=some out:=by
 rw[eX,gv a,List.nil_append]
theorem l7 {r:Ev}{e:ME}{t:dj}{ifs:List ME}{out:List D}(b:out.length<2^20)(a rest:List D)(h:b7 (eD r Z t ifs (fG r e gs)) a rest=some out):qW a:=by
 rw[eX] at h
 exact M5 (kI h) b
theorem q8 (w:gX W)(H:bF W U l n){gens:List Comprehension}{d:D}{use:Option (Value->Sem Unit)}{Q:Value->Shared->Prop}(h:jq c (cm c k) sc j gens isc=some me)(he:cV U (ev U n) Z me=some d)(C:Cx W c.aE sc env R Mu Z A l s)(hQ:∀out f u s5 m,d=.list out->L2 W Mu s out f u s5 m->compPost W.M A E use Q (.ref f) u (.ok .next) s5):
  wpAny W.M A (comprehension (.ListComp j gens isc pos) isc env (firstIterPos gens pos) (newList []) (firstAsync gens) (firstIter gens env) use) Q E s:=by
 refine au (Hp h) λv q=>?_
 have o:=pv v
 clear h v
 refine bf (kW C.ok o) λcl y z B=>?_
 cases q with
 |one g p=>
  have L:=g.eq
  subst L
  refine jb (l6 he) λxs out hi M r e=>?_
  refine wpAny_comprehension_free rfl (fH g.it env) y o.kind (λx hx r=>by rw[o.look x hx,r]) ?_
  exact hX (K:=tD W) (ob:={cls:=.type "list",data:=.seq ([]:List Value).toArray}) H o ⟨z,B⟩ g.it g.t g.ifs (body:=λf cenv=>do let _<-call (.builtin "list.append") [.ref f, <-eval j cenv]) (rest:=[])
   rfl (λ_ _ _=>rfl) (λ_ _ _=>rfl) (λ_ _ _=>rfl) (λ_ _ _=>rfl) (λ_ _ _=>rfl) (λs Q h=>Ol h) rfl (λMu' h f _ _ e=>⟨[],0,e,aq.nil⟩) nofun w
   (λI f cenv=>lZ ..) (λcenv f Mu' N _=>nX H p N) hi (Ay M) (l7 r) C (λf u s5 m O P S T V a6=>hQ out f u s5 m e ⟨O,P,S,T,V,a6⟩)
 |two g J p=>
  rename_i e t t2 it F ifs ifs2 target iter b a G i
  have L:=g.eq
  subst L
  refine jb (l6 he) λxs out hi M r e=>?_
  refine wpAny_comprehension_free rfl (fH g.it env) y o.kind (λx hx r=>by rw[o.look x hx,r]) ?_
  exact hX (K:=tD W) (ob:={cls:=.type "list",data:=.seq ([]:List Value).toArray}) H o ⟨z,B⟩ g.it g.t g.ifs (body:=λf cenv=>do
    let x<-eval a cenv
    standAt a.pos
    let x<-foldedSetIterable a cenv x
    let F<-holding [x] (pyIter x)
    let _<-runOwn (.compStart (.ListComp j [⟨target,iter,G,0⟩,⟨b,a,i,0⟩] isc pos) 1 F (.ref f) cenv) cenv
    pure ()) (rest:=[⟨b,a,i,0⟩])
   rfl (λ_ _ _=>rfl) (λ_ _ _=>rfl) (λ_ _ _=>rfl) (λ_ _ _=>rfl) (λ_ _ _=>rfl) (λs Q h=>Ol h) rfl (λMu' h f _ _ e=>⟨[],0,e,aq.nil⟩) nofun w
   (λI f cenv=>qZ ..) (λcenv f Mu' N _=>xm H p J.it J.t (l4 J.t) J.ifs N (λ_=>rfl) (λ_=>rfl)) hi (Ay M) (l7 r) C (λf u s5 m O P S T V a6=>hQ out f u s5 m e ⟨O,P,S,T,V,a6⟩)
theorem l8 (w:gX W)(i:bF W U l n){f:Expr}{gens:List Comprehension}{g:ME}{d:D}(h:jq c (cm c k) sc f gens isc=some g)(j:cV U (ev U n) Z g=some d)(C:Cx W c.aE sc env R Mu Z A l s):
  GV W.M A s (eval (.ListComp f gens isc pos) env) (λh v=>Rep W Mu h d v/\ ∀a,v=.ref a->s.heap.get? a=none):=λQ E K=>by
 rw[eval_ListComp]
 refine q8 w i h j C λout p F G m q x=>⟨m,x.ns,λt hs=>?_⟩
 subst q
 refine aW x.acc λH I e r=>aW x.keeps λJ u y z=>?_
 subst y
 exact K _ _ ⟨t,u,rfl,λb o e=>hs.extBut b o (λh=>az x.Ax (h▸e)) (z b o e)⟩
  ⟨.bI (λB=>ak (C.old p B) λo e=>az x.newD e) (hs.extBut _ _ x.ne e) (r.move λb o nb e=>⟨λh=>nb (.inl h),hs.extBut b o (λh=>nb (.inr h)) e⟩),λ_ e=>Value.ref.inj e▸x.newD⟩
end
theorem Eu {ks:List Str}{vs:List Value}{k:Str}(l:ks.length=vs.length):((ks.zip vs).any λa=>decide (a.1=k))=(ks.idxOf? k).isSome:=by
 induction ks generalizing vs with
 |nil=>rfl
 |cons y ks b=>
  cases vs with
  |nil=>exact nomatch l
  |cons u c=>
   rw[List.zip_cons_cons,List.any_cons,b (OP l),List.idxOf?_cons]
   by_cases h:y=k
   .rw[M7 (NJ.mpr h)]
    exact MY (· ||_) (Nq h)
   .rw[M8 λq=>h (eq_of_beq q),Option.isSome_map]
    exact MY (· ||(ks.idxOf? k).isSome) (NQ h)
theorem vo {a:Type}{ks:List Str}{vs:List a}{k:Str}{v:a}{P:List Str×List a->Prop}(b:∀i,ks.idxOf? k=some i->P (ks,vs.set i v))(c:ks.idxOf? k=none->P (ks++[k],vs++[v])):P (putD ks vs k v):=by
 unfold putD
 cases h:ks.idxOf? k with
 |none=>exact c h
 |some i=>exact b i h
theorem hY {a:Type}(ks:List Str)(vs:List a)(k:Str)(v:a):(putD ks vs k v).1.length<=ks.length+1/\ks.length<=(putD ks vs k v).1.length/\(ks.length=vs.length->(putD ks vs k v).1.length=(putD ks vs k v).2.length):=
 vo (P:=λp=>p.1.length<=ks.length+1/\ks.length<=p.1.length/\(ks.length=vs.length->p.1.length=p.2.length)) (λi _=>⟨OK _,NB _,λh=>h.trans (List.length_set ..).symm⟩)
  λ_=>by rw[Ni,Ni];exact⟨NB _,OK _,MY (· +1)⟩
theorem map_put {k:Str}{v:Value}{ks:List Str}:∀{vs:List Value}{i:Nat},ks.length=vs.length->ks.Nodup->ks.idxOf? k=some i->((ks.zip vs).map λa=>if a.1=k then(a.1,v) else a)=ks.zip (vs.set i v):=by
 induction ks with
 |nil=>exact λ_ _ h=>ns h
 |cons y ks b=>
  intro vs i l nd h
  cases vs with
  |nil=>exact nomatch l
  |cons u d=>
   rw[List.idxOf?_cons] at h
   rw[List.zip_cons_cons,Ob]
   have nd:=NA.mp nd
   by_cases e:y=k
   .rw[M7 (NJ.mpr e)] at h
    rw[<-MW h]
    exact congr (MY List.cons (M7 e)) ((N2 λ(p:Str×Value) hp=>M8 λq:p.1=k=>nd.1 ((q.trans e.symm)▸(List.of_mem_zip hp).1)).trans (List.map_id' _))
   .rw[M8 λq=>e (eq_of_beq q)] at h
    refine af (om h) λj c q=>?_
    rw[<-q]
    exact congr (MY List.cons (M8 e)) (b (OP l) nd.2 c)
theorem jf {ks:List Str}{vs:List Value}{k:Str}{v:Value}(l:ks.length=vs.length)(nd:ks.Nodup):stored (ks.zip vs) k v=(putD ks vs k v).1.zip (putD ks vs k v).2:=by
 refine vo (P:=λp=>stored (ks.zip vs) k v=p.1.zip p.2) (λi h=>?_) λh=>?_<;>unfold stored<;>rw[Eu l,h]
 .exact map_put l nd h
 .show ks.zip vs++[(k,v)]=(ks++[k]).zip (vs++[v])
  rw[List.zip_append l];rfl
section
variable {W:Wd}{U:UT}{n l:Nat}{A:Around}{E:Value->Shared->Prop}{s s0 s2 s4 s':Shared}{env cenv:Env}{c:CT}{k:Nat}{sc isc:Scope}{R:Nat->aD}{Mu Mu':aD}{Z Z':St}{X Y:aD}{aE:List Str}
theorem kf {x:Str}{d:D}{v:Value}(l:aq W Mu h ds vs)(r:Rep W Mu h d v):aq W Mu h (putD ks ds x d).2 (putD ks vs x v).2:=by
 unfold putD
 cases ks.idxOf? x with
 |some i=>exact l.set r _
 |none=>exact l.append (.cons r aq.nil)
theorem l9 {a b:Type}(ks:List Str)(vs:List a)(d:List b)(k:Str)(v:a)(u:b):(putD ks vs k v).1=(putD ks d k u).1:=by
 unfold putD
 cases ks.idxOf? k<;>rfl
def Kk (W:Wd)(Mu:aD)(d:Addr)(a:List Str×List D)(h:Heap):Prop:=
 (d==sysModules)=false/\ ∃b,h.DictOf (strKind W.prog W.w) d (a.1.zip b)/\a.1.length=b.length/\aq W Mu h a.2 b
noncomputable def Ir (W:Wd):hK W (List Str×List D) where
 P:=λMu D' a h=>Kk W Mu D' a h
 has:=λh=>af h.2 λvs g _=>jn g λo es ep e _ hd=>⟨o,e,λv h=>Data.noConfusion (hd.1.symm.trans h)⟩
 move:=λh F k=>⟨h.1,bf h.2 λvs g l1 l=>⟨vs,bl g k,l1,l.move F⟩⟩
noncomputable def Ew (r:Ev)(mk b:ME):St->List Str×List D->Option (List Str×List D):=λZ' a=>(r.m Z' mk).bind λx=>x.s?.bind λx=>(r.m Z' b).map λd=>putD a.1 a.2 x d
def Hr (a:List Str×List D):Prop:=a.1.length<2^10
theorem gw {h:Heap}{ks:List Str}(x:h.DictOf (strKind W.prog W.w) a (ks.zip vs))(l:ks.length=vs.length):ks.Nodup:=(lM x x l l).2.2
theorem xt (H:bF W U l n){r f:Expr}{mk:ME}{i:Addr}(M:(cm c k).e isc r=some mk)(N:(cm c k).e isc f=some u)(p:LF isc cenv R Mu i):
  hV W (Ir W) Hr c.aE isc cenv R Mu A l i (do let v<-eval r cenv;let I<-holding [v] (eval f cenv);standAt {r.pos with endLine:=f.pos.endLine,endCol:=f.pos.endCol};holding [v,I] (dictSet i v I)) (Ew (ev U n) mk u):=by
 intro Z' a a' s j C O P E
 refine bV (o:=(ev U n).m Z' mk) j λQ w j=>bV (o:=Q.s?) j λx ex j=>af (om (o:=(ev U n).m Z' u) j) λd S T=>?_
 subst T
 have w:(ev U n).m Z' mk=some (.str x):=w.trans (MY some (D.J9 ex))
 refine MZ ((H.e M w C).use λv1 s1 J V=>MZ (OH ((H.e N S (C.keep J)).use λv2 s2 k2 r2=>MZ (wpAny_standAt (OH (V.fB λt=>?_))))))
 have y:=ai J k2
 refine au (hK.keeps (K:=Ir W) O (ag y)) λnm h=>bf h λz g q rl=>?_
 have nd:=gw g q
 refine wpAny_dictSet_pairs (strKind_is W.prog W.w x t) g (λB F hs=>?_) ?_
 .have kb:KB (· =i) s2 {s2 with heap:=B,toks:=s2.toks+1}:=⟨B,_,rfl,λb o nb e=>hs.extBut b o nb e⟩
  have G:∃o,B.get? i=some o:=bH F
  rw[jf q nd] at F
  have L:=l9 a.1 a.2 z x d v2
  exact⟨(C.keep y).kb kb (λb h=>h▸p.An) (λb h=>h▸p.Ki) (λb h=>h▸p.JM) (λb h=>h▸G),(KB.of y).trans (kb.mono λb h=>.inr h),nm,(putD a.1 z x v2).2,L.symm▸F,L.symm▸(hY a.1 z x v2).2.2 q,
   (kf rl r2).move λb o m e=>⟨m,kb.get b o (λh=>m (h▸p.An)) e⟩⟩
 .rw[List.length_zip, <-q,Nat.min_self]
  exact M4 (ND (M5 (hY a.1 a.2 x d).2.1 P)) (by decide)
theorem q9 {r:Ev}{mk e:ME}{t:dj}{b:List ME}{d:D}{a:List Str×List D}:di r mk e t b Z (d::ds) a=(eD r Z t b (Ew r mk e) a d).bind (di r mk e t b Z ds):=by
 show((e7 Z t d).bind _)=(((e7 Z t d).bind _).bind _)
 cases e7 Z t d with
 |none=>rfl
 |some Z'=>
  show((bz r Z' b).bind _)=(((bz r Z' b).bind _).bind _)
  cases bz r Z' b with
  |none=>rfl
  |some q=>
   cases q with
   |false=>rfl
   |true=>
    show((r.m Z' mk).bind _)=(((r.m Z' mk).bind _).bind _)
    cases r.m Z' mk with
    |none=>rfl
    |some x=>
     cases x with
     |str y=>
      show((r.m Z' e).bind _)=(((r.m Z' e).map _).bind _)
      cases r.m Z' e<;>rfl
     |_=>rfl
theorem rg {r:Ev}{mk e:ME}{t:dj}{b:List ME}(ds:List D):∀(a:List Str×List D),di r mk e t b Z ds a=b7 (eD r Z t b (Ew r mk e)) a ds:=by
 induction ds with
 |nil=>exact λ_=>rfl
 |cons d ds f=>exact λa=>q9.trans ((MY _ (funext f)).trans je.symm)
theorem xu {b e:Type}{f:b->e->Option b}{len:b->Nat}(i:∀a d g,f a d=some g->len a<=len g){ds:List e}:∀{a fin:b},b7 f a ds=some fin->len a<=len fin:=by
 induction ds with
 |nil=>exact λh=>MW h▸NB _
 |cons d ds j=>exact λh=>af (kc h) λ_ m h=>M4 (i _ _ _ m) (j h)
theorem xv {r:Ev}{mk f:ME}{t:dj}{b:List ME}{a g:List Str×List D}{d:D}(h:eD r Z t b (Ew r mk f) a d=some g):a.1.length<=g.1.length:=by
 refine bV (o:=e7 Z t d) h λZ' _ h=>bV (o:=bz r Z' b) h λq _ h=>?_
 cases q with
 |false=>exact MW h▸NB _
 |true=>exact bV (o:=r.m Z' mk) h λx _ h=>bV (o:=x.s?) h λx _ h=>af (om (o:=r.m Z' f) h) λi _ e=>e▸(hY _ _ _ _).2.1
theorem xw (b a target iter:Expr)(ifs:List Expr)(scope:Scope)(pos:Pos)(it:Value)(d:Addr)(env:Env):
  compTurn (.DictComp b a [⟨target,iter,ifs,0⟩] scope pos) 0 it (.ref d) env=fT target iter.pos ifs (do let e<-eval b env;let f<-holding [e] (eval a env);standAt {b.pos with endLine:=a.pos.endLine,endCol:=a.pos.endCol};holding [e,f] (dictSet d e f))
   (again (.compLoop (.DictComp b a [⟨target,iter,ifs,0⟩] scope pos) 0 it (.ref d) env)) it env:=rfl
structure L3 (W:Wd)(Mu:aD)(s:Shared)(out:List Str×List D)(D' C':Addr)(s5:Shared)(m:Str->Option Value):Prop where
 keeps:Keeps s s5
 newD:s.heap.get? D'=none
 Ax:s.heap.get? C'=none
 ne:D'≠C'
 ns:s5.heap.Ns C' m
 acc:Kk W (λb=>Mu b\/b=C') D' out s5.heap
theorem rh (w:gX W)(B:bF W U l n){f:Expr}{gens:List Comprehension}{F:ME}{d:D}{use:Option (Value->Sem Unit)}{Q:Value->Shared->Prop}(h:JJ c (cm c k) sc j f gens isc=some F)(r:cV U (ev U n) Z F=some d)(C:Cx W c.aE sc env R Mu Z A l s)(J:∀out b o s5 m,d=.dict out.1 out.2->L3 W Mu s out b o s5 m->compPost W.M A E use Q (.ref b) o (.ok .next) s5):
  wpAny W.M A (comprehension (.DictComp j f gens isc pos) isc env (firstIterPos gens pos) newDict (firstAsync gens) (firstIter gens env) use) Q E s:=by
 refine au (Hq h) λi q=>?_
 have p:=pv i
 clear h i
 refine bf (kW C.ok p) λcl t u v=>?_
 cases q with
 |one g L M=>
  have N:=g.eq
  subst N
  refine jb (xr r) λxs out hi G y e=>?_
  refine wpAny_comprehension_free rfl (fH g.it env) t p.kind (λx hx y=>by rw[p.look x hx,y]) ?_
  rw[rg] at G
  exact hX (K:=Ir W) (ok:=Hr) (a0:=(([]:List Str),([]:List D))) (ob:={cls:=.type "dict",data:=.dict #[]}) B p ⟨u,v⟩ g.it g.t g.ifs (body:=λb cenv=>do let z<-eval j cenv;let H<-holding [z] (eval f cenv);standAt {j.pos with endLine:=f.pos.endLine,endCol:=f.pos.endCol};holding [z,H] (dictSet b z H)) (rest:=[])
   rfl (λ_ _ _=>rfl) (λ_ _ _=>rfl) (λ_ _ _=>rfl) (λ_ _ _=>rfl) (λ_ _ _=>rfl) (λs Q h=>Ol h) rfl (λMu' h b _ nm e=>⟨nm,[],⟨_,#[],0,e,⟨rfl,rfl,rfl⟩,rfl,λe r=>by simp at r,.nil,N6⟩,rfl,aq.nil⟩) nofun w
   (λI b cenv=>xw ..) (λcenv b Mu' O _=>xt B L M O) hi G (λa rest h=>M5 (xu (len:=λa:List Str×List D=>a.1.length) (λ_ _ _=>xv) h) y) C (λb o s5 m P S T V a5 a6=>J out b o s5 m e ⟨P,S,T,V,a5,a6⟩)
theorem md (w:gX W)(p:bF W U l n){f i:Expr}{gens:List Comprehension}{d:D}(h:JJ c (cm c k) sc f i gens isc=some j)(q:cV U (ev U n) Z j=some d)(C:Cx W c.aE sc env R Mu Z A l s):
  GV W.M A s (eval (.DictComp f i gens isc pos) env) (λh v=>Rep W Mu h d v/\ ∀a,v=.ref a->s.heap.get? a=none):=λQ E K=>by
 rw[arm_eval_DictComp]
 refine rh w p h q C λout t I J m u x=>⟨m,x.ns,λy hs=>?_⟩
 subst u
 refine au x.acc λnm h=>bf h λL g z r=>aW x.keeps λM B F G=>?_
 subst F
 exact K _ _ ⟨y,B,rfl,λb o e=>hs.extBut b o (λh=>az x.Ax (h▸e)) (G b o e)⟩
  ⟨.bY nm (λH=>ak (C.old t H) λo e=>az x.newD e) (bl g λo e=>hs.extBut _ _ x.ne e) z (r.move λb o nb e=>⟨λh=>nb (.inl h),hs.extBut b o (λh=>nb (.inr h)) e⟩),λ_ e=>Value.ref.inj e▸x.newD⟩
def k8 (W:Wd)(U:UT)(l n:Nat):Prop:= ∀{c:CT} {k:Nat} {sc isc:Scope} {a:Expr} {gens:List Comprehension} {g e b:Pos} {mg:List MG} {t:dj} {it f:ME} {ifs:List ME} {d:D} {A:Around} {s:Shared} {env:Env} {R:Nat->aD} {Mu:aD} {Z:St},
  DC sc isc=true->jZ c (cm c k) sc isc gens=some mg->mg=[.mk t it ifs]->(cm c k).e isc a=some f->cV U (ev U n) Z (.gI f (gT c isc) (.mk t it ifs))=some d->sc.names.lookup ("sorted":Str)=some .globalImplicit->
  Cx W c.aE sc env R Mu Z A l s->GV W.M A s (eval (.Call (.Name "sorted" g) [.SetComp a gens isc b] [] e) env) (λh v=>Rep W Mu h d v)
theorem rj {f:Fn}{a:ME}{d:D}(h:(([a].mapM ((ev U n).v Z)).bind (fN U f))=some d):∃x,(ev U n).v Z a=some x/\fN U f [x]=some d:=by
 rw[List.mapM_cons] at h
 refine af (ob h) λj b e=>?_
 refine af (ob b) λx g i=>?_
 obtain rfl:=MW i
 exact⟨x,g,e⟩
theorem Kl (w:gX W)(u:J6 W U l)(m:bF W U l n)(H:k8 W U l n){e:Expr}{P:ME}{d:D}(h:CE c (cm c k) sc e P)(a:cV U (ev U n) Z P=some d)(C:Cx W c.aE sc env R Mu Z A l s):
  GV W.M A s (eval e env) (λh v=>Rep W Mu h d v):=by
 induction h with
 |none=>obtain rfl:=MW a;exact λQ E K=>wpAny_Constant_none (K _ _ (aG s) qu)
 |bool=>obtain rfl:=MW a;exact λQ E K=>wpAny_Constant_bool (K _ _ (aG s) eC)
 |int=>obtain rfl:=MW a;exact λQ E K=>wpAny_Constant_int (K _ _ (cX s) aN)
 |str=>obtain rfl:=MW a;exact λQ E K=>wpAny_Constant_str (K _ _ (cX s) cO)
 |var h=>exact λQ E K=>j5 C h (Es a) λv r=>(K _ _ (aG s) r)
 |bin g j=>
  refine aP (pC a) λx y p t a=>?_
  exact zU m g j p t a C
 |neg h=>
  refine af (inv_neg a) λi p B=>?_;subst B
  exact zV m h p C
 |not h=>exact ns a
 |and g j=>exact zW m g j a C
 |or g j=>exact D1 m g j a C
 |cmp g j=>
  refine dX (Er a) λx y q p t I J=>?_;subst J
  exact(zX m g j p t I C).mono λv s' k r=>r▸eC
 |ite h0 g j=>exact zY m h0 g j a C
 |list h=>
  refine bf (jE a) λF z L G=>?_;subst G
  exact(nS m h L z C).mono λ_ _ _ r=>r.1
 |tup h=>
  refine bf (Et a) λF z L G=>?_;subst G
  exact zT m h L z C
 |Ar=>
  obtain rfl:=MW a
  exact(lT w C).mono λ_ _ _ r=>r.1
 |As g j=>
  refine aP (n3 a) λx y p t M=>?_;subst M
  exact(lU w m g j p t C).mono λ_ _ _ r=>r.1
 |comp h=>exact(l8 w m h a C).mono λ_ _ _ r=>r.1
 |dM h=>exact(md w m h a C).mono λ_ _ _ r=>r.1
 |jc g j S T=>
  refine DK (Ep a) λx ol oh os p t I V a=>?_
  exact z5 m g j S T p t I V a C
 |idx g j _=>
  refine aP (Eo a) λx y p t a=>?_
  exact z4 m g j p t a C
 |sT h=>
  obtain rfl:=MW a
  exact qN w (Nf ..) h C
 |sU h=>
  obtain rfl:=MW a
  exact qN w (Nj _ (Nf ..)) h C
 |attr g j=>
  cases k with
  |zero=>exact ns g
  |succ k=>
   refine af (om (o:=c.aE.idxOf? _) g) λi hi B=>?_;subst B
   exact xd w hi j a C
 |user h hg g=>
  refine af (ob a) λF j a=>?_
  exact xf w u m h hg g j a C
 |uT h hg g=>
  refine af (ob (((l5 h).1 _ _ _ _).symm.trans a)) λF j a=>?_
  exact Aa w m h hg g j a C
 |gI N h g hg=>exact H N h rfl g a hg C
 |sset g hg=>
  refine af (rj a) λx p a=>?_
  exact qP w m hg g p a C
 |@pB _ _ _ _ _ b g hg ht=>
  refine af (rj (f:=if b then .jo else .kB) (by cases b<;>exact a)) λx p a=>?_
  exact qO (b:=b) w m hg g p ht a C
 |flag z hn hg g=>
  refine af (ob a) λF j a=>?_
  exact xg w m hg z hn g j a C
 |zd O z hn h h0 g=>
  refine af (ob (((q7 h).1 _ _ _ _).symm.trans a)) λF j a=>?_
  exact Ac m h O z hn h0 g j a C
 |dY O z hn h h0 g=>
  refine af (ob a) λF j a=>?_
  rcases F with _|⟨x,r⟩
  .exact ns a
  .cases x<;>first|exact ns a|exact tu w u m h O z hn h0 g j a ⟨_,_,rfl⟩ C
def MK (c:CT)(r:Cm)(sc:Scope)(e:Expr):ME->Prop
 | .var i=>∃x p,e=.Name x p/\c.aE.idxOf? x=some i
 | .idx a i=>∃x y p,e=.Subscript x y p/\r.e sc x=some a/\r.e sc y=some i/\ ∀a b st q,y≠ .Slice a b st q
 | .comp m f g h=>∃d gens isc p,e=.ListComp d gens isc p/\jq c r sc d gens isc=some (.comp m f g h)
 | .ite _ _ _=>Av e=false
 | .range _=>False
 | .enum _=>False
 | .zip _ _=>False
 | .items _=>False
 | .values _=>False
 |_=>True
theorem jF {e:Expr}{r:Cm}(h:CE c r sc e a):MK c r sc e a:=by
 induction h<;>first|exact True.intro|exact rfl|skip
 .exact⟨_,_,rfl,by assumption⟩
 .exact⟨_,_,_,_,rfl,by assumption⟩
 .exact⟨_,_,_,rfl,by assumption,by assumption,by assumption⟩
theorem iM {i:aD}{f:List (List D)}{j:Nat}{row:List D}(q:a8 W i Mu h f vs)(e:f[j]?=some row):∃b d m,vs[j]?=some (.ref b)/\i b/\h.get? b=some (aR d m)/\aq W Mu h row d:=
 q.ind (motive:=λf vs=>∀j row,f[j]?=some row-> ∃b d m,vs[j]?=some (.ref b)/\i b/\h.get? b=some (aR d m)/\aq W Mu h row d) (λ_ _ e=>ns e) (λr f a d n vs x g l _ o j=>by
  cases j with
  |zero=>exact λrow e=>⟨a,d,n,rfl,x,g,MW e▸l⟩
  |succ j=>exact o j) j row e
theorem Az (M:bF W U l n){x:Str}{N:Pos}{i:Nat}{K:ME}{row:List D}{Q:Value->Shared->Prop}(hi:c.aE.idxOf? x=some i)(B:Z i=some (.rows h))(O:(cm c k).e sc y=some K)(P:(ev U n).m Z K=some (.int j))(h0:0<=j/\j<lim)(hr:h[j.toNat]?=some row)(F:∀a b st q,y≠ .Slice a b st q)(C:Cx W c.aE sc env R Mu Z A l s)(S:∀a vs m b w G s',Keeps s s'->R i a->s'.heap.get? a=some (aR vs m)->a8 W (R i) Mu s'.heap h vs->vs[j.toNat]?=some (.ref b)->R i b->s'.heap.get? b=some (aR w G)->aq W Mu s'.heap row w->Q (.ref b) s'):
  wpAny W.M A (eval (.Subscript (.Name x N) y pos) env) Q E s:=by
 refine Subscript_ (j5 C hi B λv r=>(M.e O P C).use λu s2 z T=>?_)
 refine DJ r λa vs m H I V f ζ=>?_;subst H
 have g:=ag z _ _ V
 have d:a8 W (R i) Mu s2.heap h vs:=f.move (Fz.keep (ag z)) (λb o _ e=>ag z b o e) λ_ x=>x
 refine T.view.bG λt=>?_
 refine dX (iM d hr) λb w G L J hb rl=>?_
 refine tail_any (aA g).typeIs slot_list_getitem.lookup ?_ (j3 λa b p=>F a b none p)
 exact wpAny_getItem_list (aA g) h0.1 (j4 h0.2) (fQ L) (S a vs m b w G s2 z I g d L J hb rl)
theorem Ey {b:ME}{d:D}(h:sW (ev U n) Z b=some d):(ev U n).m Z b=some d\/(∃i,b=.var i)\/ ∃x i e,b=.idx (.var x) i/\Z x=some (.rows e):=by
 cases b with
 |var i=>exact .inr (.inl ⟨i,rfl⟩)
 |idx a i=>
  cases a with
  |var x=>
   have h:(match Z x with
    |some (.rows e)=>(ev U n).m Z i>>=λd=>match d with
     | .int i=>if 0<=i/\i<lim then(e[i.toNat]?).map D.list else none
     |_=>none
    |_=>(ev U n).m Z (.idx (.var x) i))=some d:=h
   cases hs:Z x with
   |none=>rw[hs] at h;exact .inl h
   |some s=>
    cases s with
    |rows e=>exact .inr (.inr ⟨x,i,e,rfl,hs⟩)
    |_=>rw[hs] at h;exact .inl h
  |_=>exact .inl h
 |_=>exact .inl h
theorem AA {i:Nat}{d:D}(h:sW (ev U n) Z (.var i)=some d):Z i=some (.val d)\/Z i=some (.own d):=by
 have h:(match Z i with
  |some (.val d)=>some d
  |some (.own d)=>some d
  |_=>none)=some d:=h
 cases hs:Z i with
 |none=>rw[hs] at h;exact ns h
 |some s=>
  rw[hs] at h
  cases s<;>first|exact ns h|exact .inl (MY (λd=>some (Slot.val d)) (MW h))|exact .inr (MY (λd=>some (Slot.own d)) (MW h))
theorem AB {x:Nat}{i:ME}{d:D}(hs:Z x=some (.rows a))(h:sW (ev U n) Z (.idx (.var x) i)=some d):∃j row,(ev U n).m Z i=some (.int j)/\(0<=j/\j<lim)/\a[j.toNat]?=some row/\.list row=d:=by
 have h:(match Z x with
  |some (.rows a)=>((ev U n).m Z i).bind λd=>match d with
   | .int i=>if 0<=i/\i<lim then(a[i.toNat]?).map D.list else none
   |_=>none
  |_=>(ev U n).m Z (.idx (.var x) i))=some d:=h
 rw[hs] at h
 refine af (ob h) λj e b=>?_
 cases j<;>first|exact ns b|skip
 refine au (fe b) λf g=>?_
 refine af (om g) λrow m o=>?_
 exact⟨_,row,e,f,m,o⟩
theorem It {i:Nat}{d:D}(h:Z i=some (.own d)):noOwn Z (.var i)=false:=by
 show(match Z i with
  |some (.val _)=>true
  |_=>false)=false
 rw[h]
theorem Ez {x:Nat}{i:ME}(h:Z x=some (.rows a)):noOwn Z (.idx (.var x) i)=false:=by
 show(match Z x with
  |some (.rows _)=>false
  |_=>true)=false
 rw[h]
theorem Hs (B:bF W U l n){e:Expr}{g:ME}{d:D}(h:CE c (cm c k) sc e g)(h0:Hc c (cm c k) sc e=some g)(t:sW (ev U n) Z g=some d)(C:Cx W c.aE sc env R Mu Z A l s):
  GV W.M A s (eval e env) (λh v=>aC W Mu h d v/\(noOwn Z g=true->Rep W Mu h d v)):=by
 rcases Ey t with G|⟨i,rfl⟩|⟨x,i,N,rfl,hs⟩
 .exact(B.e (k:=k+1) h0 G C).mono λv s' _ r=>⟨r.view,λ_=>r⟩
 .refine aW (jF h) λx p f hi=>?_;subst f
  rcases AA t with o|o
  .exact λQ E K=>j5 C hi o λv r=>(K _ _ (aG s) ⟨Rep.view r,λ_=>r⟩)
  .exact λQ E K=>j5 C hi o λv r=>(K _ _ (aG s) ⟨r.1,λq=>nb ((It o).symm.trans q)⟩)
 .refine jb (AB hs t) λj row H I hr u=>?_;subst u
  refine dX (jF h) λO y p w F J z=>?_;subst w
  cases k with
  |zero=>exact ns F
  |succ k=>
   refine aW (jF (kJ F)) λP S f hi=>?_;subst f
   refine λQ E K=>Az B hi hs J H I hr z C λa T m b V m' s' L _ _ _ _ _ hb M=>K _ _ L ⟨.bI hb M,λq=>nb ((Ez hs).symm.trans q)⟩
theorem Km (g:bF W U l n){e:Expr}{m:ME}{b:Bool}(h:CE c (cm c k) sc e m)(h0:Hc c (cm c k) sc e=some m)(a:sX (ev U n) Z m=some b)(C:Cx W c.aE sc env R Mu Z A l s):
  GV W.M A s (isTrue e env (eval e env)) (λ_ x=>x=b):=by
 have plain:(∀w,isTrue e env w=(do let v<-w;standAt e.pos;holding [v] (truthy v)))->((ev U n).v Z m).bind D.truthy=some b->GV W.M A s (isTrue e env (eval e env)) (λ_ x=>x=b):=λo hp=>
  let ⟨x,i,j⟩:=ob hp
  Kf g (k:=k+1) h0 i j C o
 induction h with
 |not h=>exact let ⟨q,i,j⟩:=ob a;MW j▸qR g h i C
 |and d f=>exact kG g d f a C
 |or d f=>exact Ae g d f a C
 |cmp d f=>exact LW a λx y i j a=>aS g d f i j a C
 |ite p d f=>exact Ke g p d f a C
 |_=>exact plain (λ_=>rfl) a
theorem Ht {e:ME}{d:D}{n:Nat}{G:Prop}(a:∀r:Ev,sW r Z e=r.m Z e)(h:(ev U n).v Z e=some d)(k:∀n,cV U (ev U n) Z e=some d->G):G:=by
 cases n with
 |zero=>exact ns h
 |succ n=>
  cases n with
  |zero=>exact ns ((a _).symm.trans h)
  |succ n=>exact k n ((a (ev U (n+1))).symm.trans h)
theorem AD {d:D}{n:Nat}(h:(ev U n).v Z (.list es)=some d):∃xs,d=.list xs:=Ht (λ_=>rfl) h λn h=>bf (jE (U:=U) (r:=ev U n) h) λa _ _ e=>⟨a,e.symm⟩
theorem AE {d:D}(h:D.bin .Mult (.list xs) y=some d):∃a,d=.list a:=by
 cases y with
 |int k=>exact cT h λ_ e=>⟨_,(MW e).symm⟩
 |_=>exact ns h
theorem v_mul {d:D}{n:Nat}(h:(ev U n).v Z (.bin .Mult (.list es) y)=some d):∃xs,d=.list xs:=
 Ht (λ_=>rfl) h λn h=>aP (pC (U:=U) (r:=ev U n) h) λx f a g b=>ak (AD a) λxs e=>AE (e▸b)
theorem add_list {x d:D}(h:D.bin .Add x (.list ys)=some d):∃xs,x=.list xs:=by
 cases x with
 |list xs=>exact⟨xs,rfl⟩
 |_=>exact ns h
theorem lst_is (h:zg a=true):∃es,a=.list es:=by
 cases a with
 |list es=>exact⟨es,rfl⟩
 |_=>exact nb h
theorem AF (h:uS a=true):∃es y,a=.bin .Mult (.list es) y:=by
 cases a with
 |bin g a b=>exact au (M9.mp h) λd f=>ak (lst_is f) λes e=>⟨es,b,e▸eq_of_beq d▸rfl⟩
 |_=>exact nb h
theorem xx {b:ME}(h:dq (.bin op a b)=true):(op=.Mult/\ ∃es,a=.list es)\/(op=.Add/\ ∃es y,b=.bin .Mult (.list es) y):=
 (Oi.mp h).imp (λh=>au (M9.mp h) λd e=>⟨eq_of_beq d,lst_is e⟩) λh=>au (M9.mp h) λd e=>⟨eq_of_beq d,AF e⟩
theorem AG:(av.uT.all λp=> !(p.2== .list)||p.1==("list":Str))=true:=by decide+kernel
theorem Kn (w:gX W)(g:bF W U l n){e:Expr}{d:D}(h:CE c (cm c k) sc e q)(j:dq q=true)(f:cV U (ev U n) Z q=some d)(C:Cx W c.aE sc env R Mu Z A l s):
  GV W.M A s (eval e env) (λh v=>Rep W Mu h d v/\ ∀a,v=.ref a->s.heap.get? a=none):=by
 induction h with
 |bin i m=>
  refine aP (pC f) λx y o p f=>?_
  refine xc g i m o p ?_ f C
  rcases xx j with ⟨_,B,rfl⟩|⟨rfl,B,y,rfl⟩
  .exact AD o
  .refine ak (v_mul p) λI r=>?_;subst r
   exact add_list f
 |list h=>
  refine bf (jE f) λF z G t=>?_;subst t
  exact nS g h G z C
 |Ar=>
  obtain rfl:=MW f
  exact lT w C
 |As i m=>
  refine aP (n3 f) λx y o p u=>?_;subst u
  exact lU w g i m o p C
 |comp h=>exact l8 w g h f C
 |dM h=>exact md w g h f C
 |uT h hg i=>
  refine af (ob (((l5 h).1 _ _ _ _).symm.trans f)) λF m f=>?_
  have H:=(l5 h).2 _ j
  subst H
  obtain rfl:=eq_of_beq (Oi.mp (Nx.mp AG _ (NC h)) |>.resolve_left nofun)
  exact tq w g hg i m f C
 |@pB _ _ _ _ _ b _ _ _=>cases b<;>exact nb j
 |zd J z hn h h0 i=>exact nb (((q7 h).2 _).symm.trans j)
 |_=>exact nb j
end
section
variable {W:Wd}{U:UT}{n l:Nat}{A:Around}{E:Value->Shared->Prop}{s s0 s2 s4 s' sm:Shared}{env cenv:Env}{c:CT}{k:Nat}{sc isc:Scope}{R:Nat->aD}{Mu Mu':aD}{Z Z':St}{X Y:aD}{aE:List Str}{t:dj}{target:Expr}{ds:List D}
theorem gY.fz {p q:Prop}{it:Value}(h:gY W A t target Mu p ds s0 it s)(hp:q->p):gY W A t target Mu q ds s0 it s:=by
 cases h with|mk a b c d e f g j i=>exact .mk a b c d e f g (λq=>j (hp q)) i
noncomputable abbrev iZ (W:Wd)(A:Around)(t:dj)(target:Expr)(Mu:aD)(fz:Prop)(ds:List D)(s:Shared)(E:Value->Shared->Prop):Value->Shared->Prop:=
 λx s1=>Keeps s s1/\wpAny W.M A (pyIter x) (λit s2=>Keeps s1 s2/\ ∃sm,Keeps s sm/\Keeps sm s2/\gY W A t target Mu fz ds sm it s2) E s1
theorem mf {p fz:Prop}{x:Value}{s1 s2:Shared}(k1:Keeps s s1)(k2:Keeps s1 s2)(hp:fz->p)(h:wpAny W.M A (pyIter x) (λit s'=>Keeps s2 s'/\gY W A t target Mu p ds s1 it s') E s2):iZ W A t target Mu fz ds s E x s2:=
 ⟨ai k1 k2,NH h (λit b a=>⟨a.1,s1,k1,ai k2 a.1,a.2.fz hp⟩) λ_ _ e=>e⟩
theorem AH {x:D}{v:Value}{fz:Prop}(hh:A.handled=none)(b:aY t target)(k1:Keeps s0 s)(o:Old Mu s.heap)(r:aC W Mu s.heap x v)(f:fz->Rep W Mu s.heap x v)(a:itemsOf t x=some ds):
  wpAny W.M A (pyIter v) (λit s2=>Keeps s s2/\ ∃sm,Keeps s0 sm/\Keeps sm s2/\gY W A t target Mu fz ds sm it s2) E s:=by
 have fin:∀{p:Prop} {d:List D},d=ds->(fz->p)->wpAny W.M A (pyIter v) (j8 W A t target Mu p d s) E s->wpAny W.M A (pyIter v) (λit s2=>Keeps s s2/\ ∃sm,Keeps s0 sm/\Keeps sm s2/\gY W A t target Mu fz ds sm it s2) E s:=
  λe hp h=>NH h (λit s2 g=>⟨g.1,s,k1,g.1,(e▸g.2).fz hp⟩) λ_ _ e=>e
 cases t with
 |one y=>
  cases x with
  |list d=>exact fin (MW a) f (vh hh b o r)
  |tup d=>exact fin (MW a) (λ_=>trivial) (Ie hh b o r)
  |dict i j=>exact fin (MW a) f (D8 hh b o r)
  |str y=>exact fin (MW a) (λ_=>trivial) (Ig hh b o r)
  |_=>exact ns a
 |many m=>
  cases x with
  |list d=>exact fin (MW a) f (vh hh b o r)
  |_=>exact ns a
theorem EA {r:Ev}{q:Cm}{e:Expr}(h:CE c q sc e a)(b:Av e=true)(d:wL r Z t a=some ds):(r.v Z a).bind (itemsOf t)=some ds:=by
 have v:=jF h
 cases a with
 |ite=>exact nb ((show Av e=false from v).symm.trans b)
 |range=>exact False.elim v
 |enum=>exact False.elim v
 |zip=>exact False.elim v
 |items=>exact False.elim v
 |values=>exact False.elim v
 |_=>exact d
theorem bF.vb (f:bF W U l n){e:Expr}{b:ME}{d:D}(h:(cm c k).e sc e=some b)(g:(ev U n).v Z b=some d)(C:Cx W c.aE sc env R Mu Z A l s):
  GV W.M A s (eval e env) (λh v=>aC W Mu h d v/\(noOwn Z b=true->Rep W Mu h d v)):=by
 by_cases a:noOwn Z b=true
 .exact(f.vf h g a C).mono λ_ _ _ r=>⟨r.view,λ_=>r⟩
 .exact(f.v h g C).mono λ_ _ _ r=>⟨r,λq=>absurd q a⟩
theorem Iu (g:bF W U l n){e:Expr}(h:(cm c k).e sc e=some a)(b:Av e=true)(i:wL (ev U n) Z t a=some ds)(j:aY t target)(C:Cx W c.aE sc env R Mu Z A l s):
  wpAny W.M A (eval e env) (iZ W A t target Mu (noOwn Z a=true) ds s E) E s:=by
 have m:((ev U n).v Z a).bind (itemsOf t)=some ds:=by
  cases k with
  |zero=>exact ns h
  |succ k=>exact EA (kJ h) b i
 exact bV m λx o hx=>(g.vb h o C).use λv s1 d f=>⟨d,AH C.good.hh j d (C.keep d).old f.1 f.2 hx⟩
inductive RG:List D->List D->Prop
 |one {a:Int}(h:a.natAbs<2^20):RG [.int a] (wK 0 a 1)
 |two {a b:Int}(h:a.natAbs<2^20/\b.natAbs<2^20):RG [.int a,.int b] (wK a b 1)
 |three {a b d:Int}(h:a.natAbs<2^20/\b.natAbs<2^20/\d.natAbs<2^20/\d≠0):RG [.int a,.int b,.int d] (wK a b d)
theorem Ko {ds:List D}(e:D.range xs=some ds):RG xs ds:=by
 rcases xs with _|⟨a,xs⟩
 .exact ns e
 .cases a<;>first|exact ns e|skip
  rcases xs with _|⟨b,xs⟩
  .exact cT e λh e=>sK (R:=RG _) e (.one h)
  .cases b<;>first|exact ns e|skip
   rcases xs with _|⟨d,xs⟩
   .exact cT e λh e=>sK (R:=RG _) e (.two h)
   .cases d<;>first|exact ns e|skip
    rcases xs with _|⟨_,_⟩
    .exact cT e λh e=>sK (R:=RG _) e (.three h)
    .exact ns e
theorem aI (w:gX W)(z:bF W U l n){B pos:Pos}{es:List Expr}{mes:List ME}{xs ds:List D}{x:Nat}(hg:sc.names.lookup ("range":Str)=some .globalImplicit)(p:ah ((cm c k).e sc) es=some mes)(F:mes.mapM ((ev U n).m Z)=some xs)(e:D.range xs=some ds)(G:aY (.one x) target)(C:Cx W c.aE sc env R Mu Z A l s){fz:Prop}:
  wpAny W.M A (eval (.Call (.Name "range" B) es [] pos) env) (iZ W A (.one x) target Mu fz ds s E) E s:=by
 refine au (w.bi ("range",.type "range") (Nw (i:=13) rfl)) λH I=>?_
 refine bw (fX C w.g w.b hg H I (by decide) ?_)
 refine aX (.inr ⟨_,rfl⟩) (cC p).1 ((j6 z p F C).use λN s1 q j=>?_)
 have J:=C.keep q
 have fin:∀{a b d:Int} {t u v:Tok} {s2:Shared} {r:Addr},Keeps s1 s2->IsRange s2.heap r a b d t u v->a.natAbs<2^20->b.natAbs<2^20->d.natAbs<2^20->ds=wK a b d->iZ W A (.one x) target Mu fz ds s E (.ref r) s2:=
  λy hr K hb L e=>e▸mf q y (λ_=>trivial) (Ah C.good.hh G J.old y hr K hb L)
 cases Ko e with
 |one f=>exact j.eB λv1 g h r=>r.kT (h.bG λt=>call_range_1 (fin ⟨_,_,rfl,λb o e=>Heap.get?_push_of_some _ e⟩ (Heap.get?_push_size _ rfl) (by decide) f (by decide) rfl))
 |two f=>
  refine j.eB λv1 g h r=>r.eB λv2 g m r=>r.kT (h.bG λt=>m.bG λu=>?_)
  exact call_range_2 (fin ⟨_,_,rfl,λb o e=>Heap.get?_push_of_some _ e⟩ (Heap.get?_push_size _ rfl) f.1 f.2 (by decide) rfl)
 |three f=>
  refine j.eB λv1 g h r=>r.eB λv2 g m r=>r.eB λv3 g M r=>r.kT (h.bG λt=>m.bG λu=>M.bG λv=>?_)
  exact call_range_3 f.2.2.2 (fin ⟨_,_,rfl,λb o e=>Heap.get?_push_of_some _ e⟩ (Heap.get?_push_size _ rfl) f.1 f.2.1 f.2.2.1 rfl) (.inl (PyProof.noPylong_small (NW f.2.2.1 (by decide))))
theorem mj {b:ME}(h:(cm c k).e sc a=some b):starEach [a] env=[(false,eval a env)]:=by rw[aT (bq h)];rfl
theorem pD (w:gX W)(g:bF W U l n){h pos:Pos}{a:Expr}{b:ME}{xs:List D}{ys:List Nat}(hg:sc.names.lookup ("enumerate":Str)=some .globalImplicit)(d:(cm c k).e sc a=some b)(j:(ev U n).v Z b=some (.list xs))(m:aY (.many ys) target)(C:Cx W c.aE sc env R Mu Z A l s):
  wpAny W.M A (eval (.Call (.Name "enumerate" h) [a] [] pos) env) (iZ W A (.many ys) target Mu False (dN 0 xs) s E) E s:=by
 refine au (w.bi ("enumerate",.type "enumerate") (Nw (i:=14) rfl)) λo p=>?_
 refine bw (fX C w.g w.b hg o p (by decide) ?_)
 rw[mj d]
 refine aX (.inr ⟨_,rfl⟩) rfl ?_
 refine Calls.spliced_cons ((g.v d j C).use λv s1 q r=>Calls.spliced_nil ?_)
 exact NH (Eb C.good.hh m r) (λu s2 f=>mf q f.1 id f.2) λ_ _ e=>e
theorem AJ (w:gX W)(d:bF W U l n){q pos:Pos}{a b:Expr}{f mb:ME}{xs g:List D}{ys:List Nat}(hg:sc.names.lookup ("zip":Str)=some .globalImplicit)(h:(cm c k).e sc a=some f)(j:(cm c k).e sc b=some mb)(r:(ev U n).v Z f=some (.list xs))(x:(ev U n).v Z mb=some (.list g))(y:aY (.many ys) target)(C:Cx W c.aE sc env R Mu Z A l s):
  wpAny W.M A (eval (.Call (.Name "zip" q) [a,b] [] pos) env) (iZ W A (.many ys) target Mu False (iV xs g) s E) E s:=by
 refine au (w.bi ("zip",.type "zip") (Nw (i:=15) rfl)) λz B=>?_
 refine bw (fX C w.g w.b hg z B (by decide) ?_)
 rw[aT (bq h),mj j]
 refine aX (.inr ⟨_,rfl⟩) rfl ?_
 refine Calls.spliced_cons ((d.v h r C).use λv s1 m F=>Calls.spliced_cons ((d.v j x (C.keep m)).use λu s2 o G=>Calls.spliced_nil ?_))
 exact NH (Ih C.good.hh y (F.keep (ag o)) G) (λH I p=>mf (ai m o) p.1 id p.2) λ_ _ e=>e
theorem k9 (i:bF W U l n){apos pos:Pos}{o:Expr}{d:ME}{ks:List Str}{vs:List D}{ys:List Nat}{fz:Prop}(hn:bN o=true)(b:(apos.endLine==pos.line)=true)(j:(cm c k).e sc o=some d)(m:(ev U n).v Z d=some (.dict ks vs))(e:fz->noOwn Z d=true)(p:aY (.many ys) target)(C:Cx W c.aE sc env R Mu Z A l s):
  wpAny W.M A (eval (.Call (.Attribute o "items" apos) [] [] pos) env) (iZ W A (.many ys) target Mu fz (iV (ks.map .str) vs) s E) E s:=by
 refine nV (c:=c) (k:=k) (sc:=sc) (mes:=[]) hn b (by decide) rfl ((i.vb j m C).use λv s1 h w=>?_)
 refine au w λr f=>?_
 revert f
 exact r.dO λa z na g x y f=>⟨"dict","dict.items",F.plainAttrs_dict,F.slot_dict_items,F.type_dict_items,g.typeIs,g.mapOf.noDict,Calls.spliced_nil (call_meetsIn F.slot_dict_items g.typeIs F.entry_dict_items (F.args_dict_items_1 _) (meets_dict_items (strKind W.prog W.w) a na)
  ⟨⟨_,g⟩,mf h (ff s1 _) (λq=>f (e q)) (Aj C.good.hh p (C.keep h).old (ff s1 _) (.bY na g x y) ⟨_,Heap.get?_push_size _ rfl,rfl,rfl⟩)⟩)⟩
theorem mq (i:bF W U l n){apos pos:Pos}{o:Expr}{d:ME}{ks:List Str}{vs:List D}{x:Nat}{fz:Prop}(hn:bN o=true)(b:(apos.endLine==pos.line)=true)(j:(cm c k).e sc o=some d)(m:(ev U n).v Z d=some (.dict ks vs))(e:fz->noOwn Z d=true)(p:aY (.one x) target)(C:Cx W c.aE sc env R Mu Z A l s):
  wpAny W.M A (eval (.Call (.Attribute o "values" apos) [] [] pos) env) (iZ W A (.one x) target Mu fz vs s E) E s:=by
 refine nV (c:=c) (k:=k) (sc:=sc) (mes:=[]) hn b (by decide) rfl ((i.vb j m C).use λv s1 h w=>?_)
 refine au w λr f=>?_
 revert f
 exact r.dO λa B na g y z f=>⟨"dict","dict.values",F.plainAttrs_dict,F.slot_dict_values,F.type_dict_values,g.typeIs,g.mapOf.noDict,Calls.spliced_nil (call_meetsIn F.slot_dict_values g.typeIs F.entry_dict_values (F.args_dict_values_1 _) (meets_dict_values (strKind W.prog W.w) a na)
  ⟨⟨_,g⟩,mf h (ff s1 _) (λq=>f (e q)) (xh C.good.hh p (C.keep h).old (ff s1 _) (.bY na g y z) ⟨_,Heap.get?_push_size _ rfl,rfl,rfl⟩)⟩)⟩
theorem rk (h:noOwn Z (.items a)=true):noOwn Z a=true:=by
 cases a<;>first|exact h|exact nb h
theorem pE (h:noOwn Z (.values a)=true):noOwn Z a=true:=by
 cases a<;>first|exact h|exact nb h
theorem xy {x:D}(h:sY x=some ds):∃xs,x=.list xs/\dN 0 xs=ds:=by
 cases x<;>first|exact ns h|exact cT h λ_ e=>⟨_,rfl,MW e⟩
theorem xA {x:D}(h:zh x y=some ds):∃xs ys,x=.list xs/\y=.list ys/\iV xs ys=ds:=by
 cases x<;>first|exact ns h|skip
 cases y<;>first|exact ns h|exact⟨_,_,rfl,rfl,MW h⟩
theorem tI {x:D}(h:sZ x=some ds):∃ks vs,x=.dict ks vs/\iV (ks.map .str) vs=ds:=by
 cases x<;>first|exact ns h|exact⟨_,_,rfl,MW h⟩
theorem rm {x:D}(h:oS x=some ds):∃ks,x=.dict ks ds:=by
 cases x<;>first|exact ns h|exact⟨_,MY _ (MW h)⟩
theorem iZ.less {p q:Prop}{x:Value}{s1:Shared}(hp:q->p)(h:iZ W A t target Mu p ds s E x s1):iZ W A t target Mu q ds s E x s1:=
 ⟨h.1,NH h.2 (λit s2 b=>⟨b.1,b.2.elim λsm a=>⟨sm,a.1,a.2.1,a.2.2.fz hp⟩⟩) λ_ _ e=>e⟩
theorem Kp (w:gX W)(f:bF W U l n){e:Expr}(h:CI c (cm c k) sc e u)(a:wL (ev U n) Z t u=some ds)(j:aY t target)(C:Cx W c.aE sc env R Mu Z A l s):
  wpAny W.M A (eval e env) (iZ W A t target Mu (noOwn Z u=true) ds s E) E s:=by
 induction h with
 |range hg b=>
  cases t with
  |many _=>exact ns a
  |one x=>
   refine af (ob a) λG g a=>?_
   exact aI w f hg b g a j C
 |enum hg b=>
  cases t with
  |one _=>exact ns a
  |many H=>
   refine af (ob a) λx i a=>?_
   refine af (xy a) λG m d=>?_;subst m;subst d
   exact NH (pD (E:=E) w f hg b i j C) (λx s1 b=>iZ.less (λq=>nb q) b) λ_ _ e=>e
 |zip hg b g=>
  cases t with
  |one _=>exact ns a
  |many H=>
   refine aP (zr a) λx y i J a=>?_
   refine aP (xA a) λG N d o v=>?_;subst d;subst o;subst v
   exact NH (AJ (E:=E) w f hg b g i J j C) (λx s1 b=>iZ.less (λq=>nb q) b) λ_ _ e=>e
 |items z B b=>
  cases t with
  |one _=>exact ns a
  |many H=>
   refine af (ob a) λx i a=>?_
   refine aW (tI a) λK O d o=>?_;subst d;subst o
   exact k9 f z B b i rk j C
 |values z B b=>
  cases t with
  |many _=>exact ns a
  |one x=>
   refine af (ob a) λx i a=>?_
   refine ak (rm a) λK m=>?_;subst m
   exact mq f z B b i pE j C
 |@ite _ _ _ _ mt L mb h0 b g=>
  refine af (ob a) λq i a=>?_
  refine IfExp_ ((f.t h0 i C).use λx s1 r M=>?_)
  subst M
  have lift:∀{p:Prop} {x:Value} {s2:Shared},iZ W A t target Mu p ds s1 E x s2->iZ W A t target Mu (noOwn Z (.ite mt L mb)=true) ds s E x s2:=λh=>⟨ai r h.1,NH h.2 (λit P I=>⟨I.1,I.2.elim λsm F=>⟨sm,ai r F.1,F.2.1,F.2.2.fz λq=>nb q⟩⟩) λ_ _ e=>e⟩
  cases x with
  |true=>
   rw[M7 rfl]
   exact NH (f.i E b a j (C.keep r)) (λx s2 g=>lift g) λ_ _ e=>e
  |false=>
   rw[M8 NX]
   exact NH (f.i E g a j (C.keep r)) (λx s2 g=>lift g) λ_ _ e=>e
 |dflt h hn=>exact Iu f h hn a j C
theorem vp (w:gX W)(u:J6 W U l)(d:∀n,bF W U l n->k8 W U l n)(n:Nat):bF W U l n:=by
 induction n with
 |zero=>exact⟨λ_ h=>ns h,λ_ _ h=>ns h,λ_ h=>ns h,λ_ h=>ns h,λ_ h=>ns h,λ_ _ h=>ns h⟩
 |succ n b=>
  refine⟨?_,?_,?_,?_,?_,?_⟩<;>intro c k<;>cases k
  .exact λh=>ns h
  .exact λh a C=>Kl w u b (d n b) (kJ h) a C
  .exact λh=>ns h
  .exact λh e a C=>Kn w b (kJ h) e a C
  .exact λh=>ns h
  .exact λh a C=>(Hs b (kJ h) h a C).mono λ_ _ _ r=>r.1
  .exact λh=>ns h
  .exact λh a f C=>(Hs b (kJ h) h a C).mono λ_ _ _ r=>r.2 f
  .exact λh=>ns h
  .exact λh a C=>Km b (kJ h) h a C
  .exact λ_ h=>ns h
  .exact λE h a e C=>Kp w b (Kj h) a e C
end
noncomputable def bU (a:aD)(sc:Scope)(env:Env)(c:Nat->aD):aD:=λb=>a b\/iY sc env b\/ ∃i,c i b
structure FS (W:Wd)(c:CT)(sc:Scope)(env:Env)(l:Nat)(A:Around)(Mu0 Ex:aD)(s0:Shared)(ow:Nat->aD)(Z:St)(s:Shared):Prop where
 cx:Cx W c.aE sc env ow (bU Mu0 sc env ow) Z A l s
 no:∀b,iY sc env b-> ∀i, ¬ow i b
 kb:KB Ex s0 s
 fresh:∀b,iY sc env b->s0.heap.get? b=none
 i4:∀i sl,Z i=some sl->sl.free.isSome-> ∀b,ow i b->s0.heap.get? b=none
 sQ:∀i b,ow i b->s0.heap.get? b=none\/Ex b
 hZ:∀i j b,ow i b->ow j b->i=j
 ia:∀b,Ex b->Mu0 b
 fk:∀b,Ex b-> ∃o,s0.heap.get? b=some o
 apart:∀i b,ow i b->Mu0 b->Ex b
 ext:∀i sl,Z i=some sl->sl.free=none-> ∀b,ow i b->Ex b
section
variable {W:Wd}{U:UT}{n l:Nat}{A:Around}{E:Value->Shared->Prop}{s s0 s2 s4 s':Shared}{env cenv:Env}{c:CT}{k:Nat}{sc isc:Scope}{R:Nat->aD}{Mu Mu' Mu0 Ex:aD}{Z Z':St}{X Y:aD}{aE:List Str}{ow ow':Nat->aD}
theorem FS.wr (F:FS W c sc env l A Mu0 Ex s0 ow Z s):Wr sc env ow (bU Mu0 sc env ow):=⟨λb h=>.inr (.inl h),F.no⟩
theorem FS.keep (F:FS W c sc env l A Mu0 Ex s0 ow Z s)(k:Keeps s s'):FS W c sc env l A Mu0 Ex s0 ow Z s':=
 ⟨F.cx.keep k,F.no,F.kb.trans (KB.of k),F.fresh,F.i4,F.sQ,F.hZ,F.ia,F.fk,F.apart,F.ext⟩
theorem KB.frame (F:FS W c sc env l A Mu0 Ex s0 ow Z s)(kb:KB (iY sc env) s s'):KB Ex s0 s':=
 KB.nE (h:=F.fresh) ((F.kb.mono λb h=>.inl h).trans (kb.mono λb h=>.inr h))
structure dQ (sc:Scope)(env:Env)(s:Shared)(x:Str)(v:Value)(s':Shared):Prop where
 kb:KB (iY sc env) s s'
 na:aJ env s'.heap x v
 ot:∀y u,y≠x->aJ env s.heap y u->aJ env s'.heap y u
 lv:fh env s'.heap
noncomputable def c9 (ow:Nat->aD)(i:Nat)(N:aD):Nat->aD:=λj=>if j=i then N else ow j
theorem aw {i:Nat}{N:aD}{b:Addr}(h:c9 ow i N j b):(j=i/\N b)\/(j≠i/\ow j b):=by
 have h:(if j=i then N else ow j) b:=h
 by_cases e:j=i
 .exact .inl ⟨e,by rw[M7 e] at h;exact h⟩
 .exact .inr ⟨e,by rw[M8 e] at h;exact h⟩
theorem jG {i:Nat}{N:aD}{b:Addr}:c9 ow i N i b↔N b:=⟨λh=>(aw h).elim (λh=>h.2) λh=>absurd rfl h.1,λh=>by show(if i=i then N else ow i) b;rw[M7 rfl];exact h⟩
theorem ib {i:Nat}{N:aD}{b:Addr}(e:j≠i)(h:ow j b):c9 ow i N j b:=by show(if j=i then N else ow j) b;rw[M8 e];exact h
theorem FS.fz (F:FS W c sc env l A Mu0 Ex s0 ow Z s){i:Nat}{N:aD}(kb:KB (iY sc env) s s')(a:∀b,N b->s.heap.get? b=none):Fz (bU Mu0 sc env ow) s.heap (bU Mu0 sc env (c9 ow i N)) s'.heap:=λb o m e=>
 ⟨λh=>h.elim (λh=>m (.inl h)) λh=>h.elim (λh=>m (.inr (.inl h))) λ⟨j,h⟩=>(aw h).elim (λh=>az (a b h.2) e) λh=>m (.inr (.inr ⟨j,h.2⟩)),kb.get b o (λf=>m (.inr (.inl f))) e⟩
theorem FS.upd {x:Str}{i:Nat}{sl:Slot}{v:Value}{N:aD}(F:FS W c sc env l A Mu0 Ex s0 ow Z s)(hi:c.aE.idxOf? x=some i)(a:dQ sc env s x v s')(z:∀b,N b->s.heap.get? b=none)(M:∀b,N b-> ∃o,s'.heap.get? b=some o)(I:bj W N (bU Mu0 sc env (c9 ow i N)) s'.heap sl v)(B:sl.free=none-> ∀b,N b->Ex b):FS W c sc env l A Mu0 Ex s0 (c9 ow i N) (Z.set i sl) s':=by
 have d:∀b,Mu0 b-> ∃o,s.heap.get? b=some o:=λb m=>F.cx.old b (.inl m)
 have C:∀b,iY sc env b-> ∃o,s.heap.get? b=some o:=λb m=>F.cx.old b (.inr (.inl m))
 have g:∀i b,ow i b-> ∃o,s.heap.get? b=some o:=λi b m=>F.cx.old b (.inr (.inr ⟨i,m⟩))
 have t:∀b,N b->s0.heap.get? b=none:=λb h=>by
  cases e:s0.heap.get? b with
  |none=>rfl
  |some o=>
   by_cases hx:Ex b
   .refine ak (d b (F.ia b hx)) λP O=>?_;exact az (z b h) O
   .exact az (z b h) (F.kb.get b o hx e)
 refine⟨⟨F.cx.ok,?_,?_,?_,?_,?_,F.cx.good,F.cx.tb,a.lv⟩,?_,KB.frame F a.kb,F.fresh,?_,?_,?_,F.ia,F.fk,?_,?_⟩
 .exact λb o e=>a.kb.get b o (λf=>az (F.cx.above b (.inr (.inl f))) e) (F.cx.base b o e)
 .refine λb m=>m.elim (λm=>ak (d b m) λo e=>?_) λm=>m.elim a.lv.lives λ⟨j,m⟩=>(aw m).elim (λm=>M b m.2) λm=>ak (g j b m.2) λo e=>⟨o,a.kb.get b o (λf=>F.no b f j m.2) e⟩
  by_cases f:iY sc env b
  .exact a.lv.lives f
  .exact⟨o,a.kb.get b o f e⟩
 .exact λj b r=>.inr (.inr ⟨j,r⟩)
 .refine λb m=>m.elim (λm=>F.cx.above b (.inl m)) λm=>m.elim (λm=>F.cx.above b (.inr (.inl m))) λ⟨j,m⟩=>(aw m).elim (λm=>?_) λm=>F.cx.above b (.inr (.inr ⟨j,m.2⟩))
  cases e:W.h0.get? b with
  |none=>rfl
  |some o=>exact az (z b m.2) (F.cx.base b o e)
 .exact λj w e=>fi e (λH e=>e▸H.symm▸⟨x,v,cz hi,a.na,I.move (λb o m e=>⟨m,e⟩) (λb o _ e=>e) λb h=>jG.mpr h⟩) λH e=>
   aP (F.cx.view j w e) λy u K n q=>⟨y,u,K,a.ot y u (λJ=>H (j9 hi (J▸K) (pg F.cx.tb))) n,q.move (F.fz a.kb z) (λb o m e=>a.kb.get b o (λf=>F.no b f j m) e) λb h=>ib H h⟩
 .exact λb f j h=>(aw h).elim (λh=>ak (C b f) λo e=>az (z b h.2) e) λh=>F.no b f j h.2
 .exact λj w e hs b hb=>(aw hb).elim (λh=>t b h.2) λh=>fi e (λq _=>absurd q h.1) λ_ e=>F.i4 j w e hs b h.2
 .exact λj b hb=>(aw hb).elim (λh=>.inl (t b h.2)) λh=>F.sQ j b h.2
 .exact λp q b hp L=>(aw hp).elim (λG=>(aw L).elim (λD=>G.1.trans D.1.symm) λD=>ak (g q b D.2) λo e=>az (z b G.2) e) λG=>(aw L).elim (λD=>ak (g p b G.2) λo e=>az (z b D.2) e) λD=>F.hZ p q b G.2 D.2
 .exact λj b hb m=>(aw hb).elim (λh=>ak (d b m) λo e=>az (z b h.2) e) λh=>F.apart j b h.2 m
 .exact λj w e hs b hb=>(aw hb).elim (λh=>fi e (λ_ e=>B (e▸hs) b h.2) λq _=>absurd h.1 q) λh=>fi e (λq _=>absurd q h.1) λ_ e=>F.ext j w e hs b h.2
theorem FS.asg {x:Str}{i:Nat}{d:D}{v:Value}(F:FS W c sc env l A Mu0 Ex s0 ow Z s)(hi:c.aE.idxOf? x=some i)(a:dQ sc env s x v s')(r:Rep W (bU Mu0 sc env ow) s'.heap d v):FS W c sc env l A Mu0 Ex s0 (c9 ow i λ_=>False) (Z.set i (.val d)) s':=
 F.upd hi a (λb h=>h.elim) (λb h=>h.elim) (r.move λb o m e=>⟨λh=>m (h.imp id λh=>h.imp id λ⟨j,h⟩=>(aw h).elim (λq=>q.2.elim) λq=>⟨j,q.2⟩),e⟩) (λh=>nomatch h)
theorem pF {f d:D}{b:Addr}(g:Rep W Mu h f (.ref a))(r:Rep W Mu h d (.ref b))(hs:sizeOf d<sizeOf f):b≠a:=λe=>by
 subst e
 rw[u6 _ _ _ r g] at hs;exact Oa _ hs
theorem Kq :sizeOf ds<sizeOf (D.list ds):=by simp
theorem L4 :sizeOf ds<sizeOf (D.tup ds):=by simp
theorem Kr :sizeOf ds<sizeOf (D.dict ks ds):=by simp;exact NM _ _
theorem L5 :sizeOf ds<sizeOf (D.inst ds):=by simp
theorem EB {d:D}:sizeOf d<sizeOf (d::ds)/\sizeOf ds<sizeOf (d::ds):=by simp;lia
theorem xB {t:D}{P:Prop}(u:Rep W Mu h t (.ref a))(G:P-> ∃vs n,h.get? a=some (aR vs n))(d:D):sizeOf d<sizeOf t->P\/gS d=true-> ∀v,Rep W Mu h d v->Rep W (λb=>Mu b\/b=a) h d v:=
 D.rec (motive_1:=λd=>sizeOf d<sizeOf t->P\/gS d=true-> ∀v,Rep W Mu h d v->Rep W (λb=>Mu b\/b=a) h d v)
  (motive_2:=λp=>sizeOf p<sizeOf t->P\/ej p=true-> ∀vs,aq W Mu h p vs->aq W (λb=>Mu b\/b=a) h p vs) (λ_ _ _ r=>r) (λ_ _ _ _ r=>r) (λ_ _ _ _ r=>r) (λ_ _ _ _ r=>r)
  (λ_ i hs f _ r=>r.bp λb vs n m g l=>.bI (λh=>h.elim m (pF u (.bI m g l) hs)) g (i (NW Kq hs) f vs l))
  (λ_ i hs f _ r=>r.tupK λb vs n m g l=>.gU (λh=>h.elim m (pF u (.gU m g l) hs)) g (i (NW L4 hs) f vs l))
  (λ_ _ i hs f _ r=>r.dO λb vs y m g q l=>.bY y (λh=>h.elim m (pF u (.bY y m g q l) hs)) g q (i (NW Kr hs) f vs l))
  (λ_ i hs f _ r=>eZ (G (f.resolve_right NX)) λC k H=>r.qt λb J vs m g F w q l=>
   .mkInst (λh=>h.elim m (pF u (.mkInst m g F w q l) hs)) g (λh=>h.elim F λe=>dX (e▸w) λ_ _ _ I _ x _=>Data.noConfusion ((MY Obj.data (MW (H.symm.trans I))).trans x)) w q (i (NW L5 hs) (.inl (f.resolve_right NX)) vs l))
  (λ_ _ _ r=>r) (λd p z B hs f _ r=>r.eB λv C a b=>.cons (z (NW EB.1 hs) (f.imp id λh=>(M9.mp h).1) v a) (B (NW EB.2 hs) (f.imp id λh=>(M9.mp h).2) C b)) d
theorem mr {e:D}{P:Prop}(f:Rep W Mu h e (.ref a))(g:P-> ∃vs n,h.get? a=some (aR vs n)){vs:List Value}(hs:sizeOf ds<sizeOf e)(d:P\/ej ds=true)(r:aq W Mu h ds vs):aq W (λb=>Mu b\/b=a) h ds vs:=
 r.ind (motive:=λds vs=>sizeOf ds<sizeOf e->P\/ej ds=true->aq W (λb=>Mu b\/b=a) h ds vs) (λ_ _=>aq.nil)
  (λ_ _ _ _ a _ i hs d=>.cons (xB f g _ (NW EB.1 hs) (d.imp id λh=>(M9.mp h).1) _ a) (i (NW EB.2 hs) (d.imp id λh=>(M9.mp h).2))) hs d
inductive SO:Nat->D->Slot->Prop
 |val {d:D}:SO 0 d (.val d)
 |list {xs:List D}:SO 1 (.list xs) (.own (.list xs))
 |dict {ks:List Str}{vs:List D}:ej vs=true->SO 1 (.dict ks vs) (.own (.dict ks vs))
 |rows {d:D}{rs:List (List D)}:SO 2 d (.rows rs)
theorem Ks {k:Nat}{d:D}{sl:Slot}(e:dv k d=some sl):SO k d sl:=by
 rcases k with _|_|_|k
 .exact sK (R:=SO 0 d) e .val
 .cases d with
  |list a=>exact sK (R:=SO 1 _) e .list
  |dict b g=>refine au (fe e) λh e=>?_;exact sK (R:=SO 1 _) e (.dict h)
  |_=>exact ns e
 .cases d with
  |list a=>exact wM (R:=SO 2 _) (f:=Slot.rows) e λ_ _=>.rows
  |_=>exact ns e
 .exact ns e
theorem rn {d:D}{sl:Slot}{v:Value}(e:dv 1 d=some sl)(r:Rep W Mu h d v):∃a,v=.ref a/\ ¬Mu a/\(∃o,h.get? a=some o)/\bj W (· =a) (λb=>Mu b\/b=a) h sl v:=by
 cases d with
 |list j=>exact cq (show some (Slot.own (.list j))=some sl from e) (r.bp λa f n m g l=>⟨a,rfl,m,⟨_,g⟩,.bI g (mr (.bI m g l) id Kq (.inl ⟨_,_,g⟩) l),λb e=>(Value.ref.inj e).symm,.inl ⟨_,rfl⟩⟩)
 |dict p f=>exact cT e λi e=>cq (show some (Slot.own (.dict p f))=some sl from e) (r.dO λa f y m g q l=>⟨a,rfl,m,bH g,.bY y g q (mr (P:=False) (.bY y m g q l) False.elim Kr (.inr i) l),λb e=>(Value.ref.inj e).symm,.inr ⟨_,_,rfl⟩⟩)
 |_=>exact ns e
theorem n4 {k:Nat}{d:D}{sl:Slot}(e:dv k d=some sl):sl.free.isSome=true:=by
 have q:=Ks e
 clear e
 induction q<;>rfl
theorem FS.own {x:Str}{i:Nat}{d:D}{v:Value}{sl:Slot}(F:FS W c sc env l A Mu0 Ex s0 ow Z s)(hi:c.aE.idxOf? x=some i)(a:dQ sc env s x v s')(e:dv 1 d=some sl)(r:Rep W (bU Mu0 sc env ow) s'.heap d v)(f:∀b,v=.ref b->s.heap.get? b=none):
  ∃b,s.heap.get? b=none/\FS W c sc env l A Mu0 Ex s0 (c9 ow i (· =b)) (Z.set i sl) s':=by
 refine ni (rn e r) λb ev nm lv p=>?_
 refine⟨b,f b ev,F.upd hi a (λg h=>h▸f b ev) (λg h=>h▸lv) (p.move (λg o m e=>⟨λh=>?_,e⟩) (λ_ _ _ e=>e) λ_ h=>h) (λh=>nb ((MY Option.isSome h).symm.trans (n4 e)))⟩
 exact h.elim (λh=>m (.inl (.inl h))) λh=>h.elim (λh=>m (.inl (.inr (.inl h)))) λ⟨j,h⟩=>(aw h).elim (λh=>m (.inr h.2)) λh=>m (.inl (.inr (.inr ⟨j,h.2⟩)))
theorem dQ.pre {x:Str}{v:Value}(a:dQ sc env s2 x v s')(k:Keeps s s2):dQ sc env s x v s':=
 ⟨(KB.of k).trans a.kb,a.na,λy u h n=>a.ot y u h (n.keeps (ag k)),a.lv⟩
theorem bL {x:Str}{v:Value}{Q:Unit->Shared->Prop}(ok:jx sc env)(lv:fh env s.heap)(hx:sc.names.lookup x=some .local\/sc.names.lookup x=some .cell)(e:∀s',dQ sc env s x v s'->Q () s'):wpAny W.M A (storeName env x v) Q E s:=
 jC ok lv hx λs' a b c d=>e s' ⟨a,b,c,d⟩
inductive vq:Expr->Prop
 |l {a:Expr}{b:List Comprehension}{c:Scope}{d:Pos}:vq (.ListComp a b c d)
 |d {a b:Expr}{c:List Comprehension}{d:Scope}{e:Pos}:vq (.DictComp a b c d e)
 |s {a:Expr}{b:List Comprehension}{c:Scope}{d:Pos}:vq (.SetComp a b c d)
def vr (x:Str)(p:Pos)(line:Nat)(env:Env)(v:Expr):Prop:= ∃b,swapsWith v (some (.Name x p)) line env=pure b/\(b=true->vq v)
theorem vr.no {v:Expr}{x:Str}{line:Nat}(h:swapsWith v (some (.Name x p)) line env=pure false):vr x p line env v:=⟨false,h,λh=>nb h⟩
theorem tJ {v:Expr}{x:Str}{line:Nat}:vr x p line env v:=by
 cases v with
 |ListComp a b c d=>exact⟨_,rfl,λ_=>.l⟩
 |DictComp a b c d e=>exact⟨_,rfl,λ_=>.d⟩
 |SetComp a b c d=>exact⟨_,rfl,λ_=>.s⟩
 |_=>exact vr.no rfl
theorem ro {x:Str}{v:Value}{d:Addr}{m:Str->Option Value}{Q:Value->Shared->Prop}(C:Cx W c.aE sc env R Mu Z A l s)(wr:Wr sc env R Mu)(hx:sc.names.lookup x=some .local\/sc.names.lookup x=some .cell)(ks:Keeps s s5)(t:s.heap.get? d=none)(ns:s5.heap.Ns d m)(z:∀s',dQ sc env s x v s'->(∀b o, ¬(Mu b\/b=d)->s5.heap.get? b=some o->s'.heap.get? b=some o)->Q .none s'):
  wpAny W.M A (assign (.Name x p) env v) (λ_ g=>∃m,g.heap.Ns d m/\ ∀j,Heap.SameBut d g.heap j->Q .none {g with heap:=j}) E s5:=by
 have q:¬bu env d:=λh=>h.elim (λh=>sS C.live.ns λm o _ _ e _=>az t (h▸e)) λ⟨y,h⟩=>aW (C.live.cells y d h) λv o e _=>az t e
 refine OX (bL C.ok (C.live.keeps (ag ks)) hx λw a=>⟨m,ns.at' λo e=>a.kb.get _ o (λf=>q (kX f)) e,λj hs=>?_⟩)
 have kb:KB (· =d) w {w with heap:=j}:=⟨j,_,rfl,λb o nb e=>hs.extBut b o nb e⟩
 have i:∀b,b=d-> ¬bu env b:=λb h=>h▸q
 have r:=a.pre ks
 refine z _ ⟨KB.nE (X:=(· =d)) ((r.kb.mono λb h=>.inl h).trans (kb.mono λb h=>.inr h)) (λb h=>h▸t),cZ i kb r.na,λy u h n=>cZ i kb (r.ot y u h n),gu i kb r.lv⟩ λb o nb e=>?_
 exact kb.get b o (λh=>nb (.inr h)) (a.kb.get b o (λf=>nb (.inl (wr.mu b f))) e)
theorem rp (w:gX W)(S:∀n,bF W U l n){x:Str}{v:Expr}{d:D}{Q:Flow->Shared->Prop}(hx:sc.names.lookup x=some .local\/sc.names.lookup x=some .cell)(h:(cm c k).e sc v=some u)(z:(ev U n).m Z u=some d)(C:Cx W c.aE sc env R Mu Z A l s)(wr:Wr sc env R Mu)(J:∀val s',dQ sc env s x val s'->Rep W Mu s'.heap d val->(dq u=true-> ∀a,val=.ref a->s.heap.get? a=none)->Q .next s'):
  wpAny W.M A (exec (.Assign [.Name x p] v pos) env) Q E s:=by
 refine af (tJ (v:=v) (x:=x) (p:=p) (line:=pos.line) (env:=env)) λb hb j=>?_
 cases b with
 |false=>
  have main:∀val s1,Keeps s s1->Rep W Mu s1.heap d val->(dq u=true-> ∀a,val=.ref a->s.heap.get? a=none)->wpAny W.M A (storeName env x val) (λ_=>Q .next) E s1:=λval s1 G H N=>
   bL C.ok (C.live.keeps (ag G)) hx λs' a=>J val s' (a.pre G) (H.move λb o m e=>⟨m,a.kb.get b o (λf=>m (wr.mu b f)) e⟩) N
  refine wpAny_Assign_Name ?_ hb
  by_cases M:dq u=true
  .exact((S n).f h M z C).use λval s1 G H=>main val s1 G H.1 λ_=>H.2
  .exact((S n).e h z C).use λval s1 G H=>main val s1 G H λq=>absurd q M
 |true=>
  rw[exec_Assign_Name_used x p v pos hb]
  refine MZ (wpAny_standAt ?_)
  have nm:∀{s5:Shared} {t B:Addr},s.heap.get? t=none->t≠B-> ¬(Mu t\/t=B):=λh ne q=>q.elim (λO=>ak (C.old _ O) λo e=>az h e) ne
  have fz:∀{s5 s':Shared} {B:Addr},(∀b o, ¬(Mu b\/b=B)->s5.heap.get? b=some o->s'.heap.get? b=some o)->Fz (λb=>Mu b\/b=B) s5.heap Mu s'.heap:=λF b o n e=>⟨λh=>n (.inl h),F b o n e⟩
  cases k with
  |zero=>exact ns h
  |succ k=>
   cases n with
   |zero=>exact ns z
   |succ n=>
    have h:Hc c (cm c k) sc v=some u:=h
    have z:cV U (ev U n) Z u=some d:=z
    have P:=j rfl
    clear j hb
    cases P with
    |@l K gens isc I=>
     refine MZ ?_
     show wpAny _ _ (comprehension (.ListComp K gens isc I) isc env (firstIterPos gens I) (newList []) (firstAsync gens) (firstIter gens env) (some (assign (.Name x p) env))>>=λ_=>pure ()) _ _ s
     refine MZ (NH (q8 (Q:=λ_ s'=>Q .next s') w (S n) h z C λout t B s5 m L i=>?_) (λ_ s' h=>M6 (M6 h)) λ_ _ e=>e)
     refine ro (Q:=λ_ s'=>Q .next s') C wr hx i.keeps i.Ax i.ns λs' a F=>J (.ref t) s' a ?_ (λ_ a e=>Value.ref.inj e▸i.newD)
     have n:=nm (s5:=s5) i.newD i.ne
     exact aW i.acc λT m' e r=>L▸ .bI (λh=>n (.inl h)) (F _ _ n e) (r.move (fz F))
    |@d V vx gens isc I=>
     refine MZ ?_
     show wpAny _ _ (comprehension (.DictComp V vx gens isc I) isc env (firstIterPos gens I) newDict (firstAsync gens) (firstIter gens env) (some (assign (.Name x p) env))>>=λ_=>pure ()) _ _ s
     refine MZ (NH (rh (Q:=λ_ s'=>Q .next s') w (S n) h z C λout t B s5 m L i=>?_) (λ_ s' h=>M6 (M6 h)) λ_ _ e=>e)
     refine ro (Q:=λ_ s'=>Q .next s') C wr hx i.keeps i.Ax i.ns λs' a F=>J (.ref t) s' a ?_ (λ_ a e=>Value.ref.inj e▸i.newD)
     have n:=nm (s5:=s5) i.newD i.ne
     exact au i.acc λy q=>bf q λT g l r=>L▸ .bY y (λh=>n (.inl h)) (bl g λo e=>F _ _ n e) l (r.move (fz F))
    |s=>exact ns h
theorem FS.jg {i:Nat}{g:Slot}{x:Str}{v:Value}{sl:Slot}{b:Addr}(F:FS W c sc env l A Mu0 Ex s0 ow Z s)(w:Z i=some sl)(hx:c.aE[i]?=some x)(na:aJ env s.heap x v)(hb:ow i b)(kb:KB (· =b) s s')(lv:∃o,s'.heap.get? b=some o)(B:g.free.isSome=sl.free.isSome)(C:¬bu env b)(r:bj W (ow i) (bU Mu0 sc env ow) s'.heap g v):FS W c sc env l A Mu0 Ex s0 ow (Z.set i g) s':=by
 have z:bU Mu0 sc env ow b:=.inr (.inr ⟨i,hb⟩)
 have p:∀a,a=b-> ¬bu env a:=λa h=>h▸C
 refine⟨⟨F.cx.ok,?_,?_,F.cx.sub,F.cx.above,?_,F.cx.good,F.cx.tb,gu p kb F.cx.live⟩,F.no,?_,F.fresh,?_,F.sQ,F.hZ,F.ia,F.fk,F.apart,?_⟩
 .exact λa o e=>kb.get a o (λh=>az (F.cx.above b z) (h▸e)) (F.cx.base a o e)
 .intro a m
  by_cases h:a=b
  .exact h▸lv
  .exact ak (F.cx.old a m) λo e=>⟨o,kb.get a o h e⟩
 .exact λj d e=>fi e (λt e=>e▸t.symm▸⟨x,v,hx,cZ p kb na,r⟩) λt e=>aP (F.cx.view j d e) λy u D n q=>
   ⟨y,u,D,cZ p kb n,q.move (λa o m e=>⟨m,kb.get a o (λh=>m (h▸z)) e⟩) (λa o m e=>kb.get a o (λh=>t (F.hZ j i b (h▸m) hb)) e) λ_ x=>x⟩
 .rcases F.sQ i b hb with h|h
  .exact KB.nE (X:=(· =b)) ((F.kb.mono λa h=>.inl h).trans (kb.mono λa h=>.inr h)) λa e=>e▸h
  .exact F.kb.trans (kb.mono λa e=>e▸h)
 .exact λj d e hs a f=>fi e (λt e=>F.i4 i sl w (B▸e▸hs) a (t▸f)) λ_ e=>F.i4 j d e hs a f
 .exact λj d e hs a f=>fi e (λt e=>F.ext i sl w (Option.not_isSome_iff_eq_none.mp λq=>nb ((MY Option.isSome (e▸hs:g.free=none)).symm.trans (B.trans q))) a (t▸f)) λ_ e=>F.ext j d e hs a f
theorem dZ {b:Addr}{o:Obj}(lv:fh env h)(e:h.get? b=some o)(a:∀v,o.data≠ .cell v)(d:b≠env.locals):¬bu env b:=
 λq=>q.elim d λ⟨n,q⟩=>aW (lv.cells n b q) λv i f g=>a v (MW (e.symm.trans f)▸g)
theorem gx {i:Nat}{x:Str}{v:Value}{Q:Value->Shared->Prop}(C:Cx W c.aE sc env R Mu Z A l s)(hi:c.aE.idxOf? x=some i)(na:aJ env s.heap x v)(h:Q v s):wpAny W.M A (eval (.Name x pos) env) Q E s:=
 jy C.ok.kind na (o9 C.tb (cz hi)).1 (o9 C.tb (cz hi)).2 h
theorem df {i:Nat}{x:Str}{sl:Slot}(C:Cx W c.aE sc env R Mu Z A l s)(hi:c.aE.idxOf? x=some i)(a:Z i=some sl):∃v,aJ env s.heap x v/\bj W (R i) Mu s.heap sl v:=by
 exact aP (C.view i sl a) λy v b na r=>⟨v,MW (b.symm.trans (cz hi))▸na,r⟩
def Iv (W:Wd)(Mu0:aD)(h:Heap):Fl->Flow->Prop
 | .next,f=>f=.next
 | .brk,f=>f=.brk
 | .ret d,f=>∃v,f=.ret v/\Rep W Mu0 h d v
def dS (sc:Scope)(env:Env)(ow:Nat->aD)(b:Addr):Prop:=iY sc env b\/ ∃i,ow i b
structure Step (sc:Scope)(env:Env)(ow:Nat->aD)(s:Shared)(ow':Nat->aD)(s':Shared):Prop where
 kb:KB (dS sc env ow) s s'
 gr:∀b,dS sc env ow' b->dS sc env ow b\/s.heap.get? b=none
theorem Step.refl:Step sc env ow s ow s:=⟨KB.refl _ _,λ_ h=>.inl h⟩
theorem Step.keep (k:Keeps s s'):Step sc env ow s ow s':=⟨KB.of k,λ_ h=>.inl h⟩
theorem Step.trans {d:Nat->aD}{f:Shared}(a:Step sc env ow s ow' s')(b:Step sc env ow' s' d f):Step sc env ow s d f:=by
 have g:∀b,dS sc env ow' b/\ ¬dS sc env ow b->s.heap.get? b=none:=λb h=>(a.gr b h.1).elim (λx=>absurd x h.2) id
 refine⟨KB.nE (X:=λb=>dS sc env ow' b/\ ¬dS sc env ow b) ((a.kb.mono λb h=>.inl h).trans (b.kb.mono λb h=>?_)) g,λq h=>(b.gr q h).elim (λh=>a.gr q h) λh=>?_⟩
 .exact(Classical.em (dS sc env ow b)).imp id λq=>⟨h,q⟩
 .refine(Classical.em (dS sc env ow q)).imp id λo=>?_
  cases e:s.heap.get? q with
  |none=>rfl
  |some ob=>exact az h (a.kb.get q ob o e)
theorem Step.asg {x:Str}{i:Nat}{v:Value}{N:aD}(a:dQ sc env s x v s')(d:∀b,N b->s.heap.get? b=none):Step sc env ow s (c9 ow i N) s':=
 ⟨a.kb.mono λb h=>.inl h,λb h=>h.elim (λh=>.inl (.inl h)) λ⟨j,h⟩=>(aw h).elim (λh=>.inr (d b h.2)) λh=>.inl (.inr ⟨j,h.2⟩)⟩
theorem Step.jg {b:Addr}{i:Nat}(hb:ow i b)(kb:KB (· =b) s s'):Step sc env ow s ow s':=⟨kb.mono λa h=>.inr ⟨i,h▸hb⟩,λ_ h=>.inl h⟩
def dT (W:Wd)(c:CT)(sc:Scope)(env:Env)(l:Nat)(A:Around)(Mu0 Ex:aD)(s0:Shared)(ow:Nat->aD)(s:Shared)(fl:Fl)(Z':St):Flow->Shared->Prop:=
 λf s'=>∃ow',FS W c sc env l A Mu0 Ex s0 ow' Z' s'/\Iv W Mu0 s'.heap fl f/\Step sc env ow s ow' s'
theorem dT.pre {Z':St}{f:Flow}{s1 s':Shared}{e:Nat->aD}(st:Step sc env ow s e s1)(h:dT W c sc env l A Mu0 Ex s0 e s1 fl Z' f s'):dT W c sc env l A Mu0 Ex s0 ow s fl Z' f s':=
 bf h λow' a b d=>⟨ow',a,b,st.trans d⟩
theorem Kt (w:gX W)(S:∀n,bF W U l n){x:Str}{v:Expr}{e:ME}{d:D}{i:Nat}(hi:cv c sc x=some i)(h:(cm c k).e sc v=some e)(f:(ev U n).m Z e=some d)(F:FS W c sc env l A Mu0 Ex s0 ow Z s):
  wpAny W.M A (exec (.Assign [.Name x p] v pos) env) (dT W c sc env l A Mu0 Ex s0 ow s .next (Z.set i (.val d))) E s:=by
 refine au (bP hi) λhx hi=>?_
 exact rp w S hx h f F.cx F.wr λval s' a r _=>⟨_,F.asg hi a r,rfl,Step.asg a λb h=>h.elim⟩
theorem Ku (w:gX W)(S:∀n,bF W U l n){x:Str}{v:Expr}{e:ME}{d:D}{i:Nat}{sl:Slot}(hi:cv c sc x=some i)(h:(cm c k).e sc v=some e)(g:dq e=true)(j:(ev U n).m Z e=some d)(hs:dv 1 d=some sl)(F:FS W c sc env l A Mu0 Ex s0 ow Z s):
  wpAny W.M A (exec (.Assign [.Name x p] v pos) env) (dT W c sc env l A Mu0 Ex s0 ow s .next (Z.set i sl)) E s:=by
 refine au (bP hi) λhx hi=>?_
 exact rp w S hx h j F.cx F.wr λval s' a r f=>af (F.own hi a hs r (f g)) λb hb m=>⟨_,m,rfl,Step.asg a λo h=>h▸hb⟩
theorem L6 (S:∀n,bF W U l n){t:Expr}{b:List Stmt}{mt:ME}{Z':St}(h:(cm c k).e sc t=some mt)(g:(ev U n).t Z mt=some q)(F:FS W c sc env l A Mu0 Ex s0 ow Z s)(hb:∀s',FS W c sc env l A Mu0 Ex s0 ow Z s'->wpAny W.M A (execs (if q then a else b) env) (dT W c sc env l A Mu0 Ex s0 ow s' fl Z') E s'):
  wpAny W.M A (exec (.If t a b pos) env) (dT W c sc env l A Mu0 Ex s0 ow s fl Z') E s:=by
 have m:=λs1 (d:Keeps s s1)=>NH (hb s1 (F.keep d)) (λf s' h=>dT.pre (Step.keep d) h) λ_ _ e=>e
 refine wpAny_If (((S n).t h g F.cx).use λx s1 d i=>i.symm▸?_)
 clear g hb
 cases q with
 |true=>exact m s1 d
 |false=>exact m s1 d
theorem EC (f:∀b,a b-> ¬Mu' b)(sub:∀b,Mu' b->Mu b){d:List (List D)}(q:a8 W a Mu h d vs):aq W Mu' h (d.map .list) vs:=
 q.ind aq.nil λ_ _ _ _ _ _ hr g l _ i=>.cons (.bI (f _ hr) g (l.move λb o m e=>⟨λh=>m (sub b h),e⟩)) i
theorem AK {N:aD}{sl i:Slot}{v:Value}(e:sl.free=some i)(r:bj W N Mu h sl v)(fz:Fz Mu h Mu' h)(sub:∀b,Mu' b->Mu b)(f:∀b,N b-> ¬Mu' b):bj W (λ_=>False) Mu' h i v:=by
 cases sl with
 |val d=>exact MW e▸Rep.move fz r
 |own d=>
  refine eU r λj m p=>MW e▸(show Rep W Mu' h d v from ?_)
  cases d with
  |list u=>exact jn j λa o n q g l=>q▸ .bI (f a (m a q)) g (l.move fz)
  |dict x o=>exact jY j λa z q y g t l=>q▸ .bY y (f a (m a q)) g t (l.move fz)
  |_=>exact p.elim (λq=>ak q λ_ e=>ze (MY dk e) rfl) λq=>eZ q λ_ _ e=>ze (MY dk e) rfl
 |rows B=>exact MW e▸DJ r λa o n q hr g w _=>q▸Rep.bI (f a hr) g (EC f sub w)
 |_=>exact ns e
theorem FS.ret (F:FS W c sc env l A Mu0 Ex s0 ow Z s):Cx W c.aE sc env (λ_ _=>False) Mu0 Z.free A l s where
 ok:=F.cx.ok
 base:=F.cx.base
 old:=λb m=>F.cx.old b (.inl m)
 sub:=λ_ _ h=>h.elim
 above:=λb m=>F.cx.above b (.inl m)
 good:=F.cx.good
 tb:=F.cx.tb
 live:=F.cx.live
 view:=λi sl e=>af (ob e) λsl0 e0 e1=>aP (F.cx.view i sl0 e0) λx v hx na r=>
  ⟨x,v,hx,na,AK e1 r (λb o m e=>⟨λh=>m (.inl h),e⟩) (λb h=>.inl h) λb hb m=>ak (F.fk b (F.apart i b hb m)) λo e=>az (F.i4 i sl0 e0 (MY Option.isSome e1) b hb) e⟩
theorem Kv (S:∀n,bF W U l n){v:Expr}{d:D}(h:(cm c k).e sc v=some a)(e:(ev U n).m Z.free a=some d)(F:FS W c sc env l A Mu0 Ex s0 ow Z s):
  wpAny W.M A (exec (.Return (some v) pos) env) (dT W c sc env l A Mu0 Ex s0 ow s (.ret d) Z) E s:=by
 refine wpAny_Return_some (((S n).e h e F.ret).use λval s1 b f=>⟨ow,F.keep b,⟨val,rfl,f⟩,Step.keep b⟩)
theorem rq {n:Nat}{k:Int}{t:Tok}{v:Value}{Q:Unit->Shared->Prop}(g:s.heap.get? a=some (aR vs n))(h0:0<=k)(hn:k<vs.length)(hsz:vs.length<2^40)(m:∀h d,h.get? a=some (aR (vs.set k.toNat v) d)->Heap.SameBut a s.heap h->Q () {s with heap:=h}):
  wpAny W.M A (setItem (.ref a) (.int k t) v) Q E s:=by
 have i:s.TypeIs (.ref a) "list":=(aA g).typeIs
 unfold setItem
 refine OH ?_
 refine MZ (wpAny_sequenceKey i (by decide) ?_)
 refine MZ (wpAny_callSpecial?_slot (name:=Str.ofString "__setitem__") i slot_list_setitem (OJ slot_list_setitem i entry_list_setitem ?_ (args_list_setitem _ _ _)))
 show wpAny _ _ (Builtin.List.listSubscript? (.int k t)>>=_) _ _ s
 refine MZ (wpAny_listSubscript_int (fitsIndex_of h0 (j4 (Int.lt_trans hn (show(vs.length:Int)<lim from N5.mpr (NW hsz (by decide)))))) ?_)
 obtain ⟨j,rfl⟩:=Int.eq_ofNat_of_zero_le h0
 have o:j<vs.toArray.size:=N5.mp hn
 show wpAny _ _ ((seqItemAt a j>>=λr=>pure (r.map (j, ·)))>>=_) _ _ s
 refine MZ (MZ (wpAny_seqItemAt g rfl (M6 ?_)))
 rw[Array.getElem?_eq_getElem o]
 show wpAny _ _ (setSeqItemAt a j v>>=_) _ _ s
 have b:∃d,(s.heap.update a (Obj.mapSeq (·.setIfInBounds j v))).get? a=some (aR (vs.set j v) d):=by
  have e:=Heap.get?_update_self (Obj.mapSeq (·.setIfInBounds j v)) g rfl
  have q:∃d,Obj.mapSeq (·.setIfInBounds j v) (aR vs n)=aR (vs.set j v) d:=⟨_,by simp only[Obj.mapSeq,List.setIfInBounds_toArray];rfl⟩
  obtain ⟨d,q⟩:=q
  exact⟨d,q▸e⟩
 obtain ⟨d,b⟩:=b
 refine MZ (wpAny_setSeqItemAt g rfl ?_)
 have f:=m _ d (by simpa using b) (Heap.SameBut.update ..)
 first
  |exact MZ (M6 (M6 ⟨.none,rfl,M6 f⟩))
  |exact M6 ⟨.none,rfl,M6 f⟩
theorem rA {vs:List Value}(h:vs.length<2^20):vs.toArray.size<=sizeLine:=M4 (ND h) (by decide)
theorem n5 {a:Addr}{vs:List Value}{n:Nat}{v:Value}{Q:Value->Shared->Prop}(e:s.heap.get? a=some (aR vs n))(hsz:vs.length<2^20)(f:∀b d,b.get? a=some (aR (vs++[v]) d)->Heap.SameBut a s.heap b->Q .none {s with heap:=b}):wpAny W.M A (call (.builtin "list.append") [.ref a,v]) Q E s:=by
 refine wpAny_list_append_plain (items:=vs.toArray) (hsz:=rA hsz) ⟨n,e⟩ λb hp hs=>?_
 obtain ⟨d,hp⟩:=hp
 exact f b d (by simpa using hp) hs
theorem n6 {a b:Addr}{vs d:List Value}{n m:Nat}{Q:Value->Shared->Prop}(g:s.heap.get? a=some (aR vs n))(hb:s.heap.get? b=some (aR d m))(hsz:vs.length+d.length<2^20)(j:∀i f,i.get? a=some (aR (vs++d) f)->Heap.SameBut a s.heap i->Q .none {s with heap:=i}):wpAny W.M A (call (.builtin "list.extend") [.ref a,.ref b]) Q E s:=by
 refine call_meets F.slot_list_extend ⟨_,g,rfl⟩ F.entry_list_extend (F.args_list_extend_2 _ _) (AutoSeq1.list_extend_list_list_0 a vs.toArray n b d.toArray m ?_ ?_ ?_) ⟨g,hb,?_⟩
 .intro h
  have h:=(M9.mp h).2
  simp[Builtin.List.listTooLong,sizeLine] at h
  lia
 .rw[N1];show _<=2^24;lia
 .simp only[N1];show _<=2^24+1;exact av.lw (N0 hsz) rfl
 have e:=Heap.get?_update_self (Obj.mapSeq (· ++d.toArray)) g rfl
 have q:∃f,Obj.mapSeq (· ++d.toArray) (aR vs n)=aR (vs++d) f:=⟨_,by simp only[Obj.mapSeq,List.append_toArray];rfl⟩
 refine ak q λf q=>?_
 exact j _ f (q▸e) (Heap.SameBut.update ..)
theorem iN {o a:Expr}{m:Str}{apos b:Pos}{Q:Flow->Shared->Prop}(f:env.scope.kind=.function)(h:wpAny W.M A (eval (.Call (.Attribute o m apos) [a] [] b) env) (λv s'=>v=.none/\Q .next s') E s):
  wpAny W.M A (exec (.Expr (.Call (.Attribute o m apos) [a] [] b) pos) env) Q E s:=by
 refine wpAny_Expr (NH h (λv s' d=>?_) λ_ _ e=>e) (show(env.scope.kind== .module&&env.scope.more.any λ(n,_)=>n==("interactive":Str))=false by rw[f];rfl) rfl
 exact d.1▸d.2
theorem fJ {b:aD}{v:Value}(r:bj W b Mu h (.own (.list xs)) v\/bj W b Mu h (.ext xs) v):∃a vs n,v=.ref a/\b a/\h.get? a=some (aR vs n)/\aq W Mu h xs vs:=
 r.elim (λr=>jn r.1 λa vs n e g l=>⟨a,vs,n,e,r.2.1 a e,g,l⟩) id
theorem rB {d:aD}{h:Heap}{n:Nat}(hr:d a)(g:h.get? a=some (aR vs n))(l:aq W Mu h xs vs):bj W d Mu h (.own (.list xs)) (.ref a):=
 ⟨.bI g l,λb e=>Value.ref.inj e▸hr,.inl ⟨_,rfl⟩⟩
theorem all1 {d e:Type}{f:d->Option e}{a:d}{b:e}(h:f a=some b):ah f [a]=some [b]:=by
 show(match f a,some [] with
  |some y,some g=>some (y::g)
  |_,_=>none)=some [b]
 rw[h]
theorem FS.tK {i:Nat}{x:Str}{n:Nat}{r:List Value}{w:Nat}{d:Heap}(F:FS W c sc env l A Mu0 Ex s0 ow Z s)(hi:c.aE.idxOf? x=some i)(na:aJ env s.heap x (.ref a))(hr:ow i a)(g:s.heap.get? a=some (aR vs n))(t:d.get? a=some (aR r w))(hs:Heap.SameBut a s.heap d)(y:aq W (bU Mu0 sc env ow) s.heap ys r):
  (Z i=some (.own (.list xs))->FS W c sc env l A Mu0 Ex s0 ow (Z.set i (.own (.list ys))) {s with heap:=d})/\(Z i=some (.ext xs)->FS W c sc env l A Mu0 Ex s0 ow (Z.set i (.ext ys)) {s with heap:=d}):=by
 have kb:KB (· =a) s {s with heap:=d}:=⟨d,_,rfl,λb o nb e=>hs.extBut b o nb e⟩
 have j:¬bu env a:=dZ F.cx.live g (λv h=>Data.noConfusion h) λe=>F.no a (.inl e) i hr
 have u:bU Mu0 sc env ow a:=.inr (.inr ⟨i,hr⟩)
 have p:aq W (bU Mu0 sc env ow) d ys r:=y.move λb o m e=>⟨m,kb.get b o (λq=>m (q▸u)) e⟩
 exact⟨λf=>F.jg f (cz hi) na hr kb ⟨_,t⟩ rfl j (rB hr t p),λf=>F.jg f (cz hi) na hr kb ⟨_,t⟩ rfl j ⟨a,r,w,rfl,hr,t,p⟩⟩
theorem AL (S:∀n,bF W U l n){x:Str}{B apos j pos:Pos}{a:Expr}{w:ME}{d:D}{i:Nat}{xs:List D}(hi:c.aE.idxOf? x=some i)(p:(apos.endLine==j.line)=true)(h:(cm c k).e sc a=some w)(C:(ev U n).m Z w=some d)(hlen:xs.length<2^20)(F:FS W c sc env l A Mu0 Ex s0 ow Z s){q:Slot}(f:(Z i=some (.own (.list xs))/\q=.own (.list (xs++[d])))\/(Z i=some (.ext xs)/\q=.ext (xs++[d]))):
  wpAny W.M A (exec (.Expr (.Call (.Attribute (.Name x B) "append" apos) [a] [] j) pos) env) (dT W c sc env l A Mu0 Ex s0 ow s .next (Z.set i q)) E s:=by
 have G:∃v,aJ env s.heap x v/\(bj W (ow i) (bU Mu0 sc env ow) s.heap (.own (.list xs)) v\/bj W (ow i) (bU Mu0 sc env ow) s.heap (.ext xs) v):=
  f.elim (λf=>af (df F.cx hi f.1) λv na r=>⟨v,na,.inl r⟩) λf=>af (df F.cx hi f.1) λv na r=>⟨v,na,.inr r⟩
 refine af G λv na r=>dX (fJ r) λb H m e hr g I=>?_
 have na:aJ env s.heap x (.ref b):=e▸na
 refine iN F.cx.ok.kind (nV (c:=c) (k:=k) (sc:=sc) (mes:=[w]) rfl p (Nat.le_of_ble_eq_true rfl) (all1 h) (gx F.cx hi na ⟨"list","list.append",PySem.F.plainAttrs_list,PySem.F.slot_list_append,PySem.F.type_list_append,(aA g).typeIs,dG g,?_⟩))
 rw[mj h]
 refine Calls.spliced_cons (((S n).e h C F.cx).use λu s1 t K=>Calls.spliced_nil ?_)
 have L:=F.keep t
 have y:=ag t _ _ g
 have z:aq W (bU Mu0 sc env ow) s1.heap xs H:=I.move (Fz.keep (ag t))
 refine n5 y (z.length▸hlen) λM O N hs=>⟨rfl,ow,?_,rfl,(Step.keep t).trans (Step.jg hr ⟨M,_,rfl,λb o nb e=>hs.extBut b o nb e⟩)⟩
 have:=L.tK (xs:=xs) hi (na.keeps (ag t)) hr y N hs (z.append (.cons K aq.nil))
 exact f.elim (λh=>h.2▸this.1 h.1) λh=>h.2▸this.2 h.1
theorem AM (S:∀n,bF W U l n){x:Str}{z apos d pos:Pos}{a:Expr}{q:ME}{ds:List D}{i:Nat}{xs:List D}(hi:c.aE.idxOf? x=some i)(f:(apos.endLine==d.line)=true)(h:(cm c k).e sc a=some q)(B:(ev U n).v Z q=some (.list ds))(hlen:xs.length+ds.length<2^20)(F:FS W c sc env l A Mu0 Ex s0 ow Z s)(j:Z i=some (.own (.list xs))):
  wpAny W.M A (exec (.Expr (.Call (.Attribute (.Name x z) "extend" apos) [a] [] d) pos) env) (dT W c sc env l A Mu0 Ex s0 ow s .next (Z.set i (.own (.list (xs++ds))))) E s:=by
 refine af (df F.cx hi j) λv na r=>dX (fJ (.inl r)) λb C m e hr g G=>?_
 have na:aJ env s.heap x (.ref b):=e▸na
 refine iN F.cx.ok.kind (nV (c:=c) (k:=k) (sc:=sc) (mes:=[q]) rfl f (Nat.le_of_ble_eq_true rfl) (all1 h) (gx F.cx hi na ⟨"list","list.extend",PySem.F.plainAttrs_list,PySem.F.slot_list_extend,PySem.F.type_list_extend,(aA g).typeIs,dG g,?_⟩))
 rw[mj h]
 refine Calls.spliced_cons (((S n).v h B F.cx).use λu s1 p I=>Calls.spliced_nil ?_)
 have J:=F.keep p
 have t:=ag p _ _ g
 have w:aq W (bU Mu0 sc env ow) s1.heap xs C:=G.move (Fz.keep (ag p))
 refine I.bp λb2 N O K y=>?_
 refine n6 t K (w.length▸y.length▸hlen) λL P M hs=>⟨rfl,ow,?_,rfl,(Step.keep p).trans (Step.jg hr ⟨L,_,rfl,λb o nb e=>hs.extBut b o nb e⟩)⟩
 exact(J.tK (xs:=xs) hi (na.keeps (ag p)) hr t M hs (w.append y)).1 j
theorem mw {v t:Expr}{line:Nat}(h:∀e g s p,swapsWith (.ListComp e g s p) (some t) line env=pure false):swapsWith v (some t) line env=pure false:=by
 cases v with
 |ListComp a b s p=>exact h a b s p
 |SetComp a b s p=>exact h a b s p
 |DictComp a b c s p=>exact h a c s p
 |_=>rfl
theorem n7 {v o i:Expr}{line:Nat}:swapsWith v (some (.Subscript o i p)) line env=pure false:=mw λ_ _ _ _=>rfl
theorem tL {v o:Expr}{line:Nat}:swapsWith v (some (.Attribute o a p)) line env=pure false:=mw λ_ _ _ _=>rfl
theorem xC {v:Expr}{k:Nat}{line:Nat}:swapsWith v (some (.Tuple ts k p)) line env=pure false:=mw λ_ _ _ _=>rfl
theorem xD (S:∀n,bF W U l n){x:Str}{G H:Pos}{v:Expr}{z:ME}{d:D}{i:Nat}{xs:List D}(hi:c.aE.idxOf? x=some i)(I:(cm c k).e sc v=some z)(J:(cm c k).e sc q=some y)(K:(ev U n).m Z z=some d)(L:(ev U n).m Z y=some (.int j))(h0:0<=j/\j<xs.length)(hlen:xs.length<2^40)(F:FS W c sc env l A Mu0 Ex s0 ow Z s)(a:Z i=some (.own (.list xs))):
  wpAny W.M A (exec (.Assign [.Subscript (.Name x G) q H] v pos) env) (dT W c sc env l A Mu0 Ex s0 ow s .next (Z.set i (.own (.list (xs.set j.toNat d))))) E s:=by
 refine af (df F.cx hi a) λu na r=>?_
 refine dX (fJ (.inl r)) λb M m e hr g N=>?_
 have na:aJ env s.heap x (.ref b):=e▸na
 refine wpAny_Assign_Subscript (((S n).e I K F.cx).use λu s1 h O=>gx (F.keep h).cx hi (na.keeps (ag h)) (((S n).e J L (F.keep h).cx).use λw s2 B P=>?_)) n7
 refine P.view.bG λt=>?_
 have f:=ai h B
 have C:=ag f _ _ g
 have p:aq W (bU Mu0 sc env ow) s2.heap xs M:=N.move (Fz.keep (ag f))
 refine rq C h0.1 (p.length▸h0.2) (p.length▸hlen) λQ V T hs=>⟨ow,?_,rfl,(Step.keep f).trans (Step.jg hr ⟨Q,_,rfl,λb o nb e=>hs.extBut b o nb e⟩)⟩
 exact((F.keep f).tK (xs:=xs) hi (na.keeps (ag f)) hr C T hs (p.set (O.move (Fz.keep (ag B))) _)).1 a
theorem kK {b:aD}{v:Value}(r:bj W b Mu h (.own (.dict ks ds)) v):∃a vs,v=.ref a/\b a/\(a==sysModules)=false/\h.DictOf (strKind W.prog W.w) a (ks.zip vs)/\ks.length=vs.length/\aq W Mu h ds vs:=
 jY r.1 λa vs e nm g d l=>⟨a,vs,e,r.2.1 a e,nm,g,d,l⟩
theorem rC {ks:List Str}(h:ks.length<2^10):(ks.zip vs).length<=sizeLine:=M4 (M4 (NR List.length_zip) (Nat.min_le_left _ _)) (M4 (ND h) (by decide))
theorem FS.AN {i:Nat}{x:Str}{ks d:List Str}{f:List D}{h:Heap}(F:FS W c sc env l A Mu0 Ex s0 ow Z s)(hi:c.aE.idxOf? x=some i)(na:aJ env s.heap x (.ref a))(hr:ow i a)(nm:(a==sysModules)=false)(g:s.heap.DictOf (strKind W.prog W.w) a (ks.zip vs))(y:h.DictOf (strKind W.prog W.w) a (d.zip j))(z:d.length=j.length)(hs:Heap.SameBut a s.heap h)(B:aq W (bU Mu0 sc env ow) s.heap f j)(p:Z i=some (.own (.dict ks ds))):
  FS W c sc env l A Mu0 Ex s0 ow (Z.set i (.own (.dict d f))) {s with heap:=h,toks:=tk}:=by
 have kb:KB (· =a) s {s with heap:=h,toks:=tk}:=⟨h,_,rfl,λb o nb e=>hs.extBut b o nb e⟩
 have C:a≠env.locals:=λe=>F.no a (.inl e) i hr
 have r:bU Mu0 sc env ow a:=.inr (.inr ⟨i,hr⟩)
 refine dX g λo I J G hx H t=>?_
 have u:¬bu env a:=dZ F.cx.live G (λv q=>Data.noConfusion (H.symm.trans q)) C
 have w:aq W (bU Mu0 sc env ow) h f j:=B.move λb o m e=>⟨m,kb.get b o (λq=>m (q▸r)) e⟩
 exact F.jg p (cz hi) na hr kb (bH y) rfl u ⟨.bY nm y z w,λb e=>Value.ref.inj e▸hr,.inr ⟨_,_,rfl⟩⟩
theorem xE (S:∀n,bF W U l n){x:Str}{H:Pos}{v:Expr}{z B:ME}{d:D}{i:Nat}{ks:List Str}(hi:c.aE.idxOf? x=some i)(J:(cm c k).e sc v=some B)(K:(cm c k).e sc q=some z)(L:(ev U n).m Z B=some d)(M:(ev U n).m Z z=some (.str y))(hlen:ks.length<2^10)(F:FS W c sc env l A Mu0 Ex s0 ow Z s)(a:Z i=some (.own (.dict ks ds))):
  wpAny W.M A (exec (.Assign [.Subscript (.Name x H) q I] v pos) env) (dT W c sc env l A Mu0 Ex s0 ow s .next (Z.set i (.own (.dict (putD ks ds y d).1 (putD ks ds y d).2)))) E s:=by
 refine af (df F.cx hi a) λu na r=>?_
 refine wJ (kK r) λb h e hr nm g m N=>?_
 have na:aJ env s.heap x (.ref b):=e▸na
 refine wpAny_Assign_Subscript (((S n).e J L F.cx).use λu s1 j O=>gx (F.keep j).cx hi (na.keeps (ag j)) (((S n).e K M (F.keep j).cx).use λw s2 C P=>?_)) n7
 refine P.view.fB λt=>?_
 have f:=ai j C
 have p:s2.heap.DictOf (strKind W.prog W.w) b (ks.zip h):=bl g λo e=>ag f _ _ e
 have Q:aq W (bU Mu0 sc env ow) s2.heap ds h:=N.move (Fz.keep (ag f))
 refine wpAny_setItem_pairs (strKind_is W.prog W.w y t) p (λT G hs=>⟨ow,?_,rfl,(Step.keep f).trans (Step.jg hr ⟨T,_,rfl,λb o nb e=>hs.extBut b o nb e⟩)⟩) (rC hlen)
 rw[jf m (gw p m)] at G
 have e:(putD ks ds y d).1=(putD ks h y u).1:=l9 _ _ _ _ _ _
 rw[e]
 exact(F.keep f).AN hi (na.keeps (ag f)) hr nm p G ((hY ks h y u).2.2 m) hs (kf Q (O.move (Fz.keep (ag C)))) a
theorem ED {b:Int}{t:Tok}:GV W.M A s (inplaceOp .Add (.int a t) (.int b u)) (λh v=>Rep W Mu h (.int (a+b)) v):=λQ E K=>by
 refine AutoIntOps.iadd_0 ?_
 exact(K _ _ (cX s) aN)
theorem xF (S:∀n,bF W U l n){x:Str}{Q T:Pos}{v:Expr}{L M:ME}{a b:Int}{i:Nat}{ks:List Str}{ds:List D}(hi:c.aE.idxOf? x=some i)(V:(cm c k).e sc v=some M)(h2:(cm c k).e sc p=some L)(e1:(ev U n).m Z M=some (.int b))(e2:(ev U n).m Z L=some (.str y))(hj:ks.idxOf? y=some j)(hd:ds[j]?=some (.int a))(hlen:ks.length<2^10)(C:∀a b st q,p≠ .Slice a b st q)(F:FS W c sc env l A Mu0 Ex s0 ow Z s)(f:Z i=some (.own (.dict ks ds))):
  wpAny W.M A (exec (.AugAssign (.Subscript (.Name x Q) p T) .Add v pos) env) (dT W c sc env l A Mu0 Ex s0 ow s .next (Z.set i (.own (.dict (putD ks ds y (.int (a+b))).1 (putD ks ds y (.int (a+b))).2)))) E s:=by
 refine af (df F.cx hi f) λu na r=>?_
 refine wJ (kK r) λq d e hr nm g G N=>?_
 have na:aJ env s.heap x (.ref q):=e▸na
 refine wpAny_AugAssign_SubscriptAny (gx F.cx hi na (((S n).e h2 e2 F.cx).use λw s1 B r1=>?_)) ?_
 .refine r1.view.fB λt=>?_
  have g1:s1.heap.DictOf (strKind W.prog W.w) q (ks.zip d):=bl g λo e=>ag B _ _ e
  have H:aq W (bU Mu0 sc env ow) s1.heap ds d:=N.move (Fz.keep (ag B))
  refine af (H.at hd) λv0 I J=>?_
  refine ak (lH J.view) λt0 e0=>?_
  refine wpAny_getItem_of (strKind_is W.prog W.w y t) g1.mapOf (fD hj (e0▸I)) ?_
  have h:=cX s1
  refine((S n).e V e1 (F.keep (ai B h)).cx).use λw s2 k2 r2=>?_
  refine r2.view.bG λu'=>?_
  refine(ED (Mu:=bU Mu0 sc env ow)).use λz O k3 r3=>?_
  have m:=ai B (ai h (ai k2 k3))
  have K:O.heap.DictOf (strKind W.prog W.w) q (ks.zip d):=bl g λo e=>ag m _ _ e
  have l3:aq W (bU Mu0 sc env ow) O.heap ds d:=N.move (Fz.keep (ag m))
  refine wpAny_setItem_pairs (strKind_is W.prog W.w y t) K (λh' P hs=>⟨ow,?_,rfl,(Step.keep m).trans (Step.jg hr ⟨h',_,rfl,λb o nb e=>hs.extBut b o nb e⟩)⟩) (rC hlen)
  rw[jf G (gw K G)] at P
  have e:(putD ks ds y (D.int (a+b))).1=(putD ks d y z).1:=l9 _ _ _ _ _ _
  rw[e]
  exact(F.keep m).AN hi (na.keeps (ag m)) hr nm K P ((hY ks d y z).2.2 G) hs (kf l3 r3) f
 .intro ov iv new
  cases p<;>first|rfl|exact absurd rfl (C _ _ _ _)
theorem EE {b:Int}{t:Tok}{d:D}(f:(op== .Add||op== .Sub||op== .BitXor||op== .LShift||op== .BitOr)=true)(e:D.bin op (.int a) (.int b)=some d):GV W.M A s (inplaceOp op (.int a t) (.int b u)) (λh v=>Rep W Mu h d v):=λQ E K=>by
 cases op with
 |Add=>exact AutoIntOps.iadd_0 (K _ _ (cX s) (MW e▸aN))
 |Sub=>exact AutoIntOps.isub_0 (K _ _ (cX s) (MW e▸aN))
 |LShift=>exact cT e λh e=>PyProof.Rows.ilshift_int_small h.1 (Int.le_trans h.2.1 (by decide)) h.2.2 (K _ _ (cX s) (MW e▸aN))
 |BitOr=>exact PyProof.Rows.ior_int (K _ _ (cX s) (MW e▸aN))
 |BitXor=>exact PyProof.Rows.ixor_int (K _ _ (cX s) (MW e▸aN))
 |_=>exact nb f
theorem Kw (S:∀n,bF W U l n){x:Str}{v:Expr}{b:Int}{d:D}{i:Nat}(hi:cv c sc x=some i)(h:(cm c k).e sc v=some y)(C:(ev U n).m Z y=some (.int b))(j:(op== .Add||op== .Sub||op== .BitXor||op== .LShift||op== .BitOr)=true)(e:D.bin op (.int a) (.int b)=some d)(F:FS W c sc env l A Mu0 Ex s0 ow Z s)(q:Z i=some (.val (.int a))):
  wpAny W.M A (exec (.AugAssign (.Name x p) op v pos) env) (dT W c sc env l A Mu0 Ex s0 ow s .next (Z.set i (.val d))) E s:=by
 refine au (bP hi) λhx hi=>?_
 refine af (df F.cx hi q) λu na r=>ak r λt G=>?_
 have na:aJ env s.heap x (.int a t):=G▸na
 refine wpAny_AugAssign_Name (nA F.cx.ok.kind na (o9 F.cx.tb (cz hi)).2 (((S n).e h C F.cx).use λw s1 H I=>?_))
 refine I.view.bG λL=>?_
 refine(EE (Mu:=bU Mu0 sc env ow) j e).use λz s2 J K=>?_
 have B:=ai H J
 have g:=F.keep B
 exact bL g.cx.ok g.cx.live hx λs' a=>⟨_,g.asg hi a (K.move λb o m e=>⟨m,a.kb.get b o (λf=>m (g.wr.mu b f)) e⟩),rfl,(Step.keep B).trans (Step.asg a λb h=>h.elim)⟩
theorem bQ {b a:Type}{f:b->Option a}{r:List a}(h:ah f []=some r):r=[]:=(MW h).symm
theorem xG {d:D}{v:Value}:∀{is:List Nat}{s:Shared}{Z:St}{ow:Nat->aD}{Q:Unit->Shared->Prop},ah (cv c sc) xs=some is->FS W c sc env l A Mu0 Ex s0 ow Z s->Rep W (bU Mu0 sc env ow) s.heap d v->
  (∀ow' s',FS W c sc env l A Mu0 Ex s0 ow' (is.foldl (λZ y=>Z.set y (.val d)) Z) s'->Step sc env ow s ow' s'->Q () s')-> ∀ts:List (Value->Sem Unit),(∀(j:Nat) (t:Value->Sem Unit),ts[j]?=some t-> ∃x p,xs[j]?=some x/\t=assign (.Name x p) env)->ts.length=xs.length->
  wpAny W.M A (assignAll v ts) Q E s:=by
 induction xs with
 |nil=>
  intro is s Z ow Q h F r g ts u w
  rw[Oe w]
  exact M6 (g ow s (bQ h▸F) Step.refl)
 |cons x xs N=>
  intro is s Z ow Q h F r g ts u w
  revert g
  refine bZ h λi O P B=>λg=>au (bP P) λhx hi=>?_
  cases ts with
  |nil=>exact nomatch w
  |cons t ts=>
   refine aW (u 0 t rfl) λV p C G=>?_
   have G:t=assign (.Name x p) env:=MW C▸G
   have one:∀{M:Unit->Shared->Prop},(∀s',FS W c sc env l A Mu0 Ex s0 (c9 ow i λ_=>False) (Z.set i (.val d)) s'->Rep W (bU Mu0 sc env (c9 ow i λ_=>False)) s'.heap d v->Step sc env ow s (c9 ow i λ_=>False) s'->M () s')->wpAny W.M A (t v) M E s:=λH=>
    G▸OX (bL F.cx.ok F.cx.live hx λs' a=>by
     have z:Rep W (bU Mu0 sc env ow) s'.heap d v:=r.move λb o m e=>⟨m,a.kb.get b o (λf=>m (F.wr.mu b f)) e⟩
     refine H s' (F.asg hi a z) ?_ (Step.asg a λb h=>h.elim)
     exact z.move λb o m e=>⟨λh=>m (h.imp id λh=>h.imp id λ⟨j,h⟩=>(aw h).elim (λq=>q.2.elim) λq=>⟨j,q.2⟩),e⟩)
   cases ts with
   |nil=>
    have ex:xs=[]:=Oe (OP w).symm
    rw[ex] at B
    rw[bQ B] at g
    exact one λs' I z st=>g _ s' I st
   |cons S ts=>
    exact MZ (OH (one λs' I z st=>N B I z (λow' J K L=>g ow' J K (st.trans L)) (S::ts) (λj t T=>u (j+1) t T) (OP w)))
theorem jh :∀{ns:List Str},ah nameOf ts=some ns->((assignEach ts env).map (·.2)).length=ns.length/\(assignEach ts env).length=ns.length/\(∀(j:Nat) (t:Value->Sem Unit),((assignEach ts env).map (·.2))[j]?=some t-> ∃x p,ns[j]?=some x/\t=assign (.Name x p) env)/\(assignEach ts env).findIdx? (·.1)=none:=by
 induction ts with
 |nil=>exact λh=>bQ h▸⟨rfl,rfl,λj t h=>_root_.av.ns h,rfl⟩
 |cons t ts a=>
  intro ns h
  refine bZ h λx b d e=>ak (bh d) λp f=>kS (a e) λg i m o=>f▸?_
  refine⟨MY Nat.succ g,MY Nat.succ i,λj t h=>?_,?_⟩
  .cases j with
   |zero=>exact⟨x,p,rfl,(MW h).symm⟩
   |succ j=>exact m j t h
  .show List.findIdx? (·.1) ((false,assign (.Name x p) env)::assignEach ts env)=none
   rw[List.findIdx?_cons,o];rfl
theorem EF (S:∀n,bF W U l n){v:Expr}{ns:List Str}{is:List Nat}{b:ME}{d:D}(hn:ah nameOf ts=some ns)(a:ah (cv c sc) ns=some is)(h:(cm c k).e sc v=some b)(i:(ev U n).m Z b=some d)(f:∀t,ts≠[t])(F:FS W c sc env l A Mu0 Ex s0 ow Z s):
  wpAny W.M A (exec (.Assign ts v pos) env) (dT W c sc env l A Mu0 Ex s0 ow s .next (is.foldl (λZ y=>Z.set y (.val d)) Z)) E s:=by
 refine wpAny_Assign_stores (((S n).e h i F.cx).use λu s1 g j=>?_) ?_ ?_
 .exact kS (jh (env:=env) hn) λm _ o _=>xG a (F.keep g) j (λow' s' q st=>⟨ow',q,rfl,(Step.keep g).trans st⟩) _ o m
 .cases ts with
  |nil=>rfl
  |cons t ts=>cases ts with
   |nil=>exact absurd rfl (f t)
   |cons r ts=>rfl
 .cases ts with
  |nil=>rfl
  |cons t ts=>cases ts with
   |nil=>exact absurd rfl (f t)
   |cons r ts=>exact aP (dP hn) λx _ _ h _=>ak (bh h) λp e=>e▸rfl
theorem LK {a:Type}{xs:List a}{y:a}{j J:Nat}{G:Prop}(hJ:xs.length<=J)(b:xs[j]?=some y)(e:j=J):G:=absurd (Ny.mp b).1 (Nat.not_lt.mpr (e▸hJ))
theorem FS.AO {J:Nat}{N:aD}(F:FS W c sc env l A Mu0 Ex s0 ow Z s)(k:Keeps s s')(hJ:c.aE.length<=J)(w:∀b,N b->s.heap.get? b=none)(G:∀b,N b-> ∃o,s'.heap.get? b=some o):
  FS W c sc env l A Mu0 Ex s0 (c9 ow J N) Z s'/\ ∀b,N b->s0.heap.get? b=none:=by
 have d:∀b,Mu0 b-> ∃o,s.heap.get? b=some o:=λb m=>F.cx.old b (.inl m)
 have v:∀b,iY sc env b-> ∃o,s.heap.get? b=some o:=λb m=>F.cx.old b (.inr (.inl m))
 have g:∀i b,ow i b-> ∃o,s.heap.get? b=some o:=λi b m=>F.cx.old b (.inr (.inr ⟨i,m⟩))
 have a:∀b,N b->s0.heap.get? b=none:=λb h=>by
  cases e:s0.heap.get? b with
  |none=>rfl
  |some o=>
   by_cases hx:Ex b
   .refine ak (d b (F.ia b hx)) λI H=>?_;exact az (w b h) H
   .exact az (w b h) (F.kb.get b o hx e)
 have C:∀b,(∃o,s.heap.get? b=some o)-> ∃o,s'.heap.get? b=some o:=λb ⟨o,e⟩=>⟨o,ag k b o e⟩
 refine⟨⟨⟨F.cx.ok,λb o e=>ag k b o (F.cx.base b o e),?_,?_,?_,?_,F.cx.good,F.cx.tb,F.cx.live.keeps (ag k)⟩,?_,F.kb.trans (KB.of k),F.fresh,?_,?_,?_,F.ia,F.fk,?_,?_⟩,a⟩
 .exact λb m=>m.elim (λm=>C b (d b m)) λm=>m.elim (λm=>C b (v b m)) λ⟨j,m⟩=>(aw m).elim (λm=>G b m.2) λm=>C b (g j b m.2)
 .exact λj b r=>.inr (.inr ⟨j,r⟩)
 .refine λb m=>m.elim (λm=>F.cx.above b (.inl m)) λm=>m.elim (λm=>F.cx.above b (.inr (.inl m))) λ⟨j,m⟩=>(aw m).elim (λm=>?_) λm=>F.cx.above b (.inr (.inr ⟨j,m.2⟩))
  cases e:W.h0.get? b with
  |none=>rfl
  |some o=>exact az (w b m.2) (F.cx.base b o e)
 .exact λj t e=>aP (F.cx.view j t e) λy u B n q=>⟨y,u,B,n.keeps (ag k),q.move (F.fz (KB.of k) w) (λb o m e=>ag k b o e) λb h=>ib (λe=>LK hJ B e) h⟩
 .exact λb f j h=>(aw h).elim (λh=>ak (v b f) λo e=>az (w b h.2) e) λh=>F.no b f j h.2
 .exact λj t e hs b hb=>(aw hb).elim (λh=>a b h.2) λh=>F.i4 j t e hs b h.2
 .exact λj b hb=>(aw hb).elim (λh=>.inl (a b h.2)) λh=>F.sQ j b h.2
 .exact λp q b hp D=>(aw hp).elim (λz=>(aw D).elim (λx=>z.1.trans x.1.symm) λx=>ak (g q b x.2) λo e=>az (w b z.2) e) λz=>(aw D).elim (λx=>ak (g p b z.2) λo e=>az (w b x.2) e) λx=>F.hZ p q b z.2 x.2
 .exact λj b hb m=>(aw hb).elim (λh=>ak (d b m) λo e=>az (w b h.2) e) λh=>F.apart j b h.2 m
 .exact λj t e hs b hb=>(aw hb).elim (λh=>aP (F.cx.view j t e) λy u B _ _=>LK hJ B h.1) λh=>F.ext j t e hs b h.2
structure Pd where
 x:Str
 i:Nat
 J:Nat
 sl:Slot
 v:Value
structure ic (W:Wd)(c:CT)(sc:Scope)(ow:Nat->aD)(Mu:aD)(s0 s:Shared)(p:Pd):Prop where
 hx:cv c sc p.x=some p.i
 hJ:c.aE.length<=p.J
 r:bj W (ow p.J) Mu s.heap p.sl p.v
 n0:∀b,ow p.J b->s0.heap.get? b=none
 fr:p.sl.free.isSome=true
noncomputable def fm (ow:Nat->aD)(i J:Nat):Nat->aD:=c9 (c9 ow J λ_=>False) i (ow J)
theorem cA {i J:Nat}{b:Addr}(h:fm ow i J j b):(j=i/\ow J b)\/(j≠i/\j≠J/\ow j b):=by
 exact(aw h).imp id λh=>(aw h.2).elim (λq=>q.2.elim) λq=>⟨h.1,q⟩
theorem xH {i J:Nat}{b:Addr}(h:ow J b):fm ow i J i b:=jG.mpr h
theorem n8 {i J:Nat}{b:Addr}(a:j≠i)(d:j≠J)(h:ow j b):fm ow i J j b:=ib a (ib d h)
theorem fo {i J:Nat}{b:Addr}(h:fm ow i J j b):∃a,ow a b:=(cA h).elim (λh=>⟨_,h.2⟩) λh=>⟨_,h.2.2⟩
theorem iO {i J:Nat}{b:Addr}(h:bU Mu0 sc env (fm ow i J) b):bU Mu0 sc env ow b:=h.imp id λh=>h.imp id λ⟨_,h⟩=>fo h
theorem FS.claim {p:Pd}(F:FS W c sc env l A Mu0 Ex s0 ow Z s)(P:ic W c sc ow (bU Mu0 sc env ow) s0 s p)(a:dQ sc env s p.x p.v s'):FS W c sc env l A Mu0 Ex s0 (fm ow p.i p.J) (Z.set p.i p.sl) s':=by
 refine au (bP P.hx) λhx hi=>?_
 have x:∀b,Mu0 b-> ∃o,s.heap.get? b=some o:=λb m=>F.cx.old b (.inl m)
 have z:∀i b,ow i b-> ∃o,s.heap.get? b=some o:=λi b m=>F.cx.old b (.inr (.inr ⟨i,m⟩))
 have fz:Fz (bU Mu0 sc env ow) s.heap (bU Mu0 sc env (fm ow p.i p.J)) s'.heap:=λb o m e=>⟨λh=>m (iO h),a.kb.get b o (λf=>m (.inr (.inl f))) e⟩
 refine⟨⟨F.cx.ok,?_,?_,λj b r=>.inr (.inr ⟨j,r⟩),λb m=>F.cx.above b (iO m),?_,F.cx.good,F.cx.tb,a.lv⟩,?_,KB.frame F a.kb,F.fresh,?_,?_,?_,F.ia,F.fk,?_,?_⟩
 .exact λb o e=>a.kb.get b o (λf=>az (F.cx.above b (.inr (.inl f))) e) (F.cx.base b o e)
 .intro b m
  by_cases f:iY sc env b
  .exact a.lv.lives f
  .exact ak (F.cx.old b (iO m)) λo e=>⟨o,a.kb.get b o f e⟩
 .exact λj d e=>fi e (λt e=>e▸t.symm▸⟨p.x,p.v,cz hi,a.na,P.r.move fz (λb o m e=>a.kb.get b o (λf=>F.no b f p.J m) e) λb h=>xH h⟩) λt e=>aP (F.cx.view j d e) λy u B n q=>
   ⟨y,u,B,a.ot y u (λC=>t (j9 hi (C▸B) (pg F.cx.tb))) n,q.move fz (λb o m e=>a.kb.get b o (λf=>F.no b f j m) e) λb h=>n8 t (λe=>LK P.hJ B e) h⟩
 .exact λb f j h=>ak (fo h) λw h=>F.no b f w h
 .exact λj d e hs b hb=>(cA hb).elim (λh=>P.n0 b h.2) λh=>fi e (λq _=>absurd q h.1) λ_ e=>F.i4 j d e hs b h.2.2
 .exact λj b hb=>ak (fo hb) λw h=>F.sQ w b h
 .exact λq r b hp D=>(cA hp).elim (λv=>(cA D).elim (λg=>v.1.trans g.1.symm) λg=>absurd (F.hZ _ _ b g.2.2 v.2) g.2.1) λv=>(cA D).elim (λg=>absurd (F.hZ _ _ b v.2.2 g.2) v.2.1) λg=>F.hZ _ _ b v.2.2 g.2.2
 .exact λj b hb m=>ak (fo hb) λw h=>F.apart w b h m
 .exact λj d e hs b hb=>fi e (λ_ e=>nb ((MY Option.isSome (e▸hs:p.sl.free=none)).symm.trans P.fr)) λt e=>(cA hb).elim (λh=>absurd h.1 t) λh=>F.ext j d e hs b h.2.2
theorem ic.claim {p q:Pd}(F:FS W c sc env l A Mu0 Ex s0 ow Z s)(P:ic W c sc ow (bU Mu0 sc env ow) s0 s p)(a:dQ sc env s p.x p.v s')(Q:ic W c sc ow (bU Mu0 sc env ow) s0 s q)(g:q.J≠p.J):ic W c sc (fm ow p.i p.J) (bU Mu0 sc env (fm ow p.i p.J)) s0 s' q:=by
 refine au (bP P.hx) λhx hi=>?_
 have d:q.J≠p.i:=λhh=>LK Q.hJ (cz hi) hh.symm
 have fz:Fz (bU Mu0 sc env ow) s.heap (bU Mu0 sc env (fm ow p.i p.J)) s'.heap:=λb o m e=>⟨λh=>m (iO h),a.kb.get b o (λf=>m (.inr (.inl f))) e⟩
 exact⟨Q.hx,Q.hJ,Q.r.move fz (λb o m e=>a.kb.get b o (λf=>F.no b f q.J m) e) λb h=>n8 d g h,λb hb=>(cA hb).elim (λh=>absurd h.1 d) λh=>Q.n0 b h.2.2,Q.fr⟩
theorem Step.claim {x:Str}{v:Value}{i J:Nat}(a:dQ sc env s x v s'):Step sc env ow s (fm ow i J) s':=
 ⟨a.kb.mono λb h=>.inl h,λb h=>.inl (h.imp id λ⟨_,h⟩=>fo h)⟩
theorem Step.AO {J:Nat}{N:aD}(k:Keeps s s')(a:∀b,N b->s.heap.get? b=none):Step sc env ow s (c9 ow J N) s':=
 ⟨KB.of k,λb h=>h.elim (λh=>.inl (.inl h)) λ⟨j,h⟩=>(aw h).elim (λh=>.inr (a b h.2)) λh=>.inl (.inr ⟨j,h.2⟩)⟩
theorem ic.keep {p:Pd}(P:ic W c sc ow Mu s0 s p)(k:Keeps s s'):ic W c sc ow Mu s0 s' p:=
 ⟨P.hx,P.hJ,P.r.move (Fz.keep (ag k)) (λb o _ e=>ag k b o e) λ_ h=>h,P.n0,P.fr⟩
theorem vz {ps:List Pd}:∀{s:Shared}{Z:St}{ow:Nat->aD}{Q:Unit->Shared->Prop}{ts:List (Value->Sem Unit)},FS W c sc env l A Mu0 Ex s0 ow Z s->(∀p∈ps,ic W c sc ow (bU Mu0 sc env ow) s0 s p)->(ps.map (·.J)).Nodup->
  (∀ow' s',FS W c sc env l A Mu0 Ex s0 ow' (ps.foldl (λZ p=>Z.set p.i p.sl) Z) s'->Step sc env ow s ow' s'->Q () s')->(∀(j:Nat) (t:Value->Sem Unit),ts[j]?=some t-> ∃p,ps[j]?=some p/\ ∀(v:Value) (s:Shared) (Q:Unit->Shared->Prop),wpAny W.M A (storeName env p.x v) Q E s->wpAny W.M A (t v) Q E s)->ts.length=ps.length->
  wpAny W.M A (assignInOrder ts (ps.map (·.v))) Q E s:=by
 induction ps with
 |nil=>
  intro s Z ow Q ts F hp nd f b d
  rw[Oe d]
  exact wpAny_assignInOrder_none (f ow s F Step.refl)
 |cons p ps m=>
  intro s Z ow Q ts F hp nd f b d
  cases ts with
  |nil=>exact nomatch d
  |cons t ts=>
   have ht:=af (b 0 t rfl) λu g ht=>MW g▸ht
   have P:=hp p (Nf ..)
   have nd:=NA.mp nd
   refine au (bP P.hx) λhx hi=>wpAny_assignInOrder_more (ht p.v s _ (bL F.cx.ok F.cx.live hx λs' a=>?_))
   exact m (F.claim P a) (λq i=>ic.claim F P a (hp q (Nj _ i)) λe=>nd.1 (show p.J∈_ from e▸List.mem_map_of_mem i)) nd.2 (λow' h o st=>f ow' h o ((Step.claim a).trans st)) (λj t r=>b (j+1) t r) (OP d)
inductive tM (h0:Heap)(Mu:aD)(D':Addr)(h:Heap):Value->Prop
 |mk {b:Addr}{m:Nat}(nb:¬Mu b)(g:h.get? b=some (aR [] m))(new:h0.get? b=none)(ne:b≠D'):tM h0 Mu D' h (.ref b)
structure vA (Mu0:aD)(h0:Heap)(Mu:aD)(D':Addr)(a:List D)(h:Heap)(vs:List Value)(n:Nat):Prop where
 fz:Fz Mu0 h0 Mu h
 at_:h.get? D'=some (aR vs n)
 el:∀v∈vs,tM h0 Mu D' h v
 nd:vs.Nodup
 is:a=List.replicate vs.length (.list [])
theorem tM.move {h0 d:Heap}{v:Value}(r:tM h0 Mu a h v)(F:∀b o, ¬Mu b->b≠a->h.get? b=some o-> ¬Mu' b/\d.get? b=some o):tM h0 Mu' a d v:=
 r.rec λnb g n ne=>.mk (F _ _ nb ne g).1 (F _ _ nb ne g).2 n ne
theorem tM.ex {h0:Heap}{v:Value}(r:tM h0 Mu a h v):∃b m,v=.ref b/\ ¬Mu b/\h.get? b=some (aR [] m)/\h0.get? b=none/\b≠a:=r.rec λnb g n ne=>⟨_,_,rfl,nb,g,n,ne⟩
theorem vA.move {h0 f:Heap}{d:Addr}{n:Nat}(r:vA Mu0 h0 Mu d a h vs n)(F:Fz Mu h Mu' f)(k:∀o,h.get? d=some o->f.get? d=some o):vA Mu0 h0 Mu' d a f vs n:=
 ⟨r.fz.trans F,k _ r.at_,λv g=>(r.el v g).move λb o n _ e=>F b o n e,r.nd,r.is⟩
noncomputable def Hu (W:Wd)(Mu0:aD)(h0:Heap):hK W (List D) where
 P:=λMu D' a h=>∃vs n,vA Mu0 h0 Mu D' a h vs n
 has:=λh=>eZ h λ_ _ r=>⟨_,r.at_,λ_ h=>Data.noConfusion h⟩
 move:=λh F k=>eZ h λvs n r=>⟨vs,n,r.move F k⟩
theorem Iw {d:D}(h:(ev U n).m Z (.list [])=some d):d=.list []:=by
 cases n with
 |zero=>exact ns h
 |succ n=>exact bf (jE (U:=U) (r:=ev U n) (Z:=Z) (es:=[]) h) λf _ a b=>b.symm.trans (MY D.list (MW a).symm)
theorem xI (P:bF W U l n){g:Expr}{f:Addr}{h0:Heap}(Q:(cm c k).e isc g=some (.list []))(i:LF isc cenv R Mu' f)(S:∀b,Mu b->Mu' b):
  hV W (Hu W Mu h0) qW c.aE isc cenv R Mu' A l f (do let _<-call (.builtin "list.append") [.ref f, <-eval g cenv]) (fG (ev U n) (.list []) []):=by
 intro Z' a a' s T C V F E
 refine af (ke T) λd M G=>?_;subst G
 .obtain rfl:=Iw M
  refine eZ V λj m H=>MZ ((P.f Q rfl M C).use λv s1 z I=>au I λI=>?_)
  refine I.bp λb us m0 nb J lb=>?_
  revert J
  refine lb.kT λJ f1=>?_
  have p:=f1 b rfl
  have r:=H.move (Fz.keep (ag z)) λo e=>ag z _ o e
  have F:a.length+1<2^20:=Ni (as:=a) (bs:=[D.list []])▸F
  have t:a.length=j.length:=r.is▸Ow
  refine MZ (wpAny_list_append_plain (items:=j.toArray) (hsz:=rA (t▸O2 F)) ⟨m,r.at_⟩ λK hp hs=>ak hp λB hp=>M6 ?_)
  have kb:KB (· =f) s1 {s1 with heap:=K}:=⟨K,_,rfl,λb o nb e=>hs.extBut b o nb e⟩
  have u:b≠f:=λe=>nb (e▸i.An)
  have L:K.get? f=some (aR (j++[.ref b]) B):=hp.trans (MY (λx=>some ({cls:=.type "list",data:=.seq x B}:Obj)) (List.push_toArray ..))
  refine⟨(C.keep z).kb kb (λb h=>h▸i.An) (λb h=>h▸i.Ki) (λb h=>h▸i.JM) (λb h=>⟨_,h▸hp⟩),(KB.of z).trans (kb.mono λb h=>.inr h),j++[.ref b],B,?_⟩
  refine⟨r.fz.trans λq o N e=>⟨N,kb.get q o (λh=>N (h▸i.An)) e⟩,L,λv w=>(NK.mp w).elim (λw=>(r.el v w).move λq o n ne e=>⟨n,kb.get q o ne e⟩) λw=>Nh.mp w▸ .mk nb (kb.get b _ u J) ?_ u,Oz.mpr ⟨r.nd,NA.mpr ⟨Nl,N6⟩,λx hx y hy=>?_⟩,(MY (· ++[D.list []]) r.is).trans (List.replicate_succ'.symm.trans (MY (λn=>List.replicate n _) (Ni (as:=j) (bs:=[Value.ref b])).symm))⟩
  .cases e:h0.get? b with
   |none=>rfl
   |some o=>
    by_cases O:Mu b
    .exact absurd (S b O) nb
    .exact az p (H.fz b o O e).2
  .rw[Nh.mp hy]
   exact λe=>aP (H.el x hx).ex λb' B e' _ q=>az p (Value.ref.inj (e'.symm.trans e)▸q.1)
theorem EG {h:Heap}{vs:List Value}(d:∀v∈vs, ∃b m,v=.ref b/\a b/\h.get? b=some (aR [] m)):a8 W a Mu h (List.replicate vs.length []) vs:=by
 induction vs with
 |nil=>exact a8.nil
 |cons v vs f=>exact aP (d _ (Nf ..)) λb m e hr g=>e▸ .cons hr g aq.nil (f λv h=>d v (Nj _ h))
theorem AP (k:Nat):dv 2 (.list (List.replicate k (.list [])))=some (.rows (List.replicate k [])):=by
 have:∀(f:D->Option (List D)),f (.list [])=some []->(List.replicate k (D.list [])).mapM f=some (List.replicate k []):=λf a=>by
  induction k with
  |zero=>rfl
  |succ m b=>rw[List.replicate_succ,List.mapM_cons,b,a];rfl
 exact MY (Option.map Slot.rows) (this _ rfl)
theorem AQ (w:gX W)(V:bF W U l n){f:Expr}{gens:List Comprehension}{x:Nat}{it:ME}{d:D}{Q:Value->Shared->Prop}(h:jq c (cm c k) sc f gens isc=some (.comp (.list []) p (.mk (.one x) it []) []))(he:cV U (ev U n) Z (.comp (.list []) p (.mk (.one x) it []) [])=some d)(C:Cx W c.aE sc env R Mu Z A l s)(hQ:∀v s' N rs,Keeps s s'->(∀b,N b->s.heap.get? b=none)->(∀b,N b-> ∃o,s'.heap.get? b=some o)->dv 2 d=some (.rows rs)->bj W N (λb=>Mu b\/N b) s'.heap (.rows rs) v->Q v s'):
  wpAny W.M A (eval (.ListComp f gens isc pos) env) Q E s:=by
 rw[eval_ListComp]
 refine kS (Il h) λt ec z q=>JT q λtarget iter ifs0 g=>?_
 subst ec
 have u:=pv t
 clear h t
 refine bf (kW C.ok u) λcl B G H=>?_
 have eg:=g.eq
 subst eg
 refine jb (l6 he) λxs out hi ho J L=>?_;subst L
 refine wpAny_comprehension_free rfl (fH g.it env) B u.kind (λx hx J=>by rw[u.look x hx,J]) ?_
 refine hX (K:=Hu W Mu s.heap) (ob:={cls:=.type "list",data:=.seq ([]:List Value).toArray}) V u ⟨G,H⟩ g.it g.t g.ifs (body:=λi cenv=>do let _<-call (.builtin "list.append") [.ref i, <-eval f cenv]) (rest:=[])
  rfl (λ_ _ _=>rfl) (λ_ _ _=>rfl) (λ_ _ _=>rfl) (λ_ _ _=>rfl) (λ_ _ _=>rfl) (λs Q h=>Ol h) rfl (λMu' h i F _ e=>⟨[],0,F,e,λv a=>absurd a Nl,N6,rfl⟩) nofun w
  (λI i cenv=>lZ ..) (λcenv i Mu' lf hM=>xI V z lf hM) hi (Ay ho) (l7 J) C (λi C' s5 m ks nD nC ne ns acc=>⟨m,ns,λh' hs=>?_⟩)
 refine eZ acc λM n' r=>?_
 refine aW ks λh5 t5 O k5=>?_
 subst O
 have kk:Keeps s {s with heap:=h',toks:=t5}:=⟨h',t5,rfl,λb o e=>hs.extBut b o (λh=>az nC (h▸e)) (k5 b o e)⟩
 have P:dv 2 (.list out)=_:=r.is▸AP M.length
 have el:=λv a=>(r.el v a).ex
 refine hQ _ _ (λb=>b=i\/Value.ref b∈M) _ kk (λb h=>h.elim (λh=>h▸nD) λhb=>jY (el _ hb) λq y j _ _ e4 _=>Value.ref.inj j▸e4) (λb h=>h.elim (λh=>h▸⟨_,hs.extBut _ _ ne r.at_⟩) λhb=>jY (el _ hb) λq y j S T _ _=>⟨_,hs.extBut _ _ (λe=>S (.inr (Value.ref.inj j▸e))) (Value.ref.inj j▸T)⟩) P
  ⟨i,M,n',rfl,.inl rfl,hs.extBut _ _ ne r.at_,EG λv a=>jY (el _ a) λq y e S T _ _=>⟨q,y,e,.inr (e▸a),hs.extBut _ _ (λe=>S (.inr e)) T⟩,r.nd,λa=>jY (el _ a) λq y j _ _ _ O=>O (Value.ref.inj j).symm⟩
end
section
variable {W:Wd}{U:UT}{n l:Nat}{A:Around}{E:Value->Shared->Prop}{s s0 s1 s2 s4 s':Shared}{env cenv:Env}{c:CT}{k:Nat}{sc isc:Scope}{R:Nat->aD}{Mu Mu' Mu0 Ex:aD}{Z Z':St}{X Y:aD}{aE:List Str}{ow ow':Nat->aD}
theorem AR {x:Str}{i J:Nat}{N:aD}{sl:Slot}{v:Value}(F:FS W c sc env l A Mu0 Ex s0 ow Z s)(k:Keeps s s1)(hJ:c.aE.length<=J)(d:∀b,N b->s.heap.get? b=none)(f:∀b,N b-> ∃o,s1.heap.get? b=some o)(hx:cv c sc x=some i)(r:bj W N (λb=>bU Mu0 sc env ow b\/N b) s1.heap sl v)(a:sl.free.isSome=true):
  FS W c sc env l A Mu0 Ex s0 (c9 ow J N) Z s1/\ic W c sc (c9 ow J N) (bU Mu0 sc env (c9 ow J N)) s0 s1 ⟨x,i,J,sl,v⟩/\
  (∀p,p.J<J->ic W c sc ow (bU Mu0 sc env ow) s0 s p->ic W c sc (c9 ow J N) (bU Mu0 sc env (c9 ow J N)) s0 s1 p)/\Step sc env ow s (c9 ow J N) s1:=by
 refine au (F.AO k hJ d f) λg n0=>?_
 exact⟨g,⟨hx,hJ,r.move (λb o m e=>⟨λh=>h.elim (λh=>m (.inl (.inl h))) λh=>h.elim (λh=>m (.inl (.inr (.inl h)))) λ⟨j,h⟩=>(aw h).elim (λh=>m (.inr h.2)) λh=>m (.inl (.inr (.inr ⟨j,h.2⟩))),e⟩) (λ_ _ _ e=>e) λb h=>jG.mpr h,λb h=>n0 b (jG.mp h),a⟩,
  λp hp P=>⟨P.hx,P.hJ,P.r.move (F.fz (KB.of k) d) (λb o _ e=>ag k b o e) λb h=>ib (NZ hp) h,λb h=>(aw h).elim (λh=>absurd h.1 (NZ hp)) λh=>P.n0 b h.2,P.fr⟩,Step.AO k d⟩
theorem AS {b:ME}(h:Hd b=true):∃a x it,b=.comp (.list []) a (.mk (.one x) it []) []:=by
 cases b<;>first|exact nb h|skip
 rename_i e a g d
 cases e<;>first|exact nb h|skip
 rename_i f
 cases f<;>first|exact nb h|skip
 obtain ⟨t,it,ifs⟩:=g
 cases t<;>first|exact nb h|skip
 cases ifs<;>first|exact nb h|skip
 cases d<;>first|exact nb h|exact⟨_,_,_,rfl⟩
theorem AU (S:∀n,bF W U l n)(w:gX W){v:Expr}{d:D}{sl:Slot}{Q:Value->Shared->Prop}(p1:(cm c k).e sc v=some j)(f:(ev U n).m Z j=some d)(F:FS W c sc env l A Mu0 Ex s0 ow Z s)(fin:∀(N:aD) (u:Value) (s1:Shared),Keeps s s1->(∀b,N b->s.heap.get? b=none)->(∀b,N b-> ∃o,s1.heap.get? b=some o)->bj W N (λb=>bU Mu0 sc env ow b\/N b) s1.heap sl u->Q u s1):
  ∀{kd:Nat},zk kd j=true->dv kd d=some sl->wpAny W.M A (eval v env) Q E s:=by
 intro kd q hs
 cases kd with
 |zero=>exact((S n).e p1 f F.cx).use λu s1 g i=>fin (λ_=>False) u s1 g (λ_ h=>h.elim) (λ_ h=>h.elim) (MW hs▸(show Rep W _ _ d u from i.move λb o m e=>⟨λh=>h.elim m id,e⟩))
 |succ kd=>cases kd with
  |zero=>exact((S n).f p1 q f F.cx).use λu s1 g i=>ni (rn hs i.1) λa e nm lv t=>fin (· =a) _ s1 g (λb h=>h▸i.2 a e) (λb h=>h▸lv) t
  |succ kd=>cases kd with
   |zero=>
    refine JT (AS q) λy x it z=>?_
    cases k with
    |zero=>exact ns p1
    |succ k=>
     cases n with
     |zero=>exact ns f
     |succ n=>
      have v:=jF (kJ p1)
      rw[z] at v f
      exact sS v λB gens isc p ev C=>ev▸AQ w (S n) C f F.cx λu s1 N I g G H e r=>fin N u s1 g G H (MW (e.symm.trans hs)▸r)
   |succ kd=>exact nb q
@[elab_as_elim] theorem ML {d b:Type}{o:Option d}{f:d->b}{r:b}{motive:b->Prop} (h:o.map f=some r) (k:∀a,o=some a->motive (f a)):motive r:=af (om h) λa e q=>q▸k a e
theorem AV (w:gX W)(S:∀n,bF W U l n):∀{es:List ME}{is:List (Nat×Nat)}{ds:List D}{xs:List Str}{pos:Pos}{J:Nat}{s:Shared}{ow:Nat->aD}{Z0 Z1:St}{Q:List Value->Shared->Prop},
  ah ((cm c k).e sc) vs=some es->ah (λn=>(cv c sc n).map λi=>(i,kind c n)) xs=some is->iI is es=true->es.mapM ((ev U n).m Z)=some ds->dA Z0 is ds=some Z1->FS W c sc env l A Mu0 Ex s0 ow Z s->c.aE.length<=J->
  (∀(ps:List Pd) ow' s',ps.map (·.x)=xs->ps.map (·.i)=is.map (·.1)->(∀p∈ps,J<=p.J)->(ps.map (·.J)).Nodup->(∀p∈ps,ic W c sc ow' (bU Mu0 sc env ow') s0 s' p)->ps.foldl (λZ p=>Z.set p.i p.sl) Z0=Z1->FS W c sc env l A Mu0 Ex s0 ow' Z s'->Step sc env ow s ow' s'->Keeps s s'->
   (∀p,p.J<J->ic W c sc ow (bU Mu0 sc env ow) s0 s p->ic W c sc ow' (bU Mu0 sc env ow') s0 s' p)->Q (ps.map (·.v)) s')->
  wpAny W.M A (spliced (backTo pos (starEach vs env))) Q E s:=by
 induction vs with
 |nil=>
  intro es is ds xs pos J s ow Z0 Z1 Q g o b f a F hJ j
  have g:=bQ g
  rw[g] at b f
  cases is with
  |cons i is=>exact nb b
  |nil=>
   rw[<-MW f] at a
   have a:Z0=Z1:=MW a
   cases xs with
   |cons x xs=>exact aW (dP o) λ_ _ e _=>nomatch e
   |nil=>exact Calls.spliced_nil (j [] ow s rfl rfl (λ_ h=>nomatch h) N6 (λ_ h=>nomatch h) a F Step.refl (aG s) λ_ _ h=>h)
 |cons v vs H=>
  intro es is ds xs pos J s ow Z0 Z1 Q g o b f a F hJ j
  revert b f a
  refine bZ g λme I B K=>λb f=>?_
  refine ve f λd L M O=>λa=>?_
  cases xs with
  |nil=>rw[bQ o] at b;exact nb b
  |cons x xs=>
   revert b a j
   refine bZ o λi0 is T V=>ML T λi hx b a j=>?_
   refine au (M9.mp b) λq t=>af (ob a) λsl hs a=>?_
   rw[aT (bq B)]
   refine Calls.spliced_cons (AU S w B M F (λN u s1 C hN lN r=>?_) q hs)
   refine kS (AR F C hJ hN lN hx r (n4 hs)) λF1 P1 y z=>?_
   refine H K V t O a F1 (Oy hJ) λps ow' s' g1 g2 G g4 g5 g6 g7 g8 g9 m=>?_
   exact j (⟨x,i,J,sl,u⟩::ps) ow' s' (MY (x:: ·) g1) (MY (i:: ·) g2) (OA.mpr ⟨NB _,λp hp=>Nat.le_of_succ_le (G p hp)⟩)
    (NA.mpr ⟨λh=>af (Nn.mp h) λp hp e=>absurd (G p hp) (show¬J+1<=p.J from e▸Nat.not_succ_le_self _),g4⟩) (OA.mpr ⟨m _ (N7 _) P1,g5⟩) g6 g7 (z.trans g8) (ai C g9) λp hp P=>m p (OF hp) (y p hp P)
theorem pG {f:Expr->Option Str}(b:∀e y,f e=some y->nameOf e=some y):∀{ns:List Str},ah nameOf ts=some ns->(ts.filterMap f).length=ts.length->ts.filterMap f=ns:=by
 induction ts with
 |nil=>exact λh _=>(bQ h).symm
 |cons t ts d=>
  intro ns h a
  refine bZ h λx g i j=>?_
  cases e:f t with
  |none=>rw[List.filterMap_cons_none e] at a;exact absurd (a▸List.length_filterMap_le f ts) (Nat.not_succ_le_self _)
  |some y=>
   rw[List.filterMap_cons_some e] at a |-
   rw[d j (OP a),MW ((b t y e).symm.trans i)]
theorem mz {d:Type}{c:Prop}[Decidable c]{a b x y:d}(e:c->a=x\/a=y)(f:¬c->b=x\/b=y):(if c then a else b)=x\/(if c then a else b)=y:=by
 by_cases h:c
 .rw[M7 h];exact e h
 .rw[M8 h];exact f h
theorem AW {b:Bool}(h:¬(a||b)=true):¬a=true:=λe=>h (Oi.mpr (.inl e))
theorem Iy {b:Nat}(h:¬(a !=b)=true):a=b:=Decidable.byContradiction λq=>h (bne_iff_ne.mpr q)
theorem tN {ns:List Str}(h:ah nameOf ts=some ns)(b:oY sc ts vs=true):swappedStores [.Tuple ts k1 p1] (.Tuple vs k2 p2) env=pure none\/swappedStores [.Tuple ts k1 p1] (.Tuple vs k2 p2) env=pure (some ns):=by
 refine mz (λ_=>.inl rfl) λ_=>mz (λ_=>.inl rfl) λ_=>mz (λ_=>.inl rfl) λd=>mz (λ_=>.inl rfl) λ_=>mz (λf=>?_) λ_=>.inr (MY (λx=>pure (some x)) (pG (λe y a=>?_) h (Iy (AW d))))
 .exact nb ((MY (!·) f).symm.trans (M9.mp (M9.mp b).1).1)
 .cases e with
  |Name=>exact cT a λ_ e=>e
  |_=>exact _root_.av.ns a
theorem set_comm {Z:St}{i:Nat}{b:Slot}(h:i≠j):(Z.set i a).set j b=(Z.set j b).set i a:=by
 funext k
 show(if k=j then some b else if k=i then some a else Z k)=(if k=i then some a else if k=j then some b else Z k)
 by_cases d:k=j
 .rw[M7 d,M8 λe=>h (e.symm.trans d),M7 d]
 .rw[M8 d,M8 d]
theorem AX {p:Pd}{ps:List Pd}:∀{Z:St},p.i∉ps.map (·.i)->ps.foldl (λZ p=>Z.set p.i p.sl) (Z.set p.i p.sl)=(ps.foldl (λZ p=>Z.set p.i p.sl) Z).set p.i p.sl:=by
 induction ps with
 |nil=>exact λ_=>rfl
 |cons q ps a=>exact λ{Z} h=>(MY (ps.foldl λZ p=>Z.set p.i p.sl) (set_comm (Z:=Z) λe=>h (Np.mpr (.inl e)))).trans (a λe=>h (Nj _ e))
theorem AY {ps:List Pd}:∀{Z:St},(ps.map (·.i)).Nodup->ps.reverse.foldl (λZ p=>Z.set p.i p.sl) Z=ps.foldl (λZ p=>Z.set p.i p.sl) Z:=by
 induction ps with
 |nil=>exact λ_=>rfl
 |cons p ps a=>
  intro Z h
  rw[List.reverse_cons,List.foldl_append,a (NA.mp h).2]
  exact(AX (NA.mp h).1).symm
theorem xJ {is:List (Nat×Nat)}:∀{es:List ME},iI is es=true->is.length=es.length:=by
 induction is with
 |nil=>intro es h;cases es with
  |nil=>rfl
  |cons e es=>exact nb h
 |cons i is a=>intro es h;cases es with
  |nil=>exact nb h
  |cons e es=>exact MY Nat.succ (a (M9.mp h).2)
theorem map_len {a b d:Type}{f:a->b}{g:d->b}{xs:List a}{ys:List d}(h:xs.map f=ys.map g):xs.length=ys.length:=(MX ..).symm.trans ((MY List.length h).trans (MX ..))
theorem rD {a b:Type}{f:a->b}{xs:List a}{ys:List b}(h:xs.map f=ys):xs.length=ys.length:=(MX ..).symm.trans (MY List.length h)
theorem AZ {a b:Type}{f:a->b}{xs:List a}{j:Nat}{y:b}(h:(xs.map f)[j]?=some y):∃x,xs[j]?=some x/\f x=y:=om (Nz.symm.trans h)
theorem EH (w:gX W)(S:∀n,bF W U l n){ns:List Str}{is:List (Nat×Nat)}(hn:ah nameOf ts=some ns)(hi:ah (λn=>(cv c sc n).map λi=>(i,kind c n)) ns=some is)(h:ah ((cm c k).e sc) vs=some es)(P:iI is es=true)(V:oY sc ts vs=true)(nd:(is.map (·.1)).Nodup)(hl:es.length<64)(he:es.mapM ((ev U n).m Z)=some ds)(hs:dA Z is ds=some Z1)(F:FS W c sc env l A Mu0 Ex s0 ow Z s):
  wpAny W.M A (exec (.Assign [.Tuple ts k1 p1] (.Tuple vs k2 p2) pos) env) (dT W c sc env l A Mu0 Ex s0 ow s .next Z1) E s:=by
 have q:∀{Q:Value->Shared->Prop},(∀(a:List Pd) (ow':Nat->aD) (T:Addr) (s':Shared),a.map (·.x)=ns->a.map (·.i)=is.map (·.1)->(a.map (·.J)).Nodup->(∀p∈a,ic W c sc ow' (bU Mu0 sc env ow') s0 s' p)->a.foldl (λZ p=>Z.set p.i p.sl) Z=Z1->FS W c sc env l A Mu0 Ex s0 ow' Z s'->Step sc env ow s ow' s'->
   s'.heap.IsTuple T (a.map (·.v)).toArray->Q (.ref T) s')->wpAny W.M A (eval (.Tuple vs k2 p2) env) Q E s:=λhQ=>by
  refine wpAny_Tuple (AV w S h hi P he hs F (NB _) λa ow' s' g r _ u z B C G g9 _=>⟨?_,?_⟩)
  .exact zS hl ((MX ..).trans ((map_len r).trans (xJ P)))
  .have kp:=ff s' (iX (a.map (·.v)) 0)
   exact hQ a ow' _ _ g r u (λp hp=>(z p hp).keep kp) B (C.keep kp) (G.trans (Step.keep kp)) (bJ (Heap.get?_push_size _ rfl))
 refine(tN (env:=env) (k1:=k1) (k2:=k2) (p1:=p1) (p2:=p2) hn V).elim (λJ=>?_) λJ=>?_
 .refine PyProof.Rows.Assign_Tuple (q λa ow' T s' g r u z B C G K=>kS (jh (env:=env) hn) λq1 q2 q3 q4=>?_) (by rfl) J
  have hlen:=rD g
  refine wpAny_assign_Tuple F.cx.good.hh K (q2.trans (hlen.symm.trans (MX ..).symm)) q4 λH hs=>?_
  have k1:Keeps s' {s' with heap:=H}:=⟨H,_,rfl,λb o e=>hs b o (NZ (Heap.lt_size e)) e⟩
  exact vz (ps:=a) (C.keep k1) (λp hp=>(z p hp).keep k1) u (λd L M st=>⟨d,B▸M,rfl,G.trans ((Step.keep k1).trans st)⟩) (λj t I=>aW (q3 j t I) λx p hx N=>af (AZ (f:=λp:Pd=>p.x) (xs:=a) (y:=x) (g▸hx)) λO m ex=>⟨O,m,λv s Q h=>N▸OX (ex▸h)⟩) (q1.trans hlen.symm)
 .refine PyProof.Rows.Assign_Tuple_swapped (q λa ow' T s' g r u z B C G K=>?_) (by rfl) J
  have hlen:=rD g
  rw[show ns.length=(a.map (·.v)).toArray.size from hlen.symm.trans (MX ..).symm]
  refine wpAny_unpackItems_tuple F.cx.good.hh K λH hs=>?_
  have k1:Keeps s' {s' with heap:=H}:=⟨H,_,rfl,λb o e=>hs b o (NZ (Heap.lt_size e)) e⟩
  rw[show(a.map (·.v)).toArray.toList.reverse=a.reverse.map (·.v) from List.map_reverse.symm]
  refine vz (C.keep k1) (λp hp=>(z p (List.mem_reverse.mp hp)).keep k1) (List.map_reverse▸(List.reverse_perm _).nodup_iff.mpr u) (λd L M st=>⟨d,B▸AY (r▸nd)▸M,rfl,G.trans ((Step.keep k1).trans st)⟩) (λj t I=>?_) ((MX ..).trans (List.length_reverse.trans (hlen.symm.trans List.length_reverse.symm)))
  rw[<-g, <-List.map_reverse,NO] at I
  exact af (AZ I) λO m N=>⟨O,m,λv s Q h=>N▸PyProof.Rows.bindName_ h⟩
theorem vB :∀{is:List Nat}{ds:List D}{vs:List Value}{s:Shared}{Z Z1:St}{ow:Nat->aD}{Q:Unit->Shared->Prop}{ts:List (Value->Sem Unit)},ah (cv c sc) xs=some is->dA Z (is.map λx=>(x,0)) ds=some Z1->FS W c sc env l A Mu0 Ex s0 ow Z s->aq W (bU Mu0 sc env ow) s.heap ds vs->
  (∀ow' s',FS W c sc env l A Mu0 Ex s0 ow' Z1 s'->Step sc env ow s ow' s'->Q () s')->(∀(j:Nat) (t:Value->Sem Unit),ts[j]?=some t-> ∃x p,xs[j]?=some x/\t=assign (.Name x p) env)->ts.length=xs.length->
  wpAny W.M A (assignInOrder ts vs) Q E s:=by
 induction xs with
 |nil=>
  intro is ds vs s Z Z1 ow Q ts h g F r y u w
  rw[bQ h] at g
  rw[Oe w]
  revert r
  cases ds with
  |cons d ds=>exact ns g
  |nil=>exact λr=>r.kT (wpAny_assignInOrder_none (y ow s (MW g▸F) Step.refl))
 |cons x xs J=>
  intro is ds vs s Z Z1 ow Q ts h g F r y u w
  revert g
  refine bZ h λi z K L=>λg=>au (bP K) λhx hi=>?_
  cases ts with
  |nil=>exact nomatch w
  |cons t ts=>
   cases ds with
   |nil=>exact ns g
   |cons d ds=>
    have g:dA (Z.set i (.val d)) (z.map λx=>(x,0)) ds=some Z1:=g
    refine r.eB λv M N O=>aW (u 0 t rfl) λT p B P=>?_
    refine wpAny_assignInOrder_more (P▸MW B▸OX (bL F.cx.ok F.cx.live hx λs' a=>?_))
    have fz:Fz (bU Mu0 sc env ow) s.heap (bU Mu0 sc env ow) s'.heap:=λb o m e=>⟨m,a.kb.get b o (λf=>m (F.wr.mu b f)) e⟩
    have C:Fz (bU Mu0 sc env ow) s'.heap (bU Mu0 sc env (c9 ow i λ_=>False)) s'.heap:=λb o m e=>⟨λh=>m (h.imp id λh=>h.imp id λ⟨j,h⟩=>(aw h).elim (λq=>q.2.elim) λq=>⟨j,q.2⟩),e⟩
    exact J L g (F.asg hi a (N.move fz)) (O.move (fz.trans C)) (λow' G H I=>y ow' G H ((Step.asg a λb h=>h.elim).trans I)) (λj t S=>u (j+1) t S) (OP w)
theorem tO {is:List (Nat×Nat)}:∀{ds:List D}{Z Z1:St},dA Z is ds=some Z1->ds.length=is.length:=by
 induction is with
 |nil=>intro ds Z Z1 h;cases ds with
  |nil=>rfl
  |cons d ds=>exact ns h
 |cons i is a=>intro ds Z Z1 h;cases ds with
  |nil=>exact ns h
  |cons d ds=>exact af (ob (o:=dv i.2 d) h) λsl _ h=>MY Nat.succ (a (ds:=ds) h)
theorem kL {a b:Type}{f:a->Option b}{xs:List a}:∀{ys:List b},ah f xs=some ys->ys.length=xs.length:=by
 induction xs with
 |nil=>exact λh=>MY List.length (bQ h)
 |cons x xs d=>exact λh=>bZ h λy ys _ h=>MY Nat.succ (d h)
theorem A0 (S:∀n,bF W U l n){v:Expr}{ns:List Str}{is:List Nat}{d:ME}(j:∀vs k p,v≠ .Tuple vs k p)(hn:ah nameOf ts=some ns)(hi:ah (cv c sc) ns=some is)(h:(cm c k).e sc v=some d)(f:(ev U n).m Z d=some (.tup ds))(hs:dA Z (is.map λx=>(x,0)) ds=some Z1)(F:FS W c sc env l A Mu0 Ex s0 ow Z s):
  wpAny W.M A (exec (.Assign [.Tuple ts k1 p1] v pos) env) (dT W c sc env l A Mu0 Ex s0 ow s .next Z1) E s:=by
 have q:swappedStores [.Tuple ts k1 p1] v env=pure none:=by
  clear f h F
  cases v with
  |Tuple=>exact absurd rfl (j _ _ _)
  |_=>rfl
 refine PyProof.Rows.Assign_Tuple (((S n).e h f F.cx).use λu s1 k1 r=>r.tupK λT vs m nm g l=>?_) (show swapsWith v (some (.Tuple ts k1 p1)) pos.line env=pure false from xC) q
 refine kS (jh (env:=env) hn) λt w y z=>?_
 refine wpAny_assign_Tuple F.cx.good.hh (bJ g) (w.trans ((kL hi).symm.trans ((MX ..).symm.trans ((tO hs).symm.trans l.length)))) z λi hx=>?_
 have a:Keeps s1 {s1 with heap:=i}:=⟨i,_,rfl,λb o e=>hx b o (NZ (Heap.lt_size e)) e⟩
 exact vB (vs:=vs) hi hs (F.keep (ai k1 a)) (l.move (Fz.keep (ag a))) (λow' s' B st=>⟨ow',B,rfl,(Step.keep (ai k1 a)).trans st⟩) y t
theorem xK {h f:Heap}{i:aD}{b:Addr}(j:∀q o,q≠b->i q->h.get? q=some o->f.get? q=some o)(F:Fz Mu h Mu f){d:List (List D)}(r:a8 W i Mu h d vs):Value.ref b∉vs->a8 W i Mu f d vs:=
 r.ind (motive:=λd vs=>Value.ref b∉vs->a8 W i Mu f d vs) (λ_=>.nil) λr d a p n vs hr g l _ m hn=>.cons hr (j a _ (λe=>hn (e▸Nf ..)) hr g) (l.move F) (m λh=>hn (Nj _ h))
theorem mA {h d:Heap}{i:aD}{b:Addr}{n:Nat}{new:List D}(t:∀q o,q≠b->i q->h.get? q=some o->d.get? q=some o)(F:Fz Mu h Mu d)(u:d.get? b=some (aR p n))(v:aq W Mu d new p){f:List (List D)}(r:a8 W i Mu h f vs):∀j,vs[j]?=some (.ref b)->vs.Nodup->a8 W i Mu d (f.set j new) vs:=
 r.ind (motive:=λf vs=>∀j,vs[j]?=some (.ref b)->vs.Nodup->a8 W i Mu d (f.set j new) vs) (λ_ h=>ns h) λr f a w n0 vs hr g l q x j=>by
  cases j with
  |zero=>
   intro m nd
   have e:b=a:=(Value.ref.inj (MW m)).symm
   exact .cons hr (e▸u) v (xK t F q (e▸(NA.mp nd).1))
  |succ j=>exact λm nd=>.cons hr (t a _ (λe=>(NA.mp nd).1 (e▸Nw m)) hr g) (l.move F) (x j m (NA.mp nd).2)
theorem rE (S:∀n,bF W U l n){x:Str}{np sp apos w pos:Pos}{N a:Expr}{mi O:ME}{ds row:List D}{j:Int}{i:Nat}{B:List (List D)}(hi:c.aE.idxOf? x=some i)(y:(apos.endLine==w.line)=true)(h2:(cm c k).e sc N=some mi)(e2:(ev U n).m Z mi=some (.int j))(h0:0<=j/\j<lim)(hr:B[j.toNat]?=some row)(P:∀a b st q,N≠ .Slice a b st q)(h:(cm c k).e sc a=some O)(he:(ev U n).v Z O=some (.list ds))(hlen:row.length+ds.length<2^20)(F:FS W c sc env l A Mu0 Ex s0 ow Z s)(C:Z i=some (.rows B)):
  wpAny W.M A (exec (.Expr (.Call (.Attribute (.Subscript (.Name x np) N sp) "extend" apos) [a] [] w) pos) env) (dT W c sc env l A Mu0 Ex s0 ow s .next (Z.set i (.rows (B.set j.toNat (row++ds))))) E s:=by
 refine af (df F.cx hi C) λv na r=>?_
 refine lC r λq Q m e T hq z nd nq=>?_
 have na:aJ env s.heap x (.ref q):=e▸na
 refine iN F.cx.ok.kind (nV (c:=c) (k:=k) (sc:=sc) (mes:=[O]) rfl y (Nat.le_of_ble_eq_true rfl) (all1 h) (Subscript_ (gx F.cx hi na (((S n).e h2 e2 F.cx).use λu s1 G r1=>?_))))
 refine r1.view.bG λt=>?_
 have d:a8 W (ow i) (bU Mu0 sc env ow) s1.heap B Q:=z.move (Fz.keep (ag G)) (λb o _ e=>ag G b o e) λ_ x=>x
 have H:=ag G _ _ hq
 refine dX (iM d hr) λb us m' V f hb rl=>?_
 refine tail_any (aA H).typeIs slot_list_getitem.lookup ?_ (j3 λa b p=>P a b none p)
 refine wpAny_getItem_list (aA H) h0.1 (j4 h0.2) (fQ V) ⟨"list","list.extend",PySem.F.plainAttrs_list,PySem.F.slot_list_extend,PySem.F.type_list_extend,(aA hb).typeIs,dG hb,?_⟩
 rw[mj h]
 refine Calls.spliced_cons (((S n).v h he (F.keep G).cx).use λu s2 I r2=>Calls.spliced_nil ?_)
 have L:=ai G I
 have F2:=F.keep L
 refine r2.bp λb2 us2 m2 g2 l2=>?_
 have J:=ag I _ _ hb
 have K:aq W (bU Mu0 sc env ow) s2.heap row us:=rl.move (Fz.keep (ag I))
 have g:a8 W (ow i) (bU Mu0 sc env ow) s2.heap B Q:=d.move (Fz.keep (ag I)) (λb o _ e=>ag I b o e) λ_ x=>x
 refine n6 J g2 (K.length▸l2.length▸hlen) λM n' g' hs=>⟨rfl,ow,?_,rfl,(Step.keep L).trans (Step.jg f ⟨M,_,rfl,λb o nb e=>hs.extBut b o nb e⟩)⟩
 have kb:KB (· =b) s2 {s2 with heap:=M}:=⟨M,_,rfl,λb o nb e=>hs.extBut b o nb e⟩
 have hmu:bU Mu0 sc env ow b:=.inr (.inr ⟨i,f⟩)
 have fz:Fz (bU Mu0 sc env ow) s2.heap (bU Mu0 sc env ow) M:=λq o m e=>⟨m,kb.get q o (λh=>m (h▸hmu)) e⟩
 have hcf:¬bu env b:=dZ F2.cx.live J (λv h=>Data.noConfusion h) λe=>F.no b (.inl e) i f
 have hqb:q≠b:=λe=>nq (e▸Nw V)
 refine F2.jg C (cz hi) (na.keeps (ag L)) f kb ⟨_,g'⟩ rfl hcf ⟨q,Q,m,rfl,T,kb.get q _ hqb (ag L _ _ hq),?_,nd,nq⟩
 exact mA (λq o hne _ e=>kb.get q o hne e) fz g' ((K.append l2).move fz) g _ V nd
structure Iz (W:Wd):Prop where
 w:gX W
 sets:findIn W.K (.ref W.cls) "__setattr__"=some (some (.builtin "object.__setattr__"))/\plainOver W.K W.cls=true
 Hv:∀x∈bE,takerIn W.K W.cls x=some none
 make:makesIn W.K W.cls=true
 init:∃fI,findIn W.K (.ref W.cls) "__init__"=some (some (.ref fI))/\typeIn W.K (.ref fI)=some (.type "function")/\W.fn 14=some (.ref fI)
 Kx:W.fn 7=some (.ref W.cls)
theorem tP {prog:Program}{w:World}{es:List DictEntry}{d:List (Str×Value)}{e:DictEntry}{f:Str×Value}(h:Pairs (strKind prog w) es d)(g:(strKind prog w).is f.1 e.key=true)(i:e.val=f.2):Pairs (strKind prog w) (es++[e]) (d++[f]):=by
 induction h with
 |nil=>exact .cons g i .nil
 |cons a b _ j=>exact .cons a b j
theorem xM {prog:Program}{w:World}{es:List DictEntry}{d:List (Str×Value)}(h:Pairs (strKind prog w) es d):∀e∈es, ∃f∈d,(strKind prog w).is f.1 e.key=true:=by
 induction h with
 |nil=>exact λe g=>absurd g Nl
 |cons a b _ i=>exact OA.mpr ⟨⟨_,Nf ..,a⟩,λe g=>af (i e g) λf j m=>⟨f,Nj _ j,m⟩⟩
theorem tQ (u:Iz W){x r:Addr}{d:List (Str×Value)}{v:Value}{Q:Unit->Shared->Prop}(hb:∀b o,W.h0.get? b=some o->s.heap.get? b=some o)(hx:s.heap.get? x=some (instObj W.cls r))(O:s.heap.DictOf (strKind W.prog W.w) r d)(P:a∈bE)(f:a∉d.map (·.1))(S:d.length<100)(T:∀C tk,C.DictOf (strKind W.prog W.w) r (d++[(a,v)])->Heap.SameBut r s.heap C->Q () {s with heap:=C,toks:=tk}):wpAny W.M A (setAttr (.ref x) a v) Q E s:=by
 refine lC O λo j L B hex m V hp hn=>?_
 have I:_root_.PySem.W.InstAt s.heap x (instObj W.cls r) W.cls (some o):=⟨hx,rfl,rfl,B⟩
 have X:=u.w.JK.keeps hb
 have g:∀e∈j.toList,e.key.isStr a=false/\e.refKey=false:=λe p=>af (xM hp e p) λkv D hi=>ak (Value.isStrOf_shape hi) λt ht=>
  ⟨(MY (λv=>Value.isStr v a) ht).trans (OT.mpr λe=>f (Nn.mpr ⟨kv,D,e⟩)),(MY (λk:Value=>DictEntry.refKey {e with key:=k}) ht).trans rfl⟩
 have w:j.any (·.refKey)=false:=Array.any_eq_false'.mpr λe p h=>nb ((g e (Array.mem_toList_iff.mpr p)).2.symm.trans h)
 have F:j.findIdx? (·.key.isStr a)=none:=Array.findIdx?_eq_none_iff.mpr λe p=>(g e (Array.mem_toList_iff.mpr p)).1
 refine set_plain X I u.sets.1 (osa_open X I u.sets.2 (u.Hv a P) λb=>?_)
 refine af (any_some u.w.dict) λcd hc G=>?_
 refine MZ (M6 (MZ (MZ (wpAny_loadPart hx (MZ (Looks.here (s:={s with toks:=s.toks+1}) (looks_clsIn X hc) ?_))))))
 rw[G]
 refine M6 (a:=some r) (MZ (M6 (MZ ?_)))
 unfold nsSet
 refine MZ (MZ (wpAny_askSetting (M6 (MZ (wpAny_mkText (MZ (wpAny_loadPart B ?_)))))))
 rw[m]
 dsimp only
 rw[aRefKeyMayBeTheName_at,w,Bool.and_false]
 refine wpAny_updatePart B ?_
 obtain ⟨M,N,dat,z⟩:=o
 dsimp only at m
 subst m
 have i:∀H tk,Obj.putName a H (.str a tk) v ⟨M,N,.dict j L,z⟩=⟨M,N,.dict (j.push ⟨H,.str a tk,v⟩) (L+1),z⟩:=λH tk=>by
  simp only[Obj.putName_eq,Obj.putNameByArray,F]
 have J:=Heap.get?_update_self (Obj.putName a (if a.cps.isEmpty=true then 0 else reduceHash (W.w.params.strHash a.cps)) (Value.str a (s.toks+1)) v) B (by rw[i];rfl)
 rw[i] at J
 have K:j.toList.length=d.length:=hp.length
 refine MZ (wpAny_lookBehind J (pastItsLine_dict (M4 (NR (Array.size_push ..)) (M4 (show j.toList.length+1<=100 from K▸S) (by decide)))) ?_)
 refine M6 (T _ _ ⟨_,_,_,J,hex,rfl,?_,?_,?_⟩ (Heap.SameBut.update ..))
 .exact λe p=>(Array.mem_push.mp p).elim (V e) λq=>q▸⟨a,strKind_is W.prog W.w a _,rfl⟩
 .rw[Array.toList_push]
  exact tP hp (strKind_is W.prog W.w a _) rfl
 .rw[Nu]
  exact Oz.mpr ⟨hn,NA.mpr ⟨Nl,N6⟩,λx hx y hy e=>f ((e.trans (Nh.mp hy):x=a)▸hx)⟩
theorem xN {ks:List Str}:∀{vs:List Value},ks.Nodup->((ks.zip vs).map (·.1)).Nodup:=by
 induction ks with
 |nil=>exact λ_=>N6
 |cons k ks a=>
  intro vs h
  cases vs with
  |nil=>exact N6
  |cons v vs=>exact NA.mpr ⟨λb=>(NA.mp h).1 (af (Nn.mp b) λp hp e=>(show p.1=k from e)▸(List.of_mem_zip hp).1),a (NA.mp h).2⟩
theorem A3 {ks:List Str}:∀{vs:List Value},ks[vs.length]?=some a->ks.zip vs++[(a,u)]=ks.zip (vs++[u]):=by
 induction ks with
 |nil=>exact λh=>ns h
 |cons k ks b=>
  intro vs h
  cases vs with
  |nil=>exact MW h▸MY ((k,u):: ·) List.zip_nil_right.symm
  |cons v vs=>exact MY ((k,v):: ·) (b h)
theorem xO (w2:Iz W)(S:∀n,bF W U l n){x:Str}{v:Expr}{T:ME}{d:D}{i:Nat}{fs:List D}(hi:c.aE.idxOf? x=some i)(hj:dF.idxOf? a=some j)(h:(cm c k).e sc v=some T)(he:(ev U n).m Z T=some d)(C:j=fs.length)(G:j<5)(F:FS W c sc env l A Mu0 Ex s0 ow Z s)(y:Z i=some (.obj fs)):
  wpAny W.M A (exec (.Assign [.Attribute (.Name x np) a ap] v pos) env) (dT W c sc env l A Mu0 Ex s0 ow s .next (Z.set i (.obj (fs++[d])))) E s:=by
 refine af (df F.cx hi y) λu na r=>?_
 refine sR r λb w p e H g hR q hl V=>au hR λf I=>?_
 have na:aJ env s.heap x (.ref b):=e▸na
 refine eU (qM hj) λa1 a2 a3=>?_
 refine plainObj_wpAny_Assign_Attribute (((S n).e h he F.cx).use λu s1 t r1=>gx (F.keep t).cx hi (na.keeps (ag t)) ?_) tL
 have J:=F.keep t
 have K:=ag t _ _ g
 have q1:s1.heap.DictOf (strKind W.prog W.w) w (bE.zip p):=bl q λo e=>ag t _ _ e
 have L:aq W (bU Mu0 sc env ow) s1.heap fs p:=V.move (Fz.keep (ag t))
 have z:p.length=j:=V.length.symm.trans C.symm
 have hz:bE.zip p++[(a,u)]=bE.zip (p++[u]):=A3 (z▸a3)
 have B:a∉(bE.zip p).map (·.1):=λhm=>by
  have nd:(bE.zip (p++[u])).map (·.1) |>.Nodup:=xN (by decide)
  rw[<-hz,Nu] at nd
  exact(Oz.mp nd).2.2 a hm a (Nf ..) rfl
 refine tQ w2 J.cx.base K q1 a1 B (M5 (M4 (NR List.length_zip) (Nat.min_le_left _ _)) (by decide)) λh' tk M hs=>?_
 rw[hz] at M
 have kb:KB (· =w) s1 {s1 with heap:=h',toks:=tk}:=⟨h',_,rfl,λb o nb e=>hs.extBut b o nb e⟩
 have N:bU Mu0 sc env ow w:=.inr (.inr ⟨i,f⟩)
 refine dX q1 λo es ep ho hx hd O=>?_
 have P:¬bu env w:=dZ J.cx.live ho (λv q=>Data.noConfusion (hd.symm.trans q)) λe=>F.no w (.inl e) i f
 have Q:b≠w:=λe=>Data.noConfusion ((MY Obj.data (MW (((MY s1.heap.get? e).symm.trans K).symm.trans ho))).trans hd)
 refine⟨ow,?_,rfl,(Step.keep t).trans (Step.jg f kb)⟩
 refine J.jg y (cz hi) (na.keeps (ag t)) f kb (bH M) rfl P ⟨b,w,p++[u],rfl,H,kb.get _ _ Q K,⟨f,I⟩,M,M4 (NR Ni) (z▸G:p.length+1<=5),(L.append (.cons r1 aq.nil)).move λb o m e=>⟨m,kb.get b o (λq=>m (q▸N)) e⟩⟩
theorem FS.less (F:FS W c sc env l A a Ex s0 ow Z s)(h:∀b,Mu0 b->a b)(hx:∀b,Ex b->Mu0 b):FS W c sc env l A Mu0 Ex s0 ow Z s:=
 have sub:∀b,bU Mu0 sc env ow b->bU a sc env ow b:=λb m=>m.imp (h b) id
 ⟨⟨F.cx.ok,F.cx.base,λb m=>F.cx.old b (sub b m),λj b r=>.inr (.inr ⟨j,r⟩),λb m=>F.cx.above b (sub b m),F.cx.view.move (λb o m e=>⟨λh=>m (sub b h),e⟩) (λ_ _ _ _ e=>e) (λ_ _ x=>x) λ_ _ _ _ _ n=>n,F.cx.good,F.cx.tb,F.cx.live⟩,
  F.no,F.kb,F.fresh,F.i4,F.sQ,F.hZ,hx,F.fk,λj b hb m=>F.apart j b hb (h b m),F.ext⟩
theorem FS.MM {wr:aD}(F:FS W c sc env l A (λb=>Mu0 b\/wr b) Ex s0 ow Z s)(kb:KB wr s s')(a:∀b,wr b->s0.heap.get? b=none)(d:∀b,wr b-> ∀i, ¬ow i b)(e:∀b,wr b-> ¬bu env b)(lv:∀b,wr b-> ∃o,s'.heap.get? b=some o):
  FS W c sc env l A (λb=>Mu0 b\/wr b) Ex s0 ow Z s':=
 ⟨F.cx.kb kb (λb h=>.inl (.inr h)) d e lv,F.no,KB.nE (X:=wr) ((F.kb.mono λb h=>.inl h).trans (kb.mono λb h=>.inr h)) a,F.fresh,F.i4,F.sQ,F.hZ,F.ia,F.fk,F.apart,F.ext⟩
theorem FS.out {wr:aD}(F:FS W c sc env l A (λb=>Mu0 b\/wr b) Ex s0 ow Z s)(kb:KB wr s s')(g:∀b,wr b->s0.heap.get? b=none)(d:∀b,wr b-> ∀i, ¬ow i b)(a:∀b,wr b-> ¬bu env b)(p:∀b,wr b-> ¬Mu0 b)(hx:∀b,Ex b->Mu0 b):
  FS W c sc env l A Mu0 Ex s0 ow Z s':=by
 have sub:∀b,bU Mu0 sc env ow b->bU (λb=>Mu0 b\/wr b) sc env ow b:=λb m=>m.imp .inl id
 have t:∀b,bU Mu0 sc env ow b-> ¬wr b:=λb m h=>m.elim (p b h) λm=>m.elim (λf=>a b h (kX f)) λ⟨j,q⟩=>d b h j q
 refine⟨⟨F.cx.ok,λb o e=>kb.get b o (λh=>az (F.cx.above b (.inl (.inr h))) e) (F.cx.base b o e),λb m=>?_,λj b r=>.inr (.inr ⟨j,r⟩),λb m=>F.cx.above b (sub b m),F.cx.view.move (λb o m e=>⟨λh=>m (sub b h),kb.get b o (λh=>m (.inl (.inr h))) e⟩) (λi b o r e=>kb.get b o (λh=>d b h i r) e) (λ_ _ x=>x) λ_ _ _ _ _ n=>cZ a kb n,F.cx.good,F.cx.tb,gu a kb F.cx.live⟩,
  F.no,KB.nE (X:=wr) ((F.kb.mono λb h=>.inl h).trans (kb.mono λb h=>.inr h)) g,F.fresh,F.i4,F.sQ,F.hZ,hx,F.fk,λj b hb m=>F.apart j b hb (.inl m),F.ext⟩
 exact ak (F.cx.old b (sub b m)) λo e=>⟨o,kb.get b o (t b m) e⟩
theorem FS.Hw {b:Addr}(F:FS W c sc env l A Mu0 Ex s0 ow Z s)(h:s.heap.get? b=none):s0.heap.get? b=none:=by
 cases e:s0.heap.get? b with
 |none=>rfl
 |some o=>
  by_cases hx:Ex b
  .exact ak (F.cx.old b (.inl (F.ia b hx))) λd a=>az h a
  .exact az h (F.kb.get b o hx e)
theorem FS.more {wr:aD}(F:FS W c sc env l A Mu0 Ex s0 ow Z s)(k:Keeps s s')(d:∀b,wr b->s.heap.get? b=none)(lv:∀b,wr b-> ∃o,s'.heap.get? b=some o):FS W c sc env l A (λb=>Mu0 b\/wr b) Ex s0 ow Z s':=by
 have a:=F.keep k
 have g:=F.cx.grow k d lv
 have sub:∀b,bU (λb=>Mu0 b\/wr b) sc env ow b->bU Mu0 sc env ow b\/wr b:=λb m=>m.elim (λm=>m.imp .inl id) λm=>.inl (.inr m)
 refine⟨⟨g.ok,g.base,λb m=>g.old b (sub b m),λj b r=>.inr (.inr ⟨j,r⟩),λb m=>g.above b (sub b m),g.view.move (λb o m e=>⟨λh=>m (sub b h),e⟩) (λ_ _ _ _ e=>e) (λ_ _ x=>x) λ_ _ _ _ _ n=>n,g.good,g.tb,g.live⟩,
  a.no,a.kb,a.fresh,a.i4,a.sQ,a.hZ,λb h=>.inl (F.ia b h),a.fk,λj b hb m=>m.elim (F.apart j b hb) λh=>ak (F.cx.old b (.inr (.inr ⟨j,hb⟩))) λo e=>az (d b h) e,F.ext⟩
theorem all2 {d e:Type}{f:d->Option e}{a b:d}{x y:e}(h:f a=some x)(q:f b=some y):ah f [a,b]=some [x,y]:=by
 show(match f a,ah f [b] with
  |some y,some g=>some (y::g)
  |_,_=>none)=some [x,y]
 rw[h,all1 q]
theorem IA {target:Expr}{t:dj}{d:D}{v:Value}(ht:iW c sc target=some t)(hb:bB Z t d=some Z1)(F:FS W c sc env l A Mu0 Ex s0 ow Z s)(r:en W (bU Mu0 sc env ow) s.heap t d v):
  wpAny W.M A (assign target env v) (λ_ s'=>∃ow',FS W c sc env l A Mu0 Ex s0 ow' Z1 s'/\Step sc env ow s ow' s') E s:=by
 have g:=tB ht
 clear ht
 induction g with
 |one hi=>
  refine au (bP hi) λhx hi=>cq (show some (Z.set _ (.val d))=some Z1 from hb) ?_
  refine OX (bL F.cx.ok F.cx.live hx λs' a=>⟨_,F.asg hi a ?_,Step.asg a λb h=>h.elim⟩)
  exact Rep.move (λb o m e=>⟨m,a.kb.get b o (λf=>m (F.wr.mu b f)) e⟩) r
 |@two x y C G p i j O hi H=>
  refine aW (nW hb) λa b I J=>dX (r a b I) λT P vb ev K L M=>ev▸J▸?_
  refine wpAny_assign_Tuple F.cx.good.hh K rfl rfl λu hs=>?_
  have w:Keeps s {s with heap:=u}:=⟨u,_,rfl,λb o e=>hs b o (NZ (Heap.lt_size e)) e⟩
  have B:Fz (bU Mu0 sc env ow) s.heap (bU Mu0 sc env ow) u:=Fz.keep λb o e=>ag w b o e
  refine vB (xs:=[x,y]) (is:=[i,j]) (ds:=[a,b]) (all2 hi H) rfl (F.keep w) (.cons (L.move B) (.cons (M.move B) aq.nil)) (λow' s' N st=>⟨ow',N,(Step.keep w).trans st⟩) (λq t z=>?_) rfl
  cases q with
  |zero=>exact⟨x,C,rfl,(MW z).symm⟩
  |succ q=>cases q with
   |zero=>exact⟨y,G,rfl,(MW z).symm⟩
   |succ q=>exact ns z
def tR (W:Wd)(c:CT)(sc:Scope)(env:Env)(l:Nat)(A:Around)(b:List Stmt)(x:_root_.av.Ex):Prop:=
 ∀(Mu0 a:aD) s0 ow Z s d Z',x Z=some (d,Z')->FS W c sc env l A Mu0 a s0 ow Z s-> ∀E,wpAny W.M A (execs b env) (dT W c sc env l A Mu0 a s0 ow s d Z') E s
noncomputable def mB (bo:_root_.av.Ex):Fl×St->Option (Fl×St)
 |(.next,a)=>bo a
 |(.brk,a)=>some (.next,a)
 |(f,a)=>some (f,a)
noncomputable def Ky (a:_root_.av.Ex):Fl×St->Option (Fl×St)
 |(.next,Z)=>a Z
 |(.brk,Z)=>some (.brk,Z)
 |(.ret d,Z)=>some (.ret d,Z)
theorem tS {b:_root_.av.Ex}{f:St->D->Option St}{d:D}{r:Fl×St}(h:ck b f (d::ds) Z=some r):∃Z1 fl a,f Z d=some Z1/\b Z1=some (fl,a)/\Ky (ck b f ds) (fl,a)=some r:=by
 have h:((f Z d).bind λZ1=>(b Z1).bind λx=>match x with
  |(.next,a)=>ck b f ds a
  |(f,a)=>some (f,a))=some r:=h
 exact af (ob h) λZ1 e h=>af (ob h) λp g h=>⟨Z1,p.1,p.2,e,g,by
  cases p with|mk fl a=>cases fl<;>exact h⟩
inductive L7 (W:Wd)(c:CT)(sc:Scope)(env:Env)(l:Nat)(A:Around)(Mu0 Ex:aD)(s0:Shared)(wr:List Addr)(ow:Nat->aD)(s2:Shared)(n0:Nat)(go:Nat->St->Prop)(Sx:Nat->Heap->Prop)(m:Nat)(s:Shared):Prop
 |mk {j:Nat}{Zj:St}{owj:Nat->aD}(hj:j<=n0)(hm:m=n0+1 - j)(hfo:go j Zj)(Fj:FS W c sc env l A (λb=>Mu0 b\/b∈wr) Ex s0 owj Zj s)(kbj:KB (λb=>dS sc env ow b\/b∈wr) s2 s)(grj:∀b,dS sc env owj b->dS sc env ow b\/s2.heap.get? b=none)(hst:Sx j s.heap)
@[elab_as_elim] theorem cu {b e:Type}{a:b×e}{c:b}{d:e}{motive:b->e->Prop} (h:some a=some (c,d)) (k:motive a.1 a.2):motive c d:=(show motive (c,d).1 (c,d).2 from MW h▸k)
theorem Kz (S:∀n,bF W U l n){target iter:Expr}{b:List Stmt}{t:dj}{it:ME}{bx bo:_root_.av.Ex}{r0:Fl×St}(ht:iW c sc target=some t)(h:(cm c k).i sc iter=some it)(hno:noOwn Z it=true)(hi:(ev U n).i Z t it=some xs)(hf:ck bx (λZ d=>bB Z t d) xs Z=some r0)(z:mB bo r0=some (fl,Z1))(hb:tR W c sc env l A a bx)(ho:tR W c sc env l A b bo)(F:FS W c sc env l A Mu0 Ex s0 ow Z s):
  wpAny W.M A (exec (.For target iter a b pos) env) (dT W c sc env l A Mu0 Ex s0 ow s fl Z1) E s:=by
 refine wpAny_For (NH ((S n).i E h hi (l4 ht) F.cx) (λx s1 hx=>?_) λ_ _ e=>e) (fH h env)
 refine au hx λk1 hx=>NH hx (λitv s2 B=>?_) λ_ _ e=>e
 refine au B λk2 B=>bf B λsm km km2 B=>?_
 cases B with|@mk I fp wr n0 P Md Sx ei hn KT st sl self hwr hfz items=>
 refine fU ei ?_
 have ks:Keeps s s2:=ai k1 k2
 have g:∀b,b∈wr->s.heap.get? b=none:=λb hb=>none_of (ag km) (hwr b hb)
 have lv2:∀b∈fp, ∃o,s2.heap.get? b=some o:=λb hb=>sl 0 _ st b hb
 have F2:FS W c sc env l A (λb=>Mu0 b\/b∈wr) Ex s0 ow Z s2:=F.more (wr:=(· ∈wr)) ks g λb hb=>lv2 b (KT.sub b hb)
 have hw0:∀b,b∈wr->s0.heap.get? b=none:=λb hb=>F.Hw (g b hb)
 have hfr:∀b,b∈wr-> ¬bu env b:=λb hb h=>h.elim (λe=>sS F.cx.live.ns λm o _ _ e' _=>az (g b hb) ((MY s.heap.get? e).trans e')) λ⟨x,hx⟩=>aW (F.cx.live.cells x b hx) λv o e _=>az (g b hb) e
 have C:∀b,dS sc env ow b->bU Mu0 sc env ow b:=λb h=>.inr h
 have leave:∀(p:Nat->aD) (u:St) (y:Shared),FS W c sc env l A (λb=>Mu0 b\/b∈wr) Ex s0 p u y->KB (λb=>dS sc env ow b\/b∈wr) s2 y->(∀b,dS sc env p b->dS sc env ow b\/s2.heap.get? b=none)->FS W c sc env l A Mu0 Ex s0 p u y/\Step sc env ow s p y:=λp u y Fj kb gr=>
  ⟨Fj.less (λb h=>.inl h) F.ia,KB.nE (X:=(· ∈wr)) ((KB.of ks).trans kb) g,λb h=>(gr b h).imp id λh=>none_of (ag ks) h⟩
 refine codeAny_forLoop_any (L7 W c sc env l A Mu0 Ex s0 wr ow s2 n0 (λj u=>ck bx (λZ d=>bB Z t d) (xs.drop j) u=some r0) Sx) (λm y q=>?_) (n0+1) (.mk (Ou _) rfl hf F2 (KB.refl _ _) (λb h=>.inl h) st)
 cases q with|@mk j u p hj hm r Fj kbj G hst=>
 have fpO:∀b∈fp, ¬dS sc env p b:=λb hb h=>(G b h).elim (λh=>hfz hno b hb (C b h)) λh=>ak (lv2 b hb) λo e=>az h e
 have N:∀b,b∈wr-> ∀i, ¬p i b:=λb hb i h=>fpO b (KT.sub b hb) (.inr ⟨i,h⟩)
 by_cases H:j<n0
 .refine KT.item j _ _ _ H hst λv h1 w hMd M=>?_
  refine KT.go j v _ _ _ hMd λh2 hP J hk2=>?_
  have kb:KB (· ∈wr) y {y with heap:=h2,toks:=w}:=⟨h2,w,rfl,λb o nb e=>hk2 b o nb (M b o nb e)⟩
  generalize hsa:({y with heap:=h2,toks:=w}:Shared)=O at kb
  have hh2:h2=O.heap:=MY Shared.heap hsa
  rw[hh2] at hP J
  clear M hk2 hMd hh2 hsa
  have lva:∀b∈fp, ∃o,O.heap.get? b=some o:=λb hb=>sl _ _ J b hb
  have Fa:=Fj.MM (wr:=(· ∈wr)) kb hw0 N hfr λb hb=>lva b (KT.sub b hb)
  have K:KB (λb=>dS sc env ow b\/b∈wr) s2 O:=kbj.trans (kb.mono λb h=>.inr h)
  refine af (vn (hn▸H:j<xs.length)) λd hd Q=>?_
  rw[Q] at r
  refine jn (tS r) λZa fb Zb hbt hbx r=>?_
  have ir:en W (bU (λb=>Mu0 b\/b∈wr) sc env p) O.heap t d v:=by
   refine items j d v _ _ hd (λb o nb e=>?_) hP
   have e2:=ag km2 _ _ e
   have L:b∉wr:=λh=>az (hwr b h) e
   have hnO:¬dS sc env ow b:=λh=>nb (C b h)
   exact⟨λh=>h.elim (λh=>h.elim (λh=>nb (.inl h)) L) λh=>(G b h).elim hnO λh=>az h e2,K.get b o (λh=>h.elim hnO L) e2⟩
  refine NH (IA ht hbt Fa ir) (λ_ sb hb1=>af hb1 λowb Fb stb=>?_) λ_ _ e=>e
  refine NH (hb _ _ _ _ _ _ _ _ hbx Fb _) (λf sc' hp=>bf hp λT Fc V stc=>?_) λ_ _ e=>e
  have stp:=stb.trans stc
  have grc:∀b,dS sc env T b->dS sc env ow b\/s2.heap.get? b=none:=λb h=>(stp.gr b h).elim (G b) λh=>(Classical.em (dS sc env ow b)).imp id λhO=>by
   cases e:s2.heap.get? b with
   |none=>rfl
   |some o=>
    by_cases L:b∈wr
    .exact ak (lva b (KT.sub b L)) λo' e'=>az h e'
    .exact az h (K.get b o (λh=>h.elim hO L) e)
  have kbc:KB (λb=>dS sc env ow b\/b∈wr) s2 sc':=KB.nE (X:=λb=>dS sc env p b/\ ¬dS sc env ow b) ((K.mono λb h=>.inl h).trans (stp.kb.mono λb h=>(Classical.em (dS sc env ow b)).elim (λhO=>.inl (.inl hO)) λhO=>.inr ⟨h,hO⟩)) λb h=>(G b h.1).elim (λx=>absurd x h.2) id
  have lv:=leave _ _ _ Fc kbc grc
  cases fb with
  |next=>
   refine fU (show f=.next from V) ?_
   exact⟨n0+1 - (j+1),hm▸pA H,.mk H rfl r Fc kbc grc (KT.frame _ _ _ J λb hb o e=>stp.kb.get b o (fpO b hb) e)⟩
  |brk=>
   refine fU (show f=.brk from V) ?_
   exact cu (show some (Fl.next,Zb)=some (fl,Z1) from(MY (mB bo) (MW r)).trans z) ⟨T,lv.1,rfl,lv.2⟩
  |ret dr=>
   refine af V λv' e rv=>fU e ?_
   exact cu (show some (Fl.ret dr,Zb)=some (fl,Z1) from(MY (mB bo) (MW r)).trans z) ⟨T,lv.1,⟨v',rfl,rv.move λb o m e=>⟨λh=>m (.inl h),e⟩⟩,lv.2⟩
 .have hjn:j=n0:=OS hj (NU H)
  refine KT.done _ _ _ (hjn▸hst) λh1 w M=>?_
  have kb:KB (· ∈wr) y {y with heap:=h1,toks:=w}:=⟨h1,w,rfl,M⟩
  generalize ({y with heap:=h1,toks:=w}:Shared)=O at kb
  rw[List.drop_eq_nil_of_le (hjn▸hn▸NB _)] at r
  have K:KB (λb=>dS sc env ow b\/b∈wr) s2 O:=kbj.trans (kb.mono λb h=>.inr h)
  have Ga:=Fj.out (wr:=(· ∈wr)) kb hw0 N hfr (λb hb m=>ak (F.cx.old b (.inl m)) λo e=>az (g b hb) e) F.ia
  have sta:Step sc env ow s p O:=⟨KB.nE (X:=(· ∈wr)) ((KB.of ks).trans K) g,λb h=>(G b h).imp id λh=>none_of (ag ks) h⟩
  exact NH (ho _ _ _ _ _ _ _ _ (show bo u=some (fl,Z1) from(MY (mB bo) (MW r)).trans z) Ga _) (λf s' hp=>dT.pre sta hp) λ_ _ e=>e
end
noncomputable abbrev NT:=Nat->List D->List D->Option (D×List D)
def rG (W:Wd)(N:NT)(l:Nat):Prop:= ∀f i,W.nn f=some i-> ∀(A:Around) (s:Shared) (c:aD) (j:List D) (k:List Value) (d:D) (a:Addr) (n:List Value) (m:Nat) (p e:List D),Good A l->
 (∀b o,W.h0.get? b=some o->s.heap.get? b=some o)->Old c s.heap->(∀b,c b->W.h0.get? b=none)->aq W c s.heap j k->c a->s.heap.get? a=some (aR n m)->aq W c s.heap p n->N f j p=some (d,e)->
 ∀E,wpAny W.M A (call i (k++[.ref a])) (λv h=>KB (· =a) s h/\Rep W c h.heap d v/\ ∃g q,h.heap.get? a=some (aR g q)/\aq W c h.heap e g) E s
structure nF (W:Wd):Prop extends Iz W where
 fill:∀x k,fills.lookup x=some k-> ∃fv,W.mg x=some fv/\W.nn k=some fv
 Hx:∀f fv,W.nn f=some fv->fR W fv
section
variable {W:Wd}{U:UT}{N:NT}{n l:Nat}{A:Around}{E:Value->Shared->Prop}{s s0 s1 s2 s4 s':Shared}{env cenv:Env}{c:CT}{k:Nat}{sc isc:Scope}{R:Nat->aD}{Mu Mu' Mu0 X0:aD}{Z Z':St}{X Y:aD}{aE:List Str}{ow ow':Nat->aD}
theorem xP {t:St->Option Bool}{b:Ex}{m:Nat}{r:Fl×St}(h:cy t b (m+1) Z=some r):∃q,t Z=some q/\((q=false/\some (Fl.next,Z)=some r)\/(q=true/\ ∃fl a,b Z=some (fl,a)/\mB (cy t b m) (fl,a)=some r)):=by
 have h:((t Z).bind λq=>if q=true then(b Z).bind λx=>match x with
  |(.next,a)=>cy t b m a
  |(.brk,a)=>some (.next,a)
  |(f,a)=>some (f,a) else some (Fl.next,Z))=some r:=h
 refine af (ob h) λq d h=>⟨q,d,?_⟩
 cases q with
 |false=>exact .inl ⟨rfl,h⟩
 |true=>exact .inr ⟨rfl,af (ob h) λp e h=>⟨p.1,p.2,e,by
  cases p with|mk fl a=>cases fl<;>exact h⟩⟩
inductive MN (W:Wd)(c:CT)(sc:Scope)(env:Env)(l:Nat)(A:Around)(Mu0 Ex:aD)(s0:Shared)(ow:Nat->aD)(s2:Shared)(go:Nat->St->Prop)(m:Nat)(s:Shared):Prop
 |mk {Zj:St}{owj:Nat->aD}(hw:go m Zj)(Fj:FS W c sc env l A Mu0 Ex s0 owj Zj s)(stj:Step sc env ow s2 owj s)
theorem EI (S:∀n,bF W U l n){test:Expr}{mt:ME}{t:Ex}{fuel:Nat}(h:(cm c k).e sc test=some mt)(G:cy (λZ=>(ev U n).t Z mt) t fuel Z=some (fl,Z1))(hb:tR W c sc env l A a t)(F:FS W c sc env l A Mu0 X0 s0 ow Z s):
  wpAny W.M A (exec (.While test a [] pos) env) (dT W c sc env l A Mu0 X0 s0 ow s fl Z1) E s:=by
 refine wpAny_While (codeAny_whileLoop (MN W c sc env l A Mu0 X0 s0 ow s λm o=>cy (λZ=>(ev U n).t Z mt) t m o=some (fl,Z1)) (λm M q=>?_) fuel (.mk G F Step.refl))
 cases q with|@mk o u b z v=>
 cases m with
 |zero=>exact ns b
 |succ m=>
  refine af (xP b) λq ht g=>?_
  refine((S n).t h ht z.cx).use λx s2 B C=>?_
  have D:=z.keep B
  have d:=v.trans (Step.keep B)
  refine g.elim (λg=>fU (C.trans g.1) (wpAny_execs_nil (cu g.2 ⟨u,D,rfl,d⟩))) λg=>fU (C.trans g.1) (aW g.2 λH p w b=>?_)
  refine NH (hb _ _ _ _ _ _ _ _ w D _) (λf I hp=>bf hp λr y i j=>?_) λ_ _ e=>e
  cases H with
  |next=>exact fU (show f=.next from i) ⟨m,N7 m,.mk b y (d.trans j)⟩
  |brk=>exact fU (show f=.brk from i) (cu (show some (Fl.next,p)=some (fl,Z1) from b) ⟨r,y,rfl,d.trans j⟩)
  |ret J=>exact af i λK e L=>fU e (cu (show some (Fl.ret J,p)=some (fl,Z1) from b) ⟨r,y,⟨K,rfl,L⟩,d.trans j⟩)
def JN (W:Wd)(c:CT)(sc:Scope)(env:Env)(l:Nat)(A:Around)(st:Stmt)(x:Ex):Prop:=
 ∀(Mu0 X0:aD) s0 ow Z s a Z',x Z=some (a,Z')->FS W c sc env l A Mu0 X0 s0 ow Z s-> ∀E,wpAny W.M A (exec st env) (dT W c sc env l A Mu0 X0 s0 ow s a Z') E s
theorem EJ {x:MS->Ex}{m:MS}{r:Fl×St}(h:ay x (m::ms) Z=some r):∃fl a,x m Z=some (fl,a)/\Ky (ay x ms) (fl,a)=some r:=by
 have h:((x m Z).bind λb=>match b with
  |(.next,a)=>ay x ms a
  |(f,a)=>some (f,a))=some r:=h
 exact af (ob h) λp d h=>⟨p.1,p.2,d,by
  cases p with|mk fl a=>cases fl<;>exact h⟩
theorem A4 {x:MS->Ex}{d:List Stmt}:∀{ms:List MS},d.length=ms.length->(∀(i:Nat) st m,d[i]?=some st->ms[i]?=some m->JN W c sc env l A st (x m))->tR W c sc env l A d (ay x ms):=by
 induction d with
 |nil=>
  intro ms p _ Mu0 X0 s0 ow Z s q Z' h F E
  cases ms with
  |nil=>exact wpAny_execs_nil (cu h ⟨ow,F,rfl,Step.refl⟩)
  |cons m ms=>exact nomatch p
 |cons st d u=>
  intro ms p hs Mu0 X0 s0 ow Z s q Z' h F E
  cases ms with
  |nil=>exact nomatch p
  |cons m ms=>
   refine aW (EJ h) λv Z1 w h=>?_
   refine N9 (NH (hs 0 st m rfl rfl _ _ _ _ _ _ _ _ w F E) (λf s1 hp=>bf hp λo r g j=>?_) λ_ _ e=>e)
   cases v with
   |next=>exact fU (show f=.next from g) (NH (u (ms:=ms) (OP p) (λi t y a b=>hs (i+1) t y a b) _ _ _ _ _ _ _ _ h r E) (λf s' hp=>dT.pre j hp) λ_ _ e=>e)
   |brk=>exact fU (show f=.brk from g) (cu (show some (Fl.brk,Z1)=some (q,Z') from h) ⟨o,r,rfl,j⟩)
   |ret z=>exact af g λB e C=>fU e (cu (show some (Fl.ret z,Z1)=some (q,Z') from h) ⟨o,r,⟨B,rfl,C⟩,j⟩)
theorem xQ (q:bF W U l n){last:Expr}(hs:∀x p,last≠ .Starred x p):∀{mes:List ME}{ds:List D}{pos:Pos}{s:Shared}{Q:List Value->Shared->Prop},ah ((cm c k).e sc) es=some mes->mes.mapM ((ev U n).m Z)=some ds->Cx W c.aE sc env R Mu Z A l s->
  (∀s' (Q:Value->Shared->Prop),Keeps s s'->Q u s'->wpAny W.M A (eval last env) Q E s')->(∀vs s1,Keeps s s1->aq W Mu s1.heap ds vs->Q (vs++[u]) s1)->wpAny W.M A (spliced (backTo pos (starEach (es++[last]) env))) Q E s:=by
 induction es with
 |nil=>
  intro mes ds pos s Q f a C g b
  rw[bQ f] at a
  rw[List.nil_append,aT hs]
  exact Calls.spliced_cons (g s _ (aG s) (Calls.spliced_nil (b [] s (aG s) (MW a▸aq.nil))))
 |cons e es h=>
  intro mes ds pos s Q f a C g b
  revert a
  refine bZ f λH j m t=>λa=>?_
  revert b
  refine ve a λd w y z=>λb=>?_
  rw[List.cons_append,aT (bq m)]
  exact Calls.spliced_cons ((q.e m y C).use λv s1 i B=>h (pos:=pos) (Q:=λr s2=>Q (v::r) s2) t z (C.keep i) (λs' Q k F=>g s' Q (ai i k) F) λvs s2 o G=>b (v::vs) s2 (ai i o) (.cons (B.move (Fz.keep (ag o))) G))
theorem xR (h:ah ((cm c k).e sc) es=some mes):(backTo pos (starEach (es++[.Name y yp]) env)).any (·.1)=false:=by
 induction es generalizing mes with
 |nil=>rfl
 |cons e es b=>
  refine aP (dP h) λg a _ d f=>?_
  rw[List.cons_append,aT (bq d)]
  exact b f
theorem A5:(fills.all λp=> !(p.1==("__debug__":Str)))=true:=by decide+kernel
theorem n9 (w:nF W)(K:rG W N l)(S:∀n,bF W U l n){x:Str}{f i:Nat}{L:Pos}{d:D}{Q:Value->Shared->Prop}(hx:fills.lookup x=some f)(hg:sc.names.lookup x=some .globalImplicit)(C:ah ((cm c k).e sc) es=some mes)(M:mes.mapM ((ev U n).m Z)=some ds)(hi:c.aE.idxOf? y=some i)(u:Z i=some (.own (.list xs)))(O:N f ds xs=some (d,j))(F:FS W c sc env l A Mu0 X0 s0 ow Z s)(T:∀v s',FS W c sc env l A Mu0 X0 s0 ow (Z.set i (.own (.list j))) s'->Rep W (bU Mu0 sc env ow) s'.heap d v->Step sc env ow s ow s'->Q v s'):
  wpAny W.M A (eval (.Call (.Name x L) (es++[.Name y yp]) [] pos) env) Q E s:=by
 refine af (w.fill x f hx) λG V H=>?_
 have p3:(x==("__debug__":Str))=false:=Bool.not_eq_true' _▸Nx.mp A5 _ (NC hx)
 refine af (df F.cx hi u) λv na r=>dX (fJ (.inl r)) λb us m e hr g lx=>?_
 have na:aJ env s.heap y (.ref b):=e▸na
 have a:=xR (env:=env) (pos:=pos) (yp:=yp) (y:=y) C
 refine bw (jz F.cx w.w.g hg V p3 ?_)
 refine callWith_of (P:=λh=>∀b o,W.h0.get? b=some o->h.get? b=some o) (by rw[a];rfl) (w.Hx f G H) (bO a ?_)
 refine xQ (S n) (λ_ _ e=>Expr.noConfusion e) C M F.cx (λs' Q k hq=>gx (F.keep k).cx hi (na.keeps (ag k)) hq) λvs s1 p r1=>⟨(F.cx.keep p).base,?_⟩
 have t:=F.keep p
 have z:bU Mu0 sc env ow b:=.inr (.inr ⟨i,hr⟩)
 have I:=ag p _ _ g
 refine NH (K f G H A s1 (bU Mu0 sc env ow) ds vs d b us m xs j t.cx.good t.cx.base t.cx.old t.cx.above r1 z I (lx.move (Fz.keep (ag p))) O E) (λv s2 hp=>?_) λ_ _ e=>e
 refine eU hp λkb rv q=>aW q λus' m' J l'=>?_
 have B:¬bu env b:=dZ t.cx.live I (λv h=>Data.noConfusion h) λe=>F.no b (.inl e) i hr
 exact T v s2 (t.jg u (cz hi) (na.keeps (ag p)) hr kb ⟨_,J⟩ rfl B (rB hr J l')) rv ((Step.keep p).trans (Step.jg hr kb))
theorem EK (w:nF W)(e:rG W N l)(S:∀n,bF W U l n){x:Str}{f i:Nat}{g:Pos}{b:List D}(hx:fills.lookup x=some f)(hg:sc.names.lookup x=some .globalImplicit)(h:ah ((cm c k).e sc) es=some mes)(j:mes.mapM ((ev U n).m Z)=some ds)(hi:c.aE.idxOf? y=some i)(d:Z i=some (.own (.list xs)))(m:N f ds xs=some (.none,b))(F:FS W c sc env l A Mu0 X0 s0 ow Z s):
  wpAny W.M A (exec (.Expr (.Call (.Name x g) (es++[.Name y yp]) [] a) pos) env) (dT W c sc env l A Mu0 X0 s0 ow s .next (Z.set i (.own (.list b)))) E s:=by
 exact wpAny_Expr (n9 w e S hx hg h j hi d m F λv s' o p st=>fU (show v=.none from p) ⟨ow,o,rfl,st⟩) (show(env.scope.kind== .module&&env.scope.more.any λ(n,_)=>n==("interactive":Str))=false by rw[F.cx.ok.kind];rfl) rfl
theorem EL (w:nF W)(u:rG W N l)(S:∀n,bF W U l n){x z:Str}{f i:Nat}{B g:Pos}{d:D}(r:cv c sc z=some j)(hx:fills.lookup x=some f)(hg:sc.names.lookup x=some .globalImplicit)(G:ah ((cm c k).e sc) es=some mes)(H:mes.mapM ((ev U n).m Z)=some ds)(hi:c.aE.idxOf? y=some i)(t:Z i=some (.own (.list xs)))(I:N f ds xs=some (d,p))(F:FS W c sc env l A Mu0 X0 s0 ow Z s):
  wpAny W.M A (exec (.Assign [.Name z C] (.Call (.Name x B) (es++[.Name y yp]) [] g) pos) env) (dT W c sc env l A Mu0 X0 s0 ow s .next ((Z.set i (.own (.list p))).set j (.val d))) E s:=by
 refine au (bP r) λr J=>?_
 refine wpAny_Assign_Name (n9 w u S hx hg G H hi t I F λv s' q K st=>?_) rfl
 exact bL q.cx.ok q.cx.live r λs2 a=>⟨_,q.asg J a (K.move λb o m e=>⟨m,a.kb.get b o (λf=>m (q.wr.mu b f)) e⟩),rfl,st.trans (Step.asg a λb h=>h.elim)⟩
end
section
variable {c:CT}{r:Cm}{sc:Scope}{e v:Expr}{ms:MS}{go:Stmt->Option MS}{pos:Pos}
theorem A6 {v:EV}(h:(match v with
  | .tup es _ _=>some es
  |_=>none)=some es):∃k p,v=.tup es k p:=by
 cases v with
 |tup es k p=>exact⟨k,p,MW h▸rfl⟩
 |_=>exact ns h
theorem rH (h:lE e=some es):∃k p,e=.Tuple es k p:=eZ (A6 h) λk p q=>⟨k,p,lX q⟩
theorem A7 (h:lE e=none):∀es k p,e≠ .Tuple es k p:=λes k p x=>by rw[x] at h;exact ns h.symm
theorem xS {v:EV}{q:Expr×List Expr×List Keyword×Pos}(h:(match v with
  | .call f a k p=>some (f,a,k,p)
  |_=>none)=some q):v=.call q.1 q.2.1 q.2.2.1 q.2.2.2:=by
 cases v with
 |call f a k p=>exact MW h▸rfl
 |_=>exact ns h
theorem og {q:Expr×List Expr×List Keyword×Pos}(h:lF e=some q):e=.Call q.1 q.2.1 q.2.2.1 q.2.2.2:=lX (xS h)
theorem xT {v:EV}{q:Expr×Expr}(h:(match v with
  | .item a i _=>some (a,i)
  |_=>none)=some q):∃p,v=.item q.1 q.2 p:=by
 cases v with
 |item a i p=>exact⟨p,MW h▸rfl⟩
 |_=>exact ns h
theorem kg {q:Expr×Expr}(h:itemOf e=some q):∃p,e=.Subscript q.1 q.2 p:=ak (xT h) λp q=>⟨p,lX q⟩
theorem xU {args:List Expr}(h:(args.getLast?).bind nameOf=some y):∃es yp,args=es++[.Name y yp]/\args.dropLast=es:=by
 refine af (ob h) λe b d=>?_
 refine ak (bh d) λyp a=>?_;subst a
 refine ak (List.getLast?_eq_some_iff.mp b) λes a=>?_;subst a
 exact⟨es,yp,rfl,List.dropLast_concat⟩
inductive L8 (c:CT)(r:Cm)(sc:Scope)(z:Option Nat):Expr->List Expr->MS->Prop
 |mk {f y:Str}{np yp:Pos}{es:List Expr}{mes:List ME}{k i:Nat}(hg:sc.names.lookup f=some .globalImplicit)(hk:fills.lookup f=some k)(hes:ah (r.e sc) es=some mes)(hi:c.aE.idxOf? y=some i):L8 c r sc z (.Name f np) (es++[.Name y yp]) (.gJ z k mes i)
theorem A8 {z:Option Nat}{g:Expr}{args:List Expr}(h:uV c r sc z g args=some ms):L8 c r sc z g args ms:=by
 refine af (ob h) λf j h=>?_
 refine ak (bh j) λq a=>?_;subst a
 refine af (ob h) λy l h=>?_
 refine aW (xU l) λs t b m=>?_;subst b
 refine af (ob h) λn d h=>?_
 rw[m] at d
 refine aP (zr h) λk i o p h=>?_
 refine au (fe h) λhg h=>?_
 exact sK (R:=L8 c r sc z _ _) h (.mk (dH hg) o d p)
inductive CS (c:CT)(r:Cm)(sc:Scope)(go:Stmt->Option MS):Stmt->MS->Prop
 |Hy {z f y:Str}{zp np yp cp pos:Pos}{es:List Expr}{mes:List ME}{k i j:Nat}(hj:cv c sc z=some j)(hg:sc.names.lookup f=some .globalImplicit)(hk:fills.lookup f=some k)(hes:ah (r.e sc) es=some mes)(hi:c.aE.idxOf? y=some i):
   CS c r sc go (.Assign [.Name z zp] (.Call (.Name f np) (es++[.Name y yp]) [] cp) pos) (.gJ (some j) k mes i)
 |asg {z:Str}{zp pos:Pos}{v:Expr}{e:ME}{i:Nat}(hi:cv c sc z=some i)(he:r.e sc v=some e):CS c r sc go (.Assign [.Name z zp] v pos) (.asg i e)
 |own {z:Str}{zp pos:Pos}{v:Expr}{e:ME}{i:Nat}(hi:cv c sc z=some i)(he:r.e sc v=some e)(hf:dq e=true):CS c r sc go (.Assign [.Name z zp] v pos) (.own i e)
 |cN {ts vs:List Expr}{k1 k2:Nat}{p1 p2 pos:Pos}{ns:List Str}{is:List (Nat×Nat)}{es:List ME}(hn:ah nameOf ts=some ns)(his:ah (λn=>(cv c sc n).map λi=>(i,kind c n)) ns=some is)(hes:ah (r.e sc) vs=some es)
   (h1:iI is es=true)(h2:oY sc ts vs=true)(h3:(is.map (·.1)).Nodup)(h4:es.length<64):CS c r sc go (.Assign [.Tuple ts k1 p1] (.Tuple vs k2 p2) pos) (.cN is es)
 |unpack {ts:List Expr}{k1:Nat}{p1 pos:Pos}{v:Expr}{ns:List Str}{is:List Nat}{e:ME}(hv:∀vs k p,v≠ .Tuple vs k p)(hn:ah nameOf ts=some ns)(his:ah (cv c sc) ns=some is)(he:r.e sc v=some e):CS c r sc go (.Assign [.Tuple ts k1 p1] v pos) (.unpack is e)
 |setItem {x:Str}{np sp pos:Pos}{ie v:Expr}{i:Nat}{mi mv:ME}(hi:c.aE.idxOf? x=some i)(h1:r.e sc ie=some mi)(h2:r.e sc v=some mv):CS c r sc go (.Assign [.Subscript (.Name x np) ie sp] v pos) (.setItem i mi mv)
 |setAttr {x a:Str}{np ap pos:Pos}{v:Expr}{i j:Nat}{mv:ME}(hi:c.aE.idxOf? x=some i)(hj:dF.idxOf? a=some j)(h:r.e sc v=some mv):CS c r sc go (.Assign [.Attribute (.Name x np) a ap] v pos) (.setAttr i j mv)
 |chain {ts:List Expr}{v:Expr}{pos:Pos}{ns:List Str}{is:List Nat}{mv:ME}(ht:∀t,ts≠[t])(hn:ah nameOf ts=some ns)(his:ah (cv c sc) ns=some is)(h:r.e sc v=some mv):CS c r sc go (.Assign ts v pos) (.chain is mv)
 |aug {x:Str}{p pos:Pos}{op:Operator}{v:Expr}{i:Nat}{mv:ME}(hi:cv c sc x=some i)(h:r.e sc v=some mv):CS c r sc go (.AugAssign (.Name x p) op v pos) (.aug i op mv)
 |eh {x:Str}{np sp pos:Pos}{ie v:Expr}{i:Nat}{mi mv:ME}(hi:c.aE.idxOf? x=some i)(h1:r.e sc ie=some mi)(h2:r.e sc v=some mv):CS c r sc go (.AugAssign (.Subscript (.Name x np) ie sp) .Add v pos) (.eh i mi mv)
 |append {x:Str}{np ap cp pos:Pos}{a:Expr}{i:Nat}{ma:ME}(hl:(ap.endLine==cp.line)=true)(hi:c.aE.idxOf? x=some i)(h:r.e sc a=some ma):CS c r sc go (.Expr (.Call (.Attribute (.Name x np) "append" ap) [a] [] cp) pos) (.append i ma)
 |extend {x:Str}{np ap cp pos:Pos}{a:Expr}{i:Nat}{ma:ME}(hl:(ap.endLine==cp.line)=true)(hi:c.aE.idxOf? x=some i)(h:r.e sc a=some ma):CS c r sc go (.Expr (.Call (.Attribute (.Name x np) "extend" ap) [a] [] cp) pos) (.extend i ma)
 |cG {x:Str}{np sp ap cp pos:Pos}{ie a:Expr}{i:Nat}{mi ma:ME}(hl:(ap.endLine==cp.line)=true)(hi:c.aE.idxOf? x=some i)(h1:r.e sc ie=some mi)(h:r.e sc a=some ma):
   CS c r sc go (.Expr (.Call (.Attribute (.Subscript (.Name x np) ie sp) "extend" ap) [a] [] cp) pos) (.cG i mi ma)
 |Hz {f y:Str}{np yp cp pos:Pos}{es:List Expr}{mes:List ME}{k i:Nat}(hg:sc.names.lookup f=some .globalImplicit)(hk:fills.lookup f=some k)(hes:ah (r.e sc) es=some mes)(hi:c.aE.idxOf? y=some i):
   CS c r sc go (.Expr (.Call (.Name f np) (es++[.Name y yp]) [] cp) pos) (.gJ none k mes i)
 |iff {t:Expr}{a b:List Stmt}{pos:Pos}{mt:ME}(h:r.e sc t=some mt):CS c r sc go (.If t a b pos) (.iff mt (a.map λs=>(go s).getD .stuck) (b.map λs=>(go s).getD .stuck))
 |cW {t it:Expr}{a b:List Stmt}{pos:Pos}{t':dj}{it':ME}{as bs:List MS}(ht:iW c sc t=some t')(hi:r.i sc it=some it')(ha:ah go a=some as)(hb:ah go b=some bs):CS c r sc go (.For t it a b pos) (.cW t' it' as bs)
 |du {t:Expr}{a:List Stmt}{pos:Pos}{mt:ME}{as:List MS}(h:r.e sc t=some mt)(ha:ah go a=some as):CS c r sc go (.While t a [] pos) (.du mt as)
 |ret {v:Expr}{pos:Pos}{me:ME}(h:r.e sc v=some me):CS c r sc go (.Return (some v) pos) (.ret me)
 |brk {pos:Pos}:CS c r sc go (.Break pos) .brk
theorem EM {z:Str}{k:Pos}(h:zl c r sc z v=some ms):CS c r sc go (.Assign [.Name z k] v pos) ms:=by
 refine af (ob h) λi hi h=>?_
 cases a:(do
  let q<-lF v
  if q.2.2.1.isEmpty then uV c r sc (some i) q.1 q.2.1 else none) with
 |some m=>
  rw[a] at h
  obtain rfl:=MW h
  refine af (ob a) λq b l=>?_
  refine au (fe l) λn o=>?_
  have e:=og b
  rw[List.isEmpty_iff.mp n] at e
  rw[e]
  have d:=A8 o
  revert d
  generalize q.1=g
  generalize q.2.1=args
  intro d
  induction d with
  |mk hg p f s=>exact .Hy hi hg p f s
 |none=>
  rw[a] at h
  refine af (ob h) λe j h=>?_
  by_cases h0:kind c z=0
  .rw[M7 h0] at h
   exact sK (R:=CS c r sc go _) h (.asg hi j)
  .rw[M8 h0] at h
   refine au (fe h) λb h=>?_
   exact sK (R:=CS c r sc go _) h (.own hi j (M9.mp b).2)
theorem EN (h:zm c r sc ts v=some ms):CS c r sc go (.Assign [.Tuple ts k1 p1] v pos) ms:=by
 refine af (ob h) λns hn h=>?_
 cases d:lE v with
 |some n=>
  rw[d] at h
  refine eZ (rH d) λo p f=>?_;subst f
  refine aP (zr h) λis q a g h=>?_
  refine au (fe h) λb h=>?_
  refine au (M9.mp b) λb i=>?_
  refine au (M9.mp b) λb j=>?_
  refine au (M9.mp b) λk l=>?_
  exact sK (R:=CS c r sc go _) h (.cN hn a g k l (Nr j) (Nr i))
 |none=>
  rw[d] at h
  refine aP (zr h) λis e a m h=>?_
  refine au (fe h) λs h=>?_
  exact sK (R:=CS c r sc go _) h (.unpack (A7 d) hn a m)
theorem xV (h:uW c r sc v ts=some ms):CS c r sc go (.Assign ts v pos) ms:=by
 rcases ts with _|⟨t,_|⟨m,ts⟩⟩
 .refine af (ob (show((ah nameOf ([]:List Expr)).bind λns=>do pure (MS.chain (<-ah (cv c sc) ns) (<-r.e sc v)))=some ms from h)) λns hn h=>?_
  exact te (R:=CS c r sc go _) h λ_ _ a b=>.chain nofun hn a b
 .have h:(match nameOf t with
   |some x=>zl c r sc x v
   |none=>match lE t with
    |some l=>zm c r sc l v
    |none=>match itemOf t with
     |some q=>(nameOf q.1).bind λx=>do pure (MS.setItem (<-c.aE.idxOf? x) (<-r.e sc q.2) (<-r.e sc v))
     |none=>(e8 t).bind λq=>(nameOf q.1).bind λx=>do pure (.setAttr (<-c.aE.idxOf? x) (<-dF.idxOf? q.2.1) (<-r.e sc v)))=some ms:=h
  cases hn:nameOf t with
  |some x=>
   rw[hn] at h
   refine ak (bh hn) λp d=>?_;subst d
   exact EM h
  |none=>
   rw[hn] at h
   cases ht:lE t with
   |some l=>
    rw[ht] at h
    refine eZ (rH ht) λs u f=>?_;subst f
    exact EN h
   |none=>
    rw[ht] at h
    cases hi:itemOf t with
    |some q=>
     rw[hi] at h
     refine ak (kg hi) λw e=>?_
     refine af (ob h) λx hx h=>?_
     refine ak (bh hx) λn g=>?_
     rw[e,g]
     exact Hf (R:=CS c r sc go _) h λ_ _ _ i j k=>.setItem i j k
    |none=>
     rw[hi] at h
     refine af (ob h) λq o h=>?_
     refine af (ob h) λx hx h=>?_
     refine ak (bh hx) λn g=>?_
     rw[iL o,g]
     exact Hf (R:=CS c r sc go _) h λ_ _ _ i j k=>.setAttr i j k
 .refine af (ob (show((ah nameOf (t::m::ts)).bind λns=>do pure (MS.chain (<-ah (cv c sc) ns) (<-r.e sc v)))=some ms from h)) λns hn h=>?_
  exact te (R:=CS c r sc go _) h λ_ _ a b=>.chain nofun hn a b
theorem IB {t:Expr}(h:HV c r sc t op v=some ms):CS c r sc go (.AugAssign t op v pos) ms:=by
 unfold HV at h
 cases hn:nameOf t with
 |some x=>
  rw[hn] at h
  refine ak (bh hn) λp a=>?_;subst a
  exact te (R:=CS c r sc go _) h λ_ _ b d=>.aug b d
 |none=>
  rw[hn] at h
  refine af (ob h) λq f h=>?_
  refine af (ob h) λx hx h=>?_
  refine au (fe h) λg h=>?_
  refine ak (kg f) λk e=>?_
  refine ak (bh hx) λl i=>?_
  rw[e,i,g]
  exact Hf (R:=CS c r sc go _) h λ_ _ _ b d j=>.eh b d j
theorem ER {o:Expr}{m:Str}{j k:Pos}(g:(j.endLine==k.line)=true)(h:zo c r sc o m a=some ms):CS c r sc go (.Expr (.Call (.Attribute o m j) [a] [] k) pos) ms:=by
 unfold zo at h
 cases hn:nameOf o with
 |some x=>
  rw[hn] at h
  dsimp only at h
  refine ak (bh hn) λl i=>?_;subst i
  by_cases b:(m=="append")=true
  .rw[M7 b] at h
   rw[str_is b]
   exact te (R:=CS c r sc go _) h λ_ _ d f=>.append g d f
  .rw[M8 b] at h
   refine au (fe h) λb h=>?_
   rw[str_is b]
   exact te (R:=CS c r sc go _) h λ_ _ d f=>.extend g d f
 |none=>
  rw[hn] at h
  refine au (fe h) λb h=>?_
  refine af (ob h) λq n h=>?_
  refine af (ob h) λx hx h=>?_
  refine ak (kg n) λt e=>?_
  refine ak (bh hx) λl p=>?_
  rw[e,p,str_is b]
  exact Hf (R:=CS c r sc go _) h λ_ _ _ d f s=>.cG g d f s
theorem ES (h:zq c r sc v=some ms):CS c r sc go (.Expr v pos) ms:=by
 refine af (ob h) λq f h=>?_
 refine au (fe h) λb h=>?_
 have e:=og f
 rw[List.isEmpty_iff.mp b] at e
 rw[e]
 clear e f b
 obtain ⟨g,args,i,m⟩:=q
 dsimp only at h |-
 cases ha:e8 g with
 |some p=>
  rw[ha] at h
  rw[iL ha]
  rcases args with _|⟨a,_|⟨_,_⟩⟩
  .exact ns h
  .refine au (fe h) λj h=>?_
   exact ER j h
  .exact ns h
 |none=>
  rw[ha] at h
  have k:=A8 h
  clear h ha
  induction k with
  |mk hg b d l=>exact .Hz hg b d l
theorem KA {st:Stmt}(h:LV c sc r go st=some ms):CS c r sc go st ms:=by
 cases st with
 |Assign l v pos=>exact xV h
 |AugAssign t m v pos=>exact IB h
 |Expr v pos=>exact ES h
 |If t a b pos=>exact qs (R:=CS c r sc go _) (o:=r.e sc t) (f:=λx=>MS.iff x _ _) h λ_ q=>.iff q
 |For t it a b pos=>
  refine af (ob (o:=iW c sc t) h) λi d h=>?_
  exact Hf (R:=CS c r sc go _) (o:=r.i sc it) (f:=λx y z=>MS.cW i x y z) h λ_ _ _ g j k=>.cW d g j k
 |While t a b pos=>
  cases b with
  |nil=>exact te (R:=CS c r sc go _) (o:=r.e sc t) (f:=MS.du) h λ_ _ d g=>.du d g
  |cons _ _=>exact ns h
 |Return v pos=>
  cases v with
  |some v=>exact qs (R:=CS c r sc go _) (o:=r.e sc v) (f:=MS.ret) h λ_ q=>.ret q
  |none=>exact ns h
 |Break pos=>exact sK (R:=CS c r sc go _) h .brk
 |_=>exact ns h
end
section
variable {N:NT}{r:Ev}{x:MS->Ex}{Z:St}{p:Fl×St}
theorem Slot.lg {sl:av.Slot}(h:sl.kC=some xs):sl=.own (.list xs):=by
 cases sl with
 |own d=>
  cases d with
  |list a=>exact MW h▸rfl
  |_=>exact ns h
 |_=>exact ns h
theorem Slot.vC {sl:av.Slot}{p:List Str×List D}(h:sl.qq=some p):sl=.own (.dict p.1 p.2):=by
 cases sl with
 |own d=>
  cases d with
  |dict a b=>exact MW h▸rfl
  |_=>exact ns h
 |_=>exact ns h
theorem Slot.ET {sl:av.Slot}(h:sl.zi=some a):sl=.rows a:=by
 cases sl with
 |rows d=>exact MW h▸rfl
 |_=>exact ns h
theorem Slot.A9 {sl:av.Slot}(h:sl.zj=some a):sl=.obj a:=by
 cases sl with
 |obj d=>exact MW h▸rfl
 |_=>exact ns h
theorem Slot.int_is {sl:av.Slot}{i:Int}(h:sl.int?=some i):sl=.val (.int i):=by
 cases sl with
 |val d=>exact D.z9 h▸rfl
 |_=>exact ns h
theorem Ba {f:Nat}(h:zc N r x (.gJ (some j) f es y) Z=some p):∃ds xs d a,es.mapM (r.m Z)=some ds/\Z y=some (.own (.list xs))/\N f ds xs=some (d,a)/\some (Fl.next,(Z.set y (.own (.list a))).set j (.val d))=some p:=
 bV (o:=es.mapM (r.m Z)) h λds b h=>bV (o:=Z y) h λsl c h=>bV (o:=sl.kC) h λxs e h=>bV (o:=N f ds xs) h λq g h=>⟨ds,xs,q.1,q.2,b,c.trans (MY some (Slot.lg e)),g,h⟩
theorem Bb {f:Nat}(h:zc N r x (.gJ none f es y) Z=some p):∃ds xs a,es.mapM (r.m Z)=some ds/\Z y=some (.own (.list xs))/\N f ds xs=some (.none,a)/\some (Fl.next,Z.set y (.own (.list a)))=some p:=
 bV (o:=es.mapM (r.m Z)) h λds b h=>bV (o:=Z y) h λsl c h=>bV (o:=sl.kC) h λxs e h=>bV (o:=N f ds xs) h λq g h=>bV (o:=q.1.n?) h λ_ i h=>⟨ds,xs,q.2,b,c.trans (MY some (Slot.lg e)),g.trans (MY (λd=>some (d,q.2)) (D.L1 i)),h⟩
theorem tT {i e:ME}{G:Prop}(h:zc N r x (.setItem y i e) Z=some p)(k1:∀d xs j,r.m Z e=some d->r.m Z i=some (.int j)->Z y=some (.own (.list xs))->(0<=j/\j<xs.length/\xs.length<2^40)->some (Fl.next,Z.set y (.own (.list (xs.set j.toNat d))))=some p->G)(k2:∀d ks vs s,r.m Z e=some d->r.m Z i=some (.str s)->Z y=some (.own (.dict ks vs))->ks.length<2^10->some (Fl.next,Z.set y (.own (.dict (putD ks vs s d).1 (putD ks vs s d).2)))=some p->G):G:=
 bV (o:=r.m Z e) h λd c h=>bV (o:=r.m Z i) h λk f h=>bV (o:=Z y) h λsl g h=>by
  cases k with
  |int j=>exact bV (o:=sl.kC) h λxs a h=>cT h λb h=>k1 d xs j c f (g.trans (MY some (Slot.lg a))) b h
  |str s=>exact bV (o:=sl.qq) h λq a h=>cT h λb h=>k2 d q.1 q.2 s c f (g.trans (MY some (Slot.vC a))) (Nr (M9.mp b).2) h
  |_=>exact ns h
theorem tU {k:Nat}{e:ME}(h:zc N r x (.setAttr y k e) Z=some p):∃d fs,r.m Z e=some d/\Z y=some (.obj fs)/\(k=fs.length/\k<5)/\some (Fl.next,Z.set y (.obj (fs++[d])))=some p:=
 bV (o:=r.m Z e) h λd a h=>bV (o:=Z y) h λsl b h=>bV (o:=sl.zj) h λfs c h=>cT h λf h=>⟨d,fs,a,b.trans (MY some (Slot.A9 c)),f,h⟩
theorem xW {e:ME}(h:zc N r x (.unpack xs e) Z=some p):∃ds Z1,r.m Z e=some (.tup ds)/\dA Z (xs.map λx=>(x,0)) ds=some Z1/\some (Fl.next,Z1)=some p:=
 bV (o:=r.m Z e) h λd a h=>bV (o:=d.t?) h λds b h=>bV (o:=dA Z (xs.map λx=>(x,0)) ds) h λZ1 c h=>⟨ds,Z1,a.trans (MY some (D.L0 b)),c,h⟩
theorem IC {e:ME}(h:zc N r x (.aug y op e) Z=some p):∃a b d,Z y=some (.val (.int a))/\r.m Z e=some (.int b)/\(op== .Add||op== .Sub||op== .BitXor||op== .LShift||op== .BitOr)=true/\D.bin op (.int a) (.int b)=some d/\some (Fl.next,Z.set y (.val d))=some p:=by
 cases c:(op== .Add||op== .Sub||op== .BitXor||op== .LShift||op== .BitOr)
 .exact ns ((M7 (by rw[c];rfl)).symm.trans h)
 .exact bV (o:=Z y) ((M8 (by rw[c];exact NX)).symm.trans h) λsl f h=>bV (o:=sl.int?) h λa g h=>bV (o:=r.m Z e) h λw i h=>bV (o:=w.i?) h λb j h=>bV (o:=D.bin op (.int a) (.int b)) h λd k h=>⟨a,b,d,f.trans (MY some (Slot.int_is g)),i.trans (MY some (D.z9 j)),rfl,k,h⟩
theorem tV {i e:ME}{G:Prop}(h:zc N r x (.eh y i e) Z=some p)(c:∀ks vs s j a b,Z y=some (.own (.dict ks vs))->r.m Z i=some (.str s)->ks.idxOf? s=some j->vs[j]?=some (.int a)->r.m Z e=some (.int b)->ks.length<2^10->some (Fl.next,Z.set y (.own (.dict (putD ks vs s (.int (a+b))).1 (putD ks vs s (.int (a+b))).2)))=some p->G):G:=
 bV (o:=r.m Z i) h λk d h=>bV (o:=Z y) h λsl f h=>bV (o:=sl.qq) h λq g h=>bV (o:=k.s?) h λs l h=>bV (o:=q.1.idxOf? s) h λj m h=>bV (o:=q.2[j]?) h λu n h=>bV (o:=u.i?) h λa t h=>bV (o:=r.m Z e) h λw v h=>bV (o:=w.i?) h λb z h=>cT h λA h=>
  c q.1 q.2 s j a b (f.trans (MY some (Slot.vC g))) (d.trans (MY some (D.J9 l))) m (n.trans (MY some (D.z9 t))) (v.trans (MY some (D.z9 z))) A h
theorem xX {e:ME}(h:zc N r x (.append y e) Z=some p):∃d xs sl,r.m Z e=some d/\xs.length<2^20/\((Z y=some (.own (.list xs))/\sl=.own (.list (xs++[d])))\/(Z y=some (.ext xs)/\sl=.ext (xs++[d])))/\some (Fl.next,Z.set y sl)=some p:=
 bV (o:=r.m Z e) h λd g h=>bV (o:=Z y) h λsl i h=>bV (o:=sl.app d) h λc a b=>by
  have b:some (Fl.next,Z.set y c)=some p:=b
  clear h
  cases sl with
  |own w=>exact bV (o:=w.l?) a λxs j a=>cT a λf a=>⟨d,xs,c,g,f,.inl ⟨i.trans (MY (λd=>some (Slot.own d)) (D.H9 j)),(MW a).symm⟩,b⟩
  |ext xs=>exact cT a λf a=>⟨d,xs,c,g,f,.inr ⟨i,(MW a).symm⟩,b⟩
  |_=>exact ns a
theorem xY {e:ME}(h:zc N r x (.extend y e) Z=some p):∃ds xs,r.v Z e=some (.list ds)/\Z y=some (.own (.list xs))/\xs.length+ds.length<2^20/\some (Fl.next,Z.set y (.own (.list (xs++ds))))=some p:=
 bV (o:=r.v Z e) h λw a h=>bV (o:=w.l?) h λds b h=>bV (o:=Z y) h λsl c h=>bV (o:=sl.kC) h λxs d h=>cT h λf h=>⟨ds,xs,a.trans (MY some (D.H9 b)),c.trans (MY some (Slot.lg d)),f,h⟩
theorem pH {i e:ME}{G:Prop}(h:zc N r x (.cG y i e) Z=some p)(b:∀a j ds xs,Z y=some (.rows a)->r.m Z i=some (.int j)->(0<=j/\j<lim)->a[j.toNat]?=some xs->r.v Z e=some (.list ds)->xs.length+ds.length<2^20->some (Fl.next,Z.set y (.rows (a.set j.toNat (xs++ds))))=some p->G):G:=
 bV (o:=r.m Z i) h λk c h=>bV (o:=Z y) h λsl d h=>bV (o:=sl.zi) h λa f h=>bV (o:=k.i?) h λj g h=>bV (o:=r.v Z e) h λw l h=>bV (o:=w.l?) h λds m h=>cT (o:=(a[j.toNat]?).bind λxs=>if xs.length+ds.length<2^20 then some (Fl.next,Z.set y (.rows (a.set j.toNat (xs++ds)))) else none) h λn h=>bV (o:=a[j.toNat]?) h λxs q h=>cT h λs h=>
  b a j ds xs (d.trans (MY some (Slot.ET f))) (c.trans (MY some (D.z9 g))) n q (l.trans (MY some (D.H9 m))) s h
end
section
variable {W:Wd}{U:UT}{N:NT}{n l:Nat}{A:Around}{E:Value->Shared->Prop}{s s0 s1 s2 s4 s':Shared}{env cenv:Env}{c:CT}{k:Nat}{sc isc:Scope}{R:Nat->aD}{Mu Mu' Mu0 X0:aD}{Z Z':St}{X Y:aD}{aE:List Str}{ow ow':Nat->aD}{x:MS->Ex}{go:Stmt->Option MS}
theorem oj {e:Expr}{d:ME}(h:(cm c k).e sc e=some d):∀a b st q,e≠ .Slice a b st q:=by
 intro a b st q e
 rw[e] at h
 cases k with
 |zero=>exact ns h
 |succ k=>exact ns h
theorem tW {b d:Type}{f:b->Option d}{xs:List b}:∀{ys:List d},ah f xs=some ys-> ∀(i:Nat) x y,xs[i]?=some x->ys[i]?=some y->f x=some y:=by
 induction xs with
 |nil=>exact λ_ i x y a _=>ns a
 |cons x xs e=>
  intro ys h
  refine bZ h λy g j m=>λi=>?_
  cases i with
  |zero=>exact λq r o p=>MW o▸MW p▸j
  |succ i=>exact e m i
theorem rJ {m:Nat}:ex U N m .stuck Z=none:=by
 cases m<;>rfl
theorem EU {a:Type}{o:Option a}{y:a}{it:ME}(h:(if(!noOwn Z it)=true then none else o)=some y):noOwn Z it=true/\o=some y:=by
 cases hn:noOwn Z it
 .rw[hn] at h;exact ns h
 .rw[hn] at h;exact⟨rfl,h⟩
theorem EW {a b:Type}{f:a->b}{xs:List a}{i:Nat}{x:a}{y:b}(d:xs[i]?=some x)(e:(xs.map f)[i]?=some y):f x=y:=MW ((MY (Option.map f) d).symm.trans (Nz.symm.trans e))
theorem tX {b m:Nat}(e:∀{st:Stmt}{ms:MS},cS c sc b st=some ms-> ∀m,JN W c sc env l A st (ex U N m ms))(a:List Stmt):tR W c sc env l A a (ay (ex U N m) (a.map λs=>(cS c sc b s).getD .stuck)):=
 A4 (MX ..).symm λi d j f g=>by
  rw[<-EW f g]
  cases hc:cS c sc b d with
  |none=>exact λMu0 X0 s0 ow Z s o Z' hx=>ns (rJ.symm.trans hx)
  |some h=>exact e hc m
theorem kM (w:nF W)(nk:rG W N l)(S:∀n,bF W U l n)(G:Nat):∀{st:Stmt}{ms:MS},cS c sc G st=some ms-> ∀m,JN W c sc env l A st (ex U N m ms):=by
 induction G with
 |zero=>exact λh=>ns h
 |succ G L=>
  intro st ms h m
  cases m with
  |zero=>exact λMu0 X0 s0 ow Z s fl Z' hx=>ns hx
  |succ m=>
   replace h:=KA (show LV c sc (cm c 40) (cS c sc G) st=some ms from h)
   show JN W c sc env l A st (zc N (ev U 40) (ex U N m) ms)
   have r:∀{a:List Stmt} {as:List MS},ah (cS c sc G) a=some as->tR W c sc env l A a (ay (ex U N m) as):=λz=>A4 (kL z).symm λi M m' o p=>L (tW z i M m' o p) m
   intro Mu0 X0 s0 ow Z s fl Z' hx F E
   induction h with
   |Hy B hg O u hi=>exact JU (Ba hx) λH D d P o p I e=>cu e (EL w nk S B O hg u o hi p I F)
   |asg hi J=>exact bV hx λd f e=>cu e (Kt w.w S hi J f F)
   |own hi J hf=>exact bV hx λd f e=>bV e λsl hs e=>cu e (Ku w.w S hi J hf f hs F)
   |cN hn v u o p I h4=>exact bV hx λH f e=>bV e λZ1 hs e=>cu e (EH w.w S hn v u o p I h4 f hs F)
   |unpack hv hn v J=>exact aP (xW hx) λH Z1 f hs e=>cu e (A0 S hv hn v J f hs F)
   |setItem hi o p=>exact tT hx (λd D j f Q T K e=>cu e (xD S hi p o f Q ⟨K.1,K.2.1⟩ K.2.2 F T)) λd ks vs y f Q T K e=>cu e (xE S hi p o f Q K F T)
   |setAttr hi B h=>exact jb (tU hx) λd fs f g hc e=>cu e (xO w.toIz S hi B h f hc.1 hc.2 F g)
   |chain ht hn v h=>exact bV hx λd f e=>cu e (EF S hn v h f ht F)
   |aug hi h=>exact DJ (IC hx) λa b d g hb ho f e=>cu e (Kw S hi h hb ho f F g)
   |eh hi o p=>exact tV hx λks vs y j a b g hy B z hb C e=>cu e (xF S hi p o hb hy B z C (oj o) F g)
   |append C hi h=>exact dX (xX hx) λd D sl f hn g e=>cu e (AL S hi C h f hn F g)
   |extend C hi h=>exact jb (xY hx) λH D f g hn e=>cu e (AM S hi C h f hn F g)
   |cG C hi o h=>exact pH hx λrs j H D g B h0 hr f hn e=>cu e (rE S hi C o B h0 hr (oj o) h f hn F g)
   |Hz hg O u hi=>exact dX (Bb hx) λH D P o p I e=>cu e (EK w nk S O hg u o hi p I F)
   |@iff t a b V mt h=>
    refine bV hx λq hq hx=>L6 S h hq F λs' F'=>?_
    cases q with
    |true=>exact tX L a _ _ _ _ _ _ _ _ hx F' E
    |false=>exact tX L b _ _ _ _ _ _ _ _ hx F' E
   |@cW t it a b V t' it' as bs ht hi z hb=>
    refine au (EU hx) λhno hx=>bV hx λD hxs hx=>bV hx λr0 hr hx=>Kz S ht hi hno hxs hr (bo:=ay (ex U N m) bs) ?_ (r z) (r hb) F
    cases r0 with|mk f0 Z0=>cases f0<;>exact hx
   |du h z=>exact EI S h hx (r z) F
   |ret h=>exact bV hx λd f e=>cu e (Kv S h f F)
   |brk=>exact cu hx (wpAny_Break ⟨ow,F,rfl,Step.refl⟩)
end
theorem tY {kd:Str->Option NameKind}{x:Str}{b:List (Str×Value)}:∀{m:Str->Option Value},x∉b.map (·.1)->bindL kd b m x=m x:=by
 induction b with
 |nil=>exact λ_=>rfl
 |cons p r a=>
  intro m h
  have hx:¬x=p.1:=λe=>h (Np.mpr (.inl e))
  refine(a λe=>h (Nj _ e)).trans ?_
  by_cases hk:kd p.1=some .local
  .rw[M7 hk];exact M8 hx
  .rw[M8 hk]
theorem tZ {kd:Str->Option NameKind}{x:Str}{b:List (Str×Value)}:∀{m:Str->Option Value},x∉b.map (·.1)->bindC kd b m x=m x:=by
 induction b with
 |nil=>exact λ_=>rfl
 |cons p r a=>
  intro m h
  have hx:¬x=p.1:=λe=>h (Np.mpr (.inl e))
  refine(a λe=>h (Nj _ e)).trans ?_
  by_cases hk:kd p.1=some .local
  .rw[M7 hk]
  .rw[M8 hk];exact M8 hx
theorem Bc {kd:Str->Option NameKind}{x:Str}{v:Value}(c:kd x=some .local){b:List (Str×Value)}:∀{m:Str->Option Value},(b.map (·.1)).Nodup->(x,v)∈b->bindL kd b m x=some v:=by
 induction b with
 |nil=>exact λ_ h=>absurd h Nl
 |cons p r d=>
  intro m hn h
  cases p with|mk n u=>
  refine(Np.mp h).elim (λe=>au (Prod.mk.inj e) λa f=>(tY λq=>(NA.mp hn).1 (a▸q)).trans ?_) λh=>d (NA.mp hn).2 h
  rw[M7 (a▸c)];exact(M7 a).trans (MY some f.symm)
theorem Bd {kd:Str->Option NameKind}{x:Str}{v:Value}(c:¬kd x=some .local){b:List (Str×Value)}:∀{m:Str->Option Value},(b.map (·.1)).Nodup->(x,v)∈b->bindC kd b m x=some v:=by
 induction b with
 |nil=>exact λ_ h=>absurd h Nl
 |cons p r d=>
  intro m hn h
  cases p with|mk n u=>
  refine(Np.mp h).elim (λe=>au (Prod.mk.inj e) λa f=>(tZ λq=>(NA.mp hn).1 (a▸q)).trans ?_) λh=>d (NA.mp hn).2 h
  rw[M8 (a▸c)];exact(M7 a).trans (MY some f.symm)
theorem vD {ks:List Str}:∀{vs:List Value},vs.length=ks.length->(ks.zip vs).map (·.1)=ks:=by
 induction ks with
 |nil=>exact λ_=>rfl
 |cons k ks a=>
  intro vs h
  cases vs with
  |nil=>exact nomatch h
  |cons v vs=>exact MY (k:: ·) (a (OP h))
structure eF (W:Wd)(a:Addr)(c:CT)(params:List Str)(body:List Stmt)(sc:Scope):Prop where
 ex:∃(o:Obj) (fd:FuncData),W.h0.get? a=some o/\o.data=.func fd/\fd.body=.stmts body/\fd.scope=sc/\W.h0.CodeRec fd.code fd.qualname/\(∀vs:List Value,vs.length=params.length->bindArgs fd ⟨vs,[]⟩=pure (params.zip vs))/\
  fd.closure=[]/\fd.globals=mainGlobals/\fd.builtins=builtinsNs
 kinds:(params.all λy=>sc.names.lookup y==some .local||sc.names.lookup y==some .cell)=true
 ID:(sc.names.all λp=>p.2 != .free)=true
 co:sc.isCoroutine=false
 gen:sc.isGenerator=false
 kind:sc.kind=.function
 tb:lQ c.aE=true
 pre:params<+:c.aE
section
variable {W:Wd}{A:Around}{E:Value->Shared->Prop}{s s₁:Shared}{c:CT}{sc:Scope}{l:Nat}{params:List Str}{body:List Stmt}{a:Addr}
structure DD (W:Wd)(c:CT)(params:List Str)(sc:Scope)(l:Nat)(A:Around)(env:Env)(s:Shared)(vs:List Value)(s₁:Shared):Prop where
 ok:jx sc env
 kp:Keeps s s₁
 live:fh env s₁.heap
 fresh:∀b,bu env b->s.heap.get? b=none
 at_:∀(i:Nat) x v,params[i]?=some x->vs[i]?=some v->aJ env s₁.heap x v
 good:Good A l
 frame:env.frame=some env.locals
theorem lh {a b c l:Nat}(h:b<=c):a+b+c*l<=a+c*(l+1):=by
 rw[Nat.mul_succ,Nat.add_assoc,O3 b];exact Ov (Ov h _) _
theorem fK {A:Around}{l:Nat}(g:Good A (l+1)):Good (A.deeper env) l:=
 ⟨g.hh,M5 (lh (by decide)) g.depth,M5 (lh (by decide)) g.units⟩
theorem EX {p:Prop}(h:some NameKind.cell=some .local):p:=NameKind.noConfusion (MW h)
theorem mD (F:eF W a c params body sc)(lim:W.h0.NoLimit)(hb:∀b o,W.h0.get? b=some o->s.heap.get? b=some o)(m:A.depth<1000)(g:∀env,Good (A.deeper env) l){vs:List Value}(D:vs.length=params.length){R:Result->Shared->Prop}(h:∀env s₁,DD W c params sc l (A.deeper env) env s vs s₁->wpAny W.M (A.deeper env) (execs body env) (λf s'=>R (.ok (.ret (match f with| .ret v=>v|_=>.none))) s')
   (λe s'=>wpAny W.M (A.deeper env) (leaving env e) (λ_ p=>R (.error e) p) (λe' p=>R (.error e') p) s') s₁):codeAny W.M A (.call (.ref a) ⟨vs,[]⟩) R s:=by
 refine JS F.ex λo fd N O G P H r u I=>au I λhg J=>?_
 subst P
 have Q:=F.kind
 have w:=kindsX (binds:=params.zip vs) (scope:=fd.scope) (Nx.mpr λy d=>Nx.mp F.kinds y.1 (vD D▸List.mem_map_of_mem (f:=(·.1)) d))
 refine codeAny_call_cells m (hb _ _ N) O (lim.keeps hb) (H.keeps hb) G (r vs D) u (w _) (λs₁ x=>?_) F.co F.gen F.kind
 refine h (callEnvC fd s.heap.objs.size a) s₁ ⟨⟨F.kind,hg,J,λy k j _=>j,λy d=>d.elim (λd=>⟨Option.isSome_iff_exists.mp (cellsFrom_some _ _ _ (.inl d)),.inl d⟩) λd=>nb (Nx.mp F.ID _ (NC d)),⟨λn t K e=>absurd (x.above n t (NC K)) (e▸Oa _),λn V t S T=>name_of_addr x.apart (NC S) (NC T)⟩⟩,x.done,⟨⟨_,x.toInCall.ns⟩,λn t K=>⟨_,x.cell n t K⟩⟩,λb L=>?_,λi y v d U=>?_,g _,rfl⟩
 .cases e:s.heap.get? b with
  |none=>rfl
  |some ob=>
   have z:=Heap.lt_size e
   exact L.elim (λe=>absurd (e▸z) (Oa _)) λ⟨n,hn⟩=>absurd (NW z (x.above n b (NC hn))) (Oa _)
 .have M:(y,v)∈params.zip vs:=Nw (i:=i) (List.getElem?_zip_eq_some.mpr ⟨d,U⟩)
  have B:((params.zip vs).map (·.1)).Nodup:=(vD D).symm▸(F.pre.sublist).nodup (pg F.tb)
  exact(w (s.heap.objs.size+1) _ M).elim (λj=>.inl ⟨j,_,x.toInCall.ns,Bc j B M⟩) λj=>ak (Option.isSome_iff_exists.mp j.2) λt C=>.inr ⟨.inl j.1,t,C,Bd (kd:=λn=>fd.scope.names.lookup n) (v:=v) (λq=>EX (j.1.symm.trans q)) B M▸x.cell y t C⟩
theorem pI (F:eF W a c params body sc)(lim:W.h0.NoLimit)(hb:∀b o,W.h0.get? b=some o->s.heap.get? b=some o)(d:A.depth<1000)(g:∀env,Good (A.deeper env) l){vs:List Value}(e:vs.length=params.length){R:Result->Shared->Prop}(h:∀env s₁,DD W c params sc l (A.deeper env) env s vs s₁-> ∀E,wpAny W.M (A.deeper env) (execs body env) (λf s'=>R (.ok (.ret (match f with| .ret v=>v|_=>.none))) s') E s₁):codeAny W.M A (.call (.ref a) ⟨vs,[]⟩) R s:=
 mD F lim hb d g e λenv s₁ x=>h env s₁ x _
theorem vE (F:eF W a c params body sc)(lim:W.h0.NoLimit)(hb:∀b o,W.h0.get? b=some o->s.heap.get? b=some o)(g:Good A (l+1)){vs:List Value}(d:vs.length=params.length){Q:Value->Shared->Prop}(h:∀env s₁,DD W c params sc l (A.deeper env) env s vs s₁-> ∀E,wpAny W.M (A.deeper env) (execs body env) (λf s'=>Q (match f with| .ret v=>v|_=>.none) s') E s₁):wpAny W.M A (call (.ref a) vs) Q E s:=
 wpAny_call (pI F lim hb (NW (M5 (NM _ _) g.depth) (by decide)) (λ_=>fK g) d h)
end
noncomputable def Fl.out:Fl->Option D
 | .next=>some .none
 | .ret d=>some d
 | .brk=>none
noncomputable def Slot.KC:Slot->Option (List D)
 | .ext a=>some a
 |_=>none
noncomputable def rF (U:UT)(N:NT)(body:List MS)(ds:List D):Option D:=(ay (ex U N 12) body (λi=>(ds[i]?).map .val)).bind λp=>p.1.out
noncomputable def rN (U:UT)(N:NT)(body:List MS)(ds:List D)(xs:List D):Option (D×List D):=
 (ay (ex U N 12) body (λi=>if i=ds.length then some (.ext xs) else(ds[i]?).map .val)).bind λp=>(p.2 ds.length).bind λsl=>sl.KC.bind λa=>p.1.out.map λd=>(d,a)
theorem Be {sl:Slot}(h:sl.KC=some ys):sl=.ext ys:=by
 cases sl with
 |ext a=>exact MW h▸rfl
 |_=>exact ns h
section
variable {W:Wd}{U:UT}{N:NT}{A:Around}{E:Value->Shared->Prop}{s s₁:Shared}{c:CT}{sc:Scope}{l:Nat}{params:List Str}{body:List Stmt}{a:Addr}{env:Env}{vs:List Value}{Mu Ex:aD}{Z:St}{ds:List D}
theorem lj (w:nF W)(d:rG W N l)(S:∀n,bF W U l n)(b m:Nat)(a:List Stmt):tR W c sc env l A a (ay (ex U N m) (a.map λs=>(cS c sc b s).getD .stuck)):=tX (kM w d S b) a
noncomputable def JO (J:Nat)(Ex:aD):Nat->aD:=λi b=>i=J/\Ex b
theorem iY.all {sc:Scope}{env:Env}{b:Addr}(h:iY sc env b):bu env b:=kX h
theorem DD.fz (X:DD W c params sc l A env s vs s₁){J:Nat}(d:∀b,Ex b->Mu b):Fz Mu s.heap (bU Mu sc env (JO J Ex)) s₁.heap:=λb o m e=>
 ⟨λh=>h.elim m λh=>h.elim (λh=>az (X.fresh b h.all) e) λ⟨_,h⟩=>m (d b h.2),ag X.kp b o e⟩
theorem enter (X:DD W c params sc l A env s vs s₁)(tb:lQ c.aE=true)(hb:∀b o,W.h0.get? b=some o->s.heap.get? b=some o)(old:Old Mu s.heap)(ab:∀b,Mu b->W.h0.get? b=none)(J:Nat)(hEx:∀b,Ex b->Mu b)(view:View W c.aE env (JO J Ex) (bU Mu sc env (JO J Ex)) s₁.heap Z)(hJ:∀sl,Z J=some sl->sl.free.isSome-> ∀b, ¬Ex b):FS W c sc env l A Mu Ex s (JO J Ex) Z s₁ where
 cx:=by
  refine⟨X.ok,λb o e=>ag X.kp b o (hb b o e),?_,λi b h=>.inr (.inr ⟨i,h⟩),?_,view,X.good,tb,X.live⟩
  .exact λb h=>h.elim (λh=>ak (old b h) λo e=>⟨o,ag X.kp b o e⟩) λh=>h.elim X.live.lives λ⟨i,h⟩=>ak (old b (hEx b h.2)) λo e=>⟨o,ag X.kp b o e⟩
  .refine λb h=>h.elim (ab b) λh=>h.elim (λh=>?_) λ⟨i,h⟩=>ab b (hEx b h.2)
   cases e:W.h0.get? b with
   |none=>rfl
   |some o=>exact az (X.fresh b h.all) (hb b o e)
 no:=λb f i h=>ak (old b (hEx b h.2)) λo e=>az (X.fresh b f.all) e
 kb:=KB.of X.kp
 fresh:=λb f=>X.fresh b f.all
 i4:=λi sl e hs b h=>absurd h.2 (hJ sl (h.1▸e) hs b)
 sQ:=λi b h=>.inr h.2
 hZ:=λi j b h1 h2=>h1.1.trans h2.1.symm
 ia:=hEx
 fk:=λb h=>old b (hEx b h)
 apart:=λi b h _=>h.2
 ext:=λi sl _ _ b h=>h.2
noncomputable def Ma (f:Flow):Value:=match f with| .ret v=>v|_=>.none
theorem vF {fl:Fl}{f:Flow}{d:D}(e:fl.out=some d)(b:Iv W Mu h fl f):Rep W Mu h d (Ma f):=by
 cases fl with
 |next=>exact fU (show f=.next from b) (MW e▸qu)
 |brk=>exact ns e
 |ret i=>exact af b λv g r=>fU g (MW e▸r)
theorem ji {aE:List Str}(h:ks<+:aE){i:Nat}{x:Str}(e:ks[i]?=some x):aE[i]?=some x:=by
 exact ak h λt b=>b▸(Of (Ny.mp e).1).trans e
theorem oo {vs:List Value}(X:DD W c params sc l A env s vs s₁)(pre:params<+:c.aE){J:Nat}(g:∀b,Ex b->Mu b){f:List Value}(r:aq W Mu s.heap ds f)(j:ds.length<=params.length)(k:∀(i:Nat) v,f[i]?=some v->vs[i]?=some v):∀(i:Nat) d,ds[i]?=some d-> ∃x v,c.aE[i]?=some x/\aJ env s₁.heap x v/\bj W (JO J Ex i) (bU Mu sc env (JO J Ex)) s₁.heap (.val d) v:=by
 intro i d e
 refine af (r.at e) λv h m=>?_
 have hi:i<params.length:=NF (Ny.mp e).1 j
 have hx:params[i]?=some params[i]:=Nc hi
 exact⟨_,v,ji pre hx,X.at_ i _ v hx (k i v h),Rep.move (X.fz g) m⟩
theorem KD (w:nF W)(lim:W.h0.NoLimit)(m:rG W N l)(S:∀n,bF W U l n)(F:eF W a c params body sc){A:Around}{d:D}(g:Good A (l+1))(hb:∀b o,W.h0.get? b=some o->s.heap.get? b=some o)(old:Old Mu s.heap)(q:∀b,Mu b->W.h0.get? b=none)(r:aq W Mu s.heap ds vs)(k:ds.length=params.length)(h:rF U N (body.map λs=>(cS c sc 12 s).getD .stuck) ds=some d):GV W.M A s (call (.ref a) vs) (λh v=>Rep W Mu h d v):=λQ E K=>by
 have t:vs.length=params.length:=r.length.symm.trans k
 refine vE F lim hb g t λenv s₁ X E=>?_
 have fs:=enter (Ex:=λ_=>False) (Z:=λi=>(ds[i]?).map .val) X F.tb hb old q 0 (λ_ h=>h.elim) (λi sl e=>af (om e) λd e u=>u▸oo (Ex:=λ_=>False) (J:=0) X F.pre (λ_ h=>h.elim) r (NR k) (λ_ _ h=>h) i d e) λ_ _ _ _ h=>h
 refine bV h λp hs h=>NH (lj w m S 12 12 body _ _ _ _ _ _ _ _ (hs:_=some (p.1,p.2)) fs E) (λf z hp=>bf hp λx y j st=>K _ _ (y.kb.keeps λb h=>h.elim) (vF h j)) λ_ _ e=>e
theorem EY (w:nF W)(lim:W.h0.NoLimit)(M:rG W N l)(S:∀n,bF W U l n)(F:eF W a c params body sc){A:Around}{d:D}{b0:Addr}{m:Nat}(g:Good A (l+1))(hb:∀b o,W.h0.get? b=some o->s.heap.get? b=some o)(old:Old Mu s.heap)(O:∀b,Mu b->W.h0.get? b=none)(r:aq W Mu s.heap ds vs)(P:Mu b0)(Q:s.heap.get? b0=some (aR y m))(R:aq W Mu s.heap xs y)(z:ds.length+1=params.length)(h:rN U N (body.map λs=>(cS c sc 12 s).getD .stuck) ds xs=some (d,q))(E:Value->Shared->Prop):
  wpAny W.M A (call (.ref a) (vs++[Value.ref b0])) (λv s'=>KB (· =b0) s s'/\Rep W Mu s'.heap d v/\ ∃j B,s'.heap.get? b0=some (aR j B)/\aq W Mu s'.heap q j) E s:=by
 have T:(vs++[Value.ref b0]).length=params.length:=Ni.trans ((MY (· +1) r.length.symm).trans z)
 refine vE F lim hb g T λenv s₁ X E=>?_
 have k:∀b,b=b0->Mu b:=λb e=>e▸P
 have fs:=enter X F.tb hb old O ds.length k (Z:=λi=>if i=ds.length then some (.ext xs) else(ds[i]?).map .val) (λi sl e=>by
  have e:(if i=ds.length then some (Slot.ext xs) else(ds[i]?).map .val)=some sl:=e
  by_cases hi:i=ds.length
  .rw[M7 hi] at e
   have hx:params[i]?=some (params[i]'(hi▸z▸N7 _)):=Nc _
   refine⟨_,_,ji F.pre hx,X.at_ _ _ (Value.ref b0) hx ?_,MW e▸⟨b0,y,m,rfl,⟨hi,rfl⟩,ag X.kp _ _ Q,R.move (X.fz k)⟩⟩
   rw[hi,r.length];exact List.getElem?_concat_length
  .rw[M8 hi] at e
   exact af (om e) λd e u=>u▸oo (J:=ds.length) X F.pre k r (z▸OK _) (λi v h=>(Of (Ny.mp h).1).trans h) i d e) λsl e hs=>by
  have e:(if ds.length=ds.length then some (Slot.ext xs) else(ds[ds.length]?).map .val)=some sl:=e
  rw[M7 rfl] at e
  exact nb ((MY (λs:Slot=>s.free.isSome) (MW e)).trans hs)
 refine bV h λp hs h=>bV h λsl t h=>bV h λys L h=>af (om h) λd' V u=>NH (lj w M S 12 12 body _ _ _ _ _ _ _ _ (hs:_=some (p.1,p.2)) fs E) (λf s' hp=>bf hp λC G H st=>?_) λ_ _ e=>e
 refine aP (G.cx.view _ _ (t.trans (MY some (Be L)))) λx v hx na I=>dX I λb1 j B _ K Y l'=>?_
 have e1:b1=b0:=G.ext _ _ (t.trans (MY some (Be L))) rfl b1 K
 have mv:Fz (bU Mu sc env C) s'.heap Mu s'.heap:=λb o m e=>⟨λh=>m (.inl h),e⟩
 exact⟨G.kb,(Prod.mk.inj u).1▸vF V H,j,B,e1▸Y,(Prod.mk.inj u).2▸l'.move mv⟩
end
section
variable {W:Wd}{U:UT}{N:NT}{A:Around}{E:Value->Shared->Prop}{s s₁:Shared}{c:CT}{sc:Scope}{l:Nat}{params:List Str}{body:List Stmt}{fI:Addr}{env:Env}{vs:List Value}{Mu Ex:aD}{Z:St}{ds:List D}
noncomputable def DE (n:Nat):aD:=λb=>b=n+1\/b=n
noncomputable def xZ (W:Wd)(h:Heap):Heap:=(h.push emptyDict).push (instObj W.cls h.objs.size)
theorem ig {h:Heap}{b:Addr}{o:Obj}(e:h.get? b=some o):(xZ W h).get? b=some o:=Heap.get?_push_of_some _ (Heap.get?_push_of_some _ e)
theorem oq (h:Heap):(xZ W h).get? (h.objs.size+1)=some (instObj W.cls h.objs.size):=by
 have e:=Heap.get?_push_size (h.push emptyDict) (o:=instObj W.cls h.objs.size) rfl
 rw[show(h.push emptyDict).objs.size=h.objs.size+1 from Array.size_push ..] at e
 exact e
theorem ou (h:Heap):(xZ W h).get? h.objs.size=some emptyDict:=Heap.get?_push_of_some _ (Heap.get?_push_size _ rfl)
theorem ll {h:Heap}{b:Addr}(q:DE h.objs.size b):h.get? b=none:=q.elim (λe=>Heap.get?_none_of_le (e▸OK _)) λe=>e▸cI _
theorem IE {n:Nat}{b:Addr}(x:DE n a)(y:DE n b)(h:@LT.lt Nat _ b a):a=n+1/\b=n:=
 x.elim (λe=>y.elim (λq=>absurd h (e▸q▸Oa _)) λq=>⟨e,q⟩) λe=>y.elim (λq=>absurd h (e▸q▸Nat.not_lt.mpr (OK _))) λq=>absurd h (e▸q▸Oa _)
theorem pJ (w:nF W)(lim:W.h0.NoLimit)(nk:rG W N l)(S:∀n,bF W U l n)(G:W.fn 14=some (.ref fI))(F:eF W fI c params body sc){B:D}{fs:List D}(g:Good A (l+1))(hb:∀b o,W.h0.get? b=some o->s.heap.get? b=some o)(old:Old Mu s.heap)(ab:∀b,Mu b->W.h0.get? b=none)(r:aq W Mu s.heap [B] vs)(Y:params.length=2)(h:ay (ex U N 12) (body.map λs=>(cS c sc 12 s).getD .stuck) (λi=>if i=0 then some (.obj []) else if i=1 then some (.val B) else none)=some (.next,Z'))(d:Z' 0=some (.obj fs))(h5:fs.length=5):
  GV W.M A s (call (.ref W.cls) vs) (λh v=>Rep W Mu h (.inst fs) v):=λQ E K=>by
 refine wpAny_call ?_
 cases s with|mk hh H dd t os=>
 have hb:∀b o,W.h0.get? b=some o->hh.get? b=some o:=hb
 have X:=w.w.JK.keeps hb
 refine bf w.init λI hi hf J=>?_
 have J:I=fI:=Value.ref.inj (MW (J.symm.trans G))
 subst J
 refine make_core (makes_of X w.make) (looks_findIn X hi) (λself=>bind_fn X self hf) (.inl rfl) ?_
 generalize a:A.under (.builtin "type.__call__" ⟨.ref W.cls::vs,[]⟩)=q
 have a1:q.handled=A.handled:=a▸rfl
 have a2:q.depth=A.depth+1:=a▸rfl
 have a3:q.units=A.units+1:=a▸rfl
 clear a
 refine r.eB λv0 r' L u=>u.kT ?_
 have j:Keeps (⟨hh,H,dd,t,os⟩:Shared) ⟨xZ W hh,H,dd,t,os⟩:=⟨_,t,rfl,λb o e=>ig e⟩
 refine pI (l:=l) (s:=⟨xZ W hh,H,dd,t,os⟩) F lim (λb o e=>ig (hb b o e)) (a2▸NW (Nat.succ_lt_succ (M5 (NM _ _) g.depth)) (by decide:901<1000)) (λenv=>⟨a1.trans g.hh,M5 (show q.depth+1+3*l<=A.depth+3*(l+1) from by rw[a2];exact lh (b:=2) (by decide)) g.depth,M5 (show q.units+3+12*l<=A.units+12*(l+1) from by rw[a3];exact lh (b:=4) (by decide)) g.units⟩) (by exact Y.symm) λenv s₁ k E=>?_
 have hex:∀b,DE hh.objs.size b->(Mu b\/DE hh.objs.size b):=λb h=>.inr h
 have M:Fz Mu hh (λb=>Mu b\/DE hh.objs.size b) (xZ W hh):=λb o m e=>⟨λh=>h.elim m λh=>az (ll h) e,ig e⟩
 have pa:∀{i:Nat},i<2-> ∃p,params[i]?=some p:=λh=>⟨_,Nc (Y▸h)⟩
 have O:=enter (Z:=λi=>if i=0 then some (.obj []) else if i=1 then some (.val B) else none) k F.tb (λb o e=>ig (hb b o e)) (Mu:=λb=>Mu b\/DE hh.objs.size b) (Ex:=DE hh.objs.size) (λb h=>h.elim (λh=>ak (old b h) λo e=>⟨o,ig e⟩) λh=>h.elim (λe=>e▸⟨_,oq hh⟩) λe=>e▸⟨_,ou hh⟩)
  (λb h=>h.elim (ab b) λh=>by
   cases e:W.h0.get? b with
   |none=>rfl
   |some o=>exact az (ll h) (hb b o e)) 0 hex (λi sl e=>by
   have e:(if i=0 then some (Slot.obj []) else if i=1 then some (.val B) else none)=some sl:=e
   by_cases h0:i=0
   .rw[M7 h0] at e
    refine ak (pa Nat.zero_lt_two) λp hp=>h0.symm▸⟨p,_,ji F.pre hp,k.at_ 0 p _ hp rfl,MW e▸⟨hh.objs.size+1,hh.objs.size,[],rfl,⟨rfl,.inl rfl⟩,ag k.kp _ _ (oq hh),⟨⟨rfl,.inr rfl⟩,N7 _⟩,
     bl (Heap.DictOf.new hh) (λo e=>MW ((Heap.get?_push_size _ rfl).symm.trans e)▸ag k.kp _ _ (ou hh)),Ou _,aq.nil⟩⟩
   .rw[M8 h0] at e
    refine cT e λh1 e=>ak (pa Nat.one_lt_two) λp hp=>h1.symm▸⟨p,_,ji F.pre hp,k.at_ 1 p _ hp rfl,MW e▸Rep.move (k.fz hex) (L.move M)⟩) λsl e hs=>nb ((MY (λs:Slot=>s.free.isSome) (MW (show some (Slot.obj [])=some sl from e))).trans hs)
 refine NH (lj w nk S 12 12 body _ _ _ _ _ _ _ _ h O E) (λf s' hp=>bf hp λP C R st=>fU (show f=.next from R) ?_) λ_ _ e=>e
 refine⟨rfl,K _ _ (((KB.of j).trans C.kb).keeps λb h=>ll h) (aP (C.cx.view _ _ d) λx v hx' na T=>sR T λb1 dx vs' _ V g' y q' hv' l'=>?_)⟩
 refine au (IE (C.ext _ _ d rfl b1 V) (C.ext _ _ d rfl dx y.1) y.2) λe1 e2=>?_
 subst e1;subst e2
 have mv:Fz (bU (λb=>Mu b\/DE hh.objs.size b) sc env P) s'.heap Mu s'.heap:=λb o m e=>⟨λh=>m (.inl (.inl h)),e⟩
 have z:∀b,DE hh.objs.size b-> ¬Mu b:=λb hn h=>ak (old b h) λo e=>az (ll hn) e
 exact .mkInst (z _ (.inl rfl)) g' (z _ (.inr rfl)) q' (l'.length.symm.trans h5) (l'.move mv)
end
structure Pg where
 bd:Nat->Option (Nat×List MS)
 nb:Nat->Option (Nat×List MS)
 init:List MS
 rd:UT->NT->List D->Option D
noncomputable def Fl.IF:Fl->Option Unit
 | .next=>some ()
 |_=>none
theorem IG {fl:Fl}{u:Unit}(h:fl.IF=some u):fl=.next:=by
 cases fl with
 |next=>rfl
 |_=>exact ns h
noncomputable def Bf (P:Pg)(U:UT)(N:NT)(ds:List D):Option D:=(one ds).bind λa=>(ay (ex U N 12) P.init (λi=>if i=0 then some (.obj []) else if i=1 then some (.val a) else none)).bind λp=>p.1.IF.bind λ_=>(p.2 0).bind λsl=>sl.zj.bind λfs=>if fs.length=5 then some (.inst fs) else none
noncomputable def ox (P:Pg):Nat->UT×NT
 |0=>(λ_ _=>none,λ_ _ _=>none)
 |l+1=>(λf a=>if f=7 then Bf P (ox P l).1 (ox P l).2 a else if f=13 then P.rd (ox P l).1 (ox P l).2 a else(P.bd f).bind λq=>if a.length=q.1 then rF (ox P l).1 (ox P l).2 q.2 a else none,
  λf a b=>(P.nb f).bind λq=>if a.length+1=q.1 then rN (ox P l).1 (ox P l).2 q.2 a b else none)
noncomputable def eH (c:CT)(sc:Scope)(body:List Stmt):List MS:=body.map λs=>(cS c sc 12 s).getD .stuck
structure KG (W:Wd)(P:Pg):Prop where
 lim:W.h0.NoLimit
 fn:∀f fv k b,f≠7->f≠13->W.fn f=some fv->P.bd f=some (k,b)-> ∃a c params body sc,fv=.ref a/\eF W a c params body sc/\params.length=k/\b=eH c sc body
 nn:∀f fv k b,W.nn f=some fv->P.nb f=some (k,b)-> ∃a c params body sc,fv=.ref a/\eF W a c params body sc/\params.length=k/\b=eH c sc body
 init:∃fI c params body sc,W.fn 14=some (.ref fI)/\eF W fI c params body sc/\params.length=2/\P.init=eH c sc body
 rd:∀(U:UT) (N:NT) (l:Nat) fv,W.fn 13=some fv->rG W N l->(∀n,bF W U l n)-> ∀(A:Around) (s:Shared) (Mu:aD) (ds:List D) (vs:List Value) (d:D),Good A (l+1)->
  (∀b o,W.h0.get? b=some o->s.heap.get? b=some o)->Old Mu s.heap->(∀b,Mu b->W.h0.get? b=none)->aq W Mu s.heap ds vs->P.rd U N ds=some d->GV W.M A s (call fv vs) (λh v=>Rep W Mu h d v)
 sc:∀(U:UT) (l n:Nat),bF W U l n->k8 W U l n
theorem IH {W:Wd}{P:Pg}(w:nF W)(p:KG W P)(l:Nat):J6 W (ox P l).1 l/\rG W (ox P l).2 l:=by
 induction l with
 |zero=>exact⟨λf k _ A s t e x d _ _ _ _ _ h=>ns h,λf k _ A s t e x d a L m K C _ _ _ _ _ _ _ _ h=>ns h⟩
 |succ l M=>
  refine au M λu z=>?_
  have S:=vp w.w u (λn=>p.sc _ l n)
  refine⟨λf k o A s t e x d g hb old y r h=>?_,λf k o A s t e x d a L m K C g hb old y r N O Q h E=>bV h λq j h=>cT h λhlen h=>DL (p.nn f k q.1 q.2 o j) λY c params body sc D F G H=>D▸EY w p.lim z S F g hb old y r N O Q (hlen.trans G.symm) ((H▸rfl:rN _ _ (eH c sc body) e K=_).trans h) E⟩
  have h:(if f=7 then Bf P (ox P l).1 (ox P l).2 e else if f=13 then P.rd (ox P l).1 (ox P l).2 e else(P.bd f).bind λq=>if e.length=q.1 then rF (ox P l).1 (ox P l).2 q.2 e else none)=some d:=h
  by_cases B:f=7
  .rw[M7 B] at h
   rw[B] at o
   refine fU (MW (o.symm.trans w.Kx)) ?_
   revert r
   exact eV h λd0 h=>λr=>DL p.init λfI c params body sc T F U hi=>bV h λq hs h=>bV h λu V h=>bV h λsl I h=>bV h λfs J h=>cT h λX h=>sK (R:=λd=>GV W.M A s (call (.ref W.cls) x) λh v=>Rep W t h d v) h
    (pJ w p.lim z S T F g hb old y r U ((MY (λb=>ay _ b _) hi).symm.trans (hs.trans (MY (λf=>some (f,q.2)) (IG V)))) (I.trans (MY some (Slot.A9 J))) X)
  .rw[M8 B] at h
   by_cases i:f=13
   .rw[M7 i] at h
    exact p.rd _ _ l k (i▸o) z S A s t e x d g hb old y r h
   .rw[M8 i] at h
    exact bV h λq j h=>cT h λhlen h=>DL (p.fn f k q.1 q.2 B i o j) λa c params body sc D F G H=>D▸KD w p.lim z S F g hb old y r (hlen.trans G.symm) ((H▸rfl:rF _ _ (eH c sc body) e=_).trans h)
noncomputable def subs:Nat->List (List Nat)
 |0=>[[]]
 |n+1=>subs n++(subs n).map (· ++[n])
noncomputable def bK (S:List Nat)(led:Bool):SetTable:={mask:=if S.length<=4 then 7 else 31,place:=S.toArray,dummies:=#[],finger:=0,led,moves:=if S.length<=4 then 0 else 1,plain:=true}
noncomputable def aQ (k:Nat)(S:List Nat):List Nat:=S.filter (· <k)++k::S.filter (k< ·)
noncomputable def pK (S:List Nat)(k:Nat)(led:Bool):Bool:=
 decide ((bK S led).freeSlot (k:Int)=some (k,false))&&
 decide ((bK S led).put k=({bK S led with place:=(aQ k S).toArray},(S.filter (· <k)).length))&&
 decide (aQ k S∈subs 6)&&
 ({bK S led with place:=(aQ k S).toArray}:SetTable).fits (aQ k S).length&&
 decide (S=S.filter (· <k)++S.filter (k< ·))&&
 (if S.length=4 then({bK S led with place:=(aQ k S).toArray}:SetTable).tooFull&&decide (({bK S led with place:=(aQ k S).toArray}:SetTable).relaid ((aQ k S).map λ(k:Nat)=>(k:Int)).toArray (SetTable.grown (aQ k S).length)=some (bK (aQ k S) led,(List.range (aQ k S).length).toArray))&&decide ((aQ k S).length=5)
  else !({bK S led with place:=(aQ k S).toArray}:SetTable).tooFull&&decide (({bK S led with place:=(aQ k S).toArray}:SetTable)=bK (aQ k S) led))
noncomputable def KH:Bool:=(subs 6).all λS=>(List.range 6).all λk=>S.contains k||(pK S k false&&pK S k true)
theorem x6:KH=true:=by decide+kernel
noncomputable def II:Bool:=(subs 6).all λS=>(bK S false).fits S.length&&(bK S true).fits S.length&&S.all (· <6)&&decide S.Nodup&&decide (S.length<=6)&&decide (hashInt 0=0)&&
 (List.range 7).all λi=>((decide (SetTable.below S.toArray (if i=0 then 0 else(S[i - 1]?.getD 0)+1)=i))||decide (S.length<i))
theorem t6:II=true:=by decide+kernel
theorem t7:((List.range 6).all λk=>hashInt (k:Int)==(k:Int))=true:=by decide+kernel
noncomputable def aL (S:List Nat)(v:Nat->Value):Array (Int×Value):=(S.map λ(k:Nat)=>((k:Int),v k)).toArray
noncomputable def x7 (S:List Nat)(v:Nat->Value)(ep:Nat)(led:Bool):Obj:={cls:=.type "set",data:=.set (aL S v) ep (bK S led)}
def oy (h:Heap)(a:Addr)(S:List Nat)(led:Bool):Prop:= ∃v b,S∈subs 6/\(∀k:Nat, ∃t,v k=.int k t)/\h.get? a=some (x7 S v b led)
theorem EZ {S:List Nat}{k:Nat}(a:S∈subs 6)(b:k<6)(hn:k∉S):pK S k led=true:=by
 have h:=Nx.mp (Nx.mp x6 S a) k (Ng.mpr b)
 have c:S.contains k=false:=by simpa using hn
 rw[c,Bool.false_or,NV] at h
 cases led
 .exact h.1
 .exact h.2
structure E0 (S:List Nat)(k:Nat)(led:Bool):Prop where
 free:(bK S led).freeSlot (k:Int)=some (k,false)
 put:(bK S led).put k=({bK S led with place:=(aQ k S).toArray},(S.filter (· <k)).length)
 sub:aQ k S∈subs 6
 fits:({bK S led with place:=(aQ k S).toArray}:SetTable).fits (aQ k S).length=true
 parts:S=S.filter (· <k)++S.filter (k< ·)
 end_:(S.length=4/\({bK S led with place:=(aQ k S).toArray}:SetTable).tooFull=true/\({bK S led with place:=(aQ k S).toArray}:SetTable).relaid ((aQ k S).map λ(k:Nat)=>(k:Int)).toArray (SetTable.grown (aQ k S).length)=some (bK (aQ k S) led,(List.range (aQ k S).length).toArray)/\(aQ k S).length=5)\/
  (({bK S led with place:=(aQ k S).toArray}:SetTable).tooFull=false/\({bK S led with place:=(aQ k S).toArray}:SetTable)=bK (aQ k S) led)
theorem Bg {S:List Nat}{k:Nat}(c:S∈subs 6)(d:k<6)(hn:k∉S):E0 S k led:=by
 have h:=EZ (led:=led) c d hn
 unfold pK at h
 simp only[NV,Nd] at h
 obtain ⟨⟨⟨⟨⟨e,f⟩,g⟩,b⟩,i⟩,a⟩:=h
 refine⟨e,f,g,b,i,?_⟩
 split at a
 .rename_i b
  simp only[NV,Nd] at a
  exact .inl ⟨b,a.1.1,a.1.2,a.2⟩
 .simp only[NV,Nd,Bool.not_eq_true'] at a
  exact .inr a
theorem bM {S:List Nat}(b:S∈subs 6)(led:Bool):(bK S led).fits S.length=true/\(∀k∈S,k<6)/\S.Nodup/\S.length<=6/\ ∀i,i<=S.length->SetTable.below S.toArray (if i=0 then 0 else(S[i - 1]?.getD 0)+1)=i:=by
 have h:=Nx.mp t6 S b
 simp only[NV,Nd,Nx,Ng,Pe] at h
 obtain ⟨⟨⟨⟨⟨⟨f,g⟩,c⟩,d⟩,a⟩,_⟩,e⟩:=h
 refine⟨by cases led<;>assumption,c,d,a,λi hi=>(e i (by exact av.lv (M4 hi a) rfl)).elim id λh=>absurd h (by exact Nat.not_lt_of_le hi)⟩
theorem Bh {k:Nat}(h:k<6):hashInt (k:Int)=(k:Int):=by
 have:=Nx.mp t7 k (Ng.mpr h)
 simpa using this
theorem pL {a:Type}(xs ys:List a)(x:a):SetTable.insertAt (xs++ys).toArray xs.length x=(xs++x::ys).toArray:=by
 unfold SetTable.insertAt
 apply Array.toList_inj.mp
 simp[Array.toList_extract,List.extract_eq_take_drop]
theorem x8 {S:List Nat}{v:Nat->Value}{k:Nat}{x:Value}(hn:k∉S)(hp:S=S.filter (· <k)++S.filter (k< ·)):
  SetTable.insertAt (aL S v) (S.filter (· <k)).length ((k:Int),x)=aL (aQ k S) (λj=>if j=k then x else v j):=by
 have a:∀p:Nat->Bool,(S.filter p).map (λ(j:Nat)=>((j:Int),if j=k then x else v j))=(S.filter p).map (λ(j:Nat)=>((j:Int),v j)):=λp=>N2 λj b=>by
  have:j≠k:=λe=>hn (e▸(Nt.mp b).1)
  simp[this]
 unfold aL aQ
 rw[Nu,Ob,a,a,show(λj:Nat=>if j=k then x else v j) k=x from M7 rfl]
 conv=>lhs;rw[hp,Nu]
 have:=pL ((S.filter (· <k)).map λ(j:Nat)=>((j:Int),v j)) ((S.filter (k< ·)).map λ(j:Nat)=>((j:Int),v j)) ((k:Int),x)
 rw[MX] at this
 rw[<-hp]
 exact this
theorem aU {S:List Nat}{v:Nat->Value}:(aL S v).size=S.length:=by simp[aL]
theorem Bi {S:List Nat}{k:Nat}{v:Nat->Value}(a:(aQ k S).length=5)(h:({bK S led with place:=(aQ k S).toArray}:SetTable).relaid ((aQ k S).map λ(k:Nat)=>(k:Int)).toArray (SetTable.grown (aQ k S).length)=some (bK (aQ k S) led,(List.range (aQ k S).length).toArray))(hs:aQ k S∈subs 6):
  relayAll {bK S led with place:=(aQ k S).toArray} (aL (aQ k S) v) (SetTable.grown (aL (aQ k S) v).size)=(aL (aQ k S) v,bK (aQ k S) led,false):=by
 unfold relayAll
 have b:(aL (aQ k S) v).map (·.1)=((aQ k S).map λ(k:Nat)=>(k:Int)).toArray:=by simp[aL,Function.comp_def]
 rw[b,aU,h]
 dsimp only
 have c:(Array.filterMap (λx=>(aL (aQ k S) v)[x]?) (List.range (aQ k S).length).toArray)=aL (aQ k S) v:=by
  apply Array.toList_inj.mp
  rw[Array.toList_filterMap]
  apply List.ext_getElem?
  intro i
  have:(List.range (aQ k S).length).filterMap (λx=>(aL (aQ k S) v)[x]?)=(aL (aQ k S) v).toList:=by
   rw[<-aU (v:=v)]
   generalize aL (aQ k S) v=es
   obtain ⟨l⟩:=es
   simp only[N1,List.getElem?_toArray]
   induction l with
   |nil=>rfl
   |cons x l d=>
    rw[List.length_cons,List.range_succ_eq_map,O7]
    simp only[List.getElem?_cons_zero,List.filterMap_map,Function.comp_def,List.getElem?_cons_succ]
    rw[d]
  rw[this]
 rw[c]
 have e:coversAll (List.range (aQ k S).length).toArray (aQ k S).length=true:=by
  rw[a];decide
 have f:=(bM hs led).1
 rw[e,aU,f]
 rfl
section
variable {W:Wd}{A:Around}{E:Value->Shared->Prop}{s:Shared}
theorem Bj {S:List Nat}{v:Nat->Value}(c:S∈subs 6)(d:∀k:Nat, ∃t,v k=.int k t):ElemsOf (intKind W.prog W.w) (aL S v).toList:=by
 intro e b
 simp only[aL,Nn] at b
 refine af b λk f a=>?_;subst a
 refine ak (d k) λt ht=>?_
 refine⟨⟨(k:Int),?_,?_⟩,?_⟩
 .show Value.isInt k (v k)=true
  rw[ht];simp[Value.isInt]
 .show(k:Int)=hashInt k
  rw[Bh ((bM c true).2.1 k f)]
 .show(v k).scannable=true
  rw[ht];rfl
theorem find_none {S:List Nat}{v:Nat->Value}{k:Nat}(d:∀k:Nat, ∃t,v k=.int k t)(hn:k∉S):(aL S v).toList.findIdx? (λe=>(intKind W.prog W.w).is (k:Int) e.2)=none:=by
 rw[List.findIdx?_eq_none_iff]
 intro e b
 simp only[aL,Nn] at b
 refine af b λj f a=>?_;subst a
 refine ak (d j) λt ht=>?_
 show Value.isInt k (v j)=false
 rw[ht]
 have c:¬(k:Int)=(j:Int):=λe=>hn (by have:k=j:=Int.ofNat_inj.mp e;exact this▸f)
 have g:¬(j:Int)=(k:Int):=λe=>c e.symm
 simp[Value.isInt,c,g]
theorem find_some {S:List Nat}{v:Nat->Value}{k:Nat}(a:∀k:Nat, ∃t,v k=.int k t)(hn:k∈S):∃j,(aL S v).toList.findIdx? (λe=>(intKind W.prog W.w).is (k:Int) e.2)=some j:=by
 cases h:(aL S v).toList.findIdx? (λe=>(intKind W.prog W.w).is (k:Int) e.2) with
 |some j=>exact⟨j,rfl⟩
 |none=>
  rw[List.findIdx?_eq_none_iff] at h
  have h:=h ((k:Int),v k) (by simp only[aL,Nn];exact⟨k,hn,rfl⟩)
  refine ak (a k) λt ht=>?_
  have h:Value.isInt k (v k)=false:=h
  rw[ht] at h
  simp[Value.isInt] at h
theorem E1 {a:Addr}{S:List Nat}{led:Bool}{k:Nat}{t:Tok}{Q:Value->Shared->Prop}(h:oy s.heap a S led)(P:k<6)(U:∀g,Heap.SameBut a s.heap g->oy g a (if k∈S then S else aQ k S) led->Q .none {s with heap:=g,toks:=s.toks+1}):
  wpAny W.M A (call (.builtin "set.add") [.ref a,.int k t]) Q E s:=by
 refine aP h λv q w x u=>?_
 have V:s.TypeIs (.ref a) "set":=⟨_,u,rfl⟩
 have l:(intKind W.prog W.w).is (k:Int) (.int k t)=true:=by show Value.isInt k (.int k t)=true;simp[Value.isInt]
 have y:(Value.int k t).scannable=true:=rfl
 have m:=(bM w led).1
 have I:(aL S v).size<scanBound:=by rw[aU];have:=(bM w led).2.2.2.1;show _<4096;lia
 refine OJ F.slot_set_add V F.entry_set_add ?_ (F.args_set_add_2 _ _)
 unfold Builtin.«set.add» Builtin.Frozenset.oneOther
 simp only[List.isEmpty_nil,bind_assoc]
 unfold Builtin.Frozenset.addrOf setAdd
 refine MZ (M6 ?_)
 try dsimp only
 refine MZ (M6 ?_)
 try dsimp only
 refine MZ ?_
 refine OH ?_
 refine MZ ((intKind W.prog W.w).pyHash l ?_)
 have fin:∀(b:Bool) g,Heap.SameBut a s.heap g->oy g a (if k∈S then S else aQ k S) led->wpAny W.M A.in1 (ret Value.none) (λfin X=>∃r,fin=.done (.ret r)/\Q r X) E {s with heap:=g,toks:=s.toks+1}:=λb g hs J=>M6 ⟨_,rfl,U g hs J⟩
 unfold setAddHashed setAddHashedIn
 have z:ElemsOf (intKind W.prog W.w) (aL S v).toList:=Bj w x
 refine OH (MZ (wpAny_setState_of (es:=aL S v) u rfl (by rw[aU];exact m) ?_))
 dsimp only
 rw[byScan_of y I z]
 simp only[↓reduceIte]
 unfold setAddByScan
 refine MZ ?_
 refine MZ (wpAny_rule ?_)
 refine MZ (wpAny_setScan_of l u rfl (by rw[aU];exact m) z ?_)
 by_cases o:k∈S
 .refine ak (find_some (W:=W) x o) λj Y=>?_
  rw[Y]
  dsimp only
  refine M6 (M6 ?_)
  exact fin false s.heap (Heap.SameBut.refl a s.heap) (by rw[M7 o];exact⟨v,q,w,x,u⟩)
 .rw[find_none x o]
  dsimp only
  have st:=Bg (led:=led) w P o
  have hh:(intKind W.prog W.w).hash (k:Int)=(k:Int):=Bh P
  rw[hh]
  have B:layNew (bK S led) (aL S v) (k:Int) (.int k t)=(aL (aQ k S) (λj=>if j=k then .int k t else v j),{bK S led with place:=(aQ k S).toArray},false,false):=by
   unfold layNew
   rw[st.free]
   dsimp only
   rw[st.put]
   dsimp only
   rw[x8 o st.parts,aU]
   unfold SetTable.orStandIn
   rw[st.fits]
   rfl
  rw[B]
  dsimp only
  have p:∀j:Nat, ∃H,(λj=>if j=k then Value.int k t else v j) j=.int j H:=λj=>by
   by_cases e:j=k
   .subst e;exact⟨t,by simp⟩
   .refine ak (x j) λH ht=>?_;exact⟨H,by simp[e,ht]⟩
  generalize (λj=>if j=k then Value.int k t else v j)=d at p |-
  have C:∀(b:Bool) {f:Shared} {K:Unit->Shared->Prop},K () f->wpAny W.M A.in1 (match b with|true=>rule "set.scan.the-table-gave-way"|false=>pure ()) K E f:=
   λb f K R=>by cases b<;>first|exact M6 R|exact wpAny_rule R
  refine MZ (C false ?_)
  have L:({bK S led with place:=(aQ k S).toArray}:SetTable).plain=true:=rfl
  rw[M7 L]
  rw[hashByValue_scannable 8 y]
  refine MZ (M6 ?_)
  have M:plainKind (.int k t)=true:=rfl
  rw[M]
  simp only[↓reduceIte]
  have N:(aQ k S).length<=6:=(bM st.sub led).2.2.2.1
  have T:(aL (aQ k S) d).size<=sizeLine:=by rw[aU];exact fits_of_scanBound (by show _<4096;exact av.lv N rfl)
  refine MZ (wpAny_storeSet_of (es':=aL (aQ k S) d) (t':={bK S led with place:=(aQ k S).toArray}) u rfl ?_ T)
  have n:Obj.putSet (aL (aQ k S) d) {bK S led with place:=(aQ k S).toArray} (x7 S v q led)={cls:=.type "set",data:=.set (aL (aQ k S) d) (q+1) {bK S led with place:=(aQ k S).toArray}}:=putSet_of _ _ rfl
  have i:(s.heap.update a (Obj.putSet (aL (aQ k S) d) {bK S led with place:=(aQ k S).toArray})).get? a=some {cls:=.type "set",data:=.set (aL (aQ k S) d) (q+1) {bK S led with place:=(aQ k S).toArray}}:=by
   have:=Heap.get?_update_self (Obj.putSet (aL (aQ k S) d) {bK S led with place:=(aQ k S).toArray}) u (by rw[n];rfl)
   rw[n] at this;exact this
  have D:=Heap.SameBut.update s.heap a (Obj.putSet (aL (aQ k S) d) {bK S led with place:=(aQ k S).toArray})
  rcases st.end_ with ⟨_,c,O,hlen⟩|⟨c,G⟩
  .rw[c]
   simp only[Bool.not_false,Bool.and_self,↓reduceIte]
   rw[Bi hlen O st.sub]
   dsimp only
   refine MZ (C false ?_)
   refine MZ (wpAny_storeSet_of i rfl ?_ T)
   refine M6 (M6 ?_)
   refine fin true _ (D.trans (Heap.SameBut.update _ a _)) ?_
   rw[M8 o]
   refine⟨d,q+2,st.sub,p,?_⟩
   have h2:=Heap.get?_update_self (Obj.putSet (aL (aQ k S) d) (bK (aQ k S) led)) i (by rfl)
   exact h2
  .rw[c]
   simp only[Bool.not_false,Bool.and_false,OB,↓reduceIte]
   refine M6 (M6 ?_)
   refine fin true _ D ?_
   rw[M8 o]
   rw[G] at i
   exact⟨d,q+1,st.sub,p,by rw[G];exact i⟩
end
theorem dg:_root_.PySem.Slot "set_iterator" "__next__" "set_iterator.__next__":=
 .of (owner:="set_iterator") (n:="__next__") (by rw[typeLookup_type,builtinLookup_eq_fast];kernel_rfl) (by decide+kernel) (by decide+kernel) (by decide+kernel)
  (by first|exact .inl (by decide+kernel)|exact .inr (by decide+kernel)) (by rw[isSubtype_type];kernel_rfl)
theorem i8:entryFor table "set_iterator.__next__"=some Builtin.«set_iterator.__next__»:=entryFor_of_tree (by kernel_rfl)
theorem jH (a:Value):argsOk "set_iterator.__next__" ⟨[a],[]⟩:=by unfold argsOk;kernel_rfl
theorem jI:_root_.PySem.Slot "set_iterator" "__iter__" "set_iterator.__iter__":=
 .of (owner:="set_iterator") (n:="__iter__") (by rw[typeLookup_type,builtinLookup_eq_fast];kernel_rfl) (by decide+kernel) (by decide+kernel) (by decide+kernel)
  (by first|exact .inl (by decide+kernel)|exact .inr (by decide+kernel)) (by rw[isSubtype_type];kernel_rfl)
theorem nG:entryFor table "set_iterator.__iter__"=some Builtin.«dict_keyiterator.__iter__»:=
 entryFor_alias (id':="dict_keyiterator.__iter__") (by kernel_rfl) rfl (by decide+kernel) (by kernel_rfl)
theorem pM (a:Value):argsOk "set_iterator.__iter__" ⟨[a],[]⟩:=by unfold argsOk;kernel_rfl
theorem mE:entryFor table "set.__iter__"=some Builtin.«frozenset.__iter__»:=
 entryFor_alias (id':="frozenset.__iter__") (by kernel_rfl) rfl (by decide+kernel) (by kernel_rfl)
theorem mG {a:Type}:∀{l:List a}{i:Nat} (h:i<l.length),([l[i]]++l.eraseIdx i).Perm l
 |x::l,0,_=>List.Perm.refl _
 |x::l,i+1,h=>by
  have b:i<l.length:=by simpa using h
  simp only[List.getElem_cons_succ,List.eraseIdx_cons_succ]
  exact(List.Perm.swap x l[i] _).trans (List.Perm.cons x (mG b))
theorem vG {b:Type}(next:Nat->Nat):∀(n k:Nat) (left:List b) (out:Array b),n=left.length->(pickOrder.go next n k left out).toList.Perm (out.toList++left)
 |0,k,left,out,h=>by
  have:left=[]:=Oe h.symm
  subst this
  simp[pickOrder.go]
 |n+1,k,left,out,h=>by
  have a:next k%left.length<left.length:=N3 _ (by lia)
  rw[pickOrder.go,Nc a]
  dsimp only
  refine(vG next n (k+1) _ _ (by rw[List.length_eraseIdx_of_lt a];exact MY Nat.pred h)).trans ?_
  rw[Array.toList_push,NS]
  refine List.Perm.append_left _ ?_
  exact mG a
theorem x9 {a:Type}(next:Nat->Nat)(xs:Array a):(pickOrder next xs).toList.Perm xs.toList:=by
 have:=vG next xs.size 0 xs.toList #[] (by simp)
 simpa[pickOrder] using this
noncomputable def bt (w:World):Bool:=w.params.followText "set-order"
noncomputable def ij (w:World)(a:Addr)(S:List Nat)(v:Nat->Value)(ep:Nat):List (Int×Value):=if bt w then(pickOrder (w.params.setOrder a ep) (aL S v)).toList else(aL S v).toList
noncomputable def slotAt (w:World)(S:List Nat)(i:Nat):Nat:=if bt w then 0 else if i=0 then 0 else(S[i - 1]?.getD 0)+1
theorem kh {w:World}{S:List Nat}{v:Nat->Value}:(ij w a S v ep).Perm (aL S v).toList:=by
 unfold ij
 split
 .exact x9 _ _
 .exact List.Perm.refl _
theorem mH {w:World}{S:List Nat}{v:Nat->Value}:(ij w a S v ep).length=S.length:=by
 rw[kh.length_eq];simp[aL]
theorem mI:∀{L:List (Int×Value)},(∀e∈L, ∃t,e.2=.int e.1 t)->IntsAre (L.map (·.2)) (L.map (·.1))
 |[],_=>.nil
 |e::L,h=>by
  refine ak (h e Nf) λt ht=>?_
  have:=mI (L:=L) λb a=>h b (Nj _ a)
  rw[Ob,Ob,ht]
  exact .cons _ t this
noncomputable abbrev nH (w:World)(a:Addr)(S:List Nat)(ep i:Nat):Obj:={cls:=.type "set_iterator",data:=.fields #[rawInt (slotAt w S i),rawInt i,.ref a,rawInt S.length,rawInt ep]}
section
variable {W:Wd}{A:Around}{E:Value->Shared->Prop}{s:Shared}
theorem rK {S:List Nat}{v:Nat->Value}{i:Nat}{Q:Option (Value×Nat)->Shared->Prop}(h:S∈subs 6)(g:s.heap.get? a=some (x7 S v ep (!bt W.w)))(hi:i<=S.length)(b:Q ((ij W.w a S v ep)[i]?.map λe=>(e.2,slotAt W.w S (i+1))) s):wpAny W.M A (setNext a (slotAt W.w S i) i ep) Q E s:=by
 have c:=(bM h (!bt W.w)).1
 unfold setNext
 refine MZ (wpAny_setState_of (es:=aL S v) g rfl (by rw[aU];exact c) ?_)
 dsimp only
 unfold setsByText
 refine MZ (MZ (wpAny_askSetting (M6 ?_)))
 show wpAny _ _ (if bt W.w=true then _ else _) _ _ _
 cases hb:bt W.w with
 |true=>
  simp only[↓reduceIte,bne_self_eq_false,OB]
  unfold setWalk
  rw[hb] at g c
  refine MZ (MZ (wpAny_setState_of (es:=aL S v) g rfl (by rw[aU];exact c) ?_))
  dsimp only
  unfold setsByText
  refine MZ (MZ (wpAny_askSetting (M6 ?_)))
  show wpAny _ _ (if bt W.w=true then _ else _) _ _ _
  rw[hb]
  simp only[↓reduceIte]
  refine MZ (wpAny_askSetting (M6 (M6 ?_)))
  unfold ij slotAt at b
  rw[hb] at b
  simp only[↓reduceIte] at b
  unfold slotAt
  rw[hb]
  simp only[↓reduceIte]
  rw[Array.getElem?_toList] at b
  exact b
 |false=>
  simp only[OB,↓reduceIte]
  split
  .rename_i f
   have f:(!(bK S true).plain&&decide ((aL S v).size>1))=true:=f
   rw[show(bK S true).plain=true from rfl] at f
   cases f
  .refine MZ (wpAny_of_eq (a:=()) (by rfl) (M6 ?_))
   have d:=(bM h true).2.2.2.2 i hi
   have l:SetTable.below (bK S !false).place (slotAt W.w S i)=i:=by
    unfold slotAt
    rw[hb]
    exact d
   rw[l]
   unfold ij slotAt at b
   rw[hb] at b
   simp only[OB,↓reduceIte] at b
   have m:(bK S !false).place[i]?=S[i]?:=by simp[bK]
   rw[m]
   have n:(aL S v)[i]?=S[i]?.map λ(k:Nat)=>((k:Int),v k):=by simp[aL]
   have o:(aL S v).toList[i]?=S[i]?.map λ(k:Nat)=>((k:Int),v k):=by simp[aL]
   rw[o] at b
   rw[n]
   cases hx:S[i]? with
   |none=>
    rw[hx] at b
    exact b
   |some k=>
    rw[hx] at b
    simp only[Option.map_some] at b |-
    have p:slotAt W.w S (i+1)=k+1:=by
     unfold slotAt
     rw[hb]
     simp[hx]
    simpa[hx] using b
theorem ya {it:Addr}{S:List Nat}{v:Nat->Value}(hh:A.handled=none)(hne:a≠it)(hS:S∈subs 6):
  Walks W.prog W.w A it [it,a] [it] S.length (λi x=>∃k,(ij W.w a S v ep)[i]?=some (k,x)) (λi h=>h.get? it=some (nH W.w a S ep i)/\h.get? a=some (x7 S v ep (!bt W.w))) where
 sub:=λb hb=>by simp at hb;simp[hb]
 frame:=λ_ _ _ st hk=>⟨hk it (by simp) _ st.1,hk a (by simp) _ st.2⟩
 item:=λi s Q E hi st hQ=>by
  refine au st λh1 h2=>?_
  have hT:s.TypeIs (.ref it) "set_iterator":=⟨_,h1,rfl⟩
  have hfit:=(bM hS (!bt W.w)).1
  obtain ⟨⟨k,x⟩,hx⟩:∃p,(ij W.w a S v ep)[i]?=some p:=⟨_,Nc (by rw[mH];exact hi)⟩
  unfold pyNext
  refine MZ (wpAny_attempt (wpAny_callSpecial?_slot (name:=Str.ofString "__next__") hT dg
   (OJ dg hT i8 ?_ (jH _))))
  refine MZ (M6 ?_)
  refine MZ (wpAny_fieldsOf h1 rfl ?_)
  dsimp only[rawInt]
  refine MZ (wpAny_setEntries_of (es:=aL S v) h2 rfl (by rw[aU];exact hfit) ?_)
  rw[M8 (by rw[aU];simp)]
  refine MZ ?_
  rw[Oc,Oc,Oc]
  refine rK hS h2 (ND hi) ?_
  rw[hx]
  simp only[Option.map_some]
  refine MZ (wpAny_setField_rec h1 (by simp) λh' g' hs'=>?_)
  refine MZ (wpAny_setField_rec (s:={s with heap:=h'}) g' (by simp) λh'' g'' hs''=>?_)
  refine M6 ⟨_,rfl,M6 ?_⟩
  have hsb:=hs'.trans hs''
  refine hQ x h'' s.toks ⟨k,hx⟩ ⟨?_,hsb.extBut a _ hne h2⟩ λb o hb e=>hsb.extBut b o (λh=>hb (by simp[h])) e
  have g3:h''.get? it=some {cls:=.type "set_iterator",data:=.fields #[rawInt (slotAt W.w S (i+1)),rawInt ((i:Int)+1),.ref a,rawInt S.length,rawInt ep]}:=by simpa[rawInt] using g''
  exact g3
 done:=λs Q E st hQ=>by
  refine au st λh1 h2=>?_
  have hT:s.TypeIs (.ref it) "set_iterator":=⟨_,h1,rfl⟩
  have hfit:=(bM hS (!bt W.w)).1
  have hx:(ij W.w a S v ep)[S.length]?=none:=Od (by rw[mH];exact NB _)
  unfold pyNext
  refine MZ (wpAny_attempt (wpAny_callSpecial?_slot (name:=Str.ofString "__next__") hT dg
   (OJ dg hT i8 ?_ (jH _))))
  refine MZ (M6 ?_)
  refine MZ (wpAny_fieldsOf h1 rfl ?_)
  dsimp only[rawInt]
  refine MZ (wpAny_setEntries_of (es:=aL S v) h2 rfl (by rw[aU];exact hfit) ?_)
  rw[M8 (by rw[aU];simp)]
  refine MZ ?_
  rw[Oc,Oc,Oc]
  refine rK hS h2 (NB _) ?_
  rw[hx]
  simp only[Option.map_none]
  refine MZ (wpAny_setField_rec h1 (by simp) λh' g' hs'=>?_)
  refine MZ ?_
  simp only[newExc,newTuple]
  refine MZ (Ol ?_ (by size_fits))
  refine MZ (m:=firstArgMember _ _) (wpAny_of_eq (a:=Value.none) (by first|rfl|(simp only[firstArgMember];rfl)) ?_)
  refine Ol ?_ (by size_fits)
  simp only[raiseNew]
  refine MZ (wpAny_handled ?_)
  rw[show A.in1.handled=none from hh]
  refine MZ (M6 (wpAny_throw ?_))
  refine MZ (wpAny_isInstance (T:="StopIteration") (b:=true) ⟨_,Heap.get?_push_size _ rfl,rfl⟩ isSubtype_stop ?_)
  exact M6 (hQ _ _ λb o hb e=>Heap.get?_push_of_some _ (Heap.get?_push_of_some _ (hs'.extBut b o (λh=>hb (by simp[h])) e)))
 self:=λi s Q E st hQ=>by
  have hT:s.TypeIs (.ref it) "set_iterator":=⟨_,st.1,rfl⟩
  refine wpAny_pyIter_slot hT jI (OJ jI hT nG ?_ (pM _))
  show wpAny _ _ (ret (.ref it)) _ _ s
  exact M6 ⟨_,rfl,"set_iterator",_,hT,dg.lookup,hQ⟩
theorem rL {a:Type}{M:Model}{c:Prop}[Decidable c]{x y:Sem a}{Q:a->Shared->Prop}(b:c)(h:wpAny M A x Q E s):wpAny M A (if c then x else y) Q E s:=by rw[M7 b];exact h
theorem t8:isSubtype (.type "set") (.type "set")=pure true:=by rw[isSubtype_type];kernel_rfl
theorem Bk {S:List Nat}{v:Nat->Value}{Q:Value->Shared->Prop}(g:S∈subs 6)(d:s.heap.get? a=some (x7 S v ep (!bt W.w)))(h:Q (.ref s.heap.objs.size) {s with heap:=s.heap.push (nH W.w a S ep 0)}):wpAny W.M A (pyIter (.ref a)) Q E s:=by
 have e:s.TypeIs (.ref a) "set":=⟨_,d,rfl⟩
 have b:=(bM g (!bt W.w)).1
 refine wpAny_pyIter_slot e F.slot_set_iter (OJ F.slot_set_iter e mE ?_ (F.args_set_iter_1 _))
 unfold Builtin.«frozenset.__iter__» Builtin.Frozenset.slot0 slotArgs
 simp only[List.isEmpty_nil,Bool.not_true,OB,↓reduceIte,bind_assoc,List.length_nil,bne_self_eq_false]
 unfold Builtin.Frozenset.addrOf Builtin.Frozenset.sizeOf
 refine MZ (M6 ?_)
 try dsimp only
 refine MZ (M6 ?_)
 refine MZ (MZ (wpAny_setEntries_of (es:=aL S v) d rfl (by rw[aU];exact b) (M6 ?_)))
 refine MZ (m:=setDrawn a) ?_
 unfold setDrawn
 refine MZ (wpAny_setState_of (es:=aL S v) d rfl (by rw[aU];exact b) ?_)
 dsimp only
 unfold setsByText
 refine MZ (MZ (wpAny_askSetting (M6 (M6 ?_))))
 split
 .rename_i c
  rw[NV] at c
  have c:=c.2
  have c:(!(bK S (!bt W.w)).plain&&decide ((aL S v).size>1))=true:=c
  rw[show(bK S (!bt W.w)).plain=true from rfl] at c
  cases c
 .refine MZ (M6 ?_)
  refine MZ (wpAny_setEpoch_of (es:=aL S v) (ep:=ep) d rfl (by rw[aU];exact b) ?_)
  unfold newFields
  refine MZ (Ol ?_ (by size_fits))
  have i:({cls:=.type "set_iterator",data:=.fields [rawInt 0,rawInt 0,Value.ref a,rawInt (aL S v).size,rawInt ep].toArray}:Obj)=nH W.w a S ep 0:=by
   rw[aU]
   have:slotAt W.w S 0=0:=by unfold slotAt;split<;>rfl
   unfold nH
   rw[this]
   rfl
  rw[i]
  exact M6 ⟨_,rfl,"set_iterator",_,⟨_,Heap.get?_push_size _ rfl,rfl⟩,dg.lookup,h⟩
theorem rM {S:List Nat}{v:Nat->Value}{Q:List Value->Shared->Prop}(hh:A.handled=none)(H:S∈subs 6)(V:∀k:Nat, ∃t,v k=.int k t)(J:s.heap.get? a=some (x7 S v ep (!bt W.w)))(X:∀s' (vs:List Value) (ns:List Int),Keeps s s'->IntsAre vs ns->ns.Perm (S.map λ(k:Nat)=>(k:Int))->Q vs s'):wpAny W.M A (collect (.ref a)) Q E s:=by
 have hT:s.TypeIs (.ref a) "set":=⟨_,J,rfl⟩
 have K:a<s.heap.objs.size:=Heap.lt_size J
 unfold collect
 refine MZ (wpAny_runValue (codeAny_builtin F.entry_proto_collect ?_))
 rw[Around.under_plainId F.plain_proto_collect _]
 show wpAny _ A.in1 (newList []>>=λl=>again (.builtin "list.__iadd__" ⟨[l,.ref a],[]⟩)) _ _ s
 refine MZ (Ol ?_)
 refine M6 ⟨plainId_quiet F.plain_list_iadd _,codeAny_builtin F.entry_list_iadd ?_⟩
 rw[Around.under_plainId F.plain_list_iadd _]
 have m:=Heap.get?_push_of_some ({cls:=.type "list",data:=.seq ([]:List Value).toArray}) J
 have n:(s.heap.push {cls:=.type "list",data:=.seq ([]:List Value).toArray}).get? s.heap.objs.size=some {cls:=.type "list",data:=.seq ([]:List Value).toArray}:=Heap.get?_push_size _ rfl
 show wpAny _ A.in1 (Builtin.List.listExtendWith (.ref s.heap.objs.size) (.ref a) (.ref s.heap.objs.size)) _ _ _
 unfold Builtin.List.listExtendWith
 refine MZ (wpAny_typeOf (T:="set") ⟨_,m,rfl⟩ ?_)
 have Y:Builtin.List.listSameRef (.ref s.heap.objs.size) (.ref a)=false:=by simp[Builtin.List.listSameRef,N4 K]
 have j:(Value.type "set"==Value.type "list")=false:=by decide
 have C:(Value.type "set"==Value.type "tuple")=false:=by decide
 simp only[Y,j,C,Bool.or_false,OB,if_false]
 refine MZ (Bk (s:={s with heap:=s.heap.push {cls:=.type "list",data:=.seq ([]:List Value).toArray}}) H m ?_)
 rw[show({s with heap:=s.heap.push {cls:=.type "list",data:=.seq ([]:List Value).toArray}}:Shared).heap.objs.size=s.heap.objs.size+1 from Heap.size_push ..]
 generalize D:s.heap.objs.size+1=I
 have L:(s.heap.push {cls:=.type "list",data:=.seq ([]:List Value).toArray}).objs.size=I:=by rw[<-D];exact Heap.size_push ..
 have U:((s.heap.push {cls:=.type "list",data:=.seq ([]:List Value).toArray}).push (nH W.w a S ep 0)).get? I=some (nH W.w a S ep 0):=by rw[<-L];exact Heap.get?_push_size _ rfl
 have p:=Heap.get?_push_of_some (nH W.w a S ep 0) m
 have c:=Heap.get?_push_of_some (nH W.w a S ep 0) n
 have f:∀b o,s.heap.get? b=some o->((s.heap.push {cls:=.type "list",data:=.seq ([]:List Value).toArray}).push (nH W.w a S ep 0)).get? b=some o:=λb o e=>Heap.get?_push_of_some _ (Heap.get?_push_of_some _ e)
 generalize ((s.heap.push {cls:=.type "list",data:=.seq ([]:List Value).toArray}).push (nH W.w a S ep 0))=j at U p c f |-
 have y:s.heap.objs.size≠I:=by rw[<-D];exact NZ (N7 _)
 have M:a≠I:=by rw[<-D];exact NZ (OF K)
 have z:a≠s.heap.objs.size:=NZ K
 refine MZ (OH ?_)
 unfold Builtin.List.listLengthHint
 have q:({s with heap:=j}:Shared).TypeIs (.ref a) "set":=⟨_,p,rfl⟩
 refine MZ (wpAny_specialOf q F.slot_set_len.lookup ?_)
 dsimp only
 have N:splitId "set.__len__"=some ("set","__len__"):=by kernel_rfl
 rw[N]
 dsimp only
 refine MZ (wpAny_isInstance q t8 ?_)
 rw[M8 (show¬((!true)=true) from NX)]
 refine rL (by decide+kernel) ?_
 .refine MZ (wpAny_typeOf q ?_)
  dsimp only
  refine M6 ?_
  refine rL (by decide+kernel) ?_
  .refine MZ (wpAny_rule ?_)
   refine MZ ?_
   show wpAny _ A.in1 (updateSeq s.heap.objs.size (·.push .none)>>=λ_=>updateSeq s.heap.objs.size (·.pop)) _ _ _
   refine MZ (wpAny_updateSeq c rfl ?_)
   have g:=Heap.get?_update_self (Obj.mapSeq (·.push Value.none)) c rfl
   refine wpAny_updateSeq g rfl ?_
   have r:=Heap.get?_update_self (Obj.mapSeq (·.pop)) g rfl
   have u:∀b o,b≠s.heap.objs.size->j.get? b=some o->((j.update s.heap.objs.size (Obj.mapSeq (·.push Value.none))).update s.heap.objs.size (Obj.mapSeq (·.pop))).get? b=some o:=
    λb o hb e=>(Heap.get?_update_other _ _ (Ox hb)).trans ((Heap.get?_update_other _ _ (Ox hb)).trans e)
   have WW:=(ya (W:=W) (A:=A.in1) (a:=a) (it:=I) (S:=S) (v:=v) (ep:=ep) hh M H).toS
   refine M6 ⟨plainId_quiet F.plain_extend_loop _,codeAny_extend_loopS WW (by have:=(bM H true).2.2.2.1;exact M4 this (by rw[sizeLine_eq];exact Og _ _)) _ (by simp[y,Ox z]) _ S.length 0 _ _ _ rfl (Ou _)
    ⟨u I _ (Ox y) U,u a _ z p⟩ r (ItemsOf.nil _) λs' d c' G O h=>?_⟩
   show wpAny _ A (load s.heap.objs.size>>=_) _ _ s'
   refine MZ (wpAny_load O ?_)
   refine M6 ?_
   have x:d.toList=(ij W.w a S v ep).map (·.2):=by
    apply List.ext_getElem?
    intro i
    rw[Nz]
    by_cases hi:i<S.length
    .have P:i<d.size:=by rw[h.1];exact hi
     have hg:d[i]?=some d[i]:=Array.getElem?_eq_getElem P
     refine ak (h.2 i _ hg) λk hk=>?_
     rw[Array.getElem?_toList,hg,hk];rfl
    .rw[Array.getElem?_toList,Array.getElem?_eq_none (by rw[h.1];exact NU hi),Od (by rw[mH];exact NU hi)];rfl
   rw[x]
   refine X s' _ ((ij W.w a S v ep).map (·.1)) ⟨s'.heap,s'.toks,?_,λb o e=>?_⟩ (mI λe he=>?_) ?_
   .have:=G.gens;have j:=G.drawn;have C:=G.os
    obtain ⟨x1,x2,x3,x4,x5⟩:=s'
    simp only at this j C
    subst this j C
    rfl
   .have B:=Heap.lt_size e
    have n1:b≠s.heap.objs.size:=NZ B
    have n2:b≠I:=by rw[<-D];exact NZ (OF B)
    exact G.heap b o (by simp[n1,n2]) (u b o n1 (f b o e))
   .have:=kh.mem_iff.mp he
    simp only[aL,Nn] at this
    refine af this λk ζ R=>?_;subst R
    exact V k
   .have:=(kh (w:=W.w) (a:=a) (S:=S) (v:=v) (ep:=ep)).map (λe=>e.1)
    refine this.trans ?_
    simp[aL,Function.comp_def]
theorem mJ:((subs 6).all λS=>decide (S.Pairwise (· < ·)))=true:=by decide+kernel
theorem t9 {a:Addr}{S:List Nat}{Q:Value->Shared->Prop}(hh:A.handled=none)(h:oy s.heap a S (!bt W.w))(C:∀L s' (vs:List Value) m,Keeps s s'->s.heap.get? L=none->s'.heap.get? L=some (aR vs m)->IntsAre vs (S.map λ(k:Nat)=>(k:Int))->Q (.ref L) s'):wpAny W.M A (call (.builtin "sorted") [.ref a]) Q E s:=by
 refine aP h λv N l D F=>?_
 refine Calls.call_function_entry kind_sorted plain_sorted entry_sorted (args_sorted1 _) ?_
 unfold Builtin.«sorted»
 refine MZ (m:=checkCount "sorted" 1 1 _) (M6 ?_)
 refine MZ (rM (A:=A.in1) hh l D F λs1 vs ns n y hp=>?_)
 have hlen:vs.length=S.length:=by rw[<-MX (as:=vs) (f:=numOf),y.nums,hp.length_eq,MX]
 have p:vs.length<64:=by rw[hlen];have:=(bM l true).2.2.2.1;lia
 refine MZ (wpAny_newList ?_)
 have c:(s1.heap.push (seqObj "list" vs.toArray 0)).get? s1.heap.objs.size=some (seqObj "list" vs.toArray 0):=Heap.get?_push_size _ rfl
 refine MZ (OH (OJ slot_list_sort ⟨_,c,rfl⟩ entry_list_sort (list_sort_tree c y p λout q G H I=>⟨_,rfl,?_⟩) (args_list_sort _)))
 refine M6 ⟨_,rfl,?_⟩
 have d:(s1.heap.push (seqObj "list" vs.toArray 0)).objs.size=s1.heap.objs.size+1:=size_push' _ _
 generalize z:s1.heap.objs.size=L at c d |-
 generalize r:s1.heap.push (seqObj "list" vs.toArray 0)=g at c d |-
 have J:L<g.objs.size:=Heap.lt_size c
 obtain ⟨i,t⟩:∃i,(g.update L (Obj.mapSeq λ_=>#[])).get? L=some (seqObj "list" #[] i):=⟨_,get?_update_seq c (λ_=>#[])⟩
 have u:(((g.update L (Obj.mapSeq λ_=>#[])).push (seqObj "tuple" vs.toArray 0)).push (seqObj "list" #[] 0)).get? L=some (seqObj "list" #[] i):=Heap.get?_push_of_some _ (Heap.get?_push_of_some _ t)
 obtain ⟨m,j⟩:∃m,(sortedHeap g L vs out).get? L=some (seqObj "list" out m):=⟨_,get?_update_seq u (λ_=>out)⟩
 have w:q=S.map λ(k:Nat)=>(k:Int):=by
  refine List.Perm.eq_of_pairwise (λa b _ _ B K=>Int.le_antisymm B K) I ?_ (H.trans hp)
  have:=Nx.mp mJ S l
  rw[List.pairwise_map]
  exact(Nr this).imp λh=>Ot.mpr (ND h)
 subst w
 refine C L _ out.toList m ⟨sortedHeap g L vs out,s1.toks,?_,λb o e=>?_⟩ ?_ ?_ G
 .refine aW n λB O x P=>?_;subst x
  rfl
 .have i:=ag n b o e
  have n1:b≠L:=by rw[<-z];exact NZ (Heap.lt_size i)
  have M:g.get? b=some o:=by rw[<-r];exact Heap.get?_push_of_some _ i
  unfold sortedHeap
  exact(Heap.get?_update_other _ _ (Ox n1)).trans (Heap.get?_push_of_some _ (Heap.get?_push_of_some _ ((Heap.get?_update_other _ _ (Ox n1)).trans M)))
 .cases e:s.heap.get? L with
  |none=>rfl
  |some o=>exact absurd (Heap.lt_size (ag n _ _ e)) (by rw[z];exact Oa _)
 .show(sortedHeap g L vs out).get? L=some (aR out.toList m)
  rw[j]
end
section
variable {W:Wd}{U:UT}{n l:Nat}{A:Around}{E:Value->Shared->Prop}{s s0 s2 s4 s':Shared}{env cenv:Env}{c:CT}{k:Nat}{sc isc:Scope}{R:Nat->aD}{Mu Mu':aD}{Z Z':St}{X Y:aD}{aE:List Str}
def IJ (W:Wd)(b:Addr)(a:List D)(h:Heap):Prop:= ∃S,oy h b S (!bt W.w)/\ ∀j:Nat,j∈S↔D.int j∈a
noncomputable def IK (W:Wd):hK W (List D) where
 P:=λ_ D' a h=>IJ W D' a h
 has:=λ⟨S,⟨v,ep,_,_,e⟩,_⟩=>⟨_,e,nofun⟩
 move:=λ⟨S,⟨v,ep,h1,h2,e⟩,hm⟩ _ k=>⟨S,⟨v,ep,h1,h2,k _ e⟩,hm⟩
def LL (a:List D):Prop:= ∀d∈a, ∃j:Nat,j<6/\d=.int j
theorem E2 {i:Nat}{S:List Nat}(h:i∉S):j∈aQ i S↔j∈S\/j=i:=by
 unfold aQ
 simp only[NK,Nt,Np,Nd]
 constructor
 .rintro (⟨a,_⟩|rfl|⟨a,_⟩)
  .exact .inl a
  .exact .inr rfl
  .exact .inl a
 .rintro (a|rfl)
  .rcases Nat.lt_trichotomy j i with b|b|b
   .exact .inl ⟨a,b⟩
   .exact absurd (b▸a) h
   .exact .inr (.inr ⟨a,b⟩)
  .exact .inr (.inl rfl)
theorem Bl (z:bF W U l n){g:Expr}{y:ME}{p:Addr}(B:(cm c k).e isc g=some y)(r:LF isc cenv R Mu p):
  hV W (IK W) LL c.aE isc cenv R Mu A l p (do let v<-eval g cenv;standAt g.pos;let _<-call (.builtin "set.add") [.ref p,v]) (fG (ev U n) y []):=by
 intro Z' a N s F C G H E
 refine af (ke F) λd I m=>?_;subst m
 .refine MZ ((z.e B I C).use λv s1 u J=>MZ (wpAny_standAt ?_))
  refine af (H d (OW _ (Nh.mpr rfl))) λj L m=>?_;subst m
  obtain ⟨t,rfl⟩:∃t,v=.int j t:=by simpa only[Rep] using J
  obtain ⟨S,M,w⟩:IJ W p a s1.heap:=hK.keeps (K:=IK W) (Mu:=Mu) G (ag u)
  refine MZ (E1 M L λx hs q=>M6 ?_)
  have kb:KB (· =p) s1 {s1 with heap:=x,toks:=s1.toks+1}:=⟨x,_,rfl,λb o nb e=>hs.extBut b o nb e⟩
  have lv:∃o,x.get? p=some o:=let ⟨v,O,_,_,e⟩:=q;⟨_,e⟩
  refine⟨(C.keep u).kb kb (λb h=>h▸r.An) (λb h=>h▸r.Ki) (λb h=>h▸r.JM) (λb h=>h▸lv),(KB.of u).trans (kb.mono λb h=>.inr h),_,q,λi=>?_⟩
  show _↔D.int i∈a++[D.int j]
  rw[NK,Nh]
  by_cases f:j∈S
  .rw[M7 f,w]
   refine⟨.inl,λh=>h.elim id λh=>?_⟩
   have:i=j:=by injection h with h;exact Int.ofNat_inj.mp h
   rw[this];exact(w j).mp f
  .rw[M8 f,E2 f,w]
   refine or_congr Iff.rfl ⟨λh=>by rw[h],λh=>?_⟩
   injection h with h;exact Int.ofNat_inj.mp h
theorem Bm (a target iter:Expr)(ifs:List Expr)(scope:Scope)(pos:Pos)(it:Value)(b:Addr)(env:Env):
  compTurn (.SetComp a [⟨target,iter,ifs,0⟩] scope pos) 0 it (.ref b) env=fT target iter.pos ifs (do let v<-eval a env;standAt a.pos;let _<-call (.builtin "set.add") [.ref b,v])
   (again (.compLoop (.SetComp a [⟨target,iter,ifs,0⟩] scope pos) 0 it (.ref b) env)) it env:=rfl
theorem E3 {Q:Value->Shared->Prop}(h:Q (.ref s.heap.objs.size) {s with heap:=s.heap.push {cls:=.type "set",dict:=none,data:=.set #[] 0 (.fresh 0 0 (!bt W.w))}}):wpAny W.M A (newSet (.type "set")) Q E s:=by
 unfold newSet setsByText
 refine MZ (MZ (wpAny_askSetting (M6 ?_)))
 dsimp only
 simp only[newObj]
 exact MZ (wpAny_alloc (M6 h))
theorem rO:∀{xs:List D}{is:List Int},D.ints xs=some is->(∀i,i∈is↔D.int i∈xs)/\ ∀d∈xs, ∃i,d=.int i
 |[],is,h=>by simp only[D.ints,Option.some.injEq] at h;subst h;simp
 |x::xs,is,h=>by
  cases x<;>simp only[D.ints,reduceCtorEq,OC] at h
  rename_i j
  refine af h λo f a=>?_;subst a
  refine au (rO f) λg m=>?_
  refine⟨λi=>?_,λd b=>?_⟩
  .rw[Np,Np,g i]
   refine or_congr ⟨λe=>by rw[e],λe=>by injection e⟩ Iff.rfl
  .rcases Np.mp b with rfl|b
   .exact⟨j,rfl⟩
   .exact m d b
theorem bc:∀(n:Nat) (l:List Int),l.length<=n->l.eraseDups.Nodup
 |0,l,h=>by
  have:l=[]:=Oe (Nat.le_zero.mp h)
  subst this;simp
 |n+1,[],_=>by simp
 |n+1,x::l,h=>by
  rw[List.eraseDups_cons,NA]
  refine⟨λa=>?_,bc n _ (M4 (Nv _ _) (by simpa using h))⟩
  have a:=List.mem_eraseDups.mp a
  simp at a
theorem rP (l:List Int):l.eraseDups.Nodup:=bc l.length l (NB _)
theorem yb {l:List Int}{i:Int}:i∈l.eraseDups↔i∈l:=by
 first
  |exact List.mem_eraseDups
  |simp
theorem yc {S:List Nat}{is:List Int}(e:S∈subs 6)(h:∀i:Int,i∈is↔ ∃j:Nat,j∈S/\i=j):S.map (λ(k:Nat)=>(k:Int))=sortI is.eraseDups:=by
 have hs:=Nr (Nx.mp mJ S e)
 have d:(S.map λ(k:Nat)=>(k:Int)).Pairwise (· < ·):=by
  rw[List.pairwise_map];exact hs.imp λh=>N5.mpr h
 refine lP ?_ (d.imp λh=>Int.le_of_lt h)
 refine(List.perm_ext_iff_of_nodup (d.imp λh=>Int.ne_of_lt h) (rP is)).mpr λi=>?_
 rw[yb,h i,Nn]
 exact⟨λ⟨j,a,b⟩=>⟨j,a,b.symm⟩,λ⟨j,a,b⟩=>⟨j,a,b.symm⟩⟩
theorem eW :∀{vs:List Value}{is:List Int},IntsAre vs is->aq W Mu h (is.map .int) vs
 |_,_,.nil=>aq.nil
 |_,_,.cons n t r=>.cons aN (eW r)
theorem yd {r:Ev}{e:ME}{t:dj}{it:ME}{ifs:List ME}{d:D}(h:cV U r Z (.gI e a (.mk t it ifs))=some d):
  ∃xs out is,r.i Z t it=some xs/\bD (cw r e t ifs [] (Z.cut a)) xs=some out/\D.ints out=some is/\(decide (is.length<64)&&is.all λi=>decide (0<=i/\i<6))=true/\.list ((sortI is.eraseDups).map .int)=d:=by
 refine af (ob (o:=r.i Z t it) h) λxs b h=>?_
 refine af (ob (o:=bD (cw r e t ifs [] (Z.cut a)) xs) h) λout f h=>?_
 refine af (ob (o:=D.ints out) h) λis g h=>?_
 refine au (fe h) λj h=>?_
 exact⟨xs,out,is,b,f,g,j,MW h⟩
theorem Bn (w:gX W)(ih:bF W U l n):k8 W U l n:=by
 intro c k sc isc p gens np pos f mg t it me ifs d A s env R Mu Z O hg P T he V C Q E K
 subst P
 refine au (w.bi ("sorted",.builtin "sorted") (by simp[fF])) λp1 p2=>?_
 refine bw (fX C w.g w.b V p1 p2 (by decide) ?_)
 have hst:starEach [Expr.SetComp p gens isc f] env=[(false,eval (.SetComp p gens isc f) env)]:=rfl
 rw[hst]
 refine aX (.inl ⟨_,rfl⟩) rfl ?_
 have J:Kg sc isc:=pv O
 refine bf (kW C.ok J) λcl hcl hc1 hc2=>?_
 rcases gens with _|⟨g,gens⟩
 .have:=aH hg;cases this
 refine JV (eE hg) λt' it' ifs' ms' ha B q1 q2 q3 q4=>?_
 obtain ⟨target,iter,q,a⟩:=g
 dsimp only at ha q1 q2 q3
 subst ha
 simp only[List.cons.injEq,MG.mk.injEq] at B
 obtain ⟨⟨rfl,rfl,rfl⟩,rfl⟩:=B
 rcases gens with _|⟨g2,gens⟩
 .refine DJ (yd he) λxs out is hi ho hin M ζ7=>?_;subst ζ7
  rw[NV,Nx] at M
  refine au (rO hin) λF hm2=>?_
  have u:LL out:=λd N=>by
   refine ak (hm2 d N) λi ζ1=>?_;subst ζ1
   have:=Nr (M.2 i ((F i).mpr N))
   exact⟨i.toNat,by lia,by rw[Int.toNat_of_nonneg this.1]⟩
  have hfo:b7 (eD (ev U n) (Z.cut (gT c isc)) t ifs (fG (ev U n) me [])) [] xs=some out:=by rw[eX,gv ho,List.nil_append]
  have G:∀H rest,b7 (eD (ev U n) (Z.cut (gT c isc)) t ifs (fG (ev U n) me [])) H rest=some out->LL H:=λH rest h=>by
   rw[eX] at h
   refine ak (qX h) λr hr=>?_
   exact λd N=>u d (hr▸Oq _ N)
  refine Calls.spliced_cons ?_
  show wpAny _ _ (eval (.SetComp p [⟨target,iter,q,0⟩] isc f) env) _ _ _
  rw[arm_eval_SetComp]
  dsimp only
  refine wpAny_comprehension_free (e:=.SetComp p [⟨target,iter,q,0⟩] isc f) (g:=⟨target,iter,q,0⟩) (gs:=[]) rfl (fH q2 env) hcl J.kind (λx hx M=>by rw[J.look x hx,M]) ?_
  refine hX (K:=IK W) (ok:=LL) (a0:=([]:List D)) (ob:={cls:=.type "set",dict:=none,data:=.set #[] 0 (.fresh 0 0 (!bt W.w))}) ih J ⟨hc1,hc2⟩ q2 q1 q3 (body:=λz cenv=>do let v<-eval p cenv;standAt p.pos;let _<-call (.builtin "set.add") [.ref z,v]) (rest:=[])
   rfl (λ_ _ _=>rfl) (λ_ _ _=>rfl) (λ_ _ _=>rfl) (λ_ _ _=>rfl) (λ_ _ _=>rfl) (λs Q h=>E3 h) rfl (λMu' h z _ _ e=>⟨[],⟨λk=>.int k 0,0,by decide,λk=>⟨0,rfl⟩,e⟩,λj=>by simp⟩) nofun w
   (λI z cenv=>Bm ..) (λcenv z Mu' lf _=>Bl ih T lf) hi hfo G C (λz C' s5 m H a2 a3 a4 a5 a6=>?_)
  refine⟨m,a5,λh' hs=>Calls.spliced_nil ?_⟩
  obtain ⟨S,hS,y⟩:IJ W z out s5.heap:=a6
  have hS':oy h' z S (!bt W.w):=let ⟨v,ep,x1,x2,e⟩:=hS;⟨v,ep,x1,x2,hs.extBut _ _ a4 e⟩
  have k6:Keeps s {s5 with heap:=h'}:=by
   refine aW H λh5 t5 e5 k5=>?_
   subst e5
   exact⟨h',t5,rfl,λb o e=>hs.extBut b o (λh=>az a3 (h▸e)) (k5 b o e)⟩
  refine t9 C.good.hh hS' λL s' vs m' kk hn hg hI=>?_
  have k7:=ai k6 kk
  have hSs:S∈subs 6:=let ⟨_,_,x1,_,_⟩:=hS;x1
  refine K _ _ k7 ?_
  have hEq:S.map (λ(k:Nat)=>(k:Int))=sortI is.eraseDups:=yc hSs λi=>by
   rw[F i]
   refine⟨λh=>?_,λ⟨j,hj,e⟩=>e▸(y j).mp hj⟩
   refine af (u _ h) λj ζ e=>?_
   exact⟨j,(y j).mpr (e▸h),by injection e⟩
  rw[<-hEq]
  refine Rep.bI (λhm=>?_) hg (eW hI)
  refine ak (C.old L hm) λo e=>?_
  exact az hn (ag k6 _ _ e)
 .refine oR (eE q4) λt3 it3 ifs3 ms3 ζ hc ζ=>?_
  cases hc
end
def LM (F:List Addr)(h a:Heap):Prop:= ∀b o,h.get? b=some o->(b∉F->a.get? b=some o)/\ ∃sl,a.get? b=some {o with slots:=sl}
def Mb (h0 h:Heap)(e:Addr)(vs:Array Value):Option Value->Prop
 |none=>vs[1]?=some .none
 |some c=>∃T a b,vs[1]?=some (.ref T)/\h0.get? T=none/\T≠e/\h.get? T=some b/\b.data=.fields a/\a[3]?=some c
structure Exc (F:List Addr)(h0 h:Heap)(e:Addr)(tb:Option Value):Prop where
 sl:LM F h0 h
 new:h0.get? e=none
 ob:∃oe vs,h.get? e=some oe/\oe.cls=.type "StopIteration"/\oe.data=.fields vs/\Mb h0 h e vs tb
section
variable {M:Model}{A:Around}{E:Value->Shared->Prop}{s:Shared}{env:Env}{outer:List Env}{F:List Addr}{h0:Heap}{e:Addr}
noncomputable def dc:Heap:=default
theorem ua {l:List Env}(x:LM F h0 h)(a:h0.FunFrames dc l):h.FunFrames dc l:=
 a.of_keeps λb o e _=>let ⟨sl,c⟩:=(x b o e).2;⟨_,c,rfl⟩
theorem kN {l:List Env}(a:h0.FunFrames dc l){b:Addr}(hb:b∈l.filterMap (·.frame)):∃o,h0.get? b=some o:=let ⟨_,o,e,_⟩:=a.mem hb;⟨o,e⟩
theorem oz {L:Addr}{head:Value}{f:Bool}{oe:Obj}{vs:Array Value}{Q:Unit->Shared->Prop}(v:A.frames=some (env::outer))(y:h0.FunFrames dc (env::outer))(D:∀b∈(env::outer).filterMap (·.frame),b∈F)(G:env.frame=some L)(sl:LM F h0 s.heap)(new:h0.get? e=none)(H:s.heap.get? e=some oe)(I:oe.cls=.type "StopIteration")(z:oe.data=.fields vs)(hsz:1<vs.size)(J:∀B,Exc F h0 B e (some (rawInt L))->Q () {s with heap:=B}):
  wpAny M A (do let a<-frameOf env;let l<-entryPlaceOf L f;let b<-EntryCells.newEntry head a .none (rawInt L) .none l;setField (.ref e) 1 b) Q E s:=by
 refine MZ (wpAny_frameOf_fun v (ua sl y) G λc d=>?_)
 refine MZ (wpAny_entryPlaceOf λl p=>?_)
 unfold EntryCells.newEntry newFields
 refine MZ (Ol ?_ (p.sizeOk5 _ _ _ _ _))
 have r:e∉(env::outer).filterMap (·.frame):=λK=>by
  refine ak (kN y K) λo N=>?_
  exact az new N
 have g:c.get? e=some oe:=(d.2.1 e r).trans H
 have i:=Heap.get?_push_of_some (h:=c) {cls:=.type "traceback",dict:=none,data:=.fields ([head,.ref L,.none,rawInt L,.none]++(if l.isEmpty then List.replicate 6 Value.none else l)).toArray} g
 refine wpAny_setField i z hsz (J _ ?_)
 have t:c.objs.size≠e:=N4 (Heap.lt_size g)
 have j:=Obj.data_mapFields z (·.setIfInBounds 1 (Value.ref c.objs.size))
 have m:=Heap.get?_update_self (Obj.mapFields (·.setIfInBounds 1 (Value.ref c.objs.size))) i (Obj.isFreed_of_fields j)
 have keep:∀b o,b≠e->c.get? b=some o->((c.push {cls:=.type "traceback",dict:=none,data:=.fields ([head,.ref L,.none,rawInt L,.none]++(if l.isEmpty then List.replicate 6 Value.none else l)).toArray}).update e (Obj.mapFields (·.setIfInBounds 1 (Value.ref c.objs.size)))).get? b=some o:=λb o k hb=>by
  rw[Heap.get?_update_other _ _ (Ox k)]
  exact Heap.get?_push_of_some _ hb
 have n:=(Heap.get?_update_other (c.push {cls:=.type "traceback",dict:=none,data:=.fields ([head,.ref L,.none,rawInt L,.none]++(if l.isEmpty then List.replicate 6 Value.none else l)).toArray})
  (Obj.mapFields (·.setIfInBounds 1 (Value.ref c.objs.size))) (Ox t)).trans (Heap.get?_push_size c rfl)
 have O:h0.get? c.objs.size=none:=by
  cases q:h0.get? c.objs.size with
  |none=>rfl
  |some o=>
   refine ak ((sl _ _ q).2) λP R=>?_
   refine ak (d.2.2 _ _ R) λC w=>?_
   exact absurd (Heap.lt_size w) (Oa _)
 refine⟨λb o hb=>?_,new,_,_,m,(Obj.cls_mapFields _ _).trans I,j,c.objs.size,_,_,by simp[hsz],O,t,n,rfl,by first|(simp;done)|(rcases p with rfl|⟨_,_,_,_,_,_,_,rfl⟩<;>simp)⟩
 have k:b≠e:=λq=>az new (q▸hb)
 obtain ⟨S,T,U⟩:=sl b o hb
 refine ak (d.2.2 _ _ U) λx V=>?_
 exact⟨λu=>keep b o k ((d.2.1 b λq=>u (D b q)).trans (S u)),x,keep b _ k V⟩
theorem pN {L:Addr}{tb:Option Value}{Q:Unit->Shared->Prop}(h:A.frames=some (env::outer))(v:h0.FunFrames dc (env::outer))(w:∀b∈(env::outer).filterMap (·.frame),b∈F)(l:env.frame=some L)(x:Exc F h0 s.heap e tb)(m:tb=none\/tb=some .none\/tb=some (rawInt L))(n:∀y,Exc F h0 y e (some (rawInt L))->Q () {s with heap:=y}):wpAny M A (noteFrame (.ref e) env) Q E s:=by
 obtain ⟨sl,new,p,z,f,r,g,ht⟩:=x
 unfold noteFrame
 simp only[l]
 rcases m with rfl|rfl|rfl
 .have c:z[1]?=some .none:=ht
  refine MZ (OU f g c ?_)
  rw[M8 (by decide)]
  exact oz h v w l sl new f r g (Array.getElem?_eq_some_iff.mp c).1 n
 .refine lC ht λT B C c t d i a j=>?_
  refine MZ (OU f g c ?_)
  rw[M7 (show(Value.ref T !=Value.none)=true from by simp)]
  refine MZ (OU i a j ?_)
  rw[M8 (show¬((Value.none==rawInt L)=true) from by simp[rawInt])]
  refine MZ (wpAny_setField i a (Array.getElem?_eq_some_iff.mp j).1 ?_)
  have other:∀b,b≠T->(s.heap.update T (Obj.mapFields (·.setIfInBounds 3 Value.none))).get? b=s.heap.get? b:=λb hb=>Heap.get?_update_other _ _ (Ox hb)
  refine oz (s:={s with heap:=s.heap.update T (Obj.mapFields (·.setIfInBounds 3 Value.none))}) (oe:=p) h v w l (λb o hb=>?_) new ((other e (Ox d)).trans f) r g (Array.getElem?_eq_some_iff.mp c).1 n
  have k:b≠T:=λq=>az t (q▸hb)
  obtain ⟨D,u,G⟩:=sl b o hb
  exact⟨λq=>(other b k).trans (D q),u,(other b k).trans G⟩
 .refine lC ht λT B C c t d i a j=>?_
  refine MZ (OU f g c ?_)
  rw[M7 (show(Value.ref T !=Value.none)=true from by simp)]
  refine MZ (OU i a j ?_)
  rw[M7 (show(rawInt L==rawInt L)=true from by simp)]
  exact M6 (n s.heap ⟨sl,new,p,z,f,r,g,T,B,C,c,t,d,i,a,j⟩)
theorem iP {fr:Option Addr}{Q:Unit->Shared->Prop}(x:Exc F h0 s.heap e (some fl))(p:∀i,Exc F h0 i e (some (fr.elim .none λf=>rawInt f))->Q () {s with heap:=i}):wpAny M A (setFlight (.ref e) fr) Q E s:=by
 obtain ⟨sl,new,r,t,j,u,k,T,v,B,l,m,d,n,c,w⟩:=x
 unfold setFlight
 refine MZ (OU j k l ?_)
 rw[M7 (show(Value.ref T !=Value.none)=true from by simp)]
 have a:3<v.size:=(Array.getElem?_eq_some_iff.mp w).1
 have other:∀b,b≠T->(s.heap.update T (Obj.mapFields (·.setIfInBounds 3 (fr.elim Value.none λf=>rawInt f)))).get? b=s.heap.get? b:=λb hb=>Heap.get?_update_other _ _ (Ox hb)
 refine wpAny_setField n c a (p _ ⟨λb o hb=>?_,new,r,t,(other e (Ox d)).trans j,u,k,T,_,_,l,m,d,Heap.get?_update_self _ n (Obj.isFreed_of_fields (Obj.data_mapFields c _)),Obj.data_mapFields c _,by simp[a]⟩)
 have g:b≠T:=λq=>az m (q▸hb)
 obtain ⟨y,h,z⟩:=sl b o hb
 exact⟨λq=>(other b g).trans (y q),h,(other b g).trans z⟩
theorem Bo {L:Addr}{tb:Option Value}{Q:Unit->Shared->Prop}(c:A.frames=some (env::outer))(h:h0.FunFrames dc (env::outer))(i:∀b∈(env::outer).filterMap (·.frame),b∈F)(j:env.frame=some L)(x:Exc F h0 s.heap e tb)(d:tb=none\/tb=some .none\/tb=some (rawInt L))(k:∀a,Exc F h0 a e (some .none)->Q () {s with heap:=a}):wpAny M A (leaving env (.ref e)) Q E s:=by
 unfold leaving
 exact MZ (pN c h i j x d λa l=>iP (s:={s with heap:=a}) (fr:=none) l λf g=>k f g)
theorem E4 {L:Addr}(c:env.frame=some L)(x:Exc F h0 s.heap e (some fl))(d:∀a,Exc F h0 a e (some (rawInt L))->E (.ref e) {s with heap:=a}):cameBackBy M A env E (.ref e) s:=by
 unfold cameBackBy
 have b:=x
 obtain ⟨sl,new,i,j,f,k,g,T,l,m,h,_⟩:=b
 refine MZ (OU f g h ?_)
 rw[M8 (show¬((Value.ref T==Value.none)=true) from by simp)]
 rw[c]
 exact iP (fr:=some L) x λa b=>d a b
end
noncomputable def ik:List (Str×Value):=[("next",.builtin "next"),("iter",.builtin "iter"),("bytes",.type "bytes"),("StopIteration",.type "StopIteration")]
structure pO (W:Wd):Prop extends nF W where
 lim:W.h0.NoLimit
 KJ:∀p∈ik,W.mg p.1=none/\W.mb p.1=some p.2
theorem oA:builtinKind "next"=none:=by decide+kernel
theorem mK:plainId "next"=true:=by decide+kernel
theorem kO:entryFor table "next"=some Builtin.«next»:=entryFor_of_fast (by kernel_rfl)
theorem mL (a:Value):argsOk "next" ⟨[a],[]⟩:=by unfold argsOk;kernel_rfl
section
variable {prog:Program}{w:World}{A:Around}{E:Value->Shared->Prop}{s:Shared}{b:Array UInt8}{t:Tok}
theorem ub {it:Addr}{i:Nat}{c:UInt8}{Q:Value->Shared->Prop}(d:KBw.IsBytesIter s.heap it b t i)(hx:b[i]?=some c)(h:∀g,KBw.IsBytesIter g it b t (i+1)->Heap.SameBut it s.heap g->Q (.int (c.toNat:Int) s.toks) {s with heap:=g,toks:=s.toks+1}):wpAny (model prog w) A (call (.builtin "next") [.ref it]) Q E s:=by
 refine bf (id d) λo f j e=>?_
 refine Calls.call_function_entry oA mK kO (mL _) ?_
 unfold Builtin.«next»
 refine MZ (m:=someArgs "next" 1 2 _) (M6 ?_)
 dsimp only[List.headD]
 refine MZ (wpAny_specialOf (KBw.iter_typeIs d) KBw.slot_next.lookup ?_)
 simp only[Option.isNone_some,OB,if_false]
 refine MZ (wpAny_callSpecial?_slot (name:=PySem.Str.ofString "__next__") (KBw.iter_typeIs d) KBw.slot_next
  (OJ KBw.slot_next (KBw.iter_typeIs d) KBw.entry_next ?_ (KBw.args_next _)))
 show wpAny _ _ (field (.ref it) 0>>=_) _ _ s
 refine MZ (OU f e (x:=.bytes b t) rfl ?_)
 show wpAny _ _ (if(Value.bytes b t==Value.none)=true then _ else _) _ _ s
 rw[M8 (show¬((Value.bytes b t==Value.none)=true) from NX)]
 show wpAny _ _ (field (.ref it) 1>>=_) _ _ s
 refine MZ (OU f e (x:=.int i 0) rfl ?_)
 refine MZ (wpAny_of_eq (a:=b) rfl ?_)
 simp only[Oc,hx]
 refine MZ (wpAny_setField f e (by simp) (MZ (wpAny_mkInt (M6 ⟨_,rfl,M6 ⟨_,rfl,h _ ?_ (Heap.SameBut.update ..)⟩⟩))))
 exact⟨_,Heap.get?_update_self _ f (Obj.isFreed_of_fields (Obj.data_mapFields e _)),(Obj.cls_mapFields ..).trans j,by
  rw[Obj.data_mapFields e];simp[rawInt]⟩
theorem ye {it:Addr}{i:Nat}{Q:Value->Shared->Prop}(hh:A.handled=none)(c:KBw.IsBytesIter s.heap it b t i)(hx:b[i]?=none)(h:∀h0 g e,(∀b o,b≠it->s.heap.get? b=some o->h0.get? b=some o)->(∀F,Exc F h0 g e none)->E (.ref e) {s with heap:=g}):wpAny (model prog w) A (call (.builtin "next") [.ref it]) Q E s:=by
 refine bf (id c) λo d j f=>?_
 refine Calls.call_function_entry oA mK kO (mL _) ?_
 unfold Builtin.«next»
 refine MZ (m:=someArgs "next" 1 2 _) (M6 ?_)
 dsimp only[List.headD]
 refine MZ (wpAny_specialOf (KBw.iter_typeIs c) KBw.slot_next.lookup ?_)
 simp only[Option.isNone_some,OB,if_false]
 refine MZ (wpAny_callSpecial?_slot (name:=PySem.Str.ofString "__next__") (KBw.iter_typeIs c) KBw.slot_next
  (OJ KBw.slot_next (KBw.iter_typeIs c) KBw.entry_next ?_ (KBw.args_next _)))
 show wpAny _ _ (field (.ref it) 0>>=_) _ _ s
 refine MZ (OU d f (x:=.bytes b t) rfl ?_)
 show wpAny _ _ (if(Value.bytes b t==Value.none)=true then _ else _) _ _ s
 rw[M8 (show¬((Value.bytes b t==Value.none)=true) from NX)]
 show wpAny _ _ (field (.ref it) 1>>=_) _ _ s
 refine MZ (OU d f (x:=.int i 0) rfl ?_)
 refine MZ (wpAny_of_eq (a:=b) rfl ?_)
 simp only[Oc,hx]
 refine MZ (wpAny_rule (MZ (wpAny_setField d f (by simp) ?_)))
 show wpAny _ _ (newExc (.type "StopIteration") []>>=_) _ _ _
 refine MZ ?_
 simp only[newExc,newTuple]
 refine MZ (Ol ?_ (by size_fits))
 refine MZ (m:=firstArgMember _ _) (wpAny_of_eq (a:=Value.none) (by first|rfl|(simp only[firstArgMember];rfl)) ?_)
 refine Ol ?_ (by size_fits)
 simp only[raiseNew]
 refine MZ (wpAny_handled ?_)
 rw[show A.in1.handled=none from hh]
 refine MZ (M6 (wpAny_throw ?_))
 have hs:=Heap.SameBut.update s.heap it (Obj.mapFields λx=>x.setIfInBounds 0 Value.none)
 refine h _ _ _ (λb o hb e=>hs.extBut b o hb e) λF=>⟨λb o e=>?_,Heap.get?_none_of_le (by rw[Heap.size_push];exact OK _),_,_,Heap.get?_push_size _ rfl,rfl,rfl,?_⟩
 .exact⟨λ_=>Heap.get?_push_of_some _ (Heap.get?_push_of_some _ e),o.slots,Heap.get?_push_of_some _ (Heap.get?_push_of_some _ e)⟩
 .rfl
end
end av
namespace av.Q
open PySem av
theorem bs {a b:Type}{o:Option a}{f:a->Option b}{x:a}{R:Option b}(h:o=some x)(k:f x=R):(o>>=f)=R:=h▸k
section
variable {U:UT}{N:NT}{Z Z':St}{n:Nat}{r:Ev}{e a b:ME}{x y z d:D}{p q:Bool}
theorem uc {i:Nat}(h:i<64):(i:Int)<lim:=Int.lt_of_lt_of_le (by exact N5.mpr h:(i:Int)<64) (by decide)
theorem ao {i:Nat}(h:Z i=some (.val d)):(ev U (n+1)).m Z (.var i)=some d:=by
 show(match Z i with
  |some (.val d)=>some d
  |_=>none)=_
 rw[h]
theorem v_var {i:Nat}(h:Z i=some (.val d)):(ev U (n+1)).v Z (.var i)=some d:=by
 show(match Z i with
  |some (.val d)=>some d
  |some (.own d)=>some d
  |_=>none)=_
 rw[h]
theorem dU {i:Nat}(h:Z i=some (.own d)):(ev U (n+1)).v Z (.var i)=some d:=by
 show(match Z i with
  |some (.val d)=>some d
  |some (.own d)=>some d
  |_=>none)=_
 rw[h]
theorem aZ {i:Nat}(h:Z i=some (.val x))(c:(ev U n).m Z (.idx (.var i) e)=some z):(ev U (n+1)).v Z (.idx (.var i) e)=some z:=by
 show(match Z i with
  |some (.rows f)=>_
  |_=>(ev U n).m Z (.idx (.var i) e))=_
 rw[h];exact c
theorem mM {i:Nat}(h:Z i=some (.own x))(c:(ev U n).m Z (.idx (.var i) e)=some z):(ev U (n+1)).v Z (.idx (.var i) e)=some z:=by
 show(match Z i with
  |some (.rows f)=>_
  |_=>(ev U n).m Z (.idx (.var i) e))=_
 rw[h];exact c
theorem Bp {i:Nat}{c:List (List D)}{k:Nat}(h:Z i=some (.rows c))(f:(ev U n).m Z e=some (.int k))(g:k<64)(j:c[k]?=some ys):(ev U (n+1)).v Z (.idx (.var i) e)=some (.list ys):=by
 have l:(0:Int)<=(k:Int)/\(k:Int)<lim:=⟨NG k,uc g⟩
 show(match Z i with
  |some (.rows c)=>_
  |_=>(ev U n).m Z (.idx (.var i) e))=_
 rw[h]
 refine bs f ((M7 l).trans ?_)
 rw[Oc,j]
 rfl
theorem aB (c:sW (ev U n) Z e=(ev U n).m Z e)(h:(ev U n).m Z e=some d):(ev U (n+1)).v Z e=some d:=c.trans h
theorem ar (c:(ev U n).v Z a=some x)(f:(ev U n).v Z b=some y)(h:D.bin op x y=some z):(ev U (n+1)).m Z (.bin op a b)=some z:=by
 show((ev U n).v Z a>>=λx=>(ev U n).v Z b>>=λy=>D.bin op x y)=_
 rw[c,f];exact h
theorem il (c:(ev U n).v Z a=some x)(f:(ev U n).v Z b=some y)(h:D.cmp op x y=some p):(ev U (n+1)).m Z (.cmp op a b)=some (.bool p):=by
 show((ev U n).v Z a>>=λx=>(ev U n).v Z b>>=λy=>(D.cmp op x y).map D.bool)=_
 rw[c,f];exact MY (Option.map D.bool) h
theorem aS (c:(ev U n).v Z a=some x)(f:(ev U n).v Z b=some y)(h:D.cmp op x y=some p):(ev U (n+1)).t Z (.cmp op a b)=some p:=by
 show((ev U n).v Z a>>=λx=>(ev U n).v Z b>>=λy=>D.cmp op x y)=_
 rw[c,f];exact h
theorem qR (h:(ev U n).t Z a=some p):(ev U (n+1)).t Z (.not a)=some (!p):=by
 show((ev U n).t Z a>>=λx=>pure (!x))=_
 rw[h];rfl
theorem kG (c:(ev U n).t Z a=some p)(f:p=true->(ev U n).t Z b=some q):(ev U (n+1)).t Z (.and a b)=some (p&&q):=by
 show((ev U n).t Z a>>=λx=>if x then(ev U n).t Z b else pure false)=_
 rw[c];cases p
 .rfl
 .exact f rfl
theorem Ae (c:(ev U n).t Z a=some p)(f:p=false->(ev U n).t Z b=some q):(ev U (n+1)).t Z (.or a b)=some (p||q):=by
 show((ev U n).t Z a>>=λx=>if x then pure true else(ev U n).t Z b)=_
 rw[c];cases p
 .exact f rfl
 .rfl
theorem DF (c:sX (ev U n) Z e=(ev U n).v Z e>>=D.truthy)(h:(ev U n).v Z e=some x)(f:D.truthy x=some p):(ev U (n+1)).t Z e=some p:=by
 show sX (ev U n) Z e=_
 rw[c,h];exact f
theorem KL (c:(ev U n).m Z a=some (.bool p))(f:p=true->(ev U n).m Z b=some (.bool q)):(ev U (n+1)).m Z (.and a b)=some (.bool (p&&q)):=by
 refine bs c ?_
 cases p
 .rfl
 .exact f rfl
theorem gL {c:ME}(h:(ev U n).t Z c=some p)(f:p=true->(ev U n).m Z a=some x)(g:p=false->(ev U n).m Z b=some y):(ev U (n+1)).m Z (.ite c a b)=some (if p then x else y):=by
 show((ev U n).t Z c>>=λt=>if t then(ev U n).m Z a else(ev U n).m Z b)=_
 rw[h];cases p
 .exact g rfl
 .exact f rfl
theorem mO {i:Int}(h:(ev U n).m Z a=some (.int i)):(ev U (n+1)).m Z (.neg a)=some (.int (-i)):=by
 exact bs h rfl
theorem aK (c:(ev U n).v Z a=some x)(f:(ev U n).m Z b=some y)(h:D.index x y=some z):(ev U (n+1)).m Z (.idx a b)=some z:=by
 show((ev U n).v Z a>>=λx=>(ev U n).m Z b>>=λy=>D.index x y)=_
 rw[c,f];exact h
theorem aj {c g:Type}{f:c->Option g}:List.mapM f []=some []:=rfl
theorem aa {c g:Type}{f:c->Option g}{e:c}{es:List c}{d:g}{ds:List g}(h:f e=some d)(i:es.mapM f=some ds):(e::es).mapM f=some (d::ds):=by
 rw[List.mapM_cons,h,i];rfl
theorem eT {es:List ME}(c:es.length<64)(h:es.mapM ((ev U n).m Z)=some ds):(ev U (n+1)).m Z (.list es)=some (.list ds):=by
 show(if es.length<64 then(es.mapM ((ev U n).m Z)).map D.list else none)=_
 rw[M7 c,h];rfl
theorem iq {es:List ME}(c:es.length<64)(h:es.mapM ((ev U n).m Z)=some ds):(ev U (n+1)).m Z (.tup es)=some (.tup ds):=by
 show(if es.length<64 then(es.mapM ((ev U n).m Z)).map D.tup else none)=_
 rw[M7 c,h];rfl
theorem pP {k v:ME}{s:Str}(c:(ev U n).m Z k=some (.str s))(f:(ev U n).m Z v=some d):(ev U (n+1)).m Z (.dict [(k,v)])=some (.dict [s] [d]):=by
 exact bs c (bs f rfl)
theorem cE {f:Fn}(c:cV U (ev U n) Z (.fn f es)=(es.mapM ((ev U n).v Z)>>=fN U f))(h:es.mapM ((ev U n).v Z)=some ds)(g:fN U f ds=some z):(ev U (n+1)).m Z (.fn f es)=some z:=by
 show cV U (ev U n) Z (.fn f es)=_
 rw[c,h];exact g
theorem d3 {f:Nat}{es:List ME}(h:es.mapM ((ev U n).m Z)=some ds)(c:U f ds=some z):(ev U (n+1)).m Z (.fn (.user f) es)=some z:=by
 show(es.mapM ((ev U n).m Z)>>=fN U (.user f))=_
 rw[h];exact c
theorem rQ {f:Fn}(c:cV U (ev U n) Z (.fn f es)=(es.mapM ((ev U n).m Z)>>=fN U f))(h:es.mapM ((ev U n).m Z)=some ds)(g:fN U f ds=some z):(ev U (n+1)).m Z (.fn f es)=some z:=by
 show cV U (ev U n) Z (.fn f es)=_
 rw[c,h];exact g
theorem gy {i k:Nat}(h:Z i=some (.val (.inst vs)))(c:vs[k]?=some d):(ev U (n+1)).m Z (.attr (.var i) k)=some d:=by
 show(match Z i with
  |some (.val (.inst vs))=>vs[k]?
  |some (.obj fs)=>fs[k]?
  |_=>none)=_
 rw[h];exact c
theorem cP:fO r Z none=some none:=rfl
theorem ew {i:Int}(h:r.m Z e=some (.int i)):fO r Z (some e)=some (some i):=by
 exact bs h rfl
theorem kP {lo hi st:Option ME}{l s:Option Int}(c:(ev U n).v Z a=some x)(f:fO (ev U n) Z lo=some l)(g:fO (ev U n) Z hi=some h)(i:fO (ev U n) Z st=some s)(j:D.slice x l h s=some z):(ev U (n+1)).m Z (.jc a lo hi st)=some z:=by
 show((ev U n).v Z a>>=λx=>fO (ev U n) Z lo>>=λl=>fO (ev U n) Z hi>>=λh=>fO (ev U n) Z st>>=λs=>D.slice x l h s)=_
 rw[c,f,g,i];exact j
theorem aI {i:Nat}{es:List ME}(h:es.mapM ((ev U n).m Z)=some ds)(c:D.range ds=some xs):(ev U (n+1)).i Z (.one i) (.range es)=some xs:=by
 show(es.mapM ((ev U n).m Z)>>=D.range)=_
 rw[h];exact c
theorem pD {is:List Nat}(h:(ev U n).v Z e=some (.list xs))(c:xs.length<2^20):(ev U (n+1)).i Z (.many is) (.enum e)=some (dN 0 xs):=by
 show((ev U n).v Z e).bind sY=_
 rw[h];exact M7 c
theorem AJ {is:List Nat}(c:(ev U n).v Z a=some (.list xs))(f:(ev U n).v Z b=some (.list ys)):(ev U (n+1)).i Z (.many is) (.zip a b)=some (iV xs ys):=by
 show(((ev U n).v Z a).bind λx=>((ev U n).v Z b).bind (zh x))=_
 rw[c,f];rfl
theorem k9 {is:List Nat}(c:(ev U n).v Z a=some (.dict ks vs)):(ev U (n+1)).i Z (.many is) (.items a)=some (iV (ks.map .str) vs):=by
 show((ev U n).v Z a).bind sZ=_
 rw[c];rfl
theorem mq {i:Nat}(c:(ev U n).v Z a=some (.dict ks vs)):(ev U (n+1)).i Z (.one i) (.values a)=some vs:=by
 show((ev U n).v Z a).bind oS=_
 rw[c];rfl
theorem KN {t:dj}{c:ME}(h:(ev U n).t Z c=some p)(f:p=true->(ev U n).i Z t a=some xs)(g:p=false->(ev U n).i Z t b=some xs):(ev U (n+1)).i Z t (.ite c a b)=some xs:=by
 have e:(ev U (n+1)).i Z t (.ite c a b)=((ev U n).t Z c>>=λi=>if i then(ev U n).i Z t a else(ev U n).i Z t b):=by cases t<;>rfl
 rw[e,h];cases p
 .exact g rfl
 .exact f rfl
theorem mP {t:dj}(c:wL (ev U n) Z t e=(ev U n).v Z e>>=itemsOf t)(h:(ev U n).v Z e=some x)(f:itemsOf t x=some xs):(ev U (n+1)).i Z t e=some xs:=by
 show wL (ev U n) Z t e=_
 rw[c,h];exact f
theorem rR {g:Type}{c:g->D}{k v:ME}{t:dj}{ifs:List ME}{f:g->Str×D}:∀{ys:List g}{acc:List Str×List D},(∀y∈ys, ∃Z',e7 Z t (c y)=some Z'/\bz r Z' ifs=some true/\r.m Z' k=some (.str (f y).1)/\r.m Z' v=some (f y).2)->(acc.1++ys.map λy=>(f y).1).Nodup->
  di r k v t ifs Z (ys.map c) acc=some (acc.1++ys.map λy=>(f y).1,acc.2++ys.map λy=>(f y).2)
 |[],acc,_,_=>by simp only[List.map_nil,NP];rfl
 |y::ys,acc,h,hn=>by
  refine ni (h y (Nf ..)) λZ' i j l m=>?_
  have o:(f y).1∉acc.1:=λs=>(Oz.mp hn).2.2 _ s _ (Nf ..) rfl
  have hp:putD acc.1 acc.2 (f y).1 (f y).2=(acc.1++[(f y).1],acc.2++[(f y).2]):=by
   unfold putD
   rw[List.idxOf?_eq_none_iff.mpr o]
  have u:=rR (f:=f) (ys:=ys) (acc:=(acc.1++[(f y).1],acc.2++[(f y).2])) (λz w=>h z (Nj _ w)) (by show((acc.1++[(f y).1])++_).Nodup;rw[NS];exact hn)
  refine bs i (bs j (bs l (bs m ?_)))
  show di r k v t ifs Z (ys.map c) (putD acc.1 acc.2 (f y).1 (f y).2)=_
  rw[hp,u,NS,NS];rfl
theorem vH {i:Type}{c:i->D}{g:List Nat}{k v:ME}{t:dj}{it:ME}{ifs:List ME}(f:i->Str×D){ys:List i}(h:(ev U n).i Z t it=some (ys.map c))(j:∀y∈ys, ∃Z',e7 (Z.cut g) t (c y)=some Z'/\bz (ev U n) Z' ifs=some true/\(ev U n).m Z' k=some (.str (f y).1)/\(ev U n).m Z' v=some (f y).2)(hn:(ys.map λy=>(f y).1).Nodup)(l:ys.length<2^10):(ev U (n+1)).m Z (.dM k v g (.mk t it ifs))=some (.dict (ys.map λy=>(f y).1) (ys.map λy=>(f y).2)):=by
 show((ev U n).i Z t it>>=λm=>di (ev U n) k v t ifs (Z.cut g) m ([],[])>>=λacc=>if acc.1.length<2^10 then pure (D.dict acc.1 acc.2) else none)=_
 rw[h]
 show(di _ _ _ _ _ _ (ys.map c) ([],[])>>=_)=_
 rw[rR (f:=f) (acc:=([],[])) j hn]
 exact M7 (by show([]++ys.map λy=>(f y).1).length<2^10;rw[List.nil_append,MX];exact l)
theorem iQ {i:Type}{c:i->D}{f:D->Option (List D)}{g:i->List D}:∀{ys:List i},(∀y∈ys,f (c y)=some (g y))->bD f (ys.map c)=some (ys.flatMap g)
 |[],_=>rfl
 |x::j,h=>by
  have k:=h x (Nf ..)
  have l:=iQ (ys:=j) λd m=>h d (Nj _ m)
  exact bs k (bs l rfl)
theorem aV {i:Type}{c:i->D}{f:List Nat}{t:dj}{it:ME}{ifs:List ME}{ys:List i}(g:i->List D)(h:(ev U n).i Z t it=some (ys.map c))(j:∀y∈ys,cw (ev U n) e t ifs gs (Z.cut f) (c y)=some (g y)){out:List D}(hg:ys.flatMap g=out)(k:out.length<2^20):
  (ev U (n+1)).m Z (.comp e f (.mk t it ifs) gs)=some (.list out):=by
 subst hg
 show((ev U n).i Z t it>>=λl=>bD (cw (ev U n) e t ifs gs (Z.cut f)) l>>=λout=>if out.length<2^20 then pure (D.list out) else none)=_
 rw[h]
 show(bD _ (ys.map c)>>=_)=_
 rw[iQ j]
 exact M7 k
theorem E5 {j:Type}{c:j->D}{f:List Nat}{t:dj}{it:ME}{ifs:List ME}{ys:List j}{is:List Int}(g:j->List D)(h:(ev U n).i Z t it=some (ys.map c))(k:∀y∈ys,cw (ev U n) e t ifs [] (Z.cut f) (c y)=some (g y))(l:D.ints (ys.flatMap g)=some is)(m:(is.length<64&&is.all (λi=>decide (0<=i/\i<6)))=true):(ev U (n+1)).m Z (.gI e f (.mk t it ifs))=some (.list ((sortI is.eraseDups).map .int)):=by
 show((ev U n).i Z t it>>=λo=>bD (cw (ev U n) e t ifs [] (Z.cut f)) o>>=λout=>D.ints out>>=λis=>if is.length<64&&is.all (λi=>decide (0<=i/\i<6)) then pure (D.list ((sortI is.eraseDups).map D.int)) else none)=_
 rw[h]
 show(bD _ (ys.map c)>>=_)=_
 rw[iQ k]
 show(D.ints _>>=_)=_
 rw[l]
 exact M7 m
theorem pQ {i:Nat}(h:Z i=some (.val d)):noOwn Z (.items (.var i))=true:=by
 show(match Z i with
  |some (.val _)=>true
  |_=>false)=_
 rw[h]
theorem yf {i:Nat}(h:Z i=some (.val d)):noOwn Z (.idx (.var i) e)=true:=by
 show(match Z i with
  |some (.rows _)=>false
  |_=>true)=_
 rw[h]
theorem a7 {c:ME}(h:r.t Z c=some p):bz r Z [c]=some p:=by
 show(r.t Z c>>=λt=>if t then pure true else pure false)=_
 rw[h];cases p<;>rfl
theorem aH (h:r.m Z e=some d):i7 r e [] Z=some [d]:=by
 show(r.m Z e>>=λd=>pure [d])=_
 rw[h];rfl
theorem eE {f:Type}{c:f->D}{t:dj}{it:ME}{ifs:List ME}{ys:List f}(g:f->List D)(hn:noOwn Z it=true)(h:r.i Z t it=some (ys.map c))(i:∀y∈ys,cw r e t ifs gs Z (c y)=some (g y)):i7 r e (.mk t it ifs::gs) Z=some (ys.flatMap g):=by
 exact(M8 (by rw[hn];exact NX)).trans (bs h (iQ i))
theorem aF {i:Nat}{ifs:List ME}(hi:Z i=none)(h:bz r (Z.set i (.val d)) ifs=some p)(c:p=true->i7 r e gs (Z.set i (.val d))=some ys):cw r e (.one i) ifs gs Z d=some (if p then ys else[]):=by
 refine bs (M8 (by rw[hi];exact NX)) (bs h ?_)
 cases p
 .rfl
 .exact c rfl
theorem fZ {i:Nat}{ifs:List ME}(hi:Z i=none)(c:Z j=none)(h:bz r ((Z.set i (.val x)).set j (.val y)) ifs=some p)(f:p=true->i7 r e gs ((Z.set i (.val x)).set j (.val y))=some ys):cw r e (.many [i,j]) ifs gs Z (.tup [x,y])=some (if p then ys else[]):=by
 refine bs (M8 (by rw[hi,c];exact NX)) (bs h ?_)
 cases p
 .rfl
 .exact f rfl
theorem bg {i:Nat}(h:(ev U 40).m Z e=some d):ex U N (n+1) (.asg i e) Z=some (.next,Z.set i (.val d)):=by
 show((ev U 40).m Z e>>=λd=>some (Fl.next,Z.set i (.val d)))=_
 rw[h];rfl
theorem ki {i k:Nat}(h:(ev U 40).m Z e=some d)(f:(ev U 40).m Z e'=some (.int k))(hi:Z i=some (.own (.list xs)))(c:k<xs.length)(g:xs.length<2^40):ex U N (n+1) (.setItem i e' e) Z=some (.next,Z.set i (.own (.list (xs.set k d)))):=by
 have c:(0:Int)<=(k:Int)/\(k:Int)<xs.length/\xs.length<2^40:=⟨NG k,by exact N5.mpr c,g⟩
 exact bs h (bs f (bs hi (bs (x:=xs) rfl (M7 c))))
theorem kl {i:Nat}{s:Str}(h:(ev U 40).m Z e=some d)(c:(ev U 40).m Z e'=some (.str s))(hi:Z i=some (.own (.dict ks vs)))(f:(gS d&&decide (ks.length<2^10))=true):
  ex U N (n+1) (.setItem i e' e) Z=some (.next,Z.set i (.own (.dict (putD ks vs s d).1 (putD ks vs s d).2))):=by
 exact bs h (bs c (bs hi (bs (x:=(ks,vs)) rfl (M7 f))))
theorem yg {i:Nat}{s:Str}{a b:Int}(hi:Z i=some (.own (.dict ks vs)))(c:(ev U 40).m Z e'=some (.str s))(f:ks.idxOf? s=some j)(g:vs[j]?=some (.int a))(h:(ev U 40).m Z e=some (.int b))(k:ks.length<2^10):
  ex U N (n+1) (.eh i e' e) Z=some (.next,Z.set i (.own (.dict (putD ks vs s (.int (a+b))).1 (putD ks vs s (.int (a+b))).2))):=by
 exact bs c (bs hi (bs (x:=(ks,vs)) rfl (bs (x:=s) rfl (bs f (bs g (bs (x:=a) rfl (bs h (bs (x:=b) rfl (M7 k)))))))))
theorem oB {i:Nat}{s:_root_.av.Slot}(h:(ev U 40).m Z e=some d)(c:dv 1 d=some s):ex U N (n+1) (.own i e) Z=some (.next,Z.set i s):=by
 show((ev U 40).m Z e>>=λd=>dv 1 d>>=λs=>some (Fl.next,Z.set i s))=_
 rw[h]
 show(dv 1 d>>=λs=>some (Fl.next,Z.set i s))=_
 rw[c];rfl
theorem ey {es:List ME}(h:es.mapM ((ev U 40).m Z)=some ds)(c:dA Z ts ds=some Z'):ex U N (n+1) (.cN ts es) Z=some (.next,Z'):=by
 show(es.mapM ((ev U 40).m Z)>>=λds=>dA Z ts ds>>=λs=>some (Fl.next,s))=_
 rw[h]
 show(dA Z ts ds>>=λs=>some (Fl.next,s))=_
 rw[c];rfl
theorem iu {ts:List Nat}(h:(ev U 40).m Z e=some (.tup ds))(c:dA Z (ts.map λx=>(x,0)) ds=some Z'):ex U N (n+1) (.unpack ts e) Z=some (.next,Z'):=by
 exact bs h (bs (x:=ds) rfl (bs c rfl))
theorem fq {i:Nat}(h:(ev U 40).m Z e=some d)(hi:Z i=some (.own (.list xs)))(c:xs.length<2^20):ex U N (n+1) (.append i e) Z=some (.next,Z.set i (.own (.list (xs++[d])))):=by
 exact bs h (bs hi (bs (M7 c) rfl))
theorem kn {i:Nat}(h:(ev U 40).m Z e=some d)(hi:Z i=some (.ext xs))(c:xs.length<2^20):ex U N (n+1) (.append i e) Z=some (.next,Z.set i (.ext (xs++[d]))):=by
 exact bs h (bs hi (bs (M7 c) rfl))
theorem mQ {i:Nat}(h:(ev U 40).v Z e=some (.list ds))(hi:Z i=some (.own (.list xs)))(c:xs.length+ds.length<2^20):ex U N (n+1) (.extend i e) Z=some (.next,Z.set i (.own (.list (xs++ds)))):=by
 exact bs h (bs (x:=ds) rfl (bs hi (bs (x:=xs) rfl (M7 c))))
theorem Bq {i k:Nat}{c:List (List D)}(hi:Z i=some (.rows c))(h:(ev U 40).m Z e'=some (.int (k:Int)))(g:(ev U 40).v Z e=some (.list ds))(j:k<64)(hx:c[k]?=some xs)(l:xs.length+ds.length<2^20):
  ex U N (n+1) (.cG i e' e) Z=some (.next,Z.set i (.rows (c.set k (xs++ds)))):=by
 have f:c[(k:Int).toNat]?=some xs:=by rw[Oc];exact hx
 exact bs h (bs hi (bs (x:=c) rfl (bs (x:=(k:Int)) rfl (bs g (bs (x:=ds) rfl ((M7 ⟨NG k,uc j⟩).trans (bs f (M7 l))))))))
theorem pR {t:ME}{body:List MS}{R:Option (Fl×St)}(h:cy (λZ=>(ev U 40).t Z t) (ay (ex U N n) body) 64 Z=R):ex U N (n+1) (.du t body) Z=R:=h
theorem oC {i:Nat}{k l:Int}(c:(!(op== .Add||op== .Sub||op== .BitXor||op== .LShift||op== .BitOr))=false)(hi:Z i=some (.val (.int k)))(h:(ev U 40).m Z e=some (.int l))(f:D.bin op (.int k) (.int l)=some d):ex U N (n+1) (.aug i op e) Z=some (.next,Z.set i (.val d)):=by
 refine(M8 (by rw[c];exact NX)).trans ?_
 exact bs hi (bs (x:=k) rfl (bs h (bs (x:=l) rfl (bs f rfl))))
theorem cQ {t:ME}{a b:List MS}{R:Option (Fl×St)}(h:(ev U 40).t Z t=some p)(c:p=true->ay (ex U N n) a Z=R)(f:p=false->ay (ex U N n) b Z=R):ex U N (n+1) (.iff t a b) Z=R:=by
 show((ev U 40).t Z t>>=λt=>if t then ay (ex U N n) a Z else ay (ex U N n) b Z)=_
 rw[h];cases p
 .exact f rfl
 .exact c rfl
theorem eJ {t:dj}{it:ME}{body:List MS}(hn:noOwn Z it=true)(h:(ev U 40).i Z t it=some xs)(c:ck (ay (ex U N n) body) (λZ d=>bB Z t d) xs Z=some (.next,Z')):ex U N (n+1) (.cW t it body []) Z=some (.next,Z'):=by
 exact(M8 (by rw[hn];exact NX)).trans (bs h (bs c rfl))
theorem IL {t:dj}{it:ME}{body c:List MS}{R:Option (Fl×St)}(hn:noOwn Z it=true)(h:(ev U 40).i Z t it=some xs)(f:ck (ay (ex U N n) body) (λZ d=>bB Z t d) xs Z=some (.next,Z'))(g:ay (ex U N n) c Z'=R):ex U N (n+1) (.cW t it body c) Z=R:=by
 exact(M8 (by rw[hn];exact NX)).trans (bs h (bs f g))
theorem Br {t:dj}{it:ME}{body c:List MS}(hn:noOwn Z it=true)(h:(ev U 40).i Z t it=some xs)(f:ck (ay (ex U N n) body) (λZ d=>bB Z t d) xs Z=some (.brk,Z')):ex U N (n+1) (.cW t it body c) Z=some (.next,Z'):=by
 exact(M8 (by rw[hn];exact NX)).trans (bs h (bs f rfl))
theorem eK (h:(ev U 40).m Z.free e=some d):ex U N (n+1) (.ret e) Z=some (.ret d,Z):=by
 show((ev U 40).m Z.free e>>=λd=>some (Fl.ret d,Z))=_
 rw[h];rfl
theorem ae {x:MS->Ex}{st:MS}{rest:List MS}{R:Option (Fl×St)}(h:x st Z=some (.next,Z'))(c:ay x rest Z'=R):ay x (st::rest) Z=R:=by
 show(x st Z>>=_)=_
 rw[h];exact c
theorem bA {x:MS->Ex}{st:MS}{rest:List MS}(h:x st Z=some (.ret d,Z')):ay x (st::rest) Z=some (.ret d,Z'):=by
 show(x st Z>>=_)=_
 rw[h];rfl
theorem lp {x:MS->Ex}{st:MS}{rest:List MS}(h:x st Z=some (.brk,Z')):ay x (st::rest) Z=some (.brk,Z'):=by
 show(x st Z>>=_)=_
 rw[h];rfl
theorem E6 {g:Type}{c:g->D}{b:Ex}{Z0:St->D->Option St}(I:List g->St->Prop){xs:List g}:∀{done:List g}{Z:St},(∀(ys:List g) (d:g) (h:List g),done++xs=ys++d::h-> ∀Z,I ys Z-> ∃Z1 f,Z0 Z (c d)=some Z1/\b Z1=some (.next,f)/\I (ys++[d]) f)->I done Z->
  ∃f,ck b Z0 (xs.map c) Z=some (.next,f)/\I (done++xs) f:=by
 induction xs with
 |nil=>exact λ_ h0=>⟨_,rfl,(NP _).symm▸h0⟩
 |cons d xs j=>
  intro done Z step h0
  exact aP (step done d xs rfl Z h0) λZ1 f k l m=>af (j (done:=done++[d]) (λys o h e=>step ys o h ((List.append_cons done d xs).trans e)) m) λi s t=>⟨i,bs k (bs l s),(List.append_cons done d xs).symm▸t⟩
theorem iR {g:Type}{c:g->D}{b:Ex}{Z0:St->D->Option St}(I:List g->St->Prop){xs:List g}{Z:St}(h:∀(ys:List g) (d:g) (i:List g),xs=ys++d::i-> ∀Z,I ys Z-> ∃Z1 f,Z0 Z (c d)=some Z1/\b Z1=some (.next,f)/\I (ys++[d]) f)(h0:I [] Z):
  ∃f,ck b Z0 (xs.map c) Z=some (.next,f)/\I xs f:=E6 I (done:=[]) h h0
theorem vJ {b:Ex}{Z0:St->D->Option St}{c:St}(h:Z0 Z d=some Z1)(f:b Z1=some (.next,c)):ck b Z0 [d] Z=some (.next,c):=by
 exact bs h (bs f rfl)
theorem mR {b:Ex}{Z0:St->D->Option St}{c:St}{R:Option (Fl×St)}(h:Z0 Z d=some Z1)(f:b Z1=some (.next,c))(g:ck b Z0 xs c=R):ck b Z0 (d::xs) Z=R:=by
 exact bs h (bs f g)
theorem vK {b:Ex}{Z0:St->D->Option St}{c:St}(h:Z0 Z d=some Z1)(f:b Z1=some (.brk,c)):ck b Z0 (d::xs) Z=some (.brk,c):=by
 exact bs h (bs f rfl)
theorem f5 {t:St->Option Bool}{b:Ex}(h:t Z=some false):cy t b (n+1) Z=some (.next,Z):=by
 exact bs h rfl
theorem d9 {t:St->Option Bool}{b:Ex}{R:Option (Fl×St)}(h:t Z=some true)(c:b Z=some (.next,Z'))(f:cy t b n Z'=R):cy t b (n+1) Z=R:=by
 exact bs h (bs c f)
theorem dR {body:List MS}{ds:List D}(h:ay (ex U N 12) body (λi=>(ds[i]?).map .val)=some (.ret d,Z)):rF U N body ds=some d:=by
 exact bs h rfl
end
noncomputable def nl (l:List Nat):D:=.list (l.map λ(k:Nat)=>D.int (k:Int))
theorem E7 (n:Nat)(a b:Int):D.gm (n+1) (.int a) (.int b)=some (a==b):=rfl
theorem rS {x:Nat}{l:List Nat}:D.mem (.int x) (l.map λ(k:Nat)=>D.int (k:Int))=some (decide (x∈l)):=by
 induction l with
 |nil=>rfl
 |cons y l a=>
  show(match D.gm 6 (.int (y:Int)) (.int (x:Int)),D.mem (.int (x:Int)) (l.map λ(k:Nat)=>D.int (k:Int)) with
   |some b,some c=>some (b||c)
   |_,_=>none)=_
  rw[a]
  exact MY some (Oj.mpr (by rw[Pe,NJ,Nd,Nd,Np];exact or_congr ⟨λe=>(O5 e).symm,λe=>MY Int.ofNat e.symm⟩ Iff.rfl))
theorem rT {x:Nat}{l:List Nat}:D.cmp .In (.int x) (nl l)=some (decide (x∈l)):=rS
theorem dn {x:Nat}{l:List Nat}:D.cmp .NotIn (.int x) (nl l)=some (decide (x∉l)):=by
 show(D.mem (.int (x:Int)) (l.map λ(k:Nat)=>D.int (k:Int))).map (λb=> !b)=_
 rw[rS]
 exact MY some (decide_not ..).symm
theorem index_list (l:List D)(i:Int):D.index (.list l) (.int i)=if 0<=i/\i<lim then l[i.toNat]? else none:=rfl
theorem bC {l:List D}{i:Nat}{d:D}(h:l[i]?=some d)(hi:i<64):D.index (.list l) (.int i)=some d:=by
 rw[index_list,M7 ⟨NG i,uc hi⟩];exact h
theorem dB {l:List Nat}{i k:Nat}(h:l[i]?=some k)(hi:i<64):D.index (nl l) (.int i)=some (.int k):=
 bC (by rw[Nz,h];rfl) hi
theorem aO {a:Type}{p:a->Bool}{c:a->D}{ys:List a}:ys.flatMap (λy=>if p y then[c y] else[])=(ys.filter p).map c:=by
 induction ys with
 |nil=>rfl
 |cons y ys b=>
  rw[OG,b,Om]
  cases p y<;>rfl
theorem bk {a:Type}{c:a->D}{ys:List a}:ys.flatMap (λy=>[c y])=ys.map c:=by
 induction ys with
 |nil=>rfl
 |cons y ys b=>exact MY (c y:: ·) b
theorem mS {b:Nat}(h:a<=b):(Builtin.Range.rangeSize a b 1).toNat=b - a:=by
 refine(MY Int.toNat (M7 (by decide))).trans ?_
 by_cases q:(a:Int)<b
 .rw[M7 q,Int.ediv_one,Int.sub_add_cancel,Int.toNat_sub]
 .rw[M8 q];exact(Nat.sub_eq_zero_of_le (Ot.mp (Int.not_lt.mp q))).symm
theorem f6 {a b:Nat}(h:a<=b)(hb:b<1000):D.range [.int a,.int b]=some ((List.range (b - a)).map λ(k:Nat)=>D.int ((a+k:Nat):Int)):=by
 refine(M7 ⟨by exact lu (M5 h hb) rfl,by exact lu hb rfl⟩).trans (MY some ?_)
 unfold wK
 rw[mS h]
 exact N2 λk _=>MY (λx:Int=>D.int (a+x)) (Int.mul_one k)
theorem range_one {n:Nat}(h:n<1000):D.range [.int n]=some ((List.range n).map λ(k:Nat)=>D.int (k:Int)):=by
 refine(M7 (by exact lu h rfl)).trans (MY some ?_)
 unfold wK
 rw[show Builtin.Range.rangeSize 0 (n:Int) 1=Builtin.Range.rangeSize ((0:Nat):Int) n 1 from rfl,mS (Ou n)]
 exact N2 λk _=>MY D.int ((Int.zero_add _).trans (Int.mul_one k))
theorem ud {n:Nat}:(Builtin.Range.rangeSize 0 ((3*n:Nat):Int) 3).toNat=n:=by
 refine(MY Int.toNat (M7 (by decide))).trans ?_
 cases n with
 |zero=>exact MY Int.toNat (M8 (by decide))
 |succ n=>
  rw[M7 (by exact N5.mpr (Oh (3*n+2))),Int.sub_zero,show((3*(n+1):Nat):Int)=((3*n+2:Nat):Int)+1 from rfl,Int.add_sub_cancel]
  exact MY Nat.succ (Nat.mul_add_div (by decide) n 2)
theorem rU {n:Nat}(h:n<1000):D.range [.int 0,.int ((3*n:Nat):Int),.int 3]=some ((List.range n).map λ(k:Nat)=>D.int ((3*k:Nat):Int)):=by
 refine(M7 ⟨by decide,by exact lu (Nat.mul_lt_mul_of_pos_left h (by decide:0<3)) rfl,by decide,by decide⟩).trans (MY some ?_)
 unfold wK
 rw[ud]
 exact N2 λk _=>MY D.int ((Int.zero_add _).trans (Int.mul_comm k 3))
theorem kQ {n d:Nat}(h:List.range n=ys++d::a):ys=List.range d/\d<n:=by
 have f:(List.range n)[ys.length]?=some d:=by rw[h,List.getElem?_append_right (NB _),Nat.sub_self];rfl
 refine Exists.elim (Ny.mp f) λq e=>?_
 have b:=(List.getElem_range q).symm.trans e
 rw[Nk,b] at q
 exact⟨(List.take_left (l₂:=d::a)).symm.trans (by rw[<-h,List.take_range,b,Nat.min_eq_left (ND q)]),q⟩
theorem cL {c:Nat->D}{b:Ex}{Z0:St->D->Option St}{n:Nat}{Z:St}(I:Nat->St->Prop)(h:∀k,k<n-> ∀{Z},I k Z-> ∃Z1 a,Z0 Z (c k)=some Z1/\b Z1=some (.next,a)/\I (k+1) a)(h0:I 0 Z):∃a,ck b Z0 ((List.range n).map c) Z=some (.next,a)/\I n a:=
 af (iR (c:=c) (λf Z=>I f.length Z) (λf d m e Z g=>au (kQ e) λj l=>by
  have i:f.length=d:=(MY List.length j).trans Nk
  rw[Ni,i]
  exact h d l (i▸g)) h0) λa e g=>⟨a,e,Nk (n:=n)▸g⟩
theorem len_own {l:List D}{U:UT}(h:l.length<2^40):fN U .len [.list l]=some (.int l.length):=M7 h
theorem bc {n:Nat}:∀{l:List Nat},l.Nodup->(∀x∈l,x<n)->l.length<=n:=by
 induction n with
 |zero=>
  intro l _ h
  cases l with
  |nil=>exact NB _
  |cons x l=>exact absurd (h x (Nf ..)) (OL _)
 |succ n c=>
  intro l hn h
  have a:=c (hn.erase n) λx hx=>au ((List.Nodup.mem_erase_iff hn).mp hx) λd e=>Nat.lt_of_le_of_ne (N0 (h x e)) d
  by_cases b:n∈l
  .exact Nat.le_add_of_sub_le (List.length_erase_of_mem b▸a)
  .exact Oy (List.erase_of_not_mem b▸a)
theorem add_int {b:Int}:D.bin .Add (.int a) (.int b)=some (.int (a+b)):=rfl
theorem add_lists {a b:List D}(c:a.length<2^20)(hb:b.length<2^20):D.bin .Add (.list a) (.list b)=some (.list (a++b)):=M7 ⟨c,hb⟩
theorem mul_int {a b:Int}(c:a.natAbs<2^64)(hb:b.natAbs<2^64):D.bin .Mult (.int a) (.int b)=some (.int (a*b)):=M7 (by rw[Nq c,Nq hb];rfl)
theorem pS {b:Int}(h:b≠0)(hb:b.natAbs<2^30):D.bin .FloorDiv (.int a) (.int b)=some (.int (a.fdiv b)):=M7 ⟨h,hb⟩
theorem mod_int {b:Int}(h:b≠0):D.bin .Mod (.int a) (.int b)=some (.int (a.fmod b)):=M7 h
theorem pow_int {a b:Int}(h:0<=b/\b<=64/\a.natAbs<2^64):D.bin .Pow (.int a) (.int b)=some (.int (a^b.toNat)):=M7 h
end av.Q
namespace av
open PySem PySem.W PyProof.Rows PySem.SeqAt
noncomputable def dC (bs:Array UInt8):Nat->Int->UInt8->Nat->Option (Option (Int×Nat))
 |0,_,_,_=>none
 |n+1,v,b,i=>if Builtin.bitAnd (b.toNat:Int) 64≠0 then(if v.natAbs<2^64 then match bs[i]? with
   |none=>some none
   |some c=>dC bs n (Builtin.bitOr (v*2^6) (Builtin.bitAnd (c.toNat:Int) 63)) c (i+1) else none)
  else some (some (v,i))
noncomputable def cM (bs:Array UInt8)(i:Nat):Option (Option (Int×Nat)):=match bs[i]? with
 |none=>some none
 |some c=>dC bs 64 (Builtin.bitAnd (c.toNat:Int) 63) c (i+1)
section
variable {W:Wd}{U:UT}{N:NT}{n l:Nat}{A:Around}{E:Value->Shared->Prop}{s s0 s1 s2 s':Shared}{env:Env}{c:CT}{k:Nat}{sc:Scope}{Mu0 X0:aD}{Z Z':St}{ow:Nat->aD}{I:Addr}{bs:Array UInt8}{t:Tok}{i:Nat}
theorem FS.Mc {X:aD}(F:FS W c sc env l A Mu0 X0 s0 ow Z s)(kb:KB X s s')(hx:∀b,X b->X0 b/\Mu0 b)(a:∀b,X b-> ∀i, ¬ow i b)(d:∀b,X b-> ¬bu env b)(lv:∀b,X b-> ∃o,s'.heap.get? b=some o):FS W c sc env l A Mu0 X0 s0 ow Z s':=
 ⟨F.cx.kb kb (λb h=>.inl (hx b h).2) a d lv,F.no,F.kb.trans (kb.mono λb h=>(hx b h).1),F.fresh,F.i4,F.sQ,F.hZ,F.ia,F.fk,F.apart,F.ext⟩
structure PI (W:Wd)(c:CT)(sc:Scope)(env:Env)(l:Nat)(A:Around)(I:Addr)(bs:Array UInt8)(t:Tok)(s0:Shared)(i:Nat)(Z:St)(s:Shared):Prop where
 fs:∃ow,FS W c sc env l A (· =I) (· =I) s0 ow Z s/\ ∀j, ¬ow j I
 it:KBw.IsBytesIter s.heap I bs t i
 nm:Z 0=some (.raw (.ref I))
theorem iw (lv:fh env h)(it:KBw.IsBytesIter h I bs t i):¬bu env I:=by
 exact bf it λo e _ b=>dZ lv e (λv q=>Data.noConfusion (b.symm.trans q)) λq=>oR lv.ns λm f g j d a _=>Data.noConfusion (b.symm.trans ((MY Obj.data (MW (e.symm.trans ((MY h.get? q).trans d)))).trans a))
theorem kR {a:Heap}(it:KBw.IsBytesIter h I bs t i)(k:∀o,h.get? I=some o->a.get? I=some o):KBw.IsBytesIter a I bs t i:=af it λo e r=>⟨o,k o e,r⟩
theorem PI.step {st:Stmt}{x:Ex}(p:PI W c sc env l A I bs t s0 i Z s)(hs:JN W c sc env l A st x)(hx:x Z=some (fl,Z'))(h0:Z' 0=some (.raw (.ref I))){Q:Flow->Shared->Prop}(q:∀f s',PI W c sc env l A I bs t s0 i Z' s'->Iv W (· =I) s'.heap fl f->Q f s'):wpAny W.M A (exec st env) Q E s:=by
 refine af p.fs λow F a=>?_
 have b:=iw F.cx.live p.it
 refine NH (hs _ _ _ _ _ _ _ _ hx F E) (λf s' hp=>bf hp λd r g st=>?_) λ_ _ e=>e
 have m:¬dS sc env ow I:=λh=>h.elim (λh=>b h.all) λ⟨j,h⟩=>a j h
 exact q f s' ⟨⟨d,r,λj h=>(st.gr I (.inr ⟨j,h⟩)).elim m λh=>af p.it λo e _=>az h e⟩,kR p.it λo e=>st.kb.get I o m e,h0⟩ g
theorem PI.next (w:pO W){p1 p2 y G H:Pos}{Q:Flow->Shared->Prop}(p:PI W c sc env l A I bs t s0 i Z s)(hb:cv c sc "b"=some 1)(hi:c.aE.idxOf? ("iterator":Str)=some 0)(hg:sc.names.lookup ("next":Str)=some .globalImplicit)(J:∀u s',bs[i]?=some u->PI W c sc env l A I bs t s0 (i+1) (Z.set 1 (.val (.int u.toNat))) s'->Q .next s')(K:bs[i]?=none-> ∀h0 d e tk,(∀b o,b≠I->s.heap.get? b=some o->h0.get? b=some o)->(∀F,Exc F h0 d e none)->E (.ref e) {s with heap:=d,toks:=tk}):
  wpAny W.M A (exec (.Assign [.Name "b" p1] (.Call (.Name "next" p2) [.Name "iterator" y] [] G) H) env) Q E s:=by
 refine af p.fs λow F g=>?_
 have it:=p.it
 have nm:=p.nm
 have m:=iw F.cx.live it
 refine au (w.KJ ("next",.builtin "next") (by simp[ik])) λL M=>au (bP hb) λz B=>af (df F.cx hi nm) λv na r=>?_
 have na:aJ env s.heap "iterator" (.ref I):=(show v=.ref I from r)▸na
 refine wpAny_Assign_Name (bw (fX F.cx w.w.g w.w.b hg L M (by decide) ?_)) rfl
 have C:starEach [Expr.Name "iterator" y] env=[(false,eval (.Name "iterator" y) env)]:=rfl
 rw[C]
 refine aX (.inl ⟨_,rfl⟩) rfl ?_
 refine Calls.spliced_cons (gx F.cx hi na (Calls.spliced_nil ?_))
 cases hx:bs[i]? with
 |some u=>
  refine ub it hx λd q hs=>?_
  have kb:KB (· =I) s {s with heap:=d,toks:=s.toks+1}:=⟨d,_,rfl,λb o nb e=>hs.extBut b o nb e⟩
  have lv:∀b,b=I-> ∃o,d.get? b=some o:=λb e=>af q λo O _=>⟨o,e▸O⟩
  have D:=F.Mc kb (λb h=>⟨h,h⟩) (λb h=>h▸g) (λb h=>h▸m) lv
  exact bL D.cx.ok D.cx.live z λs2 a=>J u s2 hx ⟨⟨_,D.asg B a aN,λj h=>(aw h).elim (λh=>h.2) λh=>g j h.2⟩,kR q λo e=>a.kb.get I o (λf=>m f.all) e,nm⟩
 |none=>
  exact ye F.cx.good.hh it hx λh0 d e k x=>K hx h0 d e s.toks k x
theorem ue {k:Nat}{m:Int}{bb:Int}(h:Z 1=some (.val (.int bb))):(ev U (k+3)).m Z (.bin .BitAnd (.var 1) (.int m))=some (.int (Builtin.bitAnd bb m)):=Q.ar (Q.v_var h) rfl rfl
theorem Bs {m:Int}{bb:Int}(h:Z 1=some (.val (.int bb))):(ev U 40).t Z (.bin .BitAnd (.var 1) (.int m))=some (Builtin.bitAnd bb m !=0):=Q.DF rfl (Q.aB (n:=38) rfl (ue h)) rfl
structure mT (c:CT)(sc:Scope)(body:List Stmt):Prop where
 text:∃(p1 p2 p3 p4 p5 p6 q1 q2 q3 q4 q5:Pos) (s1 a1 a3 s3:Stmt) (t:Expr),body=[.Assign [.Name "b" p1] (.Call (.Name "next" p2) [.Name "iterator" p3] [] p4) p5,s1,.While t [a1,.Assign [.Name "b" q1] (.Call (.Name "next" q2) [.Name "iterator" q3] [] q4) q5,a3] [] p6,s3]/\
  cS c sc 12 s1=some (.asg 2 (.bin .BitAnd (.var 1) (.int 63)))/\(cm c 40).e sc t=some (.bin .BitAnd (.var 1) (.int 64))/\cS c sc 12 a1=some (.aug 2 .LShift (.int 6))/\cS c sc 12 a3=some (.aug 2 .BitOr (.bin .BitAnd (.var 1) (.int 63)))/\cS c sc 12 s3=some (.ret (.var 2))
 hb:cv c sc "b"=some 1
 hi:c.aE.idxOf? ("iterator":Str)=some 0
 hg:sc.names.lookup ("next":Str)=some .globalImplicit
noncomputable def HA (Z0:St)(v b:Int):St:=(Z0.set 1 (.val (.int b))).set 2 (.val (.int v))
theorem set_same {a b:_root_.av.Slot}{Z:St}{x:Nat}:(Z.set x a).set x b=Z.set x b:=by
 funext y
 show(if y=x then some b else if y=x then some a else Z y)=(if y=x then some b else Z y)
 by_cases h:y=x
 .rw[M7 h,M7 h]
 .rw[M8 h,M8 h,M8 h]
theorem PI.keep (p:PI W c sc env l A I bs t s0 i Z s)(k:Keeps s s'):PI W c sc env l A I bs t s0 i Z s':=by
 exact af p.fs λow F a=>⟨⟨ow,F.keep k,a⟩,kR p.it λo e=>ag k _ _ e,p.nm⟩
theorem PI.raised {outer:List Env}{h0:Heap}(a:KBw.IsBytesIter s0.heap I bs t h)(p:PI W c sc env l A I bs t s0 i Z s)(j:env.frame=some env.locals)(r:env.scope.kind≠ .module)(u:s0.heap.FunFrames dc outer)(k:∀b o,b≠I->s.heap.get? b=some o->h0.get? b=some o):
  (∀b o,b≠I->s0.heap.get? b=some o->h0.get? b=some o)/\h0.FunFrames dc (env::outer)/\ ∀d tk,({s with heap:=d,toks:=tk}:Shared)={s0 with heap:=d,toks:=tk}:=by
 refine af p.fs λow F v=>?_
 have f:∀b o,b≠I->s0.heap.get? b=some o->h0.get? b=some o:=λb o nb e=>k b o nb (F.kb.get b o nb e)
 refine⟨f,⟨r,bf p.it λC w _ x=>oR F.cx.live.ns λm o D G e g _=>⟨env.locals,o,j,rfl,k _ _ (λq=>Data.noConfusion (g.symm.trans ((MY Obj.data (MW (e.symm.trans ((MY s.heap.get? q).trans w)))).trans x))) e,λH q=>Data.noConfusion (g.symm.trans q)⟩,
  u.of_keeps λb o e hn=>⟨o,f b o (λq=>bf a λJ y _ z=>hn _ ((MY Obj.data (MW (e.symm.trans ((MY s0.heap.get? q).trans y)))).trans z)) e,rfl⟩⟩,λd tk=>aW F.kb λK L B _=>B▸rfl⟩
theorem E8 (h:bs[i]?=none){r:Option (Int×Nat)}(e:cM bs i=some r):r=none:=by
 have e:(match bs[i]? with
  |none=>some none
  |some c=>dC bs 64 (Builtin.bitAnd (c.toNat:Int) 63) c (i+1))=some r:=e
 rw[h] at e;exact(MW e).symm
theorem E9 {a:UInt8}(h:bs[i]?=some a){r:Option (Int×Nat)}(e:cM bs i=some r):dC bs 64 (Builtin.bitAnd (a.toNat:Int) 63) a (i+1)=some r:=by
 have e:(match bs[i]? with
  |none=>some none
  |some c=>dC bs 64 (Builtin.bitAnd (c.toNat:Int) 63) c (i+1))=some r:=e
 rw[h] at e;exact e
theorem Fd {m:Nat}{v:Int}{b:UInt8}{r:Option (Int×Nat)}{G:Prop}(h:dC bs (m+1) v b i=some r)(k1:Builtin.bitAnd (b.toNat:Int) 64=0->some (v,i)=r->G)(k2:¬Builtin.bitAnd (b.toNat:Int) 64=0->v.natAbs<2^64->(bs[i]?=none->r=none)->(∀c,bs[i]?=some c->dC bs m (Builtin.bitOr (v*2^6) (Builtin.bitAnd (c.toNat:Int) 63)) c (i+1)=some r)->G):G:=by
 have h:(if Builtin.bitAnd (b.toNat:Int) 64≠0 then(if v.natAbs<2^64 then match bs[i]? with
   |none=>some none
   |some c=>dC bs m (Builtin.bitOr (v*2^6) (Builtin.bitAnd (c.toNat:Int) 63)) c (i+1) else none)
  else some (some (v,i)))=some r:=h
 by_cases hz:Builtin.bitAnd (b.toNat:Int) 64=0
 .rw[M8 (λq=>q hz)] at h
  exact k1 hz (MW h)
 .rw[M7 hz] at h
  refine cT h λa h=>k2 hz a (λe=>?_) λc e=>?_
  .rw[e] at h;exact(MW h).symm
  .rw[e] at h;exact h
inductive MO (W:Wd)(c:CT)(sc:Scope)(env:Env)(l:Nat)(A:Around)(I:Addr)(bs:Array UInt8)(t:Tok)(s0:Shared)(Z:St)(r:Option (Int×Nat))(m:Nat)(s:Shared):Prop
 |mk {j:Nat}{v:Int}{cb:UInt8}(pj:PI W c sc env l A I bs t s0 j (HA Z v (cb.toNat:Int)) s)(hm:dC bs m v cb j=some r)
theorem uf (w:pO W)(H:rG W N l)(S:∀n,bF W U l n){body:List Stmt}(T:mT c sc body){r:Option (Int×Nat)}(hr:cM bs i=some r)(F:KBw.IsBytesIter s0.heap I bs t i0)(p:PI W c sc env l A I bs t s0 i Z s)(J:env.frame=some env.locals)(hk:env.scope.kind≠ .module){outer:List Env}(L:A.frames=some (env::outer))(hl:s0.heap.FunFrames dc outer){Q:Flow->Shared->Prop}(hQ:∀v j tk s',r=some (v,j)->(∃Z',PI W c sc env l A I bs t s0 j Z' s')->Q (.ret (.int v tk)) s')(hE:∀h0 C e tb tk,r=none->(∀b o,b≠I->s0.heap.get? b=some o->h0.get? b=some o)->h0.FunFrames dc (env::outer)->(tb=none\/tb=some .none\/tb=some (rawInt env.locals))->Exc ((env::outer).filterMap (·.frame)) h0 C e tb->E (.ref e) {s0 with heap:=C,toks:=tk}):
  wpAny W.M A (execs body env) Q E s:=by
 obtain ⟨p1,p2,p3,p4,p5,p6,q1,q2,q3,q4,q5,st1,a1,a3,st3,tt,rfl,c1,ct,M,O,c3⟩:=T.text
 have a:∀v b,(HA Z v b) 0=some (.raw (.ref I)):=λv b=>p.nm
 refine N9 (PI.next w p T.hb T.hi T.hg (λch s1 hx pi=>?_) λhx h0 C e tk k x=>eU (p.raised F J hk hl k) λP d R=>fU (R C tk) (hE h0 C e none tk (E8 hx hr) P d (.inl rfl) (x _)))
 refine N9 (pi.step (kM w.tonF H S 12 c1 1) (fl:=.next) (Z':=HA Z (Builtin.bitAnd (ch.toNat:Int) 63) (ch.toNat:Int)) (av.Q.bg (n:=0) (ue rfl)) (a _ _) λf s2 X z=>fU (show f=.next from z) ?_)
 refine N9 (wpAny_While (codeAny_whileLoop (MO W c sc env l A I bs t s0 Z r) (λm sj q=>?_) 64 (.mk X (E9 hx hr))))
 cases q with|@mk j v Y pj K=>
 cases m with
 |zero=>exact ns K
 |succ m=>
  refine af pj.fs λowj Fj hnoj=>((S 40).t ct (Bs rfl) Fj.cx).use λx s3 k3 r3=>fU r3 ?_
  have pk:=pj.keep k3
  refine Fd K (λhz K=>fU (MY (λx:Int=>x !=0) hz) (wpAny_execs_nil ?_)) λhz hv hn hs=>fU (bne_iff_ne.mpr hz) ?_
  .exact N9 (pk.step (kM w.tonF H S 12 c3 1) (fl:=.ret (.int v)) (Z':=HA Z v (Y.toNat:Int)) (av.Q.eK (n:=0) (av.Q.ao rfl)) (a _ _) λf s4 g z=>af z λu ef ru=>fU ef (ak ru λtk eu=>fU eu (hQ v j tk s4 K.symm ⟨_,g⟩)))
  .refine N9 (pk.step (kM w.tonF H S 12 M 1) (fl:=.next) (Z':=HA Z (v*2^6) (Y.toNat:Int)) ((av.Q.oC (n:=0) (op:=.LShift) (l:=6) rfl rfl rfl (M7 ⟨by decide,by decide,hv⟩:D.bin .LShift (.int v) (.int 6)=_)).trans (MY (λx=>some (Fl.next,x)) set_same)) (a _ _) λf s4 g z=>fU (show f=.next from z) ?_)
   refine N9 (PI.next w g T.hb T.hi T.hg (λy s5 B G=>?_) λB h0 C e tk k x=>?_)
   .have e1:(HA Z (v*2^6) (Y.toNat:Int)).set 1 (.val (.int (y.toNat:Int)))=HA Z (v*2^6) (y.toNat:Int):=(set_comm (by decide)).trans (MY (λZ:St=>Z.set 2 _) set_same)
    rw[e1] at G
    exact N9 (G.step (kM w.tonF H S 12 O 1) (fl:=.next) (Z':=HA Z (Builtin.bitOr (v*2^6) (Builtin.bitAnd (y.toNat:Int) 63)) (y.toNat:Int)) ((av.Q.oC (n:=0) rfl rfl (ue rfl) rfl).trans (MY (λx=>some (Fl.next,x)) set_same)) (a _ _) λf s6 p6' z=>fU (show f=.next from z) (wpAny_execs_nil ⟨m,N7 m,.mk p6' (hs _ B)⟩))
   .refine eU (g.raised F J hk hl k) λP d R=>?_
    refine pN L d (λb h=>h) J (x _) (.inl rfl) λh1 x1=>E4 J x1 λh2 x2=>?_
    exact(R h2 tk).symm▸hE h0 h2 e _ tk (hn B) P d (.inr (.inr rfl)) x2
end
section
variable {W:Wd}{U:UT}{N:NT}{n l:Nat}{A:Around}{E:Value->Shared->Prop}{s s0 s1 s₁ s2 s':Shared}{env:Env}{c:CT}{k:Nat}{sc:Scope}{Mu Mu0 X0 Ex:aD}{Z Z':St}{ow:Nat->aD}{I:Addr}{bs:Array UInt8}{t:Tok}{i:Nat}{params:List Str}{vs:List Value}{body:List Stmt}
theorem ug (X:DD W c params sc l A env s vs s₁)(tb:lQ c.aE=true)(hb:∀b o,W.h0.get? b=some o->s.heap.get? b=some o)(old:Old Mu s.heap)(ab:∀b,Mu b->W.h0.get? b=none)(hEx:∀b,Ex b->Mu b)(view:View W c.aE env (λ_ _=>False) (bU Mu sc env λ_ _=>False) s₁.heap Z):FS W c sc env l A Mu Ex s (λ_ _=>False) Z s₁ where
 cx:=by
  refine⟨X.ok,λb o e=>ag X.kp b o (hb b o e),?_,λi b h=>h.elim,?_,view,X.good,tb,X.live⟩
  .rintro b (h|h|⟨i,h⟩)
   .obtain ⟨o,e⟩:=old b h;exact⟨o,ag X.kp b o e⟩
   .exact X.live.lives h
   .exact h.elim
  .rintro b (h|h|⟨i,h⟩)
   .exact ab b h
   .cases e:W.h0.get? b with
    |none=>rfl
    |some o=>exact az (X.fresh b h.all) (hb b o e)
   .exact h.elim
 no:=λb f i h=>h.elim
 kb:=KB.of X.kp
 fresh:=λb f=>X.fresh b f.all
 i4:=λi sl e hs b h=>h.elim
 sQ:=λi b h=>h.elim
 hZ:=λi j b h1 h2=>h1.elim
 ia:=hEx
 fk:=λb h=>old b (hEx b h)
 apart:=λi b h _=>h.elim
 ext:=λi sl _ _ b h=>h.elim
theorem uh (w:pO W)(D:rG W N l)(S:∀n,bF W U l n){fp:Addr}(p:eF W fp c params body sc)(T:mT c sc body)(hp:params=([("iterator":Str)]:List Str)){outer:List Env}{r:Option (Int×Nat)}{Q:Value->Shared->Prop}(g:Good A (l+1))(q:A.frames=some outer)(G:s.heap.FunFrames dc outer)(hb:∀b o,W.h0.get? b=some o->s.heap.get? b=some o)(u:W.h0.get? I=none)(it:KBw.IsBytesIter s.heap I bs t i)(hr:cM bs i=some r)(H:∀v j tk s',r=some (v,j)->KB (· =I) s s'->KBw.IsBytesIter s'.heap I bs t j->Q (.int v tk) s')(J:∀F h0 m e tk,r=none->(∀b o,b≠I->s.heap.get? b=some o->h0.get? b=some o)->h0.FunFrames dc outer->(∀b∈outer.filterMap (·.frame),b∈F)->(∀b∈F,b∈outer.filterMap (·.frame)\/s.heap.get? b=none)->Exc F h0 m e (some .none)->E (.ref e) {s with heap:=m,toks:=tk}):
  wpAny W.M A (call (.ref fp) [.ref I]) Q E s:=by
 subst hp
 refine wpAny_call (mD (l:=l) p w.lim hb (by have:=g.depth;lia) (λ_=>fK g) rfl λenv s₁ X=>?_)
 have y:∃o,s.heap.get? I=some o:=let ⟨o,e,_⟩:=it;⟨o,e⟩
 have z:c.aE[0]?=some ("iterator":Str):=ji p.pre rfl
 have view:View W c.aE env (λ_ _=>False) (bU (· =I) sc env λ_ _=>False) s₁.heap (λi=>if i=0 then some (.raw (.ref I)) else none):=λi sl e=>by
  change (if i=0 then some (Slot.raw (.ref I)) else none)=some sl at e
  split at e
  .rename_i hi
   subst hi
   cases e
   exact⟨_,_,z,X.at_ 0 _ _ rfl rfl,rfl⟩
  .cases e
 have fs:=ug (Mu:=(· =I)) (Ex:=(· =I)) X p.tb hb (λb e=>e▸y) (λb e=>e▸u) (λ_ h=>h) view
 have K:PI W c sc env l (A.deeper env) I bs t s i (λi=>if i=0 then some (.raw (.ref I)) else none) s₁:=⟨⟨_,fs,λ_ h=>h⟩,kR it λo e=>ag X.kp _ _ e,rfl⟩
 have a:(A.deeper env).frames=some (env::outer):=by show A.frames.map (env:: ·)=_;rw[q];rfl
 refine uf w D S T hr it K X.frame (by rw[X.ok.kind];decide) a G (λv j tk s' e ⟨Z',L⟩=>?_) λh0 m e tb tk hn M f B x=>?_
 .obtain ⟨⟨ow,O,_⟩,C,_⟩:=L
  exact H v j tk s' e O.kb C
 .refine Bo (s:={s with heap:=m,toks:=tk}) a f (λb h=>h) X.frame x B λP R=>?_
  refine J _ h0 P e tk hn M f.2.2 (λb d=>?_) (λb d=>?_) R
  .rw[O7,X.frame]
   exact Nj _ d
  .rw[O7,X.frame] at d
   rcases Np.mp d with rfl|d
   .exact .inr (X.fresh _ (.inl rfl))
   .exact .inl d
end
structure LI (W:Wd)(sc:Scope)(env:Env)(I N:Addr)(arr:Array UInt8)(t:Tok)(p:Nat)(acc:List Int)(s:Shared):Prop where
 ok:jx sc env
 live:fh env s.heap
 base:∀b o,W.h0.get? b=some o->s.heap.get? b=some o
 nN:aJ env s.heap "numbers" (.ref N)
 nI:aJ env s.heap "reader" (.ref I)
 it:KBw.IsBytesIter s.heap I arr t p
 li:∃vs m,s.heap.get? N=some (aR vs m)/\IntsAre vs acc
structure Bt (sc:Scope)(body:List Stmt):Prop where
 text:∃(p1 p2 p3 p4 p5 p6 p7 p8 p9 p10 p11 p12:Pos),body=[.Try [.Expr (.Call (.Attribute (.Name "numbers" p1) "append" p2) [.Call (.Name "_parse_varint" p3) [.Name "reader" p4] [] p5] [] p6) p7] [.ExceptHandler (some (.Name "StopIteration" p8)) none [.Return (some (.Name "numbers" p9)) p10] p11] [] [] p12]/\(p2.endLine==p6.line)=true
 hs:sc.names.lookup ("StopIteration":Str)=some .globalImplicit
 hp:sc.names.lookup ("_parse_varint":Str)=some .globalImplicit
theorem Bu:isSubtype (.type "StopIteration") (.type "BaseException")=pure true:=by rw[isSubtype_type];kernel_rfl
theorem yh:isSubtype (.type ((Manifest.find? "StopIteration").elim "type" λx=>x.metatype)) (.type "tuple")=pure false:=by kernel_rfl
theorem ints_snoc {is:List Int}{v:Int}(h:IntsAre vs is):IntsAre (vs++[.int v tk]) (is++[v]):=by
 induction h with
 |nil=>exact .cons _ _ .nil
 |cons n t h a=>exact .cons n t a
theorem Bv {is:List Int}(h:IntsAre vs is):vs.length=is.length:=by
 induction h with
 |nil=>rfl
 |cons n t h a=>exact MY (· +1) a
section
variable {W:Wd}{U:UT}{N:NT}{n l:Nat}{A:Around}{E:Value->Shared->Prop}{s s0 s1 s₁ s2 s':Shared}{env:Env}{c:CT}{k:Nat}{sc psc:Scope}{I Na:Addr}{arr:Array UInt8}{t:Tok}{p:Nat}{params:List Str}{acc:List Int}{pbody tbody:List Stmt}
theorem i9 {m:Nat}(lv:fh env h)(g:h.get? a=some (aR vs m)):¬bu env a:=
 dZ lv g (λv h=>Data.noConfusion h) λq=>oR lv.ns λe o f i d b _=>Data.noConfusion ((MY Obj.data (MW (g.symm.trans ((MY h.get? q).trans d)))).trans b)
theorem pT {h:Heap}{b:Addr}{x:Obj}{G:Prop}(d:h.get? a=some x)(e:h.get? b=some y)(q:a=b)(hx:x.data=y.data->G):G:=hx (MY Obj.data (MW (d.symm.trans ((MY h.get? q).trans e))))
theorem rV {h d:Heap}{m:Str->Option Value}(k:∀b o,b≠I->h.get? b=some o-> ∃sl,d.get? b=some {o with slots:=sl})(g:∃o vs,h.get? I=some o/\o.data=.fields vs)(n:h.Ns a m):d.Ns a m:=
 aW g λx y i j=>jn n λo u v e f r=>ak (k _ _ (λq=>pT e i q λz=>Data.noConfusion (f.symm.trans (z.trans j))) e) λsl w=>⟨_,u,v,w,f,r⟩
theorem rW {h a:Heap}{x:Str}{v:Value}(k:∀b o,b≠I->h.get? b=some o-> ∃sl,a.get? b=some {o with slots:=sl})(d:∃o vs,h.get? I=some o/\o.data=.fields vs)(n:aJ env h x v):aJ env a x v:=
 n.elim (λn=>af n.2 λm hn g=>.inl ⟨n.1,m,rV k d hn,g⟩) λn=>af n.2 λi j q=>af q λo e f=>aW d λy B r u=>ak (k _ _ (λq=>pT e r q λz=>Data.noConfusion (f.symm.trans (z.trans u))) e) λsl w=>.inr ⟨n.1,i,j,_,w,f⟩
theorem Fe (w:pO W)(nk:rG W N l)(S:∀n,bF W U l n){fp:Addr}(FP:eF W fp c params pbody psc)(T:mT c psc pbody)(hp:params=([("iterator":Str)]:List Str))(O:W.mg "_parse_varint"=some (.ref fp))(V:fR W (.ref fp))(R:Bt sc tbody){outer:List Env}{r:Option (Int×Nat)}{Q:Flow->Shared->Prop}(g:Good A (l+1))(C:A.frames=some outer)(hl:s.heap.FunFrames dc outer){D:List Env}(Y:outer=env::D)(hL:env.frame=some env.locals)(G:W.h0.get? I=none)(hbN:W.h0.get? Na=none)(x:LI W sc env I Na arr t p acc s)(hlen:acc.length<2^20)(hr:cM arr p=some r)(hQ:∀v j s',r=some (v,j)->KB (λb=>b=I\/b=Na) s s'->LI W sc env I Na arr t j (acc++[v]) s'->Q .next s')(hR:∀F h0 L tk,r=none->(∀b o,b≠I->s.heap.get? b=some o->h0.get? b=some o)->(∀b∈F,b∈outer.filterMap (·.frame)\/s.heap.get? b=none)->LM F h0 L->Q (.ret (.ref Na)) {s with heap:=L,toks:=tk}):
  wpAny W.M A (execs tbody env) Q E s:=by
 obtain ⟨p1,p2,p3,p4,p5,p6,p7,p8,p9,p10,p11,p12,rfl,u⟩:=R.text
 refine aW x.li λvs m H hI=>?_
 have y:∃o vs,s.heap.get? I=some o/\o.data=.fields vs:=bf x.it λo e _ d=>⟨o,_,e,d⟩
 have J:Na≠I:=λq=>aW y λo vs e d=>pT H e q λz=>Data.noConfusion (z.trans d)
 have B:=x.ok.kind
 refine N9 (wpAny_Try_except (N9 (iN B ?_)))
 refine wpAny_Call_method_lateS (gp rfl) rfl u (jy B x.nN (by decide) (by decide) ⟨"list","list.append",PySem.F.plainAttrs_list,PySem.F.slot_list_append,PySem.F.type_list_append,(aA H).typeIs,dG H,Calls.callWith_builtin rfl (bO rfl ?_)⟩)
 show wpAny W.M A (spliced (backTo p6 [(false,eval (.Call (.Name "_parse_varint" p3) [.Name "reader" p4] [] p5) env)])) _ _ s
 refine Calls.spliced_cons ?_
 refine bw (Calls.Name_function_global B (x.ok.sub _ _ R.hp (by decide)) (Calls.loadGlobal_global (by rw[x.ok.glob];exact w.w.g.keeps x.base) O ?_) (by decide))
 refine callWith_of (P:=λh=>∀b o,W.h0.get? b=some o->h.get? b=some o) rfl V (bO rfl ?_)
 show wpAny W.M A (spliced (backTo p5 [(false,eval (.Name "reader" p4) env)])) _ _ s
 refine Calls.spliced_cons (jy B x.nI (by decide) (by decide) (Calls.spliced_nil ⟨x.base,?_⟩))
 refine uh w nk S FP T hp g C hl x.base G x.it hr (λv j tk s' e kb it'=>?_) λF h0 L e tk hn k0 hlf hF1 hF2 ex=>?_
 .refine Calls.spliced_nil ?_
  have gN':=kb.get Na _ J H
  refine n5 gN' (Bv hI▸hlen) λK m' g2 hs=>⟨rfl,?_⟩
  refine wpAny_execs_nil (wpAny_execs_nil (wpAny_execs_nil ?_))
  have f:KB (λb=>b=I\/b=Na) s {s' with heap:=K}:=(kb.mono λb h=>.inl h).trans (⟨K,_,rfl,λb o nb e=>hs.extBut b o (λq=>nb (.inr q)) e⟩:KB (λb=>b=I\/b=Na) s' {s' with heap:=K})
  have i:∀b,b=I\/b=Na-> ¬bu env b:=λb h=>h.elim (λh=>h▸iw x.live x.it) λh=>h▸i9 x.live H
  exact hQ v j _ e f ⟨x.ok,gu i f x.live,λb o e=>f.get b o (λh=>h.elim (λh=>az G (h▸e)) λh=>az hbN (h▸e)) (x.base b o e),cZ i f x.nN,cZ i f x.nI,kR it' λo e=>hs.extBut I o (Ox J) e,_,m',g2,ints_snoc hI⟩
 .subst Y
  have hT:∀{h:Heap} {tb:Option Value},Exc F h0 h e tb->({s with heap:=h,toks:=tk}:Shared).TypeIs (.ref e) "StopIteration":=λx=>aP x.ob λoe _ he hc _=>⟨oe,he,hc⟩
  refine pN (s:={s with heap:=L,toks:=tk}) C hlf hF1 hL ex (.inr (.inl rfl)) λh1 x1=>?_
  refine iP (s:={s with heap:=h1,toks:=tk}) (fr:=none) x1 λK M=>?_
  have kk:∀{h:Heap} {tb:Option Value},Exc F h0 h e tb-> ∀b o,b≠I->s.heap.get? b=some o-> ∃sl,h.get? b=some {o with slots:=sl}:=λx b o nb q=>(x.sl b o (k0 b o nb q)).2
  have ns:∀{h:Heap} {tb:Option Value} {a:Addr} {mm:Str->Option Value},Exc F h0 h e tb->s.heap.Ns a mm->h.Ns a mm:=λx hn=>rV (kk x) y hn
  refine au (w.KJ ("StopIteration",.type "StopIteration") (by simp[ik])) λz1 z2=>?_
  refine wpAny_handleBy_builtin (X:="StopIteration") (T:="StopIteration") (b:=true) Bu yh isSubtype_stop ?_
  refine Calls.Name_function_global B (x.ok.sub _ _ R.hs (by decide)) (Calls.loadGlobal_builtin (by rw[x.ok.glob];exact ns M (w.w.g.keeps x.base)) z1 (by rw[x.ok.bi];exact ns M (w.w.b.keeps x.base)) z2 ⟨rfl,hT M,?_⟩) (by decide)
  rw[M7 rfl]
  refine iP (s:={s with heap:=K,toks:=tk}) (fr:=none) M λh3 x3=>?_
  refine N9 (wpAny_Return_some (jy B (rW (I:=I) (kk x3) y x.nN) (by decide) (by decide) ?_))
  exact hR F h0 h3 tk hn k0 hF2 x3.sl
end
noncomputable def f7 (a:Array UInt8):Nat->Nat->List Int->Option (List Int)
 |0,_,_=>none
 |n+1,p,acc=>match cM a p with
  |some none=>some acc
  |some (some (v,j))=>f7 a n j (acc++[v])
  |none=>none
theorem IM {a:Array UInt8}{n:Nat}{acc:List Int}(h:cM a p=some none):f7 a (n+1) p acc=some acc:=by
 show(match cM a p with|some none=>some acc|some (some (v,j))=>f7 a n j (acc++[v])|none=>none)=_
 rw[h]
theorem Ff {a:Array UInt8}{n:Nat}{v:Int}{acc:List Int}(h:cM a p=some (some (v,j))):f7 a (n+1) p acc=f7 a n j (acc++[v]):=by
 show(match cM a p with|some none=>some acc|some (some (v,j))=>f7 a n j (acc++[v])|none=>none)=_
 rw[h]
structure rX (U:UT)(N:NT)(m0 m1:MS)(meb mit:ME)(ds:List D)(nums:List Int):Prop where
 ex:∃Za Z1 bt is turns,ex U N 12 m0 (λi=>(ds[i]?).map .val)=some (.next,Za)/\ex U N 12 m1 Za=some (.next,Z1)/\Z1 3=some (.own (.list []))/\Z1 8=none/\(ev U 40).m Z1 meb=some (.list bt)/\D.ints bt=some is/\(∀i∈is,0<=i/\i<256)/\bt.length<2^20/\
  (ev U 40).i Z1 (.one 9) mit=some turns/\noOwn Z1 mit=true/\turns.length<2^20/\f7 (byteArr is) turns.length 0 []=some nums
structure ui (c:CT)(sc:Scope)(body:List Stmt)(m0 m1:MS)(meb mit:ME):Prop where
 text:∃(st0 st1 st4:Stmt) (eb it:Expr) (tbody:List Stmt) (p1 p2 p3 p4 p5 p6 p7 p8:Pos),body=[st0,st1,.Assign [.Name "reader" p1] (.Call (.Name "iter" p2) [.Call (.Name "bytes" p3) [eb] [] p4] [] p5) p6,.For (.Name "turn" p7) it tbody [] p8,st4]/\
  cS c sc 12 st0=some m0/\cS c sc 12 st1=some m1/\(cm c 40).e sc eb=some meb/\(cm c 40).i sc it=some mit/\Bt sc tbody
 hn:c.aE.idxOf? ("numbers":Str)=some 3
 hr:cv c sc "reader"=some 8
 ht:cv c sc "turn"=some 9
 hi:sc.names.lookup ("iter":Str)=some .globalImplicit
 hb:sc.names.lookup ("bytes":Str)=some .globalImplicit
theorem yi:builtinKind "iter"=none:=by decide+kernel
theorem uj:plainId "iter"=true:=by decide+kernel
theorem rY:entryFor table "iter"=some Builtin.«iter»:=entryFor_of_fast (by kernel_rfl)
theorem uk (a:Value):argsOk "iter" ⟨[a],[]⟩:=by unfold argsOk;kernel_rfl
section
variable {W:Wd}{U:UT}{N:NT}{n l:Nat}{A:Around}{E:Value->Shared->Prop}{s s0 s1 s₁ s2 s':Shared}{env:Env}{c cp:CT}{k:Nat}{sc psc:Scope}{Mu Mu0 Ex:aD}{Z Z':St}{ow:Nat->aD}{I Na:Addr}{arr:Array UInt8}{t:Tok}{p:Nat}{params pparams:List Str}{acc:List Int}{body pbody tbody:List Stmt}
theorem yj {b:Array UInt8}{t:Tok}{Q:Value->Shared->Prop}(a:Q (.ref s.heap.objs.size) {s with heap:=s.heap.push {cls:=.type "bytes_iterator",data:=.fields #[.bytes b t,.int 0 0]}}):wpAny W.M A (call (.builtin "iter") [.bytes b t]) Q E s:=by
 refine Calls.call_function_entry yi uj rY (uk _) ?_
 unfold Builtin.«iter»
 refine MZ (m:=someArgs "iter" 1 2 _) (M6 ?_)
 dsimp only
 refine MZ (KBw.pyIter_bytes ?_)
 exact M6 ⟨_,rfl,a⟩
theorem FS.restrict (F:FS W c sc env l A Mu0 Ex s0 ow Z s)(h:∀i sl,Z' i=some sl->Z i=some sl):FS W c sc env l A Mu0 Ex s0 ow Z' s:=
 ⟨⟨F.cx.ok,F.cx.base,F.cx.old,F.cx.sub,F.cx.above,λi sl e=>F.cx.view i sl (h i sl e),F.cx.good,F.cx.tb,F.cx.live⟩,F.no,F.kb,F.fresh,λi sl e=>F.i4 i sl (h i sl e),F.sQ,F.hZ,F.ia,F.fk,F.apart,λi sl e=>F.ext i sl (h i sl e)⟩
theorem ko (g:Good A (l+1)):Good A l:=⟨g.hh,M5 (Ov (N8 _ (OK _)) _) g.depth,M5 (Ov (N8 _ (OK _)) _) g.units⟩
theorem LI.kb {X:aD}(x:LI W sc env I Na arr t p acc s)(kb:KB X s s')(a:∀b,X b-> ¬bu env b)(d:¬X I)(f:¬X Na)(h:∀b,X b->W.h0.get? b=none):LI W sc env I Na arr t p acc s':=by
 refine aW x.li λi m g j=>?_
 exact⟨x.ok,gu a kb x.live,λb o e=>kb.get b o (λq=>az (h b q) e) (x.base b o e),cZ a kb x.nN,cZ a kb x.nI,kR x.it λo e=>kb.get I o d e,i,m,kb.get Na _ f g,j⟩
theorem LI.asg {y:Str}{v:Value}(x:LI W sc env I Na arr t p acc s)(a:dQ sc env s y v s')(h:"numbers"≠y)(i:"reader"≠y)(j:¬bu env I)(q:¬bu env Na)(r:∀b,bu env b->W.h0.get? b=none):LI W sc env I Na arr t p acc s':=by
 refine aW x.li λu m g d=>?_
 exact⟨x.ok,a.lv,λb o e=>a.kb.get b o (λf=>az (r b f.all) e) (x.base b o e),a.ot _ _ h x.nN,a.ot _ _ i x.nI,kR x.it λo e=>a.kb.get I o (λf=>j f.all) e,u,m,a.kb.get Na _ (λf=>q f.all) g,d⟩
theorem yk {n:Nat}{nums:List Int}(h:f7 arr (n+1) p acc=some nums):∃r,cM arr p=some r/\(r=none->acc=nums)/\ ∀v j,r=some (v,j)->f7 arr n j (acc++[v])=some nums:=by
 have h:(match cM arr p with
  |some none=>some acc
  |some (some (v,j))=>f7 arr n j (acc++[v])
  |none=>none)=some nums:=h
 cases hp:cM arr p with
 |none=>rw[hp] at h;exact ns h
 |some r=>
  rw[hp] at h
  refine⟨r,rfl,?_⟩
  cases r with
  |none=>exact⟨λ_=>MW h,λ_ _ e=>ns e⟩
  |some q=>exact⟨λe=>ns e.symm,λv j e=>(Prod.mk.inj (MW e)).1▸(Prod.mk.inj (MW e)).2▸h⟩
inductive MP (W:Wd)(sc:Scope)(env:Env)(I Na:Addr)(arr:Array UInt8)(t:Tok)(nums:List Int)(s0:Shared)(n0:Nat)(Sx:Nat->Heap->Prop)(m:Nat)(s:Shared):Prop
 |mk {j q:Nat}{acc:List Int}(hj:j<=n0)(hm:m=n0+1 - j)(hrj:f7 arr (n0 - j) q acc=some nums)(hacc:acc.length=j)(xj:LI W sc env I Na arr t q acc s)(kj:Keeps s0 s)(hst:Sx j s.heap)
theorem Bw {n:Nat}(h:j<n):n - j=n - (j+1)+1:=(Nat.succ_pred_eq_of_pos (Nat.sub_pos_of_lt h)).symm
theorem yl (w:pO W)(nk:rG W N l)(S:∀n,bF W U l n){fp:Addr}(FP:eF W fp cp pparams pbody psc)(T:mT cp psc pbody)(hp:pparams=([("iterator":Str)]:List Str))(hfp:W.mg "_parse_varint"=some (.ref fp))(hkp:fR W (.ref fp))(R:Bt sc tbody){outer:List Env}(g:Good A (l+1))(hfr:A.frames=some (env::outer))(hl:s0.heap.FunFrames dc outer)(hL:env.frame=some env.locals){it:Expr}{mit:ME}{turns:List D}{nums:List Int}{p7 p8:Pos}{Q:Flow->Shared->Prop}(ht:cv c sc "turn"=some 9)(u:(cm c k).i sc it=some mit)(C:noOwn Z mit=true)(hiv:(ev U n).i Z (.one 9) mit=some turns)(hlen:turns.length<2^20)(hrd:f7 arr turns.length 0 []=some nums)(F:FS W c sc env l A Mu0 Ex s0 ow Z s)(hMI:Mu0 I)(hown:ow 3 Na)(kp0:Keeps s0 s)(nI0:s0.heap.get? I=none)(nN0:s0.heap.get? Na=none)(nF0:∀b,bu env b->s0.heap.get? b=none)(hb0:∀b o,W.h0.get? b=some o->s0.heap.get? b=some o)(x:LI W sc env I Na arr t 0 [] s)(hQ:∀K tk vs m,(∀b o,s0.heap.get? b=some o->(b∉outer.filterMap (·.frame)->K.get? b=some o)/\ ∃sl,K.get? b=some {o with slots:=sl})->K.get? Na=some (aR vs m)->IntsAre vs nums->Q (.ret (.ref Na)) {s0 with heap:=K,toks:=tk}):
  wpAny W.M A (exec (.For (.Name "turn" p7) it tbody [] p8) env) Q E s:=by
 refine au (bP ht) λhtx hti=>?_
 have G:∀b,s0.heap.get? b=none->W.h0.get? b=none:=λb h=>by
  cases q:W.h0.get? b with
  |none=>rfl
  |some o=>exact az h (hb0 b o q)
 refine wpAny_For (NH ((S n).i E u hiv (aY.one (x:=9) (n:="turn") (p:=p7)) F.cx) (λy s1 hx=>?_) λ_ _ e=>e) (fH u env)
 refine au hx λk1 hx=>NH hx (λitv s2 hitv=>?_) λ_ _ e=>e
 refine au hitv λk2 u=>bf u λsm km km2 u=>?_
 cases u with|@mk J fp' wr n0 P Md Sx ei hn KT st sl self hwr hfz items=>
 refine fU ei ?_
 have ks:Keeps s s2:=ai k1 k2
 have i:∀b,b∈wr->s.heap.get? b=none:=λb hb=>none_of (ag km) (hwr b hb)
 have lv2:∀b∈fp', ∃o,s2.heap.get? b=some o:=λb hb=>sl 0 _ st b hb
 have L:∀b,b∈wr->s0.heap.get? b=none:=λb hb=>none_of (ag kp0) (i b hb)
 have hwfr:∀b,b∈wr-> ¬bu env b:=λb hb h=>h.elim (λe=>sS F.cx.live.ns λm o _ _ e' _=>az (i b hb) ((MY s.heap.get? e).trans e')) λ⟨x,hx⟩=>aW (F.cx.live.cells x b hx) λv o e _=>az (i b hb) e
 have M:∀b∈fp', ¬bU Mu0 sc env ow b:=hfz C
 have hIw:I∉wr:=λh=>bf x.it λo e _ _=>az (i I h) e
 have hNw:Na∉wr:=λh=>aW x.li λ_ _ e _=>az (i Na h) e
 have hIfr:=iw x.live x.it
 have O:¬bu env Na:=aW x.li λvs m gN _=>i9 x.live gN
 have x2:LI W sc env I Na arr t 0 [] s2:=x.kb (X:=λ_=>False) (KB.of ks) (λ_ h=>h.elim) id id (λ_ h=>h.elim)
 refine codeAny_forLoop_any (MP W sc env I Na arr t nums s0 n0 Sx) (λm sj w'=>?_) (n0+1) (.mk (Ou _) rfl (hn.symm▸hrd) rfl x2 (ai kp0 ks) st)
 cases w' with|@mk j q acc hj hm H V xj kj hst=>
 by_cases B:j<n0
 .refine KT.item j _ _ _ B hst λv h1 tk1 hMd hk1=>?_
  refine KT.go j v _ _ _ hMd λh2 hP Y hk2=>?_
  have kb:KB (· ∈wr) sj {sj with heap:=h2,toks:=tk1}:=⟨h2,tk1,rfl,λb o nb e=>hk2 b o nb (hk1 b o nb e)⟩
  generalize hsa:({sj with heap:=h2,toks:=tk1}:Shared)=sa at kb
  have hh2:h2=sa.heap:=MY Shared.heap hsa
  rw[hh2] at Y
  clear hk1 hk2 hMd hP hh2 hsa
  have xa:=xj.kb kb hwfr hIw hNw λb hb=>G b (L b hb)
  have ka:Keeps s0 sa:=((KB.of kj).trans kb).keeps L
  refine OX (bL xa.ok xa.live htx λsb a=>?_)
  have xb:=xa.asg a (by decide) (by decide) hIfr O λb hb=>G b (nF0 b hb)
  have kbb:Keeps s0 sb:=((KB.of (X:=iY sc env) ka).trans a.kb).keeps λb f=>nF0 b f.all
  rw[Bw B] at H
  refine bf (yk H) λr hpv hr1 hr2=>?_
  have hlb:sb.heap.FunFrames dc (env::outer):=⟨by rw[xb.ok.kind];decide,oR xb.live.ns λmm o es ep e hd _=>⟨_,o,hL,rfl,e,λvs z=>Data.noConfusion (hd.symm.trans z)⟩,hl.of_keeps λb o e _=>⟨o,ag kbb b o e,rfl⟩⟩
  refine Fe w nk S FP T hp hfp hkp R g hfr hlb rfl hL (G I nI0) (G Na nN0) xb (V▸NW B (hn▸hlen)) hpv (λv j' s' e kb' x'=>?_) λF' h0 K tk hr k0 hF2 sf=>?_
  .exact⟨n0+1 - (j+1),hm▸pA B,.mk B rfl (hr2 v j' e) (Ni.trans (MY (· +1) V)) x' (((KB.of (X:=λb=>b=I\/b=Na) kbb).trans kb').keeps λb h=>h.elim (λh=>h▸nI0) λh=>h▸nN0) (KT.frame _ _ _ Y λb hb o e=>
    kb'.get b o (λh=>M b hb (h.elim (λh=>.inl (h▸hMI)) λh=>.inr (.inr ⟨3,h▸hown⟩))) (a.kb.get b o (λf=>M b hb (.inr (.inl f))) e))⟩
  .refine aW xb.li λvs m gN hI=>aW kbb λhb tb eb kbk=>?_
   refine fU (show({sb with heap:=K,toks:=tk}:Shared)={s0 with heap:=K,toks:=tk} by rw[eb]) ?_
   have hNI:Na≠I:=λz=>bf xb.it λo e _ d=>Data.noConfusion ((MY Obj.data (MW (gN.symm.trans ((MY sb.heap.get? z).trans e)))).trans d)
   have hm':∀b o,s0.heap.get? b=some o->b∈F'->b∉outer.filterMap (·.frame)->sb.heap.get? b=some o->False:=λb o e hm C e1=>(hF2 b hm).elim (λh=>by
    rw[O7,hL] at h
    exact(Np.mp h).elim (λh=>az (nF0 b (.inl h)) e) C) λh=>az h e1
   refine hQ K tk vs m (λb o e=>?_) ((sf Na _ (k0 Na _ hNI gN)).1 λhm=>(hF2 Na hm).elim (λh=>by
    rw[O7,hL] at h
    exact(Np.mp h).elim (λh=>O (.inl h)) λh=>ak (kN hl h) λo e=>az nN0 e) λh=>az h gN) (hr1 hr▸hI)
   have e1:sb.heap.get? b=some o:=eb▸kbk b o e
   have y:=sf b o (k0 b o (λz=>az nI0 (z▸e)) e1)
   exact⟨λC=>y.1 λhm=>hm' b o e hm C e1,y.2⟩
 .rw[OS hj (NU B),Nat.sub_self] at H
  exact ns H
theorem Fg {b:aD}{v:Value}(r:bj W b Mu h (.own (.list [])) v):∃a m,v=.ref a/\b a/\h.get? a=some (aR [] m):=by
 exact eU r λr f _=>jn r λa d m e g l=>⟨a,m,e,f a e,l.kT (motive:=λd=>h.get? a=some (aR d m)->h.get? a=some (aR [] m)) id g⟩
theorem ym (w:pO W)(nk:rG W N l)(S:∀n,bF W U l n){fp fr:Addr}(FP:eF W fp cp pparams pbody psc)(T:mT cp psc pbody)(hp:pparams=([("iterator":Str)]:List Str))(hfp:W.mg "_parse_varint"=some (.ref fp))(hkp:fR W (.ref fp))(FR:eF W fr c params body sc){m0 m1:MS}{M O:ME}(J:ui c sc body m0 m1 M O){outer:List Env}(g:Good A (l+2))(hfr:A.frames=some outer)(hl:s.heap.FunFrames dc outer)(hb:∀b o,W.h0.get? b=some o->s.heap.get? b=some o)(old:Old Mu s.heap)(ab:∀b,Mu b->W.h0.get? b=none){ds:List D}{vs:List Value}{nums:List Int}{Q:Value->Shared->Prop}(r:aq W Mu s.heap ds vs)(hlen:ds.length=params.length)(rd:rX U N m0 m1 M O ds nums)(hQ:∀Na K tk vs m,(∀b o,s.heap.get? b=some o->(b∉outer.filterMap (·.frame)->K.get? b=some o)/\ ∃sl,K.get? b=some {o with slots:=sl})->s.heap.get? Na=none->K.get? Na=some (aR vs m)->IntsAre vs nums->Q (.ref Na) {s with heap:=K,toks:=tk}):
  wpAny W.M A (call (.ref fr) vs) Q E s:=by
 obtain ⟨st0,st1,st4,eb,it,tbody,p1,p2,p3,p4,p5,p6,p7,p8,rfl,c0,c1,C,cit,R⟩:=J.text
 obtain ⟨Za,Z1,bt,is,turns,ex0,DN,hn1,hr1,hev,his,hin,hbl,hiv,hno,htl,hrd⟩:=rd.ex
 have hv:vs.length=params.length:=r.length.symm.trans hlen
 refine wpAny_call (mD (l:=l+1) FR w.lim hb (NW (M5 (NM _ _) g.depth) (by decide)) (λ_=>fK g) hv λenv s₁ y=>?_)
 have X:DD W c params sc l (A.deeper env) env s vs s₁:=⟨y.ok,y.kp,y.live,y.fresh,y.at_,ko y.good,y.frame⟩
 generalize hA2:A.deeper env=A2 at X y |-
 have P:A2.frames=some (env::outer):=hA2▸MY (Option.map (env:: ·)) hfr
 have F0:=ug (Ex:=λ_=>False) (Z:=λi=>(ds[i]?).map .val) X FR.tb hb old ab (λ_ h=>h.elim) λi sl e=>af (om e) λd e ed=>af (r.at e) λv hv0 rv=>by
  have hx:params[i]?=some (params[i]'(hlen▸(Ny.mp e).1)):=Nc _
  exact ed▸⟨_,v,ji FR.pre hx,X.at_ i _ v hx hv0,Rep.move (λb o m e=>⟨λh=>h.elim m λh=>h.elim (λh=>az (X.fresh b h.all) e) λ⟨_,h⟩=>h,ag X.kp b o e⟩) rv⟩
 refine N9 (NH (kM w.tonF nk S 12 c0 12 _ _ _ _ _ _ _ _ ex0 F0 _) (λf sa hpa=>bf hpa λowa Fa F sta=>fU (show f=.next from F) ?_) λ_ _ e=>e)
 refine N9 (NH (kM w.tonF nk S 12 c1 12 _ _ _ _ _ _ _ _ DN Fa _) (λf s1 hpb=>bf hpb λow1 L F stb=>fU (show f=.next from F) ?_) λ_ _ e=>e)
 refine au (w.KJ ("iter",.builtin "iter") (by simp[ik])) λi1 i2=>?_
 refine au (w.KJ ("bytes",.type "bytes") (by simp[ik])) λb1 b2=>?_
 refine au (bP J.hr) λhrx V=>?_
 refine N9 (wpAny_Assign_Name (bw (fX L.cx w.w.g w.w.b J.hi i1 i2 (by decide) (aX (.inl ⟨_,rfl⟩) rfl ?_))) rfl)
 show wpAny W.M A2 (spliced (backTo p5 [(false,eval (.Call (.Name "bytes" p3) [eb] [] p4) env)])) _ _ s1
 refine Calls.spliced_cons (bw (fX L.cx w.w.g w.w.b J.hb b1 b2 (by decide) (aX (.inr ⟨_,rfl⟩) ?_ ?_)))
 .rw[mj C];rfl
 rw[mj C]
 refine Calls.spliced_cons (((S 40).e C hev L.cx).use λu s2 k2 r2=>Calls.spliced_nil ?_)
 refine r2.bp λba bvs bm _ gb lb=>?_
 have hbi:IntsAre bvs is:=lO his lb
 refine call_bytes_ints (aA gb) hbi hin (M4 (ND (lb.length▸hbl)) (by decide:2^20<=2^24)) L.cx.good.hh λY t3 tk3 k3=>Calls.spliced_nil ?_
 refine yj ?_
 generalize hs4:({s2 with heap:=Y.push {cls:=.type "bytes_iterator",data:=.fields #[.bytes (byteArr is) t3,.int 0 0]},toks:=tk3}:Shared)=s4
 have k4:Keeps s1 s4:=ai k2 (hs4▸⟨_,tk3,rfl,λb o e=>Heap.get?_push_of_some _ (k3 b o e)⟩)
 have j:s1.heap.get? Y.objs.size=none:=by
  cases q:s1.heap.get? Y.objs.size with
  |none=>rfl
  |some o=>exact absurd (Heap.lt_size (k3 _ _ (ag k2 _ _ q))) (Oa _)
 have z:KBw.IsBytesIter s4.heap Y.objs.size (byteArr is) t3 0:=hs4▸⟨_,Heap.get?_push_size _ rfl,rfl,rfl⟩
 generalize Y.objs.size=I at j z
 have F2:=L.more (wr:=(· =I)) k4 (λb h=>h▸j) λb h=>af z λo e _=>⟨o,h▸e⟩
 refine bL F2.cx.ok F2.cx.live hrx λs5 a=>?_
 have B:=F2.upd (sl:=.raw (.ref I)) (N:=λ_=>False) V a (λ_ h=>h.elim) (λ_ h=>h.elim) rfl λ_ _ h=>h.elim
 have F4:=B.restrict (Z':=Z1) λi sl e=>(M8 λh:i=8=>ns (hr1.symm.trans (h▸e))).trans e
 have hn3:(Z1.set 8 (.raw (.ref I))) 3=some (.own (.list [])):=hn1
 have hn6:(Z1.set 8 (.raw (.ref I))) 8=some (.raw (.ref I)):=rfl
 refine af (df B.cx J.hn hn3) λvN G rN=>aP (Fg rN) λNa mN eN hoN gN=>?_
 have G:aJ env s5.heap "numbers" (.ref Na):=eN▸G
 refine af (df B.cx V hn6) λvI H rI=>?_
 have H:aJ env s5.heap "reader" (.ref I):=(show vI=.ref I from rI)▸H
 have k05:Keeps s s5:=B.kb.keeps λ_ h=>h.elim
 have nI0:s.heap.get? I=none:=L.Hw j
 have nF0:∀b,bu env b->s.heap.get? b=none:=X.fresh
 have nN0:s.heap.get? Na=none:=(B.sQ 3 Na hoN).elim id False.elim
 have hIt5:KBw.IsBytesIter s5.heap I (byteArr is) t3 0:=kR z λo e=>a.kb.get I o (λf=>(iw F2.cx.live z) f.all) e
 have x:LI W sc env I Na (byteArr is) t3 0 [] s5:=⟨B.cx.ok,B.cx.live,B.cx.base,G,H,hIt5,[],mN,gN,.nil⟩
 refine N9 (yl w nk S FP T hp hfp hkp R y.good P hl X.frame J.ht cit hno hiv htl hrd F4 (.inr rfl) hoN k05 nI0 nN0 nF0 hb x λK tk vs m hk gN' hI=>hQ Na K tk vs m hk nN0 gN' hI)
end
section
variable {W:Wd}{U:UT}{N:NT}{n l:Nat}{A:Around}{E:Value->Shared->Prop}{s s0 s1 s₁ s2 s':Shared}{env:Env}{c cp cr:CT}{k:Nat}{sc psc rsc:Scope}{Mu Mu0 Ex:aD}{Z Z':St}{ow:Nat->aD}{params pparams rparams:List Str}{body pbody rbody:List Stmt}
theorem FS.slots (F:FS W c sc env l A Mu0 Ex s0 ow Z s)(kb:KB (· =env.locals) s s')(hs:∀o,s.heap.get? env.locals=some o-> ∃sl,s'.heap.get? env.locals=some {o with slots:=sl}):FS W c sc env l A Mu0 Ex s0 ow Z s':=by
 have d:∀b,b=env.locals->iY sc env b:=λb h=>.inl h
 have f:fh env s'.heap:=by
  refine⟨?_,λx j h=>?_⟩
  .refine oR F.cx.live.ns λm o p q e g r=>?_
   refine ak (hs o e) λsl t=>?_
   exact⟨m,_,p,q,t,g,r⟩
  .refine aW (F.cx.live.cells x j h) λv o e g=>?_
   exact⟨v,o,kb.get _ _ (F.cx.ok.lay.apart x j h) e,g⟩
 have names:∀{x:Str} {v:Value},aJ env s.heap x v->aJ env s'.heap x v:=λnm=>by
  rcases nm with ⟨a,m,⟨o,p,q,e,g,r⟩,w⟩|⟨a,j,u,o,e,g⟩
  .refine ak (hs o e) λsl t=>?_
   exact .inl ⟨a,m,⟨_,p,q,t,g,r⟩,w⟩
  .exact .inr ⟨a,j,u,o,kb.get _ _ (F.cx.ok.lay.apart _ j u) e,g⟩
 refine⟨⟨F.cx.ok,λb o e=>kb.get b o (λh=>az (F.cx.above b (.inr (.inl (d b h)))) e) (F.cx.base b o e),λb m=>?_,F.cx.sub,F.cx.above,?_,F.cx.good,F.cx.tb,f⟩,F.no,KB.frame F (kb.mono d),F.fresh,F.i4,F.sQ,F.hZ,F.ia,F.fk,F.apart,F.ext⟩
 .by_cases h:b=env.locals
  .exact f.lives (d b h)
  .refine ak (F.cx.old b m) λo e=>?_;exact⟨o,kb.get b o h e⟩
 .exact F.cx.view.move (λb o m e=>⟨m,kb.get b o (λh=>m (.inr (.inl (d b h)))) e⟩) (λi b o m e=>kb.get b o (λh=>F.no b (d b h) i m) e) (λ_ _ h=>h) λ_ _ _ _ _ nm=>names nm
structure um (W:Wd)(m0 m1:MS)(meb mit:ME):Prop where
 parse:∃(fp:Addr) (cp:CT) (pparams:List Str) (pbody:List Stmt) (psc:Scope),eF W fp cp pparams pbody psc/\mT cp psc pbody/\pparams=([("iterator":Str)]:List Str)/\W.mg "_parse_varint"=some (.ref fp)/\fR W (.ref fp)
 read:∃(fr:Addr) (cr:CT) (rparams:List Str) (rbody:List Stmt) (rsc:Scope),eF W fr cr rparams rbody rsc/\ui cr rsc rbody m0 m1 meb mit/\rparams.length=2/\W.mg "_law_read"=some (.ref fr)/\fR W (.ref fr)
theorem IP (w:pO W)(nk:rG W N l)(S:∀n,bF W U l n){M O:MS}{j p:ME}(Q:um W M O j p){x:Str}{p1 p2 p3 p4:Pos}{args:List Expr}{mes:List ME}{ds:List D}{nums:List Int}{i:Nat}(g:Good A (l+2))(r:A.frames=some [env])(R:env.frame=some env.locals)(hi:cv c sc x=some i)(hg:sc.names.lookup ("_law_read":Str)=some .globalImplicit)(t:ah ((cm c k).e sc) args=some mes)(h2:mes.mapM ((ev U n).m Z)=some ds)(u:ds.length=2)(rd:rX U N M O j p ds nums)(F:FS W c sc env l A Mu0 Ex s0 ow Z s):
  wpAny W.M A (exec (.Assign [.Name x p1] (.Call (.Name "_law_read" p2) args [] p3) p4) env) (λf s'=>f=.next/\ ∃v,FS W c sc env l A Mu0 Ex s0 v (Z.set i (.val (.list (nums.map .int)))) s') E s:=by
 refine au (bP hi) λhx y=>?_
 refine JW Q.parse λfp cp pparams pbody psc FP T hp B C=>?_
 refine JW Q.read λfr cr rparams rbody rsc FR RR G q H=>?_
 refine wpAny_Assign_Name (bw (jz F.cx w.w.g hg q (by decide) ?_)) rfl
 refine callWith_of (P:=λh=>∀b o,W.h0.get? b=some o->h.get? b=some o) (by rw[(cC t).1];rfl) H (bO (cC t).1 ?_)
 refine(j6 (S n) t h2 F.cx).use λvs s1 V r1=>⟨(F.cx.keep V).base,?_⟩
 have d:=F.keep V
 have I:s1.heap.FunFrames dc [env]:=by
  refine⟨by rw[d.cx.ok.kind];decide,?_,trivial⟩
  refine oR d.cx.live.ns λmm o es ep e hd ζ=>?_
  exact⟨_,o,R,rfl,e,λvs z=>by rw[hd] at z;cases z⟩
 refine ym w nk S FP T hp B C FR RR g r I d.cx.base d.cx.old d.cx.above r1 (by rw[u,G]) rd λJ X Y us m hk nN gN hI=>?_
 have K:([env]:List Env).filterMap (·.frame)=[env.locals]:=by simp[R]
 have kb:KB (· =env.locals) s1 {s1 with heap:=X,toks:=Y}:=⟨X,Y,rfl,λb o nb e=>(hk b o e).1 (by rw[K];simpa using nb)⟩
 have L:=d.slots kb λo e=>(hk _ o e).2
 refine bL L.cx.ok L.cx.live hx λs3 a=>⟨rfl,_,L.asg y a ?_⟩
 have nM:¬bU Mu0 sc env ow J:=λh=>by refine ak (d.cx.old J h) λo e=>?_;exact az nN e
 exact Rep.bI nM (a.kb.get J _ (λf=>nM (.inr (.inl f))) gN) (eW hI)
theorem rZ {x:MS->_root_.av.Ex}{rest:List Stmt}{Z':St}{Q:Flow->Shared->Prop}:∀{d:List Stmt}{ms:List MS}{Z:St}{s:Shared}{ow:Nat->aD},d.length=ms.length->(∀(i:Nat) st m,d[i]?=some st->ms[i]?=some m->JN W c sc env l A st (x m))->ay x ms Z=some (.next,Z')->FS W c sc env l A Mu0 Ex s0 ow Z s->
  (∀j s',FS W c sc env l A Mu0 Ex s0 j Z' s'->wpAny W.M A (execs rest env) Q E s')->wpAny W.M A (execs (d++rest) env) Q E s
 |[],[],Z,s,ow,_,_,h,F,o=>by
  simp only[ay,Option.some.injEq,Prod.mk.injEq,true_and] at h
  subst h
  exact o ow s F
 |[],_::_,_,_,_,h,_,_,_,_=>by simp at h
 |_::_,[],_,_,_,h,_,_,_,_=>by simp at h
 |st::d,m::ms,Z,s,ow,r,hs,h,F,o=>by
  simp only[ay] at h
  cases p:x m Z with
  |none=>rw[p] at h;cases h
  |some t=>
   obtain ⟨u,Z1⟩:=t
   rw[p] at h
   rw[List.cons_append]
   refine N9 (NH (hs 0 st m rfl rfl _ _ _ _ _ _ _ _ p F E) (λf s1 hp=>?_) λ_ _ e=>e)
   refine bf hp λv w g y=>?_
   cases u with
   |next=>
    have g:f=.next:=g
    subst g
    exact rZ (by simpa using r) (λi q z a b=>hs (i+1) q z (by simpa using a) (by simpa using b)) h w o
   |brk=>cases h
   |ret B=>cases h
theorem law_code (w:pO W)(C:rG W N l)(S:∀n,bF W U l n){V Y:MS}{r t:ME}(RO:um W V Y r t){fa:Addr}{v:Value}{B p:D}{nums:List Int}{p1 p2 p3 p4:Pos}{args:List Expr}{mes:List ME}{i:Nat}{ds:List D}{Z1 F:St}{x:Str}{pre post:List Stmt}{R:Result->Shared->Prop}(G:eF W fa c params (pre++ .Assign [.Name x p1] (.Call (.Name "_law_read" p2) args [] p3) p4::post) sc)(y:params.length=1)(g:Good A (l+3))(H:A.frames=some [])(hb:∀b o,W.h0.get? b=some o->s.heap.get? b=some o)(I:Rep W (λ_=>False) s.heap B v)(hi:cv c sc x=some i)(hg:sc.names.lookup ("_law_read":Str)=some .globalImplicit)(J:ah ((cm c k).e sc) args=some mes)(e1:ay (ex U N 12) (eH c sc pre) (λi=>([B][i]?).map .val)=some (.next,Z1))(q:mes.mapM ((ev U n).m Z1)=some ds)(K:ds.length=2)(rd:rX U N V Y r t ds nums)(e2:ay (ex U N 12) (eH c sc post) (Z1.set i (.val (.list (nums.map .int))))=some (.ret p,F))(hR:∀u s',Keeps s s'->Rep W (λ_=>False) s'.heap p u->R (.ok (.ret u)) s'):codeAny W.M A (.call (.ref fa) ⟨[v],[]⟩) R s:=by
 refine pI (l:=l+2) (vs:=[v]) G w.lim hb (by have:=g.depth;lia) (λ_=>fK g) y.symm λenv s₁ a E=>?_
 have X:DD W c params sc l (A.deeper env) env s [v] s₁:=⟨a.ok,a.kp,a.live,a.fresh,a.at_,ko (ko a.good),a.frame⟩
 generalize L:A.deeper env=A2 at X a |-
 have z:A2.frames=some [env]:=by rw[<-L];show A.frames.map (env:: ·)=_;rw[H];rfl
 have r1:aq W (λ_=>False) s.heap [B] [v]:=.cons I aq.nil
 have view:View W c.aE env (λ_ _=>False) (bU (λ_=>False) sc env λ_ _=>False) s₁.heap (λi=>([B][i]?).map .val):=λj sl e=>by
  simp only[OC] at e
  obtain ⟨d,e,rfl⟩:=e
  obtain ⟨v',M,I⟩:=r1.at e
  have hi:j<params.length:=by have:=(Ny.mp e).1;rw[y];exact this
  have hx:params[j]?=some params[j]:=Nc hi
  exact⟨_,v',ji G.pre hx,X.at_ j _ v' hx M,I.move λb o m e=>⟨λh=>h.elim m λh=>h.elim (λh=>az (X.fresh b h.all) e) λ⟨_,h⟩=>h,ag X.kp b o e⟩⟩
 have F0:=ug (Mu:=λ_=>False) (Ex:=λ_=>False) X G.tb hb (λ_ h=>h.elim) (λ_ h=>h.elim) (λ_ h=>h) view
 refine rZ (x:=ex U N 12) (ms:=eH c sc pre) (by simp[eH]) (λi O m' J q=>?_) e1 F0 λowa sa Fa=>?_
 .unfold eH at q
  rw[Nz,J] at q
  simp only[Option.map_some,Option.some.injEq] at q
  subst q
  cases hc:cS c sc 12 O with
  |none=>exact λMu0 X0 s0 ow Z s fl Z' hx=>by rw[Option.getD_none,rJ] at hx;cases hx
  |some ms'=>exact kM w.tonF C S 12 hc 12
 refine N9 (NH (IP w C S RO a.good z X.frame hi hg J q K rd Fa) (λf sb hp=>?_) λ_ _ e=>e)
 obtain ⟨rfl,owb,Fb⟩:=hp
 dsimp only
 refine NH (lj w.tonF C S 12 12 post _ _ _ _ _ _ _ _ e2 Fb E) (λf P hp=>?_) λ_ _ e=>e
 refine bf hp λowc Fc Q ζ=>?_
 refine af Q λu T ru=>?_;subst T
 exact hR u P (Fc.kb.keeps λ_ h=>h.elim) ru
end
end av
namespace av
open PySem
noncomputable def b0:List MS:=[
 .asg 1 (.list [ME.str (Str.ofString "OPTIMIZED"),ME.str (Str.ofString "NEWLOCALS"),ME.str (Str.ofString "VARARGS"),ME.str (Str.ofString "VARKEYWORDS"),ME.str (Str.ofString "NESTED"),ME.str (Str.ofString "GENERATOR"),ME.str (Str.ofString "NOFREE"),ME.str (Str.ofString "COROUTINE"),ME.str (Str.ofString "ITERABLE_COROUTINE"),ME.str (Str.ofString "ASYNC_GENERATOR")]),
 .ret (.ite (.cmp .Lt (.var 0) (.int 10)) (.idx (.var 1) (.var 0)) (.bin .Add (.bin .Add (.str (Str.ofString "0x")) (.idx (.str (Str.ofString "1248")) (.bin .Mod (.var 0) (.int 4)))) (.bin .Mult (.str (Str.ofString "0")) (.bin .FloorDiv (.var 0) (.int 4)))))]
noncomputable def b1:List MS:=[
 .own 2 (.dict []),
 .cW (.many [3,4]) (.items (.var 0)) [
  .setItem 2 (.var 3) (.var 4)] [],
 .cW (.many [3,4]) (.items (.var 1)) [
  .iff (.cmp .In (.var 3) (.var 2)) [
   .iff (.fn .kB [ME.var 4]) [
    .stuck] [
    .eh 2 (.var 3) (.var 4)]] [
   .setItem 2 (.var 3) (.var 4)]] [],
 .ret (.var 2)]
noncomputable def b2:List MS:=[
 .asg 1 (.int 0),
 .cW (.one 2) (.values (.var 0)) [
  .aug 1 .Add (.var 2)] [],
 .ret (.var 1)]
noncomputable def b3:List MS:=[
 .unpack [2,3,4,5,6] (.var 1),
 .unpack [7,8,9,10,11] (.var 0),
 .ret (.tup [ME.bin .Add (.var 2) (.var 7),ME.bin .Add (.var 3) (.var 8),ME.bin .Add (.var 4) (.var 9),ME.bin .Add (.var 5) (.var 10),ME.fn (.user 1) [ME.var 11,ME.var 6]])]
noncomputable def b4:List MS:=[
 .own 1 (.list []),
 .cW (.one 2) (.range [ME.int 32]) [
  .asg 3 (.bin .LShift (.int 1) (.var 2)),
  .iff (.bin .BitAnd (.var 0) (.var 3)) [
   .append 1 (.fn .cU [ME.var 3,ME.fn .hex [ME.var 3]]),
   .aug 0 .BitXor (.var 3),
   .iff (.not (.var 0)) [
    .brk] []] []] [
  .append 1 (.fn .hex [ME.var 0])],
 .ret (.fn .join [ME.str (Str.ofString ", "),ME.var 1])]
noncomputable def b5:List MS:=[
 .cN [(3,1),(4,0)] [ME.list [ME.var 1],ME.int 0],
 .du (.cmp .Lt (.var 4) (.fn .len [ME.var 3])) [
  .extend 3 (.comp (.var 5) [3,2] (MG.mk (.one 5) (.idx (.var 0) (.idx (.var 3) (.var 4))) [ME.and (.cmp .NotIn (.var 5) (.var 2)) (.cmp .NotIn (.var 5) (.var 3))]) []),
  .aug 4 .Add (.int 1)],
 .ret (.var 3)]
noncomputable def b6:List MS:=[
 .own 3 (.dM (.var 4) (.dict []) [] (MG.mk (.one 4) (.var 1) [])),
 .cW (.one 5) (.range [ME.int 0,ME.fn .len [ME.var 0],ME.int 3]) [
  .asg 4 (.idx (.var 1) (.bin .FloorDiv (.idx (.var 0) (.bin .Add (.var 5) (.int 2))) (.var 2))),
  .cW (.one 6) (.range [ME.bin .FloorDiv (.idx (.var 0) (.var 5)) (.var 2),ME.bin .FloorDiv (.bin .Add (.idx (.var 0) (.var 5)) (.idx (.var 0) (.bin .Add (.var 5) (.int 1)))) (.var 2)]) [
   .setItem 3 (.var 4) (.fn (.user 1) [ME.idx (.var 3) (.var 4),ME.dict [((.idx (.var 1) (.var 6)),ME.int 1)]])] []] [],
 .ret (.var 3)]
noncomputable def b8:List MS:=[
 .unpack [1,2] (.attr (.var 0) 3),
 .ret (.fn .max [ME.bin .Sub (.fn .len [ME.var 1]) (.int 1),ME.var 2])]
noncomputable def b9:List MS:=[
 .unpack [2,3] (.attr (.var 0) 3),
 .asg 4 (.int 0),
 .cW (.one 5) (.range [ME.var 1,ME.fn .len [ME.var 2]]) [
  .asg 4 (.bin .Add (.var 4) (.bin .Mult (.bin .FloorDiv (.var 5) (.var 1)) (.idx (.var 2) (.var 5))))] [],
 .ret (.bin .Add (.var 3) (.bin .Mult (.var 1) (.bin .Add (.var 4) (.attr (.var 0) 2))))]
noncomputable def Me:List MS:=[
 .iff (.cmp .GtE (.attr (.var 0) 1) (.attr (.var 1) 1)) [
  .ret (.bool false)] [],
 .iff (.and (.attr (.var 0) 4) (.attr (.var 1) 4)) [
  .ret (.cmp .LtE (.attr (.var 0) 2) (.attr (.var 1) 2))] [],
 .asg 2 (.bin .Add (.fn .max [ME.fn (.dY 8) [ME.var 0],ME.fn (.dY 8) [ME.var 1]]) (.int 1)),
 .cW (.one 3) (.range [ME.int 2,ME.bin .Add (.var 2) (.int 1)]) [
  .iff (.cmp .GtE (.fn (.dY 9) [ME.var 0,ME.var 3]) (.fn (.dY 9) [ME.var 1,ME.var 3])) [
   .ret (.bool false)] []] [],
 .ret (.bool true)]
noncomputable def KO:List MS:=[
 .cN [(4,2),(5,1)] [ME.comp (.list []) [] (MG.mk (.one 6) (.range [ME.int 6]) []) [],ME.fn .list [ME.var 0]],
 .cW (.one 6) (.range [ME.int 6]) [
  .cW (.one 7) (.idx (.var 2) (.idx (.var 3) (.var 6))) [
   .asg 8 (.fn .index [ME.var 3,ME.var 7]),
   .du (.cmp .NotIn (.var 8) (.tup [ME.idx (.var 1) (.var 6),ME.neg (.int 1)])) [
    .cG 4 (.var 8) (.ite (.cmp .NotIn (.var 6) (.idx (.var 4) (.var 8))) (.list [ME.var 6]) (.list [])),
    .asg 8 (.idx (.var 1) (.var 8))]] []] [],
 .cW (.one 9) (.range [ME.int 6]) [
  .extend 5 (.ite (.cmp .Lt (.var 9) (.fn .len [ME.var 5])) (.comp (.var 6) [5] (MG.mk (.one 6) (.idx (.var 4) (.idx (.var 5) (.var 9))) [ME.cmp .NotIn (.var 6) (.var 5)]) []) (.list []))] [],
 .ret (.tup [ME.var 4,ME.var 5])]
noncomputable def Mf:List MS:=[
 .cN [(2,0),(3,1)] [ME.comp (.var 4) [0] (MG.mk (.one 4) (.range [ME.int 6]) [ME.cmp .NotIn (.var 4) (.var 0)]) [],ME.list []],
 .cW (.one 5) (.range [ME.bin .Pow (.int 2) (.fn .len [ME.var 2])]) [
  .asg 6 (.bin .Add (.var 0) (.comp (.var 4) [5] (MG.mk (.many [7,4]) (.enum (.var 2)) [ME.bin .Mod (.bin .FloorDiv (.var 5) (.bin .Pow (.int 2) (.var 7))) (.int 2)]) [])),
  .asg 8 (.comp (.fn (.user 5) [ME.var 1,ME.var 9,ME.var 6]) [1,6] (MG.mk (.one 9) (.var 6) []) []),
  .iff (.cmp .Eq (.comp (.var 4) [8,6] (MG.mk (.one 4) (.var 2) [ME.and (.cmp .NotIn (.var 4) (.var 6)) (.cmp .NotEq (.fn .len [ME.comp (.var 10) [4] (MG.mk (.one 10) (.var 8) [ME.cmp .In (.var 4) (.var 10)]) []]) (.int 1))]) []) (.list [])) [
   .append 3 (.fn .sset [ME.var 6])] []] [],
 .asg 11 (.comp (.var 4) [3] (MG.mk (.one 4) (.range [ME.int 6]) [ME.cmp .Eq (.comp (.var 6) [4] (MG.mk (.one 6) (.var 3) [ME.cmp .NotIn (.var 4) (.var 6)]) []) (.list [])]) []),
 .ret (.ite (.cmp .In (.var 11) (.var 3)) (.var 11) (.list []))]
noncomputable def vM:List MS:=[
 .setAttr 0 0 (.var 1),
 .cN [(2,0),(3,0)] [ME.fn .sT [],ME.fn .sU []],
 .own 4 (.list []),
 .chain [5,6,7] (.int 0),
 .cW (.one 8) (.attr (.var 0) 0) [
  .iff (.cmp .Eq (.var 8) (.var 2)) [
   .asg 6 (.bin .Add (.var 6) (.int 1)),
   .asg 5 (.bin .Add (.var 5) (.int 1))] [
   .iff (.cmp .Eq (.var 8) (.var 3)) [
    .asg 6 (.bin .Add (.var 6) (.int 1)),
    .asg 7 (.bin .Add (.var 7) (.int 1)),
    .iff (.cmp .GtE (.var 5) (.fn .len [ME.var 4])) [
     .own 4 (.bin .Add (.var 4) (.bin .Mult (.list [ME.int 0]) (.bin .Add (.bin .Sub (.var 5) (.fn .len [ME.var 4])) (.int 1))))] [],
    .setItem 4 (.var 5) (.bin .Add (.idx (.var 4) (.var 5)) (.int 1)),
    .asg 5 (.int 0)] [
    .brk]]] [],
 .setAttr 0 1 (.var 6),
 .setAttr 0 2 (.var 7),
 .setAttr 0 3 (.tup [ME.fn .tuple [ME.var 4],ME.var 5]),
 .setAttr 0 4 (.cmp .LtE (.fn .len [ME.var 4]) (.int 1))]
noncomputable def n0:List MS:=[
 .cN [(4,0),(5,1),(6,0)] [ME.list [ME.tup [ME.int 0,ME.str (Str.ofString "")]],ME.bin .Mult (.list [ME.neg (.int 1)]) (.int 6),ME.list [ME.tup [ME.str (Str.ofString "\t"),ME.str (Str.ofString "  ")],ME.tup [ME.str (Str.ofString "   \t"),ME.str (Str.ofString "  \t  ")],ME.tup [ME.str (Str.ofString " "),ME.str (Str.ofString "\t")],ME.tup [ME.str (Str.ofString "\t"),ME.str (Str.ofString " \t")]]],
 .cW (.one 7) (.range [ME.int 6]) [
  .asg 8 (.comp (.var 9) [7,0,4] (MG.mk (.one 9) (.ite (.cmp .Gt (.var 1) (.int 0)) (.range [ME.int 1,ME.int 6]) (.range [ME.int 5,ME.int 0,ME.neg (.int 1)])) [ME.cmp .Eq (.idx (.var 0) (.var 9)) (.idx (.idx (.var 4) (.var 7)) (.int 0))]) []),
  .asg 10 (.comp (.bin .Add (.bin .Mult (.str (Str.ofString "\t")) (.bin .Sub (.bin .FloorDiv (.bin .Sub (.fn .len [ME.var 8]) (.int 1)) (.int 2)) (.bin .FloorDiv (.var 11) (.int 2)))) (.idx (.idx (.var 6) (.bin .Mod (.bin .Add (.var 2) (.var 7)) (.int 4))) (.bin .Mod (.var 11) (.int 2)))) [7,8,6,2] (MG.mk (.one 11) (.range [ME.fn .len [ME.var 8]]) []) []),
  .asg 4 (.bin .Add (.bin .Add (.jc (.var 4) none (some (.bin .Add (.var 7) (.int 1))) none) (.comp (.tup [ME.var 9,ME.bin .Add (.idx (.idx (.var 4) (.var 7)) (.int 1)) (.var 12)]) [7,4] (MG.mk (.many [9,12]) (.zip (.var 8) (.var 10)) []) [])) (.jc (.var 4) (some (.bin .Add (.var 7) (.int 1))) none none))] [],
 .asg 13 (.comp (.fn (.user 7) [ME.bin .Add (.var 12) (.str (Str.ofString "x \t"))]) [] (MG.mk (.many [14,12]) (.var 4) []) []),
 .cW (.one 15) (.range [ME.int 1,ME.int 6]) [
  .cN [(16,0),(17,0)] [ME.var 15,ME.bool false],
  .du (.and (.cmp .Gt (.var 16) (.int 0)) (.cmp .Is (.var 17) (.bool false))) [
   .aug 16 .Sub (.int 1),
   .asg 17 (.fn (.dY 10) [ME.idx (.var 13) (.var 16),ME.idx (.var 13) (.var 15)]),
   .append 3 (.cmp .Is (.var 17) (.cmp .Eq (.idx (.idx (.var 4) (.var 16)) (.int 0)) (.idx (.var 0) (.idx (.idx (.var 4) (.var 15)) (.int 0)))))],
  .setItem 5 (.idx (.idx (.var 4) (.var 15)) (.int 0)) (.idx (.idx (.var 4) (.var 16)) (.int 0))] [],
 .ret (.var 5)]
noncomputable def n1:List MS:=[
 .cN [(6,1),(7,1),(8,0)] [ME.bin .Mult (.list [ME.tup [ME.int 0,ME.int 0,ME.int 0,ME.int 0,ME.dict []]]) (.int 6),ME.list [ME.int 0],ME.int 0],
 .cW (.one 9) (.range [ME.int 12]) [
  .asg 10 (.idx (.var 7) (.var 9)),
  .asg 8 (.ite (.cmp .In (.var 10) (.var 2)) (.var 10) (.var 8)),
  .setItem 6 (.var 10) (.fn (.user 3) [ME.idx (.var 6) (.var 10),ME.tup [ME.int 1,ME.var 10,ME.var 9,ME.bin .Mult (.neg (.var 9)) (.var 10),ME.dict [((.idx (.var 4) (.var 8)),ME.int 1)]]]),
  .append 7 (.ite (.cmp .NotEq (.idx (.var 1) (.var 10)) (.list [])) (.idx (.idx (.var 1) (.var 10)) (.bin .Mod (.bin .FloorDiv (.idx (.var 0) (.bin .Mod (.var 9) (.int 9))) (.bin .Pow (.int 3) (.bin .FloorDiv (.var 9) (.int 9)))) (.fn .len [ME.idx (.var 1) (.var 10)]))) (.int 0))] [],
 .cW (.one 11) (.range [ME.int 6]) [
  .cN [(12,0),(13,0)] [ME.comp (.var 9) [11,7] (MG.mk (.one 9) (.range [ME.int 12]) [ME.cmp .Eq (.idx (.var 7) (.var 9)) (.var 11)]) [],ME.var 11],
  .du (.cmp .NotIn (.var 13) (.var 2)) [
   .asg 13 (.idx (.var 3) (.var 13))],
  .append 5 (.cmp .Eq (.idx (.var 6) (.var 11)) (.tup [ME.fn .len [ME.var 12],ME.bin .Mult (.fn .len [ME.var 12]) (.var 11),ME.fn .sum [ME.var 12],ME.bin .Mult (.neg (.fn .sum [ME.var 12])) (.var 11),ME.ite (.cmp .NotEq (.var 12) (.list [])) (.dict [((.idx (.var 4) (.var 13)),ME.fn .len [ME.var 12])]) (.dict [])])),
  .asg 14 (.fn (.user 2) [ME.idx (.idx (.var 6) (.var 11)) (.int 4)]),
  .append 5 (.and (.cmp .Eq (.var 14) (.fn .len [ME.var 12])) (.cmp .Eq (.comp (.var 15) [] (MG.mk (.one 15) (.bin .Add (.tup [ME.var 14]) (.jc (.idx (.var 6) (.var 11)) none (some (.int 4)) none)) [ME.not (.fn .jo [ME.var 15])]) []) (.list [])))] []]
noncomputable def LN:MS:=.cN [(2,0),(3,1)] [ME.list [],ME.list []]
noncomputable def LO:MS:=.cW (.one 4) (.var 0) [
  .asg 5 (.comp (.bin .Add (.bin .Mod (.bin .FloorDiv (.var 6) (.bin .Pow (.int 64) (.var 7))) (.int 64)) (.bin .Mult (.int 64) (.cmp .Gt (.var 7) (.int 0)))) [] (MG.mk (.one 6) (.var 4) []) [MG.mk (.one 7) (.range [ME.int 5,ME.neg (.int 1),ME.neg (.int 1)]) [ME.or (.cmp .Eq (.var 7) (.int 0)) (.cmp .GtE (.var 6) (.bin .Pow (.int 64) (.var 7)))]]),
  .asg 2 (.bin .Add (.bin .Add (.var 2) (.list [ME.bin .Add (.int 128) (.idx (.var 5) (.int 0))])) (.jc (.var 5) (some (.int 1)) none none))] []
noncomputable def KP:ME:=ME.bin .Add (.var 2) (.jc (.list [ME.int 64,ME.int 65]) none (some (.var 1)) none)
noncomputable def LP:ME:=ME.range [ME.bin .Add (.fn .len [ME.var 2]) (.int 1)]
noncomputable def IQ:List MS:=[
 .asg 1 (.comp (.bin .Add (.var 4) (.fn .sum [ME.comp (.bin .Mod (.var 2) (.bin .Pow (.int 10) (.int 10))) [] (MG.mk (.one 2) (.jc (.jc (.var 0) none (some (.int 60)) none) (some (.var 3)) none (some (.int 10))) []) []])) [0] (MG.mk (.many [3,4]) (.enum (.list [ME.int 33,ME.int 41,ME.int 22,ME.int 6,ME.int 14,ME.int 56,ME.int 16,ME.int 5,ME.int 51,ME.int 304])) []) []),
 .cN [(5,0),(6,0),(7,1)] [ME.idx (.var 1) (.int 9),ME.bin .Add (.int 40) (.bin .FloorDiv (.idx (.var 1) (.int 9)) (.int 20088)),ME.list []],
 .asg 8 (.comp (.list [ME.bin .Mult (.var 6) (.bin .Mod (.idx (.var 1) (.bin .Sub (.var 3) (.int 1))) (.var 3)),ME.var 6,ME.bin .Mult (.var 6) (.var 3)]) [1,6] (MG.mk (.one 3) (.range [ME.int 1,ME.int 6]) []) []),
 .asg 8 (.bin .Add (.var 8) (.comp (.list [ME.bin .Mult (.var 6) (.bin .Mod (.var 9) (.int 6)),ME.bin .Mult (.var 6) (.fn .min [ME.bin .Add (.int 1) (.bin .Mod (.bin .FloorDiv (.var 9) (.int 6)) (.int 2)),ME.bin .Sub (.int 6) (.bin .Mod (.var 9) (.int 6))]),ME.bin .Mult (.var 6) (.bin .Mod (.bin .FloorDiv (.var 9) (.int 12)) (.int 6))]) [6] (MG.mk (.one 9) (.jc (.var 1) (some (.int 5)) (some (.int 9)) none) []) []))]
noncomputable def KQ:List ME:=[ME.var 8,ME.bin .Mod (.bin .FloorDiv (.var 5) (.int 54)) (.int 3)]
noncomputable def Bx:List MS:=[
 .iff (.cmp .NotEq (.var 10) (.comp (.var 12) [] (MG.mk (.one 11) (.var 8) []) [MG.mk (.one 12) (.var 11) []])) [
  .ret (.bool false)] [],
 .asg 13 (.comp (.fn (.user 0) [ME.bin .Add (.bin .Mod (.var 5) (.int 27)) (.var 3)]) [5] (MG.mk (.one 3) (.range [ME.int 6]) []) []),
 .asg 14 (.fn (.user 6) [ME.var 10,ME.var 13,ME.var 6]),
 .asg 15 (.comp (.tup [ME.var 16,ME.bin .FloorDiv (.idx (.var 11) (.int 2)) (.var 6)]) [6] (MG.mk (.one 11) (.var 8) []) [MG.mk (.one 16) (.range [ME.bin .FloorDiv (.idx (.var 11) (.int 0)) (.var 6),ME.bin .FloorDiv (.bin .Add (.idx (.var 11) (.int 0)) (.idx (.var 11) (.int 1))) (.var 6)]) []]),
 .asg 17 (.comp (.gI (.var 18) [19] (MG.mk (.many [16,18]) (.var 15) [ME.cmp .Eq (.var 16) (.var 19)])) [15] (MG.mk (.one 19) (.range [ME.int 6]) []) []),
 .append 7 (.cmp .Eq (.var 14) (.dM (.idx (.var 13) (.var 18)) (.dM (.idx (.var 13) (.var 20)) (.fn .count [ME.var 15,ME.tup [ME.var 20,ME.var 18]]) [15,13,17,18] (MG.mk (.one 20) (.range [ME.int 6]) [ME.cmp .In (.var 18) (.idx (.var 17) (.var 20))])) [15,13,17] (MG.mk (.one 18) (.range [ME.int 6]) []))),
 .asg 21 (.comp (.fn (.user 5) [ME.var 17,ME.int 0,ME.list [ME.var 16]]) [17] (MG.mk (.one 16) (.range [ME.int 6]) []) []),
 .asg 22 (.comp (.comp (.var 2) [21,23] (MG.mk (.one 2) (.range [ME.int 6]) [ME.or (.cmp .In (.var 2) (.tup [ME.int 0,ME.var 23])) (.cmp .NotIn (.var 23) (.idx (.var 21) (.var 2)))]) []) [21] (MG.mk (.one 23) (.range [ME.int 6]) []) []),
 .asg 24 (.bin .Add (.list [ME.neg (.int 1)]) (.comp (.idx (.comp (.var 2) [22,23] (MG.mk (.one 2) (.idx (.var 22) (.var 23)) [ME.cmp .Eq (.fn .len [ME.idx (.var 22) (.var 2)]) (.bin .Sub (.fn .len [ME.idx (.var 22) (.var 23)]) (.int 1))]) []) (.int 0)) [22] (MG.mk (.one 23) (.range [ME.int 1,ME.int 6]) []) [])),
 .gJ (some 25) 0 [ME.var 24,ME.bin .Sub (.int 1) (.bin .Mult (.bin .Mod (.bin .FloorDiv (.var 5) (.int 27)) (.int 2)) (.int 2)),ME.bin .FloorDiv (.var 5) (.int 5022)] 7,
 .asg 26 (.bin .Add (.list [ME.int 0]) (.comp (.var 16) [5] (MG.mk (.one 16) (.range [ME.int 1,ME.int 6]) [ME.bin .Mod (.bin .FloorDiv (.bin .Add (.bin .Mod (.bin .FloorDiv (.var 5) (.int 162)) (.int 31)) (.int 1)) (.bin .Pow (.int 2) (.bin .Sub (.var 16) (.int 1)))) (.int 2)]) [])),
 .unpack [27,28] (.fn (.user 11) [ME.var 26,ME.var 25,ME.var 14,ME.var 13]),
 .append 7 (.cmp .Eq (.fn (.user 4) [ME.fn .sum [ME.comp (.bin .Pow (.int 2) (.bin .Add (.bin .Mod (.var 5) (.int 27)) (.var 16))) [5] (MG.mk (.one 16) (.var 28) []) []]]) (.fn .join [ME.str (Str.ofString ", "),ME.comp (.idx (.var 13) (.var 16)) [13] (MG.mk (.one 16) (.fn (.user 12) [ME.var 26,ME.var 17]) []) []])),
 .cW (.one 16) (.range [ME.int 6]) [
  .asg 29 (.comp (.idx (.var 13) (.var 23)) [16,22,13,17] (MG.mk (.one 23) (.range [ME.int 6]) [ME.and (.or (.cmp .Eq (.var 23) (.var 16)) (.cmp .NotIn (.var 16) (.idx (.var 22) (.var 23)))) (.cmp .NotEq (.comp (.var 2) [16,22,17,23] (MG.mk (.one 2) (.range [ME.int 6]) [ME.and (.cmp .In (.var 23) (.idx (.var 17) (.var 2))) (.cmp .In (.var 16) (.idx (.var 22) (.var 2)))]) []) (.list []))]) []),
  .asg 29 (.bin .Add (.var 29) (.ite (.cmp .Eq (.var 16) (.int 2)) (.list []) (.list [ME.bin .Add (.bin .Add (.bin .Add (.ite (.cmp .Lt (.var 16) (.int 2)) (.str (Str.ofString "-")) (.str (Str.ofString ""))) (.str (Str.ofString "0x"))) (.fn .strOf [ME.fn .abs [ME.bin .Sub (.var 16) (.int 2)]])) (.bin .Mult (.str (Str.ofString "0")) (.int 8))]))),
  .asg 30 (.fn (.user 4) [ME.bin .Add (.fn .sum [ME.comp (.bin .Pow (.int 2) (.bin .Add (.bin .Mod (.var 5) (.int 27)) (.var 23))) [5] (MG.mk (.one 23) (.idx (.var 27) (.var 16)) []) []]) (.bin .Mult (.bin .Sub (.var 16) (.int 2)) (.bin .Pow (.int 2) (.int 32)))]),
  .append 7 (.cmp .Eq (.var 30) (.ite (.cmp .NotEq (.var 29) (.list [])) (.fn .join [ME.str (Str.ofString ", "),ME.var 29]) (.str (Str.ofString "0x0"))))] [],
 .gJ none 1 [ME.var 1,ME.var 17,ME.var 28,ME.var 25,ME.var 13] 7,
 .ret (.fn .all [ME.var 7])]
noncomputable def HB:Pg where
 bd:=λf=>match f with
  |0=>some (1,b0)
  |1=>some (2,b1)
  |2=>some (1,b2)
  |3=>some (2,b3)
  |4=>some (1,b4)
  |5=>some (3,b5)
  |6=>some (3,b6)
  |8=>some (1,b8)
  |9=>some (2,b9)
  |10=>some (2,Me)
  |11=>some (4,KO)
  |12=>some (2,Mf)
  |_=>none
 nb:=λf=>match f with
  |0=>some (4,n0)
  |1=>some (6,n1)
  |_=>none
 init:=vM
 rd:=λ_ _ _=>none
noncomputable def i5 (n:Str):CT:=match [(("_wall":Str),((["k"]:List Str),([]:List Str),([]:List Str))),
 (("pretty_flags":Str),((["flags","names","i","flag"]:List Str),(["names"]:List Str),([]:List Str))),
 (("_parse_varint":Str),((["iterator","b","val"]:List Str),([]:List Str),([]:List Str))),
 (("add_func_stats":Str),((["target","source","cc","nc","tt","ct","callers","t_cc","t_nc","t_tt","t_ct","t_callers"]:List Str),([]:List Str),([]:List Str))),
 (("add_callers":Str),((["target","source","new_callers","func","caller","i","j"]:List Str),(["new_callers"]:List Str),([]:List Str))),
 (("count_calls":Str),((["callers","nc","calls"]:List Str),([]:List Str),([]:List Str))),
 (("__init__":Str),((["self","ws","S","T","count","b","n","nt","ch"]:List Str),(["count"]:List Str),([]:List Str))),
 (("longest_run_of_spaces":Str),((["self","count","trailing"]:List Str),([]:List Str),([]:List Str))),
 (("indent_level":Str),((["self","tabsize","count","trailing","il","i"]:List Str),([]:List Str),([]:List Str))),
 (("equal":Str),((["self","other"]:List Str),([]:List Str),([]:List Str))),
 (("not_equal_witness":Str),((["self","other"]:List Str),([]:List Str),([]:List Str))),
 (("less":Str),((["self","other","n","ts"]:List Str),([]:List Str),([]:List Str))),
 (("not_less_witness":Str),((["self","other"]:List Str),([]:List Str),([]:List Str))),
 (("_law_read":Str),((["drawn","torn","tape","numbers","row","octets","number","k","reader","turn"]:List Str),(["numbers"]:List Str),([]:List Str))),
 (("_law_flag":Str),((["place","names"]:List Str),([]:List Str),([]:List Str))),
 (("_law_tables":Str),((["numbers","names","unit","tables","name","k","block"]:List Str),(["tables"]:List Str),([]:List Str))),
 (("_law_reached":Str),((["steps","first","shut","group","at","to"]:List Str),(["group"]:List Str),([]:List Str))),
 (("_law_hangs":Str),((["master","way","seed","notes","rows","hangs","pairs","at","kids","one","leads","place","lead","page","block","row","above","told"]:List Str),(["notes","hangs"]:List Str),([]:List Str))),
 (("_law_marked":Str),((["stores","hangs","tables","names","front","marked","block","caller","here","one"]:List Str),(["marked"]:List Str),(["front"]:List Str))),
 (("_law_least":Str),((["stores","steps","others","wholes","block","bits","these","k","comes","one","group","least"]:List Str),(["wholes"]:List Str),([]:List Str))),
 (("_law_run":Str),((["sums","steps","marked","hangs","names","notes","book","path","last","turn","here","block","turns","near","told","x"]:List Str),(["notes","book","path"]:List Str),([]:List Str))),
 (("law":Str),((["script","sums","x","k","own","last","unit","notes","drawn","v","numbers","row","number","names","tables","arms","block","steps","to","here","one","cuts","chains","y","master","hangs","stores","front","marked","words","told"]:List Str),(["notes"]:List Str),([]:List Str)))].lookup n with
 |some (t,o,r)=>⟨t,o,r⟩
 |none=>⟨[],[],[]⟩
end av
namespace av.Q
open PySem av
inductive fV (S:List (List Nat))(T:List Nat)(a:Nat):Nat->Prop
 |base:fV S T a a
 |step {x y:Nat}:fV S T a x->y∈S.getD x []->y∉T->fV S T a y
structure Gr (S:List (List Nat)):Prop where
 len:S.length=6
 nJ:∀s∈S,s.Nodup
 lt:∀s∈S, ∀x∈s,x<6
section
variable {S:List (List Nat)}{T:List Nat}{a:Nat}{U:UT}{N:NT}{n:Nat}{Z:St}
theorem Gr.row (G:Gr S){x:Nat}(h:x<6):S[x]?=some (S.getD x []):=by
 rw[Nb,Nc (by rw[G.len];exact h)];rfl
theorem Gr.iy (G:Gr S){x:Nat}(h:y∈S.getD x []):x<6/\y<6:=by
 by_cases hx:x<6
 .exact⟨hx,G.lt _ (Nw (G.row hx)) _ h⟩
 .rw[Nb,Od (by rw[G.len];exact NU hx)] at h;cases h
theorem Gr.uo (G:Gr S){x:Nat}:(S.getD x []).Nodup:=by
 by_cases hx:x<6
 .exact G.nJ _ (Nw (G.row hx))
 .rw[Nb,Od (by rw[G.len];exact NU hx)];exact N6
theorem fV.lt (G:Gr S)(b:a<6){x:Nat}(h:fV S T a x):x<6:=by
 cases h with
 |base=>exact b
 |step _ h _=>exact(G.iy h).2
structure RI (S:List (List Nat))(T:List Nat)(a:Nat)(g:List Nat)(i:Nat)(Z:St):Prop where
 v0:Z 0=some (.val (.list (S.map nl)))
 v2:Z 2=some (.val (nl T))
 v3:Z 3=some (.own (nl g))
 v4:Z 4=some (.val (.int i))
 nJ:g.Nodup
 le:i<=g.length
 has:a∈g
 all:∀x∈g,fV S T a x
 Mx:∀j x,j<i->g[j]?=some x-> ∀y∈S.getD x [],y∉T->y∈g
theorem uq (G:Gr S)(q:a<6){g:List Nat}{i:Nat}(I:RI S T a g i Z)(hi:i<g.length):∃Z' u,ay (ex U N (n+1)) [.extend 3 (.comp (.var 5) [3,2] (MG.mk (.one 5) (.idx (.var 0) (.idx (.var 3) (.var 4))) [ME.and (.cmp .NotIn (.var 5) (.var 2)) (.cmp .NotIn (.var 5) (.var 3))]) []),.aug 4 .Add (.int 1)] Z=some (.next,Z')/\RI S T a u (i+1) Z':=by
 obtain ⟨x,hx⟩:∃x,g[i]?=some x:=⟨_,Nc hi⟩
 have d:=Nw hx
 have f:=(I.all x d).lt G q
 have o:g.length<=6:=bc I.nJ λy b=>(I.all y b).lt G q
 have p:(S.getD x []).length<=6:=bc G.uo λy b=>(G.iy b).2
 have r:((S.getD x []).filter λy=>decide (y∉T)&&decide (y∉g)).length<=6:=M4 (Nv ..) p
 have v:(ev U 38).i Z (.one 5) (.idx (.var 0) (.idx (.var 3) (.var 4)))=some ((S.getD x []).map λ(k:Nat)=>D.int (k:Int)):=
  mP rfl (aZ I.v0 (aK (v_var I.v0) (aK (dU I.v3) (ao I.v4) (dB hx (by exact av.lu (NF hi o) rfl))) (bC (by rw[Nz,G.row f];rfl) (by exact av.lu f rfl)))) rfl
 have w:(ev U 39).m Z (.comp (.var 5) [3,2] (MG.mk (.one 5) (.idx (.var 0) (.idx (.var 3) (.var 4))) [ME.and (.cmp .NotIn (.var 5) (.var 2)) (.cmp .NotIn (.var 5) (.var 3))]) [])=some (nl ((S.getD x []).filter λy=>decide (y∉T)&&decide (y∉g))):=by
  refine aV (λy=>if(decide (y∉T)&&decide (y∉g))=true then[.int (y:Int)] else[]) v (λy b=>?_) aO ?_
  .exact aF rfl (a7 (kG (aS (v_var rfl) (v_var I.v2) dn) λ_=>aS (v_var rfl) (dU I.v3) dn)) λ_=>aH (ao rfl)
  .rw[MX];lia
 refine⟨_,g++(S.getD x []).filter λy=>decide (y∉T)&&decide (y∉g),ae (mQ (aB rfl w) I.v3 ?_) (ae (oC rfl I.v4 rfl add_int) rfl),?_⟩
 .rw[MX,MX];lia
 .refine⟨I.v0,I.v2,?_,rfl,?_,?_,Oq _ I.has,λy b=>?_,λj y B b z m s=>?_⟩
  .show some (_root_.av.Slot.own (.list _))=some (.own (.list _))
   rw[Nu]
  .refine Oz.mpr ⟨I.nJ,G.uo.filter _,λy b z m e=>?_⟩
   subst e
   have:=(Nt.mp m).2
   simp only[NV,Nd] at this
   exact this.2 b
  .rw[Ni];lia
  .rcases NK.mp b with h|h
   .exact I.all y h
   .refine au (Nt.mp h) λA t=>?_
    simp only[NV,Nd] at t
    exact .step (I.all x d) A t.1
  .by_cases c:z∈g
   .exact Oq _ c
   .refine OW _ ?_
    by_cases l:j<i
    .rw[Of (by exact NW l hi)] at b
     exact absurd (I.Mx j y l b z m s) c
    .have:j=i:=by lia
     subst this
     rw[Of hi,hx] at b
     cases b
     exact Nt.mpr ⟨m,by simp[s,c]⟩
theorem mU (G:Gr S)(b:a<6):∀(k:Nat){g:List Nat}{i:Nat}{Z:St},RI S T a g i Z->6<i+k-> ∃Z' f j,cy (λZ=>(ev U 40).t Z (.cmp .Lt (.var 4) (.fn .len [ME.var 3]))) (ay (ex U N (n+1)) [.extend 3 (.comp (.var 5) [3,2] (MG.mk (.one 5) (.idx (.var 0) (.idx (.var 3) (.var 4))) [ME.and (.cmp .NotIn (.var 5) (.var 2)) (.cmp .NotIn (.var 5) (.var 3))]) []),.aug 4 .Add (.int 1)]) (k+1) Z=some (.next,Z')/\RI S T a f j Z'/\j=f.length
 |k,g,i,Z,I,h=>by
  have c:g.length<=6:=bc I.nJ λy l=>(I.all y l).lt G b
  have e:(ev U 40).t Z (.cmp .Lt (.var 4) (.fn .len [ME.var 3]))=some (decide ((i:Int)<((g.map λ(k:Nat)=>D.int (k:Int)).length:Int))):=
   aS (v_var I.v4) (aB rfl (cE rfl (aa (dU I.v3) aj) (len_own (by rw[MX];exact av.lv c rfl)))) rfl
  rw[MX] at e
  by_cases hi:i<g.length
  .rw[Nq (by exact N5.mpr hi)] at e
   cases k with
   |zero=>lia
   |succ k=>
    refine aW (uq (U:=U) (N:=N) (n:=n) G b I hi) λZ1 t m o=>?_
    refine DI (mU G b k o (by lia)) λd p q r s=>?_
    exact⟨d,p,q,d9 e m r,s⟩
  .rw[NQ (by lia)] at e
   exact⟨Z,g,i,f5 e,I,by have:=I.le;lia⟩
theorem Fh (G:Gr S)(c:a<6):∃g,rF U N b5 [.list (S.map nl),.int a,nl T]=some (nl g)/\g.Nodup/\ ∀x,x∈g↔fV S T a x:=by
 obtain ⟨Z1,g,i,d,I,hi⟩:=mU (S:=S) (T:=T) (a:=a) (U:=U) (N:=N) (n:=10) (i:=0) (g:=[a]) G c 63 (Z:=St.set (St.set (λi=>(([.list (S.map nl),.int a,nl T]:List D)[i]?).map .val) 3 (.own (nl [a]))) 4 (.val (.int 0)))
  ⟨rfl,rfl,rfl,rfl,NA.mpr ⟨by simp,N6⟩,Ou _,Nf ..,λx hx=>by rw[Nh.mp hx];exact .base,λj _ b=>absurd b (OL _)⟩ (by exact Og _ _)
 refine⟨g,dR (ae (ey (aa (eT (by decide) (aa (ao rfl) aj)) (aa rfl aj)) rfl) (ae d (bA (eK (ao (by show(Z1 3).bind _=_;rw[I.v3];rfl)))))),I.nJ,λx=>⟨I.all x,λh=>?_⟩⟩
 induction h with
 |base=>exact I.has
 |step _ e f k=>
  obtain ⟨j,b⟩:=O4 k
  exact I.Mx j _ (by have:=(Ny.mp b).1;lia) b _ e f
end
structure Gt (S:List (List Nat)):Prop extends Gr S where
 tree:∀k,0<k->k<6-> ∃j,j<k/\k∈S.getD j []
def dK (S:List (List Nat))(x y:Nat):Prop:=x=0\/x=y\/ ¬fV S [x] 0 y
section
variable {S:List (List Nat)}{T:List Nat}{x y z a:Nat}
theorem Gt.oD (G:Gt S):∀(n y:Nat),y<n->y<6->fV S [0] 0 y
 |0,y,h,_=>absurd h (OL _)
 |n+1,y,h,b=>by
  by_cases h0:y=0
  .rw[h0];exact .base
  .refine af (G.tree y (by exact OO h0) b) λj c e=>?_
   exact .step (G.oD n j (by lia) (by exact NW c b)) e (by simpa using h0)
theorem dK.refl:dK S x x:=.inr (.inl rfl)
theorem dK.of0:dK S 0 y:=.inl rfl
theorem dK.LQ (h:dK S x 0):x=0:=by
 rcases h with h|h|h
 .exact h
 .exact h
 .exact absurd .base h
theorem Fi (h:x≠0):¬fV S [x] 0 x:=λr=>by
 cases r with
 |base=>exact h rfl
 |step _ _ h=>exact h (Nh.mpr rfl)
theorem dK.IS (h:dK S x y)(e:y∈S.getD a [])(hn:x≠y):dK S x a:=by
 rcases h with h|h|h
 .exact .inl h
 .exact absurd h hn
 .by_cases hx:x=a
  .exact .inr (.inl hx)
  .exact .inr (.inr λr=>h (.step r e λb=>hn (Nh.mp b).symm))
theorem ur (r:fV S [x] 0 z):fV S [y] 0 z\/fV S [x] 0 y:=by
 induction r with
 |base=>exact .inl .base
 |@step b c r e hn d=>
  rcases d with h|h
  .by_cases hc:c=y
   .subst hc;exact .inr (.step r e hn)
   .exact .inl (.step h e λf=>hc (Nh.mp f))
  .exact .inr h
theorem dK.trans (b:dK S x y)(c:dK S y z):dK S x z:=by
 rcases c with c|c|c
 .subst c;exact .inl b.LQ
 .subst c;exact b
 .rcases b with b|b|b
  .exact .inl b
  .subst b;exact .inr (.inr c)
  .exact .inr (.inr λr=>(ur r).elim c b)
theorem dK.By (G:Gt S)(hx:x<6)(f:dK S x y)(d:dK S y x):x=y:=by
 by_cases hn:x=y
 .exact hn
 exfalso
 rcases f with f|f|f
 .subst f;exact hn d.LQ.symm
 .exact hn f
 rcases d with d|d|d
 .subst d;exact f .base
 .exact hn d.symm
 have:∀z,fV S [0] 0 z->fV S [x] 0 z/\fV S [y] 0 z:=λz r=>by
  induction r with
  |base=>exact⟨.base,.base⟩
  |@step b c r e _ h=>
   have i:c≠x:=λq=>d (.step h.2 (q▸e) λg=>hn (Nh.mp g))
   have j:c≠y:=λq=>f (.step h.1 (q▸e) λg=>hn (Nh.mp g).symm)
   exact⟨.step h.1 e λg=>i (Nh.mp g),.step h.2 e λg=>j (Nh.mp g)⟩
 exact d (this x (G.oD 6 x hx hx)).2
theorem dK.chain (G:Gt S)(k:z<6)(d:dK S x z)(f:dK S y z):dK S x y\/dK S y x:=by
 rcases d with d|d|d
 .exact .inl (.inl d)
 .subst d;exact .inr f
 rcases f with f|f|f
 .exact .inr (.inl f)
 .subst f;exact .inl (.inr (.inr d))
 by_cases g:fV S [x] 0 y
 .by_cases h:fV S [y] 0 x
  .have:∀z,fV S [0] 0 z->fV S [x] 0 z\/fV S [y] 0 z:=λz r=>by
    induction r with
    |base=>exact .inl .base
    |@step b c r e _ i=>
     rcases i with i|i
     .by_cases hc:c=x
      .subst hc;exact .inr h
      .exact .inl (.step i e λj=>hc (Nh.mp j))
     .by_cases hc:c=y
      .subst hc;exact .inl g
      .exact .inr (.step i e λj=>hc (Nh.mp j))
   exact((this z (G.oD 6 z k k)).elim d f).elim
  .exact .inr (.inr (.inr h))
 .exact .inl (.inr (.inr g))
def Fm (S:List (List Nat))(z y:Nat):Prop:=(∃a,y∈S.getD a []/\dK S z a)/\(z=y\/ ¬dK S z y)
def bW (S:List (List Nat))(M:List Nat):Prop:= ∀z∈M, ∀y,Fm S z y->y∈M
def kq (S:List (List Nat))(M:List Nat)(a t:Nat):Prop:=t∈M/\dK S t a/\ ∀z∈M,dK S z a->dK S z t
theorem oE {M:List Nat}{t:Nat}(g:bW S M)(e:y∈S.getD a [])(c:y∉M)(h:kq S M a t):kq S M y t:=by
 refine eU h λd i j=>?_
 have ht:dK S t y:=by
  by_cases b:dK S t y
  .exact b
  .exact absurd (g t d y ⟨⟨a,e,i⟩,.inr b⟩) c
 exact⟨d,ht,λz f b=>j z f (b.IS e λq=>c (q▸f))⟩
theorem kr {M:List Nat}(h:a∈M):kq S M a a:=⟨h,.refl,λ_ _ h=>h⟩
theorem iS (G:Gt S){M:List Nat}(c:∀z∈M,z<6){t:Nat}(h:kq S M a t)(b:kq S M a u):t=u:=
 dK.By G (c t h.1) (b.2.2 t h.1 h.2.1) (h.2.2 u b.1 b.2.1)
theorem r9 {M:List Nat}{t:Nat}(b:bW S M)(ht:t∈M)(r:fV S M t x):kq S M x t:=by
 induction r with
 |base=>exact kr ht
 |step _ e hn c=>exact oE b e hn c
theorem Bz {T:List Nat}(G:Gt S)(h0:0∈T)(hx:x<6):∃t∈T,fV S T t x:=by
 have r:=G.oD 6 x hx hx
 clear hx
 induction r with
 |base=>exact⟨0,h0,.base⟩
 |@step b c r e _ f=>
  by_cases d:c∈T
  .exact⟨c,d,.base⟩
  .refine af f λt ht q=>?_
   exact⟨t,ht,.step q e d⟩
def ku (S:List (List Nat))(T:List Nat):Prop:= ∀x,x<6->x∉T-> ∀t∈T, ∀u∈T,fV S T t x->fV S T u x->t=u
theorem pU (G:Gt S){M:List Nat}(b:∀z∈M,z<6)(h:bW S M):ku S M:=
 λ_ _ _ _ ht _ c r d=>iS G b (r9 h ht r) (r9 h c d)
theorem sd (G:Gt S){T:List Nat}(h0:0∈T)(w:ku S T)(m:z∈T)(A:z<6)(h:Fm S z y):y∈T:=by
 obtain ⟨⟨a,e,n⟩,hn⟩:=h
 by_cases i:y∈T
 .exact i
 exfalso
 have hn:¬dK S z y:=hn.elim (λq=>absurd (q▸m) i) id
 have g:z≠0:=λq=>hn (.inl q)
 have hr:fV S [z] 0 y:=OZ λq=>hn (.inr (.inr q))
 have B:∃t∈T,fV S [z] 0 t/\fV S T t y:=by
  clear hn n e
  have:∀b,fV S [z] 0 b-> ∃t∈T,fV S [z] 0 t/\fV S T t b:=λb r=>by
   induction r with
   |base=>exact⟨0,h0,.base,.base⟩
   |@step b c r e C j=>
    by_cases f:c∈T
    .exact⟨c,f,.step r e C,.base⟩
    .refine bf j λt ht k l=>?_
     exact⟨t,ht,k,.step l e f⟩
  exact this y hr
 have D:∃t∈T,dK S z t/\fV S T t a:=by
  have:∀b,fV S [0] 0 b->dK S z b-> ∃t∈T,dK S z t/\fV S T t b:=λb r=>by
   induction r with
   |base=>exact λh=>⟨0,h0,h,.base⟩
   |@step b c r o _ j=>
    intro h
    by_cases f:c∈T
    .exact⟨c,f,h,.base⟩
    .refine bf (j (h.IS o λq=>f (q▸m))) λt ht k l=>?_
     exact⟨t,ht,k,.step l o f⟩
  have p:a<6:=(G.toGr.iy e).1
  exact this a (G.oD 6 a p p) n
 refine bf B λs E u F=>?_
 refine bf D λv H I J=>?_
 have:s=v:=w y (G.toGr.iy e).2 i s E v H F (.step J e i)
 subst this
 rcases I with d|d|d
 .exact g d
 .subst d;exact Fi g u
 .exact d u
theorem filter_le {p q:Nat->Bool}:∀{l:List Nat},(∀x∈l,p x=true->q x=true)->(l.filter p).length<=(l.filter q).length
 |[],_=>NB _
 |x::l,h=>by
  have b:=filter_le (l:=l) λy c=>h y (Nj _ c)
  have d:=h x (Nf ..)
  rw[Om,Om]
  cases hp:p x
  .cases q x
   .exact b
   .exact Oy b
  .rw[d hp];exact OD b
theorem filter_eq {p q:Nat->Bool}:∀{l:List Nat},(∀x∈l,p x=true->q x=true)->(l.filter q).length<=(l.filter p).length-> ∀x∈l,q x=true->p x=true
 |x::l,h,c,y,b,f=>by
  have g:=filter_le (l:=l) λy b=>h y (Nj _ b)
  have i:=h x (Nf ..)
  rw[Om,Om] at c
  cases hp:p x<;>rw[hp] at c
  .cases d:q x<;>rw[d] at c
   .rcases Np.mp b with e|b
    .rw[e,d] at f;cases f
    .exact filter_eq (λy b=>h y (Nj _ b)) c y b f
   .exact absurd (M4 c g) (Nat.not_succ_le_self _)
  .rw[i hp] at c
   rcases Np.mp b with e|b
   .rw[e];exact hp
   .exact filter_eq (λy b=>h y (Nj _ b)) (Nat.le_of_succ_le_succ c) y b f
theorem jj {d:Nat->Bool}:∀{l:List Nat},l.Nodup->a∈l->d a=true->(l.filter d).length=(l.filter λx=>d x&&decide (x≠a)).length+1
 |x::l,hn,e,b=>by
  refine au (NA.mp hn) λn1 f=>?_
  rw[Om,Om]
  by_cases hx:x=a
  .subst hx
   rw[M7 b,M8 (by simp)]
   have:l.filter d=l.filter λy=>d y&&decide (y≠x):=OQ λy g=>by
    have:y≠x:=λq=>n1 (q▸g)
    simp[this]
   rw[<-this];rfl
  .have c:=jj f ((Np.mp e).resolve_left (Ox hx)) b
   cases hdx:d x
   .simpa using c
   .simp[hx,c]
def yn (S:List (List Nat))(d:Nat->Nat->Bool):Prop:= ∀x y,x<6->y<6->(d x y=true↔dK S x y)
noncomputable def eM (d:Nat->Nat->Bool)(y:Nat):List Nat:=(List.range 6).filter λx=>d x y
def IT (d:Nat->Nat->Bool)(y x:Nat):Prop:=x∈eM d y/\(eM d x).length+1=(eM d y).length
theorem ez {d:Nat->Nat->Bool}:x∈eM d y↔x<6/\d x y=true:=by
 unfold eM;rw[Nt,Ng]
theorem BA (f:Nat->Nat):∀(l:List Nat),l≠[]-> ∃x∈l, ∀z∈l,f z<=f x
 |[],h=>absurd rfl h
 |[x],_=>⟨x,Nh.mpr rfl,λz b=>by rw[Nh.mp b];exact NB _⟩
 |x::y::l,_=>by
  refine af (BA f (y::l) (by simp)) λm d c=>?_
  by_cases h:f x<=f m
  .exact⟨m,Nj _ d,λz b=>(Np.mp b).elim (λe=>e▸h) (c z)⟩
  .exact⟨x,Nf ..,λz b=>(Np.mp b).elim (λe=>e▸NB _) λb=>M4 (c z b) (by exact Nat.le_of_not_le h)⟩
theorem Fo (G:Gt S){d:Nat->Nat->Bool}(D:yn S d)(h0:0<y)(f:y<6):∃x,IT d y x:=by
 have i:(0:Nat)<6:=by exact Oh _
 obtain ⟨m,r,s⟩:=BA (λx=>(eM d x).length) ((eM d y).filter λx=>decide (x≠y)) λe=>by
  have:0∈(eM d y).filter λx=>decide (x≠y):=Nt.mpr ⟨ez.mpr ⟨i,(D 0 y i f).mpr .of0⟩,by simp;exact NZ h0⟩
  rw[e] at this;cases this
 obtain ⟨o,t⟩:=Nt.mp r
 obtain ⟨g,u⟩:=ez.mp o
 have k:m≠y:=Nr t
 have n:=(D m y g f).mp u
 refine⟨m,o,?_⟩
 rw[show(eM d y).length=_ from jj Pb (Ng.mpr f) ((D y y f f).mpr .refl)]
 refine MY (· +1) (OS (filter_le λz b c=>?_) (filter_le λz b c=>?_))
 .have b:=Ng.mp b
  have c:=(D z m b g).mp c
  rw[NV,Nd]
  refine⟨(D z y b f).mpr (c.trans n),λe=>?_⟩
  subst e
  exact k (dK.By G g n c)
 .have b:=Ng.mp b
  rw[NV,Nd] at c
  have v:=(D z y b f).mp c.1
  refine(D z m b g).mpr ((v.chain G f n).elim id λq=>?_)
  have A:=s z (Nt.mpr ⟨ez.mpr ⟨b,c.1⟩,Nq c.2⟩)
  have:=filter_eq (p:=λx=>d x m) (q:=λx=>d x z) (l:=List.range 6) (λw j h=>?_) A z (Ng.mpr b) ((D z z b b).mpr .refl)
  .exact(D z m b g).mp this
  .have j:=Ng.mp j
   exact(D w z j b).mpr (((D w m j g).mp h).trans q)
theorem KR (G:Gt S){d:Nat->Nat->Bool}(D:yn S d)(b:y<6)(h:IT d y x):x<6/\x≠y/\dK S x y/\ ∀z,z<6->z≠y->dK S z y->dK S z x:=by
 refine au h λf k=>?_
 refine au (ez.mp f) λhx f=>?_
 have g:=(D x y hx b).mp f
 have hn:x≠y:=λe=>by subst e;lia
 rw[show(eM d y).length=_ from jj Pb (Ng.mpr b) ((D y y b b).mpr .refl)] at k
 refine⟨hx,hn,g,λz i j n=>?_⟩
 have:=filter_eq (p:=λz=>d z x) (q:=λz=>d z y&&decide (z≠y)) (l:=List.range 6) (λw c h=>?_) (NR (OP k).symm) z (Ng.mpr i) (by simp[(D z y i b).mpr n,j])
 .exact(D z x i hx).mp this
 .have c:=Ng.mp c
  have m:=(D w x c hx).mp h
  rw[NV,Nd]
  refine⟨(D w y c b).mpr (m.trans g),λe=>?_⟩
  subst e
  exact hn (dK.By G hx g m)
end
noncomputable def gP (L:List (Str×Int)):D:=.dict (L.map (·.1)) (L.map λp=>.int p.2)
noncomputable def bump (s:Str)(c:Int):List (Str×Int)->List (Str×Int)
 |[]=>[(s,c)]
 |p::r=>if p.1=s then(p.1,p.2+c)::r else p::bump s c r
theorem iz {l:List Str}{s:Str}:∀{i:Nat},l.Nodup->l[i]?=some s->l.idxOf? s=some i:=by
 induction l with
 |nil=>exact λ_ h=>ns h
 |cons x l a=>
  intro i hn h
  cases i with
  |zero=>rw[List.idxOf?_cons,M7 (NJ.mpr (MW h))]
  |succ i=>rw[List.idxOf?_cons,show(x==s)=false from OT.mpr λq=>(NA.mp hn).1 (q▸Nw (show l[i]?=some s from h)),a (NA.mp hn).2 h];rfl
theorem pV {a:Type}{vs:List a}{s:Str}{v:a}(h:s∉ks):putD ks vs s v=(ks++[s],vs++[v]):=by
 unfold putD;rw[List.idxOf?_eq_none_iff.mpr h]
theorem BB {a:Type}{ks:List Str}{vs:List a}{s:Str}{v:a}{i:Nat}(hn:ks.Nodup)(h:ks[i]?=some s):putD ks vs s v=(ks,vs.set i v):=by
 unfold putD;rw[iz hn h]
section
variable {s:Str}{c:Int}{L r:List (Str×Int)}{p:Str×Int}
theorem eY:bump s c (p::r)=if p.1=s then(p.1,p.2+c)::r else p::bump s c r:=rfl
theorem se (h:s∉L.map (·.1)):bump s c L=L++[(s,c)]:=by
 induction L with
 |nil=>rfl
 |cons p r a=>
  have h:=not_or.mp λq=>h (Np.mpr q)
  rw[eY,M8 (Ox h.1),a h.2];rfl
theorem yo (h:s∈L.map (·.1)):(bump s c L).map (·.1)=L.map (·.1):=by
 induction L with
 |nil=>exact absurd h Nl
 |cons p r b=>
  rw[eY]
  by_cases a:p.1=s
  .rw[M7 a];rfl
  .rw[M8 a,Ob,b ((Np.mp h).resolve_left (Ox a)),Ob]
theorem Fp (h:s∈L.map (·.1)):∃i v,(L.map (·.1))[i]?=some s/\L[i]?=some (s,v)/\(bump s c L).map (λp=>D.int p.2)=(L.map λp=>D.int p.2).set i (.int (v+c)):=by
 induction L with
 |nil=>exact absurd h Nl
 |cons p r b=>
  by_cases a:p.1=s
  .exact⟨0,p.2,MY some a,MY (λs=>some (s,p.2)) a,by rw[eY,M7 a];rfl⟩
  .refine aP (b ((Np.mp h).resolve_left (Ox a))) λi w d e f=>?_
   exact⟨i+1,w,d,e,by rw[eY,M8 a,Ob,f];rfl⟩
theorem yq:iV ((L.map (·.1)).map .str) (L.map λp=>.int p.2)=L.map λp=>.tup [.str p.1,.int p.2]:=by
 induction L with
 |nil=>rfl
 |cons p r a=>exact MY (D.tup [.str p.1,.int p.2]:: ·) a
end
section
variable {U:UT}{N:NT}{n:Nat}{Z:St}
theorem sg {L:List (Str×Int)}{s:Str}{c:Int}(hn:(L.map (·.1)).Nodup)(k:L.length<1000):rF U N b1 [gP L,gP [(s,c)]]=some (gP (bump s c L)):=by
 refine af (iR (c:=λp:Str×Int=>D.tup [.str p.1,.int p.2]) (b:=ay (ex U N 11) [.setItem 2 (.var 3) (.var 4)]) (Z0:=λZ d=>bB Z (.many [3,4]) d) (xs:=L)
  (Z:=St.set (λi=>(([gP L,gP [(s,c)]]:List D)[i]?).map .val) 2 (.own (.dict [] []))) (λg Z=>Z 1=some (.val (gP [(s,c)]))/\Z 2=some (.own (gP g))) (λg p E e Z h=>by
   refine au h λj f=>?_
   have hp:p.1∉g.map (·.1):=by
    rw[e,Nu,Ob] at hn
    exact λr=>(Oz.mp hn).2.2 _ r _ (Nf ..) rfl
   have t:g.length<1000:=by rw[e,Ni] at k;lia
   refine⟨_,_,rfl,ae (kl (ao rfl) (ao rfl) f ?_) rfl,j,?_⟩
   .rw[MX,show gS (D.int p.2)=true from rfl,Bool.true_and];exact Nq (by exact av.lu t rfl)
   .show some (_root_.av.Slot.own (.dict _ _))=some (.own (.dict _ _))
    rw[pV hp,Nu,Nu];rfl) ⟨rfl,rfl⟩) λZ1 u w=>?_
 refine au w λj f=>?_
 have l:(ev U 40).i Z1 (.many [3,4]) (.items (.var 1))=some [.tup [.str s,.int c]]:=k9 (v_var j)
 have x:(ev U 40).i (St.set (λi=>(([gP L,gP [(s,c)]]:List D)[i]?).map .val) 2 (.own (.dict [] []))) (.many [3,4]) (.items (.var 0))=some (L.map λp=>.tup [.str p.1,.int p.2]):=(k9 (v_var rfl)).trans (MY some yq)
 have fin:∃a,ck (ay (ex U N 11) [.iff (.cmp .In (.var 3) (.var 2)) [.iff (.fn .kB [ME.var 4]) [.stuck] [.eh 2 (.var 3) (.var 4)]] [.setItem 2 (.var 3) (.var 4)]]) (λZ d=>bB Z (.many [3,4]) d) [.tup [.str s,.int c]] Z1=some (.next,a)/\a 2=some (.own (gP (bump s c L))):=by
  have m:(ev U 40).t ((Z1.set 3 (.val (.str s))).set 4 (.val (.int c))) (.cmp .In (.var 3) (.var 2))=some ((L.map (·.1)).contains s):=aS (v_var rfl) (dU f) rfl
  by_cases hs:s∈L.map (·.1)
  .refine aP (Fp (c:=c) hs) λi v o y z=>?_
   refine⟨_,vJ rfl (ae (cQ m (λ_=>ae (cQ (p:=false) (DF rfl (aB rfl (cE rfl (aa (v_var rfl) aj) rfl)) rfl) nb λ_=>ae (yg f (ao rfl) (iz hn o) (by rw[Nz,y];rfl) (ao rfl) (by rw[MX];exact av.lu k rfl)) rfl) rfl) λh=>by simp[hs] at h) rfl),?_⟩
   .show some (_root_.av.Slot.own (.dict _ _))=some (.own (.dict _ _))
    rw[BB hn o,yo hs,z]
  .refine⟨_,vJ rfl (ae (cQ m (λh=>by simp[hs] at h) λ_=>ae (kl (ao rfl) (ao rfl) f (by rw[MX,show gS (D.int c)=true from rfl,Bool.true_and];exact Nq (by exact av.lu k rfl))) rfl) rfl),?_⟩
   .show some (_root_.av.Slot.own (.dict _ _))=some (.own (.dict _ _))
    rw[pV hs,se hs,Nu,Nu];rfl
 refine af fin λa A B=>?_
 exact dR (ae (oB rfl rfl) (ae (eJ rfl x u) (ae (eJ (pQ j) l A) (bA (eK (ao (by show(a 2).bind _=_;rw[B];rfl)))))))
theorem sh {L:List (Str×Int)}:rF U N b2 [gP L]=some (.int (L.map (·.2)).sum):=by
 refine af (iR (c:=λp:Str×Int=>D.int p.2) (b:=ay (ex U N 11) [.aug 1 .Add (.var 2)]) (Z0:=λZ d=>bB Z (.one 2) d) (xs:=L) (Z:=St.set (λi=>(([gP L]:List D)[i]?).map .val) 1 (.val (.int 0)))
  (λa Z=>Z 1=some (.val (.int (a.map (·.2)).sum))) (λa p k _ Z h=>⟨_,_,rfl,ae (oC rfl h (ao rfl) add_int) rfl,by rw[Nu,List.sum_append];show some (_root_.av.Slot.val (.int _))=some (.val (.int _));simp⟩) rfl) λZ1 f g=>?_
 exact dR (ae (bg rfl) (ae (eJ rfl (mq (v_var rfl)) f) (bA (eK (ao (by show(Z1 1).bind _=_;rw[g];rfl))))))
theorem yr {b c d e f g i:Int}{L:List (Str×Int)}{s:Str}{k:Int}{R:D}(h:U 1 [gP L,gP [(s,k)]]=some R):rF U N b3 [.tup [.int a,.int b,.int c,.int d,gP L],.tup [.int e,.int f,.int g,.int i,gP [(s,k)]]]=some (.tup [.int (e+a),.int (f+b),.int (g+c),.int (i+d),R]):=by
 refine dR (ae (iu (ao rfl) rfl) (ae (iu (ao rfl) rfl) (bA (eK (iq (by decide) ?_)))))
 exact aa (ar (v_var rfl) (v_var rfl) rfl) (aa (ar (v_var rfl) (v_var rfl) rfl) (aa (ar (v_var rfl) (v_var rfl) rfl) (aa (ar (v_var rfl) (v_var rfl) rfl) (aa (d3 (aa (ao rfl) (aa (ao rfl) aj)) h) aj))))
end
noncomputable def dJ (p:Nat):Str:=match dE.lookup (2^p) with
 |some n=>Str.ofString n
 |none=>gR (2^p)
noncomputable def isStr (s:Str):Option D->Bool
 |some (.str t)=>t==s
 |_=>false
theorem BC {s:Str}{o:Option D}(h:isStr s o=true):o=some (.str s):=by
 cases o with
 |none=>exact nb h
 |some d=>cases d with
  |str t=>exact MY (λt=>some (D.str t)) (NJ.mp h)
  |_=>exact nb h
theorem Fq:((List.range 32).all λp=>isStr (dJ p) (rF (λ_ _=>none) (λ_ _ _=>none) b0 [.int p])&&decide ((dJ p).length<=20))=true:=by decide+kernel
theorem uu:((List.range 32).map dJ).Nodup:=by decide+kernel
theorem mV (h:p<32):(dJ p).length<=20:=Nr (M9.mp (Nx.mp Fq p (Ng.mpr h))).2
theorem si (h:p<32):((List.range 32).map dJ).idxOf? (dJ p)=some p:=iz uu (by rw[Nz,List.getElem?_range h];rfl)
theorem BD (hp:p<32)(a:q<32)(h:dJ p=dJ q):p=q:=MW ((si hp).symm.trans ((MY (λs=>((List.range 32).map dJ).idxOf? s) h).trans (si a)))
theorem fL (a i:Nat):a&&& 2^i=if a.testBit i then 2^i else 0:=by
 refine Nat.eq_of_testBit_eq λj=>?_
 rw[Nat.testBit_and,Nat.testBit_two_pow]
 by_cases b:i=j
 .rw[<-b,Nq rfl,Bool.and_true]
  cases a.testBit i
  .exact(Nat.zero_testBit i).symm
  .exact Nat.testBit_two_pow_self.symm
 .rw[NQ b,Bool.and_false]
  cases a.testBit i
  .exact(Nat.zero_testBit j).symm
  .exact(Nat.testBit_two_pow.trans (NQ b)).symm
theorem uv {a i:Nat}(h:a.testBit i=true):a|||2^i=a:=by
 refine Nat.eq_of_testBit_eq λj=>?_
 rw[Nat.testBit_or,Nat.testBit_two_pow]
 by_cases hj:i=j
 .rw[<-hj,h];rfl
 .rw[NQ hj,Bool.or_false]
theorem not_not (x:Int):Builtin.bitNot (Builtin.bitNot x)=x:=by unfold Builtin.bitNot;rw[Int.neg_sub,Int.sub_neg,Int.add_comm,Int.add_sub_cancel]
theorem not_neg (k:Nat):¬0<=Builtin.bitNot (k:Int):=Int.not_le.mpr (Int.sub_one_lt_of_le (Int.neg_nonpos_of_nonneg (NG k)))
theorem Fs (a b:Nat):Builtin.bitAnd (a:Int) (b:Int)=((a&&& b:Nat):Int):=rfl
theorem and_left (a b:Nat):Builtin.bitAnd (Builtin.bitNot (a:Int)) (b:Int)=(b:Int) - ((b&&& a:Nat):Int):=by
 unfold Builtin.bitAnd
 rw[NQ (not_neg a),Nq (NG b)]
 show(b:Int) - ((b&&& (Builtin.bitNot (Builtin.bitNot (a:Int))).toNat:Nat):Int)=_
 rw[not_not];rfl
theorem and_right (a b:Nat):Builtin.bitAnd (a:Int) (Builtin.bitNot (b:Int))=(a:Int) - ((a&&& b:Nat):Int):=by
 unfold Builtin.bitAnd
 rw[NQ (not_neg b),Nq (NG a)]
 show(a:Int) - ((a&&& (Builtin.bitNot (Builtin.bitNot (b:Int))).toNat:Nat):Int)=_
 rw[not_not];rfl
theorem BE (a b:Nat):Builtin.bitOr (a:Int) (b:Int)=((a|||b:Nat):Int):=by
 unfold Builtin.bitOr Builtin.bitAnd
 rw[NQ (not_neg a),NQ (not_neg b)]
 show Builtin.bitNot (Builtin.bitNot (((Builtin.bitNot (Builtin.bitNot (a:Int))).toNat|||(Builtin.bitNot (Builtin.bitNot (b:Int))).toNat:Nat):Int))=_
 rw[not_not,not_not,not_not];rfl
section
variable {c:Int}{m i:Nat}
theorem BF (a:Nat)(b:m<2^32)(hi:i<32):(2^32*a+m).testBit i=m.testBit i:=by
 rw[Nat.testBit_two_pow_mul_add a b,M7 hi]
theorem BG (a m:Nat):(a:Int)*2^32+(m:Int)=((2^32*a+m:Nat):Int):=by rw[Nat.mul_comm];rfl
theorem parts (b:m<2^32)(hi:i<32):(∃k:Nat,c*2^32+(m:Int)=k/\k.testBit i=m.testBit i)\/(∃k:Nat,c*2^32+(m:Int)=Builtin.bitNot k/\k.testBit i= !m.testBit i):=by
 by_cases h:0<=c
 .exact ak (Int.eq_ofNat_of_zero_le h) λa e=>.inl ⟨2^32*a+m,by rw[e];exact BG a m,BF a b hi⟩
 .refine ak (Int.eq_ofNat_of_zero_le (a:= -c - 1) (Int.le_sub_one_of_lt (Int.neg_pos_of_neg (Int.not_le.mp h)))) λa e=>.inr ⟨2^32*a+(2^32 - (m+1)),?_,?_⟩
  .rw[<-BG, <-e,Int.ofNat_sub b]
   unfold Builtin.bitNot;lia
  .rw[BF _ (Nat.sub_lt (by decide) (Oh m)) hi,Nat.testBit_two_pow_sub_succ b,Nq hi];rfl
theorem vO (b:m<2^32)(hi:i<32):Builtin.bitAnd (c*2^32+(m:Int)) ((2^i:Nat):Int)=((if m.testBit i then 2^i else 0:Nat):Int):=by
 refine(parts (c:=c) b hi).elim (λh=>af h λk e a=>?_) λh=>af h λk e a=>?_
 .rw[e,Fs,fL,a]
 .rw[e,and_left,Nat.and_comm,fL,a]
  cases m.testBit i
  .exact Int.sub_self _
  .exact Int.sub_zero _
theorem Ft (b:m<2^32)(hi:i<32)(hb:m.testBit i=true):Builtin.bitXor (c*2^32+(m:Int)) ((2^i:Nat):Int)=c*2^32+(m:Int) - ((2^i:Nat):Int):=by
 have d:Builtin.bitOr (c*2^32+(m:Int)) ((2^i:Nat):Int)=c*2^32+(m:Int):=by
  refine(parts (c:=c) b hi).elim (λh=>af h λk e a=>?_) λh=>af h λk e a=>?_
  .rw[e,BE,uv (a.trans hb)]
  .rw[e]
   unfold Builtin.bitOr
   rw[not_not,and_right,fL,a,hb]
   exact MY Builtin.bitNot (Int.sub_zero _)
 unfold Builtin.bitXor
 rw[d,vO b hi,hb];rfl
end
noncomputable def sB (q:Nat->Bool):Nat->Nat
 |0=>0
 |n+1=>2^n*(q n).toNat+sB q n
theorem BH (q:Nat->Bool)(n:Nat):sB q n<2^n:=by
 induction n with
 |zero=>exact Nat.one_pos
 |succ n h=>
  refine OV (Nat.add_lt_add_of_le_of_lt (b:=2^n) ?_ h) (Nat.mul_two _).symm
  cases q n
  .exact Ou _
  .exact NR (Nat.mul_one _)
theorem uw (q:Nat->Bool){n i:Nat}(h:i<n):(sB q n).testBit i=q i:=by
 induction n with
 |zero=>exact absurd h (OL _)
 |succ n a=>
  refine(Nat.testBit_two_pow_mul_add _ (BH q n) ..).trans ?_
  by_cases hi:i<n
  .rw[M7 hi,a hi]
  .rw[M8 hi,OS (N0 h) (NU hi),Nat.sub_self]
   cases q n<;>rfl
theorem Fu {L:List Nat}{p n:Nat}(hp:p∉L):sB (λi=>decide (i∈p::L)) n=(if p<n then 2^p else 0)+sB (λi=>decide (i∈L)) n:=by
 induction n with
 |zero=>rfl
 |succ n b=>
  show 2^n*(decide (n∈p::L)).toNat+sB (λi=>decide (i∈p::L)) n=_+(2^n*(decide (n∈L)).toNat+sB (λi=>decide (i∈L)) n)
  rw[b]
  by_cases h:n=p
  .rw[h,Nq (Nf ..),NQ hp,M8 (Oa _),M7 (N7 _)]
   exact congr (MY HAdd.hAdd (Nat.mul_one _)) rfl
  .have e:decide (n∈p::L)=decide (n∈L):=Oj.mpr (by rw[Nd,Nd,Np];exact⟨λq=>q.resolve_left h,.inr⟩)
   rw[e,Nat.add_left_comm]
   by_cases a:p<n
   .rw[M7 a,M7 (OF a)]
   .rw[M8 a,M8 λq=>a (Nat.lt_of_le_of_ne (N0 q) (Ox h))]
theorem BI {n:Nat}{L:List Nat}(hn:L.Nodup)(h:∀p∈L,p<n):(L.map (2^ ·)).sum=sB (λi=>decide (i∈L)) n:=by
 induction L with
 |nil=>
  clear h
  induction n with
  |zero=>rfl
  |succ n a=>exact a.trans (Nat.zero_add _).symm
 |cons p L a=>
  rw[Fu (NA.mp hn).1,M7 (h p (Nf ..)),Ob,List.sum_cons,a (NA.mp hn).2 λq b=>h q (Nj _ b)]
noncomputable def pW (m:Nat):List Nat:=(List.range 32).filter m.testBit
noncomputable def words (c:Int)(m:Nat):List Str:=(pW m).map dJ++if c=0/\m≠0 then[] else[gR (c*2^32)]
noncomputable def wl (m i:Nat):List D:=((List.range i).filter m.testBit).map λp=>.str (dJ p)
noncomputable def pX (c:Int)(m i:Nat):Int:=c*2^32+((2^i*(m/2^i):Nat):Int)
noncomputable def tw (i:Nat):Int:=((2^i:Nat):Int)
section
variable {U:UT}{N:NT}{n:Nat}{Z:St}{c:Int}{m i:Nat}
noncomputable abbrev HC:List MS:=[
  .iff (.bin .BitAnd (.var 0) (.var 3)) [
   .append 1 (.fn .cU [ME.var 3,ME.fn .hex [ME.var 3]]),
   .aug 0 .BitXor (.var 3),
   .iff (.not (.var 0)) [
    .brk] []] []]
noncomputable abbrev KS:List MS:=.asg 3 (.bin .LShift (.int 1) (.var 2))::HC
theorem Fv:fN U .cU [.int (tw i),.str (gR (tw i))]=some (.str (dJ i)):=by
 rw[show tw i=2^i from Int.natCast_pow 2 i]
 show some (match dE.lookup (2^i) with
  |some n=>D.str (Str.ofString n)
  |none=>.str (gR (2^i)))=_
 unfold dJ
 cases dE.lookup (2^i)<;>rfl
theorem BJ {k:Int}(h:k.natAbs<2^60):fN U .hex [.int k]=some (.str (gR k)):=M7 h
theorem half:2^i*(m/2^i)=2^(i+1)*(m/2^(i+1))+(if m.testBit i then 2^i else 0):=by
 rw[O0,Nat.pow_succ, <-Nat.div_div_eq_div_mul,Nat.mul_assoc]
 have h:=(Nat.div_add_mod (m/2^i) 2).symm
 by_cases a:m/2^i%2=1
 .rw[Nq a];exact MY (2^i* ·) (h.trans (MY (2*(m/2^i/2)+ ·) a))
 .rw[NQ a];exact MY (2^i* ·) (h.trans (MY (2*(m/2^i/2)+ ·) ((Nat.mod_two_eq_zero_or_one _).resolve_right a)))
theorem sk:(2^i*(m/2^i)).testBit i=m.testBit i:=by
 rw[O0,O0,Nat.mul_div_cancel_left _ (Nat.two_pow_pos i)]
theorem half_lt (a:m<2^32):2^i*(m/2^i)<2^32:=M5 (Nat.mul_div_le ..) a
theorem Fw (a:m<2^32)(hi:i<32):(Builtin.bitAnd (pX c m i) (tw i) !=0)=m.testBit i:=by
 unfold pX tw
 rw[vO (half_lt a) hi,sk]
 cases m.testBit i
 .rfl
 .exact bne_iff_ne.mpr (Int.ofNat_ne_zero.mpr (N4 (Nat.two_pow_pos i)))
theorem IU (a:m<2^32)(hi:i<32)(hb:m.testBit i=true):Builtin.bitXor (pX c m i) (tw i)=pX c m (i+1):=by
 unfold pX tw
 rw[Ft (half_lt a) hi (sk.trans hb),half,hb,M7 rfl,Int.natCast_add, <-Int.add_assoc,Int.add_sub_cancel]
theorem vP (hb:m.testBit i=false):pX c m i=pX c m (i+1):=by
 unfold pX
 rw[half,hb];rfl
theorem jJ (b:m<2^32):pX c m i=0↔c=0/\m/2^i=0:=by
 have d:=half_lt (i:=i) b
 unfold pX
 refine⟨λh=>?_,λh=>by rw[h.1,h.2,Nat.mul_zero];rfl⟩
 have a:c=0:=by
  generalize 2^i*(m/2^i)=v at h d
  lia
 rw[a,Int.zero_mul,Int.zero_add] at h
 exact⟨a,(Nat.mul_eq_zero.mp (O5 h)).resolve_left (N4 (Nat.two_pow_pos i))⟩
theorem pY:wl m (i+1)=wl m i++if m.testBit i then[.str (dJ i)] else[]:=by
 unfold wl
 rw[List.range_succ,List.filter_append,Nu,Om]
 cases m.testBit i<;>rfl
theorem BK (hi:i<=32):(wl m i).length<2^20:=by
 unfold wl
 rw[MX]
 exact lv (M4 (Nv ..) (M4 (NR Nk) hi)) rfl
theorem IV {k:Nat}(h:m<2^i):wl m (i+k)=wl m i:=by
 induction k with
 |zero=>rfl
 |succ k a=>exact(pY (i:=i+k)).trans (by rw[Nat.testBit_lt_two_pow (NF h (Nat.pow_le_pow_right (by decide) (NM i k))),a];exact NP _)
inductive BL (c:Int)(m i:Nat)(Z:St):Fl->Prop
 |next (h:Z 0=some (.val (.int (pX c m (i+1)))))(hn:m.testBit i=true->pX c m (i+1)≠0):BL c m i Z .next
 |brk (hb:m.testBit i=true)(h:pX c m (i+1)=0):BL c m i Z .brk
theorem yt (j:m<2^32)(hi:i<32)(h0:Z 0=some (.val (.int (pX c m i))))(k:Z 1=some (.own (.list (wl m i))))(b:Z 3=some (.val (.int (tw i)))):
  ∃f Z',ay (ex U N (n+3)) HC Z=some (f,Z')/\Z' 1=some (.own (.list (wl m (i+1))))/\BL c m i Z' f:=by
 have e:(ev U 40).t Z (.bin .BitAnd (.var 0) (.var 3))=some (m.testBit i):=DF rfl (aB rfl (ar (v_var h0) (v_var b) rfl)) (MY some (Fw j hi))
 by_cases hb:m.testBit i=true
 .have g:=fq (N:=N) (n:=n+1) (rQ rfl (aa (ao b) (aa (cE rfl (aa (v_var b) aj) (BJ (NF (Nat.pow_lt_pow_right (by decide) hi) (by decide)))) aj)) (Fv (U:=U))) k (BK (ND hi))
  rw[show wl m i++[.str (dJ i)]=wl m (i+1) from(pY.trans (by rw[hb];rfl)).symm] at g
  have l:=oC (U:=U) (N:=N) (n:=n+1) (Z:=Z.set 1 (.own (.list (wl m (i+1))))) (i:=0) (op:=.BitXor) rfl h0 (ao (i:=3) b) (MY (λx=>some (D.int x)) (IU j hi hb))
  by_cases d:pX c m (i+1)=0
  .exact⟨.brk,_,lp (cQ e (λ_=>ae g (ae l (lp (cQ (p:=true) (qR (DF (x:=.int (pX c m (i+1))) rfl (v_var rfl) (MY some (bne_eq_false_iff_eq.mpr d)))) (λ_=>rfl) λh=>nb h.symm)))) λh=>nb (h.symm.trans hb)),rfl,.brk hb d⟩
  .exact⟨.next,_,ae (cQ e (λ_=>ae g (ae l (ae (cQ (p:=false) (qR (DF (x:=.int (pX c m (i+1))) rfl (v_var rfl) (MY some (bne_iff_ne.mpr d)))) nb λ_=>rfl) rfl))) λh=>nb (h.symm.trans hb)) rfl,rfl,.next rfl λ_=>d⟩
 .have a:=eq_false_of_ne_true hb
  exact⟨.next,Z,ae (cQ e (λh=>absurd h hb) λ_=>rfl) rfl,k.trans (by rw[pY,a];exact MY (λx=>some (_root_.av.Slot.own (.list x))) (NP _).symm),.next (by rw[<-vP a];exact h0) λh=>absurd h hb⟩
theorem Fx (hi:i<32):D.bin .LShift (.int 1) (.int (i:Int))=some (.int (tw i)):=by
 refine(M7 (show 0<=(i:Int)/\(i:Int)<=64/\(1:Int).natAbs<2^64 from⟨NG _,Ot.mpr (lw (ND hi) rfl),by decide⟩)).trans ?_
 exact MY (λx=>some (D.int x)) ((Int.one_mul _).trans (Int.natCast_pow 2 i).symm)
theorem so (a:m<2^32):∀{k i:Nat}{Z:St},i+k=32->Z 0=some (.val (.int (pX c m i)))->Z 1=some (.own (.list (wl m i)))->(c≠0\/m=0\/m/2^i≠0)->
  ∃f Z',ck (ay (ex U N (n+3)) KS) (λZ d=>bB Z (.one 2) d) ((List.range' i k).map λ(k:Nat)=>D.int (k:Int)) Z=some (f,Z')/\Z' 1=some (.own (.list (wl m 32)))/\
   ((f=.next/\(c≠0\/m=0)/\Z' 0=some (.val (.int (c*2^32))))\/(f=.brk/\c=0/\m≠0)):=by
 intro k
 induction k with
 |zero=>
  intro i Z b h0 o h
  have b:i=32:=b
  have e:m/2^32=0:=Nat.div_eq_of_lt a
  rw[b] at h0 o h
  exact⟨.next,Z,rfl,o,.inl ⟨rfl,h.elim .inl λh=>h.elim .inr λh=>absurd e h,h0.trans (by unfold pX;rw[e];exact MY (λx=>some (_root_.av.Slot.val (.int x))) (Int.add_zero _))⟩⟩
 |succ k t=>
  intro i Z b h0 o h
  have hi:i<32:=b▸Nat.lt_add_of_pos_right (Oh k)
  have g:i+1+k=32:=(Nat.succ_add i k).trans b
  refine aP (yt (U:=U) (N:=N) (n:=n) (Z:=(Z.set 2 (.val (.int (i:Int)))).set 3 (.val (.int (tw i)))) a hi h0 o rfl) λf Z' e j r=>?_
  have e:=ae (bg (U:=U) (N:=N) (n:=n+2) (i:=3) (e:=ME.bin .LShift (.int 1) (.var 2)) (Z:=Z.set 2 (.val (.int (i:Int)))) (ar (aB rfl rfl) (v_var (i:=2) rfl) (Fx hi))) e
  cases r with
  |next p q=>
   refine aW (t g p j ?_) λu s v w=>⟨u,s,mR rfl e v,w⟩
   by_cases l:c=0
   .refine .inr (h.elim (absurd l) λh=>h.elim .inl λh=>.inr λz=>?_)
    by_cases hb:m.testBit i=true
    .exact q hb ((jJ a).mpr ⟨l,z⟩)
    .exact h ((jJ (c:=0) a).mp ((vP (eq_false_of_ne_true hb)).trans ((jJ a).mpr ⟨rfl,z⟩))).2
   .exact .inl l
  |brk hb y=>
   refine au ((jJ a).mp y) λl z=>⟨.brk,Z',vK rfl e,j.trans (by rw[<-g,IV (i:=i+1) ((Nat.div_eq_zero_iff.mp z).resolve_left (N4 (Nat.two_pow_pos _)))]),.inr ⟨rfl,l,λh0=>?_⟩⟩
   rw[h0,Nat.zero_testBit] at hb
   exact nb hb
theorem strs_map {l:List Str}:D.strs (l.map .str)=some l:=by
 induction l with
 |nil=>rfl
 |cons x l a=>
  show(D.strs (l.map .str)).map (x:: ·)=_
  rw[a];rfl
theorem IW {l:List Str}(h:∀s∈l,s.length<=20):(l.map (·.length)).sum<=20*l.length:=by
 induction l with
 |nil=>exact NB _
 |cons x l a=>
  rw[Ob,List.sum_cons,O3]
  exact NY (a λs hs=>h s (Nj _ hs)) (h x (Nf ..))
theorem jw {s:Str}{l:List Str}(h:∀s∈l,s.length<=20)(a:l.length<100)(hs:s.length<100):fN U .join [.str s,.list (l.map .str)]=some (.str (PySem.Txt.join s l)):=by
 show(D.strs (l.map .str)).bind _=_
 rw[strs_map]
 exact M7 (lw (NY (M4 (IW h) (N8 20 (ND a))) (Nat.mul_le_mul (ND a) (ND hs))) rfl)
theorem vQ {P:Int->Prop}(b: -3<c/\c<4)(h:∀a:Nat,a<6->P ((a:Int) - 2)):P c:=
 ak (Int.eq_ofNat_of_zero_le (a:=c+2) (Int.add_le_add_right (show -3+1<=c from b.1) 2)) λa e=>by
  rw[show c=(a:Int) - 2 from(Int.add_sub_cancel c 2).symm.trans (MY (· - 2) e)]
  exact h a (N5.mp (e▸Int.add_lt_add_right b.2 2))
theorem hex_len (a: -3<c/\c<4):(gR (c*2^32)).length<=20:=vQ (P:=λc=>(gR (c*2^32)).length<=20) a (by decide+kernel)
theorem yu (b: -3<c/\c<4):(∀s∈words c m,s.length<=20)/\(words c m).length<100:=by
 have a:(pW m).length<=32:=M4 (Nv ..) (NR Nk)
 unfold words
 by_cases h:c=0/\m≠0
 .rw[M7 h,NP,MX]
  exact⟨λs hs=>af (Nn.mp hs) λp hp e=>e▸mV (Ng.mp (Nt.mp hp).1),lv a rfl⟩
 .rw[M8 h,Ni,MX]
  exact⟨λs hs=>(NK.mp hs).elim (λhs=>af (Nn.mp hs) λp hp e=>e▸mV (Ng.mp (Nt.mp hp).1)) λhs=>Nh.mp hs▸hex_len b,lv (Nat.add_le_add_right a 1) rfl⟩
theorem pretty (t:m<2^32)(p: -3<c/\c<4):rF U N b4 [.int (c*2^32+(m:Int))]=some (.str (PySem.Txt.join ", " (words c m))):=by
 have hr:D.range [.int 32]=some ((List.range' 0 32).map λ(k:Nat)=>D.int (k:Int)):=range_one (n:=32) (by decide)
 refine aP (so (U:=U) (N:=N) (n:=8) (c:=c) t (k:=32) (i:=0) (Z:=St.set (λi=>(([.int (c*2^32+(m:Int))]:List D)[i]?).map .val) 1 (.own (.list []))) rfl (MY (λx:Nat=>some (_root_.av.Slot.val (.int (c*2^32+(x:Int))))) ((Nat.one_mul _).trans (Nat.div_one m)).symm) rfl (.inr ?_)) λf u e r b=>?_
 .by_cases h:m=0
  .exact .inl h
  .exact .inr (by rwa [Nat.pow_zero,Nat.div_one])
 have s:=yu (m:=m) p
 have fin:∀{a:St} {l:List D},a 1=some (.own (.list l))->(words c m).map .str=l->ay (ex U N 12) [.ret (.fn .join [ME.str (Str.ofString ", "),ME.var 1])] a=some (.ret (.str (PySem.Txt.join ", " (words c m))),a):=λh e=>bA (eK (cE rfl (aa (aB rfl rfl) (aa (v_var (by unfold St.free;rw[h, <-e];rfl)) aj)) (jw s.1 s.2 (by decide))))
 unfold words at fin |-
 refine b.elim (λb=>eU b λd g h0=>?_) λb=>eU b λd j o=>?_
 .rw[M8 (λh=>g.elim (λq=>q h.1) h.2)] at fin |-
  rw[d] at e
  exact dR (ae (oB rfl rfl) (ae (IL rfl (aI (aa rfl aj) hr) e (ae (fq (cE rfl (aa (v_var h0) aj) (BJ (vQ (P:=λc=>(c*2^32).natAbs<2^60) p (by decide)))) r (BK (NB _))) rfl)) (fin rfl (by rw[Nu,NO];rfl))))
 .rw[M7 ⟨j,o⟩,NP] at fin |-
  rw[d] at e
  exact dR (ae (oB rfl rfl) (ae (Br rfl (aI (aa rfl aj) hr) e) (fin r (by rw[NO];rfl))))
end
noncomputable def dd (l:List Nat):List Nat:=l.foldl (λacc b=>if b∈acc then acc else acc++[b]) []
theorem lq (l:List Nat)(b:Nat):dd (l++[b])=if b∈dd l then dd l else dd l++[b]:=by
 unfold dd;rw[List.foldl_append];rfl
theorem pZ {c:Type}{P:List c->Prop}(h0:P [])(h:∀l b,P l->P (l++[b]))(l:List c):P l:=by
 rw[<-List.reverse_reverse l]
 induction l.reverse with
 |nil=>exact h0
 |cons a t d=>rw[List.reverse_cons];exact h _ _ d
theorem ky {b:Nat}(l:List Nat):b∈dd l↔b∈l:=by
 induction l using pZ with
 |h0=>exact Iff.rfl
 |h l c a=>
  rw[lq,NK,Nh]
  by_cases h:c∈dd l
  .rw[M7 h];exact⟨λq=>.inl (a.mp q),λq=>q.elim a.mpr λe=>e▸h⟩
  .rw[M8 h,NK,Nh,a]
theorem mW (l:List Nat):(dd l).Nodup:=by
 induction l using pZ with
 |h0=>exact N6
 |h l c d=>
  rw[lq]
  by_cases h:c∈dd l
  .rw[M7 h];exact d
  .rw[M8 h];exact Oz.mpr ⟨d,NA.mpr ⟨Nl,N6⟩,λa f b hb e=>h (Nh.mp hb▸e▸f)⟩
theorem IY (l:List Nat):(dd l).length<=l.length:=by
 induction l using pZ with
 |h0=>exact NB _
 |h l c a=>
  rw[lq,Ni]
  by_cases h:c∈dd l
  .rw[M7 h];exact Oy a
  .rw[M8 h,Ni];exact Nat.add_le_add_right a _
def gz (nm:Nat->Str):Prop:= ∀i j,i<6->j<6->nm i=nm j->i=j
noncomputable def cnt (nm:Nat->Str)(l:List Nat):List (Str×Int):=(dd l).map λb=>(nm b,(l.count b:Int))
section
variable {nm:Nat->Str}
def vR (U:UT):Prop:= ∀(L:List (Str×Int)) (s:Str),(L.map (·.1)).Nodup->L.length<1000->U 1 [gP L,gP [(s,1)]]=some (gP (bump s 1 L))
theorem BM (c:gz nm){b:Nat}(hb:b<6){f:Nat->Int}{ds:List Nat}(hn:ds.Nodup)(e:∀x∈ds,x<6)(g:b∈ds):bump (nm b) 1 (ds.map λx=>(nm x,f x))=ds.map λx=>(nm x,if x=b then f x+1 else f x):=by
 induction ds with
 |nil=>exact absurd g Nl
 |cons d ds h=>
  refine au (NA.mp hn) λn1 i=>?_
  rw[Ob,Ob,eY]
  by_cases a:d=b
  .rw[M7 (MY nm a),M7 a]
   exact MY ((nm d,f d+1):: ·) (N2 λx hx=>by rw[M8 (show¬x=b from λq=>n1 ((q.trans a.symm)▸hx))])
  .rw[M8 λq=>a (c _ _ (e d (Nf ..)) hb q),M8 a,h i (λx hx=>e x (Nj _ hx)) ((Np.mp g).resolve_left (Ox a))]
theorem jK {l:List Nat}:(cnt nm l).map (·.1)=(dd l).map nm:=by unfold cnt;rw[NO];rfl
theorem jL (a:gz nm){l:List Nat}(b:∀x∈l,x<6)(hn:l.Nodup):(l.map nm).Nodup:=
 List.pairwise_map.mpr (List.Pairwise.imp_of_mem (λc hb h q=>h (a _ _ (b _ c) (b _ hb) q)) hn)
theorem yv (a:gz nm){l:List Nat}(b:∀x∈l,x<6):((cnt nm l).map (·.1)).Nodup:=by
 rw[jK]
 exact jL a (λx hx=>b x ((ky l).mp hx)) (mW l)
theorem jk {l:List Nat}{b x:Nat}:(((l++[b]).count x:Nat):Int)=if x=b then(l.count x:Int)+1 else(l.count x:Int):=by
 rw[List.count_append,List.count_singleton]
 by_cases h:x=b
 .rw[M7 h,M7 (NJ.mpr h.symm)];rfl
 .rw[M8 h,M8 λq=>h (NJ.mp q).symm];rfl
theorem BN (a:gz nm){l:List Nat}{b:Nat}(c:∀x∈l,x<6)(hb:b<6):cnt nm (l++[b])=bump (nm b) 1 (cnt nm l):=by
 have c:=λx hx=>c x ((ky l).mp hx)
 unfold cnt
 rw[lq]
 by_cases h:b∈dd l
 .rw[M7 h,BM a hb (mW l) c h]
  exact N2 λx _=>by rw[jk]
 .rw[M8 h,se (by
   rw[NO]
   exact λd=>af (Nn.mp d) λx hx e=>h (a _ _ (c x hx) hb e▸hx)),Nu]
  refine congr (MY HAppend.hAppend (N2 λx hx=>by rw[jk,M8 (show¬x=b from λq=>h (q▸hx))])) ?_
  rw[Ob,jk,M7 rfl,List.count_eq_zero.mpr λq=>h ((ky l).mpr q)];rfl
noncomputable def into (A:List (Nat×Nat))(t:Nat):List Nat:=(A.filter (·.2==t)).map (·.1)
theorem yw (A:List (Nat×Nat))(b t s:Nat):into (A++[(b,t)]) s=if s=t then into A s++[b] else into A s:=by
 unfold into
 rw[List.filter_append,Nu,Om]
 by_cases h:s=t
 .rw[M7 h,M7 (NJ.mpr h.symm)];rfl
 .rw[M8 h,M8 λq=>h (NJ.mp q).symm];exact NP _
theorem iA {A:List (Nat×Nat)}{b t:Nat}:b∈into A t↔(b,t)∈A:=
 ⟨λh=>af (Nn.mp h) λp hp e=>au (Nt.mp hp) λa c=>(Prod.ext e (NJ.mp c):p=(b,t))▸a,λh=>Nn.mpr ⟨(b,t),Nt.mpr ⟨h,O8 t⟩,rfl⟩⟩
theorem BO (A:List (Nat×Nat))(t:Nat):(into A t).length<=A.length:=by
 unfold into;rw[MX];exact Nv ..
noncomputable def gA (nm:Nat->Str)(A:List (Nat×Nat)):D:=.dict ((List.range 6).map nm) ((List.range 6).map λt=>gP (cnt nm (into A t)))
def iB (A:List (Nat×Nat)):Prop:=(∀p∈A,p.1<6/\p.2<6)/\A.length<900
theorem vS {A:List (Nat×Nat)}(h:iB A){t b:Nat}(hb:b∈into A t):b<6:=(h.1 _ (iA.mp hb)).1
theorem names_nodup (a:gz nm):((List.range 6).map nm).Nodup:=jL a (λ_ h=>Ng.mp h) Pb
theorem aM {a:Type}{f:Nat->a}{t:Nat}(h:t<6):((List.range 6).map f)[t]?=some (f t):=by
 rw[Nz,List.getElem?_range h];rfl
theorem iT {a:Type}{f:Nat->a}{t:Nat}{v:a}:((List.range 6).map f).set t v=(List.range 6).map λs=>if s=t then v else f s:=by
 refine List.ext_getElem? λi=>?_
 rw[List.getElem?_set,Nz,Nz,MX,Nk]
 by_cases hi:i<6
 .rw[List.getElem?_range hi]
  by_cases h:t=i
  .rw[M7 h,M7 (h.symm▸hi)];exact MY some (M7 h.symm).symm
  .rw[M8 h];exact MY some (M8 (Ox h)).symm
 .rw[Od (by rw[Nk];exact NU hi)]
  by_cases h:t=i
  .rw[M7 h,M8 (h.symm▸hi)];rfl
  .rw[M8 h];rfl
theorem sq {L:List (Str×Int)}:gS (gP L)=true:=by
 show ej (L.map λp=>D.int p.2)=true
 induction L with
 |nil=>rfl
 |cons p L a=>exact a
section
variable {U:UT}{N:NT}{n:Nat}{Z:St}{A:List (Nat×Nat)}
noncomputable def jX (nm:Nat->Str):D:=.list ((List.range 6).map λi=>D.str (nm i))
theorem gB {i:Nat}(h:i<6):D.index (jX nm) (.int (i:Int))=some (.str (nm i)):=bC (aM h) (by exact av.lu h rfl)
theorem vT (a:gz nm){t:Nat}(h:t<6):D.index (gA nm A) (.str (nm t))=some (gP (cnt nm (into A t))):=by
 show(((List.range 6).map nm).idxOf? (nm t)).bind (λj=>((List.range 6).map λt=>gP (cnt nm (into A t)))[j]?)=_
 rw[iz (names_nodup a) (aM h)]
 exact aM h
theorem BP (i:vR U)(a:gz nm)(c:iB A){b t:Nat}(hb:b<6)(ht:t<6)(j:Z 1=some (.val (jX nm)))(e:Z 3=some (.own (gA nm A)))(f:Z 4=some (.val (.str (nm t))))(k:Z 6=some (.val (.int (b:Int)))):
  ex U N (n+1) (.setItem 3 (.var 4) (.fn (.user 1) [ME.idx (.var 3) (.var 4),ME.dict [((.idx (.var 1) (.var 6)),ME.int 1)]])) Z=some (.next,Z.set 3 (.own (gA nm (A++[(b,t)])))):=by
 have g:∀x∈into A t,x<6:=λx hx=>vS c hx
 have hlen:(cnt nm (into A t)).length<1000:=by
  unfold cnt;rw[MX]
  exact M5 (M4 (IY _) (BO A t)) (lu c.2 rfl)
 refine(kl (d:=gP (bump (nm b) 1 (cnt nm (into A t)))) (d3 (aa (aK (dU e) (ao f) (vT a ht)) (aa (pP (aK (v_var j) (ao k) (gB hb)) rfl) aj)) (i _ _ (yv a g) hlen)) (ao f) e (by rw[sq];rfl)).trans ?_
 refine MY (λd=>some (Fl.next,Z.set 3 (.own d))) ?_
 rw[BB (names_nodup a) (aM ht),iT]
 refine MY (D.dict _) (N2 λs _=>?_)
 rw[yw]
 by_cases h:s=t
 .rw[M7 h,M7 h,h,BN a g hb]
 .rw[M8 h,M8 h]
noncomputable def numOf (u:Nat)(r:Nat×Nat×Nat):List Nat:=[u*r.1,u*r.2.1,u*r.2.2]
noncomputable def mX (r:Nat×Nat×Nat):List (Nat×Nat):=(List.range r.2.1).map λj=>(r.1+j,r.2.2)
noncomputable def bT (R:List (Nat×Nat×Nat)):List (Nat×Nat):=R.flatMap mX
structure gC (R:List (Nat×Nat×Nat)):Prop where
 row:∀r∈R,r.1+r.2.1<=6/\r.2.2<6
 len:R.length<=9
theorem Fy {r:Nat×Nat×Nat}:(mX r).length=r.2.1:=(MX ..).trans Nk
theorem jM {R:List (Nat×Nat×Nat)}(h:∀r∈R,r.1+r.2.1<=6/\r.2.2<6):(bT R).length<=6*R.length:=by
 induction R with
 |nil=>exact NB _
 |cons r R a=>
  show(mX r++bT R).length<=_
  rw[Ni,Fy,O3]
  exact NY (a λx hx=>h x (Nj _ hx)) (M4 (Og _ _) (h r (Nf ..)).1)
theorem p0 {R:List (Nat×Nat×Nat)}(h:∀r∈R,r.1+r.2.1<=6/\r.2.2<6):∀p∈bT R,p.1<6/\p.2<6:=λp hp=>
 af (List.mem_flatMap.mp hp) λr hr a=>af (Nn.mp a) λj b e=>e▸⟨NF (O6 (Ng.mp b) _) (h r hr).1,(h r hr).2⟩
theorem FC {R:List (Nat×Nat×Nat)}(h:gC R):iB (bT R):=⟨p0 h.row,lv (M4 (jM h.row) (N8 6 h.len)) rfl⟩
theorem IZ {R:List (Nat×Nat×Nat)}{r:Nat×Nat×Nat}:∀{k:Nat},R[k]?=some r->(R.flatMap (numOf u))[3*k]?=some (u*r.1)/\(R.flatMap (numOf u))[3*k+1]?=some (u*r.2.1)/\(R.flatMap (numOf u))[3*k+2]?=some (u*r.2.2):=by
 induction R with
 |nil=>exact λh=>ns h
 |cons b R a=>
  intro k h
  cases k with
  |zero=>exact MW h▸⟨rfl,rfl,rfl⟩
  |succ k=>exact a (k:=k) h
theorem vU {R:List (Nat×Nat×Nat)}:(R.flatMap (numOf u)).length=3*R.length:=by
 induction R with
 |nil=>rfl
 |cons r R a=>rw[OG,Ni,a];exact O3 3 _
theorem f9 {u a:Nat}(b:0<u)(hb:u<2^30):D.bin .FloorDiv (.int ((u*a:Nat):Int)) (.int (u:Int))=some (.int (a:Int)):=by
 rw[pS (Int.ofNat_ne_zero.mpr (N4 b)) (by exact hb),Int.fdiv_eq_ediv_of_nonneg _ (NG u), <-Int.natCast_ediv,Nat.mul_div_cancel_left _ b]
structure AI (nm:Nat->Str)(R:List (Nat×Nat×Nat))(u:Nat)(A:List (Nat×Nat))(Z:St):Prop where
 v0:Z 0=some (.val (nl (R.flatMap (numOf u))))
 v1:Z 1=some (.val (jX nm))
 v2:Z 2=some (.val (.int (u:Int)))
 v3:Z 3=some (.own (gA nm A))
noncomputable abbrev I0:List MS:=[.setItem 3 (.var 4) (.fn (.user 1) [ME.idx (.var 3) (.var 4),ME.dict [((.idx (.var 1) (.var 6)),ME.int 1)]])]
noncomputable abbrev HD:List MS:=[
  .asg 4 (.idx (.var 1) (.bin .FloorDiv (.idx (.var 0) (.bin .Add (.var 5) (.int 2))) (.var 2))),
  .cW (.one 6) (.range [ME.bin .FloorDiv (.idx (.var 0) (.var 5)) (.var 2),ME.bin .FloorDiv (.bin .Add (.idx (.var 0) (.var 5)) (.idx (.var 0) (.bin .Add (.var 5) (.int 1)))) (.var 2)]) I0 []]
variable {R:List (Nat×Nat×Nat)}{u k:Nat}{r:Nat×Nat×Nat}
theorem BQ (o:vR U)(i:gz nm)(q:∀p∈A,p.1<6/\p.2<6)(t:A.length<=54)(v:r.1+r.2.1<=6)(m:r.2.2<6)(g:AI nm R u A Z)(h:Z 4=some (.val (.str (nm r.2.2)))):
  ∃a,ck (ay (ex U N (n+1)) I0) (λZ d=>bB Z (.one 6) d) ((List.range r.2.1).map λ(j:Nat)=>D.int ((r.1+j:Nat):Int)) Z=some (.next,a)/\AI nm R u (A++mX r) a:=by
 refine af (cL (c:=λ(j:Nat)=>D.int ((r.1+j:Nat):Int)) (b:=ay (ex U N (n+1)) I0) (Z0:=λZ d=>bB Z (.one 6) d) (n:=r.2.1) (Z:=Z) (λj Z=>AI nm R u (A++(List.range j).map λj=>(r.1+j,r.2.2)) Z/\Z 4=some (.val (.str (nm r.2.2)))) (λj x Z g=>?_) ⟨⟨g.v0,g.v1,g.v2,by rw[show(List.range 0).map (λj=>(r.1+j,r.2.2))=[] from rfl,NP];exact g.v3⟩,h⟩) λa e g=>⟨a,e,g.1⟩
 refine au g λg h=>?_
 have f:r.1+j<6:=NF (O6 x _) v
 have s:=BP (U:=U) (N:=N) (n:=n) (Z:=Z.set 6 (.val (.int ((r.1+j:Nat):Int)))) (A:=A++(List.range j).map λj=>(r.1+j,r.2.2)) (b:=r.1+j) o i ⟨λp hp=>(NK.mp hp).elim (q p) λhp=>af (Nn.mp hp) λy l (e:(r.1+y,r.2.2)=p)=>e▸⟨NW (O6 (Ng.mp l) _) f,m⟩,by rw[Ni,MX,Nk];exact lu (Nat.add_lt_add_of_le_of_lt t (M5 (Og j r.1) f)) rfl⟩ f m g.v1 g.v3 h rfl
 rw[NS,show(List.range j).map (λj=>(r.1+j,r.2.2))++[(r.1+j,r.2.2)]=(List.range (j+1)).map λj=>(r.1+j,r.2.2) by rw[List.range_succ,Nu];rfl] at s
 exact⟨_,_,rfl,ae s rfl,⟨g.v0,g.v1,g.v2,rfl⟩,h⟩
theorem yx (G:vR U)(l:gz nm)(f:gC R)(o:0<u)(d:u<2^30)(p:k<R.length)(g:AI nm R u (bT (R.take k)) Z):
  ∃c,ay (ex U N (n+2)) HD (Z.set 5 (.val (.int ((3*k:Nat):Int))))=some (.next,c)/\AI nm R u (bT (R.take (k+1))) c:=by
 have hr:R[k]?=some R[k]:=Nc p
 refine au (f.row _ (List.getElem_mem p)) λq s=>?_
 refine eU (IZ (u:=u) hr) λn0 n1 v=>?_
 have H:bT (R.take (k+1))=bT (R.take k)++mX R[k]:=by
  rw[List.take_add_one,hr]
  unfold bT
  rw[List.flatMap_append]
  exact MY (_++ ·) (NP _)
 rw[H]
 generalize R[k]=r at q s n0 n1 v
 have t:3*k<=24:=N8 3 (N0 (NF p f.len))
 have s1:ex U N (n+2) (.asg 4 (.idx (.var 1) (.bin .FloorDiv (.idx (.var 0) (.bin .Add (.var 5) (.int 2))) (.var 2)))) (Z.set 5 (.val (.int ((3*k:Nat):Int))))=some (.next,(Z.set 5 (.val (.int ((3*k:Nat):Int)))).set 4 (.val (.str (nm r.2.2)))):=
  bg (aK (v_var (by exact g.v1)) (ar (aZ (by exact g.v0) (aK (v_var (by exact g.v0)) (ar (v_var rfl) (aB rfl rfl) add_int) (dB (i:=3*k+2) v (lv (Nat.add_le_add_right t 2) rfl)))) (v_var (by exact g.v2)) (f9 o d)) (gB s))
 have w:∀x∈R.take k,x.1+x.2.1<=6/\x.2.2<6:=λx hx=>f.row x (List.mem_of_mem_take hx)
 refine af (BQ (U:=U) (N:=N) (n:=n) (Z:=(Z.set 5 (.val (.int ((3*k:Nat):Int)))).set 4 (.val (.str (nm r.2.2)))) G l (p0 w) (M4 (jM w) (N8 6 (M4 (by rw[OE];exact Pa _ _) f.len))) q s ⟨g.v0,g.v1,g.v2,g.v3⟩ rfl) λc y I=>?_
 have J:D.range [.int (r.1:Int),.int ((r.1+r.2.1:Nat):Int)]=some ((List.range r.2.1).map λ(j:Nat)=>D.int ((r.1+j:Nat):Int)):=(f6 (a:=r.1) (b:=r.1+r.2.1) (NM _ _) (lv q rfl)).trans (by rw[Nat.add_sub_cancel_left])
 have z:=f9 (a:=r.1+r.2.1) o d
 rw[Nat.mul_add] at z
 generalize e:(Z.set 5 (.val (.int ((3*k:Nat):Int)))).set 4 (.val (.str (nm r.2.2)))=B at s1 y
 have h:=(Nm e 0).symm.trans g.v0
 have C:=(Nm e 2).symm.trans g.v2
 have E:B 5=some (.val (.int ((3*k:Nat):Int))):=(Nm e 5).symm
 have F:∀{m},(ev U (m+3)).v B (.idx (.var 0) (.var 5))=some (.int ((u*r.1:Nat):Int)):=aZ h (aK (v_var h) (ao E) (dB n0 (lv t rfl)))
 exact⟨c,ae s1 (ae (eJ rfl (aI (aa (ar F (v_var C) (f9 o d)) (aa (ar (aB rfl (ar F (aZ h (aK (v_var h) (ar (v_var E) (aB rfl rfl) add_int) (dB (i:=3*k+1) n1 (lv (Nat.add_le_add_right t 1) rfl)))) add_int)) (v_var C) z) aj)) J) y) rfl),I⟩
theorem tables (q:vR U)(f:gz nm)(h:gC R)(s:0<u)(j:u<2^30):
  rF U N b6 [nl (R.flatMap (numOf u)),jX nm,.int (u:Int)]=some (gA nm (bT R)):=by
 have hlen:(R.flatMap (numOf u)).length=3*R.length:=vU
 refine ak (⟨_,rfl⟩:∃Z:St,(λi=>(([nl (R.flatMap (numOf u)),jX nm,.int (u:Int)]:List D)[i]?).map .val)=Z) λZ a=>?_
 have m:Z 0=some (.val (nl (R.flatMap (numOf u)))):=(Nm a 0).symm
 have o:Z 1=some (.val (jX nm)):=(Nm a 1).symm
 have t:(ev U 40).m Z (.dM (.var 4) (.dict []) [] (MG.mk (.one 4) (.var 1) []))=some (gA nm []):=
  vH (c:=λi=>D.str (nm i)) (ys:=List.range 6) (λi=>(nm i,.dict [] [])) (mP rfl (v_var o) rfl) (λi _=>⟨_,rfl,rfl,ao rfl,rfl⟩) (names_nodup f) (by decide)
 refine af (cL (c:=λ(k:Nat)=>D.int ((3*k:Nat):Int)) (b:=ay (ex U N 11) HD) (Z0:=λZ d=>bB Z (.one 5) d) (n:=R.length) (Z:=St.set Z 3 (.own (gA nm []))) (λk Z=>AI nm R u (bT (R.take k)) Z) (λk w Z g=>af (yx (U:=U) (N:=N) (n:=9) q f h s j w g) λl e g=>⟨_,l,rfl,e,g⟩) ⟨m,o,(Nm a 2).symm,rfl⟩) λZ1 x g=>?_
 have p:=g.v3
 rw[List.take_length] at p
 refine dR (Z:=Z1) (a▸ae (oB t rfl) (ae (eJ (xs:=(List.range R.length).map λ(k:Nat)=>D.int ((3*k:Nat):Int)) rfl (aI (aa rfl (aa (cE rfl (aa (v_var m) aj) (len_own ?_)) (aa rfl aj))) ?_) x) (bA (eK (ao (by show(Z1 3).bind _=_;rw[p];rfl))))))
 .rw[MX,hlen];exact lv (N8 3 h.len) rfl
 .rw[MX,hlen];exact rU (lv h.len rfl)
end
end
structure Tree (S:List (List Nat))(d:Nat->Nat->Bool)(p:Nat->Nat):Prop where
 g:Gt S
 db:yn S d
 up:∀y,0<y->y<6->IT d y (p y)
noncomputable def gD (p:Nat->Nat)(y:Nat):Int:=if y=0 then -1 else(p y:Int)
noncomputable def jN (p:Nat->Nat):D:=.list ((List.range 6).map λy=>D.int (gD p y))
section
variable {S:List (List Nat)}{d:Nat->Nat->Bool}{p:Nat->Nat}{nm:Nat->Str}{A:List (Nat×Nat)}{U:UT}{N:NT}{n:Nat}{Z:St}{x y z:Nat}
theorem Tree.is (t:Tree S d p)(h0:0<y)(a:y<6):p y<6/\p y≠y/\dK S (p y) y/\ ∀z,z<6->z≠y->dK S z y->dK S z (p y):=KR t.g t.db a (t.up y h0 a)
theorem Tree.deep (t:Tree S d p)(h0:0<y)(a:y<6):(eM d (p y)).length+1=(eM d y).length:=(t.up y h0 a).2
theorem kz:(eM d y).length<=6:=M4 (Nv ..) (NR Nk)
theorem dK.lt (t:Tree S d p)(h:dK S x y)(a:y<6):x<6:=h.elim (λh=>h▸by decide) λh=>h.elim (λh=>h▸a) λh=>by
 by_cases hx:x<6
 .exact hx
 .have q:∀{z},fV S [0] 0 z->fV S [x] 0 z:=λr=>by
   induction r with
   |base=>exact .base
   |step _ e _ b=>exact .step b e λc=>hx (Nh.mp c▸(t.g.toGr.iy e).2)
  exact absurd (q (t.g.oD 6 y a a)) h
theorem Tree.split (t:Tree S d p)(h0:0<y)(a:y<6):dK S x y↔x=y\/dK S x (p y):=
 kS (t.is h0 a) λf g b c=>⟨λh=>(Decidable.em (x=y)).imp id λhx=>c x (h.lt t a) hx h,λh=>h.elim (λe=>e▸ .refl) λh=>h.trans b⟩
def KU (S:List (List Nat))(y h:Nat):Prop:=h=y\/ ¬dK S h y
noncomputable def eO (F:Nat->List Nat):List (List D):=(List.range 6).map λh=>(F h).map λ(k:Nat)=>D.int (k:Int)
noncomputable def ext (F:Nat->List Nat)(h:Nat)(l:List Nat):Nat->List Nat:=λs=>if s=h then F h++l else F s
theorem iM {F:Nat->List Nat}(h:x<6):(eO F)[x]?=some ((F x).map λ(k:Nat)=>D.int (k:Int)):=aM h
theorem mA {F:Nat->List Nat}(l:List Nat):(eO F).set x (((F x).map λ(k:Nat)=>D.int (k:Int))++l.map λ(k:Nat)=>D.int (k:Int))=eO (ext F x l):=by
 unfold eO
 rw[iT]
 refine N2 λs _=>?_
 unfold ext
 by_cases h:s=x
 .rw[M7 h,M7 h,Nu]
 .rw[M8 h,M8 h]
def yy (F:Nat->List Nat):Prop:= ∀h,(F h).Nodup/\ ∀y∈F h,y<6
theorem yy.len {F:Nat->List Nat}(h:yy F):(F x).length<=6:=bc (h x).1 (h x).2
theorem yy.ext {F:Nat->List Nat}(h:yy F)(f:y<6):yy (ext F x (if y∉F x then[y] else[])):=λs=>by
 unfold Q.ext
 by_cases hs:s=x
 .rw[M7 hs]
  by_cases hn:y∈F x
  .rw[M8 λq=>absurd hn q,NP];exact h x
  .rw[M7 hn]
   exact⟨Oz.mpr ⟨(h x).1,NA.mpr ⟨Nl,N6⟩,λa g b hb e=>hn (Nh.mp hb▸e▸g)⟩,λz c=>(NK.mp c).elim ((h x).2 z) λc=>Nh.mp c▸f⟩
 .rw[M8 hs];exact h s
theorem vV {F:Nat->List Nat}{s:Nat}:z∈ext F x (if y∉F x then[y] else[]) s↔z∈F s\/(s=x/\z=y):=by
 unfold ext
 by_cases hs:s=x
 .rw[M7 hs, <-hs]
  by_cases hy:y∈F s
  .rw[M8 λq=>absurd hy q,NP]
   exact⟨.inl,λh=>h.elim id λq=>q.2▸hy⟩
  .rw[M7 hy,NK,Nh]
   exact⟨λh=>h.imp id λq=>⟨rfl,q⟩,λh=>h.imp id And.right⟩
 .rw[M8 hs]
  exact⟨.inl,λh=>h.elim id λq=>absurd q.1 hs⟩
structure KI (p:Nat->Nat)(nm:Nat->Str)(A:List (Nat×Nat))(st:List Nat)(Z:St):Prop where
 v1:Z 1=some (.val (jN p))
 v2:Z 2=some (.val (gA nm A))
 v3:Z 3=some (.val (jX nm))
 v5:Z 5=some (.own (nl st))
theorem vW {k:Nat}(hi:j=4\/6<=j)(a:k≠4)(b:k<6):¬k=j:=λe=>hi.elim (λq=>a (e.trans q)) λq=>O9 b (e▸q)
theorem KI.set {st:List Nat}{i:Nat}{s:_root_.av.Slot}(k:KI p nm A st Z)(hi:i=4\/6<=i):KI p nm A st (Z.set i s):=
 ⟨(M8 (vW hi (by decide) (by decide))).trans k.v1,(M8 (vW hi (by decide) (by decide))).trans k.v2,(M8 (vW hi (by decide) (by decide))).trans k.v3,(M8 (vW hi (by decide) (by decide))).trans k.v5⟩
noncomputable abbrev Mg:ME:=ME.cmp .NotIn (.var 8) (.tup [ME.idx (.var 1) (.var 6),ME.neg (.int 1)])
noncomputable abbrev Mh:List MS:=[
    .cG 4 (.var 8) (.ite (.cmp .NotIn (.var 6) (.idx (.var 4) (.var 8))) (.list [ME.var 6]) (.list [])),
    .asg 8 (.idx (.var 1) (.var 8))]
theorem mY (h:x<6):D.index (jN p) (.int (x:Int))=some (.int (gD p x)):=bC (aM h) (by exact av.lu h rfl)
theorem vY {st:List Nat}(k:KI p nm A st Z)(a:y<6)(b:Z 6=some (.val (.int (y:Int))))(c:Z 8=some (.val (.int h))):(ev U 40).t Z Mg=some (!(gD p y==h||(-1==h))):=by
 refine aS (v_var c) (aB rfl (iq (by decide) (aa (aK (v_var k.v1) (ao b) (mY a)) (aa (mO rfl) aj)))) ?_
 show(some (gD p y==h||(-1==h||false))).map (!·)=_
 rw[Bool.or_false];rfl
theorem I4 {F:Nat->List Nat}{k:Nat}:D.cmp .NotIn (.int (y:Int)) (.list ((F k).map λ(k:Nat)=>D.int (k:Int)))=some (decide (y∉F k)):=dn
theorem FD {st:List Nat}{F:Nat->List Nat}{h:Nat}(k:KI p nm A st Z)(f:yy F)(hh:h<6)(c:Z 4=some (.rows (eO F)))(e:Z 6=some (.val (.int (y:Int))))(b:Z 8=some (.val (.int (h:Int)))):
  ay (ex U N (n+1)) Mh Z=some (.next,(Z.set 4 (.rows (eO (ext F h (if y∉F h then[y] else[]))))).set 8 (.val (.int (gD p h)))):=by
 have g:(ev U 40).v Z (.ite (.cmp .NotIn (.var 6) (.idx (.var 4) (.var 8))) (.list [ME.var 6]) (.list []))=some (.list ((if y∉F h then[y] else[]).map λ(k:Nat)=>D.int (k:Int))):=by
  refine(aB rfl (gL (x:=.list [.int (y:Int)]) (y:=.list []) (aS (v_var e) (Bp c (ao b) (by exact av.lu hh rfl) (iM hh)) I4) (λ_=>eT (by decide) (aa (ao e) aj)) λ_=>rfl)).trans ?_
  by_cases a:y∈F h
  .rw[M8 λq=>absurd a (Nr q),M8 λq=>absurd a q];rfl
  .rw[M7 (Nq a),M7 a];rfl
 have i:((if y∉F h then[y] else[]).map λ(k:Nat)=>D.int (k:Int)).length<=1:=by
  rw[MX]
  by_cases a:y∈F h
  .rw[M8 λq=>absurd a q];exact Ou _
  .rw[M7 a];exact NB _
 have s1:=Bq (U:=U) (N:=N) (n:=n) c (ao b) g (by exact av.lu hh rfl) (iM hh) (by rw[MX];exact lv (NY (f.len (x:=h)) i) rfl)
 rw[mA] at s1
 exact ae s1 (ae (bg (aK (v_var (k.set (.inl rfl)).v1) (ao b) (mY hh))) rfl)
theorem FE (t:Tree S d p){st:List Nat}(j:y<6){k:Nat}:∀{h:Nat}{F:Nat->List Nat}{Z:St},(eM d h).length<=k->KI p nm A st Z->yy F->h<6->(y=0\/dK S (p y) h)->Z 4=some (.rows (eO F))->Z 6=some (.val (.int (y:Int)))->Z 8=some (.val (.int (h:Int)))->
  ∃Z' l,cy (λZ=>(ev U 40).t Z Mg) (ay (ex U N (n+1)) Mh) (k+1) Z=some (.next,Z')/\KI p nm A st Z'/\yy l/\Z' 4=some (.rows (eO l))/\Z' 6=some (.val (.int (y:Int)))/\ ∀s z,z∈l s↔z∈F s\/(z=y/\dK S s h/\KU S y s):=by
 induction k with
 |zero=>exact λv _ _ hh _ _ _ _=>absurd (List.length_pos_of_mem (ez.mpr ⟨hh,(t.db _ _ hh hh).mpr .refl⟩)) (Nat.not_lt_of_le v)
 |succ k M=>
  intro h F Z v K w hh H I g J
  have i:=vY (U:=U) K j g J
  rw[show((-1:Int)==(h:Int))=false from OT.mpr λe=>Int.noConfusion e,Bool.or_false] at i
  by_cases hs:0<y/\h=p y
  .rw[show(gD p y==(h:Int))=true from NJ.mpr ((M8 (N4 hs.1)).trans (MY Int.ofNat hs.2.symm))] at i
   refine⟨Z,F,f5 i,K,w,I,g,λs z=>⟨.inl,λq=>q.elim id λq=>eU q λ_ o B=>kS (t.is hs.1 j) λr C m D=>?_⟩⟩
   rw[hs.2] at o
   exact B.elim (λe=>absurd (dK.By t.g r m (by rw[e] at o;exact o)) C) λB=>absurd (o.trans m) B
  .rw[show(gD p y==(h:Int))=false from OT.mpr λq=>by
    unfold gD at q
    by_cases c:y=0
    .rw[M7 c] at q;exact Int.noConfusion q
    .rw[M8 c] at q;exact hs ⟨OO c,(O5 q).symm⟩] at i
   have E:KU S y h:=by
    by_cases q:dK S h y
    .refine .inl (OZ λL=>?_)
     by_cases c:y=0
     .exact L (c▸(c▸q).LQ)
     .exact kS (t.is (OO c) j) λr C m D=>hs ⟨OO c,dK.By t.g hh (D h hh L q) (H.resolve_left c)⟩
    .exact .inr q
   have u:=FD (U:=U) (N:=N) (n:=n) K w hh I g J
   have f:=w.ext (x:=h) j
   have G:∀{a b},KI p nm A st ((Z.set 4 a).set 8 b):=(K.set (.inl rfl)).set (.inr (by decide))
   by_cases h0:h=0
   .rw[h0] at u f E
    refine⟨_,_,d9 i u (f5 ((vY (h:= -1) G j g rfl).trans (by rw[show((-1:Int)== -1)=true from rfl,Bool.or_true];rfl))),G,f,rfl,g,λs z=>?_⟩
    rw[vV,h0]
    exact or_congr Iff.rfl ⟨λq=>⟨q.2,q.1▸ .refl,q.1▸E⟩,λq=>⟨q.2.1.LQ,q.1⟩⟩
   .have h0:0<h:=OO h0
    refine kS (t.is h0 hh) λr C m D=>?_
    rw[show gD p h=(p h:Int) from M8 (N4 h0)] at u
    refine wJ (M (N0 (NF (OV (N7 _) (t.deep h0 hh)) v)) G f r ?_ rfl g rfl) λZ' l O P Q R T V=>⟨Z',l,d9 i u O,P,Q,R,T,λs z=>?_⟩
    .by_cases c:y=0
     .exact .inl c
     .exact .inr (((t.split h0 hh).mp (H.resolve_left c)).resolve_left λe=>hs ⟨OO c,e.symm⟩)
    .rw[V,vV,or_assoc]
     exact or_congr Iff.rfl ⟨λq=>q.elim (λq=>⟨q.2,q.1▸ .refl,q.1▸E⟩) λq=>⟨q.1,q.2.1.trans m,q.2.2⟩,λq=>((t.split h0 hh).mp q.2.1).imp (λe=>⟨e,q.1⟩) λd=>⟨q.1,d,q.2.2⟩⟩
end
section
variable {S:List (List Nat)}{d:Nat->Nat->Bool}{p:Nat->Nat}{nm:Nat->Str}{A:List (Nat×Nat)}{U:UT}{N:NT}{n:Nat}{Z:St}{x y z:Nat}{st:List Nat}
noncomputable abbrev BS:List MS:=[
   .asg 8 (.fn .index [ME.var 3,ME.var 7]),
   .du Mg Mh]
theorem BU {l:List D}(h:l.length<2^20):fN U .list [.list l]=some (.list l):=M7 h
theorem BV (a:gz nm)(h:x<6):fN U .index [jX nm,.str (nm x)]=some (.int (x:Int)):=by
 show((D.strs ((List.range 6).map λi=>D.str (nm i))).bind λb=>if b.length<2^40 then(b.idxOf? (nm x)).map λ(i:Nat)=>D.int (i:Int) else none)=_
 have:(List.range 6).map (λi=>D.str (nm i))=((List.range 6).map nm).map .str:=by rw[NO];rfl
 rw[this,strs_map]
 show(if((List.range 6).map nm).length<2^40 then(((List.range 6).map nm).idxOf? (nm x)).map λ(i:Nat)=>D.int (i:Int) else none)=_
 rw[M7 (by rw[MX,Nk];decide),iz (names_nodup a) (aM h)];rfl
theorem Tree.caller (t:Tree S d p)(b:y<6)(e:y∈S.getD a []):y=0\/dK S (p y) a:=by
 by_cases h:y=0
 .exact .inl h
 .exact kS (t.is (OO h) b) λ_ c f _=>.inr (f.IS e c)
inductive GI (S:List (List Nat))(p:Nat->Nat)(nm:Nat->Str)(A:List (Nat×Nat))(st:List Nat)(y:Nat)(F:Nat->List Nat)(ys:List Nat)(Z:St):Prop
 |mk (F':Nat->List Nat)(K:KI p nm A st Z)(h6:Z 6=some (.val (.int (y:Int))))(hF:yy F')(h4:Z 4=some (.rows (eO F')))(hm:∀s z,z∈F' s↔z∈F s\/(z=y/\ ∃a,a∈ys/\dK S s a/\KU S y s))
theorem FF (t:Tree S d p)(j:gz nm)(L:iB A)(v:∀a y,(a,y)∈A↔y∈S.getD a [])(r:y<6){F:Nat->List Nat}(K:KI p nm A st Z)(M:yy F)(w:Z 4=some (.rows (eO F)))(u:Z 6=some (.val (.int (y:Int)))):
  ∃Z' l,ex U N (n+3) (.cW (.one 7) (.idx (.var 2) (.idx (.var 3) (.var 6))) BS []) Z=some (.next,Z')/\KI p nm A st Z'/\yy l/\Z' 4=some (.rows (eO l))/\ ∀s z,z∈l s↔z∈F s\/(z=y/\ ∃a,a∈into A y/\dK S s a/\KU S y s):=by
 refine af (iR (c:=λa=>D.str (nm a)) (b:=ay (ex U N (n+2)) BS) (Z0:=λZ d=>bB Z (.one 7) d) (xs:=dd (into A y)) (Z:=Z) (GI S p nm A st y F) (λys a zs e Z g=>?_) (.mk F K u M w λs z=>⟨.inl,λq=>q.elim id λq=>af q.2 λ_ q _=>absurd q Nl⟩)) λZ' e g=>?_
 .cases g with
  |mk P K u B w m=>
   have H:a∈into A y:=(ky _).mp (e▸OW _ (Nf ..))
   have o:=vS L H
   have I:KI p nm A st (Z.set 7 (.val (.str (nm a)))):=K.set (.inr (OK _))
   have s1:ex U N (n+2) (.asg 8 (.fn .index [ME.var 3,ME.var 7])) (Z.set 7 (.val (.str (nm a))))=some (.next,(Z.set 7 (.val (.str (nm a)))).set 8 (.val (.int (a:Int)))):=
    bg (cE rfl (aa (v_var I.v3) (aa (v_var rfl) aj)) (BV j o))
   exact wJ (FE t (U:=U) (N:=N) (n:=n) (nm:=nm) (A:=A) (st:=st) r (k:=63) (h:=a) (F:=P) (Z:=(Z.set 7 (.val (.str (nm a)))).set 8 (.val (.int (a:Int)))) (M4 kz (by decide)) (I.set (.inr (by decide))) B o (t.caller r ((v a y).mp (iA.mp H))) w u rfl) λC Q R T V W X J=>⟨_,C,rfl,ae s1 (ae (pR R) rfl),.mk Q T X V W λs z=>⟨λq=>((J s z).mp q).elim (λq=>((m s z).mp q).imp id λq=>au q λe q=>bf q λb hb f i=>⟨e,b,Oq _ hb,f,i⟩) λq=>eU q λe f i=>.inr ⟨e,a,OW _ (Nh.mpr rfl),f,i⟩,
    λq=>(J s z).mpr (q.elim (λq=>.inl ((m s z).mpr (.inl q))) λq=>au q λe q=>bf q λb hb f i=>(NK.mp hb).elim (λhb=>.inl ((m s z).mpr (.inr ⟨e,b,hb,f,i⟩))) λhb=>.inr ⟨e,Nh.mp hb▸f,i⟩)⟩⟩
 .cases g with
  |mk l Y _ E G m=>
   refine⟨Z',l,eJ (yf K.v2) (mP rfl (aZ K.v2 (aK (v_var K.v2) (aK (v_var K.v3) (ao u) (gB r)) (vT j r))) ?_) e,Y,E,G,λs z=>(m s z).trans (or_congr Iff.rfl (and_congr Iff.rfl (exists_congr λa=>and_congr (ky _) Iff.rfl)))⟩
   show some (((cnt nm (into A y)).map (·.1)).map D.str)=_
   rw[jK,NO];rfl
structure MI (S:List (List Nat))(st:List Nat)(F:Nat->List Nat)(M:List Nat)(i:Nat)(Z:St):Prop where
 v4:Z 4=some (.rows (eO F))
 v5:Z 5=some (.own (nl M))
 nJ:M.Nodup
 lt:∀x∈M,x<6
 sub:∀x∈st,x∈M
 min:∀T:List Nat,(∀x∈st,x∈T)->bW S T-> ∀x∈M,x∈T
 done:∀j x,j<i->M[j]?=some x-> ∀y∈F x,y∈M
noncomputable abbrev markB:List MS:=[
  .extend 5 (.ite (.cmp .Lt (.var 9) (.fn .len [ME.var 5])) (.comp (.var 6) [5] (MG.mk (.one 6) (.idx (.var 4) (.idx (.var 5) (.var 9))) [ME.cmp .NotIn (.var 6) (.var 5)]) []) (.list []))]
noncomputable abbrev KV:ME:=ME.comp (.var 6) [5] (MG.mk (.one 6) (.idx (.var 4) (.idx (.var 5) (.var 9))) [ME.cmp .NotIn (.var 6) (.var 5)]) []
noncomputable abbrev HE:ME:=ME.ite (.cmp .Lt (.var 9) (.fn .len [ME.var 5])) KV (.list [])
theorem yz {F:Nat->List Nat}{M:List Nat}{i:Nat}(v:yy F)(G:∀s z,s<6->(z∈F s↔Fm S s z))(I:MI S st F M i Z)(hi:i<6):∃r H,ay (ex U N (n+1)) markB (Z.set 9 (.val (.int (i:Int))))=some (.next,r)/\MI S st F H (i+1) r:=by
 have c:M.length<=6:=bc I.nJ I.lt
 have u:(ev U 38).t (Z.set 9 (.val (.int (i:Int)))) (.cmp .Lt (.var 9) (.fn .len [ME.var 5]))=some (decide ((i:Int)<(M.length:Int))):=
  aS (v_var rfl) (aB rfl (cE rfl (aa (dU I.v5) aj) ((len_own (by rw[MX];exact lv c rfl)).trans (MY (λx:Nat=>some (D.int (x:Int))) (MX ..))))) rfl
 by_cases m:i<M.length
 .refine ak (⟨_,Nc m⟩:∃x,M[i]?=some x) λx hx=>?_
  have t:=Nw hx
  have f:=I.lt x t
  rw[Nq (N5.mpr m)] at u
  have hlen:=M4 (Nv (λy=>decide (y∉M)) (F x)) (v.len (x:=x))
  have J:(ev U 37).i (Z.set 9 (.val (.int (i:Int)))) (.one 6) (.idx (.var 4) (.idx (.var 5) (.var 9)))=some ((F x).map λ(k:Nat)=>D.int (k:Int)):=
   mP rfl (Bp I.v4 (aK (dU I.v5) (ao rfl) (dB hx (lu hi rfl))) (lu f rfl) (iM f)) rfl
  have K:(ev U 38).m (Z.set 9 (.val (.int (i:Int)))) KV=some (nl ((F x).filter λy=>decide (y∉M))):=by
   refine aV (λy=>if decide (y∉M)=true then[.int (y:Int)] else[]) J (λy a=>?_) aO (by rw[MX];exact lv hlen rfl)
   exact aF rfl (a7 (aS (v_var rfl) (dU I.v5) dn)) λ_=>aH (ao rfl)
  have w:(ev U 40).v (Z.set 9 (.val (.int (i:Int)))) HE=some (nl ((F x).filter λy=>decide (y∉M))):=aB rfl (gL (y:=.list []) u (λ_=>K) λh=>nb h.symm)
  refine⟨_,M++(F x).filter λy=>decide (y∉M),ae (mQ w I.v5 (by rw[MX,MX];exact lv (NY c hlen) rfl)) rfl,I.v4,?_,Oz.mpr ⟨I.nJ,(v x).1.filter _,λy a z o e=>Nr (Nt.mp o).2 (e▸a)⟩,λy a=>(NK.mp a).elim (I.lt y) λh=>(v x).2 y (Nt.mp h).1,λy a=>Oq _ (I.sub y a),λT C B y a=>(NK.mp a).elim (I.min T C B y) λh=>B x (I.min T C B x t) y ((G x y f).mp (Nt.mp h).1),λj y E a z o=>?_⟩
  .show some (_root_.av.Slot.own (.list _))=some (.own (.list _))
   rw[Nu]
  .by_cases g:z∈M
   .exact Oq _ g
   .by_cases b:j<i
    .rw[Of (NW b m)] at a
     exact absurd (I.done j y b a z o) g
    .rw[OS (N0 E) (NU b),Of m,hx] at a
     exact OW _ (Nt.mpr ⟨MW a▸o,Nq g⟩)
 .rw[NQ λq=>m (N5.mp q)] at u
  have w:(ev U 40).v (Z.set 9 (.val (.int (i:Int)))) HE=some (.list []):=aB rfl (gL (x:=.list []) (y:=.list []) u nb λ_=>rfl)
  refine⟨_,M,ae (mQ w I.v5 (by rw[MX];exact lv c rfl)) rfl,I.v4,MY (λl=>some (_root_.av.Slot.own (.list l))) (NP _),I.nJ,I.lt,I.sub,I.min,λj y E a z o=>?_⟩
  by_cases b:j<i
  .exact I.done j y b a z o
  .rw[Od (M4 (NU m) (NU b))] at a
   exact ns a
inductive FI (S:List (List Nat))(p:Nat->Nat)(nm:Nat->Str)(A:List (Nat×Nat))(st:List Nat)(k:Nat)(Z:St):Prop
 |mk (F:Nat->List Nat)(K:KI p nm A st Z)(hF:yy F)(h4:Z 4=some (.rows (eO F)))(hm:∀s z,z∈F s↔z<k/\ ∃a,a∈into A z/\dK S s a/\KU S z s)
theorem marked (t:Tree S d p)(H:gz nm)(Y:iB A)(r:∀a y,(a,y)∈A↔y∈S.getD a [])(w:st.Nodup)(m:∀x∈st,x<6):
  ∃(F:Nat->List Nat) (M:List Nat),rF U N KO [nl st,jN p,gA nm A,jX nm]=some (.tup [.list ((List.range 6).map λh=>nl (F h)),nl M])/\(∀s,(F s).Nodup)/\(∀s z,s<6->(z∈F s↔Fm S s z))/\M.Nodup/\(∀x∈M,x<6)/\(∀x∈st,x∈M)/\bW S M/\
   ∀T:List Nat,(∀x∈st,x∈T)->bW S T-> ∀x∈M,x∈T:=by
 refine ak (⟨_,rfl⟩:∃Z:St,(λi=>(([nl st,jN p,gA nm A,jX nm]:List D)[i]?).map .val)=Z) λZ f=>?_
 have e0:(ev U 40).m Z (.comp (.list []) [] (MG.mk (.one 6) (.range [ME.int 6]) []) [])=some (.list ((List.range 6).map λ_=>D.list [])):=
  aV (λ_=>[D.list []]) (aI (aa rfl aj) (range_one (n:=6) (by decide))) (λy _=>(aF (p:=true) rfl rfl λ_=>aH rfl)) bk (by decide)
 have s1:ex U N 12 (.cN [(4,2),(5,1)] [ME.comp (.list []) [] (MG.mk (.one 6) (.range [ME.int 6]) []) [],ME.fn .list [ME.var 0]]) Z=some (.next,(Z.set 4 (.rows (eO λ_=>[]))).set 5 (.own (nl st))):=
  ey (aa e0 (aa (cE (z:=nl st) rfl (aa (v_var (d:=nl st) (Nm f 0).symm) aj) (BU (by rw[MX];exact lv (bc w m) rfl))) aj)) rfl
 refine af (cL (c:=λ(k:Nat)=>D.int (k:Int)) (b:=ay (ex U N 11) [.cW (.one 7) (.idx (.var 2) (.idx (.var 3) (.var 6))) BS []]) (Z0:=λZ d=>bB Z (.one 6) d) (n:=6) (Z:=(Z.set 4 (.rows (eO λ_=>[]))).set 5 (.own (nl st))) (FI S p nm A st) (λy L Z g=>?_)
  (.mk (λ_=>[]) ⟨(Nm f 1).symm,(Nm f 2).symm,(Nm f 3).symm,rfl⟩ (λ_=>⟨N6,λ_ h=>absurd h Nl⟩) rfl λs z=>⟨λh=>absurd h Nl,λh=>absurd h.1 (OL _)⟩)) λO e2 g=>?_
 .cases g with
  |mk F K C P B=>
   exact jY (FF t (U:=U) (N:=N) (n:=8) H Y r L (K.set (i:=6) (s:=.val (.int (y:Int))) (.inr (NB _))) C P rfl) λu F' w1 w2 w3 w4 W=>⟨_,u,rfl,ae w1 rfl,.mk F' w2 w3 w4 λs z=>⟨λq=>((W s z).mp q).elim (λq=>au ((B s z).mp q) λa b=>⟨OF a,b⟩) λq=>au q λe b=>⟨e▸N7 _,e.symm▸b⟩,
    λq=>(W s z).mpr (au q λa b=>(Nat.lt_succ_iff_lt_or_eq.mp a).elim (λa=>.inl ((B s z).mpr ⟨a,b⟩)) λe=>.inr ⟨e,e▸b⟩)⟩⟩
 cases g with
 |mk F K2 C P B=>
  have Q:∀s z,s<6->(z∈F s↔Fm S s z):=λs z _=>⟨λq=>au ((B s z).mp q) λ_ q=>bf q λa E R V=>⟨⟨a,(r a z).mp (iA.mp E),R⟩,V⟩,λq=>au q λq V=>af q λa E R=>(B s z).mpr ⟨(t.g.toGr.iy E).2,a,iA.mpr ((r a z).mpr E),R,V⟩⟩
  refine af (cL (c:=λ(k:Nat)=>D.int (k:Int)) (b:=ay (ex U N 11) markB) (Z0:=λZ d=>bB Z (.one 9) d) (n:=6) (Z:=O) (λk Z=>∃M,MI S st F M k Z) (λi hi Z g=>ak g λM I=>aW (yz (U:=U) (N:=N) (n:=10) C Q I hi) λu M' e' I'=>⟨_,u,rfl,e',M',I'⟩)
   ⟨st,P,K2.v5,w,m,λ_ h=>h,λT h _=>h,λj _ G=>absurd G (OL _)⟩) λv e3 g=>ak g λM l=>?_
  refine⟨F,M,dR (Z:=v) (f▸ae s1 (ae (eJ rfl (aI (aa rfl aj) (range_one (n:=6) (by decide))) e2) (ae (eJ rfl (aI (aa rfl aj) (range_one (n:=6) (by decide))) e3) (bA (eK (iq (by decide) (aa (ao ?_) (aa (ao ?_) aj)))))))),λs=>(C s).1,Q,l.nJ,l.lt,l.sub,λz X y L=>ak (O4 X) λj G=>l.done j z (NF (Ny.mp G).1 (bc l.nJ l.lt)) G y ((Q z y (l.lt z X)).mpr L),l.min⟩
  .show(v 4).bind _=_
   rw[l.v4]
   show some (_root_.av.Slot.val (.list ((eO F).map D.list)))=_
   unfold eO
   rw[NO];rfl
  .show(v 5).bind _=_
   exact MY (λo=>Option.bind o _) l.v5
end
theorem yA {x:Int}{l:List Int}(h:∀y∈l,x<=y):insI x l=x::l:=by
 cases l with
 |nil=>rfl
 |cons y l=>exact M7 (h y (Nf ..))
theorem yB {x k:Nat}{l:List Nat}(hx:x∉l):∀{a:Nat},a<=x->x<a+k->insI x (((List.range' a k).filter λy=>decide (y∈l)).map λ(y:Nat)=>(y:Int))=((List.range' a k).filter λy=>decide (y∈x::l)).map λ(y:Nat)=>(y:Int):=by
 induction k with
 |zero=>exact λc g=>absurd c (O9 g)
 |succ k d=>
  intro a c g
  rw[List.range'_succ,Om,Om]
  by_cases b:a=x
  .have e:(List.range' (a+1) k).filter (λy=>decide (y∈x::l))=(List.range' (a+1) k).filter λy=>decide (y∈l):=OQ λy h=>ON.mpr ⟨λq=>(Np.mp q).resolve_left λq=>N4 (List.mem_range'_1.mp h).1 (q.trans b.symm),Nj _⟩
   rw[e,M8 λq=>hx (b▸Nr q),M7 (Nq (b▸Nf ..)),Ob,yA λy h=>af (Nn.mp h) λz i e=>e▸Ot.mpr (b▸Nat.le_of_succ_le (List.mem_range'_1.mp (Nt.mp i).1).1),b]
  .have d:=d (a:=a+1) (Nat.lt_of_le_of_ne c b) ((Nat.succ_add a k).symm▸g)
   by_cases f:a∈l
   .rw[M7 (Nq f),M7 (Nq (Nj _ f)),Ob,Ob, <-d]
    exact M8 λq=>b (OS c (Ot.mp q))
   .rw[M8 λq=>f (Nr q),M8 λq=>(Np.mp (Nr q)).elim b f];exact d
theorem mZ {n:Nat}{l:List Nat}(hn:l.Nodup)(h:∀x∈l,x<n):sortI (l.map λ(y:Nat)=>(y:Int))=((List.range n).filter λy=>decide (y∈l)).map λ(y:Nat)=>(y:Int):=by
 induction l with
 |nil=>rw[Pc.mpr λx _ q=>absurd (Nr q) Nl];rfl
 |cons x l a=>
  show insI x (sortI (l.map λ(y:Nat)=>(y:Int)))=_
  rw[a (NA.mp hn).2 λy b=>h y (Nj _ b),List.range_eq_range',yB (NA.mp hn).1 (Ou x) ((Nat.zero_add n).symm▸h x (Nf ..))]
theorem jO {l:List Nat}:D.ints (l.map λ(k:Nat)=>D.int (k:Int))=some (l.map λ(k:Nat)=>(k:Int)):=by
 induction l with
 |nil=>rfl
 |cons x l a=>
  show(D.ints (l.map λ(k:Nat)=>D.int (k:Int))).map ((x:Int):: ·)=_
  rw[a];rfl
noncomputable def fW (l:List Nat):List Nat:=(List.range 6).filter λy=>decide (y∈l)
theorem FG {U:UT}{l:List Nat}(hn:l.Nodup)(h:∀x∈l,x<6):fN U .sset [nl l]=some (nl (fW l)):=by
 show((D.ints (l.map λ(k:Nat)=>D.int (k:Int))).bind λis=>if is.length<64 then some (D.list ((sortI is).map D.int)) else none)=_
 rw[jO]
 have:=bc hn h
 refine(M7 (by rw[MX];exact av.lv this rfl)).trans ?_
 rw[mZ hn h,NO];rfl
theorem iU {l:List Nat}{x:Nat}:x∈fW l↔x<6/\x∈l:=by
 unfold fW;rw[Nt,Ng,Nd]
theorem yC {l m:List Nat}(h:∀x,x∈l↔x∈m):fW l=fW m:=OQ λx _=>ON.mpr (h x)
theorem FH {k:Nat}{a:List Nat}:∀{b:List Nat},cB (D.gm (k+1)) (a.map λ(k:Nat)=>D.int (k:Int)) (b.map λ(k:Nat)=>D.int (k:Int))=some (decide (a=b)):=by
 induction a with
 |nil=>
  intro b
  cases b with
  |nil=>rfl
  |cons y b=>rfl
 |cons x a d=>
  intro b
  cases b with
  |nil=>rfl
  |cons y b=>
   show(match D.gm (k+1) (.int (x:Int)) (.int (y:Int)),cB (D.gm (k+1)) (a.map λ(k:Nat)=>D.int (k:Int)) (b.map λ(k:Nat)=>D.int (k:Int)) with
    |some b,some c=>some (b&&c)
    |_,_=>none)=_
   rw[d]
   exact MY some (Oj.mpr (by rw[NV,NJ,Nd,Nd,List.cons.injEq];exact and_congr Int.natCast_inj Iff.rfl))
theorem HF {k:Nat}{b:List Nat}:D.gm (k+2) (nl a) (nl b)=some (decide (a=b)):=FH
theorem FJ {x:List Nat}{W:List (List Nat)}:D.mem (nl x) (W.map nl)=some (decide (x∈W)):=by
 induction W with
 |nil=>rfl
 |cons y W a=>
  show(match D.gm 6 (nl y) (nl x),D.mem (nl x) (W.map nl) with
   |some b,some c=>some (b||c)
   |_,_=>none)=_
  rw[a,HF (k:=4)]
  exact MY some (Oj.mpr (by rw[Pe,Nd,Nd,Nd,Np];exact or_congr eq_comm Iff.rfl))
theorem I6 {x:List Nat}{W:List (List Nat)}:D.cmp .In (nl x) (.list (W.map nl))=some (decide (x∈W)):=FJ
theorem eq_nil {l:List D}:D.cmp .Eq (.list l) (.list [])=some l.isEmpty:=by cases l<;>rfl
theorem enum_zip {a:Type}{c:a->D}{l:List a}:∀{k:Nat},dN k (l.map c)=(l.zipIdx k).map λp=>.tup [.int (p.2:Int),c p.1]:=by
 induction l with
 |nil=>exact rfl
 |cons x l b=>exact MY (_:: ·) b
noncomputable def pick (O:List Nat)(b:Nat):List Nat:=(O.zipIdx.filter λp=>b.testBit p.2).map (·.1)
theorem BW {O:List Nat}{b x:Nat}:x∈pick O b↔ ∃k,O[k]?=some x/\b.testBit k=true:=
 ⟨λh=>af (Nn.mp h) λp hp e=>au (Nt.mp hp) λa c=>⟨p.2,e▸List.mem_zipIdx_iff_getElem?.mp a,c⟩,λh=>af h λk a c=>Nn.mpr ⟨(x,k),Nt.mpr ⟨List.mem_zipIdx_iff_getElem?.mpr a,c⟩,rfl⟩⟩
theorem iC {O:List Nat}{b:Nat}:(pick O b).Sublist O:=by
 have h:=(List.filter_sublist (p:=λp:Nat×Nat=>b.testBit p.2) (l:=O.zipIdx)).map (·.1)
 rw[List.zipIdx_map_fst] at h
 exact h
section
variable {S:List (List Nat)}{U:UT}{N:NT}{n:Nat}{Z:St}{x y z:Nat}{st O:List Nat}{G:List Nat->Nat->List Nat}
def DG (S:List (List Nat))(U:UT)(G:List Nat->Nat->List Nat):Prop:= ∀(T:List Nat) (a:Nat),a<6->U 5 [.list (S.map nl),.int (a:Int),nl T]=some (nl (G T a))/\ ∀x,x∈G T a↔fV S T a x
noncomputable abbrev I7:ME:=ME.bin .Mod (.bin .FloorDiv (.var 5) (.bin .Pow (.int 2) (.var 7))) (.int 2)
noncomputable abbrev BX:ME:=ME.bin .Add (.var 0) (.comp (.var 4) [5] (MG.mk (.many [7,4]) (.enum (.var 2)) [I7]) [])
noncomputable abbrev BY:ME:=ME.comp (.fn (.user 5) [ME.var 1,ME.var 9,ME.var 6]) [1,6] (MG.mk (.one 9) (.var 6) []) []
noncomputable abbrev KW:ME:=ME.fn .len [ME.comp (.var 10) [4] (MG.mk (.one 10) (.var 8) [ME.cmp .In (.var 4) (.var 10)]) []]
noncomputable abbrev I8:ME:=ME.comp (.var 4) [8,6] (MG.mk (.one 4) (.var 2) [ME.and (.cmp .NotIn (.var 4) (.var 6)) (.cmp .NotEq KW (.int 1))]) []
theorem BZ {b k:Nat}(c:Z 5=some (.val (.int (b:Int))))(d:Z 7=some (.val (.int (k:Int))))(a:k<6)(m:Nat):(ev U (m+9)).t Z I7=some (b.testBit k):=by
 have hp:2^k<2^6:=Nat.pow_lt_pow_right (by decide) a
 have e:D.bin .Pow (.int 2) (.int (k:Int))=some (.int ((2^k:Nat):Int)):=by
  rw[pow_int ⟨NG _,Ot.mpr (lw (ND a) rfl),by decide⟩,Oc,Int.natCast_pow];rfl
 have f:D.bin .FloorDiv (.int (b:Int)) (.int ((2^k:Nat):Int))=some (.int ((b/2^k:Nat):Int)):=by
  rw[pS (Int.ofNat_ne_zero.mpr (N4 (Nat.two_pow_pos k))) (by exact lu hp rfl),Int.fdiv_eq_ediv_of_nonneg _ (NG _), <-Int.natCast_ediv]
 have g:D.bin .Mod (.int ((b/2^k:Nat):Int)) (.int 2)=some (.int ((b/2^k%2:Nat):Int)):=by
  rw[mod_int (by decide),Int.fmod_eq_emod_of_nonneg _ (by decide)];rfl
 refine DF rfl (aB rfl (ar (aB rfl (ar (v_var c) (aB rfl (ar (aB rfl rfl) (v_var d) e)) f)) (aB rfl rfl) g)) ?_
 show some (((b/2^k%2:Nat):Int) !=0)=_
 rw[O0]
 refine(Nat.mod_two_eq_zero_or_one (b/2^k)).elim (λh=>?_) λh=>?_
 .rw[h];rfl
 .rw[h];rfl
theorem B0 {b:Nat}(a:O.length<=6)(c:st.length<=6)(h0:Z 0=some (.val (nl st)))(d:Z 2=some (.val (nl O)))(e:Z 5=some (.val (.int (b:Int)))):(ev U 40).m Z BX=some (nl (st++pick O b)):=by
 have f:(ev U 38).m Z (.comp (.var 4) [5] (MG.mk (.many [7,4]) (.enum (.var 2)) [I7]) [])=some (nl (pick O b)):=by
  have hi:(ev U 37).i Z (.many [7,4]) (.enum (.var 2))=some (O.zipIdx.map λp=>D.tup [.int (p.2:Int),.int (p.1:Int)]):=by
   refine(pD (v_var d) (by rw[MX];exact av.lv a rfl)).trans ?_
   rw[enum_zip]
  refine aV (λp:Nat×Nat=>if b.testBit p.2=true then[.int (p.1:Int)] else[]) hi (λp hp=>?_) (aO.trans ?_) ?_
  .have g:=(Ny.mp (List.mem_zipIdx_iff_getElem?.mp hp)).1
   exact fZ rfl rfl (a7 (BZ (k:=p.2) (by exact e) rfl (by exact NF g a) 28)) λ_=>aH (ao rfl)
  .unfold pick;rw[NO];rfl
  .rw[MX];exact lv (M4 (iC (O:=O) (b:=b)).length_le a) rfl
 refine ar (v_var h0) (aB rfl f) ((add_lists (by rw[MX];exact lv c rfl) (by rw[MX];exact lv (M4 (iC (O:=O) (b:=b)).length_le a) rfl)).trans ?_)
 rw[<-Nu];rfl
theorem B1 {T:List Nat}(d:DG S U G)(e:∀x∈T,x<6)(a:T.length<=6)(f:Z 1=some (.val (.list (S.map nl))))(b:Z 6=some (.val (nl T))):(ev U 40).m Z BY=some (.list (T.map λt=>nl (G T t))):=by
 refine aV (c:=λ(t:Nat)=>D.int (t:Int)) (λt=>[nl (G T t)]) (mP rfl (v_var b) rfl) (λt ht=>?_) bk ?_
 .exact aF (p:=true) rfl rfl λ_=>aH (d3 (aa (ao (by exact f)) (aa (ao rfl) (aa (ao (by exact b)) aj))) (d T t (e t ht)).1)
 .rw[MX];exact av.lv a rfl
theorem tm {T:List Nat}(a:T.length<=6)(d:Z 4=some (.val (.int (x:Int))))(e:Z 8=some (.val (.list (T.map λt=>nl (G T t)))))(m:Nat):(ev U (m+6)).m Z KW=some (.int (((T.filter λt=>decide (x∈G T t)).length:Nat):Int)):=by
 have b:=M4 (Nv (λt=>decide (x∈G T t)) T) a
 have f:(ev U (m+4)).m Z (.comp (.var 10) [4] (MG.mk (.one 10) (.var 8) [ME.cmp .In (.var 4) (.var 10)]) [])=some (.list ((T.filter λt=>decide (x∈G T t)).map λt=>nl (G T t))):=by
  refine aV (c:=λ(t:Nat)=>nl (G T t)) (λt=>if decide (x∈G T t)=true then[nl (G T t)] else[]) (mP rfl (v_var e) rfl) (λt ht=>?_) aO ?_
  .exact aF rfl (a7 (aS (v_var (by exact d)) (v_var rfl) rT)) λ_=>aH (ao rfl)
  .rw[MX];exact lv b rfl
 have:=len_own (U:=U) (l:=(T.filter λt=>decide (x∈G T t)).map λt=>nl (G T t)) (by rw[MX];exact lv b rfl)
 rw[MX] at this
 exact cE rfl (aa (aB rfl f) aj) this
noncomputable def B2 (G:List Nat->Nat->List Nat)(O T:List Nat):List Nat:=O.filter λx=>decide (x∉T)&& !((((T.filter λt=>decide (x∈G T t)).length:Nat):Int)==1)
theorem I9 {T:List Nat}(c:O.length<=6)(a:T.length<=6)(d:Z 2=some (.val (nl O)))(e:Z 6=some (.val (nl T)))(f:Z 8=some (.val (.list (T.map λt=>nl (G T t))))):(ev U 38).m Z I8=some (nl (B2 G O T)):=by
 refine aV (λx=>if(decide (x∉T)&& !((((T.filter λt=>decide (x∈G T t)).length:Nat):Int)==1))=true then[.int (x:Int)] else[]) (mP rfl (v_var d) rfl) (λx hx=>?_) aO ?_
 .refine aF rfl (a7 (kG (aS (v_var rfl) (v_var (by exact e)) dn) λ_=>aS (aB rfl (tm (m:=28) a rfl (by exact f))) (aB rfl rfl) ?_)) λ_=>aH (ao rfl)
  show(D.gm 6 (.int _) (.int _)).map (λb=> !b)=_
  rw[E7];rfl
 .rw[MX];exact M5 (Nv ..) (by exact av.lv c rfl)
theorem vZ (g:DG S U G)(i:Gt S){T:List Nat}(h0:0∈T)(j:∀x∈T,x<6)(hn:T.Nodup)(hx:x<6):(T.filter λt=>decide (x∈G T t)).length=1↔ ∀t∈T, ∀u∈T,fV S T t x->fV S T u x->t=u:=by
 have c:∀{t},t∈T.filter (λt=>decide (x∈G T t))↔t∈T/\fV S T t x:=by
  intro t
  rw[Nt,Nd]
  exact and_congr_right λa=>(g T t (j t a)).2 x
 have d:=hn.filter λt=>decide (x∈G T t)
 generalize T.filter (λt=>decide (x∈G T t))=L at c d
 refine⟨λk t ht u l f m=>ak (List.length_eq_one_iff.mp k) λa e=>(Nh.mp (e▸c.mpr ⟨ht,f⟩)).trans (Nh.mp (e▸c.mpr ⟨l,m⟩)).symm,λh=>af (Bz i h0 hx) λt ht f=>?_⟩
 cases L with
 |nil=>exact absurd (c.mpr ⟨ht,f⟩) Nl
 |cons a L=>
  cases L with
  |nil=>rfl
  |cons b L=>exact au (c.mp (Nf ..)) λo p=>au (c.mp (Nj _ (Nf ..))) λb1 b2=>absurd (h a o b b1 p b2▸Nf ..) (NA.mp d).1
theorem FK (c:DG S U G)(d:Gt S){T:List Nat}(h0:0∈T)(f:∀x∈T,x<6)(hn:T.Nodup)(i:∀x,x<6->x∉T->x∈O)(a:∀x∈O,x<6):B2 G O T=[]↔ku S T:=by
 unfold B2
 rw[Pc]
 refine⟨λh x hx b=>(vZ c d h0 f hn hx).mp ?_,λh x hx q=>au (M9.mp q) λj g=>?_⟩
 .have q:=h x (i x hx b)
  by_cases e:((((T.filter λt=>decide (x∈G T t)).length:Nat):Int)==1)=true
  .exact O5 (NJ.mp e)
  .exact absurd (by rw[Nq b,eq_false_of_ne_true e];rfl) q
 .rw[(vZ c d h0 f hn (a x hx)).mpr (h x (a x hx) (Nr j))] at g
  exact nb g
end
section
variable {S:List (List Nat)}{U:UT}{N:NT}{n:Nat}{Z:St}{x y z:Nat}{st O M:List Nat}{G:List Nat->Nat->List Nat}
theorem qa (g:Gt S){T:List Nat}(h0:0∈T)(b:∀x∈T,x<6)(h:ku S T):bW S T:=λz a _ c=>sd g h0 h a (b z a) c
noncomputable def others (st:List Nat):List Nat:=(List.range 6).filter λx=>decide (x∉st)
theorem ft:x∈others st↔x<6/\x∉st:=by unfold others;rw[Nt,Ng,Nd]
theorem jl:(others st).length<=6:=M4 (Nv ..) (NR Nk)
noncomputable def gF (st:List Nat)(b:Nat):List Nat:=st++pick (others st) b
theorem B3 {b:Nat}(a:∀x∈st,x<6):∀x∈gF st b,x<6:=λx hx=>(NK.mp hx).elim (a x) λh=>(ft.mp (iC.subset h)).1
theorem yD {b:Nat}(d:st.Nodup):(gF st b).Nodup:=Oz.mpr ⟨d,iC.nodup (Pb.filter _),λa f c g e=>(ft.mp (iC.subset g)).2 (e▸f)⟩
theorem FL (a:∀x∈st,x∈M)(g:∀x∈M,x<6):∃b,b<2^(others st).length/\ ∀x,x∈gF st b↔x∈M:=by
 refine⟨sB (λk=>decide (∃y,(others st)[k]?=some y/\y∈M)) (others st).length,BH _ _,λx=>?_⟩
 unfold gF
 rw[NK,BW]
 refine⟨λh=>h.elim (a x) λh=>af h λk d f=>?_,λh=>(Decidable.em (x∈st)).imp id λhs=>ak (O4 (ft.mpr ⟨g x h,hs⟩)) λk c=>⟨k,c,?_⟩⟩
 .rw[uw _ (Ny.mp d).1,Nd] at f
  exact af f λy e i=>MW (e.symm.trans d)▸i
 .rw[uw _ (Ny.mp c).1,Nd]
  exact⟨x,c,h⟩
structure LI (S:List (List Nat))(st:List Nat)(W:List (List Nat))(b:Nat)(Z:St):Prop where
 v0:Z 0=some (.val (nl st))
 v1:Z 1=some (.val (.list (S.map nl)))
 v2:Z 2=some (.val (nl (others st)))
 v3:Z 3=some (.own (.list (W.map nl)))
 len:W.length<=b
 all:∀w∈W, ∃T:List Nat,(∀x∈st,x∈T)/\(∀x∈T,x<6)/\ku S T/\w=fW T
 has:∀b',b'<b->ku S (gF st b')->fW (gF st b')∈W
noncomputable abbrev B4:List MS:=[
  .asg 6 BX,
  .asg 8 BY,
  .iff (.cmp .Eq I8 (.list [])) [
   .append 3 (.fn .sset [ME.var 6])] []]
theorem ux (g:Gt S)(v:DG S U G)(h0:0∈st)(l:st.Nodup)(d:∀x∈st,x<6){W:List (List Nat)}{b:Nat}(hb:b<64)(I:LI S st W b Z):
  ∃Z' C,ay (ex U N (n+2)) B4 (Z.set 5 (.val (.int (b:Int))))=some (.next,Z')/\LI S st C (b+1) Z':=by
 have hn:(gF st b).Nodup:=yD l
 have a:∀x∈gF st b,x<6:=B3 d
 have A:=bc hn a
 have s1:=bg (U:=U) (N:=N) (n:=n+1) (i:=6) (B0 (Z:=Z.set 5 (.val (.int (b:Int)))) (b:=b) jl (bc l d) I.v0 I.v2 rfl)
 have B:=bg (U:=U) (N:=N) (n:=n+1) (i:=8) (B1 (Z:=(Z.set 5 (.val (.int (b:Int)))).set 6 (.val (nl (gF st b)))) v a A I.v1 rfl)
 have o:(ev U 40).t ((((Z.set 5 (.val (.int (b:Int)))).set 6 (.val (nl (gF st b)))).set 8 (.val (.list ((gF st b).map λt=>nl (G (gF st b) t)))))) (.cmp .Eq I8 (.list []))=some ((B2 G (others st) (gF st b)).map λ(k:Nat)=>D.int (k:Int)).isEmpty:=
  aS (aB rfl (I9 (G:=G) (T:=gF st b) jl A I.v2 rfl rfl)) (aB rfl rfl) eq_nil
 have p:=FK (G:=G) v g (T:=gF st b) (Oq _ h0) a hn (O:=others st) (λx hx s=>ft.mpr ⟨hx,λq=>s (Oq _ q)⟩) λx hx=>(ft.mp hx).1
 have m:∀{f},f<b+1->f≠b->f<b:=λh e=>Nat.lt_of_le_of_ne (N0 h) e
 by_cases hbad:B2 G (others st) (gF st b)=[]
 .have u:=p.mp hbad
  rw[hbad] at o
  refine⟨_,W++[fW (gF st b)],ae s1 (ae B (ae (cQ o (λ_=>ae (fq (cE rfl (aa (v_var rfl) aj) (FG hn a)) I.v3 (by rw[MX];exact lu (M5 I.len hb) rfl)) rfl) λh=>nb h.symm) rfl)),I.v0,I.v1,I.v2,?_,?_,λw p=>(NK.mp p).elim (I.all w) λh=>⟨gF st b,λx hx=>Oq _ hx,a,u,Nh.mp h⟩,λf j c=>?_⟩
  .show some (_root_.av.Slot.own (.list _))=some (.own (.list _))
   rw[Nu];rfl
  .rw[Ni];exact Nat.add_le_add_right I.len 1
  .by_cases r:f=b
   .exact OW _ (Nh.mpr (MY (λb=>fW (gF st b)) r))
   .exact Oq _ (I.has f (m j r) c)
 .rw[List.isEmpty_eq_false_iff.mpr λq=>hbad (List.map_eq_nil_iff.mp q)] at o
  exact⟨_,W,ae s1 (ae B (ae (cQ o nb λ_=>rfl) rfl)),I.v0,I.v1,I.v2,I.v3,Oy I.len,I.all,λf j c=>I.has f (m j λr=>hbad (p.mpr (r▸c))) c⟩
noncomputable abbrev Ja:ME:=ME.comp (.var 6) [4] (MG.mk (.one 6) (.var 3) [ME.cmp .NotIn (.var 4) (.var 6)]) []
noncomputable abbrev Mi:ME:=ME.comp (.var 4) [0] (MG.mk (.one 4) (.range [ME.int 6]) [ME.cmp .NotIn (.var 4) (.var 0)]) []
theorem least (g:Gt S)(H:DG S U G)(h0:0∈st)(v:st.Nodup)(s:∀x∈M,x<6)(l:∀x∈st,x∈M)(J:bW S M)(t:∀T:List Nat,(∀x∈st,x∈T)->bW S T-> ∀x∈M,x∈T):
  rF U N Mf [nl st,.list (S.map nl)]=some (nl (fW M)):=by
 have m:∀x∈st,x<6:=λx hx=>s x (l x hx)
 have j:=jl (st:=st)
 have f:2^(others st).length<=64:=Nat.pow_le_pow_right (by decide) j
 refine ak (⟨_,rfl⟩:∃Z:St,(λi=>(([nl st,.list (S.map nl)]:List D)[i]?).map .val)=Z) λZ p=>?_
 have E:Z 0=some (.val (nl st)):=(Nm p 0).symm
 have K:(ev U 40).m Z Mi=some (nl (others st)):=by
  refine aV (λy=>if decide (y∉st)=true then[.int (y:Int)] else[]) (aI (aa rfl aj) (range_one (n:=6) (by decide))) (λy _=>?_) aO (by rw[MX];exact lv j rfl)
  exact aF rfl (a7 (aS (v_var rfl) (v_var (by exact E)) dn)) λ_=>aH (ao rfl)
 refine af (cL (c:=λ(k:Nat)=>D.int (k:Int)) (b:=ay (ex U N 11) B4) (Z0:=λZ d=>bB Z (.one 5) d) (n:=2^(others st).length) (Z:=(Z.set 2 (.val (nl (others st)))).set 3 (.own (.list []))) (λk Z=>∃W,LI S st W k Z)
  (λb hb Z A=>ak A λW I=>aW (ux (U:=U) (N:=N) (n:=9) g H h0 v m (NF hb f) I) λB P Q R=>⟨_,B,rfl,Q,P,R⟩) ⟨[],E,(Nm p 1).symm,rfl,rfl,NB _,λw h=>absurd h Nl,λb' h=>absurd h (OL _)⟩) λa V A=>ak A λW I=>?_
 refine af (FL l s) λbs C r=>?_
 have u:fW M∈W:=yC r▸I.has bs C (pU g (B3 m) λz X y Y=>(r y).mpr (J z ((r z).mp X) y Y))
 have hq:(List.range 6).filter (λx=>(W.filter λw=>decide (x∉w)).isEmpty)=fW M:=OQ λx hx=>by
  rw[Oj,List.isEmpty_iff,Pc,Nd]
  exact⟨λh=>OZ λq=>h _ u (Nq λq2=>q (iU.mp q2).2),λh w hw=>ni (I.all w hw) λT F h2 h3 e q=>Nr q (e▸iU.mpr ⟨Ng.mp hx,t T F (qa g (F 0 h0) h2 h3) x h⟩)⟩
 have e4:∀{x:Nat},(ev U 39).t (St.set (St.cut a [3]) 4 (.val (.int (x:Int)))) (.cmp .Eq Ja (.list []))=some (W.filter λw=>decide (x∉w)).isEmpty:=by
  intro x
  have e:(ev U 37).m (St.set (St.cut a [3]) 4 (.val (.int (x:Nat)))) Ja=some (.list ((W.filter λw=>decide (x∉w)).map nl)):=by
   refine aV (c:=nl) (λw=>if decide (x∉w)=true then[nl w] else[]) (mP rfl (dU (by exact I.v3)) rfl) (λw _=>?_) aO ?_
   .exact aF rfl (a7 (aS (v_var rfl) (v_var rfl) dn)) λ_=>aH (ao rfl)
   .rw[MX];exact lv (M4 (Nv ..) (M4 I.len f)) rfl
  refine(aS (aB rfl e) (aB rfl rfl) eq_nil).trans (MY some ?_)
  cases W.filter λw=>decide (x∉w)<;>rfl
 have e5:(ev U 40).m a (.comp (.var 4) [3] (MG.mk (.one 4) (.range [ME.int 6]) [ME.cmp .Eq Ja (.list [])]) [])=some (nl (fW M)):=by
  refine aV (λx=>if(W.filter λw=>decide (x∉w)).isEmpty=true then[.int (x:Int)] else[]) (aI (aa rfl aj) (range_one (n:=6) (by decide))) (λx _=>aF rfl (a7 e4) λ_=>aH (ao rfl)) (aO.trans (by rw[hq])) ?_
  rw[MX];exact lv (M4 (Nv ..) (NR Nk)) rfl
 refine dR (Z:=a.set 11 (.val (nl (fW M)))) (p▸ae (ey (aa K (aa rfl aj)) rfl) (ae (eJ rfl (aI (aa (ar (aB rfl rfl) (aB rfl (cE rfl (aa (v_var rfl) aj) (len_own (by rw[MX];exact lv j rfl)))) ?_) aj) (range_one (n:=2^(others st).length) (lv f rfl))) V) (ae (bg e5) (bA (eK (Z:=a.set 11 (.val (nl (fW M)))) ?_)))))
 .rw[MX,pow_int ⟨NG _,Ot.mpr (lw j rfl),by decide⟩,Oc,Int.natCast_pow];rfl
 .have f3:(a.set 11 (.val (nl (fW M)))).free 3=some (.val (.list (W.map nl))):=MY (λo=>Option.bind o _) I.v3
  refine(gL (x:=nl (fW M)) (y:=.list []) (aS (v_var rfl) (v_var f3) I6) (λ_=>ao rfl) λ_=>rfl).trans ?_
  rw[M7 (Nq u)]
end
section
variable {S:List (List Nat)}{d:Nat->Nat->Bool}{p:Nat->Nat}{nm:Nat->Str}{U:UT}{N:NT}{n:Nat}{Z:St}{x y z:Nat}{M:List Nat}{ν:Nat->Nat}
noncomputable def m3 (P:List Nat)(k s:Nat):List Nat:=(List.range k).filter λi=>P[i]?==some s
noncomputable def ent (nm:Nat->Str)(ν:Nat->Nat)(T:List Nat)(s:Nat):D:=.tup [.int (T.length:Nat),.int ((T.length*s:Nat):Int),.int (T.sum:Nat),.int (-((T.sum*s:Nat):Int)),gP (if T=[] then[] else[(nm (ν s),(T.length:Int))])]
theorem B5 {P:List Nat}{k s y:Nat}(h:P.length=k+1):m3 (P++[y]) (k+1) s=m3 P k s++if P[k]?=some s then[k] else[]:=by
 unfold m3
 rw[List.range_succ,List.filter_append,OQ (q:=λi=>P[i]?==some s) λi hi=>by rw[Of (h.symm▸OF (Ng.mp hi))],Om,Of (NR h.symm)]
 by_cases hs:P[k]?=some s
 .rw[M7 (NJ.mpr hs),M7 hs];rfl
 .rw[M8 λq=>hs (NJ.mp q),M8 hs];rfl
theorem uy {P:List Nat}{k s:Nat}:(m3 P k s).length<=k:=M4 (Nv ..) (NR Nk)
theorem FN {b:Nat}{l:List Nat}(h:∀x∈l,x<=b):l.sum<=l.length*b:=by
 induction l with
 |nil=>exact Ou _
 |cons x l a=>
  rw[List.sum_cons,List.length_cons,Nat.succ_mul,O3]
  exact NY (a λy c=>h y (Nj _ c)) (h x (Nf ..))
theorem FO {P:List Nat}{k s:Nat}(a:k<=12):(m3 P k s).sum<=144:=
 M4 (FN (b:=12) λx hx=>M4 (ND (Ng.mp (Nt.mp hx).1)) a) (Nat.mul_le_mul_right 12 (M4 uy a))
def LR (U:UT):Prop:= ∀(a b c d e f g h:Int) (L:List (Str×Int)) (s:Str),(L.map (·.1)).Nodup->L.length<1000->U 3 [.tup [.int a,.int b,.int c,.int d,gP L],.tup [.int e,.int f,.int g,.int h,gP [(s,1)]]]=some (.tup [.int (e+a),.int (f+b),.int (g+c),.int (h+d),gP (bump s 1 L)])
structure Jb (S:List (List Nat))(p:Nat->Nat)(nm:Nat->Str)(M:List Nat)(ν:Nat->Nat)(sums:List Nat)(xs:List D)(k:Nat)(P:List Nat)(Z:St):Prop where
 v0:Z 0=some (.val (nl sums))
 v1:Z 1=some (.val (.list (S.map nl)))
 v2:Z 2=some (.val (nl M))
 v3:Z 3=some (.val (jN p))
 v4:Z 4=some (.val (jX nm))
 v5:Z 5=some (.ext xs)
 v6:Z 6=some (.own (.list ((List.range 6).map λs=>ent nm ν (m3 P k s) s)))
 v7:Z 7=some (.own (nl P))
 v8:∃last:Nat,Z 8=some (.val (.int (last:Int)))/\(k=0->last=0/\P[0]?=some 0)/\(0<k-> ∃q r,P[k]?=some r/\last=ν q/\q<6/\(r∈S.getD q []\/r=0))
 len:P.length=k+1
 lt:∀x∈P,x<6
noncomputable abbrev KY:List MS:=[
  .asg 10 (.idx (.var 7) (.var 9)),
  .asg 8 (.ite (.cmp .In (.var 10) (.var 2)) (.var 10) (.var 8)),
  .setItem 6 (.var 10) (.fn (.user 3) [ME.idx (.var 6) (.var 10),ME.tup [ME.int 1,ME.var 10,ME.var 9,ME.bin .Mult (.neg (.var 9)) (.var 10),ME.dict [((.idx (.var 4) (.var 8)),ME.int 1)]]]),
  .append 7 (.ite (.cmp .NotEq (.idx (.var 1) (.var 10)) (.list [])) (.idx (.idx (.var 1) (.var 10)) (.bin .Mod (.bin .FloorDiv (.idx (.var 0) (.bin .Mod (.var 9) (.int 9))) (.bin .Pow (.int 3) (.bin .FloorDiv (.var 9) (.int 9)))) (.fn .len [ME.idx (.var 1) (.var 10)]))) (.int 0))]
theorem cR {a b:Nat}(h:b≠0)(hb:b<2^30):D.bin .FloorDiv (.int (a:Int)) (.int (b:Int))=some (.int ((a/b:Nat):Int)):=by
 rw[pS (Int.ofNat_ne_zero.mpr h) (by exact hb),Int.fdiv_eq_ediv_of_nonneg _ (NG _), <-Int.natCast_ediv]
theorem bX {a b:Nat}(h:b≠0):D.bin .Mod (.int (a:Int)) (.int (b:Int))=some (.int ((a%b:Nat):Int)):=by
 rw[mod_int (Int.ofNat_ne_zero.mpr h),Int.fmod_eq_emod_of_nonneg _ (NG _)];rfl
theorem jP {a b:Nat}(c:a<2^64)(hb:b<=64):D.bin .Pow (.int (a:Int)) (.int (b:Int))=some (.int ((a^b:Nat):Int)):=by
 rw[pow_int ⟨by exact NG _,by exact Ot.mpr hb,by exact c⟩,Oc,Int.natCast_pow]
theorem ne_nil {l:List Nat}:D.cmp .NotEq (nl l) (.list [])=some (!l.isEmpty):=by cases l<;>rfl
theorem B6 {T:List Nat}{s k:Nat}:bump (nm (ν s)) 1 (if T=[] then[] else[(nm (ν s),(T.length:Int))])=[(nm (ν s),((T++[k]).length:Int))]:=by
 cases T with
 |nil=>rfl
 |cons a T=>rw[M8 (List.cons_ne_nil a T),eY,M7 rfl,Ni];rfl
theorem oF {T:List Nat}{s:Str}:((if T=[] then[] else[(s,(T.length:Int))]:List (Str×Int)).map (·.1)).Nodup/\(if T=[] then[] else[(s,(T.length:Int))]:List (Str×Int)).length<1000:=by
 cases T with
 |nil=>exact⟨N6,Oh _⟩
 |cons a T=>exact⟨NA.mpr ⟨Nl,N6⟩,(by decide:1<1000)⟩
theorem B7 (a:LR U){T:List Nat}{s k:Nat}:U 3 [ent nm ν T s,.tup [.int 1,.int (s:Int),.int (k:Int),.int (-(k:Int)*(s:Int)),gP [(nm (ν s),1)]]]=some (ent nm ν (T++[k]) s):=by
 refine(a _ _ _ _ _ _ _ _ _ _ oF.1 oF.2).trans ?_
 rw[B6 (k:=k)]
 unfold ent
 rw[M8 (List.append_ne_nil_of_right_ne_nil T (List.cons_ne_nil k [])),Ni,List.sum_append,Int.add_comm 1,Int.neg_mul, <-Int.neg_add]
 have b:(s:Int)+((T.length*s:Nat):Int)=(((T.length+[k].length)*s:Nat):Int):=MY Int.ofNat ((O3 ..).trans (Nat.succ_mul ..).symm)
 have c:(k:Int)+(T.sum:Int)=((T.sum+[k].sum:Nat):Int):=Int.add_comm ..
 have e:(k:Int)*(s:Int)+((T.sum*s:Nat):Int)=(((T.sum+[k].sum)*s:Nat):Int):=MY Int.ofNat ((O3 ..).trans (Nat.add_mul T.sum k s).symm)
 rw[b,c,e];rfl
noncomputable abbrev KZ:ME:=ME.ite (.cmp .NotEq (.idx (.var 1) (.var 10)) (.list [])) (.idx (.idx (.var 1) (.var 10)) (.bin .Mod (.bin .FloorDiv (.idx (.var 0) (.bin .Mod (.var 9) (.int 9))) (.bin .Pow (.int 3) (.bin .FloorDiv (.var 9) (.int 9)))) (.fn .len [ME.idx (.var 1) (.var 10)]))) (.int 0)
theorem FQ (g:Gt S){sums:List Nat}(hs:sums.length=10){k h:Nat}(B:k<12)(m:h<6):∃y,y<6/\(y∈S.getD h []\/y=0)/\ ∀{Z':St},Z' 0=some (.val (nl sums))->Z' 1=some (.val (.list (S.map nl)))->Z' 9=some (.val (.int (k:Int)))->Z' 10=some (.val (.int (h:Int)))->(ev U 40).m Z' KZ=some (.int (y:Int)):=by
 have t:D.index (.list (S.map nl)) (.int (h:Int))=some (nl (S.getD h [])):=bC (by rw[Nz,g.toGr.row m];rfl) (lu m rfl)
 have u:∀{Z':St},Z' 1=some (.val (.list (S.map nl)))->Z' 10=some (.val (.int (h:Int)))->(ev U 39).t Z' (.cmp .NotEq (.idx (.var 1) (.var 10)) (.list []))=some (!(S.getD h []).isEmpty):=λf e=>aS (aZ f (aK (v_var f) (ao e) t)) (aB rfl rfl) ne_nil
 have j:(S.getD h []).length<=6:=bc g.toGr.uo λy l=>(g.toGr.iy l).2
 have o:∀{y},y∈S.getD h []->y<6:=λl=>(g.toGr.iy l).2
 generalize S.getD h []=r at t u j o
 cases r with
 |nil=>exact⟨0,by decide,.inr rfl,λh0 f w e=>gL (p:=false) (x:=.int 0) (u f e) nb λ_=>rfl⟩
 |cons a r=>
  have i:0<(a::r).length:=Oh _
  have A:sums[k%9]?=some (sums.getD (k%9) 0):=by rw[Nb,Nc (hs.symm▸lu (N3 k (by decide:0<9)) rfl)];rfl
  generalize sums.getD (k%9) 0=v at A
  have q:v/3^(k/9)%(a::r).length<(a::r).length:=N3 _ i
  refine ak (⟨_,Nc q⟩:∃y,(a::r)[v/3^(k/9)%(a::r).length]?=some y) λy l=>?_
  have s:k/9<=1:=Nat.div_le_div_right (c:=9) (N0 B)
  exact⟨y,o (Nw l),.inl (Nw l),λh0 f w e=>gL (p:=true) (y:=.int 0) (u f e) (λ_=>aK (aZ f (aK (v_var f) (ao e) t)) (ar (aB rfl (ar (aZ h0 (aK (v_var h0) (ar (v_var w) (aB rfl rfl) (bX (b:=9) (by decide))) (dB A (lu (N3 _ (by decide)) rfl)))) (aB rfl (ar (aB rfl rfl) (aB rfl (ar (v_var w) (aB rfl rfl) (cR (b:=9) (by decide) (by decide)))) (jP (a:=3) (by decide) (lw s rfl)))) (cR (N4 (Nat.pow_pos (by decide))) (lv (Nat.pow_le_pow_right (by decide:0<3) s) rfl))))
    (aB rfl (cE rfl (aa (aZ f (aK (v_var f) (ao e) t)) aj) (len_own (by rw[MX];exact lv j rfl)))) (by rw[MX];exact bX (N4 i))) (dB l (lu (NF q j) rfl))) λC=>nb C.symm⟩
theorem B8 (g:Gt S)(R:LR U)(B:0∈M)(T:bW S M)(w:∀z∈M,z<6)(t:∀s,s<6->kq S M s (ν s)){sums:List Nat}(hs:sums.length=10){k:Nat}{P:List Nat}(E:k<12)(I:Jb S p nm M ν sums xs k P Z):
  ∃Z' V,ay (ex U N (n+1)) KY (Z.set 9 (.val (.int (k:Int))))=some (.next,Z')/\Jb S p nm M ν sums xs (k+1) V Z':=by
 have j:=I.len
 refine ak (⟨_,Nc (NR j.symm)⟩:∃h,P[k]?=some h) λh hh=>?_
 have b:=I.lt h (Nw hh)
 refine bf I.v8 λlast v8 W X=>?_
 have A:(if h∈M then h else last)=ν h:=by
  by_cases m:h∈M
  .rw[M7 m];exact iS g w (kr m) (t h b)
  .rw[M8 m]
   refine(Nat.eq_zero_or_pos k).elim (λu=>absurd ((MW ((u▸hh).symm.trans (W u).2):h=0).symm▸B) m) λu=>jb (X u) λq r hr e Y c=>?_
   rw[MW (hr.symm.trans hh)] at c
   exact c.elim (λc=>e.trans (iS g w (oE T c m (t q Y)) (t h b))) λq=>absurd (q.symm▸B) m
 have s1:=bg (U:=U) (N:=N) (n:=n) (i:=10) (Z:=Z.set 9 (.val (.int (k:Int)))) (e:=ME.idx (.var 7) (.var 9)) (aK (dU I.v7) (ao rfl) (dB hh (lu E rfl)))
 have e2:(ev U 40).m ((Z.set 9 (.val (.int (k:Int)))).set 10 (.val (.int (h:Int)))) (.ite (.cmp .In (.var 10) (.var 2)) (.var 10) (.var 8))=some (.int (ν h:Int)):=by
  refine(gL (aS (v_var rfl) (v_var (by exact I.v2)) rT) (λ_=>ao rfl) λ_=>ao (by exact v8)).trans ?_
  rw[<-A]
  by_cases m:h∈M
  .rw[M7 (Nq m),M7 m]
  .rw[M8 λq=>m (Nr q),M8 m]
 have H:=bg (U:=U) (N:=N) (n:=n) (i:=8) e2
 generalize a:((Z.set 9 (.val (.int (k:Int)))).set 10 (.val (.int (h:Int)))).set 8 (.val (.int (ν h:Int)))=C at H
 have J:=(Nm a 0).symm.trans I.v0
 have K:=(Nm a 1).symm.trans I.v1
 have L:=(Nm a 6).symm.trans I.v6
 have w7:=(Nm a 7).symm.trans I.v7
 have O:C 8=some (.val (.int (ν h:Int))):=(Nm a 8).symm
 have F:C 9=some (.val (.int (k:Int))):=(Nm a 9).symm
 have o:C 10=some (.val (.int (h:Int))):=(Nm a 10).symm
 have e3:(ev U 40).m C (.fn (.user 3) [ME.idx (.var 6) (.var 10),ME.tup [ME.int 1,ME.var 10,ME.var 9,ME.bin .Mult (.neg (.var 9)) (.var 10),ME.dict [((.idx (.var 4) (.var 8)),ME.int 1)]]])=some (ent nm ν (m3 P k h++[k]) h):=
  d3 (aa (aK (dU L) (ao o) (bC (aM (f:=λs=>ent nm ν (m3 P k s) s) b) (lu b rfl))) (aa (iq (by decide) (aa rfl (aa (ao o) (aa (ao F) (aa (ar (aB rfl (mO (ao F))) (v_var o) (mul_int (by rw[Int.natAbs_neg];exact lu E rfl) (by exact lu b rfl))) (aa (pP (aK (v_var ((Nm a 4).symm.trans I.v4)) (ao O) (gB (w _ (t h b).1))) rfl) aj)))))) aj)) (B7 R)
 have Q:=ki (U:=U) (N:=N) (n:=n) (i:=6) (k:=h) (xs:=(List.range 6).map λs=>ent nm ν (m3 P k s) s) e3 (ao (i:=10) o) L (by rw[MX,Nk];exact b) (by rw[MX,Nk];decide)
 rw[iT] at Q
 refine bf (FQ (U:=U) g hs E b) λy G hy e4=>?_
 have s4:=fq (U:=U) (N:=N) (n:=n) (i:=7) (e4 (Z':=C.set 6 (.own (.list ((List.range 6).map λs=>if s=h then ent nm ν (m3 P k h++[k]) h else ent nm ν (m3 P k s) s)))) J K F o) w7 (by rw[MX,j];exact lu (Nat.succ_lt_succ E) rfl)
 refine⟨_,P++[y],ae s1 (ae H (ae Q (ae s4 rfl))),J,K,(Nm a 2).symm.trans I.v2,(Nm a 3).symm.trans I.v3,(Nm a 4).symm.trans I.v4,(Nm a 5).symm.trans I.v5,MY (λl=>some (_root_.av.Slot.own (.list l))) (N2 λs _=>?_),?_,⟨ν h,O,λq=>absurd q (Nat.succ_ne_zero k),λ_=>⟨h,y,?_,rfl,b,hy⟩⟩,by rw[Ni,j];rfl,λx hx=>(NK.mp hx).elim (I.lt x) λhx=>Nh.mp hx▸G⟩
 .rw[B5 j,hh]
  by_cases v:s=h
  .rw[M7 v,v,M7 rfl]
  .rw[M8 v,M8 λq=>v (MW q).symm,NP]
 .show some (_root_.av.Slot.own (.list _))=some (.own (.list _))
  rw[Nu];rfl
 .rw[List.getElem?_append_right (NR j),j,Nat.sub_self];rfl
theorem FT (t:Tree S d p)(c:y∉M)(h0:0<y)(a:y<6)(h:kq S M (p y) u):kq S M y u:=
 eU h λe f g=>kS (t.is h0 a) λk l i m=>⟨e,f.trans i,λz b j=>g z b (((t.split h0 a).mp j).resolve_left λq=>c (q▸b))⟩
theorem oG (t:Tree S d p)(f:0∈M){k:Nat}:∀{y:Nat}{Z:St},(eM d y).length<=k->y<6->Z 2=some (.val (nl M))->Z 3=some (.val (jN p))->Z 13=some (.val (.int (y:Int)))->
  ∃Z' u,cy (λZ=>(ev U 40).t Z (.cmp .NotIn (.var 13) (.var 2))) (ay (ex U N (n+1)) [.asg 13 (.idx (.var 3) (.var 13))]) (k+1) Z=some (.next,Z')/\kq S M y u/\Z' 13=some (.val (.int (u:Int)))/\ ∀i,i≠13->Z' i=Z i:=by
 induction k with
 |zero=>exact λg a _ _ _=>absurd (List.length_pos_of_mem (ez.mpr ⟨a,(t.db _ _ a a).mpr .refl⟩)) (Nat.not_lt_of_le g)
 |succ k l=>
  intro y Z g a h j b
  have e:(ev U 40).t Z (.cmp .NotIn (.var 13) (.var 2))=some (decide (y∉M)):=aS (v_var b) (v_var h) dn
  by_cases c:y∈M
  .rw[NQ λq=>q c] at e
   exact⟨Z,y,f5 e,kr c,b,λ_ _=>rfl⟩
  .rw[Nq c] at e
   have h0:0<y:=OO λq=>c (q▸f)
   exact jb (l (y:=p y) (Z:=Z.set 13 (.val (.int (p y:Int)))) (N0 (NF (OV (N7 _) (t.deep h0 a)) g)) (t.is h0 a).1 h j rfl) λZ' u m o r s=>⟨Z',u,d9 e (ae (bg (aK (v_var j) (ao b) ((mY a).trans (MY (λx=>some (D.int x)) (M8 (N4 h0)))))) rfl) m,FT t c h0 a o,r,λi hi=>(s i hi).trans (M8 hi)⟩
theorem FU (t:Tree S d p)(a:0∈M)(b:y<6):∃u,kq S M y u:=
 jb (oG (U:=λ_ _=>none) (N:=λ_ _ _=>none) (n:=0) (k:=6) (Z:=λi=>if i=2 then some (.val (nl M)) else if i=3 then some (.val (jN p)) else some (.val (.int (y:Int)))) t a kz b rfl rfl rfl) λ_ u _ h _ _=>⟨u,h⟩
theorem sum_nat {l:List Nat}:(l.map λ(k:Nat)=>(k:Int)).sum=(l.sum:Nat):=by
 induction l with
 |nil=>rfl
 |cons x l a=>rw[Ob,List.sum_cons,a,List.sum_cons,Int.natCast_add]
theorem uz {l:List Nat}:fN U .sum [nl l]=some (.int (l.sum:Nat)):=by
 show(D.ints (l.map λ(k:Nat)=>D.int (k:Int))).map (λis=>D.int is.sum)=_
 rw[jO, <-sum_nat];rfl
theorem iD {l:List Nat}(h:l.length<1000):fN U .len [nl l]=some (.int (l.length:Nat)):=by
 refine(len_own (by rw[MX];exact av.lu h rfl)).trans ?_
 rw[MX]
theorem v9 {k:Nat}{b:Int}:D.nj (k+1) (.int a) (.int b)=some (a==b):=rfl
theorem fu (k:Nat)(a:Int):D.nj (k+1) (.int a) (.int a)=some true:=MY some (O8 a)
theorem fw {f:D->D->Option Bool}{x y:D}(h:f x y=some true)(a:cB f xs ys=some true):cB f (x::xs) (y::ys)=some true:=by
 show(match f x y,cB f xs ys with
  |some b,some c=>some (b&&c)
  |_,_=>none)=_
 rw[h,a];rfl
theorem B9 {T:List Nat}{s:Str}:D.nj 5 (gP (if T=[] then[] else[(s,(T.length:Int))])) (if(!decide (T=[]))=true then .dict [s] [.int (T.length:Nat)] else .dict [] [])=some true:=by
 cases T with
 |nil=>rfl
 |cons a T=>
  show(match (List.idxOf? s [s]).bind λi=>[D.int ((a::T).length:Nat)][i]? with
   |some b=>(D.nj 4 (D.int ((a::T).length:Nat)) b).map (· &&true)
   |none=>_)=_
  rw[iz (i:=0) (NA.mpr ⟨Nl,N6⟩) rfl]
  show(D.nj 4 _ _).map _=_
  rw[fu];rfl
theorem Jc {T:List Nat}{s:Nat}:D.cmp .Eq (ent nm ν T s) (.tup [.int (T.length:Nat),.int ((T.length:Int)*(s:Int)),.int (T.sum:Nat),.int (-(T.sum:Int)*(s:Int)),if(!decide (T=[]))=true then .dict [nm (ν s)] [.int (T.length:Nat)] else .dict [] []])=some true:=by
 rw[Int.neg_mul]
 exact fw (fu 4 _) (fw (fu 4 _) (fw (fu 4 _) (fw (fu 4 _) (fw B9 rfl))))
theorem FV {l:List Nat}:D.cmp .NotEq (nl l) (.list [])=some (!decide (l=[])):=by cases l<;>rfl
structure FW (S:List (List Nat))(p:Nat->Nat)(nm:Nat->Str)(M:List Nat)(ν:Nat->Nat)(P:List Nat)(ys:List D)(Z:St):Prop where
 v2:Z 2=some (.val (nl M))
 v3:Z 3=some (.val (jN p))
 v4:Z 4=some (.val (jX nm))
 v5:Z 5=some (.ext ys)
 v6:Z 6=some (.own (.list ((List.range 6).map λs=>ent nm ν (m3 P 12 s) s)))
 v7:Z 7=some (.own (nl P))
noncomputable abbrev K0:List MS:=[
  .cN [(12,0),(13,0)] [ME.comp (.var 9) [11,7] (MG.mk (.one 9) (.range [ME.int 12]) [ME.cmp .Eq (.idx (.var 7) (.var 9)) (.var 11)]) [],ME.var 11],
  .du (.cmp .NotIn (.var 13) (.var 2)) [
   .asg 13 (.idx (.var 3) (.var 13))],
  .append 5 (.cmp .Eq (.idx (.var 6) (.var 11)) (.tup [ME.fn .len [ME.var 12],ME.bin .Mult (.fn .len [ME.var 12]) (.var 11),ME.fn .sum [ME.var 12],ME.bin .Mult (.neg (.fn .sum [ME.var 12])) (.var 11),ME.ite (.cmp .NotEq (.var 12) (.list [])) (.dict [((.idx (.var 4) (.var 13)),ME.fn .len [ME.var 12])]) (.dict [])])),
  .asg 14 (.fn (.user 2) [ME.idx (.idx (.var 6) (.var 11)) (.int 4)]),
  .append 5 (.and (.cmp .Eq (.var 14) (.fn .len [ME.var 12])) (.cmp .Eq (.comp (.var 15) [] (MG.mk (.one 15) (.bin .Add (.tup [ME.var 14]) (.jc (.idx (.var 6) (.var 11)) none (some (.int 4)) none)) [ME.not (.fn .jo [ME.var 15])]) []) (.list [])))]
def K3 (U:UT):Prop:= ∀L:List (Str×Int),U 2 [gP L]=some (.int (L.map (·.2)).sum)
noncomputable abbrev HG:ME:=ME.comp (.var 9) [11,7] (MG.mk (.one 9) (.range [ME.int 12]) [ME.cmp .Eq (.idx (.var 7) (.var 9)) (.var 11)]) []
noncomputable abbrev K4:ME:=ME.comp (.var 15) [] (MG.mk (.one 15) (.bin .Add (.tup [ME.var 14]) (.jc (.idx (.var 6) (.var 11)) none (some (.int 4)) none)) [ME.not (.fn .jo [ME.var 15])]) []
noncomputable abbrev K5:ME:=ME.cmp .Eq (.idx (.var 6) (.var 11)) (.tup [ME.fn .len [ME.var 12],ME.bin .Mult (.fn .len [ME.var 12]) (.var 11),ME.fn .sum [ME.var 12],ME.bin .Mult (.neg (.fn .sum [ME.var 12])) (.var 11),ME.ite (.cmp .NotEq (.var 12) (.list [])) (.dict [((.idx (.var 4) (.var 13)),ME.fn .len [ME.var 12])]) (.dict [])])
noncomputable abbrev K6:ME:=ME.and (.cmp .Eq (.var 14) (.fn .len [ME.var 12])) (.cmp .Eq K4 (.list []))
theorem FX {P:List Nat}(f:P.length=13)(b:Z 7=some (.own (nl P)))(a:Z 11=some (.val (.int (x:Int)))):(ev U 40).m Z HG=some (nl (m3 P 12 x)):=by
 refine aV (λ(i:Nat)=>if(P[i]?==some x)=true then[.int (i:Int)] else[]) (aI (aa rfl aj) (range_one (n:=12) (by decide))) (λi hi=>?_) aO (by rw[MX];exact lv (uy (P:=P) (s:=x)) rfl)
 have hi:=Ng.mp hi
 refine ak (⟨_,Nc (f.symm▸OF hi)⟩:∃v,P[i]?=some v) λv c=>?_
 refine aF rfl (a7 (aS (mM (by exact b) (aK (dU (by exact b)) (ao rfl) (dB c (lu hi rfl)))) (v_var (by exact a)) ?_)) λ_=>aH (ao rfl)
 rw[c]
 exact MY some (Oj.mpr (by rw[NJ,NJ];exact⟨λe=>MY some (O5 e),λe=>MY Int.ofNat (MW e)⟩))
theorem Ca (t:Tree S d p)(Y:K3 U)(G:0∈M)(v:∀z∈M,z<6)(w:∀s,s<6->kq S M s (ν s)){P:List Nat}(hP:P.length=13){ys:List D}(A:ys.length<1000)(hs:x<6)(I:FW S p nm M ν P ys Z):
  ∃Z',ay (ex U N (n+2)) K0 (Z.set 11 (.val (.int (x:Int))))=some (.next,Z')/\FW S p nm M ν P (ys++[.bool true,.bool true]) Z':=by
 have g:(m3 P 12 x).length<=12:=uy
 have B:(m3 P 12 x).sum<=144:=FO (NB _)
 have s1:=ey (U:=U) (N:=N) (n:=n+1) (ts:=[(12,0),(13,0)]) (es:=[HG,ME.var 11]) (aa (FX (U:=U) (Z:=Z.set 11 (.val (.int (x:Int)))) hP I.v7 rfl) (aa (ao rfl) aj)) rfl
 refine jb (oG (U:=U) (N:=N) (n:=n) (k:=63) (Z:=((Z.set 11 (.val (.int (x:Int)))).set 12 (.val (nl (m3 P 12 x)))).set 13 (.val (.int (x:Int)))) t G (M4 kz (by decide)) hs I.v2 I.v3 rfl) λb u L O Q o=>?_
 rw[iS t.g v O (w x hs)] at Q
 have j:b 11=some (.val (.int (x:Int))):=o 11 (by decide)
 have m:b 12=some (.val (nl (m3 P 12 x))):=o 12 (by decide)
 have R:=(o 4 (by decide)).trans I.v4
 have a5:=(o 5 (by decide)).trans I.v5
 have r:=(o 6 (by decide)).trans I.v6
 have F:∀{Z':St} {k},Z' 6=some (.own (.list ((List.range 6).map λs=>ent nm ν (m3 P 12 s) s)))->Z' 11=some (.val (.int (x:Int)))->(ev U (k+2)).m Z' (.idx (.var 6) (.var 11))=some (ent nm ν (m3 P 12 x) x):=λh6 H=>
  aK (dU h6) (ao H) (bC (aM (f:=λs=>ent nm ν (m3 P 12 s) s) hs) (lu hs rfl))
 have fin:∀{V:List D} {q:St},(∀i,i=2\/i=3\/i=4\/i=6\/i=7->q i=b i)->q 5=some (.ext V)->FW S p nm M ν P V q:=λC h5=>⟨(C 2 (.inl rfl)).trans ((o 2 (by decide)).trans I.v2),(C 3 (.inr (.inl rfl))).trans ((o 3 (by decide)).trans I.v3),(C 4 (.inr (.inr (.inl rfl)))).trans R,h5,(C 6 (.inr (.inr (.inr (.inl rfl))))).trans r,(C 7 (.inr (.inr (.inr (.inr rfl))))).trans ((o 7 (by decide)).trans I.v7)⟩
 clear o O I
 generalize m3 P 12 x=T at g B m F s1 L
 have J:∀{k},(ev U (k+2)).m b (.fn .len [ME.var 12])=some (.int (T.length:Nat)):=cE rfl (aa (v_var m) aj) (iD (lv g rfl))
 have W:∀{k},(ev U (k+2)).m b (.fn .sum [ME.var 12])=some (.int (T.sum:Nat)):=cE rfl (aa (v_var m) aj) uz
 have hx:((x:Nat):Int).natAbs<2^64:=lu hs rfl
 have s3:=kn (N:=N) (n:=n+1) (i:=5) (e:=K5) (il (mM r (F r j)) (aB rfl (iq (by decide) (aa J (aa (ar (aB rfl J) (v_var j) (mul_int (by exact lv g rfl) hx)) (aa W (aa (ar (aB rfl (mO W)) (v_var j) (mul_int (by rw[Int.natAbs_neg];exact lv B rfl) hx)) (aa (gL (aS (v_var m) (aB rfl rfl) FV) (λ_=>pP (aK (v_var R) (ao Q) (gB (v _ (w x hs).1))) J) (λ_=>rfl)) aj))))))) Jc) a5 (lu A rfl)
 have e4:(ev U 40).m (b.set 5 (.ext (ys++[.bool true]))) (.fn (.user 2) [ME.idx (.idx (.var 6) (.var 11)) (.int 4)])=some (.int (T.length:Nat)):=by
  refine d3 (aa (aK (mM r (F r j)) rfl rfl) aj) ((Y _).trans ?_)
  cases T with
  |nil=>rfl
  |cons a T=>exact MY (λx=>some (D.int x)) (Int.add_zero _)
 have X:=bg (U:=U) (N:=N) (n:=n+1) (i:=14) e4
 generalize h:(b.set 5 (.ext (ys++[.bool true]))).set 14 (.val (.int (T.length:Nat)))=K at X
 have b5:K 5=some (.ext (ys++[.bool true])):=(Nm h 5).symm
 have b6:=(Nm h 6).symm.trans r
 have KO:=(Nm h 11).symm.trans j
 have E:K 14=some (.val (.int (T.length:Nat))):=(Nm h 14).symm
 have q2:(ev U 37).m K K4=some (.list []):=by
  refine aV (c:=D.int) (ys:=[(T.length:Nat),(T.length:Nat),(T.length*x:Nat),(T.sum:Nat),-(T.sum*x:Nat)]) (λ_=>[]) ?_ (λi _=>?_) rfl (by decide)
  .exact mP rfl (aB rfl (ar (aB rfl (iq (by decide) (aa (ao E) aj))) (aB rfl (kP (mM b6 (F b6 KO)) cP (ew rfl) cP rfl)) rfl)) rfl
  .exact aF (p:=false) (ys:=[]) rfl (a7 (qR (p:=true) (DF rfl (aB rfl (cE rfl (aa (v_var rfl) aj) rfl)) rfl))) nb
 have s5:=kn (N:=N) (n:=n+1) (i:=5) (e:=K6) (KL (il (v_var E) (aB rfl (cE rfl (aa (v_var ((Nm h 12).symm.trans m)) aj) (iD (lv g rfl)))) (fu 5 _)) λ_=>il (aB rfl q2) (aB rfl rfl) rfl) b5 (by rw[Ni];exact lv A rfl)
 refine⟨_,ae s1 (ae (pR L) (ae s3 (ae X (ae s5 rfl)))),fin (λi hi=>?_) (MY (λl=>some (_root_.av.Slot.ext l)) (NS ..))⟩
 have hn:i≠5/\i≠14:=hi.elim (λe=>e▸by decide) λhi=>hi.elim (λe=>e▸by decide) λhi=>hi.elim (λe=>e▸by decide) λhi=>hi.elim (λe=>e▸by decide) λe=>e▸by decide
 exact(M8 hn.1).trans ((Nm h i).symm.trans ((M8 hn.2).trans (M8 hn.1)))
theorem FY (t:Tree S d p)(A:LR U)(G:K3 U)(e:0∈M)(H:bW S M)(m:∀z∈M,z<6){sums:List Nat}(hs:sums.length=10){xs:List D}(hx:xs.length<900):
  rN U N n1 [nl sums,.list (S.map nl),nl M,jN p,jX nm] xs=some (.none,xs++List.replicate 12 (.bool true)):=by
 refine ak (Classical.skolem.mp λs=>show∃u,s<6->kq S M s u from ?_) λν o=>?_
 .by_cases h:s<6
  .exact ak (FU t e h) λu w=>⟨u,λ_=>w⟩
  .exact⟨0,λq=>absurd q h⟩
 refine ak (⟨_,rfl⟩:∃Z:St,Z=λi=>if i=5 then some (.ext xs) else(([nl sums,.list (S.map nl),nl M,jN p,jX nm]:List D)[i]?).map .val) λZ a=>?_
 have s1:ex U N 12 (.cN [(6,1),(7,1),(8,0)] [ME.bin .Mult (.list [ME.tup [ME.int 0,ME.int 0,ME.int 0,ME.int 0,ME.dict []]]) (.int 6),ME.list [ME.int 0],ME.int 0]) Z=some (.next,((Z.set 6 (.own (.list ((List.range 6).map λs=>ent nm ν (m3 [0] 0 s) s)))).set 7 (.own (nl [0]))).set 8 (.val (.int 0))):=ey rfl rfl
 refine af (cL (c:=λ(k:Nat)=>D.int (k:Int)) (b:=ay (ex U N 11) KY) (Z0:=λZ d=>bB Z (.one 9) d) (n:=12) (Z:=((Z.set 6 (.own (.list ((List.range 6).map λs=>ent nm ν (m3 [0] 0 s) s)))).set 7 (.own (nl [0]))).set 8 (.val (.int 0))) (λk Z=>∃P,Jb S p nm M ν sums xs k P Z)
  (λk r Z g=>ak g λP I=>aW (B8 (U:=U) (N:=N) (n:=10) t.g A e H m o hs r I) λf J C v=>⟨_,f,rfl,C,J,v⟩) ⟨[0],Nm a 0,Nm a 1,Nm a 2,Nm a 3,Nm a 4,Nm a 5,rfl,rfl,⟨0,rfl,λ_=>⟨rfl,rfl⟩,λh=>absurd h (Oa _)⟩,rfl,λx hx=>Nh.mp hx▸(by decide)⟩) λE K g=>ak g λP j=>?_
 refine af (cL (c:=λ(k:Nat)=>D.int (k:Int)) (b:=ay (ex U N 11) K0) (Z0:=λZ d=>bB Z (.one 11) d) (n:=6) (Z:=E) (λk Z=>FW S p nm M ν P (xs++List.replicate (2*k) (.bool true)) Z)
  (λk r Z I=>af (Ca (U:=U) (N:=N) (n:=9) t G e m o j.len (by rw[Ni,Ow];exact lu (Nat.add_lt_add hx (Nat.mul_lt_mul_of_pos_left r (by decide:0<2))) rfl) r I) λf C v=>⟨_,f,rfl,C,?_⟩) ⟨j.v2,j.v3,j.v4,j.v5.trans (MY (λl=>some (_root_.av.Slot.ext l)) (NP _).symm),j.v6,j.v7⟩) λF L O=>?_
 .rw[NS] at v
  rw[Nat.mul_add, <-OM]
  exact v
 have hr:ay (ex U N 12) n1 Z=some (.next,F):=ae s1 (ae (eJ rfl (aI (aa rfl aj) (range_one (n:=12) (by decide))) K) (ae (eJ rfl (aI (aa rfl aj) (range_one (n:=6) (by decide))) L) rfl))
 rw[a] at hr
 exact bs hr (bs O.v5 rfl)
end
structure Ws where
 n:Nat
 nt:Nat
 b:Nat
 c:List Nat
noncomputable def jQ (w:Ws):List Nat:=if w.c.length<=w.b then w.c++List.replicate (w.b - w.c.length+1) 0 else w.c
noncomputable def K7 (w:Ws):Bool->Ws
 |false=>⟨w.n+1,w.nt,w.b+1,w.c⟩
 |true=>⟨w.n+1,w.nt+1,0,(jQ w).set w.b ((jQ w).getD w.b 0+1)⟩
noncomputable def a9 (l:List Bool):Ws:=l.foldl K7 ⟨0,0,0,[]⟩
noncomputable def Ws.ind (w:Ws)(t:Nat):Nat:=w.b+t*(((List.range (w.c.length - t)).map λi=>(t+i)/t*w.c.getD (t+i) 0).sum+w.nt)
noncomputable def Ws.uA (w:Ws):Nat:=max (w.c.length - 1) w.b
noncomputable def Ws.less (v w:Ws):Bool:=if w.n<=v.n then false else if v.c.length<=1&&w.c.length<=1 then decide (v.nt<=w.nt) else
 (List.range (max v.uA w.uA)).all λt=>decide (v.ind (2+t)<w.ind (2+t))
noncomputable def HH (q j:Nat):List Bool:=[[true],[false,false],[false,false,false,true],[false,false,true,false,false],[false],[true],[true],[false,true]].getD (2*q+j) []
noncomputable def de (q a c j:Nat):List Bool:=List.replicate ((c - 1)/2 - j/2) true++HH ((q+a)%4) (j%2)
noncomputable def grow (q a c:Nat)(L:List (List Bool×Nat)):List (List Bool×Nat):=L.take (a+1)++((List.range c).map λj=>((L.getD a ([],0)).1++de q a c j,a))++L.drop (a+1)
noncomputable def Jd (n:Nat)(f:Nat->List Bool×Nat):Bool:=(List.range n).all λr=>r==0||(decide ((f r).2<r)&&
 (List.range r).all λa=>decide (a<(f r).2)||((a9 (f a).1).less (a9 (f r).1)==(a==(f r).2)))
noncomputable def fin (L:List (List Bool×Nat)):Bool:=Jd L.length λi=>L.getD i ([],0)
noncomputable def DH (q:Nat):Nat->Nat->List (List Bool×Nat)->Bool
 |0,_,L=>L.length !=6||fin L
 |k+1,a,L=>decide (L.length<=a)||(List.range (7 - L.length)).all λc=>DH q k (a+1) (grow q a c L)
theorem FZ:(List.range 4).all (λq=>DH q 6 0 [([],0)])=true:=by decide+kernel
noncomputable def zf (b:Bool):Nat:=if b then 9 else 32
noncomputable def cj (l:List Bool):Str:=⟨(l.map zf).toArray⟩
noncomputable def cD (w:Ws):D:=.tup (w.c.map λ(k:Nat)=>D.int (k:Int))
noncomputable def cg (s:Str)(w:Ws):D:=.inst [.str s,.int (w.n:Int),.int (w.nt:Int),.tup [cD w,.int (w.b:Int)],.bool (decide (w.c.length<=1))]
structure wa (k:Nat)(w:Ws):Prop where
 n:w.n<=k
 nt:w.nt<=k
 b:w.b<=k
 l:w.c.length<=k
 c:∀i,w.c.getD i 0<=k
theorem ite_le {c:Prop}[Decidable c]{b n:Nat}(d:a<=n)(hb:b<=n):(if c then a else b)<=n:=by
 by_cases h:c
 .rw[M7 h];exact d
 .rw[M8 h];exact hb
theorem Cb {l:List Nat}{i v:Nat}:(l.set i v).getD j 0=if i=j/\i<l.length then v else l.getD j 0:=by
 rw[Nb,Nb,List.getElem?_set]
 by_cases h:i=j
 .by_cases a:i<l.length
  .rw[M7 h,M7 a,M7 ⟨h,a⟩];rfl
  .rw[M7 h,M8 a,M8 λq=>a q.2,Od (h▸NU a)]
 .rw[M8 h,M8 λq=>h q.1]
theorem uB {l:List Nat}{k:Nat}:(l++List.replicate k 0).getD j 0=l.getD j 0:=by
 rw[Nb,Nb]
 by_cases h:j<l.length
 .rw[Of h]
 .rw[List.getElem?_append_right (NU h),Od (l:=l) (NU h),List.getElem?_replicate]
  by_cases h2:j - l.length<k
  .rw[M7 h2];rfl
  .rw[M8 h2]
section
variable {k i:Nat}{w:Ws}
theorem qb (h:w.c.length<=w.b):jQ w=w.c++List.replicate (w.b - w.c.length+1) 0:=M7 h
theorem lr (h:¬w.c.length<=w.b):jQ w=w.c:=M8 h
theorem wb:(jQ w).getD i 0=w.c.getD i 0:=by
 by_cases h:w.c.length<=w.b
 .rw[qb h,uB]
 .rw[lr h]
theorem Cc (h:w.c.length<=w.b):(jQ w).length=w.b+1:=by
 rw[qb h,Ni,Ow]
 exact MY Nat.succ (Nat.add_sub_of_le h)
theorem Cd:w.b<(jQ w).length:=by
 by_cases h:w.c.length<=w.b
 .rw[Cc h];exact N7 _
 .rw[lr h];exact Nat.lt_of_not_le h
theorem wc (a:wa k w):(jQ w).length<=k+1:=by
 by_cases h:w.c.length<=w.b
 .rw[Cc h];exact OD a.b
 .rw[lr h];exact Oy a.l
theorem su (h:wa k w)(x:Bool):wa (k+1) (K7 w x):=by
 cases x with
 |false=>exact⟨OD h.n,Oy h.nt,OD h.b,Oy h.l,λi=>Oy (h.c i)⟩
 |true=>
  refine⟨OD h.n,OD h.nt,Ou _,M4 (NR (List.length_set ..)) (wc h),λi=>?_⟩
  show((jQ w).set w.b ((jQ w).getD w.b 0+1)).getD i 0<=_
  rw[Cb,wb,wb]
  exact ite_le (OD (h.c _)) (Oy (h.c i))
theorem Ce {l:List Bool}:∀{k:Nat}{w:Ws},wa k w->wa (k+l.length) (l.foldl K7 w):=by
 induction l with
 |nil=>exact λh=>h
 |cons x l a=>
  intro k w h
  rw[show k+(x::l).length=k+1+l.length from(Nat.succ_add k l.length).symm]
  exact a (su h x)
theorem HJ:wa 0 ⟨0,0,0,[]⟩:=⟨NB _,NB _,NB _,NB _,λi=>NB _⟩
theorem m4 (l:List Bool):wa l.length (a9 l):=Nat.zero_add l.length▸Ce HJ
end
section
variable {U:UT}{N:NT}{n k:Nat}{Z Z':St}{e:ME}{d:D}{s:Str}{w:Ws}
theorem gc {i k:Nat}{fs:List D}(h:(ev U 40).m Z e=some d)(hi:Z i=some (.obj fs))(a:k=fs.length/\k<5):ex U N (n+1) (.setAttr i k e) Z=some (.next,Z.set i (.obj (fs++[d]))):=by
 refine bs h ?_
 rw[hi];exact M7 a
theorem F5 (h:(ev U 40).m Z e=some d):ex U N (n+1) (.chain ys e) Z=some (.next,ys.foldl (λZ y=>Z.set y (.val d)) Z):=by
 exact bs h rfl
theorem F6 {i k:Nat}(h:Z i=some (.obj vs))(a:vs[k]?=some d):(ev U (n+1)).m Z (.attr (.var i) k)=some d:=by
 show(match Z i with
  |some (.val (.inst vs))=>vs[k]?
  |some (.obj fs)=>fs[k]?
  |_=>none)=_
 rw[h];exact a
noncomputable abbrev K8:MS:=.iff (.cmp .GtE (.var 5) (.fn .len [ME.var 4])) [
     .own 4 (.bin .Add (.var 4) (.bin .Mult (.list [ME.int 0]) (.bin .Add (.bin .Sub (.var 5) (.fn .len [ME.var 4])) (.int 1))))] []
noncomputable abbrev wd:List MS:=[
  .iff (.cmp .Eq (.var 8) (.var 2)) [
   .asg 6 (.bin .Add (.var 6) (.int 1)),
   .asg 5 (.bin .Add (.var 5) (.int 1))] [
   .iff (.cmp .Eq (.var 8) (.var 3)) [
    .asg 6 (.bin .Add (.var 6) (.int 1)),
    .asg 7 (.bin .Add (.var 7) (.int 1)),
    K8,
    .setItem 4 (.var 5) (.bin .Add (.idx (.var 4) (.var 5)) (.int 1)),
    .asg 5 (.int 0)] [
    .brk]]]
structure CI (s:Str)(w:Ws)(Z:St):Prop where
 v0:Z 0=some (.obj [.str s])
 v2:Z 2=some (.val (.str " "))
 v3:Z 3=some (.val (.str "\t"))
 v4:Z 4=some (.own (nl w.c))
 v5:Z 5=some (.val (.int (w.b:Int)))
 v6:Z 6=some (.val (.int (w.n:Int)))
 v7:Z 7=some (.val (.int (w.nt:Int)))
theorem Cf {l:List Nat}(h:l.length<1000):fN U .tuple [nl l]=some (.tup (l.map λ(k:Nat)=>D.int (k:Int))):=M7 (by rw[MX];exact lu h rfl)
noncomputable def oH (c:Nat):D:=.str ⟨#[c]⟩
theorem uC {k:Nat}:(List.replicate k [D.int 0]).flatten=(List.replicate k 0).map λ(k:Nat)=>D.int (k:Int):=by
 induction k with
 |zero=>rfl
 |succ k a=>rw[List.replicate_succ,List.flatten_cons,a];rfl
theorem dp {k:Nat}:D.bin .Add (.int (k:Int)) (.int 1)=some (.int ((k+1:Nat):Int)):=rfl
theorem mul_list {b:Int}:D.bin .Mult (.list xs) (.int b)=if xs.length<2^10/\b<2^10/\ -(2^10)<b then some (.list (List.replicate b.toNat xs).flatten) else none:=rfl
theorem Cg (a:wa k w)(b:k<60)(c:Z 4=some (.own (nl w.c)))(g:Z 5=some (.val (.int (w.b:Int)))):∃Z',ex U N (n+3) K8 Z=some (.next,Z')/\Z' 4=some (.own (nl (jQ w)))/\ ∀i,i≠4->Z' i=Z i:=by
 have j:∀{m},(ev U (m+2)).m Z (.fn .len [ME.var 4])=some (.int (w.c.length:Nat)):=cE rfl (aa (dU c) aj) (iD (lu (M5 a.l b) rfl))
 have o:(ev U 40).t Z (.cmp .GtE (.var 5) (.fn .len [ME.var 4]))=some (decide ((w.c.length:Int)<=(w.b:Int))):=aS (v_var g) (aB rfl j) rfl
 by_cases h:w.c.length<=w.b
 .have hb:w.b - w.c.length+1<=60:=M4 (OD (M4 (Nat.sub_le ..) a.b)) b
  have ex:D.bin .Add (.int ((w.b:Int) - (w.c.length:Int))) (.int 1)=some (.int ((w.b - w.c.length+1:Nat):Int)):=MY (λx:Int=>some (D.int (x+1))) (Int.ofNat_sub h).symm
  have p:D.bin .Mult (.list [.int 0]) (.int ((w.b - w.c.length+1:Nat):Int))=some (.list ((List.replicate (w.b - w.c.length+1) 0).map λ(k:Nat)=>D.int (k:Int))):=by
   have f:((1024:Nat):Int)=2^10:=by decide
   rw[mul_list,M7 ⟨by decide,f▸N5.mpr (lv hb rfl),Int.lt_of_lt_of_le (by decide) (NG _)⟩]
   exact MY (λl=>some (D.list l)) uC
  refine⟨Z.set 4 (.own (nl (jQ w))),cQ o (λ_=>ae (oB (d:=nl (jQ w)) (ar (dU c) (aB rfl (ar (aB rfl (eT (by decide) (aa rfl aj))) (aB rfl (ar (aB rfl (ar (v_var g) (aB rfl j) rfl)) (aB rfl rfl) ex)) p)) ((add_lists ?_ ?_).trans ?_)) rfl) rfl) λq=>absurd (Ot.mpr h) (of_decide_eq_false q),rfl,λi hi=>M8 hi⟩
  .rw[MX];exact lu (M5 a.l b) rfl
  .rw[MX,Ow];exact lv hb rfl
  .rw[<-Nu, <-qb h];rfl
 .exact⟨Z,cQ o (λq=>absurd (Ot.mp (Nr q)) h) λ_=>rfl,by rw[lr h];exact c,λ_ _=>rfl⟩
theorem yE (b:wa k w)(c:k<60)(I:CI s w Z)(x:Bool):∃Z',ay (ex U N (n+4)) wd (Z.set 8 (.val (oH (zf x))))=some (.next,Z')/\CI s (K7 w x) Z':=by
 cases x with
 |false=>
  have f:(ev U 40).t (Z.set 8 (.val (oH (zf false)))) (.cmp .Eq (.var 8) (.var 2))=some true:=aS (v_var rfl) (v_var (by exact I.v2)) rfl
  exact⟨_,ae (cQ f (λ_=>ae (bg (ar (v_var (by exact I.v6)) (aB rfl rfl) dp)) (ae (bg (ar (v_var (by exact I.v5)) (aB rfl rfl) dp)) rfl)) λh=>nb h.symm) rfl,I.v0,I.v2,I.v3,I.v4,rfl,rfl,I.v7⟩
 |true=>
  have f:(ev U 40).t (Z.set 8 (.val (oH (zf true)))) (.cmp .Eq (.var 8) (.var 2))=some false:=aS (v_var rfl) (v_var (by exact I.v2)) rfl
  have o:(ev U 40).t (Z.set 8 (.val (oH (zf true)))) (.cmp .Eq (.var 8) (.var 3))=some true:=aS (v_var rfl) (v_var (by exact I.v3)) rfl
  have s1:=bg (U:=U) (N:=N) (n:=n+2) (i:=6) (Z:=Z.set 8 (.val (oH (zf true)))) (e:=ME.bin .Add (.var 6) (.int 1)) (ar (v_var (by exact I.v6)) (aB rfl rfl) dp)
  have p:=bg (U:=U) (N:=N) (n:=n+2) (i:=7) (Z:=(Z.set 8 (.val (oH (zf true)))).set 6 (.val (.int ((w.n+1:Nat):Int)))) (e:=ME.bin .Add (.var 7) (.int 1)) (ar (v_var (by exact I.v7)) (aB rfl rfl) dp)
  refine bf (Cg (U:=U) (N:=N) (n:=n) (Z:=((Z.set 8 (.val (oH (zf true)))).set 6 (.val (.int ((w.n+1:Nat):Int)))).set 7 (.val (.int ((w.nt+1:Nat):Int)))) b c I.v4 I.v5) λg q j a=>?_
  have m:=(a 5 (by decide)).trans I.v5
  have r:=ki (U:=U) (N:=N) (n:=n+2) (i:=4) (Z:=g) (e:=ME.bin .Add (.idx (.var 4) (.var 5)) (.int 1)) (e':=ME.var 5) (k:=w.b) (d:=.int (((jQ w).getD w.b 0+1:Nat):Int)) (ar (mM j (aK (dU j) (ao m) (dB (by rw[Nb,Nc Cd];rfl) (lu (M5 b.b c) rfl)))) (aB rfl rfl) dp) (ao m) j (by rw[MX];exact Cd) (by rw[MX];exact lv (M4 (wc b) c) rfl)
  refine⟨_,ae (cQ f nb λ_=>ae (cQ o (λ_=>ae s1 (ae p (ae q (ae r (ae (bg (d:=.int 0) rfl) rfl))))) λh=>nb h.symm) rfl) rfl,(a 0 (by decide)).trans I.v0,(a 2 (by decide)).trans I.v2,(a 3 (by decide)).trans I.v3,?_,rfl,a 6 (by decide),a 7 (by decide)⟩
  exact MY (λl=>some (_root_.av.Slot.own (.list l))) List.map_set.symm
theorem yF {rest:List D}{l:List Bool}:∀{k:Nat}{w:Ws}{Z:St},wa k w->k+l.length<60->CI s w Z-> ∃Z',ck (ay (ex U N (n+4)) wd) (λZ d=>bB Z (.one 8) d) ((l.map λb=>oH (zf b))++rest) Z=ck (ay (ex U N (n+4)) wd) (λZ d=>bB Z (.one 8) d) rest Z'/\CI s (l.foldl K7 w) Z':=by
 induction l with
 |nil=>exact λ_ _ I=>⟨_,rfl,I⟩
 |cons x l g=>
  intro k w Z f a I
  have a:k+1+l.length<60:=Nat.succ_add k l.length▸a
  exact af (yE (U:=U) (N:=N) (n:=n) f (M5 (M4 (OK k) (NM _ _)) a) I x) λZ1 h i=>af (g (su f x) a i) λc j m=>⟨c,mR rfl h j,m⟩
theorem we (a b:Str):a++b=⟨a.cps++b.cps⟩:=rfl
noncomputable def iE:Str:="x \t"
theorem sv:iE.cps.toList=[120,32,9]:=by decide+kernel
theorem yG {l:List Bool}:(cj l++iE).cps.toList.map (λc=>D.str ⟨#[c]⟩)=(l.map λb=>oH (zf b))++[oH 120,oH 32,oH 9]:=by
 rw[we,Array.toList_append,Nu,sv]
 show((l.map zf).toArray.toList.map _)++_=_
 rw[List.toList_toArray,NO];rfl
theorem yH (a:w.c.length<60)(c:Z 0=some (.obj [.str s]))(b:Z 4=some (.own (nl w.c)))(f:Z 5=some (.val (.int (w.b:Int))))(g:Z 6=some (.val (.int (w.n:Int))))(h:Z 7=some (.val (.int (w.nt:Int)))):
  ∃Z',ay (ex U N 12) [.setAttr 0 1 (.var 6),.setAttr 0 2 (.var 7),.setAttr 0 3 (.tup [ME.fn .tuple [ME.var 4],ME.var 5]),.setAttr 0 4 (.cmp .LtE (.fn .len [ME.var 4]) (.int 1))] Z=some (.next,Z')/\Z' 0=some (.obj [.str s,.int (w.n:Int),.int (w.nt:Int),.tup [cD w,.int (w.b:Int)],.bool (decide (w.c.length<=1))]):=by
 refine⟨_,ae (gc (ao g) c ⟨rfl,by decide⟩) (ae (gc (ao (by exact h)) rfl ⟨rfl,by decide⟩) (ae (gc (iq (by decide) (aa (cE rfl (aa (dU (by exact b)) aj) (Cf (lu a rfl))) (aa (ao (by exact f)) aj))) rfl ⟨rfl,by decide⟩) (ae (gc (d:=.bool (decide ((w.c.length:Int)<=1))) (il (aB rfl (cE rfl (aa (dU (by exact b)) aj) (iD (lu a rfl)))) (aB rfl rfl) rfl) rfl ⟨rfl,by decide⟩) rfl))),?_⟩
 rw[show decide ((w.c.length:Int)<=1)=decide (w.c.length<=1) from ON.mpr Ot];rfl
theorem pJ {l:List Bool}(j:l.length<60):Bf HB U N [.str (cj l++iE)]=some (cg (cj l++iE) (a9 l)):=by
 have f:=yG (l:=l)
 generalize cj l++iE=s at f |-
 refine ak (⟨_,rfl⟩:∃Z:St,(λi=>if i=0 then some (.obj []) else if i=1 then some (.val (.str s)) else none)=Z) λZ c=>?_
 have s1:=gc (U:=U) (N:=N) (n:=11) (Z:=Z) (i:=0) (k:=0) (e:=ME.var 1) (d:=.str s) (ao (Nm c 1).symm) (Nm c 0).symm (fs:=[]) ⟨rfl,by decide⟩
 refine af (yF (U:=U) (N:=N) (n:=7) (s:=s) (l:=l) (rest:=[oH 120,oH 32,oH 9]) (Z:=([5,6,7]:List Nat).foldl (λZ y=>Z.set y (.val (.int 0))) ((((Z.set 0 (.obj ([]++[.str s]))).set 2 (.val (.str " "))).set 3 (.val (.str "\t"))).set 4 (.own (.list [])))) HJ (O6 j 0) ⟨rfl,rfl,rfl,rfl,rfl,rfl,rfl⟩) λa m b=>?_
 have b:CI s (a9 l) a:=b
 have o:ck (ay (ex U N 11) wd) (λZ d=>bB Z (.one 8) d) [oH 120,oH 32,oH 9] a=some (.brk,a.set 8 (.val (oH 120))):=
  vK rfl (lp (cQ (p:=false) (aS (v_var rfl) (v_var (by exact b.v2)) rfl) nb λ_=>lp (cQ (p:=false) (aS (v_var rfl) (v_var (by exact b.v3)) rfl) nb λ_=>rfl)))
 refine af (yH (U:=U) (N:=N) (w:=a9 l) (Z:=a.set 8 (.val (oH 120))) (M5 (m4 l).l j) b.v0 b.v4 b.v5 b.v6 b.v7) λh q g=>?_
 have hr:ay (ex U N 12) vM Z=some (.next,h):=ae s1 (ae (ey (ts:=[(2,0),(3,0)]) (ds:=[.str " ",.str "\t"]) rfl rfl) (ae (oB (d:=.list []) rfl rfl) (ae (F5 (d:=.int 0) rfl) (ae (Br rfl (mP rfl (aB rfl (F6 rfl rfl)) (MY some f)) (m.trans o)) q))))
 show((ay (ex U N 12) vM _).bind λp=>p.1.IF.bind λ_=>(p.2 0).bind λsl=>sl.zj.bind λfs=>if fs.length=5 then some (D.inst fs) else none)=_
 rw[c,hr]
 show((h 0).bind _)=_
 rw[g];rfl
end
theorem range_any {a b:Nat}(c:a<1000)(hb:b<1000):D.range [.int a,.int b]=some ((List.range (b - a)).map λ(k:Nat)=>D.int ((a+k:Nat):Int)):=by
 by_cases h:a<=b
 .exact f6 h hb
 .refine(M7 ⟨by exact lu c rfl,by exact lu hb rfl⟩).trans (MY some ?_)
  have h:=Nat.le_of_not_le h
  unfold wK Builtin.Range.rangeSize
  rw[M7 (by decide),M8 (Int.not_lt.mpr (Ot.mpr h)),Nat.sub_eq_zero_of_le h];rfl
theorem sx {f:Nat->Nat}{k:Nat}:((List.range (k+1)).map f).sum=((List.range k).map f).sum+f k:=by rw[List.range_succ,Nu,List.sum_append];rfl
theorem uD {f:Nat->Nat}{b:Nat}(h:∀i,f i<=b){k:Nat}:((List.range k).map f).sum<=k*b:=by
 induction k with
 |zero=>exact Ou _
 |succ k a=>rw[sx,Nat.succ_mul];exact NY a (h k)
theorem wg {a b:Nat}:(if(b:Int)>(a:Int) then(b:Int) else(a:Int))=((max a b:Nat):Int):=by
 by_cases h:a<b
 .rw[M7 (N5.mpr h),Nat.max_eq_right (ND h)]
 .rw[M8 λq=>h (N5.mp q),Nat.max_eq_left (NU h)]
def Je (U:UT):Prop:= ∀(s:Str) (l:List Bool) (t:Nat),l.length<60->0<t->t<100->U 9 [cg s (a9 l),.int (t:Int)]=some (.int ((a9 l).ind t:Nat))
def Mj (U:UT):Prop:= ∀(s:Str) (l:List Bool),l.length<60->U 8 [cg s (a9 l)]=some (.int ((a9 l).uA:Nat))
section
variable {U:UT}{N:NT}{n:Nat}{Z Z':St}{e:ME}{d:D}{s s':Str}{w w':Ws}{k t j:Nat}
theorem longest (a:wa k w)(b:k<100):rF U N b8 [cg s w]=some (.int (w.uA:Nat)):=by
 refine dR (ae (iu (gy rfl rfl) rfl) (bA (eK (cE rfl (aa (aB rfl (ar (aB rfl (cE rfl (aa (v_var rfl) aj) (M7 ?_))) (aB rfl rfl) rfl)) (aa (v_var rfl) aj)) ?_))))
 .rw[MX];exact lu (M5 a.l b) rfl
 .show some (D.int (if(w.b:Int)>((w.c.map λ(k:Nat)=>D.int (k:Int)).length:Int) - 1 then(w.b:Int) else((w.c.map λ(k:Nat)=>D.int (k:Int)).length:Int) - 1))=_
  rw[MX]
  refine MY (λi=>some (D.int i)) ?_
  unfold Ws.uA
  cases w.c.length with
  |zero=>exact(M7 (Int.lt_of_lt_of_le (by decide:(-1:Int)<0) (NG _))).trans (MY Int.ofNat (Nat.zero_max _).symm)
  |succ m=>rw[show((m+1:Nat):Int) - 1=m from Int.add_sub_cancel m 1];exact wg
theorem wh {l:List D}{i:Nat}{d:D}(h:l[i]?=some d)(hi:i<64):D.index (.tup l) (.int i)=some d:=(bC h hi:D.index (.list l) (.int i)=some d)
theorem m5 {body:List MS}{ds:List D}(a:(λi=>(ds[i]?).map .val)=Z)(h:ay (ex U N 12) body Z=some (.ret d,Z')):rF U N body ds=some d:=dR (a▸h)
noncomputable def Jf (w:Ws)(t i:Nat):Nat:=(t+i)/t*w.c.getD (t+i) 0
inductive NI (s:Str)(w:Ws)(t k:Nat)(Z:St):Prop
 |mk (v0:Z 0=some (.val (cg s w)))(v1:Z 1=some (.val (.int (t:Int))))(v2:Z 2=some (.val (cD w)))(v3:Z 3=some (.val (.int (w.b:Int))))(v4:Z 4=some (.val (.int (((List.range k).map (Jf w t)).sum:Nat))))
noncomputable abbrev K9:List MS:=[.asg 4 (.bin .Add (.var 4) (.bin .Mult (.bin .FloorDiv (.var 5) (.var 1)) (.idx (.var 2) (.var 5))))]
theorem Ci (i:wa k w)(l:k<60)(ht:0<t)(f:t<100)(c:j<w.c.length - t)(g:NI s w t j Z):∃a,ay (ex U N (n+1)) K9 (Z.set 5 (.val (.int ((t+j:Nat):Int))))=some (.next,a)/\NI s w t (j+1) a:=by
 cases g with
 |mk o m h p q=>
  have c:=Nat.add_lt_of_lt_sub' c
  have b:t+j<=60:=M4 (ND c) (M4 i.l (ND l))
  refine⟨_,ae (bg (ar (v_var (by exact q)) (aB rfl (ar (aB rfl (ar (v_var rfl) (v_var (by exact m)) (cR (N4 ht) (lu f rfl)))) (aZ (by exact h) (aK (v_var (by exact h)) (ao rfl) (wh (d:=.int (w.c.getD (t+j) 0:Nat)) (by rw[Nz,Nb,Nc c];rfl) (lv b rfl)))) (mul_int ?_ ?_))) add_int)) rfl,.mk o m h p ?_⟩
  .exact lv (M4 (Nat.div_le_self ..) b) rfl
  .exact lu (M5 (i.c _) l) rfl
  .exact MY (λx:Nat=>some (_root_.av.Slot.val (.int (x:Int)))) sx.symm
theorem Jg (a:wa k w)(c:k<60):((List.range (w.c.length - t)).map (Jf w t)).sum<=60*(60*60):=by
 refine M4 (uD (b:=60*60) λi=>?_) (Nat.mul_le_mul_right _ (M4 (Nat.sub_le ..) (M4 a.l (ND c))))
 unfold Jf
 by_cases hi:t+i<w.c.length
 .exact Nat.mul_le_mul (M4 (Nat.div_le_self ..) (M4 (ND hi) (M4 a.l (ND c)))) (M4 (a.c _) (ND c))
 .rw[Nb,Od (NU hi)];exact Ou _
theorem gd {i:Nat}(h:Z i=some (.val d)):Z.free i=some (.val d):=by unfold St.free;rw[h];rfl
theorem indent (h:wa k w)(l:k<60)(ht:0<t)(f:t<100):rF U N b9 [cg s w,.int (t:Int)]=some (.int (w.ind t:Nat)):=by
 refine ak (⟨_,rfl⟩:∃Z:St,(λi=>(([cg s w,.int (t:Int)]:List D)[i]?).map .val)=Z) λZ a=>?_
 have s1:=iu (U:=U) (N:=N) (n:=11) (Z:=Z) (ts:=[2,3]) (e:=ME.attr (.var 0) 3) (ds:=[cD w,.int (w.b:Int)]) (gy (Nm a 0).symm rfl) rfl
 refine af (cL (c:=λ(j:Nat)=>D.int ((t+j:Nat):Int)) (b:=ay (ex U N 11) K9) (Z0:=λZ d=>bB Z (.one 5) d) (n:=w.c.length - t) (Z:=((Z.set 2 (.val (cD w))).set 3 (.val (.int (w.b:Int)))).set 4 (.val (.int 0))) (NI s w t)
  (λj q Z g=>af (Ci (U:=U) (N:=N) (n:=10) h l ht f q g) λm e g=>⟨_,m,rfl,e,g⟩) (.mk (Nm a 0).symm (Nm a 1).symm rfl rfl rfl)) λr u g=>?_
 cases g with
 |mk v y E z A=>
  have o:fN U .len [cD w]=some (.int (w.c.length:Nat)):=(M7 (by rw[MX];exact lu (M5 h.l l) rfl)).trans (MY (λx:Nat=>some (D.int (x:Int))) (MX ..))
  refine m5 a (ae s1 (ae (bg rfl) (ae (eJ rfl (aI (aa (ao (Nm a 1).symm) (aa (cE rfl (aa (v_var rfl) aj) o) aj)) (range_any (lu f rfl) (lu (M5 h.l l) rfl))) u) (bA (eK (ar (v_var (gd z)) (aB rfl (ar (v_var (gd y)) (aB rfl (ar (v_var (gd A)) (aB rfl (gy (gd v) rfl)) add_int)) (mul_int ?_ ?_))) ?_))))))
  .exact lu f rfl
  .exact lv (NY (Jg h l) (M4 h.nt (ND l))) rfl
  .rfl
theorem lz {f:Nat}{r:List D}{R:Option D}(h:U f (cg s w::r)=R):fN U (.dY f) (cg s w::r)=R:=h
theorem Jh {t:dj}{it:ME}{body:List MS}(hn:noOwn Z it=true)(h:(ev U 40).i Z t it=some xs)(b:ck (ay (ex U N n) body) (λZ d=>bB Z t d) xs Z=some (.ret d,Z')):ex U N (n+1) (.cW t it body a) Z=some (.ret d,Z'):=by
 exact(M8 (by rw[hn];exact NX)).trans (bs h (bs b rfl))
theorem F7 {b:Ex}{Z0:St->D->Option St}{x:D}(h:Z0 Z x=some Z1)(c:b Z1=some (.ret d,a)):ck b Z0 (x::xs) Z=some (.ret d,a):=by
 exact bs h (bs c rfl)
noncomputable abbrev La:List MS:=[.iff (.cmp .GtE (.fn (.dY 9) [ME.var 0,ME.var 3]) (.fn (.dY 9) [ME.var 1,ME.var 3])) [.ret (.bool false)] []]
variable {l l':List Bool}
theorem Cj {i:Nat}(a:Je U)(b:l.length<60)(ht:t<90)(h:Z i=some (.val (cg s (a9 l))))(c:Z 3=some (.val (.int ((2+t:Nat):Int)))):(ev U (k+2)).m Z (.fn (.dY 9) [ME.var i,ME.var 3])=some (.int ((a9 l).ind (2+t):Nat)):=
 rQ rfl (aa (ao h) (aa (ao c) aj)) (lz (a s l (2+t) b (NF (by decide) (NM 2 t)) (lu (O6 ht 2) rfl)))
theorem Ck {a b:Nat}{P:Prop}(q:decide ((b:Int)<=(a:Int))=true)(h:a<b):P:=absurd (Ot.mp (Nr q)) (O9 h)
theorem Cn {a b:Nat}{P:Prop}(q:decide ((b:Int)<=(a:Int))=false)(h:¬a<b):P:=absurd (Ot.mpr (NU h)) (of_decide_eq_false q)
theorem yI (c:Je U)(i:l.length<60)(b:l'.length<60){ts:List Nat}:∀{Z:St},(∀t∈ts,t<90)->Z 0=some (.val (cg s (a9 l)))->Z 1=some (.val (cg s' (a9 l')))->
   ∃Z',ck (ay (ex U N (n+2)) La) (λZ d=>bB Z (.one 3) d) (ts.map λ(k:Nat)=>D.int ((2+k:Nat):Int)) Z=some (if ts.all λt=>decide ((a9 l).ind (2+t)<(a9 l').ind (2+t)) then .next else .ret (.bool false),Z'):=by
 induction ts with
 |nil=>exact λ_ _ _=>⟨_,rfl⟩
 |cons t ts m=>
  intro Z h h0 f
  have ht:=h t (Nf ..)
  have g:(ev U 40).t (Z.set 3 (.val (.int ((2+t:Nat):Int)))) (.cmp .GtE (.fn (.dY 9) [ME.var 0,ME.var 3]) (.fn (.dY 9) [ME.var 1,ME.var 3]))=some (decide (((a9 l').ind (2+t):Int)<=((a9 l).ind (2+t):Int))):=aS (aB rfl (Cj c i ht h0 rfl)) (aB rfl (Cj c b ht f rfl)) rfl
  by_cases a:(a9 l).ind (2+t)<(a9 l').ind (2+t)
  .refine ak (m (Z:=Z.set 3 (.val (.int ((2+t:Nat):Int)))) (λo p=>h o (Nj _ p)) h0 f) λZ' r=>⟨Z',mR rfl (ae (cQ g (λq=>Ck q a) λ_=>rfl) rfl) ?_⟩
   rw[r,List.all_cons,Nq a,Bool.true_and]
  .refine⟨Z.set 3 (.val (.int ((2+t:Nat):Int))),?_⟩
   rw[List.all_cons,NQ a,Bool.false_and]
   exact F7 rfl (bA (cQ g (λ_=>bA (eK rfl)) λq=>Cn q a))
theorem Co (a:l.length<60):(a9 l).uA<60:=Nat.max_lt.mpr ⟨M5 (M4 (Nat.sub_le ..) (m4 l).l) a,M5 (m4 l).b a⟩
theorem F8 (E:Je U)(g:Mj U)(x:l.length<60)(f:l'.length<60):
  rF U N Me [cg s (a9 l),cg s' (a9 l')]=some (.bool ((a9 l).less (a9 l'))):=by
 refine ak (⟨_,rfl⟩:∃Z:St,(λi=>(([cg s (a9 l),cg s' (a9 l')]:List D)[i]?).map .val)=Z) λZ c=>?_
 have o:Z 0=some (.val (cg s (a9 l))):=(Nm c 0).symm
 have p:Z 1=some (.val (cg s' (a9 l'))):=(Nm c 1).symm
 have z:(ev U 40).t Z (.cmp .GtE (.attr (.var 0) 1) (.attr (.var 1) 1))=some (decide (((a9 l').n:Int)<=((a9 l).n:Int))):=aS (aB rfl (gy o rfl)) (aB rfl (gy p rfl)) rfl
 have r:(ev U 40).t Z (.and (.attr (.var 0) 4) (.attr (.var 1) 4))=some (decide ((a9 l).c.length<=1)&&decide ((a9 l').c.length<=1)):=kG (DF rfl (aB rfl (gy o rfl)) rfl) λ_=>DF rfl (aB rfl (gy p rfl)) rfl
 unfold Ws.less
 by_cases u:(a9 l').n<=(a9 l).n
 .rw[M7 u]
  exact m5 c (bA (cQ z (λ_=>bA (eK rfl)) λq=>Cn q (Nat.not_lt_of_le u)))
 .rw[M8 u]
  have s1:ex U N 12 (.iff (.cmp .GtE (.attr (.var 0) 1) (.attr (.var 1) 1)) [.ret (.bool false)] []) Z=some (.next,Z):=cQ z (λq=>Ck q (Nat.lt_of_not_le u)) λ_=>rfl
  by_cases h2:(decide ((a9 l).c.length<=1)&&decide ((a9 l').c.length<=1))=true
  .rw[M7 h2]
   rw[h2] at r
   exact m5 c (ae s1 (bA (cQ r (λ_=>bA (eK (il (aB rfl (gy (gd o) rfl)) (aB rfl (gy (gd p) rfl)) (MY (λb=>some b) (ON.mpr Ot))))) λh=>nb h.symm)))
  .rw[M8 h2]
   rw[eq_false_of_ne_true h2] at r
   have y:max (a9 l).uA (a9 l').uA<60:=Nat.max_lt.mpr ⟨Co x,Co f⟩
   have A:fN U .max [.int ((a9 l).uA:Nat),.int ((a9 l').uA:Nat)]=some (.int (max (a9 l).uA (a9 l').uA:Nat)):=MY (λi=>some (D.int i)) wg
   generalize max (a9 l).uA (a9 l').uA=m at y A
   have B:=bg (U:=U) (N:=N) (n:=11) (i:=2) (Z:=Z) (e:=ME.bin .Add (.fn .max [ME.fn (.dY 8) [ME.var 0],ME.fn (.dY 8) [ME.var 1]]) (.int 1)) (d:=.int ((m+1:Nat):Int))
    (ar (aB rfl (cE rfl (aa (aB rfl (rQ rfl (aa (ao o) aj) (lz (g s l x)))) (aa (aB rfl (rQ rfl (aa (ao p) aj) (lz (g s' l' f)))) aj)) A)) (aB rfl rfl) dp)
   have hi:(ev U 40).i (Z.set 2 (.val (.int ((m+1:Nat):Int)))) (.one 3) (.range [ME.int 2,ME.bin .Add (.var 2) (.int 1)])=some ((List.range m).map λ(k:Nat)=>D.int ((2+k:Nat):Int)):=
    aI (aa rfl (aa (ar (v_var rfl) (aB rfl rfl) dp) aj)) (range_any (a:=2) (b:=m+1+1) (by decide) (lu (Nat.succ_lt_succ (Nat.succ_lt_succ y)) rfl))
   refine ak (yI (U:=U) (N:=N) (n:=9) (s:=s) (s':=s') (ts:=List.range m) (Z:=Z.set 2 (.val (.int ((m+1:Nat):Int)))) E x f (λt ht=>lu (NW (Ng.mp ht) y) rfl) o p) λF v=>?_
   have C:ex U N 12 (.iff (.and (.attr (.var 0) 4) (.attr (.var 1) 4)) [.ret (.cmp .LtE (.attr (.var 0) 2) (.attr (.var 1) 2))] []) Z=some (.next,Z):=cQ r nb λ_=>rfl
   cases hv:(List.range m).all λt=>decide ((a9 l).ind (2+t)<(a9 l').ind (2+t)) with
   |false=>
    rw[hv] at v
    exact m5 c (ae s1 (ae C (ae B (bA (Jh rfl hi v)))))
   |true=>
    rw[hv] at v
    exact m5 c (ae s1 (ae C (ae B (ae (eJ rfl hi v) (bA (eK rfl))))))
end
theorem yJ (xs:List D)(a:Nat)(k:Nat):((List.range k).map (a+ ·)).filterMap (xs[·]?)=(xs.drop a).take k:=by
 have:=pick_run xs.toArray a k
 simp only[List.getElem?_toArray] at this
 exact this
theorem jm (xs:List D)(lo hi:Option Int):lD xs lo hi none=(xs.drop (lo.elim 0 (clipAt xs.length))).take (hi.elim xs.length (clipAt xs.length) - lo.elim 0 (clipAt xs.length)):=by
 unfold lD
 rw[sliceBounds_plain]
 simp only[sliceRange_one,yJ]
theorem m6 {xs:List D}{k:Nat}(h:xs.length<1000):D.slice (.list xs) none (some (k:Int)) none=some (.list (xs.take k)):=by
 refine(M7 ⟨by decide,by exact lu h rfl⟩).trans (MY (λl=>some (D.list l)) ?_)
 rw[jm]
 show(xs.drop 0).take (clipAt xs.length (k:Int) - 0)=_
 rw[clipAt_nat]
 exact List.take_eq_take_min.symm
theorem m7 {xs:List D}{k:Nat}(h:xs.length<1000):D.slice (.list xs) (some (k:Int)) none none=some (.list (xs.drop k)):=by
 refine(M7 ⟨by decide,by exact lu h rfl⟩).trans (MY (λl=>some (D.list l)) ?_)
 rw[jm]
 show(xs.drop (clipAt xs.length (k:Int))).take (xs.length - clipAt xs.length (k:Int))=_
 rw[clipAt_nat,List.take_of_length_le (NR List.length_drop)]
 refine(Nat.le_total k xs.length).elim (λh=>by rw[Nat.min_eq_left h]) λh=>?_
 rw[Nat.min_eq_right h,List.drop_length,List.drop_of_length_le h]
noncomputable abbrev Row:=Nat×List Bool×Nat
noncomputable def uE (r:Row):D:=.tup [.int (r.1:Int),.str (cj r.2.1)]
noncomputable def fM (L:List Row):D:=.list (L.map uE)
noncomputable def dD (way:Bool)(p:Nat->Nat)(b:Nat):List Nat:=(if way then[1,2,3,4,5] else[5,4,3,2,1]).filter λy=>decide (p y=b)
noncomputable def rowAt (L:List Row)(i:Nat):Row:=L.getD i (0,[],0)
noncomputable def gM (q a:Nat)(ks:List Nat)(L:List Row):List Row:=L.take (a+1)++(ks.zipIdx.map λk=>(k.1,(rowAt L a).2.1++de q a ks.length k.2,a))++L.drop (a+1)
theorem Cp (a b:List Bool):cj (a++b)=cj a++cj b:=by
 rw[we];unfold cj
 rw[Nu,List.append_toArray]
theorem m8 (a:List Bool):(cj a).length=a.length:=by
 show(a.map zf).toArray.size=_
 rw[N1,MX]
noncomputable def kA:D:=.list [.tup [.str "\t",.str "  "],.tup [.str "   \t",.str "  \t  "],.tup [.str " ",.str "\t"],.tup [.str "\t",.str " \t"]]
theorem Cq:kA=.list ((List.range 4).map λq=>.tup ((List.range 2).map λj=>.str (cj (HH q j)))):=by
 have a:("\t":Str)=cj [true]:=by decide+kernel
 have b:("  ":Str)=cj [false,false]:=by decide+kernel
 have c:("   \t":Str)=cj [false,false,false,true]:=by decide+kernel
 have d:("  \t  ":Str)=cj [false,false,true,false,false]:=by decide+kernel
 have e:(" ":Str)=cj [false]:=by decide+kernel
 have f:(" \t":Str)=cj [false,true]:=by decide+kernel
 unfold kA
 rw[a,b,c,d,e,f];rfl
theorem oJ {a:Type}{f:Nat->a}{n t:Nat}(h:t<n):((List.range n).map f)[t]?=some (f t):=by
 rw[Nz,List.getElem?_range h];rfl
theorem F9:∀q,q<4-> ∀j,j<2->(HH q j).length<=5:=by decide
theorem wi (q j:Nat):(HH (q%4) (j%2)).length<=5:=F9 _ (N3 _ (by decide)) _ (N3 _ (by decide))
theorem sy {c:Nat}(b:c<=5):(de q a c j).length<=7:=by
 unfold de
 rw[Ni,Ow]
 exact NY (M4 (Nat.sub_le _ _) (Nat.div_le_div_right (c:=2) (Nat.sub_le_sub_right b 1))) (wi (q+a) j)
theorem yK {k:Nat}:(List.replicate k 9).toArray=(cj (List.replicate k true)).cps:=by
 unfold cj
 rw[List.map_replicate];rfl
theorem mul_str {b:Int}:D.bin .Mult (.str a) (.int b)=if a.length=1/\b<2^16/\ -(2^16)<b then some (.str ⟨(List.replicate b.toNat (a.cps.toList.headD 0)).toArray⟩) else none:=rfl
theorem Gb {k:Nat}(h:k<100):D.bin .Mult (.str "\t") (.int (k:Int))=some (.str (cj (List.replicate k true))):=by
 have e:("\t":Str)=⟨#[9]⟩:=by decide+kernel
 rw[e]
 have a:(⟨#[9]⟩:Str).length=1/\(k:Int)<2^16/\ -(2^16)<(k:Int):=⟨rfl,by exact N5.mpr (lu h rfl:k<2^16),by exact NG _⟩
 have:=yK (k:=k)
 rw[mul_str,M7 a,Oc]
 show some (D.str ⟨(List.replicate k 9).toArray⟩)=_
 rw[this]
theorem sA {a b:List Bool}(c:a.length<1000)(hb:b.length<1000):D.bin .Add (.str (cj a)) (.str (cj b))=some (.str (cj (a++b))):=by
 rw[Cp]
 exact M7 ⟨by rw[m8];exact av.lu c rfl,by rw[m8];exact av.lu hb rfl⟩
section
variable {p:Nat->Nat}{U:UT}{N:NT}{n:Nat}{Z:St}{L:List Row}{a c seed:Nat}{way:Bool}
noncomputable abbrev Lb:ME:=ME.comp (.var 9) [7,0,4] (MG.mk (.one 9) (.ite (.cmp .Gt (.var 1) (.int 0)) (.range [ME.int 1,ME.int 6]) (.range [ME.int 5,ME.int 0,ME.neg (.int 1)])) [ME.cmp .Eq (.idx (.var 0) (.var 9)) (.idx (.idx (.var 4) (.var 7)) (.int 0))]) []
noncomputable abbrev HK:ME:=ME.comp (.bin .Add (.bin .Mult (.str (Str.ofString "\t")) (.bin .Sub (.bin .FloorDiv (.bin .Sub (.fn .len [ME.var 8]) (.int 1)) (.int 2)) (.bin .FloorDiv (.var 11) (.int 2)))) (.idx (.idx (.var 6) (.bin .Mod (.bin .Add (.var 2) (.var 7)) (.int 4))) (.bin .Mod (.var 11) (.int 2)))) [7,8,6,2] (MG.mk (.one 11) (.range [ME.fn .len [ME.var 8]]) []) []
noncomputable abbrev Lc:ME:=ME.bin .Add (.bin .Add (.jc (.var 4) none (some (.bin .Add (.var 7) (.int 1))) none) (.comp (.tup [ME.var 9,ME.bin .Add (.idx (.idx (.var 4) (.var 7)) (.int 1)) (.var 12)]) [7,4] (MG.mk (.many [9,12]) (.zip (.var 8) (.var 10)) []) [])) (.jc (.var 4) (some (.bin .Add (.var 7) (.int 1))) none none)
noncomputable abbrev Ji:List MS:=[.asg 8 Lb,.asg 10 HK,.asg 4 Lc]
structure RK (p:Nat->Nat)(way:Bool)(seed:Nat)(xs:List D)(Z:St):Prop where
 v0:Z 0=some (.val (jN p))
 v1:∃i:Int,Z 1=some (.val (.int i))/\decide (0<i)=way
 v2:Z 2=some (.val (.int (seed:Int)))
 v3:Z 3=some (.ext xs)
 v5:Z 5=some (.own (.list (List.replicate 6 (.int (-1)))))
 v6:Z 6=some (.val kA)
theorem yL {k:Nat}(hi:j=4\/7<=j)(b:k≠4)(d:k<7):¬k=j:=λe=>hi.elim (λq=>b (e.trans q)) λq=>O9 d (e▸q)
theorem RK.set {i:Nat}{s:_root_.av.Slot}(k:RK p way seed xs Z)(hi:i=4\/7<=i):RK p way seed xs (Z.set i s):=
 ⟨(M8 (yL hi (by decide) (by decide))).trans k.v0,af k.v1 λv b d=>⟨v,(M8 (yL hi (by decide) (by decide))).trans b,d⟩,(M8 (yL hi (by decide) (by decide))).trans k.v2,(M8 (yL hi (by decide) (by decide))).trans k.v3,(M8 (yL hi (by decide) (by decide))).trans k.v5,(M8 (yL hi (by decide) (by decide))).trans k.v6⟩
theorem m9 (h:a<L.length):L[a]?=some (rowAt L a):=by
 unfold rowAt
 rw[Nb,Nc h];rfl
theorem nc (h:a<L.length)(b:a<64):D.index (fM L) (.int (a:Int))=some (uE (rowAt L a)):=bC (by rw[Nz,m9 h];rfl) b
theorem wj:∀y∈(if way then[1,2,3,4,5] else[5,4,3,2,1]:List Nat),0<y/\y<6:=by cases way<;>decide
theorem Cr:∀y,y<6->0<y->y∈(if way then[1,2,3,4,5] else[5,4,3,2,1]:List Nat):=by cases way<;>decide
theorem qc {a b:Nat}:((a:Int)==(b:Int))=decide (a=b):=Oj.mpr (by rw[NJ,Nd];exact Int.natCast_inj)
theorem qd {b:Nat}(h:y∈dD way p b):0<y/\y<6/\p y=b:=au (Nt.mp h) λd e=>au (wj y d) λa b=>⟨a,b,Nr e⟩
theorem jR {b:Nat}:(dD way p b).length<=5:=M4 (Nv ..) (by cases way<;>exact NB _)
theorem Cs {b:Nat}(h0:0<y)(d:y<6)(h:p y=b):y∈dD way p b:=Nt.mpr ⟨Cr y d h0,Nq h⟩
theorem uF {b:Nat}:(dD way p b).Nodup:=by
 unfold dD
 refine List.Pairwise.filter _ ?_
 cases way<;>decide
theorem Gd (K:RK p way seed xs Z)(f:Z 4=some (.val (fM L)))(g:Z 7=some (.val (.int (a:Int))))(i:a<L.length)(e:a<6):(ev U 40).m Z Lb=some (nl (dD way p (rowAt L a).1)):=by
 refine af K.v1 λw j l=>?_
 have hi:(ev U 39).i Z (.one 9) (.ite (.cmp .Gt (.var 1) (.int 0)) (.range [ME.int 1,ME.int 6]) (.range [ME.int 5,ME.int 0,ME.neg (.int 1)]))=some ((if way then[1,2,3,4,5] else[5,4,3,2,1]).map λ(k:Nat)=>D.int (k:Int)):=by
  have m:(ev U 38).t Z (.cmp .Gt (.var 1) (.int 0))=some way:=(aS (v_var j) (aB rfl rfl) rfl).trans (by rw[<-l])
  refine KN m (λh=>?_) λh=>?_
  .rw[h];exact aI (aa rfl (aa rfl aj)) rfl
  .rw[h];exact aI (aa rfl (aa rfl (aa (mO rfl) aj))) rfl
 refine aV (λy=>if decide (p y=(rowAt L a).1)=true then[.int (y:Int)] else[]) hi (λy d=>?_) aO ?_
 .have d:=wj y d
  refine aF rfl (a7 (aS (aZ (by exact K.v0) (aK (v_var (by exact K.v0)) (ao rfl) (mY d.2))) (aB rfl (aK (aZ (by exact f) (aK (v_var (by exact f)) (ao (by exact g)) (nc i (by exact av.lu e rfl)))) rfl rfl)) ?_)) λ_=>aH (ao rfl)
  show D.nj 6 (.int (gD p y)) (.int ((rowAt L a).1:Int))=_
  rw[v9]
  unfold gD
  rw[M8 (N4 d.1),qc]
 .rw[MX]
  exact lv (jR (way:=way) (p:=p) (b:=(rowAt L a).1)) rfl
theorem Ct (K:RK p way seed xs Z)(g:Z 8=some (.val (nl ks)))(d:ks.length<=5)(h:Z 7=some (.val (.int (a:Int)))):(ev U 40).m Z HK=some (.list ((List.range ks.length).map λj=>D.str (cj (de seed a ks.length j)))):=by
 have hr:(ev U 39).i Z (.one 11) (.range [ME.fn .len [ME.var 8]])=some ((List.range ks.length).map λ(k:Nat)=>D.int (k:Int)):=aI (aa (cE rfl (aa (v_var g) aj) (iD (by exact av.lv d rfl))) aj) (range_one (by exact av.lv d rfl))
 refine aV (λj=>[D.str (cj (de seed a ks.length j))]) hr (λj e=>?_) bk (by rw[MX,Nk];exact av.lv d rfl)
 have e:=Ng.mp e
 refine aF (p:=true) rfl rfl λ_=>aH ?_
 have l:∀m,(ev U (m+2)).m (St.set (Z.cut [7,8,6,2]) 11 (.val (.int (j:Int)))) (.fn .len [ME.var 8])=some (.int (ks.length:Nat)):=λm=>cE rfl (aa (v_var (by exact g)) aj) (iD (by exact av.lv d rfl))
 have o:D.bin .Sub (.int (ks.length:Nat)) (.int 1)=some (.int ((ks.length - 1:Nat):Int)):=MY (λx=>some (D.int x)) (Int.ofNat_sub (M5 (Ou j) e)).symm
 have q:D.bin .Sub (.int (((ks.length - 1)/2:Nat):Int)) (.int ((j/2:Nat):Int))=some (.int (((ks.length - 1)/2 - j/2:Nat):Int)):=MY (λx=>some (D.int x)) (Int.ofNat_sub (Nat.div_le_div_right (Nat.le_pred_of_lt e))).symm
 have hb:(ks.length - 1)/2 - j/2<=2:=M4 (Nat.sub_le _ _) (Nat.div_le_div_right (c:=2) (Nat.sub_le_sub_right d 1))
 have r:D.index kA (.int (((seed+a)%4:Nat):Int))=some (.tup ((List.range 2).map λi=>.str (cj (HH ((seed+a)%4) i)))):=by
  rw[Cq]
  exact bC (oJ (N3 _ (by decide))) (by exact av.lu (N3 _ (by decide)) rfl)
 have s:D.index (.tup ((List.range 2).map λi=>.str (cj (HH ((seed+a)%4) i)))) (.int ((j%2:Nat):Int))=some (.str (cj (HH ((seed+a)%4) (j%2)))):=wh (oJ (f:=λi=>D.str (cj (HH ((seed+a)%4) i))) (N3 _ (by decide))) (by exact av.lu (N3 _ (by decide)) rfl)
 refine ar (aB rfl (ar (aB rfl rfl) (aB rfl (ar (aB rfl (ar (aB rfl (ar (aB rfl (l _)) (aB rfl rfl) o)) (aB rfl rfl) (cR (b:=2) (by decide) (by decide)))) (aB rfl (ar (v_var rfl) (aB rfl rfl) (cR (b:=2) (by decide) (by decide)))) q)) (Gb ?_)))
  (aB rfl (aK (aZ (by exact K.v6) (aK (v_var (by exact K.v6)) (ar (aB rfl (ar (v_var (by exact K.v2)) (v_var (by exact h)) add_int)) (aB rfl rfl) (bX (b:=4) (by decide))) r)) (ar (v_var rfl) (aB rfl rfl) (bX (b:=2) (by decide))) s)) (sA ?_ ?_)
 .exact lv hb rfl
 .rw[Ow];exact lv hb rfl
 .exact lv (wi (seed+a) j) rfl
end
section
variable {S:List (List Nat)}{d:Nat->Nat->Bool}{p:Nat->Nat}{U:UT}{N:NT}{n:Nat}{Z:St}{L:List Row}{a c seed:Nat}{way:Bool}
theorem Ge {f g:Nat->D}{ks:List Nat}:∀{i:Nat},iV (ks.map f) ((List.range' i ks.length).map g)=(ks.zipIdx i).map λk=>.tup [f k.1,g k.2]:=by
 induction ks with
 |nil=>exact rfl
 |cons k ks b=>exact MY (_:: ·) b
theorem iF {L:List Row}:(L.map uE).length=L.length:=MX ..
theorem Jj (K:RK p way seed xs Z)(h:Z 4=some (.val (fM L)))(l:Z 7=some (.val (.int (a:Int))))(s:Z 8=some (.val (nl ks)))(i:Z 10=some (.val (.list ((List.range ks.length).map λj=>D.str (cj (de seed a ks.length j))))))(b:ks.length<=5)(o:a<L.length)(e:L.length<=6)(hlen:(rowAt L a).2.1.length<=100):(ev U 40).m Z Lc=some (fM (gM seed a ks L)):=by
 have r:∀m,(ev U (m+3)).m Z (.bin .Add (.var 7) (.int 1))=some (.int ((a+1:Nat):Int)):=λm=>ar (v_var l) (aB rfl rfl) dp
 have t:(ev U 36).m Z (.comp (.tup [ME.var 9,ME.bin .Add (.idx (.idx (.var 4) (.var 7)) (.int 1)) (.var 12)]) [7,4] (MG.mk (.many [9,12]) (.zip (.var 8) (.var 10)) []) [])=some (.list ((ks.zipIdx.map λk=>((k.1,(rowAt L a).2.1++de seed a ks.length k.2,a):Row)).map uE)):=by
  have hi:(ev U 35).i Z (.many [9,12]) (.zip (.var 8) (.var 10))=some (ks.zipIdx.map λk=>D.tup [.int (k.1:Int),.str (cj (de seed a ks.length k.2))]):=by
   refine(AJ (v_var s) (v_var i)).trans ?_
   rw[List.range_eq_range',Ge (f:=λ(k:Nat)=>D.int (k:Int)) (g:=λj=>D.str (cj (de seed a ks.length j)))]
  refine aV (λk:Nat×Nat=>[uE (k.1,(rowAt L a).2.1++de seed a ks.length k.2,a)]) hi (λk v=>?_) (bk.trans ?_) ?_
  .have u:=sy (q:=seed) (a:=a) (j:=k.2) b
   refine fZ (p:=true) rfl rfl rfl λ_=>aH (iq (by decide) (aa (ao rfl) (aa (ar (aB rfl (aK (aZ (by exact h) (aK (v_var (by exact h)) (ao (by exact l)) (nc o (by exact av.lu (NF o e) rfl)))) rfl rfl)) (v_var rfl) (sA (by exact av.lv hlen rfl) (by exact av.lv u rfl))) aj)))
  .rw[NO];rfl
  .rw[MX,MX,List.length_zipIdx];exact av.lv b rfl
 refine ar (aB rfl (ar (aB rfl (kP (v_var h) cP (ew (r _)) cP (m6 (by rw[iF];exact av.lv e rfl)))) (aB rfl t) (add_lists ?_ ?_))) (aB rfl (kP (v_var h) (ew (r _)) cP cP (m7 (by rw[iF];exact av.lv e rfl)))) ((add_lists ?_ ?_).trans ?_)
 .rw[OE,iF];exact av.lv (M4 (Pa _ _) e) rfl
 .rw[MX,MX,List.length_zipIdx];exact av.lv b rfl
 .rw[Ni,OE,iF,MX,MX,List.length_zipIdx];exact lv (NY (M4 (Pa _ _) e) b) rfl
 .rw[List.length_drop,iF];exact av.lv (M4 (Nat.sub_le _ _) e) rfl
 .unfold gM fM
  rw[Nu,Nu,List.map_take,List.map_drop]
theorem Cu (K:RK p way seed xs Z)(f:Z 4=some (.val (fM L)))(b:Z 7=some (.val (.int (a:Int))))(e:a<L.length)(g:L.length<=6)(hlen:(rowAt L a).2.1.length<=100):
  ∃Z',ay (ex U N (n+1)) Ji Z=some (.next,Z')/\RK p way seed xs Z'/\Z' 4=some (.val (fM (gM seed a (dD way p (rowAt L a).1) L))):=by
 have s1:=bg (U:=U) (N:=N) (n:=n) (i:=8) (Gd K f b e (by exact NF e g))
 have h:=K.set (i:=8) (s:=.val (nl (dD way p (rowAt L a).1))) (.inr (by exact OK _))
 have l:=bg (U:=U) (N:=N) (n:=n) (i:=10) (Ct h (ks:=dD way p (rowAt L a).1) rfl jR (a:=a) b)
 have k:=h.set (i:=10) (s:=.val (.list ((List.range (dD way p (rowAt L a).1).length).map λj=>D.str (cj (de seed a (dD way p (rowAt L a).1).length j))))) (.inr (by exact Og _ _))
 have o:=bg (U:=U) (N:=N) (n:=n) (i:=4) (Jj (U:=U) k (ks:=dD way p (rowAt L a).1) f b rfl rfl jR e g hlen)
 exact⟨_,ae s1 (ae l (ae o rfl)),k.set (.inl rfl),rfl⟩
theorem Cv :(gM seed a ks L).map (·.2)=grow seed a ks.length (L.map (·.2)):=by
 unfold gM grow
 rw[Nu,Nu,List.map_take,List.map_drop]
 congr 2
 rw[NO,show List.range ks.length=ks.zipIdx.map Prod.snd by rw[List.zipIdx_map_snd,List.range_eq_range'],NO]
 refine N2 λk _=>?_
 show((rowAt L a).2.1++_,a)=(((L.map (·.2)).getD a ([],0)).1++_,a)
 have:(L.map (·.2)).getD a ([],0)=(rowAt L a).2:=by
  unfold rowAt
  rw[Nb,Nb,Nz]
  cases L[a]?<;>rfl
 rw[this]
theorem gG {i:Nat}(h:i<=a)(b:a<L.length):(gM seed a ks L)[i]?=L[i]?:=by
 unfold gM
 rw[NS,Of (by rw[OE];exact Nat.lt_min.mpr ⟨O1 h,M5 h b⟩),List.getElem?_take_of_lt (by exact O1 h)]
theorem gf {ks:List Nat}{r:Row}:r∈gM seed a ks L↔r∈L\/ ∃k∈ks.zipIdx,r=(k.1,(rowAt L a).2.1++de seed a ks.length k.2,a):=by
 unfold gM
 rw[NK,NK,Nn]
 rw[<-List.take_append_drop (a+1) L,NK,or_right_comm,List.take_append_drop]
 exact or_congr Iff.rfl (exists_congr λk=>and_congr Iff.rfl eq_comm)
theorem oK :((gM seed a ks L).map (·.1)).Perm (L.map (·.1)++ks):=by
 unfold gM
 rw[Nu,Nu,NO]
 have e:ks.zipIdx.map ((λr:Row=>r.1)∘λk=>(k.1,(rowAt L a).2.1++de seed a ks.length k.2,a))=ks:=List.zipIdx_map_fst ..
 rw[e]
 have h:L.map (·.1)=(L.take (a+1)).map (·.1)++(L.drop (a+1)).map (·.1):=by rw[<-Nu,List.take_append_drop]
 rw[h,NS,NS]
 exact List.Perm.append_left _ List.perm_append_comm
structure Cw (p:Nat->Nat)(a:Nat)(L:List Row):Prop where
 nJ:(L.map (·.1)).Nodup
 lt:∀r∈L,r.1<6
 z:∃r∈L,r.1=0
 par:∀r∈L,r.1≠0->r.2.2<a/\ ∃r',L[r.2.2]?=some r'/\r'.1=p r.1
 all:∀i r,i<a->L[i]?=some r-> ∀y,0<y->y<6->p y=r.1-> ∃r'∈L,r'.1=y
 ln:∀r∈L,r.2.1.length<=7*a
theorem Cw.len (I:Cw p a L):L.length<=6:=MX (f:=λr:Row=>r.1) (as:=L)▸bc I.nJ λx hx=>af (Nn.mp hx) λr hr e=>e▸I.lt r hr
theorem nf (h:(L.map (·.1)).Nodup){i j:Nat}{r g:Row}(hi:L[i]?=some r)(k:L[j]?=some g)(e:r.1=g.1):i=j:=by
 have b:(L.map (·.1))[i]?=some r.1:=by rw[Nz,hi];rfl
 have f:(L.map (·.1))[j]?=some r.1:=by rw[Nz,k,e];rfl
 have l:=(Ny.mp b).1
 exact(List.getElem?_inj l h).mp (b.trans f.symm)
theorem wk {ks:List Nat}{k:Nat×Nat}(h:k∈ks.zipIdx):k.1∈ks:=List.zipIdx_map_fst 0 ks▸Nn.mpr ⟨k,h,rfl⟩
theorem Cw.grow (I:Cw p a L)(m:a<L.length):Cw p (a+1) (gM seed a (dD way p (rowAt L a).1) L):=by
 have f:=m9 m
 refine⟨(List.Perm.nodup_iff oK).mpr (Oz.mpr ⟨I.nJ,uF,λx hx y B e=>?_⟩),λr hr=>(gf.mp hr).elim (I.lt r) λq=>af q λk j e=>e▸(qd (wk j)).2.1,af I.z λr hr h=>⟨r,gf.mpr (.inl hr),h⟩,λr hr h0=>(gf.mp hr).elim (λh=>?_) λq=>af q λk j e=>e▸⟨N7 _,_,(gG (NB _) m).trans f,(qd (wk j)).2.2.symm⟩,λi r hi g y h0 w hp=>?_,λr hr=>(gf.mp hr).elim (λh=>M4 (I.ln r h) (NM _ 7)) λq=>af q λk j e=>?_⟩
 .refine af (Nn.mp hx) λr hr C=>eU (qd (e▸B)) λo z A=>?_
  rw[<-C] at o A
  exact au (I.par r hr (N4 o)) λs q=>af q λt u v=>absurd (nf I.nJ u f (v.trans A)) (NZ s)
 .exact au (I.par r h h0) λs q=>af q λt u v=>⟨OF s,t,(gG (ND s) m).trans u,v⟩
 .rw[gG (N0 hi) m] at g
  by_cases l:i<a
  .exact af (I.all i r l g y h0 w hp) λt o z=>⟨t,gf.mpr (.inl o),z⟩
  .rw[OS (N0 hi) (NU l),f] at g
   rw[<-MW g] at hp
   exact af (Nn.mp (show y∈(dD way p (rowAt L a).1).zipIdx.map Prod.fst by rw[List.zipIdx_map_fst];exact Cs h0 w hp)) λk j e=>⟨_,gf.mpr (.inr ⟨k,j,rfl⟩),e⟩
 .rw[e]
  show(_++_:List Bool).length<=_
  rw[Ni]
  exact NY (I.ln _ (Nw f)) (sy (jR (way:=way) (p:=p) (b:=(rowAt L a).1)))
theorem Cw.whole (t:Tree S d p)(I:Cw p a L)(h:L.length<=a){k:Nat}:∀{y:Nat},(eM d y).length<=k->y<6-> ∃r∈L,r.1=y:=by
 induction k with
 |zero=>exact λf b=>absurd (List.length_pos_of_mem (ez.mpr ⟨b,(t.db _ _ b b).mpr .refl⟩)) (Nat.not_lt_of_le f)
 |succ k g=>
  intro y f b
  by_cases h0:y=0
  .exact h0▸I.z
  .have h0:0<y:=OO h0
   exact af (g (y:=p y) (N0 (NF (OV (N7 _) (t.deep h0 b)) f)) (t.is h0 b).1) λr hr e=>ak (O4 hr) λi hi=>I.all i r (NF (Ny.mp hi).1 h) hi y h0 b e.symm
theorem Cw.six (t:Tree S d p)(I:Cw p a L)(h:L.length<=a):6<=L.length:=by
 have hs:List.range 6⊆L.map (·.1):=λy b=>af (I.whole t h kz (Ng.mp b)) λr hr e=>Nn.mpr ⟨r,hr,e⟩
 have:=Pb.length_le_of_subset hs
 rwa [Nk,MX] at this
end
theorem Cy {c:Nat}:de (q%4) a c=de q a c:=funext λj=>by
 unfold de
 rw[Nat.mod_add_mod]
theorem Gf {k:Nat}:∀{a:Nat}{L:List (List Bool×Nat)},DH (q%4) k a L=DH q k a L:=by
 induction k with
 |zero=>exact rfl
 |succ k b=>
  intro a L
  refine MY (λf=>decide (L.length<=a)||(List.range (7 - L.length)).all f) (funext λc=>b.trans ?_)
  unfold grow
  rw[Cy]
theorem Jk (q:Nat):DH q 6 0 [([],0)]=true:=Gf.symm.trans (Nx.mp FZ _ (Ng.mpr (N3 q (by decide))))
theorem Cz {k c:Nat}{L:List (List Bool×Nat)}(h:DH q (k+1) a L=true)(b:a<L.length)(d:c<7 - L.length):DH q k (a+1) (grow q a c L)=true:=
 Nx.mp ((Oi.mp h).resolve_left λe=>O9 b (Nr e)) c (Ng.mpr d)
section
variable {S:List (List Nat)}{d:Nat->Nat->Bool}{p:Nat->Nat}{U:UT}{N:NT}{n:Nat}{Z:St}{L:List Row}{a c seed i j:Nat}{way:Bool}{xs ys:List D}{f:Nat->Int}
structure i6 (p:Nat->Nat)(L:List Row):Prop where
 len:L.length=6
 nJ:(L.map (·.1)).Nodup
 lt:∀i,(rowAt L i).1<6
 z:(rowAt L 0).1=0
 par:∀i,0<i->i<6->(rowAt L i).2.2<i/\(rowAt L (rowAt L i).2.2).1=p (rowAt L i).1
 ln:∀i,(rowAt L i).2.1.length<=42
 less:∀i j,0<i->i<6->(rowAt L i).2.2<=j->j<i->(a9 (rowAt L j).2.1).less (a9 (rowAt L i).2.1)=(j==(rowAt L i).2.2)
theorem jS {r:Row}(h:L[i]?=some r):rowAt L i=r:=by
 unfold rowAt
 rw[Nb,h];rfl
theorem CA:(L.map (·.2)).getD i ([],0)=(rowAt L i).2:=by
 unfold rowAt
 rw[Nb,Nb,Nz]
 cases L[i]?<;>rfl
theorem Gg (t:Tree S d p)(I:Cw p 6 L)(h0:∃r,L[0]?=some r/\r.1=0)(h:DH seed 0 6 (L.map (·.2))=true):i6 p L:=by
 have m:L.length=6:=OS I.len (I.six t I.len)
 have k:∀{i},i<6->L[i]?=some (rowAt L i):=λhi=>m9 (m.symm▸hi)
 have l:∀{i},i<6->rowAt L i∈L:=λhi=>Nw (k hi)
 have g:∀{i}, ¬i<6->rowAt L i=(0,[],0):=λhi=>by
  unfold rowAt
  rw[Nb,Od (m.symm▸NU hi)];rfl
 have v:(rowAt L 0).1=0:=af h0 λr o s=>jS o▸s
 have h:Jd 6 (λi=>(rowAt L i).2)=true:=by
  have h:((L.map (·.2)).length !=6||Jd (L.map (·.2)).length λi=>(L.map (·.2)).getD i ([],0))=true:=h
  rw[MX,m,show(λi=>(L.map (·.2)).getD i ([],0))=λi=>(rowAt L i).2 from funext λi=>CA] at h
  exact h
 have w:∀{i},0<i->i<6->(rowAt L i).2.2<i/\ ∀j,j<i->j<(rowAt L i).2.2\/(a9 (rowAt L j).2.1).less (a9 (rowAt L i).2.1)=(j==(rowAt L i).2.2):=λhi b=>
  au (M9.mp ((Oi.mp (Nx.mp h _ (Ng.mpr b))).resolve_left λe=>N4 hi (NJ.mp e))) λx u=>
   ⟨Nr x,λj y=>(Oi.mp (Nx.mp u j (Ng.mpr y))).imp Nr NJ.mp⟩
 refine⟨m,I.nJ,λi=>?_,v,λi hi b=>⟨(w hi b).1,?_⟩,λi=>?_,λi j hi b o s=>((w hi b).2 j s).resolve_left (Nat.not_lt_of_le o)⟩
 .by_cases hi:i<6
  .exact I.lt _ (l hi)
  .rw[g hi];decide
 .refine au (I.par _ (l b) λq=>N4 hi (nf I.nJ (k b) (k (by decide)) (q.trans v.symm))) λx q=>af q λA u z=>jS u▸z
 .by_cases hi:i<6
  .exact I.ln _ (l hi)
  .rw[g hi];decide
inductive MQ (p:Nat->Nat)(seed:Nat)(way:Bool)(xs:List D)(k:Nat)(Z:St):Prop
 |mk (L:List Row)(K:RK p way seed xs Z)(h4:Z 4=some (.val (fM L)))(I:Cw p k L)(h0:∃r,L[0]?=some r/\r.1=0)(hc:DH seed (6 - k) k (L.map (·.2))=true)
theorem CB (t:Tree S d p)(K:RK p way seed xs Z)(u:Z 4=some (.val (fM [(0,[],0)]))):
  ∃Z' L,ex U N (n+2) (.cW (.one 7) (.range [ME.int 6]) Ji []) Z=some (.next,Z')/\RK p way seed xs Z'/\Z' 4=some (.val (fM L))/\i6 p L:=by
 refine af (cL (c:=λ(k:Nat)=>D.int (k:Int)) (b:=ay (ex U N (n+1)) Ji) (Z0:=λZ d=>bB Z (.one 7) d) (n:=6) (Z:=Z) (MQ p seed way xs) (λa e Z g=>?_) ?_) λv A g=>?_
 .cases g with
  |mk L K u I h0 w=>
   have o:a<L.length:=Nat.lt_of_not_le λq=>O9 e (M4 (I.six t q) q)
   refine bf (Cu (U:=U) (N:=N) (n:=n) (K.set (i:=7) (s:=.val (.int (a:Int))) (.inr (NB _))) u rfl o I.len (lw (M4 (I.ln _ (Nw (m9 o))) (N8 7 (ND e))) rfl)) λZ' B C l=>⟨_,Z',rfl,B,.mk _ C l (I.grow (way:=way) (seed:=seed) o) (af h0 λr hr x=>⟨r,(gG (Ou a) o).trans hr,x⟩) ?_⟩
   have y:=(I.grow (way:=way) (seed:=seed) o).len
   have hp:=(oK (seed:=seed) (a:=a) (L:=L) (ks:=dD way p (rowAt L a).1)).length_eq
   rw[MX,Ni,MX] at hp
   rw[hp] at y
   rw[Cv]
   refine Cz (k:=6 - (a+1)) ((MY (λm=>DH seed m a (L.map (·.2))) (Nat.succ_pred_eq_of_pos (Nat.sub_pos_of_lt e))).trans w) ?_ ?_
   .rw[MX];exact o
   .rw[MX];exact Nat.lt_sub_of_add_lt (O3 _ _▸O1 y)
 .exact .mk _ K u ⟨NA.mpr ⟨Nl,N6⟩,λr hr=>by rw[Nh.mp hr];decide,⟨_,Nh.mpr rfl,rfl⟩,λr hr h=>absurd (by rw[Nh.mp hr]) h,λi r hi=>absurd hi (OL _),λr hr=>by rw[Nh.mp hr];exact NB _⟩ ⟨_,rfl,rfl⟩ (Jk seed)
 .cases g with
  |mk L E l I h0 w=>exact⟨v,L,eJ rfl (aI (aa rfl aj) (range_one (n:=6) (by decide))) A,E,l,Gg t I h0 w⟩
noncomputable def uG (r:Row):D:=cg (cj r.2.1++iE) (a9 r.2.1)
def My (U:UT):Prop:= ∀l:List Bool,l.length<60->U 7 [.str (cj l++iE)]=some (cg (cj l++iE) (a9 l))
def wm (U:UT):Prop:= ∀(s e:Str) (l b:List Bool),l.length<60->b.length<60->U 10 [cg s (a9 l),cg e (a9 b)]=some (.bool ((a9 l).less (a9 b)))
theorem Gh (e:My U)(P:i6 p L)(g:Z 4=some (.val (fM L))):
  (ev U 40).m Z (.comp (.fn (.user 7) [ME.bin .Add (.var 12) (.str (Str.ofString "x \t"))]) [] (MG.mk (.many [14,12]) (.var 4) []) [])=some (.list (L.map uG)):=by
 refine aV (c:=uE) (ys:=L) (λr=>[uG r]) (mP rfl (v_var g) rfl) (λr hr=>?_) bk (by rw[MX,P.len];decide)
 have b:r.2.1.length<=42:=ak (O4 hr) λi hi=>jS hi▸P.ln i
 refine fZ (p:=true) rfl rfl rfl λ_=>aH (d3 (aa (ar (v_var rfl) (aB rfl rfl) (M7 ⟨by rw[m8];exact lv b rfl,?_⟩)) aj) (e _ (lv b rfl)))
 show iE.cps.size<_
 rw[<-Array.length_toList,sv];decide
noncomputable abbrev CC:List MS:=[
   .aug 16 .Sub (.int 1),
   .asg 17 (.fn (.dY 10) [ME.idx (.var 13) (.var 16),ME.idx (.var 13) (.var 15)]),
   .append 3 (.cmp .Is (.var 17) (.cmp .Eq (.idx (.idx (.var 4) (.var 16)) (.int 0)) (.idx (.var 0) (.idx (.idx (.var 4) (.var 15)) (.int 0)))))]
noncomputable abbrev wo:ME:=ME.and (.cmp .Gt (.var 16) (.int 0)) (.cmp .Is (.var 17) (.bool false))
noncomputable abbrev HL:List MS:=[.cN [(16,0),(17,0)] [ME.var 15,ME.bool false],.du wo CC,.setItem 5 (.idx (.idx (.var 4) (.var 15)) (.int 0)) (.idx (.idx (.var 4) (.var 16)) (.int 0))]
structure TI (p:Nat->Nat)(L:List Row)(i:Nat)(f:Nat->Int)(Z:St):Prop where
 v0:Z 0=some (.val (jN p))
 v4:Z 4=some (.val (fM L))
 v5:Z 5=some (.own (.list ((List.range 6).map λy=>D.int (f y))))
 yM:Z 13=some (.val (.list (L.map uG)))
 JP:Z 15=some (.val (.int (i:Int)))
theorem off {k j:Nat}(hi:j=3\/16<=j)(b:k≠3)(g:k<16):¬k=j:=λe=>hi.elim (λq=>b (e.trans q)) λq=>O9 g (e▸q)
theorem TI.set {s:_root_.av.Slot}(k:TI p L i f Z)(hi:j=3\/16<=j):TI p L i f (Z.set j s):=
 ⟨(M8 (off hi (by decide) (by decide))).trans k.v0,(M8 (off hi (by decide) (by decide))).trans k.v4,(M8 (off hi (by decide) (by decide))).trans k.v5,(M8 (off hi (by decide) (by decide))).trans k.yM,(M8 (off hi (by decide) (by decide))).trans k.JP⟩
theorem i6.at (P:i6 p L)(h:i<6):L[i]?=some (rowAt L i):=m9 (P.len.symm▸h)
theorem i6.idx (P:i6 p L)(h:i<6):D.index (fM L) (.int (i:Int))=some (uE (rowAt L i)):=nc (P.len.symm▸h) (lu h rfl)
theorem CG (P:i6 p L)(hi:i<6)(b:j<6)(h:(rowAt L i).1=(rowAt L j).1):i=j:=nf P.nJ (P.at hi) (P.at b) h
theorem i6.gD (P:i6 p L)(h0:0<i)(hi:i<6):gD p (rowAt L i).1=((rowAt L (rowAt L i).2.2).1:Int):=by
 rw[(P.par i h0 hi).2]
 exact M8 λq=>N4 h0 (CG P hi (by decide) (q.trans P.z.symm))
theorem oL (y:wm U)(P:i6 p L)(hi:i<6)(z:(rowAt L i).2.2<=j)(h:j<i)(A:ys.length<1000)(I:TI p L i f Z)(l:Z 3=some (.ext ys))(b:Z 16=some (.val (.int ((j+1:Nat):Int)))):
  ∃Z',ay (ex U N (n+1)) CC Z=some (.next,Z')/\TI p L i f Z'/\Z' 3=some (.ext (ys++[.bool true]))/\Z' 16=some (.val (.int (j:Int)))/\Z' 17=some (.val (.bool (j==(rowAt L i).2.2))):=by
 have h0:0<i:=Nat.zero_lt_of_lt h
 have m:j<6:=NW h hi
 have s1:ex U N (n+1) (.aug 16 .Sub (.int 1)) Z=some (.next,Z.set 16 (.val (.int (j:Int)))):=oC rfl b rfl (MY (λx=>some (D.int x)) (Int.add_sub_cancel j 1))
 have s:TI p L i f (Z.set 16 (.val (.int (j:Int)))):=I.set (.inr (NB _))
 have b:Z.set 16 (.val (.int (j:Int))) 16=some (.val (.int (j:Int))):=rfl
 have l:Z.set 16 (.val (.int (j:Int))) 3=some (.ext ys):=l
 generalize Z.set 16 (.val (.int (j:Int)))=o at s1 s b l
 have t:∀{k:Nat},k<6->D.index (.list (L.map uG)) (.int (k:Int))=some (uG (rowAt L k)):=λu=>bC (by rw[Nz,P.at u];rfl) (lu u rfl)
 have v:=rQ (U:=U) (n:=39) (f:=.dY 10) rfl (aa (aK (v_var s.yM) (ao b) (t m)) (aa (aK (v_var s.yM) (ao s.JP) (t hi)) aj)) (lz (y _ _ _ _ (lv (P.ln j) rfl) (lv (P.ln i) rfl)))
 rw[P.less i j h0 hi z h] at v
 have g:TI p L i f (o.set 17 (.val (.bool (j==(rowAt L i).2.2)))):=s.set (.inr (OK _))
 have w:=bg (U:=U) (N:=N) (n:=n) (i:=17) v
 have q:o.set 17 (.val (.bool (j==(rowAt L i).2.2))) 16=some (.val (.int (j:Int))):=b
 have r:o.set 17 (.val (.bool (j==(rowAt L i).2.2))) 17=some (.val (.bool (j==(rowAt L i).2.2))):=rfl
 have l:o.set 17 (.val (.bool (j==(rowAt L i).2.2))) 3=some (.ext ys):=l
 generalize o.set 17 (.val (.bool (j==(rowAt L i).2.2)))=o at w g q r l
 have B:(ev U 40).m o (.cmp .Is (.var 17) (.cmp .Eq (.idx (.idx (.var 4) (.var 16)) (.int 0)) (.idx (.var 0) (.idx (.idx (.var 4) (.var 15)) (.int 0)))))=some (.bool true):=by
  refine il (v_var r) (aB rfl (il (aB rfl (aK (aZ g.v4 (aK (v_var g.v4) (ao q) (P.idx m))) rfl rfl)) (aZ g.v0 (aK (v_var g.v0) (aK (aZ g.v4 (aK (v_var g.v4) (ao g.JP) (P.idx hi))) rfl rfl) (mY (P.lt i)))) (v9 (k:=5)))) ?_
  show some ((j==(rowAt L i).2.2)==(((rowAt L j).1:Int)==gD p (rowAt L i).1))=_
  rw[P.gD h0 hi]
  refine MY some (NJ.mpr (Oj.mpr ?_))
  rw[NJ,NJ]
  exact⟨λe=>MY (λj=>((rowAt L j).1:Int)) e,λe=>CG P m (NW (P.par i h0 hi).1 hi) (O5 e)⟩
 exact⟨_,ae s1 (ae w (ae (kn (U:=U) (N:=N) (n:=n) (i:=3) B l (lu A rfl)) rfl)),g.set (.inl rfl),rfl,q,r⟩
theorem oM {b:Bool}(e:Z 16=some (.val (.int (j:Int))))(g:Z 17=some (.val (.bool b))):(ev U 40).t Z wo=some (decide (0<j)&& !b):=by
 refine(kG (U:=U) (n:=39) (Z:=Z) (p:=decide ((0:Int)<(j:Int))) (q:=b==false) (aS (v_var e) (aB rfl rfl) rfl) λ_=>aS (v_var g) (aB rfl rfl) rfl).trans (MY some ?_)
 rw[show decide ((0:Int)<(j:Int))=decide (0<j) from ON.mpr Int.natCast_pos]
 cases b<;>rfl
theorem wq (b:Z 16=some (.val (.int ((j+1:Nat):Int))))(e:Z 17=some (.val (.bool false))):(ev U 40).t Z wo=some true:=(oM b e).trans (by rw[Nq (Oh j)];rfl)
theorem yN (y:wm U)(P:i6 p L)(hi:i<6){k:Nat}:∀{ys:List D}{Z:St}{m:Nat},(rowAt L i).2.2+k<i->ys.length+k<990->TI p L i f Z->Z 3=some (.ext ys)->Z 16=some (.val (.int (((rowAt L i).2.2+k+1:Nat):Int)))->Z 17=some (.val (.bool false))->k<m->
  ∃Z',cy (λZ=>(ev U 40).t Z wo) (ay (ex U N (n+1)) CC) (m+1) Z=some (.next,Z')/\TI p L i f Z'/\Z' 3=some (.ext (ys++List.replicate (k+1) (.bool true)))/\Z' 16=some (.val (.int ((rowAt L i).2.2:Int))):=by
 induction k with
 |zero=>
  intro ys Z m o q I s b h r
  refine JR (oL (U:=U) (N:=N) (n:=n) y P hi (NB _) o (lu q rfl) I s b) λZ1 t u v e g=>?_
  cases m with
  |zero=>exact absurd r (Oa _)
  |succ m=>exact⟨Z1,d9 (wq b h) t (f5 ((oM e g).trans (by rw[O8];exact MY some (Bool.and_false _)))),u,v,e⟩
 |succ k z=>
  intro ys Z m o q I s b h r
  refine JR (oL (U:=U) (N:=N) (n:=n) y P hi (j:=(rowAt L i).2.2+(k+1)) (NM _ _) o (lu (M5 (NM _ _) q) rfl) I s b) λZ1 t u v e g=>?_
  rw[show((rowAt L i).2.2+(k+1)==(rowAt L i).2.2)=false from OT.mpr (N4 (Nat.lt_add_of_pos_right (Oh k)))] at g
  cases m with
  |zero=>exact absurd r (OL _)
  |succ m=>exact ni (z (O2 o) (by rw[Ni,Nat.add_right_comm];exact q) u v e g (Nat.lt_of_succ_lt_succ r)) λw A B C x=>⟨w,d9 (wq b h) t A,B,C.trans (MY (λl=>some (_root_.av.Slot.ext l)) (NS ..)),x⟩
noncomputable def ja (p:Nat->Nat)(L:List Row)(i:Nat)(y:Nat):Int:=if y∈(L.take i).map (·.1) then gD p y else -1
theorem oN (P:i6 p L)(hi:i<6):ja p L (i+1) y=if y=(rowAt L i).1 then gD p y else ja p L i y:=by
 unfold ja
 rw[show(L.take (i+1)).map (·.1)=(L.take i).map (·.1)++[(rowAt L i).1] by rw[List.take_add_one,P.at hi,Nu];rfl]
 by_cases h:y=(rowAt L i).1
 .rw[M7 h,M7 (NK.mpr (.inr (Nh.mpr h)))]
 .rw[M8 h]
  by_cases b:y∈(L.take i).map (·.1)
  .rw[M7 b,M7 (NK.mpr (.inl b))]
  .rw[M8 b,M8 λq=>(NK.mp q).elim b λq=>h (Nh.mp q)]
theorem CH (v:wm U)(P:i6 p L)(h:0<i)(hi:i<6)(g:ys.length<900)(I:TI p L i (ja p L i) Z)(w:Z 3=some (.ext ys)):
  ∃Z' k,k<6/\ay (ex U N (n+2)) HL Z=some (.next,Z')/\TI p L i (ja p L (i+1)) Z'/\Z' 3=some (.ext (ys++List.replicate k (.bool true))):=by
 have t:=(P.par i h hi).1
 refine ak (Nat.exists_eq_add_of_lt t) λk o=>?_
 have q:k+1<6:=M5 (OD (Og k _)) (M5 (NR o.symm) hi)
 have s1:ex U N (n+2) (.cN [(16,0),(17,0)] [ME.var 15,ME.bool false]) Z=some (.next,(Z.set 16 (.val (.int (i:Int)))).set 17 (.val (.bool false))):=ey (aa (ao I.JP) (aa rfl aj)) rfl
 refine ni (yN (U:=U) (N:=N) (n:=n) (k:=k) (m:=63) v P hi (OV (N7 _) o.symm) (lu (Nat.add_lt_add g (O2 q)) rfl) ((I.set (.inr (NB _))).set (.inr (OK _))) w (MY (λx:Nat=>some (_root_.av.Slot.val (.int (x:Int)))) o) rfl (lu (O2 q) rfl)) λr z b A s=>?_
 have u:=ki (U:=U) (N:=N) (n:=n+1) (i:=5) (k:=(rowAt L i).1) (Z:=r) (e:=ME.idx (.idx (.var 4) (.var 16)) (.int 0)) (e':=ME.idx (.idx (.var 4) (.var 15)) (.int 0)) (d:=.int ((rowAt L (rowAt L i).2.2).1:Int)) (aK (aZ b.v4 (aK (v_var b.v4) (ao s) (P.idx (NW t hi)))) rfl rfl) (aK (aZ b.v4 (aK (v_var b.v4) (ao b.JP) (P.idx hi))) rfl rfl) b.v5 (by rw[MX,Nk];exact P.lt i) (by rw[MX,Nk];decide)
 rw[iT] at u
 refine⟨_,_,q,ae s1 (ae (pR z) (ae u rfl)),⟨b.v0,b.v4,?_,b.yM,b.JP⟩,A⟩
 refine MY (λl=>some (_root_.av.Slot.own (.list l))) (N2 λy _=>?_)
 rw[oN P hi]
 by_cases g:y=(rowAt L i).1
 .rw[M7 g,M7 g,g,P.gD h hi]
 .rw[M8 g,M8 g]
theorem CJ (P:i6 p L)(b:y<6):ja p L 6 y=gD p y:=by
 unfold ja
 rw[List.take_of_length_le (NR P.len)]
 refine M7 (OZ λh=>?_)
 have q:=bc (n:=6) (NA.mpr ⟨h,P.nJ⟩) (OA.mpr ⟨b,λx hx=>af (Nn.mp hx) λr hr e=>ak (O4 hr) λi hi=>e▸jS hi▸P.lt i⟩)
 rw[List.length_cons,MX,P.len] at q
 exact absurd q (by decide)
theorem yO :ja p L 0 y= -1:=M8 Nl
theorem CK (P:i6 p L):ja p L 1 y= -1:=by
 rw[oN P (by decide),yO,P.z]
 by_cases h:y=0
 .rw[M7 h];exact M7 h
 .rw[M8 h]
inductive HI (p:Nat->Nat)(L:List Row)(xs:List D)(k:Nat)(Z:St):Prop
 |mk (m:Nat)(v0:Z 0=some (.val (jN p)))(v4:Z 4=some (.val (fM L)))(v5:Z 5=some (.own (.list ((List.range 6).map λy=>D.int (ja p L (1+k) y)))))(yM:Z 13=some (.val (.list (L.map uG))))(hm:m<=5*k)(h3:Z 3=some (.ext (xs++List.replicate m (.bool true))))
theorem CM (t:Tree S d p)(r:My U)(B:wm U){i:Int}(hx:xs.length<800):
  ∃m,m<=25/\rN U N n0 [jN p,.int i,.int (seed:Int)] xs=some (jN p,xs++List.replicate m (.bool true)):=by
 refine ak (⟨_,rfl⟩:∃Z:St,Z=λj=>if j=3 then some (.ext xs) else(([jN p,.int i,.int (seed:Int)]:List D)[j]?).map .val) λZ e=>?_
 have s1:ex U N 12 (.cN [(4,0),(5,1),(6,0)] [ME.list [ME.tup [ME.int 0,ME.str (Str.ofString "")]],ME.bin .Mult (.list [ME.neg (.int 1)]) (.int 6),ME.list [ME.tup [ME.str (Str.ofString "\t"),ME.str (Str.ofString "  ")],ME.tup [ME.str (Str.ofString "   \t"),ME.str (Str.ofString "  \t  ")],ME.tup [ME.str (Str.ofString " "),ME.str (Str.ofString "\t")],ME.tup [ME.str (Str.ofString "\t"),ME.str (Str.ofString " \t")]]]) Z
  =some (.next,((Z.set 4 (.val (.list [.tup [.int 0,.str ""]]))).set 5 (.own (.list (List.replicate 6 (.int (-1)))))).set 6 (.val kA)):=ey rfl rfl
 rw[show("":Str)=cj [] by decide+kernel] at s1
 refine jb (CB t (U:=U) (N:=N) (n:=10) (way:=decide (0<i)) (seed:=seed) (xs:=xs) (Z:=((Z.set 4 (.val (.list [.tup [.int 0,.str (cj [])]]))).set 5 (.own (.list (List.replicate 6 (.int (-1)))))).set 6 (.val kA)) ⟨Nm e 0,⟨i,Nm e 1,rfl⟩,Nm e 2,Nm e 3,rfl,rfl⟩ rfl) λs L C u z P=>?_
 have E:=bg (U:=U) (N:=N) (n:=11) (i:=13) (Gh r P z)
 refine af (cL (c:=λ(k:Nat)=>D.int ((1+k:Nat):Int)) (b:=ay (ex U N 11) HL) (Z0:=λZ d=>bB Z (.one 15) d) (n:=5) (Z:=s.set 13 (.val (.list (L.map uG)))) (HI p L xs) (λk A Z g=>?_) (.mk 0 u.v0 z (u.v5.trans ?_) rfl (NB _) (u.v3.trans (MY (λl=>some (_root_.av.Slot.ext l)) (NP _).symm)))) λh G g=>?_
 .cases g with
  |mk m v0 v4 v5 yM o v=>
   refine jb (CH (U:=U) (N:=N) (n:=9) B P (i:=1+k) (NF Nat.one_pos (NM 1 k)) (O6 A 1) (ys:=xs++List.replicate m (D.bool true)) ?_ (Z:=Z.set 15 (.val (.int ((1+k:Nat):Int)))) ⟨v0,v4,v5,yM,rfl⟩ v) λw H x I q J=>⟨_,w,rfl,I,.mk (m+H) q.v0 q.v4 q.v5 q.yM (NY o (N0 x)) (J.trans (MY (λl=>some (_root_.av.Slot.ext l)) (by rw[NS,OM])))⟩
   rw[Ni,Ow]
   exact lu (Nat.add_lt_add_of_lt_of_le hx (M4 o (N8 5 (ND A)))) rfl
 .exact MY (λl=>some (_root_.av.Slot.own (.list l))) (N2 (f:=λ_=>D.int (-1)) (l:=List.range 6) λy _=>MY D.int (CK P).symm)
 .cases g with
  |mk m v0 v4 v5 yM o v=>
   have K:=v5.trans (MY (λl=>some (_root_.av.Slot.own (.list l))) (N2 λy M=>MY D.int (CJ P (Ng.mp M))))
   have hr:ay (ex U N 12) n0 Z=some (.ret (jN p),h):=ae s1 (ae C (ae E (ae (eJ rfl (aI (aa rfl (aa rfl aj)) (f6 (a:=1) (b:=6) (by decide) (by decide))) G) (bA (eK (ao (by show(h 5).bind _=_;rw[K];rfl)))))))
   rw[e] at hr
   exact⟨m,o,bs hr (bs v rfl)⟩
end
noncomputable def dig:Nat->Nat->List Nat
 |0,_=>[]
 |m+1,x=>(x/64^m%64+(if 0<m then 64 else 0))::dig m x
noncomputable def enc (x:Nat):List Nat:=([5,4,3,2,1,0].filter λk=>decide (k=0)||decide (64^k<=x)).map λk=>x/64^k%64+(if 0<k then 64 else 0)
noncomputable def mark:List Nat->List Nat
 |[]=>[]
 |c::r=>(128+c)::r
noncomputable def qe (h:Bool)(x:Nat):List Nat:=if h then mark (enc x) else enc x
noncomputable def desc:Nat->List Nat
 |0=>[0]
 |m+1=>(m+1)::desc m
noncomputable abbrev encL (x:Nat)(l:List Nat):List Nat:=(l.filter λk=>decide (k=0)||decide (64^k<=x)).map λk=>x/64^k%64+(if 0<k then 64 else 0)
theorem wt {x m:Nat}(h:m=0\/64^m<=x):encL x (desc m)=dig (m+1) x:=by
 induction m with
 |zero=>rfl
 |succ m a=>
  have h:=h.resolve_left (Nat.succ_ne_zero m)
  refine(MY (List.map _) (List.filter_cons_of_pos (by exact Oi.mpr (.inr (Nq h))))).trans ?_
  exact MY (_:: ·) (a (.inr (M4 (Nat.pow_le_pow_right (by decide) (OK m)) h)))
theorem Ld {x m:Nat}(h:x<64^(m+1)):∃k,encL x (desc m)=dig (k+1) x/\x<64^(k+1)/\k<=m:=by
 induction m with
 |zero=>exact⟨0,wt (.inl rfl),h,NB _⟩
 |succ m b=>
  by_cases a:64^(m+1)<=x
  .exact⟨m+1,wt (.inr a),h,NB _⟩
  .refine bf (b (Nat.lt_of_not_le a)) λk e c d=>⟨k,Eq.trans (MY (List.map _) (List.filter_cons_of_neg (by rw[NQ (Nat.succ_ne_zero m),NQ a];exact nb))) e,c,Oy d⟩
theorem qf {x:Nat}(h:x<64^5):∃m,enc x=dig (m+1) x/\x<64^(m+1)/\m<5:=
 bf (Ld (m:=4) h) λk e a b=>⟨k,Eq.trans (MY (List.map _) (List.filter_cons_of_neg (by rw[NQ (Nat.succ_ne_zero 4),NQ (Nat.not_le.mpr h)];exact nb))) e,a,O1 b⟩
section
variable {m x:Nat}
theorem top_lt:x/64^m%64+(if 0<m then 64 else 0)<128:=by
 by_cases h:0<m
 .rw[M7 h];exact Nat.add_lt_add_right (N3 _ (by decide)) 64
 .rw[M8 h];exact lu (N3 (x/64^m) (by decide:0<64)) rfl
theorem qg:(x/64^m%64+(if 0<m then 64 else 0))%64=x/64^m%64:=by
 by_cases h:0<m
 .rw[M7 h,Nat.add_mod_right,Nat.mod_mod]
 .rw[M8 h];exact Nat.mod_mod ..
theorem qh:(x/64^m%64+(if 0<m then 64 else 0))/64=if 0<m then 1 else 0:=by
 have e:=Nat.div_eq_of_lt (N3 (x/64^m) (by decide:0<64))
 by_cases h:0<m
 .rw[M7 h,M7 h,Nat.add_div_right _ (by decide),e]
 .rw[M8 h,M8 h];exact e
theorem CN {c:Nat}(h:c∈dig m x):c<128:=by
 induction m with
 |zero=>exact absurd h Nl
 |succ m a=>exact(Np.mp h).elim (λh=>h▸top_lt) a
theorem Gi:(dig m x).length=m:=by
 induction m with
 |zero=>rfl
 |succ m a=>exact MY Nat.succ a
end
theorem Gj {x c:Nat}(hx:x<64^5)(a:c∈qe h x):c<256:=by
 refine af (qf hx) λm e _=>?_
 unfold qe at a
 rw[e] at a
 cases h with
 |false=>exact lu (CN a) rfl
 |true=>exact(Np.mp a).elim (λh=>h▸O6 top_lt 128) λh=>lu (CN h) rfl
section
variable {T:List Nat}{i x:Nat}
noncomputable abbrev arrOf (T:List Nat):Array UInt8:=byteArr (T.map λ(k:Nat)=>(k:Int))
theorem fQ (b:∀c∈T,c<256){c:Nat}{r:List Nat}(h:T.drop i=c::r):∃u,(arrOf T)[i]?=some u/\u.toNat=c/\T.drop (i+1)=r:=by
 have a:T[i]?=some c:=by
  rw[<-List.head?_drop,h];rfl
 refine⟨c.toUInt8,?_,?_,?_⟩
 .unfold arrOf byteArr
  rw[List.getElem?_toArray,Nz,Nz,a];rfl
 .exact(UInt8.toNat_ofNat' (n:=c)).trans (Nat.mod_eq_of_lt (b c (Nw a)))
 .rw[<-List.drop_drop,h];rfl
theorem qi (h:T.drop i=[]):(arrOf T)[i]?=none:=by
 unfold arrOf byteArr
 rw[List.getElem?_toArray,Od (by rw[MX,MX];exact List.drop_eq_nil_iff.mp h)]
theorem Le (c:Nat):Builtin.bitAnd (c:Int) 63=((c%64:Nat):Int):=MY Int.ofNat (Nat.and_two_pow_sub_one_eq_mod c 6)
theorem CO {c:Nat}:(Builtin.bitAnd (c:Int) 64≠0)↔c/64%2=1:=by
 rw[show Builtin.bitAnd (c:Int) 64=((c&&& 2^6:Nat):Int) from rfl,fL,O0]
 by_cases h:c/2^6%2=1
 .rw[Nq h];exact⟨λ_=>h,λ_=>by decide⟩
 .rw[NQ h];exact⟨λq=>absurd rfl q,λq=>absurd q h⟩
section
variable {bs:Array UInt8}{n:Nat}{v:Int}{b c:UInt8}
theorem Jl (h:b.toNat/64%2=0):dC bs (n+1) v b i=some (some (v,i)):=M8 λq=>Nat.zero_ne_one (h.symm.trans (CO.mp q))
theorem wu (h:b.toNat/64%2=1)(a:v.natAbs<2^64)(d:bs[i]?=some c):dC bs (n+1) v b i=dC bs n (Builtin.bitOr (v*2^6) (c.toNat%64:Nat)) c (i+1):=by
 refine(M7 (CO.mpr h)).trans ((M7 a).trans ?_)
 rw[d, <-Le]
theorem wx (h:b.toNat/64%2=1)(a:v.natAbs<2^64)(d:bs[i]?=none):dC bs (n+1) v b i=some none:=by
 refine(M7 (CO.mpr h)).trans ((M7 a).trans ?_)
 rw[d]
theorem wy (a:bs[i]?=some c):cM bs i=dC bs 64 (c.toNat%64:Nat) c (i+1):=by
 unfold cM
 rw[a, <-Le]
end
theorem Gk (f:∀c∈T,c<256)(hx:x<2^36):∀{m n v i:Nat}{b:UInt8}{rest:List Nat},T.drop i=dig m x++rest->m<n->v=x/64^m->b.toNat/64%2=(if 0<m then 1 else 0)->dC (arrOf T) n (v:Int) b i=some (some ((x:Int),i+m)):=by
 intro m
 induction m with
 |zero=>
  intro n v i b rest _ a d hb
  cases n with
  |zero=>exact absurd a (Oa _)
  |succ n=>rw[Jl hb,d,Nat.pow_zero,Nat.div_one];rfl
 |succ m g=>
  intro n v i b rest h a d hb
  cases n with
  |zero=>exact absurd a (OL _)
  |succ n=>
   refine bf (fQ f h) λu j e k=>?_
   have l:x/64^(m+1)=x/64^m/64:=(Nat.div_div_eq_div_mul ..).symm
   rw[wu (by exact hb) (by exact lu (M5 (d▸Nat.div_le_self ..) hx) rfl) j,e,qg,show(v:Int)*2^6=((2^6*v:Nat):Int) by rw[Int.natCast_mul,Int.mul_comm];rfl,BE, <-Nat.two_pow_add_eq_or_of_lt (by exact N3 _ (by decide)),show i+(m+1)=i+1+m from(Nat.succ_add i m).symm]
   refine g k (Nat.lt_of_succ_lt_succ a) ?_ ?_
   .rw[d,l];exact Nat.div_add_mod ..
   .rw[e,qh]
    by_cases h:0<m
    .rw[M7 h]
    .rw[M8 h]
theorem CP (g:∀c∈T,c<256)(hx:x<64^5){rest:List Nat}(o:T.drop i=qe h x++rest):∃j,cM (arrOf T) i=some (some ((x:Int),j))/\T.drop j=rest:=by
 refine bf (qf hx) λm e p a=>?_
 have k:x/64^m%64=x/64^m:=Nat.mod_eq_of_lt (Nat.div_lt_of_lt_mul p)
 have q:∃c,c%64=x/64^m/\c/64%2=(if 0<m then 1 else 0)/\T.drop i=c::(dig m x++rest):=by
  have b1:(if 0<m then 1 else 0)%2=if 0<m then 1 else 0:=by
   by_cases h:0<m
   .rw[M7 h]
   .rw[M8 h]
  rw[o]
  unfold qe
  rw[e]
  cases h with
  |false=>exact⟨_,qg.trans k,by rw[qh,b1],rfl⟩
  |true=>exact⟨_,((Nat.mul_add_mod 64 2 _).trans qg).trans k,by rw[Nat.mul_add_div (by decide),qh,Nat.add_mod_left,b1],rfl⟩
 refine bf q λc b d f=>bf (fQ g f) λu r l n=>⟨i+1+m,?_,?_⟩
 .rw[wy r,l,b]
  exact Gk g (lu hx rfl) n (lu a rfl) rfl (by rw[l];exact d)
 .rw[<-List.drop_drop,n,List.drop_left' Gi]
theorem CQ (b:∀c∈T,c<256){k:Nat}(h:T.drop i=[64,65].take k):cM (arrOf T) i=some none:=by
 cases k with
 |zero=>unfold cM;rw[qi h]
 |succ k=>
  refine bf (fQ b (c:=64) (r:=[65].take k) h) λu g a d=>?_
  rw[wy g,a]
  cases k with
  |zero=>exact wx (by rw[a]) (by decide) (qi d)
  |succ k=>
   refine bf (fQ b (c:=65) (r:=[].take k) d) λl j e f=>?_
   rw[List.take_nil] at f
   exact(wu (by rw[a]) (by decide) j).trans (wx (by rw[e]) (by rw[e];decide) (qi f))
theorem CR (a:∀c∈T,c<256){k:Nat}{L:List (Bool×Nat)}:∀{n p:Nat}{acc:List Int},(∀q∈L,q.2<64^5)->T.drop p=(L.flatMap λq=>qe q.1 q.2)++[64,65].take k->L.length<n->f7 (arrOf T) n p acc=some (acc++L.map λq=>(q.2:Int)):=by
 induction L with
 |nil=>
  intro n p acc _ h hn
  cases n with
  |zero=>exact absurd hn (Oa _)
  |succ n=>exact(IM (CQ a h)).trans (MY some (NP _).symm)
 |cons q L d=>
  intro n p acc b h hn
  cases n with
  |zero=>exact absurd hn (OL _)
  |succ n=>
   rw[OG,NS] at h
   refine af (CP a (b q (Nf ..)) h) λj e f=>?_
   rw[Ff e,d (λr hr=>b r (Nj _ hr)) f (Nat.lt_of_succ_lt_succ hn),NS];rfl
end
theorem Gl (x:Nat):(enc x).length<=6:=by
 unfold enc
 rw[MX]
 exact Nv ..
theorem uH {x:Nat}(h:x<64^5):∃c r,enc x=c::r:=by
 refine af (qf h) λm e a=>?_
 exact⟨_,_,e⟩
noncomputable def ee (r:List Nat):List Nat:=mark (r.flatMap enc)
noncomputable def gH:List Nat->List (Bool×Nat)
 |[]=>[]
 |a::r=>(true,a)::r.map λx=>(false,x)
theorem Gm {r:List Nat}(h:∀x∈r,x<64^5):ee r=(gH r).flatMap λq=>qe q.1 q.2:=by
 cases r with
 |nil=>rfl
 |cons a r=>
  refine eZ (uH (h a (Nf ..))) λc s e=>?_
  unfold ee gH
  rw[OG,OG,List.flatMap_map]
  show mark (enc a++r.flatMap enc)=mark (enc a)++r.flatMap enc
  rw[e];rfl
theorem sC {r:List Nat}:(gH r).map (·.2)=r:=by
 cases r with
 |nil=>rfl
 |cons a r=>
  unfold gH
  rw[Ob,NO]
  exact MY (a:: ·) (List.map_id ..)
section
variable {U:UT}{N:NT}{n:Nat}{Z:St}
noncomputable abbrev Lf:ME:=ME.comp (.bin .Add (.bin .Mod (.bin .FloorDiv (.var 6) (.bin .Pow (.int 64) (.var 7))) (.int 64)) (.bin .Mult (.int 64) (.cmp .Gt (.var 7) (.int 0)))) [] (MG.mk (.one 6) (.var 4) []) [MG.mk (.one 7) (.range [ME.int 5,ME.neg (.int 1),ME.neg (.int 1)]) [ME.or (.cmp .Eq (.var 7) (.int 0)) (.cmp .GtE (.var 6) (.bin .Pow (.int 64) (.var 7)))]]
theorem jT {b:Int}:D.cmp .Eq (.int a) (.int b)=some (a==b):=rfl
theorem yP {i:Nat}{d:D}(h:Z i=some (.val d)):noOwn Z (.var i)=true:=by
 show(match Z i with
  |some (.val _)=>true
  |_=>false)=_
 rw[h]
theorem Gn {r:List Nat}:(r.flatMap enc).length<=6*r.length:=by
 induction r with
 |nil=>exact NB _
 |cons a r b=>
  rw[OG,Ni,O3]
  exact NY b (Gl a)
theorem sD {r:List Nat}(hr:r.length<=3):(r.flatMap enc).length<=18:=M4 Gn (N8 6 hr)
theorem Jm {r:List Nat}(hr:r.length<=3)(hx:∀x∈r,x<64^5)(i:Z 4=some (.val (nl r))):(ev U 40).m Z Lf=some (nl (r.flatMap enc)):=by
 refine aV (c:=λ(x:Nat)=>D.int (x:Int)) (ys:=r) (λx=>(enc x).map λ(k:Nat)=>D.int (k:Int)) (mP rfl (v_var i) rfl) (λx j=>?_) (out:=(r.flatMap enc).map λ(k:Nat)=>D.int (k:Int)) ?_ ?_
 .have hx:=hx x j
  refine aF (p:=true) rfl rfl λ_=>?_
  have l:([5,4,3,2,1,0]:List Nat).flatMap (λk=>if(decide (k=0)||decide (64^k<=x))=true then[D.int ((x/64^k%64+(if 0<k then 64 else 0):Nat):Int)] else[])=(enc x).map λ(k:Nat)=>D.int (k:Int):=by
   rw[aO (c:=λk=>D.int ((x/64^k%64+(if 0<k then 64 else 0):Nat):Int))]
   unfold enc
   rw[NO];rfl
  rw[<-l]
  refine eE _ rfl (aI (aa rfl (aa (mO rfl) (aa (mO rfl) aj))) (show D.range [.int 5,.int (-1),.int (-1)]=some (([5,4,3,2,1,0]:List Nat).map λ(k:Nat)=>D.int (k:Int)) from rfl)) λk e=>?_
  have e:=(show∀k∈([5,4,3,2,1,0]:List Nat),k<=5 by decide) k e
  have g:∀(d:St) (m:Nat),d 7=some (.val (.int (k:Int)))->(ev U (m+3)).m d (.bin .Pow (.int 64) (.var 7))=some (.int ((64^k:Nat):Int)):=λd m h=>ar (aB rfl rfl) (v_var h) (jP (a:=64) (by decide) (lw e rfl))
  refine aF rfl (a7 (Ae (p:=decide (k=0)) (q:=decide (64^k<=x)) ((aS (v_var rfl) (aB rfl rfl) jT).trans ?_) λ_=>(aS (v_var rfl) (aB rfl (g _ 33 rfl)) rfl).trans ?_)) λht=>aH ?_
  .exact MY some (Oj.mpr (by rw[NJ,Nd];exact⟨O5,MY Int.ofNat⟩))
  .exact MY some (ON.mpr Ot)
  .have f:64^k<2^30:=(Oi.mp ht).elim (λh=>Nr h▸by decide) λh=>M5 (Nr h) hx
   have o:(ev U 35).m (St.set (St.set (Z.cut []) 6 (.val (.int (x:Int)))) 7 (.val (.int (k:Int)))) (.cmp .Gt (.var 7) (.int 0))=some (.bool (decide (0<k))):=(il (v_var rfl) (aB rfl rfl) rfl).trans (MY (λb=>some (D.bool b)) (ON.mpr Int.natCast_pos))
   refine ar (aB rfl (ar (aB rfl (ar (v_var rfl) (aB rfl (g _ 30 rfl)) (cR (N4 (Nat.pow_pos (by decide))) f))) (aB rfl rfl) (bX (b:=64) (by decide)))) (aB rfl (ar (aB rfl rfl) (aB rfl o) (show D.bin .Mult (.int 64) (.bool (decide (0<k)))=some (.int ((if 0<k then 64 else 0:Nat):Int)) from ?_))) add_int
   by_cases h:0<k
   .rw[Nq h,M7 h];rfl
   .rw[NQ h,M8 h];rfl
 .rw[List.map_flatMap]
 .rw[MX];exact lv (sD hr) rfl
theorem Gp {r:List Nat}(b:r≠[])(hx:∀x∈r,x<64^5):∃c s,r.flatMap enc=c::s:=by
 cases r with
 |nil=>exact absurd rfl b
 |cons a r=>exact eZ (uH (hx a (Nf ..))) λc s e=>⟨c,s++r.flatMap enc,by rw[OG,e];rfl⟩
theorem wz {a b:Type}{f:a->List b}{ys:List a}{r:a}:(ys++[r]).flatMap f=ys.flatMap f++f r:=List.flatMap_append.trans (MY (ys.flatMap f++ ·) (NP (f r)))
theorem yQ {L:List (List Nat)}(h:∀r∈L, ∀x∈r,x<64^5):L.flatMap ee=(L.flatMap gH).flatMap (λq=>qe q.1 q.2)/\(L.flatMap gH).map (·.2)=L.flatten/\ ∀q∈L.flatMap gH,q.2<64^5:=by
 induction L with
 |nil=>exact⟨rfl,rfl,λq a=>absurd a Nl⟩
 |cons r L c=>
  refine eU (c λd b=>h d (Nj _ b)) λe f g=>?_
  have hr:=h r (Nf ..)
  refine⟨?_,?_,λq a=>(NK.mp a).elim (λa=>hr q.2 (sC (r:=r)▸Nn.mpr ⟨q,a,rfl⟩)) (g q)⟩
  .rw[OG,OG,List.flatMap_append, <-e,Gm hr]
  .rw[OG,Nu,sC,f,List.flatten_cons]
theorem CU {L:List (Bool×Nat)}(h:∀q∈L,q.2<64^5):L.length<=(L.flatMap λq=>qe q.1 q.2).length:=by
 induction L with
 |nil=>exact NB _
 |cons q L a=>
  rw[OG,Ni,O3]
  refine NY (a λb d=>h b (Nj _ d)) (eZ (uH (h q (Nf ..))) λc s e=>?_)
  unfold qe
  rw[e]
  cases q.1<;>exact Oh _
noncomputable abbrev Lg:List MS:=[.asg 5 Lf,.asg 2 (.bin .Add (.bin .Add (.var 2) (.list [ME.bin .Add (.int 128) (.idx (.var 5) (.int 0))])) (.jc (.var 5) (some (.int 1)) none none))]
inductive OI (rows:List (List Nat))(k:Nat)(ys:List (List Nat))(Z:St):Prop
 |mk (v0:Z 0=some (.val (.list (rows.map nl))))(v1:Z 1=some (.val (.int (k:Int))))(v2:Z 2=some (.val (nl (ys.flatMap ee))))(v3:Z 3=some (.own (.list [])))(v8:Z 8=none)(hl:(ys.flatMap ee).length<=18*ys.length)
theorem CV {rows ys:List (List Nat)}{k:Nat}{r:List Nat}(l:ys.length<=9)(m:r≠[])(d:r.length<=3)(hx:∀x∈r,x<64^5)(g:OI rows k ys Z):∃a,ay (ex U N (n+1)) Lg (Z.set 4 (.val (nl r)))=some (.next,a)/\OI rows k (ys++[r]) a:=by
 cases g with
 |mk v0 v1 v2 v3 v8 e=>
  have s1:=bg (U:=U) (N:=N) (n:=n) (i:=5) (Z:=Z.set 4 (.val (nl r))) (Jm d hx rfl)
  refine eZ (Gp m hx) λc s f=>?_
  have b:=sD d
  have h:ee r=(128+c)::s:=MY mark f
  rw[f] at s1 b
  have hb:=M4 e (N8 18 l)
  have j:(ev U 40).m ((Z.set 4 (.val (nl r))).set 5 (.val (nl (c::s)))) (.bin .Add (.bin .Add (.var 2) (.list [ME.bin .Add (.int 128) (.idx (.var 5) (.int 0))])) (.jc (.var 5) (some (.int 1)) none none))=some (nl (ys.flatMap ee++ee r)):=by
   refine ar (aB rfl (ar (v_var (by exact v2)) (aB rfl (eT (by decide) (aa (ar (aB rfl rfl) (aZ rfl (aK (v_var rfl) rfl (dB (i:=0) (k:=c) rfl (by decide)))) add_int) aj))) (add_lists (by rw[MX];exact lv hb rfl) (show 1<_ by decide)))) (aB rfl (kP (v_var rfl) (ew rfl) cP cP (m7 (k:=1) (by rw[MX];exact lv b rfl)))) ((add_lists ?_ ?_).trans ?_)
   .rw[Ni,MX];exact lv (OD hb) rfl
   .rw[List.length_drop,MX];exact lv (M4 (Nat.sub_le _ _) b) rfl
   .rw[h]
    unfold nl
    rw[Nu,NS];rfl
  rw[<-wz] at j
  refine⟨_,ae s1 (ae (bg j) rfl),.mk v0 v1 rfl v3 v8 ?_⟩
  rw[wz,Ni,Ni]
  refine NY e ?_
  rw[h];exact b
theorem CW {rows:List (List Nat)}{k:Nat}(hr:rows.length<=9)(s:∀r∈rows,r≠[]/\r.length<=3)(hx:∀r∈rows, ∀x∈r,x<64^5)(C:k<3):rX U N LN LO KP LP [.list (rows.map nl),.int (k:Int)] (rows.flatten.map λ(x:Nat)=>(x:Int)):=by
 refine ak (⟨_,rfl⟩:∃Z:St,Z=λi=>(([.list (rows.map nl),.int (k:Int)]:List D)[i]?).map .val) λZ a=>?_
 refine af (iR (c:=nl) (b:=ay (ex U N 11) Lg) (Z0:=λZ d=>bB Z (.one 4) d) (xs:=rows) (Z:=(Z.set 2 (.val (.list []))).set 3 (.own (.list []))) (OI rows k) (λF r G e Z g=>?_) (.mk (Nm a 0) (Nm a 1) rfl rfl (Nm a 8) (NB _))) λf l g=>?_
 .have m:r∈rows:=e▸OW _ (Nf ..)
  rw[e,Ni] at hr
  exact af (CV (U:=U) (N:=N) (n:=10) (M4 (NM ..) hr) (s r m).1 (s r m).2 (hx r m) g) λf l g=>⟨_,f,rfl,l,g⟩
 cases g with
 |mk h0 v t w y hlen=>
  have hb:=M4 hlen (N8 18 hr)
  refine eU (yQ hx) λo z p=>?_
  have A:(ev U 40).m f KP=some (.list ((rows.flatMap ee++[64,65].take k).map λ(k:Nat)=>D.int (k:Int))):=by
   refine ar (v_var t) (aB rfl (kP (aB rfl (eT (by decide) (aa rfl (aa rfl aj)))) cP (ew (ao v)) cP (m6 (show 2<1000 by decide)))) ((add_lists ?_ ?_).trans ?_)
   .rw[MX];exact lv hb rfl
   .rw[OE];exact lv (Pa k 2) rfl
   .rw[Nu,List.map_take];rfl
  have j:∀c∈rows.flatMap ee++[64,65].take k,c<256:=λc h=>(NK.mp h).elim (λh=>af (List.mem_flatMap.mp (o▸h)) λq B h=>Gj (p q B) h) λh=>(show∀c∈([64,65]:List Nat),c<256 by decide) c (List.mem_of_mem_take h)
  refine⟨_,f,(rows.flatMap ee++[64,65].take k).map λ(k:Nat)=>D.int (k:Int),(rows.flatMap ee++[64,65].take k).map λ(k:Nat)=>(k:Int),(List.range ((rows.flatMap ee).length+1)).map λ(k:Nat)=>D.int (k:Int),ey (aa rfl (aa rfl aj)) rfl,?_,w,y,A,jO,λi hi=>af (Nn.mp hi) λ(c:Nat) h (e:(c:Int)=i)=>e▸⟨NG c,N5.mpr (j c h)⟩,?_,aI (aa (ar (aB rfl (cE rfl (aa (v_var t) aj) (iD (lv hb rfl)))) (aB rfl rfl) dp) aj) (range_one (lv (OD hb) rfl)),rfl,?_,?_⟩
  .rw[<-a]
   exact eJ (yP (d:=.list (rows.map nl)) (Nm a 0)) (mP rfl (v_var (Nm a 0)) rfl) l
  .rw[MX,Ni,OE];exact lv (NY hb (Pa k 2)) rfl
  .rw[MX,Nk];exact lv (OD hb) rfl
  .rw[MX,Nk, <-z,NO]
   exact CR j (k:=k) p (by rw[List.drop_zero,o]) (O1 (M4 (CU p) (NR (MY List.length o.symm))))
end
noncomputable def gh (x:Int):Nat:=(x.fmod (10^10)).toNat
noncomputable def qr:List Nat:=[33,41,22,6,14,56,16,5,51,304]
noncomputable def eQ (l:List Int)(k:Nat):List Int:=(sliceRange (sliceBounds (some (k:Int)) none (some 10) l.length).1 (sliceBounds (some (k:Int)) none (some 10) l.length).2.1 (sliceBounds (some (k:Int)) none (some 10) l.length).2.2).filterMap (l[·]?)
noncomputable def br (l:List Int):List Nat:=qr.zipIdx.map λo=>o.1+((eQ (l.take 60) o.2).map gh).sum
theorem yR {l:List Int}{k:Nat}:(eQ l k).length<=l.length:=by
 unfold eQ
 refine M4 (List.length_filterMap_le ..) (sliceRange_length_le _ _ _ _ (λ_=>?_) λh=>absurd (show(10:Int)>0 by decide) h)
 simp only[sliceBounds,Option.getD_some,show(10:Int)>0 by decide,if_true]
 exact⟨Int.le_max_left _ _,Int.le_refl _⟩
theorem yS {l:List Int}{k:Nat}:lD (l.map .int) (some (k:Int)) none (some 10)=(eQ l k).map .int:=by
 unfold lD eQ
 rw[MX,List.map_filterMap]
 refine MY (λf=>List.filterMap f _) (funext λi=>?_)
 rw[Nz]
theorem mod_lt (x:Int):(x.fmod (10^10)=(gh x:Int))/\gh x<10^10:=by
 have a:=Int.fmod_nonneg_of_pos x (show(0:Int)<10^10 by decide)
 exact⟨(Int.toNat_of_nonneg a).symm,(Int.toNat_lt a).mpr (Int.fmod_lt_of_pos x (show(0:Int)<10^10 by decide))⟩
theorem CX (l:List Int):(l.map gh).sum<=l.length*10^10:=by
 induction l with
 |nil=>exact Ou _
 |cons x l a=>
  rw[Ob,List.sum_cons,List.length_cons,Nat.succ_mul,O3]
  exact NY a (ND (mod_lt x).2)
theorem CY (l:List Int):D.ints (l.map λx=>D.int (gh x:Int))=some (l.map λx=>(gh x:Int))/\(l.map λx=>(gh x:Int)).sum=((l.map gh).sum:Nat):=by
 induction l with
 |nil=>exact⟨rfl,rfl⟩
 |cons x l a=>
  refine⟨?_,?_⟩
  .show(D.ints (l.map λx=>D.int (gh x:Int))).map ((gh x:Int):: ·)=_
   rw[a.1];rfl
  .rw[Ob,List.sum_cons,a.2];rfl
theorem wA {l:List Int}{k:Nat}:(eQ (l.take 60) k).length<=60:=M4 yR (by rw[OE];exact Nat.min_le_left _ _)
theorem gi {l:List Int}:(br l).length=10:=by
 unfold br
 rw[MX,List.length_zipIdx];rfl
theorem Gq {l:List Int}:∀x∈br l,x<=304+60*10^10:=λx hx=>af (Nn.mp hx) λo a e=>e▸by
 have h:o.1∈qr.zipIdx.map Prod.fst:=Nn.mpr ⟨o,a,rfl⟩
 rw[List.zipIdx_map_fst] at h
 exact NY ((show∀x∈qr,x<=304 by decide) _ h) (M4 (CX _) (Nat.mul_le_mul_right _ wA))
section
variable {U:UT}{N:NT}{n:Nat}{Z:St}{l:List Int}
noncomputable abbrev Lh:ME:=ME.comp (.bin .Add (.var 4) (.fn .sum [ME.comp (.bin .Mod (.var 2) (.bin .Pow (.int 10) (.int 10))) [] (MG.mk (.one 2) (.jc (.jc (.var 0) none (some (.int 60)) none) (some (.var 3)) none (some (.int 10))) []) []])) [0] (MG.mk (.many [3,4]) (.enum (.list [ME.int 33,ME.int 41,ME.int 22,ME.int 6,ME.int 14,ME.int 56,ME.int 16,ME.int 5,ME.int 51,ME.int 304])) []) []
theorem yT:(ev U 39).i Z (.many [3,4]) (.enum (.list [ME.int 33,ME.int 41,ME.int 22,ME.int 6,ME.int 14,ME.int 56,ME.int 16,ME.int 5,ME.int 51,ME.int 304]))=some (qr.zipIdx.map λo=>D.tup [.int (o.2:Int),.int (o.1:Int)]):=by
 refine(pD (xs:=qr.map λ(k:Nat)=>D.int (k:Int)) (aB rfl (eT (by decide) (aa rfl (aa rfl (aa rfl (aa rfl (aa rfl (aa rfl (aa rfl (aa rfl (aa rfl (aa rfl aj)))))))))))) (by decide)).trans ?_
 rw[enum_zip]
theorem qj {k:Nat}(a:l.length<=63)(h0:Z 0=some (.val (.list (l.map .int))))(b:Z 3=some (.val (.int (k:Int)))):(ev U 32).m Z (.jc (.jc (.var 0) none (some (.int 60)) none) (some (.var 3)) none (some (.int 10)))=some (.list ((eQ (l.take 60) k).map .int)):=by
 refine kP (aB rfl (kP (v_var h0) cP (ew rfl) cP (m6 (k:=60) (by rw[MX];exact av.lv a rfl)))) (ew (ao b)) cP (ew rfl) ?_
 refine(M7 ⟨by decide,by rw[OE,MX];exact av.lv (M4 (Pa _ _) a) rfl⟩).trans ?_
 rw[<-List.map_take,yS]
theorem uI {x:Int}(c:Z 2=some (.val (.int x))):(ev U 34).m Z (.bin .Mod (.var 2) (.bin .Pow (.int 10) (.int 10)))=some (.int (gh x:Int)):=by
 refine ar (v_var c) (aB rfl (ar (aB rfl rfl) (aB rfl rfl) (pow_int (a:=10) (b:=10) ⟨by exact NG _,by exact NG _,by decide⟩))) ?_
 refine(mod_int (by decide)).trans ?_
 show some (D.int (x.fmod (10^10)))=_
 rw[(mod_lt x).1]
noncomputable abbrev Li:ME:=ME.comp (.bin .Mod (.var 2) (.bin .Pow (.int 10) (.int 10))) [] (MG.mk (.one 2) (.jc (.jc (.var 0) none (some (.int 60)) none) (some (.var 3)) none (some (.int 10))) []) []
theorem Gs {k:Nat}(a:l.length<=63)(h0:Z 0=some (.val (.list (l.map .int))))(b:Z 3=some (.val (.int (k:Int)))):(ev U 35).m Z Li=some (.list ((eQ (l.take 60) k).map λx=>D.int (gh x:Int))):=by
 refine aV (c:=D.int) (ys:=eQ (l.take 60) k) (λx=>[D.int (gh x:Int)]) (mP rfl (aB rfl (qj a h0 b)) rfl) (λx _=>?_) (out:=(eQ (l.take 60) k).map λx=>D.int (gh x:Int)) bk (by rw[MX];exact lv wA rfl)
 exact aF (p:=true) rfl rfl λ_=>aH (uI rfl)
theorem uJ {k a:Nat}(b:l.length<=63)(h0:Z 0=some (.val (.list (l.map .int))))(c:Z 3=some (.val (.int (k:Int))))(d:Z 4=some (.val (.int (a:Int)))):(ev U 39).m Z (.bin .Add (.var 4) (.fn .sum [Li]))=some (.int ((a+((eQ (l.take 60) k).map gh).sum:Nat):Int)):=by
 refine au (CY (eQ (l.take 60) k)) λe f=>?_
 have hs:fN U .sum [.list ((eQ (l.take 60) k).map λx=>D.int (gh x:Int))]=some (.int (((eQ (l.take 60) k).map gh).sum:Nat)):=by
  show(D.ints _).map _=_
  rw[e, <-f];rfl
 exact ar (v_var d) (aB rfl (cE rfl (aa (aB rfl (Gs b h0 c)) aj) hs)) add_int
theorem Gu (a:l.length<=63)(h0:Z 0=some (.val (.list (l.map .int)))):(ev U 40).m Z Lh=some (nl (br l)):=by
 have b:qr.zipIdx.flatMap (λo:Nat×Nat=>[D.int ((o.1+((eQ (l.take 60) o.2).map gh).sum:Nat):Int)])=(br l).map λ(k:Nat)=>D.int (k:Int):=by
  rw[bk (c:=λo:Nat×Nat=>D.int ((o.1+((eQ (l.take 60) o.2).map gh).sum:Nat):Int))]
  unfold br
  rw[NO];rfl
 refine aV (c:=λo:Nat×Nat=>D.tup [.int (o.2:Int),.int (o.1:Int)]) (λo:Nat×Nat=>[D.int ((o.1+((eQ (l.take 60) o.2).map gh).sum:Nat):Int)]) yT (λo _=>?_) (out:=(br l).map λ(k:Nat)=>D.int (k:Int)) b (by rw[MX,gi];decide)
 exact fZ (p:=true) rfl rfl rfl λ_=>aH (uJ a h0 rfl rfl)
theorem yU {xs:List D}{a b:Nat}(h:xs.length<1000)(c:a<=xs.length)(hb:b<=xs.length):D.slice (.list xs) (some (a:Int)) (some (b:Int)) none=some (.list ((xs.drop a).take (b - a))):=by
 refine(M7 ⟨by decide,by exact av.lu h rfl⟩).trans ?_
 rw[jm]
 simp only[Option.elim,clipAt_nat]
 rw[Nat.min_eq_left c,Nat.min_eq_left hb]
noncomputable def Gv (s:List Nat)(k:Nat):Nat×Nat×Nat:=(s.getD (k - 1) 0%k,1,k)
noncomputable def CZ (v:Nat):Nat×Nat×Nat:=(v%6,min (1+v/6%2) (6 - v%6),v/12%6)
noncomputable def dW (s:List Nat):List (Nat×Nat×Nat):=([1,2,3,4,5].map (Gv s))++((s.drop 5).take 4).map CZ
theorem jU {k:Nat}(h:k∈([1,2,3,4,5]:List Nat)):0<k/\k<=5:=(show∀k∈([1,2,3,4,5]:List Nat),0<k/\k<=5 by decide) k h
theorem qk {s:List Nat}:gC (dW s):=by
 refine⟨λr hr=>(NK.mp hr).elim (λh=>af (Nn.mp h) λk b e=>e▸au (jU b) λh0 a=>?_) λh=>af (Nn.mp h) λv c e=>e▸⟨?_,N3 _ (by decide)⟩,?_⟩
 .exact⟨M4 (N3 _ h0) (Oy a),O1 a⟩
 .exact M4 (Ov (Pa _ _) _) (NR (Nat.add_sub_cancel' (ND (N3 v (by decide)))))
 .unfold dW
  rw[Ni,MX,MX,OE]
  exact Ov (Nat.min_le_left 4 _) 5
noncomputable def gj (l:List Int):Nat:=(br l).getD 9 0
noncomputable def cF (l:List Int):Nat:=40+gj l/20088
theorem Gw:gj l<=304+60*10^10:=by
 unfold gj
 rw[Nb,Nc (by rw[gi];exact N7 _)]
 exact Gq _ (List.getElem_mem _)
theorem lA:0<cF l/\cF l<40000000:=⟨NF (by decide) (NM 40 _),lv (Ov (Nat.div_le_div_right (c:=20088) (Gw (l:=l))) 40) rfl⟩
noncomputable def fy (u:Nat)(R:List (Nat×Nat×Nat)):D:=.list (R.map λr=>nl (numOf u r))
structure Lj (l:List Int)(Z:St):Prop where
 v1:Z 1=some (.val (nl (br l)))
 v5:Z 5=some (.val (.int (gj l:Int)))
 v6:Z 6=some (.val (.int (cF l:Int)))
 v7:Z 7=some (.own (.list []))
 v8:Z 8=some (.val (fy (cF l) (dW (br l))))
theorem jV {a b:Nat}(c:a<2^64)(hb:b<2^64):D.bin .Mult (.int (a:Int)) (.int (b:Int))=some (.int ((a*b:Nat):Int)):=by
 rw[mul_int (by exact c) (by exact hb), <-Int.natCast_mul]
theorem Gx {a b:Nat}:fN U .min [.int (a:Int),.int (b:Int)]=some (.int ((min a b:Nat):Int)):=by
 show some (D.int (if(b:Int)<(a:Int) then(b:Int) else(a:Int)))=_
 by_cases h:b<a
 .rw[M7 (by exact N5.mpr h),Nat.min_eq_right (by exact ND h)]
 .rw[M8 λq=>h (N5.mp q),Nat.min_eq_left (NU h)]
noncomputable abbrev Mk:ME:=ME.comp (.list [ME.bin .Mult (.var 6) (.bin .Mod (.idx (.var 1) (.bin .Sub (.var 3) (.int 1))) (.var 3)),ME.var 6,ME.bin .Mult (.var 6) (.var 3)]) [1,6] (MG.mk (.one 3) (.range [ME.int 1,ME.int 6]) []) []
noncomputable abbrev Ml:ME:=ME.comp (.list [ME.bin .Mult (.var 6) (.bin .Mod (.var 9) (.int 6)),ME.bin .Mult (.var 6) (.fn .min [ME.bin .Add (.int 1) (.bin .Mod (.bin .FloorDiv (.var 9) (.int 6)) (.int 2)),ME.bin .Sub (.int 6) (.bin .Mod (.var 9) (.int 6))]),ME.bin .Mult (.var 6) (.bin .Mod (.bin .FloorDiv (.var 9) (.int 12)) (.int 6))]) [6] (MG.mk (.one 9) (.jc (.var 1) (some (.int 5)) (some (.int 9)) none) []) []
theorem Gy (d:Z 1=some (.val (nl (br l))))(a:Z 6=some (.val (.int (cF l:Int)))):(ev U 40).m Z Mk=some (fy (cF l) ([1,2,3,4,5].map (Gv (br l)))):=by
 have e:cF l<2^64:=lu (lA (l:=l)).2 rfl
 refine aV (λk=>[nl (numOf (cF l) (Gv (br l) k))]) (aI (aa rfl (aa rfl aj)) (show D.range [.int 1,.int 6]=some (([1,2,3,4,5]:List Nat).map λ(k:Nat)=>D.int (k:Int)) from rfl)) (λk g=>?_) (bk.trans rfl) (show 5<2^20 by decide)
 refine au (jU g) λh0 b=>?_
 have f:=M4 (Nat.sub_le k 1) b
 have c:(br l)[k - 1]?=some ((br l).getD (k - 1) 0):=by rw[Nb,Nc (by rw[gi];exact lv f rfl)];rfl
 exact aF (p:=true) rfl rfl λ_=>aH (eT (by decide) (aa (ar (v_var (by exact a)) (aB rfl (ar (aZ (by exact d) (aK (v_var (by exact d)) (ar (v_var rfl) (aB rfl rfl) (MY (λx=>some (D.int x)) (Int.ofNat_sub (by exact h0)).symm)) (dB c (lv f rfl)))) (v_var rfl) (bX (N4 h0)))) (jV e (lu (NF (N3 _ h0) b) rfl))) (aa ((ao (by exact a)).trans (MY (λx:Nat=>some (D.int (x:Int))) (Nat.mul_one (cF l)).symm)) (aa (ar (v_var (by exact a)) (v_var rfl) (jV e (lv b rfl))) aj))))
theorem Gz (g:Z 1=some (.val (nl (br l))))(d:Z 6=some (.val (.int (cF l:Int)))):(ev U 38).m Z Ml=some (fy (cF l) ((((br l).drop 5).take 4).map CZ)):=by
 have e:cF l<2^64:=lu (lA (l:=l)).2 rfl
 have hn:(br l).length=10:=gi
 have f:(ev U 35).m Z (.jc (.var 1) (some (.int 5)) (some (.int 9)) none)=some (nl (((br l).drop 5).take 4)):=by
  refine kP (v_var g) (ew rfl) (ew rfl) cP ((yU (a:=5) (b:=9) (by rw[MX,hn];decide) (by rw[MX,hn];decide) (by rw[MX,hn];decide)).trans ?_)
  rw[<-List.map_drop, <-List.map_take];rfl
 refine aV (c:=λ(v:Nat)=>D.int (v:Int)) (ys:=((br l).drop 5).take 4) (λv=>[nl (numOf (cF l) (CZ v))]) (mP rfl (aB rfl f) rfl) (λv j=>?_) (bk.trans (by rw[NO];rfl)) (by rw[MX,MX,OE];exact lv (Nat.min_le_left 4 _) rfl)
 have h:D.bin .Sub (.int 6) (.int ((v%6:Nat):Int))=some (.int ((6 - v%6:Nat):Int)):=MY (λx=>some (D.int x)) (Int.ofNat_sub (ND (N3 v (by decide)))).symm
 exact aF (p:=true) rfl rfl λ_=>aH (eT (by decide) (aa (ar (v_var (by exact d)) (aB rfl (ar (v_var rfl) (aB rfl rfl) (bX (b:=6) (by decide)))) (jV e (lu (N3 _ (by decide)) rfl)))
  (aa (ar (v_var (by exact d)) (aB rfl (cE rfl (aa (aB rfl (ar (aB rfl rfl) (aB rfl (ar (aB rfl (ar (v_var rfl) (aB rfl rfl) (cR (b:=6) (by decide) (by decide)))) (aB rfl rfl) (bX (b:=2) (by decide)))) add_int)) (aa (aB rfl (ar (aB rfl rfl) (aB rfl (ar (v_var rfl) (aB rfl rfl) (bX (b:=6) (by decide)))) h)) aj)) (Gx (a:=1+v/6%2) (b:=6 - v%6)))) (jV e (lv (M4 (Pa _ _) (Nat.sub_le 6 _)) rfl)))
   (aa (ar (v_var (by exact d)) (aB rfl (ar (aB rfl (ar (v_var rfl) (aB rfl rfl) (cR (b:=12) (by decide) (by decide)))) (aB rfl rfl) (bX (b:=6) (by decide)))) (jV e (lu (N3 _ (by decide)) rfl))) aj))))
theorem Jn (e:l.length<=63):∃Z1,ay (ex U N 12) IQ (λi=>([D.list (l.map .int)][i]?).map .val)=some (.next,Z1)/\Lj l Z1:=by
 refine ak (⟨_,rfl⟩:∃Z:St,(λi=>([D.list (l.map .int)][i]?).map .val)=Z) λZ a=>?_
 rw[a]
 have s1:=bg (U:=U) (N:=N) (n:=11) (i:=1) (Gu (U:=U) e (Z:=Z) (Nm a 0).symm)
 have f:(br l)[9]?=some (gj l):=by unfold gj;rw[Nb,Nc (by rw[gi];decide)];rfl
 have d:∀{c:St} {m:Nat},c 1=some (.val (nl (br l)))->(ev U (m+2)).m c (.idx (.var 1) (.int 9))=some (.int (gj l:Int)):=λh=>aK (v_var h) rfl (dB (i:=9) f (by decide))
 have g:ex U N 12 (.cN [(5,0),(6,0),(7,1)] [ME.idx (.var 1) (.int 9),ME.bin .Add (.int 40) (.bin .FloorDiv (.idx (.var 1) (.int 9)) (.int 20088)),ME.list []]) (Z.set 1 (.val (nl (br l))))=some (.next,(((Z.set 1 (.val (nl (br l)))).set 5 (.val (.int (gj l:Int)))).set 6 (.val (.int (cF l:Int)))).set 7 (.own (.list []))):=
  ey (aa (d rfl) (aa (ar (aB rfl rfl) (aB rfl (ar (aZ rfl (d rfl)) (aB rfl rfl) (cR (b:=20088) (by decide) (by decide)))) add_int) (aa rfl aj))) rfl
 have j:=bg (N:=N) (n:=11) (i:=8) (Gy (U:=U) (l:=l) (Z:=(((Z.set 1 (.val (nl (br l)))).set 5 (.val (.int (gj l:Int)))).set 6 (.val (.int (cF l:Int)))).set 7 (.own (.list []))) rfl rfl)
 refine⟨_,ae s1 (ae g (ae j (ae (bg (ar (v_var rfl) (aB rfl (Gz (l:=l) rfl rfl)) ((add_lists (by rw[MX,MX];decide) (by rw[MX,MX,OE];exact lv (Nat.min_le_left 4 _) rfl)).trans ?_))) rfl))),rfl,rfl,rfl,rfl,rfl⟩
 unfold fy dW
 rw[Nu]
end
theorem C0 {n:Nat}:∀{l:List Int},l.length<=n->l.eraseDups.Nodup:=by
 induction n with
 |zero=>intro l h;rw[Oe (Nat.le_zero.mp h)];exact N6
 |succ n b=>
  intro l h
  cases l with
  |nil=>exact N6
  |cons a l=>
   rw[List.eraseDups_cons]
   refine NA.mpr ⟨λc=>?_,b (M4 (Nv ..) (Nat.le_of_succ_le_succ h))⟩
   have q:=(Nt.mp (List.mem_eraseDups.mp c)).2
   rw[O8] at q
   exact nb q
theorem mem_cast {t:Nat}{L:List Nat}:(t:Int)∈L.map (λ(k:Nat)=>(k:Int))↔t∈L:=⟨λh=>af (Nn.mp h) λk a e=>O5 e▸a,λh=>Nn.mpr ⟨t,h,rfl⟩⟩
noncomputable def pairD (q:Nat×Nat):D:=.tup [.int (q.1:Int),.int (q.2:Int)]
noncomputable def gk (A:List (Nat×Nat))(h:Nat):List Nat:=(List.range 6).filter λt=>decide ((h,t)∈A)
noncomputable def stp (A:List (Nat×Nat)):List (List Nat):=(List.range 6).map (gk A)
section
variable {A:List (Nat×Nat)}{x y z a:Nat}{U:UT}{N:NT}{n:Nat}{Z:St}{nm:Nat->Str}
theorem yV {B:List Nat}(h:∀t∈B,t<6):sortI (B.map λ(k:Nat)=>(k:Int)).eraseDups=((List.range 6).filter λt=>decide (t∈B)).map λ(k:Nat)=>(k:Int):=by
 refine ak (show∃E:List Nat,(B.map λ(k:Nat)=>(k:Int)).eraseDups=E.map λ(k:Nat)=>(k:Int) from⟨(B.map λ(k:Nat)=>(k:Int)).eraseDups.map Int.toNat,?_⟩) λE b=>?_
 .rw[NO]
  exact(List.map_id _).symm.trans (N2 λi hi=>af (Nn.mp (List.mem_eraseDups.mp hi)) λt _ (e:(t:Int)=i)=>e▸rfl)
 .have hn:=C0 (NB (B.map λ(k:Nat)=>(k:Int)).length)
  rw[b] at hn
  have c:∀{t},t∈E↔t∈B:=by
   intro t
   rw[<-mem_cast, <-b,List.mem_eraseDups,mem_cast]
  rw[b,mZ ((List.pairwise_map.mp hn).imp λh q=>h (MY _ q)) λt ht=>h t (c.mp ht)]
  exact MY _ (OQ λt _=>ON.mpr c)
theorem GA (h:x<6):(stp A).getD x []=gk A x:=by
 unfold stp
 rw[Nb,aM h];rfl
theorem wB (b:∀p∈A,p.1<6/\p.2<6):(x,y)∈A↔y∈(stp A).getD x []:=by
 by_cases hx:x<6
 .rw[GA hx]
  unfold gk
  rw[Nt,Ng,Nd]
  exact⟨λh=>⟨(b _ h).2,h⟩,λh=>h.2⟩
 .rw[Nb,Od (by unfold stp;rw[MX,Nk];exact NU hx)]
  exact⟨λh=>absurd (b _ h).1 hx,λh=>absurd h Nl⟩
theorem C3:Gr (stp A):=⟨(MX ..).trans Nk,λs hs=>af (Nn.mp hs) λt _ e=>e▸Pb.filter _,λs hs x hx=>af (Nn.mp hs) λt _ e=>Ng.mp (Nt.mp (e▸hx:x∈gk A t)).1⟩
theorem Jo (h:x<6):(stp A)[x]?=some (gk A x):=aM h
noncomputable abbrev HM:ME:=ME.comp (.gI (.var 18) [19] (MG.mk (.many [16,18]) (.var 15) [ME.cmp .Eq (.var 16) (.var 19)])) [15] (MG.mk (.one 19) (.range [ME.int 6]) []) []
theorem C5 (d:∀p∈A,p.1<6/\p.2<6)(f:A.length<64)(b:Z 15=some (.val (.list (A.map pairD)))):(ev U 40).m Z HM=some (.list ((stp A).map nl)):=by
 refine aV (λh=>[nl (gk A h)]) (aI (aa rfl aj) (range_one (n:=6) (by decide))) (λh hh=>?_) (out:=(stp A).map nl) (bk.trans (by unfold stp;rw[NO];rfl)) (by rw[MX,C3.len];decide)
 have hs:∀t∈(A.filter λp=>decide (p.1=h)).map (·.2),t<6:=λt ht=>af (Nn.mp ht) λp hp e=>e▸(d p (Nt.mp hp).1).2
 have e:gk A h=(List.range 6).filter λt=>decide (t∈(A.filter λp=>decide (p.1=h)).map (·.2)):=OQ λt _=>ON.mpr ⟨λq=>Nn.mpr ⟨(h,t),Nt.mpr ⟨q,Nq rfl⟩,rfl⟩,λq=>af (Nn.mp q) λp hp e=>au (Nt.mp hp) λg j=>(Prod.ext (Nr j) e:p=(h,t))▸g⟩
 refine aF (p:=true) rfl rfl λ_=>aH ((E5 (c:=pairD) (ys:=A) (is:=((A.filter λp=>decide (p.1=h)).map (·.2)).map λ(k:Nat)=>(k:Int)) (λp=>if decide (p.1=h)=true then[.int (p.2:Int)] else[]) (mP rfl (v_var (by exact b)) rfl) (λp hp=>?_) ?_ ?_).trans ?_)
 .exact fZ rfl rfl (a7 ((aS (v_var rfl) (v_var rfl) jT).trans (MY some qc))) λ_=>aH (ao rfl)
 .rw[aO (c:=λp:Nat×Nat=>D.int (p.2:Int)), <-jO,NO];rfl
 .rw[NV,Nd,Nx]
  refine⟨?_,λi hi=>?_⟩
  .rw[MX,MX]
   exact M5 (Nv ..) f
  .exact af (Nn.mp hi) λt ht (e:(t:Int)=i)=>e▸Nq ⟨NG t,N5.mpr (hs t ht)⟩
 .rw[yV hs, <-e,NO];rfl
noncomputable abbrev Lk:ME:=ME.comp (.tup [ME.var 16,ME.bin .FloorDiv (.idx (.var 11) (.int 2)) (.var 6)]) [6] (MG.mk (.one 11) (.var 8) []) [MG.mk (.one 16) (.range [ME.bin .FloorDiv (.idx (.var 11) (.int 0)) (.var 6),ME.bin .FloorDiv (.bin .Add (.idx (.var 11) (.int 0)) (.idx (.var 11) (.int 1))) (.var 6)]) []]
theorem GB {R:List (Nat×Nat×Nat)}(i:gC R){u:Nat}(l:0<u)(d:u<2^30)(o:Z 6=some (.val (.int (u:Int))))(t:Z 8=some (.val (fy u R))):(ev U 40).m Z Lk=some (.list ((bT R).map pairD)):=by
 refine aV (c:=λr=>nl (numOf u r)) (ys:=R) (λr=>(mX r).map pairD) (mP rfl (v_var t) rfl) (λr hr=>?_) (out:=(bT R).map pairD) (by unfold bT;rw[List.map_flatMap]) (by rw[MX];exact lv (M4 (jM i.row) (N8 6 i.len)) rfl)
 refine au (i.row r hr) λw F=>?_
 refine aF (p:=true) rfl rfl λ_=>?_
 have g:∀{k v:Nat} {f:St} {m:Nat},(numOf u r)[k]?=some v->k<64->f 11=some (.val (nl (numOf u r)))->(ev U (m+2)).m f (.idx (.var 11) (.int (k:Int)))=some (.int (v:Int)):=λh B q=>aK (v_var q) rfl (dB h B)
 have C:D.range [.int (r.1:Int),.int ((r.1+r.2.1:Nat):Int)]=some ((List.range r.2.1).map λ(j:Nat)=>D.int ((r.1+j:Nat):Int)):=(f6 (a:=r.1) (b:=r.1+r.2.1) (NM _ _) (lv w rfl)).trans (by rw[Nat.add_sub_cancel_left])
 have s:=f9 (a:=r.1+r.2.1) l d
 rw[Nat.mul_add] at s
 have hi:(ev U 39).i (St.set (Z.cut [6]) 11 (.val (nl (numOf u r)))) (.one 16) (.range [ME.bin .FloorDiv (.idx (.var 11) (.int 0)) (.var 6),ME.bin .FloorDiv (.bin .Add (.idx (.var 11) (.int 0)) (.idx (.var 11) (.int 1))) (.var 6)])=some ((List.range r.2.1).map λ(j:Nat)=>D.int ((r.1+j:Nat):Int)):=
  aI (aa (ar (aZ rfl (g (k:=0) rfl (by decide) rfl)) (v_var (by exact o)) (f9 l d)) (aa (ar (aB rfl (ar (aZ rfl (g (k:=0) rfl (by decide) rfl)) (aZ rfl (g (k:=1) rfl (by decide) rfl)) add_int)) (v_var (by exact o)) s) aj)) C
 have hg:=eE (r:=ev U 39) (e:=ME.tup [ME.var 16,ME.bin .FloorDiv (.idx (.var 11) (.int 2)) (.var 6)]) (ifs:=[]) (gs:=[]) (λj=>[pairD (r.1+j,r.2.2)]) rfl hi λj _=>aF (p:=true) rfl rfl λ_=>aH (iq (by decide) (aa (ao rfl) (aa (ar (aZ rfl (g (k:=2) rfl (by decide) rfl)) (v_var (by exact o)) (f9 l d)) aj)))
 refine hg.trans ?_
 rw[bk (c:=λj=>pairD (r.1+j,r.2.2))]
 unfold mX
 rw[NO];rfl
theorem sE {d:Type}{c:d->D}{k v:ME}{t:dj}{ifs:List ME}{r:Ev}{f:d->Str×D}{q:d->Bool}{ys:List d}:∀{acc:List Str×List D},(∀y∈ys, ∃Z',e7 Z t (c y)=some Z'/\bz r Z' ifs=some (q y)/\(q y=true->r.m Z' k=some (.str (f y).1)/\r.m Z' v=some (f y).2))->(acc.1++(ys.filter q).map λy=>(f y).1).Nodup->
  di r k v t ifs Z (ys.map c) acc=some (acc.1++(ys.filter q).map λy=>(f y).1,acc.2++(ys.filter q).map λy=>(f y).2):=by
 induction ys with
 |nil=>
  intro acc _ _
  show some acc=some (acc.1++[],acc.2++[])
  rw[NP,NP]
 |cons y ys i=>
  intro acc h hn
  refine bf (h y (Nf ..)) λZ' j e g=>?_
  have h:=λz l=>h z (Nj y l)
  cases b:q y with
  |true=>
   rw[Om,M7 b] at hn |-
   rw[b] at e
   refine au (g b) λg m=>bs j (bs e (bs g (bs m ?_)))
   show di r k v t ifs Z (ys.map c) (putD acc.1 acc.2 (f y).1 (f y).2)=_
   rw[pV λo=>(Oz.mp hn).2.2 _ o _ (Nf ..) rfl,i (acc:=(acc.1++[(f y).1],acc.2++[(f y).2])) h (by rw[NS];exact hn),NS,NS];rfl
  |false=>
   rw[Om,M8 (by rw[b];exact nb)] at hn |-
   rw[b] at e
   exact bs j (bs e (i h hn))
theorem yW {d:Type}{c:d->D}{b:List Nat}{k v:ME}{t:dj}{it:ME}{ifs:List ME}(f:d->Str×D)(q:d->Bool){ys:List d}(h:(ev U n).i Z t it=some (ys.map c))(e:∀y∈ys, ∃Z',e7 (Z.cut b) t (c y)=some Z'/\bz (ev U n) Z' ifs=some (q y)/\(q y=true->(ev U n).m Z' k=some (.str (f y).1)/\(ev U n).m Z' v=some (f y).2))(hn:((ys.filter q).map λy=>(f y).1).Nodup)(g:(ys.filter q).length<2^10):(ev U (n+1)).m Z (.dM k v b (.mk t it ifs))=some (.dict ((ys.filter q).map λy=>(f y).1) ((ys.filter q).map λy=>(f y).2)):=by
 show((ev U n).i Z t it>>=λi=>di (ev U n) k v t ifs (Z.cut b) i ([],[])>>=λacc=>if acc.1.length<2^10 then pure (D.dict acc.1 acc.2) else none)=_
 rw[h]
 show(di _ _ _ _ _ _ (ys.map c) ([],[])>>=_)=_
 rw[sE (f:=f) (q:=q) (acc:=([],[])) e hn]
 exact M7 (by show([]++(ys.filter q).map λy=>(f y).1).length<2^10;rw[List.nil_append,MX];exact g)
theorem sF {p q:Nat×Nat}:D.gm 6 (pairD p) (pairD q)=some (p==q):=by
 show(some (((p.1:Int)==(q.1:Int))&&(((p.2:Int)==(q.2:Int))&&true)))=_
 refine MY some (Oj.mpr ?_)
 rw[Bool.and_true,NV,NJ,NJ,NJ,Prod.ext_iff]
 exact and_congr Int.natCast_inj Int.natCast_inj
theorem mapM_some {b c:Type}{f:b->Option c}{g:b->c}{l:List b}(h:∀x∈l,f x=some (g x)):l.mapM f=some (l.map g):=by
 induction l with
 |nil=>rfl
 |cons x l d=>rw[aa (h x (Nf ..)) (d λy e=>h y (Nj _ e))];rfl
theorem sG {q:Nat×Nat}:fN U .count [.list (A.map pairD),pairD q]=some (.int (A.count q:Nat)):=by
 show((A.map pairD).mapM λy=>D.gm 6 y (pairD q)).map (λbs=>D.int (bs.countP id:Nat))=_
 rw[mapM_some (g:=λy=>(D.gm 6 y (pairD q)).getD false) λy b=>af (Nn.mp b) λp _ e=>e▸(by rw[sF];rfl),NO]
 show some (D.int _)=_
 rw[List.countP_map,List.count_eq_countP]
 refine MY (λ(k:Nat)=>some (D.int (k:Int))) (List.countP_congr λp _=>?_)
 show(D.gm 6 (pairD p) (pairD q)).getD false=true↔_
 rw[sF];rfl
theorem uK:(into A y).count x=A.count (x,y):=by
 unfold into
 rw[List.count_eq_countP,List.countP_map,List.countP_filter,List.count_eq_countP]
 refine List.countP_congr λp _=>?_
 show((p.1==x)&&(p.2==y))=true↔(p==(x,y))=true
 rw[NV,NJ,NJ,NJ,Prod.ext_iff]
theorem Jp {x y:D}:D.cmp .Eq x y=D.nj 6 x y:=rfl
theorem sH {k:Nat}{b:List Str}{c:List D}:D.nj (k+1) (.dict ks vs) (.dict b c)=if ks.length=b.length then dh (D.nj k) b c ks vs else some false:=rfl
theorem wC {f:D->D->Option Bool}{b:List Str}{d:List D}{ks:List Str}:∀{vs:List D},ks.length=vs.length->(∀(i:Nat) k v,ks[i]?=some k->vs[i]?=some v-> ∃j e,b.idxOf? k=some j/\d[j]?=some e/\f v e=some true)->dh f b d ks vs=some true:=by
 induction ks with
 |nil=>
  intro vs g _
  rw[Oe g.symm];rfl
 |cons k ks o=>
  intro vs g h
  cases vs with
  |nil=>exact absurd g (Nat.succ_ne_zero _)
  |cons v vs=>
   refine aP (h 0 k v rfl rfl) λj e l m p=>?_
   show(match dh f b d ks vs with
    |some c=>match (b.idxOf? k).bind λi=>d[i]? with
     |some e=>(f v e).map (· &&c)
     |none=>if b.contains k then none else some false
    |none=>none)=_
   rw[o (OP g) λi q e l m=>h (i+1) q e l m]
   show(match (b.idxOf? k).bind λi=>d[i]? with
     |some e=>(f v e).map (· &&true)
     |none=>if b.contains k then none else some false)=_
   rw[l,Option.bind_some,m]
   show(f v e).map _=_
   rw[p];rfl
noncomputable def C6 (nm:Nat->Str)(A:List (Nat×Nat))(t:Nat):D:=.dict (((List.range 6).filter λo=>decide (t∈gk A o)).map nm) (((List.range 6).filter λo=>decide (t∈gk A o)).map λo=>D.int (A.count (o,t):Nat))
theorem at_of {b c:Type}{f:b->c}{l:List b}{i:Nat}{y:c}(h:(l.map f)[i]?=some y):∃x,l[i]?=some x/\f x=y:=OC.mp (Nz▸h)
theorem Jq (d:gz nm)(q:iB A)(r:y<6):D.nj 5 (gP (cnt nm (into A y))) (C6 nm A y)=some true:=by
 have g:∀{o},o∈dd (into A y)↔o∈(List.range 6).filter λo=>decide (y∈gk A o):=by
  intro o
  rw[ky,iA,Nt,Ng,Nd,gk,Nt,Ng,Nd]
  exact⟨λh=>⟨(q.1 _ h).1,r,h⟩,λh=>h.2.2⟩
 have b:((List.range 6).filter λo=>decide (y∈gk A o)).Nodup:=Pb.filter _
 unfold gP C6
 rw[sH,M7 (by rw[jK,MX,MX];exact((List.perm_ext_iff_of_nodup (mW _) b).mpr λ_=>g).length_eq)]
 refine wC (by rw[MX,MX]) λi k v l e=>?_
 rw[jK] at l
 unfold cnt at e
 rw[NO] at e
 refine af (at_of l) λo c s=>af (at_of e) λt f m=>?_
 rw[MW (f.symm.trans c)] at m
 refine ak (O4 (g.mp (Nw c))) λj p=>⟨j,D.int (A.count (o,y):Nat),s▸iz (jL d (λo c=>Ng.mp (Nt.mp c).1) b) (by rw[Nz,p];rfl),by rw[Nz,p];rfl,m▸?_⟩
 show D.nj 4 (.int ((into A y).count o:Nat)) _=_
 rw[uK,fu]
theorem Jr (b:gz nm)(g:iB A):D.cmp .Eq (gA nm A) (.dict ((List.range 6).map nm) ((List.range 6).map (C6 nm A)))=some true:=by
 rw[Jp]
 unfold gA
 rw[sH,M7 rfl]
 refine wC (by rw[MX,MX]) λi k v h j=>?_
 refine af (at_of h) λo e l=>af (at_of j) λm c f=>?_
 rw[MW (c.symm.trans e)] at f
 have d:=Ng.mp (Nw e)
 exact⟨o,_,l▸iz (names_nodup b) (aM d),aM d,f▸Jq b g d⟩
noncomputable abbrev Ll:ME:=ME.dM (.idx (.var 13) (.var 18)) (.dM (.idx (.var 13) (.var 20)) (.fn .count [ME.var 15,ME.tup [ME.var 20,ME.var 18]]) [15,13,17,18] (MG.mk (.one 20) (.range [ME.int 6]) [ME.cmp .In (.var 18) (.idx (.var 17) (.var 20))])) [15,13,17] (MG.mk (.one 18) (.range [ME.int 6]) [])
theorem Js (c:gz nm)(d:Z 13=some (.val (jX nm)))(f:Z 15=some (.val (.list (A.map pairD))))(e:Z 17=some (.val (.list ((stp A).map nl)))):(ev U 38).m Z Ll=some (.dict ((List.range 6).map nm) ((List.range 6).map (C6 nm A))):=by
 refine vH (λt=>(nm t,C6 nm A t)) (aI (aa rfl aj) (range_one (n:=6) (by decide))) (λt ht=>?_) (names_nodup c) (by rw[Nk];decide)
 have ht:=Ng.mp ht
 refine⟨_,rfl,rfl,aK (v_var (by exact d)) (ao rfl) (gB ht),?_⟩
 refine yW (λo=>(nm o,D.int (A.count (o,t):Nat))) (λo=>decide (t∈gk A o)) (aI (aa rfl aj) (range_one (n:=6) (by decide))) (λo b=>?_) (jL c (λo b=>Ng.mp (Nt.mp b).1) (Pb.filter _)) (M5 (Nv ..) (by rw[Nk];decide))
 have b:=Ng.mp b
 refine⟨_,rfl,a7 (aS (v_var rfl) (aZ (by exact e) (aK (v_var (by exact e)) (ao rfl) (bC (by rw[Nz,Jo b];rfl) (by exact av.lu b rfl)))) rT),λ_=>⟨aK (v_var (by exact d)) (ao rfl) (gB b),?_⟩⟩
 exact cE rfl (aa (v_var (by exact f)) (aa (aB rfl (iq (by decide) (aa (ao rfl) (aa (ao rfl) aj)))) aj)) (sG (q:=(o,t)))
end
section
variable {S:List (List Nat)}{x y z a:Nat}{U:UT}{N:NT}{n:Nat}{Z:St}{G:List Nat->Nat->List Nat}
noncomputable def bR (G:List Nat->Nat->List Nat)(x y:Nat):Bool:=(decide (x=0)||decide (x=y))||decide (y∉G [x] 0)
theorem uL (b:DG S U G):yn S (bR G):=λx y _ _=>by
 unfold bR dK
 rw[Pe,Pe,Nd,Nd,Nd,(b [x] 0 (by exact Oh _)).2,or_assoc]
noncomputable def oO (G:List Nat->Nat->List Nat)(y:Nat):Nat:=((eM (bR G) y).filter λx=>decide ((eM (bR G) x).length+1=(eM (bR G) y).length)).headD 0
theorem GC (g:Gt S)(b:DG S U G):Tree S (bR G) (oO G):=by
 refine⟨g,uL b,λy h0 d=>?_⟩
 refine af (Fo g (uL b) h0 d) λx e f=>?_
 have c:x∈(eM (bR G) y).filter λx=>decide ((eM (bR G) x).length+1=(eM (bR G) y).length):=Nt.mpr ⟨e,Nq f⟩
 unfold oO
 cases hl:(eM (bR G) y).filter λx=>decide ((eM (bR G) x).length+1=(eM (bR G) y).length) with
 |nil=>rw[hl] at c;cases c
 |cons u l=>
  have h:u∈(eM (bR G) y).filter λx=>decide ((eM (bR G) x).length+1=(eM (bR G) y).length):=by rw[hl];exact Nf ..
  refine au (Nt.mp h) λi j=>?_
  exact⟨i,Nr j⟩
noncomputable abbrev Mm:ME:=ME.comp (.fn (.user 5) [ME.var 17,ME.int 0,ME.list [ME.var 16]]) [17] (MG.mk (.one 16) (.range [ME.int 6]) []) []
theorem GD (d:DG S U G)(c:Z 17=some (.val (.list (S.map nl)))):(ev U 40).m Z Mm=some (.list ((List.range 6).map λb=>nl (G [b] 0))):=by
 refine aV (λb=>[nl (G [b] 0)]) (aI (aa rfl aj) (range_one (n:=6) (by exact Og _ _))) (λb hb=>?_) bk (by rw[MX,Nk];decide)
 exact aF (p:=true) rfl rfl λ_=>aH (d3 (aa (ao (by exact c)) (aa rfl (aa (eT (by decide) (aa (ao rfl) aj)) aj))) (d [b] 0 (by exact Oh _)).1)
noncomputable abbrev Jt:ME:=ME.comp (.comp (.var 2) [21,23] (MG.mk (.one 2) (.range [ME.int 6]) [ME.or (.cmp .In (.var 2) (.tup [ME.int 0,ME.var 23])) (.cmp .NotIn (.var 23) (.idx (.var 21) (.var 2)))]) []) [21] (MG.mk (.one 23) (.range [ME.int 6]) []) []
theorem GF {a b:Nat}:D.cmp .In (.int (x:Int)) (.tup [.int (a:Int),.int (b:Int)])=some (decide (x=a)||decide (x=b)):=by
 show some (((a:Int)==(x:Int))||(((b:Int)==(x:Int))||false))=_
 refine MY some ?_
 rw[Oj,Bool.or_false,Pe,NJ,NJ,Pe,Nd,Nd]
 lia
noncomputable def nL (d:Nat->Nat->Bool):D:=.list ((List.range 6).map λy=>nl (eM d y))
theorem yX (c:Z 21=some (.val (.list ((List.range 6).map λb=>nl (G [b] 0))))):(ev U 40).m Z Jt=some (nL (bR G)):=by
 refine aV (λy=>[nl (eM (bR G) y)]) (aI (aa rfl aj) (range_one (n:=6) (by exact Og _ _))) (λy d=>?_) bk (by rw[MX,Nk];decide)
 refine aF (p:=true) rfl rfl λ_=>aH (aV (λx=>if bR G x y=true then[.int (x:Int)] else[]) (aI (aa rfl aj) (range_one (n:=6) (by exact Og _ _))) (λx hx=>?_) aO (by rw[MX];exact M5 (Nv ..) (by rw[Nk];decide)))
 have hx:=Ng.mp hx
 refine aF rfl (a7 (Ae (aS (v_var rfl) (aB rfl (iq (by decide) (aa rfl (aa (ao rfl) aj)))) (GF (a:=0))) λ_=>aS (v_var rfl) (aZ (by exact c) (aK (v_var (by exact c)) (ao rfl) (bC (aM (f:=λb=>nl (G [b] 0)) hx) (by exact av.lu hx rfl)))) dn)) λ_=>aH (ao rfl)
theorem lB {d:Nat->Nat->Bool}(h:x<6):D.index (nL d) (.int (x:Int))=some (nl (eM d x)):=bC (aM (f:=λy=>nl (eM d y)) h) (by exact av.lu h rfl)
noncomputable abbrev GG:ME:=ME.bin .Add (.list [ME.neg (.int 1)]) (.comp (.idx (.comp (.var 2) [22,23] (MG.mk (.one 2) (.idx (.var 22) (.var 23)) [ME.cmp .Eq (.fn .len [ME.idx (.var 22) (.var 2)]) (.bin .Sub (.fn .len [ME.idx (.var 22) (.var 23)]) (.int 1))]) []) (.int 0)) [22] (MG.mk (.one 23) (.range [ME.int 1,ME.int 6]) []) [])
theorem wD {d:Nat->Nat->Bool}{i m:Nat}{k:Nat}(b:Z 22=some (.val (nL d)))(hi:Z i=some (.val (.int (k:Int))))(c:k<6):(ev U (m+4)).m Z (.fn .len [ME.idx (.var 22) (.var i)])=some (.int ((eM d k).length:Nat)):=
 cE rfl (aa (aZ b (aK (v_var b) (ao hi) (lB c))) aj) (iD (M5 kz (by exact Og _ _)))
theorem yY (t:Tree S (bR G) (oO G))(d:Z 22=some (.val (nL (bR G)))):(ev U 40).m Z GG=some (jN (oO G)):=by
 have j:(ev U 38).m Z (.comp (.idx (.comp (.var 2) [22,23] (MG.mk (.one 2) (.idx (.var 22) (.var 23)) [ME.cmp .Eq (.fn .len [ME.idx (.var 22) (.var 2)]) (.bin .Sub (.fn .len [ME.idx (.var 22) (.var 23)]) (.int 1))]) []) (.int 0)) [22] (MG.mk (.one 23) (.range [ME.int 1,ME.int 6]) []) [])=some (.list ((List.range 5).map λk=>D.int (oO G (1+k):Int))):=by
  refine aV (c:=λ(k:Nat)=>D.int ((1+k:Nat):Int)) (ys:=List.range 5) (λk=>[D.int (oO G (1+k):Int)]) (aI (aa rfl (aa rfl aj)) (f6 (a:=1) (b:=6) (by exact Oh _) (by exact Og _ _))) (λk h=>?_) bk (by rw[MX,Nk];decide)
  have h:=Ng.mp h
  have e:1+k<6:=by lia
  have h0:0<1+k:=by lia
  generalize 1+k=y at e h0
  refine aF (p:=true) rfl rfl λ_=>aH ?_
  have o:(ev U 35).m (St.set (Z.cut [22]) 23 (.val (.int (y:Int)))) (.comp (.var 2) [22,23] (MG.mk (.one 2) (.idx (.var 22) (.var 23)) [ME.cmp .Eq (.fn .len [ME.idx (.var 22) (.var 2)]) (.bin .Sub (.fn .len [ME.idx (.var 22) (.var 23)]) (.int 1))]) [])=some (nl ((eM (bR G) y).filter λx=>decide ((eM (bR G) x).length+1=(eM (bR G) y).length))):=by
   refine aV (c:=λ(x:Nat)=>D.int (x:Int)) (ys:=eM (bR G) y) (λx=>if decide ((eM (bR G) x).length+1=(eM (bR G) y).length)=true then[.int (x:Int)] else[]) (mP rfl (aZ (by exact d) (aK (v_var (by exact d)) (ao rfl) (lB e))) rfl) (λx hx=>?_) aO (by rw[MX];exact M5 (Nv ..) (M5 kz (by exact Og _ _)))
   have f:=(ez.mp hx).1
   refine aF rfl (a7 ((aS (aB rfl (wD (by exact d) rfl f)) (aB rfl (ar (aB rfl (wD (by exact d) rfl e)) (aB rfl rfl) rfl)) jT).trans ?_)) λ_=>aH (ao rfl)
   refine MY some ?_
   rw[Oj,NJ,Nd];lia
  have hh:((eM (bR G) y).filter λx=>decide ((eM (bR G) x).length+1=(eM (bR G) y).length))[0]?=some (oO G y):=by
   refine au (t.up y h0 e) λq r=>?_
   have g:oO G y∈(eM (bR G) y).filter λx=>decide ((eM (bR G) x).length+1=(eM (bR G) y).length):=Nt.mpr ⟨q,Nq r⟩
   unfold oO at g |-
   cases hl:(eM (bR G) y).filter λx=>decide ((eM (bR G) x).length+1=(eM (bR G) y).length) with
   |nil=>rw[hl] at g;cases g
   |cons u l=>rfl
  exact aK (aB rfl o) rfl (dB (i:=0) hh (by exact Oh _))
 refine ar (aB rfl (eT (by decide) (aa (mO rfl) aj))) (aB rfl j) ((add_lists (by show 1<2^20;decide) (by rw[MX,Nk];decide)).trans ?_)
 rfl
end
section
variable {S:List (List Nat)}{x y z a o b:Nat}{U:UT}{N:NT}{n:Nat}{Z:St}{L M:List Nat}{d:Nat->Nat->Bool}
noncomputable def gO (o:Nat)(L:List Nat):Nat:=(L.map λb=>2^(o+b)).sum
theorem C7 (o:Nat)(L:List Nat):gO o L=((L.map (o+ ·)).map (2^ ·)).sum:=by
 unfold gO;rw[NO];rfl
theorem sI {i:Nat}(c:o<27)(hi:i<6):o+i<32:=lv (NY (N0 c) (N0 hi)) rfl
theorem qm (hn:L.Nodup)(h:∀x∈L,x<6)(f:o<27):gO o L<2^32/\pW (gO o L)=(fW L).map (o+ ·)/\(gO o L=0↔L=[]):=by
 have e:=BI (List.pairwise_map.mpr (hn.imp λh q=>h (Nat.add_left_cancel q)):(L.map (o+ ·)).Nodup) λp hp=>af (Nn.mp hp) λb hb e=>e▸sI f (h b hb)
 rw[<-C7] at e
 refine⟨e▸BH _ _,?_,?_⟩
 .unfold pW
  have c:(List.range 32).filter (gO o L).testBit=(List.range 32).filter λi=>decide (i∈L.map (o+ ·)):=OQ λi hi=>by
   rw[e,uw _ (Ng.mp hi)]
  have g:(List.range o).filter (λi=>decide (i∈L.map (o+ ·)))=[]:=Pc.mpr λi hi q=>af (Nn.mp (Nr q)) λb _ e=>O9 (Ng.mp hi) (e▸NM o b)
  have l:(((List.range (26 - o)).map (6+ ·)).map (o+ ·)).filter (λi=>decide (i∈L.map (o+ ·)))=[]:=Pc.mpr λi hi q=>af (Nn.mp (Nr q)) λb hb e=>af (Nn.mp hi) λj m c=>af (Nn.mp m) λk _ r=>Nat.not_lt_of_le ((r.trans (Nat.add_left_cancel (c.trans e.symm)))▸NM 6 k) (h b hb)
  have s:((List.range 6).map (o+ ·)).filter (λi=>decide (i∈L.map (o+ ·)))=(fW L).map (o+ ·):=by
   rw[List.filter_map]
   exact MY _ (OQ λi _=>ON.mpr ⟨λq=>af (Nn.mp q) λb hb e=>Nat.add_left_cancel e▸hb,λq=>Nn.mpr ⟨i,q,rfl⟩⟩)
  rw[c,show 32=o+(6+(26 - o)) by rw[Nat.add_left_comm,Nat.add_sub_of_le (N0 f)],List.range_add,List.range_add,List.filter_append,Nu,List.filter_append,g,l,s,List.nil_append,NP]
 .cases L with
  |nil=>exact⟨λ_=>rfl,λ_=>rfl⟩
  |cons b L=>exact⟨λq=>absurd q (N4 (NF (Nat.two_pow_pos (o+b)) (NM _ _))),λq=>absurd q (List.cons_ne_nil b L)⟩
noncomputable def gQ (o b:Nat):Str:=dJ (o+b)
theorem sJ (hn:L.Nodup)(h:∀x∈L,x<6)(e:o<27)(c:Int):words c (gO o L)=(fW L).map (gQ o)++if c=0/\L≠[] then[] else[gR (c*2^32)]:=by
 refine eU (qm hn h e) λi f g=>?_
 unfold words
 rw[f,NO]
 exact MY (_++ ·) (ite_congr (propext (and_congr Iff.rfl (not_congr g))) (λ_=>rfl) λ_=>rfl)
theorem Lm (c:o<27):gz (gQ o):=λi j hi e h=>Nat.add_left_cancel (BD (sI c hi) (sI c e) h)
theorem C8 (c:o<27)(hb:b<6):(gQ o b).length<=20:=mV (sI c hb)
noncomputable abbrev yZ (v:Nat):ME:=ME.bin .Pow (.int 2) (.bin .Add (.bin .Mod (.var 5) (.int 27)) (.var v))
theorem C9 {last v:Nat}(c:Z 5=some (.val (.int (last:Int))))(e:Z v=some (.val (.int (b:Int))))(hb:b<6)(m:Nat):(ev U (m+7)).m Z (yZ v)=some (.int ((2^(last%27+b):Nat):Int)):=
 ar (aB rfl rfl) (aB rfl (ar (aB rfl (ar (v_var c) (aB rfl rfl) (bX (b:=27) (by decide)))) (v_var e) add_int)) (jP (a:=2) (by decide) (lw (NY (ND (N3 last (by decide:0<27))) (ND hb)) rfl))
theorem oP:(L.map λb=>D.int ((2^(o+b):Nat):Int))=(L.map λb=>2^(o+b)).map λ(k:Nat)=>D.int (k:Int):=by rw[NO];rfl
noncomputable abbrev Ju:ME:=ME.bin .Add (.bin .Add (.bin .Add (.ite (.cmp .Lt (.var 16) (.int 2)) (.str (Str.ofString "-")) (.str (Str.ofString ""))) (.str (Str.ofString "0x"))) (.fn .strOf [ME.fn .abs [ME.bin .Sub (.var 16) (.int 2)]])) (.bin .Mult (.str (Str.ofString "0")) (.int 8))
noncomputable def oQ (b:Nat):Str:=if b<2 then "-" else ""
noncomputable def Mn (b:Nat):Str:=((oQ b++"0x")++((toString (if(b:Int) - 2<0 then -((b:Int) - 2) else(b:Int) - 2):String):Str))++"00000000"
theorem Ln:((List.range 6).all λb=>decide (b=2)||(Mn b==gR (((b:Int) - 2)*2^32)))=true:=by decide+kernel
theorem Lo:((List.range 6).all λb=>decide ((oQ b).length<=20)&&decide ((oQ b++"0x").length<=20)&&decide (((toString (if(b:Int) - 2<0 then -((b:Int) - 2) else(b:Int) - 2):String):Str).length<=20)&&decide (((oQ b++"0x")++((toString (if(b:Int) - 2<0 then -((b:Int) - 2) else(b:Int) - 2):String):Str)).length<=20))=true:=by decide+kernel
theorem add_str {s t:Str}(hs:s.length<1000)(ht:t.length<1000):D.bin .Add (.str s) (.str t)=some (.str (s++t)):=M7 ⟨by exact av.lu hs rfl,by exact av.lu ht rfl⟩
theorem Jv:D.bin .Mult (.str (Str.ofString "0")) (.int 8)=some (.str "00000000"):=by
 rw[mul_str,M7 (by decide+kernel)]
 exact MY (λs=>some (D.str s)) (by decide+kernel)
theorem Jw (hb:b<6)(f:b≠2)(c:Z 16=some (.val (.int (b:Int)))):(ev U 36).m Z Ju=some (.str (gR (((b:Int) - 2)*2^32))):=by
 have e:=Nx.mp Ln b (Ng.mpr hb)
 rw[NQ f,Bool.false_or,NJ] at e
 have hs:=Nx.mp Lo b (Ng.mpr hb)
 rw[NV,NV,NV,Nd,Nd,Nd,Nd] at hs
 have g:(ev U 31).v Z (.ite (.cmp .Lt (.var 16) (.int 2)) (.str (Str.ofString "-")) (.str (Str.ofString "")))=some (.str (oQ b)):=by
  refine aB rfl ((gL (x:=.str "-") (y:=.str "") (aS (v_var c) (aB rfl rfl) rfl) (λ_=>rfl) λ_=>rfl).trans ?_)
  unfold oQ
  by_cases h:b<2
  .rw[M7 h,M7 (Nq (by exact N5.mpr h))]
  .rw[M8 h];exact MY some (M8 λq=>h (N5.mp (Nr q)))
 rw[<-e]
 exact ar (aB rfl (ar (aB rfl (ar g (aB rfl rfl) (add_str (lv hs.1.1.1 rfl) (show(Str.ofString "0x").length<1000 by decide+kernel)))) (aB rfl (cE rfl (aa (aB rfl (cE (z:=.int (if(b:Int) - 2<0 then -((b:Int) - 2) else(b:Int) - 2)) rfl (aa (aB rfl (ar (v_var c) (aB rfl rfl) rfl)) aj) rfl)) aj) (M7 ((show∀b,b<6->(if((b:Nat):Int) - 2<0 then -((b:Int) - 2) else(b:Int) - 2).natAbs<2^64 by decide) b hb)))) (add_str (lv hs.1.1.2 rfl) (lv hs.1.2 rfl)))) (aB rfl (ar (aB rfl rfl) (aB rfl rfl) Jv)) (add_str (lv hs.2 rfl) (by decide+kernel))
noncomputable abbrev HN:ME:=ME.bin .Add (.var 29) (.ite (.cmp .Eq (.var 16) (.int 2)) (.list []) (.list [Ju]))
noncomputable def iG (b:Nat):List Str:=if b=2 then[] else[gR (((b:Int) - 2)*2^32)]
theorem sL:(iG b).length<=1:=by
 unfold iG
 by_cases h:b=2
 .rw[M7 h];exact Ou _
 .rw[M8 h];exact NB _
theorem GH {W:List Str}(g:W.length<1000)(hb:b<6)(c:Z 16=some (.val (.int (b:Int))))(e:Z 29=some (.val (.list (W.map .str)))):(ev U 40).m Z HN=some (.list ((W++iG b).map .str)):=by
 have i:(ev U 38).m Z (.ite (.cmp .Eq (.var 16) (.int 2)) (.list []) (.list [Ju]))=some (.list ((iG b).map .str)):=by
  have f:(ev U 37).t Z (.cmp .Eq (.var 16) (.int 2))=some (decide (b=2)):=(aS (v_var c) (aB rfl rfl) jT).trans (MY some (qc (b:=2)))
  unfold iG
  by_cases h:b=2
  .rw[M7 h]
   refine(gL (x:=.list []) (y:=.list []) f (λ_=>rfl) λq=>absurd h (of_decide_eq_false q)).trans ?_
   rw[M7 (Nq h)];rfl
  .rw[M8 h]
   refine(gL (x:=.list []) f (λ_=>rfl) λ_=>eT (by decide) (aa (Jw hb h c) aj)).trans ?_
   rw[M8 λq=>h (Nr q)];rfl
 have j:=sL (b:=b)
 refine ar (v_var e) (aB rfl i) ((add_lists (by rw[MX];exact av.lu g rfl) (by rw[MX];exact av.lv j rfl)).trans ?_)
 rw[Nu]
end
section
variable {S:List (List Nat)}{x y z a o b:Nat}{U:UT}{N:NT}{n:Nat}{Z:St}{L M:List Nat}{d:Nat->Nat->Bool}{F:Nat->List Nat}
theorem wF {l:List D}:D.cmp .NotEq (.list l) (.list [])=some (!l.isEmpty):=by cases l<;>rfl
theorem qn {s t:Str}:D.cmp .Eq (.str s) (.str t)=some (s==t):=rfl
noncomputable abbrev Dc:ME:=ME.comp (.idx (.var 13) (.var 23)) [16,22,13,17] (MG.mk (.one 23) (.range [ME.int 6]) [ME.and (.or (.cmp .Eq (.var 23) (.var 16)) (.cmp .NotIn (.var 16) (.idx (.var 22) (.var 23)))) (.cmp .NotEq (.comp (.var 2) [16,22,17,23] (MG.mk (.one 2) (.range [ME.int 6]) [ME.and (.cmp .In (.var 23) (.idx (.var 17) (.var 2))) (.cmp .In (.var 16) (.idx (.var 22) (.var 2)))]) []) (.list []))]) []
theorem Dd {nm:Nat->Str}(g:Gr S)(t:yn S d)(hb:b<6)(u:∀z,z∈F b↔Fm S b z)(m:Z 13=some (.val (jX nm)))(i:Z 16=some (.val (.int (b:Int))))(j:Z 17=some (.val (.list (S.map nl))))(f:Z 22=some (.val (nL d))):(ev U 40).m Z Dc=some (.list (((fW (F b)).map nm).map .str)):=by
 refine aV (λy=>if decide (y∈F b)=true then[.str (nm y)] else[]) (aI (aa rfl aj) (range_one (n:=6) (by decide))) (λy l=>?_) (out:=((fW (F b)).map nm).map .str) ?_ ?_
 .have l:=Ng.mp l
  have v:(ev U 36).m (St.set (Z.cut [16,22,13,17]) 23 (.val (.int (y:Int)))) (.comp (.var 2) [16,22,17,23] (MG.mk (.one 2) (.range [ME.int 6]) [ME.and (.cmp .In (.var 23) (.idx (.var 17) (.var 2))) (.cmp .In (.var 16) (.idx (.var 22) (.var 2)))]) [])=some (nl ((List.range 6).filter λx=>decide (y∈S.getD x [])&&decide (b∈eM d x))):=by
   refine aV (λx=>if(decide (y∈S.getD x [])&&decide (b∈eM d x))=true then[.int (x:Int)] else[]) (aI (aa rfl aj) (range_one (n:=6) (by decide))) (λx hx=>?_) aO (by rw[MX];exact M5 (Nv ..) (by rw[Nk];decide))
   have hx:=Ng.mp hx
   exact aF rfl (a7 (kG (aS (v_var rfl) (aZ (by exact j) (aK (v_var (by exact j)) (ao rfl) (bC (by rw[Nz,g.row hx];rfl) (by exact av.lu hx rfl)))) rT) λ_=>aS (v_var (by exact i)) (aZ (by exact f) (aK (v_var (by exact f)) (ao rfl) (lB hx))) rT)) λ_=>aH (ao rfl)
  refine aF rfl (a7 ((kG (Ae ((aS (v_var rfl) (v_var (by exact i)) jT)) λ_=>aS (v_var (by exact i)) (aZ (by exact f) (aK (v_var (by exact f)) (ao rfl) (lB l))) dn) λ_=>aS (aB rfl v) (aB rfl rfl) wF).trans ?_)) λ_=>aH (aK (v_var (by exact m)) (ao rfl) (gB l))
  refine MY some ?_
  rw[Oj,Nd,u,NV,Pe,NJ,Nd,Bool.not_eq_true',List.isEmpty_eq_false_iff]
  unfold Fm
  have w:((y:Int)=(b:Int)\/b∉eM d y)↔(b=y\/ ¬dK S b y):=by
   rw[ez, <-t b y hb l]
   exact or_congr ⟨λe=>(O5 e).symm,λe=>MY Int.ofNat e.symm⟩ ⟨λh q=>h ⟨hb,q⟩,λh q=>h q.2⟩
  have A:((List.range 6).filter λx=>decide (y∈S.getD x [])&&decide (b∈eM d x)).map (λ(k:Nat)=>D.int (k:Int))≠[]↔ ∃a,y∈S.getD a []/\dK S b a:=by
   rw[ne_eq,List.map_eq_nil_iff,Pc]
   have r:∀{x},x<6->((decide (y∈S.getD x [])&&decide (b∈eM d x))=true↔y∈S.getD x []/\dK S b x):=by
    intro x hx
    rw[NV,Nd,Nd,ez, <-t b x hb hx]
    exact and_congr Iff.rfl ⟨λq=>q.2,λq=>⟨hb,q⟩⟩
   exact⟨λh=>OZ λq=>h λx hx p=>q ⟨x,(r (Ng.mp hx)).mp p⟩,λh q=>af h λa s B=>q a (Ng.mpr (g.iy s).1) ((r (g.iy s).1).mpr ⟨s,B⟩)⟩
  rw[w,A]
  exact and_comm
 .rw[aO (c:=λy=>D.str (nm y)),NO];rfl
 .rw[MX,MX]
  exact M5 (Nv ..) (by rw[Nk];decide)
def jW (U:UT):Prop:= ∀(c:Int) (m:Nat),m<2^32-> -3<c/\c<4->U 4 [.int (c*2^32+(m:Int))]=some (.str (PySem.Txt.join ", " (words c m)))
noncomputable abbrev HO:ME:=ME.fn (.user 4) [ME.bin .Add (.fn .sum [ME.comp (yZ 23) [5] (MG.mk (.one 23) (.idx (.var 27) (.var 16)) []) []]) (.bin .Mult (.bin .Sub (.var 16) (.int 2)) (.bin .Pow (.int 2) (.int 32)))]
theorem Lp (hb:b<6): -3<(b:Int) - 2/\(b:Int) - 2<4:=(show∀b,b<6-> -3<((b:Nat):Int) - 2/\((b:Nat):Int) - 2<4 by decide) b hb
theorem GJ (j:jW U){last:Nat}(hb:b<6)(hn:(F b).Nodup)(i:∀x∈F b,x<6)(k:Z 5=some (.val (.int (last:Int))))(e:Z 16=some (.val (.int (b:Int))))(g:Z 27=some (.val (.list ((List.range 6).map λh=>nl (F h))))):(ev U 40).m Z HO=some (.str (PySem.Txt.join ", " (words ((b:Int) - 2) (gO (last%27) (F b))))):=by
 have l:=N3 last (show 0<27 by exact Oh _)
 refine eU (qm hn i l) λm t u=>?_
 have q:=bc hn i
 have r:(ev U 35).m Z (.comp (yZ 23) [5] (MG.mk (.one 23) (.idx (.var 27) (.var 16)) []) [])=some (nl ((F b).map λy=>2^(last%27+y))):=by
  refine aV (c:=λ(y:Nat)=>D.int (y:Int)) (ys:=F b) (λy=>[D.int ((2^(last%27+y):Nat):Int)]) (mP rfl (aZ g (aK (v_var g) (ao e) (bC (aM (f:=λh=>nl (F h)) hb) (by exact av.lu hb rfl)))) rfl) (λy s=>?_) (bk.trans oP) (by rw[MX,MX];exact av.lv q rfl)
  exact aF (p:=true) rfl rfl λ_=>aH (C9 (by exact k) rfl (i y s) 27)
 have hp:D.bin .Mult (.int ((b:Int) - 2)) (.int (2^32))=some (.int (((b:Int) - 2)*2^32)):=mul_int ((show∀b,b<6->(((b:Nat):Int) - 2).natAbs<2^64 by decide) b hb) (by decide)
 refine d3 (aa (ar (aB rfl (cE rfl (aa (aB rfl r) aj) uz)) (aB rfl (ar (aB rfl (ar (v_var e) (aB rfl rfl) rfl)) (aB rfl (ar (aB rfl rfl) (aB rfl rfl) (pow_int (a:=2) (b:=32) ⟨by exact NG _,by exact NG _,by decide⟩))) hp)) add_int) aj) ?_
 have:=j ((b:Int) - 2) (gO (last%27) (F b)) m (Lp hb)
 rw[Int.add_comm] at this
 exact this
theorem GK (h:∀x∈L,x<6):fW L=[]↔L=[]:=by
 refine⟨λe=>?_,λe=>by rw[e];rfl⟩
 cases L with
 |nil=>rfl
 |cons x L=>exact absurd (e▸iU.mpr ⟨h x (Nf ..),Nf ..⟩) Nl
noncomputable abbrev HP:ME:=ME.cmp .Eq (.var 30) (.ite (.cmp .NotEq (.var 29) (.list [])) (.fn .join [ME.str (Str.ofString ", "),ME.var 29]) (.str (Str.ofString "0x0")))
theorem De:gR (0*2^32)="0x0":=by decide+kernel
theorem GL (m:o<27)(hb:b<6)(hn:L.Nodup)(p:∀x∈L,x<6)(g:Z 29=some (.val (.list (((fW L).map (gQ o)++iG b).map .str))))(j:Z 30=some (.val (.str (PySem.Txt.join ", " (words ((b:Int) - 2) (gO o L)))))):(ev U 40).m Z HP=some (.bool true):=by
 have r:=sJ hn p m ((b:Int) - 2)
 have hlen:∀s∈(fW L).map (gQ o)++iG b,s.length<=20:=λs hs=>(NK.mp hs).elim (λh=>af (Nn.mp h) λy t e=>e▸C8 m (iU.mp t).1) λh=>by
  unfold iG at h
  by_cases i:b=2
  .rw[M7 i] at h;exact absurd h Nl
  .rw[M8 i] at h;rw[Nh.mp h];exact hex_len (Lp hb)
 have c:((fW L).map (gQ o)++iG b).length<100:=by rw[Ni,MX];exact lv (NY (M4 (Nv ..) (NR Nk)) sL) rfl
 have u:(ev U 37).t Z (.cmp .NotEq (.var 29) (.list []))=some (!(((fW L).map (gQ o)++iG b).map D.str).isEmpty):=aS (v_var g) (aB rfl rfl) wF
 have v:=gL (U:=U) (n:=37) (Z:=Z) (a:=ME.fn .join [ME.str (Str.ofString ", "),ME.var 29]) (b:=ME.str (Str.ofString "0x0")) (y:=.str "0x0") u (λ_=>cE rfl (aa (aB rfl rfl) (aa (v_var g) aj)) (jw hlen c (show(Str.ofString ", ").length<100 by decide+kernel))) λ_=>rfl
 refine il (v_var j) (aB rfl v) ?_
 by_cases f:(fW L).map (gQ o)++iG b=[]
 .have i:b=2:=OZ λq=>by
   unfold iG at f
   rw[M8 q] at f
   exact List.cons_ne_nil _ _ (List.append_eq_nil_iff.mp f).2
  have k:L=[]:=(GK p).mp (List.map_eq_nil_iff.mp (List.append_eq_nil_iff.mp f).1)
  rw[f,M8 (by decide),qn,r,k,M8 λq=>absurd rfl q.2,i]
  show some (PySem.Txt.join ", " [gR (0*2^32)]==("0x0":Str))=_
  rw[De];decide+kernel
 .have l:(((fW L).map (gQ o)++iG b).map D.str).isEmpty=false:=by
   rw[List.isEmpty_eq_false_iff]
   exact λq=>f (List.map_eq_nil_iff.mp q)
  rw[l,M7 (by decide),qn,r]
  have:(if(b:Int) - 2=0/\L≠[] then[] else[gR (((b:Int) - 2)*2^32)])=iG b:=by
   unfold iG at f |-
   by_cases h:b=2
   .rw[M7 h,NP] at f
    rw[M7 h]
    exact M7 ⟨by rw[h];rfl,λq=>f (q▸rfl)⟩
   .rw[M8 h]
    exact M8 λq=>h (O5 (Int.sub_eq_zero.mp q.1))
  rw[this]
  exact MY some (O8 _)
structure WI (S:List (List Nat))(o last:Nat)(d:Nat->Nat->Bool)(F:Nat->List Nat)(ys:List D)(Z:St):Prop where
 v5:Z 5=some (.val (.int (last:Int)))
 v7:Z 7=some (.own (.list ys))
 yM:Z 13=some (.val (jX (gQ o)))
 Mo:Z 17=some (.val (.list (S.map nl)))
 Mz:Z 22=some (.val (nL d))
 MA:Z 27=some (.val (.list ((List.range 6).map λh=>nl (F h))))
noncomputable abbrev Df:List MS:=[.asg 29 Dc,.asg 29 HN,.asg 30 HO,.append 7 HP]
theorem y1 {last:Nat}(j:jW U)(g:Gr S)(k:yn S d)(f:∀s z,s<6->(z∈F s↔Fm S s z))(hn:∀s,(F s).Nodup)(hb:b<6){ys:List D}(l:ys.length<1000)(I:WI S (last%27) last d F ys Z):
  ∃Z',ay (ex U N (n+1)) Df (Z.set 16 (.val (.int (b:Int))))=some (.next,Z')/\WI S (last%27) last d F (ys++[.bool true]) Z'/\ ∀i,(i≠7/\i≠16/\i≠29/\i≠30)->Z' i=Z i:=by
 have m:=N3 last (show 0<27 by exact Oh _)
 have c:∀x∈F b,x<6:=λx hx=>af ((f b x hb).mp hx).1 λa h _=>(g.iy h).2
 have e:(fW (F b)).length<=6:=M4 (Nv ..) (NR Nk)
 have s1:=bg (U:=U) (N:=N) (n:=n) (i:=29) (Dd (U:=U) (nm:=gQ (last%27)) (Z:=Z.set 16 (.val (.int (b:Int)))) g k hb (λz=>f b z hb) I.yM rfl I.Mo I.Mz)
 have p:=bg (U:=U) (N:=N) (n:=n) (i:=29) (GH (U:=U) (W:=(fW (F b)).map (gQ (last%27))) (Z:=(Z.set 16 (.val (.int (b:Int)))).set 29 (.val (.list (((fW (F b)).map (gQ (last%27))).map .str)))) (by rw[MX];exact av.lv e rfl) hb rfl rfl)
 have q:=bg (U:=U) (N:=N) (n:=n) (i:=30) (GJ (U:=U) (Z:=((Z.set 16 (.val (.int (b:Int)))).set 29 (.val (.list (((fW (F b)).map (gQ (last%27))).map .str)))).set 29 (.val (.list (((fW (F b)).map (gQ (last%27))++iG b).map .str)))) j hb (hn b) c I.v5 rfl I.MA)
 have r:=fq (U:=U) (N:=N) (n:=n) (i:=7) (GL (U:=U) (o:=last%27) (L:=F b) (Z:=(((Z.set 16 (.val (.int (b:Int)))).set 29 (.val (.list (((fW (F b)).map (gQ (last%27))).map .str)))).set 29 (.val (.list (((fW (F b)).map (gQ (last%27))++iG b).map .str)))).set 30 (.val (.str (PySem.Txt.join ", " (words ((b:Int) - 2) (gO (last%27) (F b))))))) m hb (hn b) c rfl rfl) (by exact I.v7) (by exact av.lu l rfl)
 refine⟨_,ae s1 (ae p (ae q (ae r rfl))),⟨I.v5,rfl,I.yM,I.Mo,I.Mz,I.MA⟩,λi hi=>?_⟩
 exact(M8 (by exact hi.1)).trans ((M8 hi.2.2.2).trans ((M8 hi.2.2.1).trans ((M8 hi.2.2.1).trans (M8 hi.2.1))))
end
section
variable {S:List (List Nat)}{x y z a o b last:Nat}{U:UT}{N:NT}{n:Nat}{Z:St}{L M:List Nat}{d:Nat->Nat->Bool}{F:Nat->List Nat}
theorem s_call {z f y:Nat}{es:List ME}{c:List D}{d:D}(h:es.mapM ((ev U 40).m Z)=some ds)(e:Z y=some (.own (.list xs)))(g:N f ds xs=some (d,c)):ex U N (n+1) (.gJ (some z) f es y) Z=some (.next,(Z.set y (.own (.list c))).set z (.val d)):=bs h (bs e (bs (x:=xs) rfl (bs g rfl)))
theorem GN {f y:Nat}{es:List ME}{c:List D}(h:es.mapM ((ev U 40).m Z)=some ds)(e:Z y=some (.own (.list xs)))(g:N f ds xs=some (.none,c)):ex U N (n+1) (.gJ none f es y) Z=some (.next,Z.set y (.own (.list c))):=bs h (bs e (bs (x:=xs) rfl (bs g (bs (x:=()) rfl rfl))))
structure MB (U:UT)(N:NT):Prop where
 flag:∀p:Nat,p<32->U 0 [.int (p:Int)]=some (.str (dJ p))
 tab:∀(nm:Nat->Str) (R:List (Nat×Nat×Nat)) (u:Nat),gz nm->gC R->0<u->u<2^30->U 6 [nl (R.flatMap (numOf u)),jX nm,.int (u:Int)]=some (gA nm (bT R))
 MC:∀(S:List (List Nat)) (T:List Nat) (a:Nat),Gr S->a<6-> ∃g,U 5 [.list (S.map nl),.int (a:Int),nl T]=some (nl g)/\g.Nodup/\ ∀x,x∈g↔fV S T a x
 hangs:∀(S:List (List Nat)) (d:Nat->Nat->Bool) (p:Nat->Nat) (i:Int) (seed:Nat) (xs:List D),Tree S d p->xs.length<800-> ∃m,m<=25/\N 0 [jN p,.int i,.int (seed:Int)] xs=some (jN p,xs++List.replicate m (.bool true))
 marked:∀(S:List (List Nat)) (d:Nat->Nat->Bool) (p:Nat->Nat) (nm:Nat->Str) (A:List (Nat×Nat)) (st:List Nat),Tree S d p->gz nm->iB A->(∀a y,(a,y)∈A↔y∈S.getD a [])->st.Nodup->(∀x∈st,x<6)->
  ∃(F:Nat->List Nat) (M:List Nat),U 11 [nl st,jN p,gA nm A,jX nm]=some (.tup [.list ((List.range 6).map λh=>nl (F h)),nl M])/\(∀s,(F s).Nodup)/\(∀s z,s<6->(z∈F s↔Fm S s z))/\M.Nodup/\(∀x∈M,x<6)/\(∀x∈st,x∈M)/\bW S M/\
   ∀T:List Nat,(∀x∈st,x∈T)->bW S T-> ∀x∈M,x∈T
 least:∀(S:List (List Nat)) (st M:List Nat),Gt S->0∈st->st.Nodup->(∀x∈M,x<6)->(∀x∈st,x∈M)->bW S M->(∀T:List Nat,(∀x∈st,x∈T)->bW S T-> ∀x∈M,x∈T)->U 12 [nl st,.list (S.map nl)]=some (nl (fW M))
 pretty:jW U
 run:∀(S:List (List Nat)) (d:Nat->Nat->Bool) (p:Nat->Nat) (nm:Nat->Str) (M sums:List Nat) (xs:List D),Tree S d p->0∈M->bW S M->(∀z∈M,z<6)->sums.length=10->xs.length<900->N 1 [nl sums,.list (S.map nl),nl M,jN p,jX nm] xs=some (.none,xs++List.replicate 12 (.bool true))
theorem GO {s:List Nat}{k:Nat}(h0:0<k)(c:k<6):(s.getD (k - 1) 0%k,k)∈bT (dW s):=
 List.mem_flatMap.mpr ⟨Gv s k,Oq _ (Nn.mpr ⟨k,(show∀k,k<6->0<k->k∈([1,2,3,4,5]:List Nat) by decide) k c h0,rfl⟩),Nn.mpr ⟨0,Ng.mpr Nat.one_pos,rfl⟩⟩
theorem Dg {s:List Nat}:Gt (stp (bT (dW s))):=
 {C3 with tree:=λk h0 c=>⟨s.getD (k - 1) 0%k,N3 _ h0,(wB (p0 qk.row)).mp (GO h0 c)⟩}
noncomputable abbrev Dh:ME:=ME.comp (.var 12) [] (MG.mk (.one 11) (.var 8) []) [MG.mk (.one 12) (.var 11) []]
theorem GP {R:List (Nat×Nat×Nat)}(e:R.length<=9)(f:Z 8=some (.val (fy u R))):(ev U 38).m Z Dh=some (nl (R.flatMap (numOf u))):=by
 refine aV (c:=λr=>nl (numOf u r)) (ys:=R) (λr=>(numOf u r).map λ(k:Nat)=>D.int (k:Int)) (mP rfl (v_var f) rfl) (λr _=>?_) (out:=(R.flatMap (numOf u)).map λ(k:Nat)=>D.int (k:Int)) (by rw[List.map_flatMap]) (by rw[MX,vU];exact lv (N8 3 e) rfl)
 refine aF (p:=true) rfl rfl λ_=>?_
 refine(eE (c:=λ(k:Nat)=>D.int (k:Int)) (ys:=numOf u r) (λk=>[D.int (k:Int)]) rfl (mP rfl (v_var rfl) rfl) λk _=>aF (p:=true) rfl rfl λ_=>aH (ao rfl)).trans ?_
 rw[bk];rfl
theorem GQ {l:List Nat}:D.cmp .NotEq (nl l) (nl l)=some false:=by
 show(D.gm 6 (nl l) (nl l)).map (λb=> !b)=_
 rw[HF (k:=4),Nq rfl];rfl
noncomputable abbrev Lq:ME:=ME.comp (.fn (.user 0) [ME.bin .Add (.bin .Mod (.var 5) (.int 27)) (.var 3)]) [5] (MG.mk (.one 3) (.range [ME.int 6]) []) []
theorem Di (c:∀p:Nat,p<32->U 0 [.int (p:Int)]=some (.str (dJ p)))(e:Z 5=some (.val (.int (last:Int)))):(ev U 40).m Z Lq=some (jX (gQ (last%27))):=by
 have f:=N3 last (show 0<27 by exact Oh _)
 refine aV (λb=>[.str (gQ (last%27) b)]) (aI (aa rfl aj) (range_one (n:=6) (by decide))) (λb hb=>?_) bk (by rw[MX,Nk];decide)
 have hb:=Ng.mp hb
 exact aF (p:=true) rfl rfl λ_=>aH (d3 (aa (ar (aB rfl (ar (v_var (by exact e)) (aB rfl rfl) (bX (b:=27) (by decide)))) (v_var rfl) add_int) aj) (c (last%27+b) (sI f hb)))
noncomputable def Jx (last b:Nat):Bool:=(((last/162%31+1)/2^(b - 1)%2:Nat):Int) !=0
noncomputable def eA (last:Nat):List Nat:=0::[1,2,3,4,5].filter (Jx last)
noncomputable abbrev Jy:ME:=ME.bin .Add (.list [ME.int 0]) (.comp (.var 16) [5] (MG.mk (.one 16) (.range [ME.int 1,ME.int 6]) [ME.bin .Mod (.bin .FloorDiv (.bin .Add (.bin .Mod (.bin .FloorDiv (.var 5) (.int 162)) (.int 31)) (.int 1)) (.bin .Pow (.int 2) (.bin .Sub (.var 16) (.int 1)))) (.int 2)]) [])
theorem sM:(eA last).Nodup/\(∀x∈eA last,x<6)/\0∈eA last:=by
 unfold eA
 exact⟨NA.mpr ⟨λh=>absurd (jU (Nt.mp h).1).1 (Oa 0),List.Pairwise.filter _ (by decide)⟩,λx hx=>(Np.mp hx).elim (λh=>h▸(by decide)) λh=>O1 (jU (Nt.mp h).1).2,Nf ..⟩
theorem y2 (c:Z 5=some (.val (.int (last:Int)))):(ev U 40).m Z Jy=some (nl (eA last)):=by
 have e:(ev U 38).m Z (.comp (.var 16) [5] (MG.mk (.one 16) (.range [ME.int 1,ME.int 6]) [ME.bin .Mod (.bin .FloorDiv (.bin .Add (.bin .Mod (.bin .FloorDiv (.var 5) (.int 162)) (.int 31)) (.int 1)) (.bin .Pow (.int 2) (.bin .Sub (.var 16) (.int 1)))) (.int 2)]) [])=some (nl ([1,2,3,4,5].filter (Jx last))):=by
  refine aV (λb=>if Jx last b=true then[.int (b:Int)] else[]) (aI (aa rfl (aa rfl aj)) (show D.range [.int 1,.int 6]=some (([1,2,3,4,5]:List Nat).map λ(k:Nat)=>D.int (k:Int)) from rfl)) (λb hb=>?_) aO (by rw[MX];exact M5 (Nv ..) (by decide))
  have hb:=jU hb
  have hp:2^(b - 1)<=2^4:=Nat.pow_le_pow_right (by decide) (Nat.sub_le_sub_right hb.2 1)
  have f:D.bin .Sub (.int (b:Int)) (.int 1)=some (.int ((b - 1:Nat):Int)):=MY (λx=>some (D.int x)) (Int.ofNat_sub (by exact hb.1)).symm
  exact aF rfl (a7 (DF rfl (aB rfl (ar (aB rfl (ar (aB rfl (ar (aB rfl (ar (aB rfl (ar (v_var (by exact c)) (aB rfl rfl) (cR (b:=162) (by decide) (by decide)))) (aB rfl rfl) (bX (b:=31) (by decide)))) (aB rfl rfl) dp)) (aB rfl (ar (aB rfl rfl) (aB rfl (ar (v_var rfl) (aB rfl rfl) f)) (jP (a:=2) (by decide) (by exact av.lw (M4 (Nat.sub_le _ _) hb.2) rfl)))) (cR (N4 (Nat.two_pow_pos (b - 1))) (by exact av.lv hp rfl)))) (aB rfl rfl) (bX (b:=2) (by decide)))) rfl)) λ_=>aH (ao rfl)
 refine ar (aB rfl (eT (by decide) (aa rfl aj))) (aB rfl e) ((add_lists (by show 1<2^20;decide) (by rw[MX];exact M5 (Nv ..) (by decide))).trans ?_)
 rfl
noncomputable abbrev Lr:ME:=ME.cmp .Eq (.fn (.user 4) [ME.fn .sum [ME.comp (yZ 16) [5] (MG.mk (.one 16) (.var 28) []) []]]) (.fn .join [ME.str (Str.ofString ", "),ME.comp (.idx (.var 13) (.var 16)) [13] (MG.mk (.one 16) (.fn (.user 12) [ME.var 26,ME.var 17]) []) []])
theorem GR (t:jW U){st:List Nat}(u:U 12 [nl st,.list (S.map nl)]=some (nl (fW M)))(hn:M.Nodup)(h:∀x∈M,x<6)(h0:0∈M)(v:Z 5=some (.val (.int (last:Int))))(i:Z 13=some (.val (jX (gQ (last%27)))))(j:Z 17=some (.val (.list (S.map nl))))(k:Z 26=some (.val (nl st)))(l:Z 28=some (.val (nl M))):(ev U 40).m Z Lr=some (.bool true):=by
 have m:=N3 last (show 0<27 by exact Oh _)
 refine eU (qm hn h m) λb1 b2 b3=>?_
 have w:=bc hn h
 have f:(fW M).length<=6:=M4 (Nv ..) (NR Nk)
 have r:=sJ hn h m 0
 rw[M7 ⟨rfl,λq=>absurd (q▸h0) Nl⟩,NP] at r
 have A:(ev U 38).m Z (.fn (.user 4) [ME.fn .sum [ME.comp (yZ 16) [5] (MG.mk (.one 16) (.var 28) []) []]])=some (.str (PySem.Txt.join ", " ((fW M).map (gQ (last%27))))):=by
  have B:(ev U 35).m Z (.comp (yZ 16) [5] (MG.mk (.one 16) (.var 28) []) [])=some (nl (M.map λy=>2^(last%27+y))):=by
   refine aV (c:=λ(y:Nat)=>D.int (y:Int)) (ys:=M) (λy=>[D.int ((2^(last%27+y):Nat):Int)]) (mP rfl (v_var l) rfl) (λy g=>?_) (bk.trans oP) (by rw[MX,MX];exact av.lv w rfl)
   exact aF (p:=true) rfl rfl λ_=>aH (C9 (by exact v) rfl (h y g) 27)
  refine d3 (aa (cE rfl (aa (aB rfl B) aj) uz) aj) ?_
  have:=t 0 (gO (last%27) M) b1 (by decide)
  rw[Int.zero_mul,Int.zero_add,r] at this
  exact this
 have E:(ev U 36).m Z (.comp (.idx (.var 13) (.var 16)) [13] (MG.mk (.one 16) (.fn (.user 12) [ME.var 26,ME.var 17]) []) [])=some (.list (((fW M).map (gQ (last%27))).map .str)):=by
  refine aV (c:=λ(y:Nat)=>D.int (y:Int)) (ys:=fW M) (λy=>[D.str (gQ (last%27) y)]) (mP rfl (aB rfl (d3 (aa (ao k) (aa (ao j) aj)) u)) rfl) (λy g=>?_) (bk.trans (by rw[NO];rfl)) (by rw[MX,MX];exact av.lv f rfl)
  exact aF (p:=true) rfl rfl λ_=>aH (aK (v_var (by exact i)) (ao rfl) (gB (iU.mp g).1))
 refine il (aB rfl A) (aB rfl (cE rfl (aa (aB rfl rfl) (aa (aB rfl E) aj)) (jw (λs hs=>?_) (by rw[MX];exact av.lv f rfl) (show(Str.ofString ", ").length<100 by decide+kernel)))) ?_
 .exact af (Nn.mp hs) λy g e=>e▸C8 m (iU.mp g).1
 .rw[qn]
  exact MY some (O8 _)
theorem y3 {k:Nat}:D.bools (List.replicate k (.bool true))=some (List.replicate k true):=by
 induction k with
 |zero=>rfl
 |succ k c=>
  show(D.bools (List.replicate k (.bool true))).map (true:: ·)=_
  rw[c];rfl
theorem all_true {k:Nat}:fN U .all [.list (List.replicate k (.bool true))]=some (.bool true):=by
 show(D.bools _).map (λbs=>D.bool (bs.all id))=_
 rw[y3]
 refine MY (λb=>some (D.bool b)) ?_
 rw[Nx]
 exact λx hx=>(List.mem_replicate.mp hx).2
end
section
variable {U:UT}{N:NT}{Z Z1:St}{l:List Int}
theorem GS (f:MB U N)(I:Lj l Z1):∃Z2,ay (ex U N 12) Bx (Z1.set 10 (.val (nl ((dW (br l)).flatMap (numOf (cF l))))))=some (.ret (.bool true),Z2):=by
 refine au (lA (l:=l)) λu0 u1=>?_
 have O:gC (dW (br l)):=qk
 have hA:=FC O
 have hal:=jM O.row
 have hRl:=O.len
 have g:Gt (stp (bT (dW (br l)))):=Dg
 have hAS:∀a y,(a,y)∈bT (dW (br l))↔y∈(stp (bT (dW (br l)))).getD a []:=λa y=>wB hA.1
 have ho:=N3 (gj l) (show 0<27 by exact Oh _)
 have J:=Lm ho
 have hsl:=gi (l:=l)
 obtain ⟨v1,v5,v6,v7,v8⟩:=I
 generalize hR':dW (br l)=R at*
 generalize P:bT R=A at*
 generalize Q:stp A=S at*
 generalize V:R.flatMap (numOf (cF l))=T at*
 generalize hu':cF l=u at*
 generalize hq':gj l=last at*
 generalize hs':br l=sums at*
 obtain ⟨G,hG⟩:∃G:List Nat->Nat->List Nat,DG S U G:=by
  have:=λ(T:List Nat) (a:Nat) (h:a<6)=>f.MC S T a g.toGr h
  refine⟨λT a=>if h:a<6 then Classical.choose (this T a h) else[],λT a h=>?_⟩
  dsimp only
  rw[dif_pos h]
  have:=Classical.choose_spec (this T a h)
  exact⟨this.1,this.2.2⟩
 have t:Tree S (bR G) (oO G):=GC g hG
 obtain ⟨E,B⟩:∃E:St,E=Z1.set 10 (.val (nl T)):=⟨_,rfl⟩
 rw[<-B]
 have c1:E 1=some (.val (nl sums)):=(Nm B 1).trans v1
 have c5:E 5=some (.val (.int (last:Int))):=(Nm B 5).trans v5
 have c6:E 6=some (.val (.int (u:Int))):=(Nm B 6).trans v6
 have c7:E 7=some (.own (.list [])):=(Nm B 7).trans v7
 have c8:E 8=some (.val (fy u R)):=(Nm B 8).trans v8
 have W:E 10=some (.val (nl T)):=Nm B 10
 clear v1 v5 v6 v7 v8 B
 have ef:(ev U 38).m E Dh=some (nl T):=by rw[<-V];exact GP hRl c8
 have s1:ex U N 12 (.iff (.cmp .NotEq (.var 10) Dh) [.ret (.bool false)] []) E=some (.next,E):=cQ (aS (v_var W) (aB rfl ef) GQ) (λh=>nomatch h) λ_=>rfl
 have s2:=bg (U:=U) (N:=N) (n:=11) (i:=13) (Di f.flag c5)
 have s3:=bg (U:=U) (N:=N) (n:=11) (i:=14) (Z:=E.set 13 (.val (jX (gQ (last%27))))) (e:=ME.fn (.user 6) [ME.var 10,ME.var 13,ME.var 6]) (d:=gA (gQ (last%27)) A) (d3 (aa (ao (by exact W)) (aa (ao rfl) (aa (ao (by exact c6)) aj))) (by rw[<-V, <-P];exact f.tab _ R u J O u0 (by exact av.lu u1 rfl)))
 obtain ⟨s,r⟩:∃s:St,s=(E.set 13 (.val (jX (gQ (last%27))))).set 14 (.val (gA (gQ (last%27)) A)):=⟨_,rfl⟩
 rw[<-r] at s3
 have X:s 13=some (.val (jX (gQ (last%27)))):=Nm r 13
 have Y:s 14=some (.val (gA (gQ (last%27)) A)):=Nm r 14
 have d1:s 1=some (.val (nl sums)):=(Nm r 1).trans c1
 have d5:s 5=some (.val (.int (last:Int))):=(Nm r 5).trans c5
 have d6:s 6=some (.val (.int (u:Int))):=(Nm r 6).trans c6
 have d7:s 7=some (.own (.list [])):=(Nm r 7).trans c7
 have d8:s 8=some (.val (fy u R)):=(Nm r 8).trans c8
 clear r
 have ea:(ev U 40).m s Lk=some (.list (A.map pairD)):=by rw[<-P];exact GB O u0 (by exact av.lu u1 rfl) d6 d8
 have s4:=bg (U:=U) (N:=N) (n:=11) (i:=15) ea
 have es:(ev U 40).m (s.set 15 (.val (.list (A.map pairD)))) HM=some (.list (S.map nl)):=by rw[<-Q];exact C5 hA.1 (by lia) rfl
 have s5:=bg (U:=U) (N:=N) (n:=11) (i:=17) es
 have e6:(ev U 40).m ((s.set 15 (.val (.list (A.map pairD)))).set 17 (.val (.list (S.map nl)))) (.cmp .Eq (.var 14) Ll)=some (.bool true):=by
  refine il (v_var (by exact Y)) (aB rfl (Js (A:=A) J (by exact X) rfl (by rw[Q];rfl))) (Jr J hA)
 have s6:=fq (U:=U) (N:=N) (n:=11) (i:=7) e6 (by exact d7) (by decide)
 obtain ⟨w,v⟩:∃w:St,w=((s.set 15 (.val (.list (A.map pairD)))).set 17 (.val (.list (S.map nl)))).set 7 (.own (.list ([]++[.bool true]))):=⟨_,rfl⟩
 rw[<-v] at s6
 have g1:w 1=some (.val (nl sums)):=(Nm v 1).trans d1
 have g5:w 5=some (.val (.int (last:Int))):=(Nm v 5).trans d5
 have g7:w 7=some (.own (.list [.bool true])):=Nm v 7
 have g13:w 13=some (.val (jX (gQ (last%27)))):=(Nm v 13).trans X
 have g14:w 14=some (.val (gA (gQ (last%27)) A)):=(Nm v 14).trans Y
 have g17:w 17=some (.val (.list (S.map nl))):=Nm v 17
 clear v
 have s7:=bg (U:=U) (N:=N) (n:=11) (i:=21) (GD hG g17)
 have s8:=bg (U:=U) (N:=N) (n:=11) (i:=22) (yX (U:=U) (G:=G) (Z:=w.set 21 (.val (.list ((List.range 6).map λb=>nl (G [b] 0))))) rfl)
 have s9:=bg (U:=U) (N:=N) (n:=11) (i:=24) (yY (U:=U) t (Z:=(w.set 21 (.val (.list ((List.range 6).map λb=>nl (G [b] 0))))).set 22 (.val (nL (bR G)))) rfl)
 obtain ⟨q,p⟩:∃q:St,q=((w.set 21 (.val (.list ((List.range 6).map λb=>nl (G [b] 0))))).set 22 (.val (nL (bR G)))).set 24 (.val (jN (oO G))):=⟨_,rfl⟩
 rw[<-p] at s9
 have h1:q 1=some (.val (nl sums)):=(Nm p 1).trans g1
 have h5:q 5=some (.val (.int (last:Int))):=(Nm p 5).trans g5
 have h7:q 7=some (.own (.list [.bool true])):=(Nm p 7).trans g7
 have h13:q 13=some (.val (jX (gQ (last%27)))):=(Nm p 13).trans g13
 have h14:q 14=some (.val (gA (gQ (last%27)) A)):=(Nm p 14).trans g14
 have h17:q 17=some (.val (.list (S.map nl))):=(Nm p 17).trans g17
 have h22:q 22=some (.val (nL (bR G))):=Nm p 22
 have h24:q 24=some (.val (jN (oO G))):=Nm p 24
 clear p
 refine af (f.hangs S (bR G) (oO G) (1 - ((last/27%2:Nat):Int)*2) (last/5022) [.bool true] t (by decide)) λm hm hN=>?_
 have s10:ex U N 12 (.gJ (some 25) 0 [ME.var 24,ME.bin .Sub (.int 1) (.bin .Mult (.bin .Mod (.bin .FloorDiv (.var 5) (.int 27)) (.int 2)) (.int 2)),ME.bin .FloorDiv (.var 5) (.int 5022)] 7) q=some (.next,(q.set 7 (.own (.list ([.bool true]++List.replicate m (.bool true))))).set 25 (.val (jN (oO G)))):=
  s_call (aa (ao h24) (aa (ar (aB rfl rfl) (aB rfl (ar (aB rfl (ar (aB rfl (ar (v_var h5) (aB rfl rfl) (cR (b:=27) (by exact by decide) (by exact Og _ _)))) (aB rfl rfl) (bX (b:=2) (by exact by decide)))) (aB rfl rfl) (mul_int (by exact av.lu (N3 _ (by decide)) rfl) (by decide)))) rfl) (aa (ar (v_var h5) (aB rfl rfl) (cR (b:=5022) (by exact by decide) (by exact Og _ _))) aj))) h7 hN
 refine eU (sM (last:=last)) λq1 q2 q3=>?_
 refine JS (f.marked S (bR G) (oO G) (gQ (last%27)) A (eA last) t J hA hAS q1 q2) λF M r1 r2 r3 r4 r5 r6 r7 r8=>?_
 have s11:=bg (U:=U) (N:=N) (n:=11) (i:=26) (y2 (U:=U) (last:=last) (Z:=(q.set 7 (.own (.list ([.bool true]++List.replicate m (.bool true))))).set 25 (.val (jN (oO G)))) h5)
 have s12:=iu (U:=U) (N:=N) (n:=11) (ts:=[27,28]) (e:=ME.fn (.user 11) [ME.var 26,ME.var 25,ME.var 14,ME.var 13]) (Z:=((q.set 7 (.own (.list ([.bool true]++List.replicate m (.bool true))))).set 25 (.val (jN (oO G)))).set 26 (.val (nl (eA last)))) (d3 (aa (ao rfl) (aa (ao rfl) (aa (ao (by exact h14)) (aa (ao (by exact h13)) aj)))) r1) rfl
 obtain ⟨o,j⟩:∃o:St,o=((((q.set 7 (.own (.list ([.bool true]++List.replicate m (.bool true))))).set 25 (.val (jN (oO G)))).set 26 (.val (nl (eA last)))).set 27 (.val (.list ((List.range 6).map λh=>nl (F h))))).set 28 (.val (nl M)):=⟨_,rfl⟩
 rw[<-j] at s12
 have k1:o 1=some (.val (nl sums)):=(Nm j 1).trans h1
 have k5:o 5=some (.val (.int (last:Int))):=(Nm j 5).trans h5
 have k7:o 7=some (.own (.list (List.replicate (1+m) (.bool true)))):=(Nm j 7).trans (by rw[<-OM];rfl)
 have k13:o 13=some (.val (jX (gQ (last%27)))):=(Nm j 13).trans h13
 have k17:o 17=some (.val (.list (S.map nl))):=(Nm j 17).trans h17
 have k22:o 22=some (.val (nL (bR G))):=(Nm j 22).trans h22
 have k25:o 25=some (.val (jN (oO G))):=Nm j 25
 have k26:o 26=some (.val (nl (eA last))):=Nm j 26
 have k27:o 27=some (.val (.list ((List.range 6).map λh=>nl (F h)))):=Nm j 27
 have k28:o 28=some (.val (nl M)):=Nm j 28
 clear j
 have hM0:0∈M:=r6 0 q3
 have s13:=fq (U:=U) (N:=N) (n:=11) (i:=7) (GR f.pretty (f.least S (eA last) M g q3 q1 r5 r6 r7 r8) r4 r5 hM0 k5 k13 k17 k26 k28) k7 (by rw[Ow];lia)
 obtain ⟨x,z⟩:∃x:St,x=o.set 7 (.own (.list (List.replicate (1+m) (.bool true)++[.bool true]))):=⟨_,rfl⟩
 rw[<-z] at s13
 have H:∀i,i≠7->x i=o i:=λi hi=>(Nm z i).trans (M8 hi)
 have k7':x 7=some (.own (.list (List.replicate (1+m) (.bool true)++[.bool true]))):=Nm z 7
 clear z
 obtain ⟨C,e14,K,hf14⟩:=iR (c:=λ(k:Nat)=>D.int (k:Int)) (b:=ay (ex U N 11) Df) (Z0:=λZ d=>bB Z (.one 16) d) (xs:=List.range 6) (Z:=x)
  (λys Z=>WI S (last%27) last (bR G) F (List.replicate (2+m+ys.length) (.bool true)) Z/\ ∀i,(i≠7/\i≠16/\i≠29/\i≠30)->Z i=x i) (λys b zs e Z ⟨I,hf⟩=>by
   refine au (kQ e) λζ0 hb=>?_;subst ζ0
   rw[Nk] at I
   refine bf (y1 (U:=U) (N:=N) (n:=10) f.pretty g.toGr (uL hG) r3 r2 hb (by rw[Ow];lia) I) λZ' e' I' hf'=>?_
   refine⟨_,Z',rfl,e',?_,λi hi=>(hf' i hi).trans (hf i hi)⟩
   rw[Ni,Nk,List.length_singleton, <-Nat.add_assoc, <-OM (n:=2+m+b)]
   exact I') ⟨⟨(H 5 (by exact by decide)).trans k5,k7'.trans (by rw[show 2+m+([]:List Nat).length=(1+m)+1 by rw[List.length_nil];lia, <-OM (n:=1+m)];rfl),(H 13 (by exact by decide)).trans k13,(H 17 (by exact by decide)).trans k17,(H 22 (by exact by decide)).trans k22,(H 27 (by exact by decide)).trans k27⟩,λ_ _=>rfl⟩
 have L:∀i,(i≠7/\i≠16/\i≠29/\i≠30)->C i=o i:=λi hi=>(hf14 i hi).trans (H i hi.1)
 have s14:ex U N 12 (.cW (.one 16) (.range [ME.int 6]) Df []) x=some (.next,C):=eJ rfl (aI (aa rfl aj) (range_one (n:=6) (by exact Og _ _))) e14
 have s15:=GN (U:=U) (N:=N) (n:=11) (f:=1) (y:=7) (es:=[ME.var 1,ME.var 17,ME.var 28,ME.var 25,ME.var 13]) (Z:=C) (aa (ao ((L 1 (by exact by decide)).trans k1)) (aa (ao K.Mo) (aa (ao ((L 28 (by exact by decide)).trans k28)) (aa (ao ((L 25 (by exact by decide)).trans k25)) (aa (ao K.yM) aj))))) K.v7 (f.run S (bR G) (oO G) (gQ (last%27)) M sums _ t hM0 r7 r5 hsl (by rw[Ow,Nk];lia))
 rw[OM] at s15
 have s16:=eK (U:=U) (N:=N) (n:=11) (e:=ME.fn .all [ME.var 7]) (Z:=C.set 7 (.own (.list (List.replicate (2+m+(List.range 6).length+12) (.bool true))))) (cE rfl (aa (v_var (d:=.list (List.replicate (2+m+(List.range 6).length+12) (.bool true))) rfl) aj) all_true)
 exact⟨_,ae s1 (ae s2 (ae s3 (ae s4 (ae s5 (ae s6 (ae s7 (ae s8 (ae s9 (ae s10 (ae s11 (ae s12 (ae s13 (ae s14 (ae s15 (bA s16)))))))))))))))⟩
end
end av.Q
namespace av
open PySem PySem.W PyProof.Rows
section
set_option maxRecDepth 100000
set_option maxHeartbeats 0
noncomputable abbrev pp:Program:=PySem.Challenge.pw_xc0026_01
noncomputable def Ls:Stmt->Bool
 | .FunctionDef ..=>true
 |_=>false
noncomputable def vw:Program:={pp with main:={pp.main with body:=pp.main.body.filter Ls}}
noncomputable abbrev vX:Shared->Bool:=λs=>xlAt vw [] s&&recOk [] s
noncomputable abbrev vL:List Str:=["COMPILER_FLAG_NAMES","Whitespace"]
noncomputable def GU:List (Str×Arguments×List Stmt×Scope):=(pp.main.body.map fun
 | .ClassDef _ _ _ b _ _ _ _ _ _ _=>b.filterMap fun
  | .FunctionDef n a b _ _ _ sc _ _ _=>some (n,a,b,sc)
  |_=>none
 |_=>[]).flatten
noncomputable def mF (n q:Str)(c:Addr):Obj:=match GU.lookup n with
 |some (a,b,sc)=>{cls:=.type "function",data:=.func (methDef n q a b sc (.str "cpy313.tabnanny" 286) (.ref c) .none)}
 |none=>default
noncomputable def mC (n q:Str)(t:Nat)(l c:Int)(a e:Int)(b:Int)(d:Nat):Obj:={cls:=.type "code",data:=.fields #[.str n t,.str q (t+1),.str "/claim/cut.py" (t+2),.int l 0,.int c 0,.int 0 0,.int 0 0,.int 3 0,.ref a.toNat,.bool true,.int 181 0,.ref (a.toNat+1),.none,.ref (a.toNat+2),.ref (a.toNat+3),.ref (a.toNat+4),.int b 0,.int l 0,.str "/claim/cut.py" d]}
noncomputable def gE (P:Params)(n:Str)(t:Nat)(v:Value):DictEntry:=⟨PyData.keyHash P n,.str n t,v⟩
noncomputable def cK (P:Params):Frag:=[(2,{cls:=.none,data:=.dict #[]}),
 (3,{cls:=.type "dict",data:=.dict #[gE P "__name__" 165 (.str "law_xc0026_01" 388),gE P "__doc__" 166 .none,gE P "__package__" 167 .none,gE P "__loader__" 168 (.builtin "__main__.__loader__#opaque"),gE P "__spec__" 169 .none,gE P "__annotations__" 170 (.ref 6),gE P "__builtins__" 171 (.ref 4),
  gE P "__file__" 173 (.str "/claim/cut.py" 172),gE P "__cached__" 174 .none,gE P "_wall" 193 (.ref 21),gE P "COMPILER_FLAG_NAMES" 226 (.ref 22),gE P "pretty_flags" 236 (.ref 29),gE P "_parse_varint" 245 (.ref 36),gE P "add_func_stats" 265 (.ref 43),gE P "add_callers" 276 (.ref 50),gE P "count_calls" 285 (.ref 57),
  gE P "Whitespace" 387 (.ref 119),gE P "_law_read" 395 (.ref 128),gE P "_law_flag" 403 (.ref 135),gE P "_law_tables" 409 (.ref 140),gE P "_law_reached" 415 (.ref 145),gE P "_law_hangs" 421 (.ref 150),gE P "_law_marked" 427 (.ref 155),gE P "_law_least" 433 (.ref 160),gE P "_law_run" 439 (.ref 165),gE P "law" 445 (.ref 170)] 26}),
 (22,{cls:=.type "dict",data:=.dict #[⟨1,.int 1 196,.str "OPTIMIZED" 197⟩,⟨2,.int 2 198,.str "NEWLOCALS" 199⟩,⟨4,.int 4 200,.str "VARARGS" 201⟩,⟨8,.int 8 202,.str "VARKEYWORDS" 203⟩,⟨16,.int 16 204,.str "NESTED" 205⟩,⟨32,.int 32 206,.str "GENERATOR" 207⟩,⟨64,.int 64 208,.str "NOFREE" 209⟩,⟨128,.int 128 210,.str "COROUTINE" 211⟩,⟨256,.int 256 212,.str "ITERABLE_COROUTINE" 213⟩,⟨512,.int 512 214,.str "ASYNC_GENERATOR" 215⟩] 10}),
 (73,mC "__init__" "Whitespace.__init__" 305 53 2 68 0 317 318),(74,mF "__init__" "Whitespace.__init__" 73),
 (80,mC "longest_run_of_spaces" "Whitespace.longest_run_of_spaces" 320 76 1 75 0 326 327),(81,mF "longest_run_of_spaces" "Whitespace.longest_run_of_spaces" 80),
 (87,mC "indent_level" "Whitespace.indent_level" 329 80 2 82 0 338 339),(88,mF "indent_level" "Whitespace.indent_level" 87),
 (108,mC "less" "Whitespace.less" 357 93 2 103 0 364 365),(109,mF "less" "Whitespace.less" 108),
 (118,{cls:=.type "dict",data:=.dict #[gE P "__module__" 295 (.str "cpy313.tabnanny" 286),gE P "__firstlineno__" 299 (.int 50 298),gE P "S" 303 (.str " " 301),gE P "T" 304 (.str "\t" 302),gE P "__init__" 319 (.ref 74),gE P "longest_run_of_spaces" 328 (.ref 81),gE P "indent_level" 340 (.ref 88),gE P "equal" 348 (.ref 95),
  gE P "not_equal_witness" 356 (.ref 102),gE P "less" 366 (.ref 109),gE P "not_less_witness" 374 (.ref 116),gE P "__static_attributes__" 380 (.ref 117),gE P "__dict__" 382 (.ref 120),gE P "__weakref__" 384 (.ref 121),gE P "__doc__" 385 .none] 4}),
 (119,{cls:=.type "type",data:=.cls {name:="Whitespace",bases:=[.type "object"],mro:=[.ref 119,.type "object"],ns:=118,qualname:="Whitespace"},slots:=#[none,none,some (.str "Whitespace" 288),some (.str "Whitespace" 296),some (.builtin "object.__new__"),some (.bool true)]})]
noncomputable abbrev cH:Hook:=kHook cK [2,3,22,73,74,80,81,87,88,108,109,118,119] λ_=>rfl
theorem Lu (w:World):(fencedOpening treeTable pp w 2330).bind (λa=>(topFrom treeTable pp (w.withFollow "special-get-raises" false) 2330 a).map (λs=>(openSeen vw vL (importedModules pp.main.body) vX true s,cH.obs s)))=some (openGood vw vL,cH.val (w.withFollow "special-get-raises" false)):=by
 unfold topFrom
 rewrite[Fast.te14082659384304107361,Fast.te14364793385576792824,Fast.te4187177175401517315]
 kernel_rfl
theorem Lv (w:World):(fencedOpening treeTable pp w 2330).bind (λa=>(topFrom treeTable pp (w.withFollow "special-get-raises" true) 2330 a).map (λs=>(openSeen vw vL (importedModules pp.main.body) vX true s,cH.obs s)))=some (openGood vw vL,cH.val (w.withFollow "special-get-raises" true)):=by
 unfold topFrom
 rewrite[Fast.te14082659384304107361,Fast.te14364793385576792824,Fast.te4187177175401517315]
 kernel_rfl
theorem Lw:LeftO pp vw vL vX cH.obs cH.val 2330:=λw=>by
 have h0:=Lu w
 have a:=Lv w
 have e:=World.withFollow_self w "special-get-raises"
 unfold openEnds
 cases ha:fencedOpening treeTable pp w 2330 with
 |none=>rw[ha] at h0;cases h0
 |some b=>
  rw[ha] at h0 a
  cases hb:w.params.followText "special-get-raises"<;>rw[hb] at e
  .rw[e] at h0;exact h0
  .rw[e] at a;exact a
end
section
set_option maxRecDepth 100000
set_option maxHeartbeats 0
noncomputable def Dj:DefRec:=(defOf vw "law").elim ⟨"",⟨[],[],none,[],[],none,[]⟩,[],⟨.function,[],false,false,[]⟩,⟨0,0,0,0⟩⟩ (·.1)
noncomputable abbrev sN:=PySem.Challenge.rw_xc0026_01
theorem Dk:sN.wellSaid=true:=by
 rewrite[Fast.te9446332074065402090]
 kernel_rfl
theorem GW:defOf vw sN.row.name=some (Dj,[]):=by kernel_rfl
theorem Dl:sN.row.prog.theDef sN.row.name=some (Dj.params,Dj.body,Dj.scope):=by kernel_rfl
theorem y4:(chainsOk vw&&opensWell sN.row.prog&&(frees sN.row.toRowW&&sN.row.within.isEmpty))=true:=by kernel_rfl
theorem Mp (b:sN.row.toRowW.promised)(call:WalkO vw vL (XL vw []) cH.says sN.row.toRowW Dj [] λf vs=>PySem.call f vs):sN.Holds:=
 holds_law Dk λa=>holds_open (q:=vw) (loose:=vL) (Xt:=vX) (XP:=XL vw []) (Yf:=cH.obs) (Ya:=cH.val) (YP:=cH.says) (N:=2330) Lw cH.of cH.keeps (λs e=>xl_of s (M9.mp e).1) XL.keeps GW Dl (by kernel_rfl) (λs e=>recFacts_of (M9.mp e).2) (by rfl) a y4 ⟨rfl,rfl,rfl,rfl,rfl,by decide+kernel⟩ b call
end
section
set_option maxRecDepth 100000
set_option maxHeartbeats 4000000
noncomputable def Mq (n:Nat):Option Value:=([135,50,57,43,29,145,140,119,81,88,109,155,160,128,74]:List Nat)[n]?.map .ref
noncomputable def Mr (n:Nat):Option Value:=([150,165]:List Nat)[n]?.map .ref
noncomputable abbrev KK (w:World):Frag:=cK w.params
noncomputable def Wo (w:World)(h:Heap)(mg mb:Str->Option Value):Wd:=⟨sN.row.prog,w,119,h,mg,mb,KK w,Mq,Mr⟩
noncomputable def defAt (n:Str):Option DefRec:=(recsOf vw).find? (·.name==n)
noncomputable def JQ (c:CT)(params:List Str)(sc:Scope):Bool:=(params.all λy=>sc.names.lookup y==some .local||sc.names.lookup y==some .cell)&&((sc.names.all λp=>p.2 != .free)&&
 (!sc.isCoroutine&&(!sc.isGenerator&&(decide (sc.kind=.function)&&(lQ c.aE&&params.isPrefixOf c.aE)))))
def sO (w:World)(h:Heap)(mg mb:Str->Option Value)(a:Addr)(n:Str)(params:List Str)(b:List MS):Prop:=
 ∃body sc,eF (Wo w h mg mb) a (i5 n) params body sc/\b=eH (i5 n) sc body
section
variable {w:World}{h:Heap}{mg mb:Str->Option Value}{mean:ExcName->Option Value}{n:Str}{a:Addr}{params:List Str}{b:List MS}{c:CT}
theorem HQ {body:List Stmt}{sc:Scope}{o:Obj}{fd:FuncData}(e:JQ c params sc=true)(d:h.get? a=some o)(f:o.data=.func fd)(g:fd.body=.stmts body)(i:fd.scope=sc)(j:h.CodeRec fd.code fd.qualname)(k:∀vs:List Value,vs.length=params.length->bindArgs fd ⟨vs,[]⟩=pure (params.zip vs))(l:fd.closure=[])(m:fd.globals=mainGlobals)(p:fd.builtins=builtinsNs):eF (Wo w h mg mb) a c params body sc:=by
 unfold JQ at e
 simp only[NV,Bool.not_eq_true',Nd] at e
 exact⟨⟨o,fd,d,f,g,i,j,k,l,m,p⟩,e.1,e.2.1,e.2.2.1,e.2.2.2.1,e.2.2.2.2.1,e.2.2.2.2.2.1,List.isPrefixOf_iff_prefix.mp e.2.2.2.2.2.2⟩
theorem Dm {d:DefRec}(T:Top vw vL mean mg mb h)(hn:mg n=some (.ref a))(i:defAt n=some d):∃o g code f,h.get? a=some o/\o.data=.func (Calls.docDef d.name d.params d.body d.scope g code f)/\h.CodeRec code d.name:=by
 have e:d.name=n:=NJ.mp (List.find?_some (p:=λd:DefRec=>d.name==n) i)
 refine DL (T.fn d (List.mem_of_find?_eq_some i)) λq o g code f j k l m=>?_
 rw[e,hn] at j
 cases j
 exact⟨o,g,code,f,k,l,m⟩
theorem Dn {d:DefRec}(T:Top vw vL mean mg mb h)(hn:mg n=some (.ref a))(g:defAt n=some d)(i:JQ c params d.scope=true)(j:∀(f k e:Value) (vs:List Value),vs.length=params.length->bindArgs (Calls.docDef d.name d.params d.body d.scope f k e) ⟨vs,[]⟩=pure (params.zip vs)):eF (Wo w h mg mb) a c params d.body d.scope:=by
 refine oR (Dm T hn g) λo f code e l m p=>?_
 exact HQ i l m rfl rfl p (j f code e) rfl rfl rfl
theorem GX {o:Obj}{fd:FuncData}(d:h.get? a=some o)(e:o.data=.func fd):fR (Wo w h mg mb) (.ref a):=
 λ_ k=>⟨.frame,.inl rfl,(Looks.ld (part:=none) (k _ _ d)).andThen (by rw[e];exact .now)⟩
theorem bS (X:(KK w).In h)(T:Top vw vL mean mg mb h)(n:Str)(hn:nsIn (KK w) mainGlobals n=some (some (.ref a)))(e:(defAt n).isSome=true):fR (Wo w h mg mb) (.ref a):=by
 refine ak (Option.isSome_iff_exists.mp e) λd e=>?_
 refine oR (Dm T (mg_of X T.g hn) e) λo f f f g i f=>?_
 exact GX g i
theorem ng {d:Value}(X:(KK w).In h)(e:keepIn (KK w) d=true):fR (Wo w h mg mb) d:=λ_ k=>keeps_K e _ (X.keeps k)
theorem fA (X:(KK w).In h)(T:Top vw vL mean mg mb h)(hn:nsIn (KK w) mainGlobals n=some (some (.ref a)))(k:(defAt n).map (λd=>(JQ (i5 n) params d.scope,eH (i5 n) d.scope d.body))=some (true,b))(l:∀(g i f:Value) (vs:List Value),vs.length=params.length->(defAt n).map (λd=>bindArgs (Calls.docDef d.name d.params d.body d.scope g i f) ⟨vs,[]⟩)=some (pure (params.zip vs))):sO w h mg mb a n params b:=by
 refine af (OC.mp k) λd j e=>?_
 refine au (Prod.mk.inj e) λm o=>?_
 refine⟨_,_,Dn T (mg_of X T.g hn) j m λg i f vs p=>?_,o.symm⟩
 have e:=l g i f vs p
 rw[j] at e
 injection e
noncomputable def uM (o:Obj):Option FuncData:=match o.data with| .func fd=>some fd|_=>none
noncomputable def wG (fd:FuncData):Option (List Stmt):=match fd.body with| .stmts b=>some b|_=>none
theorem qo (X:(KK w).In h)(g:(((KK w).lookup a).bind uM).bind (λfd=>(wG fd).map λbody=>(JQ (i5 n) params fd.scope,codeIn (KK w) fd.code fd.qualname,fd.closure.isEmpty,decide (fd.globals=mainGlobals),decide (fd.builtins=builtinsNs),eH (i5 n) fd.scope body))=some (true,true,true,true,true,b))(i:∀vs:List Value,vs.length=params.length->(((KK w).lookup a).bind uM).map (λfd=>bindArgs fd ⟨vs,[]⟩)=some (pure (params.zip vs))):sO w h mg mb a n params b:=by
 refine af (Option.bind_eq_some_iff.mp g) λfd f e=>?_
 refine af (OC.mp e) λbody hb e=>?_
 simp only[Prod.mk.injEq,Nd,List.isEmpty_iff] at e
 refine LS e λj k l m p q=>?_
 refine af (Option.bind_eq_some_iff.mp f) λo r d=>?_
 have s:o.data=.func fd:=by
  unfold uM at d
  split at d
  .rename_i x;cases d;exact x
  .cases d
 have hs:fd.body=.stmts body:=by
  unfold wG at hb
  split at hb
  .rename_i x;cases hb;exact x
  .cases hb
 refine⟨_,_,HQ j (X a o r) s hs rfl (codeRec_of X k) (λvs t=>?_) l m p,q.symm⟩
 have e:=i vs t
 rw[f] at e
 injection e
theorem GY (X:(KK w).In h)(T:Top vw vL mean mg mb h):sO w h mg mb 135 "_law_flag" [("place":Str)] b0:=
 fA X T (by kernel_rfl) (by kernel_rfl) (λg i d e f=>by rcases e with _|⟨v0,_|⟨_,_⟩⟩<;>first|(exfalso;simp at f;done)|kernel_rfl)
theorem uN (X:(KK w).In h)(T:Top vw vL mean mg mb h):sO w h mg mb 50 "add_callers" [("target":Str),("source":Str)] b1:=
 fA X T (by kernel_rfl) (by kernel_rfl) (λg i d e f=>by rcases e with _|⟨v0,_|⟨v1,_|⟨_,_⟩⟩⟩<;>first|(exfalso;simp at f;done)|kernel_rfl)
theorem Dp (X:(KK w).In h)(T:Top vw vL mean mg mb h):sO w h mg mb 57 "count_calls" [("callers":Str)] b2:=
 fA X T (by kernel_rfl) (by kernel_rfl) (λg i d e f=>by rcases e with _|⟨v0,_|⟨_,_⟩⟩<;>first|(exfalso;simp at f;done)|kernel_rfl)
theorem Dq (X:(KK w).In h)(T:Top vw vL mean mg mb h):sO w h mg mb 43 "add_func_stats" [("target":Str),("source":Str)] b3:=
 fA X T (by kernel_rfl) (by kernel_rfl) (λg i d e f=>by rcases e with _|⟨v0,_|⟨v1,_|⟨_,_⟩⟩⟩<;>first|(exfalso;simp at f;done)|kernel_rfl)
theorem y5 (X:(KK w).In h)(T:Top vw vL mean mg mb h):sO w h mg mb 29 "pretty_flags" [("flags":Str)] b4:=
 fA X T (by kernel_rfl) (by kernel_rfl) (λg i d e f=>by rcases e with _|⟨v0,_|⟨_,_⟩⟩<;>first|(exfalso;simp at f;done)|kernel_rfl)
theorem uO (X:(KK w).In h)(T:Top vw vL mean mg mb h):sO w h mg mb 145 "_law_reached" [("steps":Str),("first":Str),("shut":Str)] b5:=
 fA X T (by kernel_rfl) (by kernel_rfl) (λg i d e f=>by rcases e with _|⟨v0,_|⟨v1,_|⟨v2,_|⟨_,_⟩⟩⟩⟩<;>first|(exfalso;simp at f;done)|kernel_rfl)
theorem y6 (X:(KK w).In h)(T:Top vw vL mean mg mb h):sO w h mg mb 140 "_law_tables" [("numbers":Str),("names":Str),("unit":Str)] b6:=
 fA X T (by kernel_rfl) (by kernel_rfl) (λg i d e f=>by rcases e with _|⟨v0,_|⟨v1,_|⟨v2,_|⟨_,_⟩⟩⟩⟩<;>first|(exfalso;simp at f;done)|kernel_rfl)
theorem y7 (X:(KK w).In h)(T:Top vw vL mean mg mb h):sO w h mg mb 155 "_law_marked" [("stores":Str),("hangs":Str),("tables":Str),("names":Str)] KO:=
 fA X T (by kernel_rfl) (by kernel_rfl) (λg i d e f=>by rcases e with _|⟨v0,_|⟨v1,_|⟨v2,_|⟨v3,_|⟨_,_⟩⟩⟩⟩⟩<;>first|(exfalso;simp at f;done)|kernel_rfl)
theorem Dr (X:(KK w).In h)(T:Top vw vL mean mg mb h):sO w h mg mb 160 "_law_least" [("stores":Str),("steps":Str)] Mf:=
 fA X T (by kernel_rfl) (by kernel_rfl) (λg i d e f=>by rcases e with _|⟨v0,_|⟨v1,_|⟨_,_⟩⟩⟩<;>first|(exfalso;simp at f;done)|kernel_rfl)
theorem Ds (X:(KK w).In h)(T:Top vw vL mean mg mb h):sO w h mg mb 150 "_law_hangs" [("master":Str),("way":Str),("seed":Str),("notes":Str)] n0:=
 fA X T (by kernel_rfl) (by kernel_rfl) (λg i d e f=>by rcases e with _|⟨v0,_|⟨v1,_|⟨v2,_|⟨v3,_|⟨_,_⟩⟩⟩⟩⟩<;>first|(exfalso;simp at f;done)|kernel_rfl)
theorem Jz (X:(KK w).In h)(T:Top vw vL mean mg mb h):sO w h mg mb 165 "_law_run" [("sums":Str),("steps":Str),("marked":Str),("hangs":Str),("names":Str),("notes":Str)] n1:=
 fA X T (by kernel_rfl) (by kernel_rfl) (λg i d e f=>by rcases e with _|⟨v0,_|⟨v1,_|⟨v2,_|⟨v3,_|⟨v4,_|⟨v5,_|⟨_,_⟩⟩⟩⟩⟩⟩⟩<;>first|(exfalso;simp at f;done)|kernel_rfl)
theorem uP (X:(KK w).In h):sO w h mg mb 81 "longest_run_of_spaces" [("self":Str)] b8:=
 qo X (by kernel_rfl) (λd e=>by rcases d with _|⟨v0,_|⟨_,_⟩⟩<;>first|(exfalso;simp at e;done)|kernel_rfl)
theorem y8 (X:(KK w).In h):sO w h mg mb 88 "indent_level" [("self":Str),("tabsize":Str)] b9:=
 qo X (by kernel_rfl) (λd e=>by rcases d with _|⟨v0,_|⟨v1,_|⟨_,_⟩⟩⟩<;>first|(exfalso;simp at e;done)|kernel_rfl)
theorem GZ (X:(KK w).In h):sO w h mg mb 109 "less" [("self":Str),("other":Str)] Me:=
 qo X (by kernel_rfl) (λd e=>by rcases d with _|⟨v0,_|⟨v1,_|⟨_,_⟩⟩⟩<;>first|(exfalso;simp at e;done)|kernel_rfl)
theorem G2 (X:(KK w).In h):sO w h mg mb 74 "__init__" [("self":Str),("ws":Str)] vM:=
 qo X (by kernel_rfl) (λd e=>by rcases d with _|⟨v0,_|⟨v1,_|⟨_,_⟩⟩⟩<;>first|(exfalso;simp at e;done)|kernel_rfl)
end
end
section
set_option maxRecDepth 100000
set_option maxHeartbeats 4000000
section
variable {w:World}{h:Heap}{mg mb:Str->Option Value}{mean:ExcName->Option Value}
theorem y9 (X:(KK w).In h):h.MapOf (intKind sN.row.prog w) 22 (λk=>findBy Value.isInt #[⟨1,.int 1 196,.str "OPTIMIZED" 197⟩,⟨2,.int 2 198,.str "NEWLOCALS" 199⟩,⟨4,.int 4 200,.str "VARARGS" 201⟩,⟨8,.int 8 202,.str "VARKEYWORDS" 203⟩,⟨16,.int 16 204,.str "NESTED" 205⟩,⟨32,.int 32 206,.str "GENERATOR" 207⟩,⟨64,.int 64 208,.str "NOFREE" 209⟩,⟨128,.int 128 210,.str "COROUTINE" 211⟩,⟨256,.int 256 212,.str "ITERABLE_COROUTINE" 213⟩,⟨512,.int 512 214,.str "ASYNC_GENERATOR" 215⟩] k):=by
 refine⟨_,_,_,X 22 _ rfl,⟨rfl,rfl,rfl⟩,rfl,?_,λk=>rfl⟩
 intro e a
 simp only[List.mem_toArray,Np,Nl,or_false] at a
 rcases a with rfl|rfl|rfl|rfl|rfl|rfl|rfl|rfl|rfl|rfl
 .exact⟨1,rfl,(by decide+kernel:(1:Int)=hashInt 1)⟩
 .exact⟨2,rfl,(by decide+kernel:(2:Int)=hashInt 2)⟩
 .exact⟨4,rfl,(by decide+kernel:(4:Int)=hashInt 4)⟩
 .exact⟨8,rfl,(by decide+kernel:(8:Int)=hashInt 8)⟩
 .exact⟨16,rfl,(by decide+kernel:(16:Int)=hashInt 16)⟩
 .exact⟨32,rfl,(by decide+kernel:(32:Int)=hashInt 32)⟩
 .exact⟨64,rfl,(by decide+kernel:(64:Int)=hashInt 64)⟩
 .exact⟨128,rfl,(by decide+kernel:(128:Int)=hashInt 128)⟩
 .exact⟨256,rfl,(by decide+kernel:(256:Int)=hashInt 256)⟩
 .exact⟨512,rfl,(by decide+kernel:(512:Int)=hashInt 512)⟩
theorem MD (X:(KK w).In h)(T:Top vw vL mean mg mb h):gX (Wo w h mg mb) where
 g:=T.g
 b:=T.b
 bi:=by
  intro q hq
  simp only[fF,Np,Nl,or_false] at hq
  rcases hq with rfl|rfl|rfl|rfl|rfl|rfl|rfl|rfl|rfl|rfl|rfl|rfl|rfl|rfl|rfl|rfl<;>
   exact⟨mg_none_of X T.g (by kernel_rfl),(T.builtins _ (by decide)).trans (by kernel_rfl)⟩
 JK:=X
 keep:=by
  intro f fv hf
  have hf:Mq f=some fv:=hf
  refine af (OC.mp hf) λa ha e=>?_
  have ha:=Nw ha
  subst e
  simp only[Np,Nl,or_false] at ha
  rcases ha with rfl|rfl|rfl|rfl|rfl|rfl|rfl|rfl|rfl|rfl|rfl|rfl|rfl|rfl|rfl
  .exact bS X T "_law_flag" (by kernel_rfl) (by kernel_rfl)
  .exact bS X T "add_callers" (by kernel_rfl) (by kernel_rfl)
  .exact bS X T "count_calls" (by kernel_rfl) (by kernel_rfl)
  .exact bS X T "add_func_stats" (by kernel_rfl) (by kernel_rfl)
  .exact bS X T "pretty_flags" (by kernel_rfl) (by kernel_rfl)
  .exact bS X T "_law_reached" (by kernel_rfl) (by kernel_rfl)
  .exact bS X T "_law_tables" (by kernel_rfl) (by kernel_rfl)
  .exact ng X (by kernel_rfl)
  .exact ng X (by kernel_rfl)
  .exact ng X (by kernel_rfl)
  .exact ng X (by kernel_rfl)
  .exact bS X T "_law_marked" (by kernel_rfl) (by kernel_rfl)
  .exact bS X T "_law_least" (by kernel_rfl) (by kernel_rfl)
  .exact bS X T "_law_read" (by kernel_rfl) (by kernel_rfl)
  .exact ng X (by kernel_rfl)
 J3:=by
  refine λx k hx=>(show∀p∈tc, ∃fv,(Wo w h mg mb).mg p.1=some fv/\(Wo w h mg mb).fn p.2=some fv from ?_) (x,k) (NC hx)
  iterate 11 (refine OA.mpr ⟨⟨_,mg_of X T.g (by kernel_rfl),rfl⟩,?_⟩)
  exact λ_ h=>absurd h Nl
 dY:=by
  refine λx k hx=>(show∀p∈meths, ∃f,(Wo w h mg mb).fn p.2=some (.ref f)/\findIn (Wo w h mg mb).K (.ref (Wo w h mg mb).cls) p.1=some (some (.ref f))/\isFn (Wo w h mg mb).K (.ref f)=true/\plainGet (Wo w h mg mb).K (Wo w h mg mb).cls p.1=true from ?_) (x,k) (NC hx)
  iterate 3 (refine OA.mpr ⟨⟨_,rfl,by kernel_rfl,by kernel_rfl,by kernel_rfl⟩,?_⟩)
  exact λ_ h=>absurd h Nl
 dict:=by kernel_rfl
 J4:=mg_of X T.g (by kernel_rfl)
 J5:=by
  intro q hq
  simp only[Np,Nl,or_false] at hq
  rcases hq with rfl|rfl
  .exact⟨.type "type",301,by kernel_rfl,by kernel_rfl⟩
  .exact⟨.type "type",302,by kernel_rfl,by kernel_rfl⟩
 at_:=by
  iterate 5 (refine OA.mpr ⟨⟨by kernel_rfl,none,by kernel_rfl,by kernel_rfl⟩,?_⟩)
  exact λ_ h=>absurd h Nl
 flags:=by
  refine⟨22,_,mg_of X T.g (by kernel_rfl),by decide,y9 X,λk=>?_⟩
  by_cases h1:k=1; ·subst h1;exact⟨197,rfl⟩
  by_cases h2:k=2; ·subst h2;exact⟨199,rfl⟩
  by_cases h3:k=4; ·subst h3;exact⟨201,rfl⟩
  by_cases h4:k=8; ·subst h4;exact⟨203,rfl⟩
  by_cases h5:k=16; ·subst h5;exact⟨205,rfl⟩
  by_cases h6:k=32; ·subst h6;exact⟨207,rfl⟩
  by_cases h7:k=64; ·subst h7;exact⟨209,rfl⟩
  by_cases h8:k=128; ·subst h8;exact⟨211,rfl⟩
  by_cases h9:k=256; ·subst h9;exact⟨213,rfl⟩
  by_cases h10:k=512; ·subst h10;exact⟨215,rfl⟩
  have e1:dE.lookup k=none:=by simp only[dE,List.lookup,OR h1,OR h2,OR h3,OR h4,OR h5,OR h6,OR h7,OR h8,OR h9,OR h10]
  rw[e1]
  simp[findBy,Value.isInt,Ox h1,Ox h2,Ox h3,Ox h4,Ox h5,Ox h6,Ox h7,Ox h8,Ox h9,Ox h10]
theorem Ms (X:(KK w).In h)(T:Top vw vL mean mg mb h):pO (Wo w h mg mb) where
 w:=MD X T
 sets:=⟨by kernel_rfl,by kernel_rfl⟩
 Hv:=by
  iterate 5 (refine OA.mpr ⟨by kernel_rfl,?_⟩)
  exact λ_ h=>absurd h Nl
 make:=by kernel_rfl
 init:=⟨74,by kernel_rfl,by kernel_rfl,rfl⟩
 Kx:=rfl
 fill:=by
  refine λx k hx=>(show∀p∈fills, ∃fv,(Wo w h mg mb).mg p.1=some fv/\(Wo w h mg mb).nn p.2=some fv from ?_) (x,k) (NC hx)
  iterate 2 (refine OA.mpr ⟨⟨_,mg_of X T.g (by kernel_rfl),rfl⟩,?_⟩)
  exact λ_ h=>absurd h Nl
 Hx:=by
  intro f fv hf
  have hf:Mr f=some fv:=hf
  refine af (OC.mp hf) λa ha e=>?_
  have ha:=Nw ha
  subst e
  simp only[Np,Nl,or_false] at ha
  rcases ha with rfl|rfl
  .exact bS X T "_law_hangs" (by kernel_rfl) (by kernel_rfl)
  .exact bS X T "_law_run" (by kernel_rfl) (by kernel_rfl)
 lim:=T.nolimit
 KJ:=by
  iterate 4 (refine OA.mpr ⟨⟨mg_none_of X T.g (by kernel_rfl),(T.builtins _ (by decide)).trans (by kernel_rfl)⟩,?_⟩)
  exact λ_ h=>absurd h Nl
noncomputable def bodyOf (n:Str):List Stmt:=((defAt n).map (·.body)).getD []
noncomputable def nP (n:Str)(i:Nat):Stmt:=(bodyOf n)[i]?.getD (.Pass ⟨0,0,0,0⟩)
noncomputable def eN:Expr:=.Name "" ⟨0,0,0,0⟩
noncomputable def Lx:Stmt->Expr
 | .Assign _ e _=>e
 |_=>eN
noncomputable def Ly:Expr->Expr
 | .Call _ (e::_) _ _=>e
 |_=>eN
noncomputable def Lz:Expr->List Expr
 | .Call _ a _ _=>a
 |_=>[]
noncomputable def MT:Stmt->Expr
 | .While e _ _ _=>e
 |_=>eN
noncomputable def MU:Stmt->List Stmt
 | .While _ b _ _=>b
 |_=>[]
noncomputable def Mt:Stmt->Expr
 | .For _ e _ _ _=>e
 |_=>eN
theorem G3 {n:Str}{d:DefRec}(a:defAt n=some d):bodyOf n=d.body:=by unfold bodyOf;rw[a];rfl
noncomputable abbrev pw (k:Nat):Stmt:=(MU (nP "_parse_varint" 2))[k]?.getD (.Pass ⟨0,0,0,0⟩)
theorem uQ:bodyOf "_parse_varint"=[.Assign [.Name "b" ⟨19,4,19,5⟩] (.Call (.Name "next" ⟨19,8,19,12⟩) [.Name "iterator" ⟨19,13,19,21⟩] [] ⟨19,8,19,22⟩) ⟨19,4,19,22⟩,nP "_parse_varint" 1,
  .While (MT (nP "_parse_varint" 2)) [pw 0,.Assign [.Name "b" ⟨23,8,23,9⟩] (.Call (.Name "next" ⟨23,12,23,16⟩) [.Name "iterator" ⟨23,17,23,25⟩] [] ⟨23,12,23,26⟩) ⟨23,8,23,26⟩,pw 2] [] ⟨21,4,24,21⟩,nP "_parse_varint" 3]:=by kernel_rfl
noncomputable abbrev MV:Expr:=Lx (nP "_law_read" 2)
theorem za:bodyOf "_law_read"=[nP "_law_read" 0,nP "_law_read" 1,.Assign [.Name "reader" ⟨112,4,112,10⟩] (.Call (.Name "iter" ⟨112,13,112,17⟩) [.Call (.Name "bytes" ⟨112,18,112,23⟩) [Ly (Ly MV)] [] ⟨112,18,112,47⟩] [] ⟨112,13,112,48⟩) ⟨112,4,112,48⟩,
  .For (.Name "turn" ⟨113,8,113,12⟩) (Mt (nP "_law_read" 3)) [.Try [.Expr (.Call (.Attribute (.Name "numbers" ⟨115,12,115,19⟩) "append" ⟨115,12,115,26⟩) [.Call (.Name "_parse_varint" ⟨115,27,115,40⟩) [.Name "reader" ⟨115,41,115,47⟩] [] ⟨115,27,115,48⟩] [] ⟨115,12,115,49⟩) ⟨115,12,115,49⟩]
   [.ExceptHandler (some (.Name "StopIteration" ⟨116,15,116,28⟩)) none [.Return (some (.Name "numbers" ⟨117,19,117,26⟩)) ⟨117,12,117,26⟩] ⟨116,8,117,26⟩] [] [] ⟨114,8,117,26⟩] [] ⟨113,4,117,26⟩,nP "_law_read" 4]:=by kernel_rfl
noncomputable abbrev wH:List Expr:=Lz (Lx (nP "law" 4))
theorem Dt:bodyOf "law"=(bodyOf "law").take 4++ .Assign [.Name "numbers" ⟨189,4,189,11⟩] (.Call (.Name "_law_read" ⟨189,14,189,23⟩) wH [] ⟨189,14,189,46⟩) ⟨189,4,189,46⟩::(bodyOf "law").drop 5:=by kernel_rfl
noncomputable abbrev nh (n:Str):Scope:=((defAt n).map (·.scope)).getD ⟨.function,[],false,false,[]⟩
theorem LA {n:Str}{d:DefRec}(a:defAt n=some d):nh n=d.scope:=by unfold nh;rw[a];rfl
theorem uR {n:Str}{params:List Str}(X:(KK w).In h)(T:Top vw vL mean mg mb h)(hn:nsIn (KK w) mainGlobals n=some (some (.ref a)))(i:(defAt n).map (λd=>JQ (i5 n) params d.scope)=some true)(j:∀(f g b:Value) (vs:List Value),vs.length=params.length->(defAt n).map (λd=>bindArgs (Calls.docDef d.name d.params d.body d.scope f g b) ⟨vs,[]⟩)=some (pure (params.zip vs))):eF (Wo w h mg mb) a (i5 n) params (bodyOf n) (nh n):=by
 refine af (OC.mp i) λd c e=>?_
 rw[G3 c,LA c]
 refine Dn T (mg_of X T.g hn) c e λf g b vs k=>?_
 have e:=j f g b vs k
 rw[c] at e
 injection e
theorem Du (X:(KK w).In h)(T:Top vw vL mean mg mb h):eF (Wo w h mg mb) 36 (i5 "_parse_varint") [("iterator":Str)] (bodyOf "_parse_varint") (nh "_parse_varint"):=
 uR X T (by kernel_rfl) (by kernel_rfl) (λd e a b c=>by rcases b with _|⟨v0,_|⟨_,_⟩⟩<;>first|(exfalso;simp at c;done)|kernel_rfl)
theorem Dv:mT (i5 "_parse_varint") (nh "_parse_varint") (bodyOf "_parse_varint"):=
 ⟨⟨_,_,_,_,_,_,_,_,_,_,_,_,_,_,_,_,uQ,by kernel_rfl,by kernel_rfl,by kernel_rfl,by kernel_rfl,by kernel_rfl⟩,by kernel_rfl,by kernel_rfl,by kernel_rfl⟩
theorem G4 (X:(KK w).In h)(T:Top vw vL mean mg mb h):eF (Wo w h mg mb) 128 (i5 "_law_read") [("drawn":Str),("torn":Str)] (bodyOf "_law_read") (nh "_law_read"):=
 uR X T (by kernel_rfl) (by kernel_rfl) (λd e a b c=>by rcases b with _|⟨v0,_|⟨v1,_|⟨_,_⟩⟩⟩<;>first|(exfalso;simp at c;done)|kernel_rfl)
theorem G5:ui (i5 "_law_read") (nh "_law_read") (bodyOf "_law_read") LN LO KP LP:=
 ⟨⟨_,_,_,_,_,_,_,_,_,_,_,_,_,_,za,by kernel_rfl,by kernel_rfl,by kernel_rfl,by kernel_rfl,⟨⟨_,_,_,_,_,_,_,_,_,_,_,_,rfl,by kernel_rfl⟩,by kernel_rfl,by kernel_rfl⟩⟩,by kernel_rfl,by kernel_rfl,by kernel_rfl,by kernel_rfl,by kernel_rfl⟩
theorem G6 (X:(KK w).In h)(T:Top vw vL mean mg mb h):um (Wo w h mg mb) LN LO KP LP:=
 ⟨⟨36,_,_,_,_,Du X T,Dv,rfl,mg_of X T.g (by kernel_rfl),bS X T "_parse_varint" (by kernel_rfl) (by kernel_rfl)⟩,⟨128,_,_,_,_,G4 X T,G5,rfl,mg_of X T.g (by kernel_rfl),bS X T "_law_read" (by kernel_rfl) (by kernel_rfl)⟩⟩
theorem JA (X:(KK w).In h)(T:Top vw vL mean mg mb h):eF (Wo w h mg mb) 170 (i5 "law") [("script":Str)] (bodyOf "law") (nh "law"):=
 uR X T (by kernel_rfl) (by kernel_rfl) (λd e a b c=>by rcases b with _|⟨v0,_|⟨_,_⟩⟩<;>first|(exfalso;simp at c;done)|kernel_rfl)
theorem G7:IQ=eH (i5 "law") (nh "law") ((bodyOf "law").take 4):=by kernel_rfl
theorem Dw:Bx=eH (i5 "law") (nh "law") ((bodyOf "law").drop 5):=by kernel_rfl
theorem Dx:ah ((cm (i5 "law") 40).e (nh "law")) wH=some KQ:=by kernel_rfl
theorem wI {W:Wd}{d:Value}{a:Addr}{k f:Nat}{b b0:List MS}{c:CT}{params:List Str}(g:some (Value.ref a)=some d)(hb:some (f,b0)=some (k,b))(h:∃body sc,eF W a c params body sc/\b0=eH c sc body)(i:params.length=f):∃a c params body sc,d=.ref a/\eF W a c params body sc/\params.length=k/\b=eH c sc body:=
 aW h λbody sc F e=>cu hb ⟨a,c,params,body,sc,(MW g).symm,F,i,e⟩
theorem JB (X:(KK w).In h)(T:Top vw vL mean mg mb h):KG (Wo w h mg mb) HB where
 lim:=T.nolimit
 fn:=by
  intro f fv k b h7 h13 hf hb
  have hf:Mq f=some fv:=hf
  have hb:HB.bd f=some (k,b):=hb
  cases f with
  |zero=>exact wI hf hb (GY (mg:=mg) (mb:=mb) X T) rfl
  |succ f=>
   cases f with
   |zero=>exact wI hf hb (uN (mg:=mg) (mb:=mb) X T) rfl
   |succ f=>
   cases f with
   |zero=>exact wI hf hb (Dp (mg:=mg) (mb:=mb) X T) rfl
   |succ f=>
    cases f with
    |zero=>exact wI hf hb (Dq (mg:=mg) (mb:=mb) X T) rfl
    |succ f=>
    cases f with
    |zero=>exact wI hf hb (y5 (mg:=mg) (mb:=mb) X T) rfl
    |succ f=>
     cases f with
     |zero=>exact wI hf hb (uO (mg:=mg) (mb:=mb) X T) rfl
     |succ f=>
     cases f with
     |zero=>exact wI hf hb (y6 (mg:=mg) (mb:=mb) X T) rfl
     |succ f=>
      cases f with
      |zero=>exact absurd rfl h7
      |succ f=>
      cases f with
      |zero=>exact wI hf hb (uP (mg:=mg) (mb:=mb) X) rfl
      |succ f=>
       cases f with
       |zero=>exact wI hf hb (y8 (mg:=mg) (mb:=mb) X) rfl
       |succ f=>
       cases f with
       |zero=>exact wI hf hb (GZ (mg:=mg) (mb:=mb) X) rfl
       |succ f=>
        cases f with
        |zero=>exact wI hf hb (y7 (mg:=mg) (mb:=mb) X T) rfl
        |succ f=>
        cases f with
        |zero=>exact wI hf hb (Dr (mg:=mg) (mb:=mb) X T) rfl
        |succ f=>
         cases f with
         |zero=>exact absurd rfl h13
         |succ f=>exact ns hb
 nn:=by
  intro f fv k b hf hb
  have hf:Mr f=some fv:=hf
  have hb:HB.nb f=some (k,b):=hb
  cases f with
  |zero=>exact wI hf hb (Ds (mg:=mg) (mb:=mb) X T) rfl
  |succ f=>cases f with
   |zero=>exact wI hf hb (Jz (mg:=mg) (mb:=mb) X T) rfl
   |succ f=>exact ns hb
 init:=by
  refine aW (G2 (mg:=mg) (mb:=mb) X) λbody sc F e=>?_
  exact⟨74,_,_,body,sc,rfl,F,rfl,e⟩
 rd:=by
  intro U N l fv _ _ _ A s Mu ds vs d _ _ _ _ _ h
  cases h
 sc:=λU l n ih=>Bn (MD X T) ih
end
end
section
set_option maxRecDepth 100000
set_option maxHeartbeats 8000000
noncomputable def UU:UT:=(ox HB 8).1
noncomputable def NN:NT:=(ox HB 8).2
def qp:Prop:= ∀l:List Int,l.length<=63-> ∃Z1 a nums b,ay (ex UU NN 12) IQ (λi=>([D.list (l.map .int)][i]?).map .val)=some (.next,Z1)/\KQ.mapM ((ev UU 40).m Z1)=some a/\a.length=2/\rX UU NN LN LO KP LP a nums/\
 ay (ex UU NN 12) Bx (Z1.set 10 (.val (.list (nums.map .int))))=some (.ret (.bool true),b)
theorem Dy {W:Wd}{h:Heap}{is:List Int}(g:∃n,h.get? a=some (aR vs n))(b:IntsAre vs is):Rep W (λ_=>False) h (.list (is.map .int)) (.ref a):=by
 exact ak g λn g=>.bI id g (eW b)
theorem sP:Good callerA 11:=⟨rfl,by decide+kernel,by decide+kernel⟩
theorem G8 {w:World}{b:Shared}{mg mb:Str->Option Value}{c:ExcName->Option Value}{l:List Int}(H:qp)(X:(KK w).In b.heap)(T:Top vw vL c mg mb b.heap)(hg:b.gens=#[])(j:l.length<=63)(g:∃n,b.heap.get? a=some (aR vs n))(m:IntsAre vs l){cl:Str->Option Addr}{o:ExcName->Option Value}:
  codeAny (model sN.row.prog w) callerA (.call (.ref 170) ⟨[.ref a],[]⟩) (GoodWG sN.row.claim cl o [ofPy (PyData.list (l.map PyData.int))] b) b:=by
 have d:=Ms (mb:=mb) X T
 have f:=JB (mb:=mb) X T
 refine au (IH d.tonF f 8) λu p=>?_
 have S:=vp d.w u (λn=>f.sc _ 8 n)
 have F:=JA (mb:=mb) X T
 refine DK (H l j) λZ1 A nums q h s t v i=>?_
 rw[G7] at h
 rw[Dw] at i
 rw[Dt] at F
 refine law_code (W:=Wo w b.heap mg mb) d p S (G6 X T) F rfl sP rfl (λ_ _ e=>e) (Dy g m) (by kernel_rfl) (by kernel_rfl) Dx h s t v i λr B k x=>?_
 refine aW k λC D y kp=>fU (show r=.bool true from x) (fU y ?_)
 refine GoodW.toG ⟨.inl ⟨_,_,[],rfl,λ_=>rfl,ReadsW.bool true,?_,λ_=>⟨N6,λ_ z=>(nomatch z)⟩⟩,kp,rfl,hg⟩
 kernel_rfl
theorem G9 {b:Array Value}{n m:Nat}(h:Data.seq a n=Data.seq b m):a=b:=(Data.seq.inj h).1
theorem zb {P:Params}{vs:List Value}{l:List Int}(w:Well P h (.ref a) (ofPy (PyData.list (l.map PyData.int))))(g:h.IsList a vs.toArray):∃n,h.get? a=some (aR vs n):=by
 have w:Well P h (.ref a) (.list (ofPys (l.map PyData.int))):=w
 cases w with
 |list e _=>
  exact bf g λo b _ q=>ak q λn c=>⟨0,e.trans (MY (λd=>some ({cls:=.type "list",data:=d}:Obj)) (MY (λx:Array Value=>Data.seq x 0) (G9 ((MY Obj.data (MW (e.symm.trans b))).trans c))))⟩
theorem holds_of (H:qp):sN.Holds:=Mp ⟨[.list []],by decide+kernel,by decide+kernel⟩ (by
 intro w b d mg mb G Y k o L M x N O y z m A h hg args vals as i j n p s
 have u:=kIn_of Y
 refine Ground.open G ?_
 intro T B D TE TW
 clear G Y B D TE TW z m A
 have t:k=170:=by
  have e:mg _=some (.ref k):=h
  have C:mg "law"=some (.ref 170):=mg_of u T.g (by kernel_rfl)
  have c:mg "law"=some (.ref k):=e
  rw[C] at c
  injection c with c
  injection c with c
  exact c.symm
 subst t
 clear h y
 wrow_args i j n p s
 rename_i l _ _ _ _ _ _ _ a P _ E _ F _ I _ J _
 have K:l.length<=63:=by
  exact NU λq=>(show¬((63:Int)<(l.length:Int)) from J) (N5.mpr q)
 refine wpAny_call (codeAny_mono (R:=GoodWG sN.row.claim (classAt b.heap) (ExcName.means b.heap) [ofPy (PyData.list (l.map PyData.int))] d) (G8 H u T hg K (zb F E) I) λr Q g=>?_)
 rcases r with e|f
 .exact g
 .cases f with
  |ret v=>exact g
  |_=>refine au g λg S=>?_;rcases g with ⟨_,_,_,e,_⟩|⟨_,_,_,e,_⟩<;>cases e)
end
end av
namespace av.Q
open PySem av
theorem Dz (U:UT)(N:NT):((List.range 32).all λp=>isStr (dJ p) (rF U N b0 [.int (p:Int)]))=true:=by kernel_rfl
section
variable (l:Nat)
noncomputable abbrev UL:UT:=(ox HB l).1
noncomputable abbrev NL:NT:=(ox HB l).2
theorem JC {p:Nat}(h:p<32):UL (l+1) 0 [.int (p:Int)]=some (.str (dJ p)):=
 BC (Nx.mp (Dz (UL l) (NL l)) p (Ng.mpr h))
theorem HR (L:List (Str×Int))(s:Str)(a:(L.map (·.1)).Nodup)(b:L.length<1000):UL (l+1) 1 [gP L,gP [(s,1)]]=some (gP (bump s 1 L)):=sg (U:=UL l) (N:=NL l) a b
theorem LB (L:List (Str×Int)):UL (l+1) 2 [gP L]=some (.int (L.map (·.2)).sum):=sh (U:=UL l) (N:=NL l)
theorem LC:LR (UL (l+2)):=λ_ _ _ _ _ _ _ _ L s a b=>yr (U:=UL (l+1)) (N:=NL (l+1)) (HR l L s a b)
theorem DA:jW (UL (l+1)):=λ_ _ a b=>pretty (U:=UL l) (N:=NL l) a b
theorem JD (s:List Bool)(h:s.length<60):UL (l+1) 7 [.str (cj s++iE)]=some (cg (cj s++iE) (a9 s)):=pJ (U:=UL l) (N:=NL l) h
theorem JE (s:Str)(w:List Bool)(h:w.length<60):UL (l+1) 8 [cg s (a9 w)]=some (.int ((a9 w).uA:Nat)):=longest (U:=UL l) (N:=NL l) (m4 w) (by exact av.lu h rfl)
theorem LD (s:Str)(w:List Bool)(t:Nat)(h:w.length<60)(a:0<t)(b:t<100):UL (l+1) 9 [cg s (a9 w),.int (t:Int)]=some (.int ((a9 w).ind t:Nat)):=indent (U:=UL l) (N:=NL l) (m4 w) h a b
theorem JF (s s':Str)(w a:List Bool)(h:w.length<60)(b:a.length<60):UL (l+2) 10 [cg s (a9 w),cg s' (a9 a)]=some (.bool ((a9 w).less (a9 a))):=F8 (U:=UL (l+1)) (N:=NL (l+1)) (LD l) (JE l) h b
theorem JG (d e g:D):UL (l+1) 5 [d,e,g]=rF (UL l) (NL l) b5 [d,e,g]:=rfl
theorem HS {S:List (List Nat)}{T:List Nat}{a:Nat}(g:Gr S)(b:a<6):∃r,UL (l+1) 5 [.list (S.map nl),.int (a:Int),nl T]=some (nl r)/\r.Nodup/\ ∀x,x∈r↔fV S T a x:=by
 refine af (Fh (U:=UL l) (N:=NL l) (T:=T) g b) λr c d=>?_
 exact⟨r,(JG l _ _ _).trans c,d⟩
theorem LG {S:List (List Nat)}(g:Gr S):∃G,DG S (UL (l+1)) G:=by
 have:=λ(T:List Nat) (a:Nat) (h:a<6)=>HS l (T:=T) g h
 refine⟨λT a=>if h:a<6 then Classical.choose (this T a h) else[],λT a h=>?_⟩
 dsimp only
 rw[dif_pos h]
 have:=Classical.choose_spec (this T a h)
 exact⟨this.1,this.2.2⟩
theorem LH:MB (UL (l+4)) (NL (l+4)) where
 flag:=λp h=>JC (l+3) h
 tab:=λnm R u hnm hR h0 h1=>tables (U:=UL (l+3)) (N:=NL (l+3)) (HR (l+2)) hnm hR h0 h1
 MC:=λS T a g h=>HS (l+3) g h
 hangs:=λS d p i seed xs t hx=>CM (U:=UL (l+3)) (N:=NL (l+3)) t (JD (l+2)) (JF (l+1)) hx
 marked:=λS d p nm A st t hnm hA hAS h1 h2=>marked (U:=UL (l+3)) (N:=NL (l+3)) t hnm hA hAS h1 h2
 least:=λS st M g h0 h1 h2 h3 h4 h5=>by
  refine ak (LG (l+2) g.toGr) λG hG=>?_
  exact least (U:=UL (l+3)) (N:=NL (l+3)) g hG h0 h1 h2 h3 h4 h5
 pretty:=DA (l+3)
 run:=λS d p nm M sums xs t h0 h1 h2 h3 h4=>FY (U:=UL (l+3)) (N:=NL (l+3)) t (LC (l+1)) (LB (l+2)) h0 h1 h2 h3 h4
end
theorem JH {u:Nat}{R:List (Nat×Nat×Nat)}(b:gC R)(c:u<40000000):∀r∈R.map (numOf u), ∀x∈r,x<64^5:=λr hr x hx=>by
 refine af (Nn.mp hr) λq d a=>?_;subst a
 refine au (b.row q d) λg e=>?_
 have hb:∀k,k<=6->u*k<64^5:=λk f=>M5 (Nat.mul_le_mul (ND c) f) (by decide)
 unfold numOf at hx
 simp only[Np,Nl,or_false] at hx
 rcases hx with rfl|rfl|rfl
 .exact hb _ (by lia)
 .exact hb _ (by lia)
 .exact hb _ (by exact ND e)
theorem DB:qp:=λl i=>by
 refine af (Jn (U:=UU) (N:=NN) i) λZ1 j I=>?_
 refine au (lA (l:=l)) λo m=>?_
 have g:gC (dW (br l)):=qk
 refine ak (GS (LH 4) I) λd n=>?_
 have a:∀R:List (Nat×Nat×Nat),.list ((R.map (numOf (cF l))).map nl)=fy (cF l) R:=λR=>by
  unfold fy
  rw[NO];rfl
 have c:=CW (U:=UU) (N:=NN) (rows:=(dW (br l)).map (numOf (cF l))) (k:=gj l/54%3) (by rw[MX];exact g.len) (λr hr=>by
  refine af (Nn.mp hr) λq p f=>?_;subst f
  exact⟨λh=>(nomatch h),NB 3⟩) (JH g m) (N3 _ (by exact Oh _))
 rw[a] at c
 refine⟨Z1,[fy (cF l) (dW (br l)),.int ((gj l/54%3:Nat):Int)],((dW (br l)).map (numOf (cF l))).flatten.map λ(x:Nat)=>(x:Int),d,j,?_,rfl,c,?_⟩
 .exact aa (ao I.v8) (aa (ar (aB rfl (ar (v_var I.v5) (aB rfl rfl) (cR (b:=54) (by exact by decide) (by exact Og _ _)))) (aB rfl rfl) (bX (b:=3) (by exact by decide))) aj)
 .have e:D.list ((((dW (br l)).map (numOf (cF l))).flatten.map λ(x:Nat)=>(x:Int)).map .int)=nl ((dW (br l)).flatMap (numOf (cF l))):=by
   rw[NO, <-List.flatMap_def];rfl
  rw[e]
  exact n
theorem holds_:sN.Holds:=holds_of DB
end av.Q
theorem PySem.Challenge.cw_xc0026_01_holds : PySem.Challenge.rw_xc0026_01.Holds :=
 av.Q.holds_
