import PyProof.Rows.All
import Wide.All
import OpenK.AllK
import Wide.FinOn
import PySem.Challenge.RW_oy0159_02
set_option Elab.async false
set_option maxRecDepth 100000
set_option linter.all false
set_option tactic.hygienic false
set_option maxHeartbeats 1000000
set_option compiler.extract_closed false
namespace _m
open PySem PySem.Calls PyProof.Rows
local macro_rules
|`(tactic|show $t)=>`(tactic|refine $t)
def jMq:=@wpAny_bind
def jMr:=@wpAny_pure
def jMs:=@List.mem_map_of_mem
def jMt:=@if_pos
def jMu:=@List.length_map
def jMv:=@if_neg
def jMw:=@Heap.get?_push_size
def jMx:=@decide_eq_true
def jMy:=@Bool.false_ne_true
def jMz:=@List.lookup_cons
def jM0:=@wpAny_execs_cons
def jM1:=@Heap.lt_size
def jM2:=@Bool.and_eq_true_iff
def jM3:=@Array.length_toList
def jM4:=@Option.isSome_iff_exists
def jM5:=@Nat.le_succ
def jM6:=@List.forall_mem_cons
def jM7:=@Nat.lt_of_le_of_lt
def jM8:=@congrArg
def jM9:=@List.getElem?_eq_getElem
def jNa:=@List.getD_eq_getElem?_getD
def jNb:=@decide_eq_false
def jNc:=@Nat.lt_of_lt_of_le
def jNd:=@List.filterMap_cons
def jNe:=@List.all_eq_true
def jNf:=@spliced_cons
def jNg:=@evalArgs_plain
def jNh:=@wpAny_mono
def jNi:=@Nat.le_refl
def jNj:=@wpAny_execs_nil
def jNk:=@decide_eq_true_eq
def jNl:=@List.append_assoc
def jNm:=@List.length_append
def jNn:=@beq_eq_false_iff_ne
def jNo:=@List.length_cons
def jNp:=@Nat.lt_irrefl
def jNq:=@List.length_filter_le
def jNr:=@List.map_append
def jNs:=@beq_iff_eq
def jNt:=@wpAny_assign_Name
def jNu:=@of_decide_eq_true
def jNv:=@List.map_cons
def jNw:=@List.mem_of_getElem?
def jNx:=@Obj.data_mapFields
def jNy:=@List.zip_cons_cons
def jNz:=@Heap.dictOf_iff
def jN0:=@Bool.eq_iff_iff
def jN1:=@List.nodup_append
def jN2:=@List.getElem?_map
def jN3:=@spliced_nil
def jN4:=@wpAny_call_entry
def jN5:=@Nat.ne_of_lt
def jN6:=@Heap.SameBut.update
def jN7:=@wpAny_field
def jN8:=@Array.getElem?_toList
def jN9:=@Nat.not_lt
def jOa:=@List.pairwise_cons
def jOb:=@Int.natCast_nonneg
def jOc:=@wpAny_callSpecial?_slot
def jOd:=@Nat.eq_of_testBit_eq
def jOe:=@List.length_eq_zero_iff
def jOf:=@Bool.not_eq_true
def jOg:=@Nat.testBit_lt_two_pow
def jOh:=@Nat.testBit_eq_decide_div_mod_eq
def jOi:=@List.take_of_length_le
def jOj:=@List.append_nil
def jOk:=@Array.getElem?_eq_getElem
def jOl:=@Nat.le_of_ble_eq_true
def jOm:=@Heap.get?_update_self
def jOn:=@Nat.le_add_right
def jOo:=@List.mem_filterMap
def jOp:=@List.any_eq_true
def jOq:=@Nat.pow_le_pow_right
def jOr:=@Heap.size_push
def jOs:=@wpAny_truthy_bool
def jOt:=@wpAny_Assign_Name
def jOu:=@callWith_function
def jOv:=@List.Pairwise.nil
def jOw:=@Call_Name
def jOx:=@Nat.not_lt_zero
def jOy:=@List.mergeSort_perm
def jOz:=@List.map_map
def jO0:=@callWith_builtin
def jO1:=@wpAny_setField
def jO2:=@assignInOrder_cons
def jO3:=@List.nodup_nil
def jO4:=@codeAny_call_function
def jO5:=@Obj.isFreed_of_fields
def jO6:=@List.findIdx?_eq_some_iff_getElem
def jO7:=@wpAny_setState_of
def jO8:=@wpAny_newObj_type
def jO9:=@Nat.add_comm
def jPa:=@List.pairwise_map
def jPb:=@wpAny_holding
def jPc:=@List.pairwise_mergeSort
def jPd:=@List.filter_cons_of_pos
def jPe:=@List.filter_cons_of_neg
def jPf:=@Nat.lt_trans
def jPg:=@Nat.lt_of_succ_lt_succ
def jPh:=@Nat.lt_of_lt_of_eq
def jPi:=@List.drop_of_length_le
def jPj:=@Nat.testBit_and
def jPk:=@args_cons
def jPl:=@Nat.lt_succ_of_le
def jPm:=@PyProof.Rows.callWith_type
def jPn:=@Nat.div_lt_of_lt_mul
def jPo:=@List.perm_ext_iff_of_nodup
def jPp:=@F.slot_tuple_iterator_next
def jPq:=@beq_self_eq_true
def jPr:=@Nat.zero_add
def jPs:=@Nat.ne_of_gt
def jPt:=@Nat.le_of_lt
def jPu:=@List.map_fst_zip
def jPv:=@List.getElem_mem
def jPw:=@List.getElem?_eq_some_iff
def jPx:=@List.map_congr_left
def jPy:=@List.mem_cons
def jPz:=@List.Perm.eq_of_pairwise
def jP0:=@Nat.div_add_mod
def jP1:=@wpAny_setField_rec
def jP2:=@not_or
def jP3:=@Nat.mod_lt
def jP4:=@wpAny_seqItems
def jP5:=@wpAny_Return_some
def jP6:=@PySem.F.plainAttrs_str
def jP7:=@List.length_range
def jP8:=@List.Sublist.refl
def jP9:=@Heap.get?_update_other
def jQa:=@Array.getElem?_eq_none
def jQb:=@Around.under_of_weight
def jQc:=@F.slot_enumerate_next
def jQd:=@wpAny_call
def jQe:=@wpAny_askSetting
def jQf:=@wpAny_standAt
def jQg:=@not_not_intro
def jQh:=@Nat.add_assoc
def jQi:=@List.sum_cons
def jQj:=@List.all_cons
def jQk:=@Nat.zero_le
def jQl:=@wpAny_loadPart'
def jQm:=@List.of_mem_zip
def jQn:=@List.forIn_cons
def jQo:=@List.getElem_of_mem
def jQp:=@List.filter_eq_self
def jQq:=@codeAny_func
def jQr:=@Int.lt_trans
def jQs:=@Or.inr
def jQt:=@Or.inl
def jQu:=@Nat.testBit_or
def jQv:=@Nat.mod_two_eq_zero_or_one
def jQw:=@Nat.lt_of_le_of_ne
def jQx:=@List.getElem?_append_right
def jQy:=@List.Perm.refl
def jQz:=@Int.add_mul_emod_self_left
def jQ0:=@List.pairwise_iff_getElem
def jQ1:=@List.drop_eq_getElem_cons
def jQ2:=@wpAny_of_eq
def jQ3:=@Obj.cls_mapFields
def jQ4:=@List.size_toArray
def jQ5:=@eval_Constant
def jQ6:=@wpAny_list_append_plain
def jQ7:=@decide_eq_false_iff_not
def jQ8:=@args_nil
def jQ9:=@Nat.testBit_mod_two_pow
def jRa:=@Nat.testBit_div_two_pow
def jRb:=@Nat.succ_le_succ
def jRc:=@Nat.lt_succ_self
def jRd:=@List.pairwise_singleton
def jRe:=@List.not_mem_nil
def jRf:=@List.nodup_range
def jRg:=@F.plain_set_update_loop
def jRh:=@wpAny_mkText
def jRi:=@wpAny_List
def jRj:=@strKind_is
def jRk:=@Nat.succ_pos
def jRl:=@Nat.pow_succ
def jRm:=@Nat.not_le
def jRn:=@List.find?_cons_of_neg
def jRo:=@List.filter_eq_nil_iff
def jRp:=@Int.le_trans
def jRq:=@codeAny_builtin
def jRr:=@List.zip_append
def jRs:=@List.range_succ
def jRt:=@wpAny_isTrue_Compare1
def jRu:=@wpAny_BinOp
def jRv:=@tail_any
def jRw:=@Nat.pow_lt_pow_right
def jRx:=@Nat.add_le_add_right
def jRy:=@List.drop_eq_nil_iff
def jRz:=@Array.getElem_toList
def jR0:=@Around.under_plainId
def jR1:=@Around.frames_deeper
def jR2:=@wpAny_setEntries_of
def jR3:=@codeAny_forLoop_any
def jR4:=@Nat.add_sub_cancel'
def jR5:=@List.getElem?_range
def jR6:=@wpAny_attempt
def jR7:=@List.any_cons
def jR8:=@Int.mul_assoc
def jR9:=@wpAny_rule
def jSa:=@wpAny_pyIter_tuple
def jSb:=@wpAny_assign_Tuple
def jSc:=@typeIs_str
def jSd:=@List.lookup_append
def jSe:=@wpAny_pyIter_list
def jSf:=@assignInOrder_nil
def jSg:=@Nat.lt_succ_of_lt
def jSh:=@Nat.lt_or_ge
def jSi:=@Nat.le_of_lt_succ
def jSj:=@Nat.and_comm
def jSk:=@List.flatMap_cons
def jSl:=@List.filter_congr
def jSm:=@Int.emod_eq_of_lt
def jSn:=@Heap.SameBut.refl
def jSo:=@Bool.not_eq_false
def jSp:=@Array.toList_push
theorem kO{p:Prop}(h:p:=by omega):p:=h
theorem kD{p:Prop}(h:p:=by decide):p:=h
theorem nL{n:Nat}:n<=n:=Nat.le_refl n
theorem kR{p:Prop}(h:p:=by kernel_rfl):p:=h
def jX:= @Option.some.inj
def ju:= @List.mem_append_right
def zbs:= @Option.bind_eq_some_iff
def jy:= @List.mem_cons_self
def qV:= @List.mem_cons_of_mem
def xP:= @List.mem_append_left
def vK:= @Heap.get?_push_of_some
def x8:= @Nat.le_trans
def jw:= @List.mem_singleton
def j0:= @List.mem_cons
def jj:= @List.mem_append
def jo:= @List.mem_map
def qX:= @List.mem_filter
def xw:= @List.nodup_cons
def yU:= @List.mem_range
open PySem.Const renaming casesOn->cC
open PySem.Expr renaming casesOn->cE
open PySem.Operator renaming casesOn->cP
open PySem.Stmt renaming casesOn->cS
open PySem.UnaryOp renaming casesOn->cU
open _root_.Option renaming casesOn->cO
open _root_.List renaming casesOn->cL
open _root_.Nat renaming casesOn->cN
open PySem.CmpOp renaming casesOn->cCO
open _root_.Bool renaming casesOn->cT
open PySem.BoolOp renaming casesOn->cBO
open PySem.Value renaming casesOn->cV
open PySem.Data renaming casesOn->cDa
open _root_.Int renaming casesOn->cI
theorem nn{α:Type}{x:α}{P:Prop}(h:(none:Option α)=some x):P:=nomatch h
theorem ff{P:Prop}(h:false=true):P:=nomatch h
theorem zn{α:Type}{x:α}{P:Prop}(h:(none:Option α)=some x):P:=nomatch h
theorem m1{α:Type}{P:α->Prop}{a:α}(h:P a):∀b∈[a],P b:=fun b hb=>by rw[jw.mp hb];exact h
theorem ft{P:Prop}(h:true=false):P:=nomatch h
theorem zf{P:Prop}(h:false=true):P:=nomatch h
theorem yS{α:Type}{a:α}{l:List α}:a∈a::l:= .head _
theorem uR{α:Type}{a x0:α}{l:List α}:a∈x0::a::l:= .tail _ (.head _)
theorem b8{α:Type}{a x0 x1:α}{l:List α}:a∈x0::x1::a::l:= .tail _ (.tail _ (.head _))
theorem aS{α:Type}{a x0 x1 x2:α}{l:List α}:a∈x0::x1::x2::a::l:= .tail _ (.tail _ (.tail _ (.head _)))
theorem zm4{α:Type}{a x0 x1 x2 x3:α}{l:List α}:a∈x0::x1::x2::x3::a::l:= .tail _ (.tail _ (.tail _ (.tail _ (.head _))))
theorem l8{α:Type}{a x0 x1 x2 x3 x4:α}{l:List α}:a∈x0::x1::x2::x3::x4::a::l:= .tail _ (.tail _ (.tail _ (.tail _ (.tail _ (.head _)))))
theorem zm6{α:Type}{a x0 x1 x2 x3 x4 x5:α}{l:List α}:a∈x0::x1::x2::x3::x4::x5::a::l:= .tail _ (.tail _ (.tail _ (.tail _ (.tail _ (.tail _ (.head _))))))
theorem zm7{α:Type}{a x0 x1 x2 x3 x4 x5 x6:α}{l:List α}:a∈x0::x1::x2::x3::x4::x5::x6::a::l:= .tail _ (.tail _ (.tail _ (.tail _ (.tail _ (.tail _ (.tail _ (.head _)))))))
theorem yT{c:Prop}[Decidable c]{α:Type}{x y:Option α}{d:α}{P:Prop}(a:c->x=some d->P)(b:¬c->y=some d->P)(h:(if c then x else y)=some d):P:=by
 by_cases e:c
 .rw[jMt e] at h;exact a e h
 .rw[jMv e] at h;exact b e h
theorem vS{c:Prop}[Decidable c]{α:Type}{x:Option α}{d:α}{P:Prop}(a:c->x=some d->P)(h:(if c then x else none)=some d):P:=yT a (fun _=>nn) h
theorem tg{c:Prop}[Decidable c]{α:Type}{x:Option α}{d:α}{P:Prop}(a:¬c->x=some d->P)(h:(if c then none else x)=some d):P:=yT (fun _=>nn) a h
theorem bE{α β:Type}{o:Option α}{f:α->Option β}{b:β}{q:Prop}(h:o.bind f=some b)(k:∀a,o=some a->f a=some b->q):q:=(zbs.mp h).elim fun a h=>k a h.1 h.2
theorem mE{α β:Type}{o:Option α}{f:α->β}{b:β}{q:Prop}(h:o.map f=some b)(k:∀a,o=some a->f a=b->q):q:=(Option.map_eq_some_iff.mp h).elim fun a h=>k a h.1 h.2
theorem lE{α β:Type}{l:List α}{f:α->β}{b:β}{q:Prop}(h:b∈l.map f)(k:∀a,a∈l->f a=b->q):q:=(jo.mp h).elim fun a h=>k a h.1 h.2
theorem e0_1{A1:Prop}{q:Prop}(h:A1)(k:A1->q):q:=k h
theorem e0_2{A1 A2:Prop}{q:Prop}(h:A1/\A2)(k:A1->A2->q):q:=k h.1 h.2
theorem uX{A1 A2 A3:Prop}{q:Prop}(h:A1/\A2/\A3)(k:A1->A2->A3->q):q:=k h.1 h.2.1 h.2.2
theorem uF{A1 A2 A3 A4:Prop}{q:Prop}(h:A1/\A2/\A3/\A4)(k:A1->A2->A3->A4->q):q:=k h.1 h.2.1 h.2.2.1 h.2.2.2
theorem rI{A1 A2 A3 A4 A5:Prop}{q:Prop}(h:A1/\A2/\A3/\A4/\A5)(k:A1->A2->A3->A4->A5->q):q:=k h.1 h.2.1 h.2.2.1 h.2.2.2.1 h.2.2.2.2
theorem bC{A1 A2 A3 A4 A5 A6:Prop}{q:Prop}(h:A1/\A2/\A3/\A4/\A5/\A6)(k:A1->A2->A3->A4->A5->A6->q):q:=k h.1 h.2.1 h.2.2.1 h.2.2.2.1 h.2.2.2.2.1 h.2.2.2.2.2
theorem e1_1{α1:Type}{A1:α1->Prop}{q:Prop}(h:∃x1,A1 x1)(k:∀x1,A1 x1->q):q:=h.elim fun x h=>e0_1 h (k x)
theorem jE{α1:Type}{A1 A2:α1->Prop}{q:Prop}(h:∃x1,A1 x1/\A2 x1)(k:∀x1,A1 x1->A2 x1->q):q:=h.elim fun x h=>e0_2 h (k x)
theorem qk{α1:Type}{A1 A2 A3:α1->Prop}{q:Prop}(h:∃x1,A1 x1/\A2 x1/\A3 x1)(k:∀x1,A1 x1->A2 x1->A3 x1->q):q:=h.elim fun x h=>uX h (k x)
theorem e1_4{α1:Type}{A1 A2 A3 A4:α1->Prop}{q:Prop}(h:∃x1,A1 x1/\A2 x1/\A3 x1/\A4 x1)(k:∀x1,A1 x1->A2 x1->A3 x1->A4 x1->q):q:=h.elim fun x h=>uF h (k x)
theorem e1_5{α1:Type}{A1 A2 A3 A4 A5:α1->Prop}{q:Prop}(h:∃x1,A1 x1/\A2 x1/\A3 x1/\A4 x1/\A5 x1)(k:∀x1,A1 x1->A2 x1->A3 x1->A4 x1->A5 x1->q):q:=h.elim fun x h=>rI h (k x)
theorem oP{α1 α2:Type}{A1:α1->α2->Prop}{q:Prop}(h:∃x1 x2,A1 x1 x2)(k:∀x1 x2,A1 x1 x2->q):q:=h.elim fun x h=>e1_1 h (k x)
theorem qA{α1 α2:Type}{A1 A2:α1->α2->Prop}{q:Prop}(h:∃x1 x2,A1 x1 x2/\A2 x1 x2)(k:∀x1 x2,A1 x1 x2->A2 x1 x2->q):q:=h.elim fun x h=>jE h (k x)
theorem yz{α1 α2:Type}{A1 A2 A3:α1->α2->Prop}{q:Prop}(h:∃x1 x2,A1 x1 x2/\A2 x1 x2/\A3 x1 x2)(k:∀x1 x2,A1 x1 x2->A2 x1 x2->A3 x1 x2->q):q:=h.elim fun x h=>qk h (k x)
theorem uW{α1 α2:Type}{A1 A2 A3 A4:α1->α2->Prop}{q:Prop}(h:∃x1 x2,A1 x1 x2/\A2 x1 x2/\A3 x1 x2/\A4 x1 x2)(k:∀x1 x2,A1 x1 x2->A2 x1 x2->A3 x1 x2->A4 x1 x2->q):q:=h.elim fun x h=>e1_4 h (k x)
theorem e2_5{α1 α2:Type}{A1 A2 A3 A4 A5:α1->α2->Prop}{q:Prop}(h:∃x1 x2,A1 x1 x2/\A2 x1 x2/\A3 x1 x2/\A4 x1 x2/\A5 x1 x2)(k:∀x1 x2,A1 x1 x2->A2 x1 x2->A3 x1 x2->A4 x1 x2->A5 x1 x2->q):q:=h.elim fun x h=>e1_5 h (k x)
theorem oO{α1 α2 α3:Type}{A1 A2:α1->α2->α3->Prop}{q:Prop}(h:∃x1 x2 x3,A1 x1 x2 x3/\A2 x1 x2 x3)(k:∀x1 x2 x3,A1 x1 x2 x3->A2 x1 x2 x3->q):q:=h.elim fun x h=>qA h (k x)
theorem ja{α1 α2 α3:Type}{A1 A2 A3:α1->α2->α3->Prop}{q:Prop}(h:∃x1 x2 x3,A1 x1 x2 x3/\A2 x1 x2 x3/\A3 x1 x2 x3)(k:∀x1 x2 x3,A1 x1 x2 x3->A2 x1 x2 x3->A3 x1 x2 x3->q):q:=h.elim fun x h=>yz h (k x)
theorem yy{α1 α2 α3:Type}{A1 A2 A3 A4:α1->α2->α3->Prop}{q:Prop}(h:∃x1 x2 x3,A1 x1 x2 x3/\A2 x1 x2 x3/\A3 x1 x2 x3/\A4 x1 x2 x3)(k:∀x1 x2 x3,A1 x1 x2 x3->A2 x1 x2 x3->A3 x1 x2 x3->A4 x1 x2 x3->q):q:=h.elim fun x h=>uW h (k x)
theorem e3_5{α1 α2 α3:Type}{A1 A2 A3 A4 A5:α1->α2->α3->Prop}{q:Prop}(h:∃x1 x2 x3,A1 x1 x2 x3/\A2 x1 x2 x3/\A3 x1 x2 x3/\A4 x1 x2 x3/\A5 x1 x2 x3)(k:∀x1 x2 x3,A1 x1 x2 x3->A2 x1 x2 x3->A3 x1 x2 x3->A4 x1 x2 x3->A5 x1 x2 x3->q):q:=h.elim fun x h=>e2_5 h (k x)
theorem uV{α1 α2 α3 α4:Type}{A1 A2:α1->α2->α3->α4->Prop}{q:Prop}(h:∃x1 x2 x3 x4,A1 x1 x2 x3 x4/\A2 x1 x2 x3 x4)(k:∀x1 x2 x3 x4,A1 x1 x2 x3 x4->A2 x1 x2 x3 x4->q):q:=h.elim fun x h=>oO h (k x)
theorem dD{α1 α2 α3 α4:Type}{A1 A2 A3:α1->α2->α3->α4->Prop}{q:Prop}(h:∃x1 x2 x3 x4,A1 x1 x2 x3 x4/\A2 x1 x2 x3 x4/\A3 x1 x2 x3 x4)(k:∀x1 x2 x3 x4,A1 x1 x2 x3 x4->A2 x1 x2 x3 x4->A3 x1 x2 x3 x4->q):q:=h.elim fun x h=>ja h (k x)
theorem oN{α1 α2 α3 α4:Type}{A1 A2 A3 A4:α1->α2->α3->α4->Prop}{q:Prop}(h:∃x1 x2 x3 x4,A1 x1 x2 x3 x4/\A2 x1 x2 x3 x4/\A3 x1 x2 x3 x4/\A4 x1 x2 x3 x4)(k:∀x1 x2 x3 x4,A1 x1 x2 x3 x4->A2 x1 x2 x3 x4->A3 x1 x2 x3 x4->A4 x1 x2 x3 x4->q):q:=h.elim fun x h=>yy h (k x)
theorem e4_5{α1 α2 α3 α4:Type}{A1 A2 A3 A4 A5:α1->α2->α3->α4->Prop}{q:Prop}(h:∃x1 x2 x3 x4,A1 x1 x2 x3 x4/\A2 x1 x2 x3 x4/\A3 x1 x2 x3 x4/\A4 x1 x2 x3 x4/\A5 x1 x2 x3 x4)(k:∀x1 x2 x3 x4,A1 x1 x2 x3 x4->A2 x1 x2 x3 x4->A3 x1 x2 x3 x4->A4 x1 x2 x3 x4->A5 x1 x2 x3 x4->q):q:=h.elim fun x h=>e3_5 h (k x)
theorem rH{α1 α2 α3 α4 α5:Type}{A1 A2 A3 A4:α1->α2->α3->α4->α5->Prop}{q:Prop}(h:∃x1 x2 x3 x4 x5,A1 x1 x2 x3 x4 x5/\A2 x1 x2 x3 x4 x5/\A3 x1 x2 x3 x4 x5/\A4 x1 x2 x3 x4 x5)(k:∀x1 x2 x3 x4 x5,A1 x1 x2 x3 x4 x5->A2 x1 x2 x3 x4 x5->A3 x1 x2 x3 x4 x5->A4 x1 x2 x3 x4 x5->q):q:=h.elim fun x h=>oN h (k x)
theorem zA{p:Prop}(h:p:=by with_reducible assumption):p:=h
theorem zD{p:Prop}(h:p:=by decide):p:=h
theorem ec{a b:Nat}(h:a<=b):a<=b+1:=Nat.le_succ_of_le h
theorem pV{a b c:Nat}(h:a<b)(k:b<c):a<c:=jPf h k
theorem zo13{a b c:Nat}(h:a<=b)(k:b<=c):a<=c:=x8 h k
theorem j6{a b c:Nat}(h:a<=b:=by with_reducible assumption)(k:b<=c:=by decide):a<=c:=x8 h k
theorem c6{a b c:Nat}(h:a<b)(k:b<=c):a<c:=jNc h k
theorem c5{a b c:Nat}(h:a<b)(k:b<=c):a<=c:=x8 (jPt h) k
inductive D where
 |none
 |bool (b:Bool)
 |int (i:Int)
 |str (s:Str)
 |list (l:List D)
 |tup (l:List D)
 |dictS (l:List (Str×D))
 |dictI (l:List (Int×D))
 |rng (a b:Int)
 |opq (v:Value)
 |lref (a:Addr) (l:List D)
noncomputable abbrev qN:=Value->Shared->Prop
noncomputable abbrev wc:=Flow->Shared->Prop
noncomputable abbrev yR:=List (Str×Addr)
noncomputable abbrev xQ:=List (Str×D)
noncomputable abbrev nF:=List (Str×Value)
noncomputable abbrev nG:=List (Str×Str)
noncomputable abbrev fb:=List (Str×NameKind)
noncomputable abbrev HV:=Addr->Option Obj
noncomputable def j4(vs:List Value)(n:Nat):Obj:={ cls:= .type "list",data:= .seq vs.toArray n }
noncomputable def xo(vs:List Value)(n:Nat):Obj:={ cls:= .type "tuple",data:= .seq vs.toArray n }
section
variable(prog:Program)(w:World)
mutual
inductive R (H:HV):Value->D->Prop
 |none:R H Value.none D.none
 |bool (b:Bool):R H (Value.bool b) (D.bool b)
 |int (i:Int) (t:Tok):R H (Value.int i t) (D.int i)
 |str (x:Str) (t:Tok):R H (Value.str x t) (D.str x)
 |list {a:Addr} {vs:List Value} {n:Nat} {ds:List D}:H a=some (j4 vs n)->Rs H vs ds->R H (Value.ref a) (D.list ds)
 |tup {a:Addr} {vs:List Value} {n:Nat} {ds:List D}:H a=some (xo vs n)->Rs H vs ds->R H (Value.ref a) (D.tup ds)
 |dictS {a:Addr} {o:Obj} {ks:List Str} {vs:List Value} {ds:List D}:H a=some o->o.IsDictOf (strKind prog w) (ks.zip vs)->ks.length=vs.length->Rs H vs ds->a≠sysModules->R H (Value.ref a) (D.dictS (ks.zip ds))
 |dictI {a:Addr} {o:Obj} {ks:List Int} {vs:List Value} {ds:List D}:H a=some o->o.IsDictOf (intKind prog w) (ks.zip vs)->ks.length=vs.length->Rs H vs ds->a≠sysModules->R H (Value.ref a) (D.dictI (ks.zip ds))
 |rng {r:Addr} {a b:Int} {t u v:Tok}:H r=some { cls:= .type "range",data:= .fields #[.int a t,.int b u,.int 1 v] }->R H (Value.ref r) (D.rng a b)
 |opq (v:Value):R H v (D.opq v)
 |lref {a:Addr} {vs:List Value} {n:Nat} {ds:List D}:H a=some (j4 vs n)->Rs H vs ds->R H (Value.ref a) (D.lref a ds)
inductive Rs (H:HV):List Value->List D->Prop
 |nil:Rs H [] []
 |cons {v:Value} {vs:List Value} {d:D} {ds:List D}:R H v d->Rs H vs ds->Rs H (v::vs) (d::ds)
end
end
section
variable{prog:Program}{w:World}{H H':HV}
theorem R.mono(hs:∀a o,H a=some o->H' a=some o){v:Value}{d:D}(h:R prog w H v d):R prog w H' v d:=
 R.rec (motive_1:=fun v d _=>R prog w H' v d) (motive_2:=fun vs ds _=>Rs prog w H' vs ds) .none .bool .int .str (fun h _ ih=> .list (hs _ _ h) ih) (fun h _ ih=> .tup (hs _ _ h) ih) (fun h i l _ ne ih=> .dictS (hs _ _ h) i l ih ne) (fun h i l _ ne ih=> .dictI (hs _ _ h) i l ih ne) (fun h=> .rng (hs _ _ h)) .opq (fun h _ ih=> .lref (hs _ _ h) ih) .nil (fun _ _ h r=> .cons h r) h
theorem Rs.ind{P:List Value->List D->Prop}(h0:P [] [])(h1:∀v d vs ds,R prog w H v d->Rs prog w H vs ds->P vs ds->P (v::vs) (d::ds)){vs:List Value}{ds:List D}(h:Rs prog w H vs ds):P vs ds:=
 Rs.rec (motive_1:=fun _ _ _=>True) (motive_2:=fun vs ds _=>P vs ds) trivial (fun _=>trivial) (fun _ _=>trivial) (fun _ _=>trivial) (fun _ _ _=>trivial) (fun _ _ _=>trivial) (fun _ _ _ _ _ _=>trivial) (fun _ _ _ _ _ _=>trivial) (fun _=>trivial) (fun _=>trivial) (fun _ _ _=>trivial) h0 (fun r rs _ ih=>h1 _ _ _ _ r rs ih) h
theorem Rs.mono(hs:∀a o,H a=some o->H' a=some o){vs:List Value}{ds:List D}(h:Rs prog w H vs ds):Rs prog w H' vs ds:=h.ind .nil fun _ _ _ _ r _ ih=> .cons (R.mono hs r) ih
noncomputable def RIs(H:HV)(v:Value):D->Prop
 | .none=>v= .none
 | .bool b=>v= .bool b
 | .int i=>∃t,v= .int i t
 | .str x=>∃t,v= .str x t
 | .list ds=>∃a vs n,v= .ref a/\H a=some (j4 vs n)/\Rs prog w H vs ds
 | .tup ds=>∃a vs n,v= .ref a/\H a=some (xo vs n)/\Rs prog w H vs ds
 | .dictS l=>∃(a:Addr) (o:Obj) (ks:List Str) (vs:List Value) (ds:List D),v= .ref a/\l=ks.zip ds/\H a=some o/\o.IsDictOf (strKind prog w) (ks.zip vs)/\ks.length=vs.length/\Rs prog w H vs ds/\a≠sysModules
 | .dictI l=>∃(a:Addr) (o:Obj) (ks:List Int) (vs:List Value) (ds:List D),v= .ref a/\l=ks.zip ds/\H a=some o/\o.IsDictOf (intKind prog w) (ks.zip vs)/\ks.length=vs.length/\Rs prog w H vs ds/\a≠sysModules
 | .rng a b=>∃r t u z,v= .ref r/\H r=some { cls:= .type "range",data:= .fields #[.int a t,.int b u,.int 1 z] }
 | .opq u=>v=u
 | .lref a ds=>∃vs n,v= .ref a/\H a=some (j4 vs n)/\Rs prog w H vs ds
theorem R.inv{v:Value}{d:D}(h:R prog w H v d):RIs (prog:=prog) (w:=w) H v d:=
 R.casesOn (motive_1:=fun v d _=>RIs (prog:=prog) (w:=w) H v d) h rfl (fun _=>rfl) (fun _ t=>⟨t,rfl⟩) (fun _ t=>⟨t,rfl⟩) (fun h r=>⟨_,_,_,rfl,h,r⟩) (fun h r=>⟨_,_,_,rfl,h,r⟩) (fun h i l r ne=>⟨_,_,_,_,_,rfl,rfl,h,i,l,r,ne⟩) (fun h i l r ne=>⟨_,_,_,_,_,rfl,rfl,h,i,l,r,ne⟩) (fun h=>⟨_,_,_,_,rfl,h⟩) (fun _=>rfl) (fun h r=>⟨_,_,rfl,h,r⟩)
noncomputable def RsInv(H:HV)(vs:List Value):List D->Prop
 |[]=>vs=[]
 |d::ds=>∃x xs,vs=x::xs/\R prog w H x d/\Rs prog w H xs ds
theorem Rs.inv{vs:List Value}{ds:List D}(h:Rs prog w H vs ds):RsInv (prog:=prog) (w:=w) H vs ds:=h.ind rfl fun _ _ _ _ r rs _=>⟨_,_,rfl,r,rs⟩
variable{vs ws:List Value}{ds es:List D}{v:Value}{d:D}
theorem Rs.un{v:List Value}{d:D}{ds:List D}(h:Rs prog w H v (d::ds)):∃x xs,v=x::xs/\R prog w H x d/\Rs prog w H xs ds:=h.inv
theorem Rs.un0{v:List Value}(h:Rs prog w H v []):v=[]:=h.inv
theorem Rs.un2{v:List Value}{a b:D}(h:Rs prog w H v [a,b]):∃x y,v=[x,y]/\R prog w H x a/\R prog w H y b:=by
 show yz h.un ?_;rintro x _ rfl r1 h
 show yz h.un ?_;rintro y _ rfl r2 h
 exact⟨x,y,by rw[h.un0],r1,r2⟩
theorem Rs.un3{v:List Value}{a b c:D}(h:Rs prog w H v [a,b,c]):∃x y z,v=[x,y,z]/\R prog w H x a/\R prog w H y b/\R prog w H z c:=by
 show yz h.un ?_;rintro x _ rfl r1 h
 show yz h.un2 ?_;rintro y z rfl r2 r3
 exact⟨x,y,z,rfl,r1,r2,r3⟩
theorem Rs.length{vs:List Value}{ds:List D}(h:Rs prog w H vs ds):vs.length=ds.length:=h.ind (P:=fun vs ds=>vs.length=ds.length) rfl fun _ _ _ _ _ _ ih=>jM8 (·+1) ih
theorem Rs.append{vs:List Value}{ds:List D}(h:Rs prog w H vs ds)(k:Rs prog w H ws es):Rs prog w H (vs++ws) (ds++es):=h.ind (P:=fun vs ds=>Rs prog w H (vs++ws) (ds++es)) k fun _ _ _ _ r _ ih=> .cons r ih
theorem Rs.get{vs:List Value}{ds:List D}(h:Rs prog w H vs ds):∀{k:Nat} {d:D},ds[k]? =some d->∃v,vs[k]? =some v/\R prog w H v d:=
 h.ind (P:=fun vs ds=>∀{k:Nat} {d:D},ds[k]? =some d->∃v,vs[k]? =some v/\R prog w H v d) (fun e=>nn e) fun v d vs ds r _ ih=>fun {k} {d'}=>match k with
  |0=>fun e=>⟨v,rfl,(jX e)▸r⟩
  |k+1=>fun e=>ih (k:=k) e
theorem Rs.getV{vs:List Value}{ds:List D}(h:Rs prog w H vs ds):∀{k:Nat} {v:Value},vs[k]? =some v->∃d,ds[k]? =some d/\R prog w H v d:=
 h.ind (P:=fun vs ds=>∀{k:Nat} {v:Value},vs[k]? =some v->∃d,ds[k]? =some d/\R prog w H v d) (fun e=>nn e) fun v d vs ds r _ ih=>fun {k} {d'}=>match k with
  |0=>fun e=>⟨d,rfl,(jX e)▸r⟩
  |k+1=>fun e=>ih (k:=k) e
end
open _m.D renaming casesOn->cD
noncomputable def D.flat:D->D
 | .lref _ l=> .list l
 |d=>d
theorem R.flat{prog:Program}{w:World}{H:HV}{v:Value}{d:D}(h:R prog w H v d):R prog w H v d.flat:=by
 induction d using cD with
 |lref a l=>
  show yz (R.inv h) ?_;rintro vs n rfl h r
  exact .list h r
 |_=>exact h
noncomputable def view(h:Heap)(Y:List Addr):HV:=fun a=>if a∈Y then none else h.get? a
theorem jG{h:Heap}{Y:List Addr}{a:Addr}{o:Obj}(e:view h Y a=some o):h.get? a=some o/\a∉Y:=by
 unfold view at e;revert e;show tg fun _ e=> ?_
 .exact⟨e,‹_›⟩
theorem jT{h:Heap}{Y:List Addr}{a:Addr}{o:Obj}(e:h.get? a=some o)(n:a∉Y):view h Y a=some o:=by
 unfold view;rw[if_neg n];exact e
structure Fn where
 params:Arguments
 body:List Stmt
 scope:Scope
noncomputable def Fn.names(f:Fn):List Str:=f.params.args.map (·.arg)
noncomputable def zl(p:Arguments):Bool:=p.posonlyargs.isEmpty&&p.kwonlyargs.isEmpty&&p.vararg.isNone&&p.kwarg.isNone&&decide ((p.args.map (·.arg)).Nodup)
noncomputable def oL(f:Fn):Bool:=zl f.params&& !f.scope.isCoroutine&& !f.scope.isGenerator&&decide (f.scope.kind= .function)&&f.names.all (fun x=>decide (f.scope.names.lookup x=some .local\/f.scope.names.lookup x=some .cell))&&f.scope.names.all (fun p=>decide (p.2≠.free))
inductive Fl where
 |next|brk
 |ret (d:D)
 |exc (cls:Str) (d:D)
inductive B where
 |val (d:D)
 |own (l:List D)
open _m.Fl renaming casesOn->cF
open _m.B renaming casesOn->cB
noncomputable abbrev Loc:=Str->Option D
noncomputable abbrev jN:=Str->Option B
noncomputable def j3(l:jN):Loc:=fun x=>match l x with|some (.val d)=>some d|_=>none
noncomputable def xW(l:jN):Loc:=fun x=>match l x with|some (.val d)=>some d|some (.own l)=>some (.list l)|none=>none
noncomputable def jA{α:Type}(l:Str->Option α)(x:Str)(a:α):Str->Option α:=fun y=>if y=x then some a else l y
noncomputable def gZ:List Str:=["talk","made","seen","perm","result"]
noncomputable def jO(outer sc:Scope):Scope:={ sc with names:=sc.names.map fun(n,k)=>if (k== .free&&outer.kind== .function&&outer.names.lookup n==some .cell)=true then (n,.cell) else (n,k) }
noncomputable def jF(sc:Scope)(l:Loc):Loc:=fun x=>if sc.names.lookup x=some .free then l x else none
mutual
noncomputable def D.beq:D->D->Bool
 | .int a,.int b=>a==b
 | .str a,.str b=>a==b
 | .list a,.list b=>D.beqs a b
 | .tup a,.tup b=>D.beqs a b
 |_,_=>false
noncomputable def D.beqs:List D->List D->Bool
 |[],[]=>true
 |a::r,b::q=>D.beq a b&&D.beqs r q
 |_,_=>false
end
mutual
noncomputable def D.like:D->D->Bool
 | .int _,.int _=>true
 | .str _,.str _=>true
 | .list a,.list b=>D.likes a b
 | .tup a,.tup b=>D.likes a b
 |_,_=>false
noncomputable def D.likes:List D->List D->Bool
 |a::r,b::q=>D.like a b&&D.likes r q
 |_,_=>true
end
mutual
noncomputable def D.dep:D->Nat
 | .list a=>D.deps a+1
 | .tup a=>D.deps a+1
 |_=>0
noncomputable def D.deps:List D->Nat
 |[]=>0
 |a::r=>max (D.dep a) (D.deps r)
end
theorem bqT{a b:List D}:D.beq (.tup a) (.tup b)=D.beqs a b:=rfl
theorem bqI{a b:Int}:D.beq (.int a) (.int b)=(a==b):=rfl
theorem bqS{a b:Str}:D.beq (.str a) (.str b)=(a==b):=rfl
theorem bqC{a b:D}{r q:List D}:D.beqs (a::r) (b::q)=(D.beq a b&&D.beqs r q):=rfl
theorem bqN:D.beqs [] []=true:=rfl
theorem lkI{a b:Int}:D.like (.int a) (.int b)=true:=rfl
theorem lkS{a b:Str}:D.like (.str a) (.str b)=true:=rfl
theorem lkT{a b:List D}:D.like (.tup a) (.tup b)=D.likes a b:=rfl
theorem lkC{a b:D}{r q:List D}:D.likes (a::r) (b::q)=(D.like a b&&D.likes r q):=rfl
theorem lkN:D.likes [] []=true:=rfl
theorem dpI{a:Int}:D.dep (.int a)=0:=rfl
theorem dpS{a:Str}:D.dep (.str a)=0:=rfl
theorem eY{a:List D}:D.dep (.list a)=D.deps a+1:=rfl
theorem lY{a:List D}:D.dep (.tup a)=D.deps a+1:=rfl
theorem dpN:D.deps []=0:=rfl
theorem dpC{a:D}{r:List D}:D.deps (a::r)=max (D.dep a) (D.deps r):=rfl
noncomputable def small(a:Int):Bool:=decide (a.natAbs<2 ^ 60)
noncomputable def lim:Nat:=1000000
noncomputable def yf{α β:Type}(as:List α)(k1:α->Option β)(k2:α->α->Option β):Option β:=match as with
 |[]=>none
 |a::r=>match r with
  |[]=>k1 a
  |b::r=>match r with
   |[]=>k2 a b
   |_::_=>none
noncomputable def bO{α β:Type}(as:List α)(k1:α->Option β):Option β:=match as with
 |[]=>none
 |a::r=>match r with
  |[]=>k1 a
  |_::_=>none
noncomputable def intOp(op:Operator)(a b:Int):Option Int:=match op with
 | .Add=>some (a+b)
 | .Sub=>some (a - b)
 | .Mult=>if small a||small b then some (a * b) else none
 | .FloorDiv=>if b≠0/\b.natAbs<1073741824 then some (a.fdiv b) else none
 | .Mod=>if b≠0 then some (a.fmod b) else none
 | .Pow=>if (a=2\/a=8)/\0<=b/\b<=64 then some (a ^ b.toNat) else none
 | .BitAnd=>some (Builtin.bitAnd a b)
 | .BitOr=>some (Builtin.bitOr a b)
 |_=>none
noncomputable def vQ(op:Operator)(x y:D):Option D:=match x with
 | .int a=>(match y with
   | .int b=>(intOp op a b).map .int
   |_=>none)
 | .str a=>(match y with
   | .str b=>(match op with
     | .Add=>if a.length+b.length<=lim then some (.str (a++b)) else none
     |_=>none)
   | .int n=>(match op with
     | .Mult=>if a.length<=100/\0<=n/\n<=100 then some (.str (Txt.mul a n)) else none
     |_=>none)
   |_=>none)
 | .list a=>(match y with
   | .list b=>(match op with
     | .Add=>if a.length+b.length<=lim then some (.list (a++b)) else none
     |_=>none)
   |_=>none)
 |_=>none
noncomputable def D.asInt? :D->Option Int
 | .int i=>Option.some i
 |_=>Option.none
noncomputable def D.asStr? :D->Option Str
 | .str i=>Option.some i
 |_=>Option.none
noncomputable def D.asList? :D->Option (List D)
 | .list i=>Option.some i
 |_=>Option.none
noncomputable def ints? :List D->Option (List Int)
 |[]=>some []
 |d::r=>d.asInt?.bind fun i=>(ints? r).map (i::·)
noncomputable def strs? :List D->Option (List Str)
 |[]=>some []
 |d::r=>d.asStr?.bind fun i=>(strs? r).map (i::·)
noncomputable def sortI(l:List Int):List Int:=l.mergeSort fun a b=>decide (a<=b)
noncomputable def strLe(a b:Str):Bool:=decide (a.cps.toList<=b.cps.toList)
noncomputable def vW(l:List Str):List Str:=l.mergeSort strLe
noncomputable def idx?(i:Int)(n:Nat):Option Nat:=if 0<=i then (if i<n then some i.toNat else none) else if -(n:Int)<=i then some (i+n).toNat else none
noncomputable def pick(ds:List D)(lo hi st:Option Int):List D:=(sliceRange (sliceBounds lo hi st ds.length).1 (sliceBounds lo hi st ds.length).2.1 (sliceBounds lo hi st ds.length).2.2).filterMap (ds[·]?)
noncomputable def tJ(l:List D)(i:Int):Option D:=if l.length<=lim then (idx? i l.length).bind (l[·]?) else none
noncomputable def itemD0(a b:D):Option D:=match a with
 | .list l=>b.asInt?.bind (tJ l)
 | .tup l=>b.asInt?.bind (tJ l)
 | .str x=>b.asInt?.bind fun i=>if x.length<=lim then (idx? i x.length).bind fun k=>(x.cps[k]?).map fun c=> .str ⟨#[c]⟩ else none
 | .dictS l=>b.asStr?.bind fun k=>l.lookup k
 | .dictI l=>b.asInt?.bind fun k=>l.lookup k
 |_=>none
noncomputable def vY(a b:D):Option D:=itemD0 a.flat b
noncomputable def inD(a b:D):Option Bool:=match b with
 | .list l=>if l.all (fun y=>D.like y a&&decide (D.dep y<=20)) then some (l.any (fun y=>D.beq y a)) else none
 | .str x=>a.asStr?.map fun y=>Txt.contains x y
 | .dictS l=>a.asStr?.map fun k=>(l.lookup k).isSome
 |_=>none
noncomputable def tri3(d:D):List D->Option (xQ×D×D)
 |[b,c]=>match d with
  | .dictS a=>some (a,b,c)
  |_=>none
 |_=>none
noncomputable def eh(x:D):Option (xQ×D×D):=match x with
 | .tup l=>(match l with
   |d::r=>tri3 d r
   |[]=>none)
 |_=>none
noncomputable def u9(x y:D):Option Bool:=(eh x).bind fun p=>(eh y).bind fun p'=>if p.1.map (·.1)=p'.1.map (·.1)/\D.likes (p.1.map (·.2)) (p'.1.map (·.2))=true/\D.like p.2.1 p'.2.1=true/\D.like p.2.2 p'.2.2=true/\D.deps (p.1.map (·.2))<=20/\D.dep p.2.1<=20/\D.dep p.2.2<=20/\D.beqs (p.1.map (·.2)) (p'.1.map (·.2))=true/\D.beq p.2.1 p'.2.1=true/\D.beq p.2.2 p'.2.2=true then some false else none
noncomputable def sO(f:Int->Int->Bool)(x y:D):Option Bool:=match x with
 | .int a=>(match y with
   | .int b=>some (f a b)
   |_=>none)
 |_=>none
noncomputable def isD(x y:D):Option Bool:=match y with
 | .none=>x.asStr?.map fun _=>false
 |_=>none
noncomputable def gA(op:CmpOp)(x y:D):Option Bool:=match op with
 | .Eq=>if D.like x y&&decide (D.dep x<=20) then some (D.beq x y) else none
 | .NotEq=>if D.like x y&&decide (D.dep x<=20) then some (!D.beq x y) else u9 x y
 | .Lt=>sO (fun a b=>decide (a<b)) x y
 | .GtE=>sO (fun a b=>decide (a≥b)) x y
 | .In=>inD x y
 | .NotIn=>(inD x y).map (!·)
 | .Is=>isD x y
 |_=>none
noncomputable def truD0:D->Option Bool
 | .bool b=>some b
 | .list l=>if l.length<=lim then some (!l.isEmpty) else none
 |_=>none
noncomputable def uC(d:D):Option Bool:=truD0 d.flat
noncomputable def ji:D->Option (List D)
 | .list l=>some l
 | .tup l=>some l
 | .rng a b=>if small a&&small b&&decide (b - a<=1000) then some ((List.range (b - a).toNat).map fun(k:Nat)=>D.int (a+(k:Int))) else none
 |_=>none
noncomputable def fA(as:List D)(k1:D->Option D):Option D:=yf as k1 fun _ _=>none
noncomputable def strK(c:Const):Option Str:=by
 induction c using cC with
 |str y=>exact some y
 |_=>exact none
noncomputable def intK(c:Const):Option Int:=by
 induction c using cC with
 |int y=>exact some y
 |_=>exact none
noncomputable def strC?(e:Expr):Option Str:=by
 induction e using cE with
 |Constant c _ _=>exact strK c
 |_=>exact none
noncomputable def intC?(e:Expr):Option Int:=by
 induction e using cE with
 |Constant c _ _=>exact intK c
 |_=>exact none
noncomputable def cm:D->Option D
 | .list l=>if l.length<=lim then some (.int l.length) else none
 | .str x=>if x.length<=lim then some (.int x.length) else none
 |_=>none
noncomputable def nC(a b:Option D):Option D:=match a with
 |some d=>some d
 |none=>b
theorem lh{a b:Option D}{d:D}{P:Prop}(h:nC a b=some d)(h1:a=some d->P)(h2:b=some d->P):P:=by
 cases a with
 |some x=>exact h1 h
 |none=>exact h2 h
noncomputable def zI(l:List D):Option D:=if l.length<64 then nC ((ints? l).map fun ns=> .list ((sortI ns).map .int)) ((strs? l).map fun ss=> .list ((vW ss).map .str)) else none
noncomputable def jr(f:Str)(as:List D):Option D:=
 if f="len" then fA as cm
 else if f="sum" then fA as fun a=>a.asList?.bind fun l=>(ints? l).map fun ns=> .int ns.sum
 else if f="range" then yf as (fun a=>a.asInt?.map fun n=> .rng 0 n) fun a b=>a.asInt?.bind fun x=>b.asInt?.map fun y=> .rng x y
 else if f="sorted" then fA as fun a=>a.asList?.bind zI
 else if f="str" then fA as fun a=>a.asInt?.bind fun i=>if small i then some (.str (Str.ofString (toString i))) else none
 else if f="int" then fA as fun a=>a.asStr?.bind fun x=>if x.length<=640 then (intText? x).map .int else none
 else none
noncomputable def jEj(x y:Str)(i:Int):Int:=match Builtin.Str.occurrences x y (fromIndex x.length i) x.length 1 with
 |k::_=>(k:Int)
 |[]=> -1
noncomputable def dF(x y:Str):Option D:=if y.length=1/\x.length<=1000/\(decide (x.length<y.length)||decide (Builtin.Str.strKind x<Builtin.Str.strKind y))=false/\(Builtin.Str.occurrences x y 0 x.length (x.length+1)).isEmpty=false/\(Builtin.Str.partsBetween x (Builtin.Str.occurrences x y 0 x.length (x.length+1)) y.length).length<=1000 then some (.list ((Builtin.Str.partsBetween x (Builtin.Str.occurrences x y 0 x.length (x.length+1)) y.length).map .str)) else none
noncomputable def tI(x:Str)(l:List D):Option D:=if x.length=0/\l.length<=1000 then (strs? l).bind fun ss=>if ss.all (fun s=>decide (s.length<=1000)) then some (.str (Txt.join x ss)) else none else none
noncomputable def gy(l:List D)(x:D):Option D:=if l.length<=1000/\l.all (fun y=>D.like y x&&decide (D.dep y<=20)) then (l.findIdx? (fun y=>D.beq y x)).map fun k:Nat=> .int k else none
noncomputable def gR(o:D)(f:Str)(as:List D):Option D:=
 if f="find" then o.asStr?.bind fun x=>yf as (fun a=>a.asStr?.map fun y=> .int (Txt.find x y)) fun a b=>a.asStr?.bind fun y=>b.asInt?.map fun i=> .int (jEj x y i)
 else if f="split" then o.asStr?.bind fun x=>fA as fun a=>a.asStr?.bind fun y=>dF x y
 else if f="join" then o.asStr?.bind fun x=>fA as fun a=>a.asList?.bind fun l=>tI x l
 else if f="index" then o.asList?.bind fun l=>fA as fun x=>gy l x
 else none
noncomputable def qj{K:Type}[BEq K][DecidableEq K](l:List (K×D))(k:K)(v:D):List (K×D):=if (l.lookup k).isSome then l.map fun p=>if p.1=k then (p.1,v) else p else l++[(k,v)]
noncomputable def om{β:Type}(d:D)(k:D->D->Option β):Option β:=match d with
 | .tup l=>yf l (fun _=>none) k
 |_=>none
noncomputable def pairK?{K:Type}(f:D->Option K)(d:D):Option (K×D):=om d fun a b=>(f a).map fun k=>(k,b)
noncomputable def dictK?{K:Type}[BEq K][DecidableEq K](f:D->Option K):List (K×D)->List D->Option (List (K×D))
 |acc,[]=>some acc
 |acc,d::r=>(pairK? f d).bind fun p=>dictK? f (qj acc p.1 p.2) r
structure Ev where
 E:Bool->Scope->Loc->Expr->Option D
 S:Bool->Scope->jN->Stmt->Option (Fl×jN)
noncomputable def nameE?(e:Expr):Option Str:=by
 induction e using cE with
 |Name b _=>exact some b
 |_=>exact none
noncomputable def pairN(es:List Expr):List Str:=((yf es (fun _=>none) fun a b=>(nameE? a).bind fun x=>(nameE? b).map fun y=>[x,y])).getD []
noncomputable def xj(e:Expr):List Str:=by
 induction e using cE with
 |Name x _=>exact[x]
 |Tuple es _ _=>exact pairN es
 |_=>exact[]
noncomputable def sa{β:Type}(ns:List Str)(z:β)(f:Str->β)(g:Str->Str->β):β:=match ns with
 |[]=>z
 |x::r=>match r with
  |[]=>f x
  |y::_=>g x y
noncomputable def wq(l:Loc)(t:Expr)(d:D):Option Loc:=sa (xj t) none (fun x=>if (l x).isSome=true then none else some (jA l x d)) fun x y=>om d fun a b=>if (l x).isSome=true\/(l y).isSome=true then none else some (jA (jA l x a) y b)
noncomputable def gB(l:jN)(t:Expr)(d:D):Option jN:=sa (xj t) none (fun x=>some (jA l x (.val d))) fun x y=>om d fun a b=>some (jA (jA l x (.val a)) y (.val b))
section
variable(fns:List (Str×Fn))(glob:xQ)(r:Ev)(k:Bool)
noncomputable def zh(sc:Scope)(l:Loc):List Expr->Option (List D)
 |[]=>some []
 |e::es=>if PySem.W.isStarred e=true then none else do
  let d<-r.E k sc l e
  let ds<-zh sc l es
  some (d::ds)
noncomputable def qH(e:Expr):Bool:=by
 induction e using cE with
 |Set _ _ _=>exact true
 |_=>exact false
noncomputable def oR(sc:Scope)(t:Expr):Bool:=sa (xj t) false (fun x=>decide (sc.names.lookup x=some .local\/sc.names.lookup x=some .cell)) fun x y=>decide ((sc.names.lookup x=some .local\/sc.names.lookup x=some .cell)/\(sc.names.lookup y=some .local\/sc.names.lookup y=some .cell)/\x≠y)
noncomputable def jk(sc jM:Scope)(gens:List Comprehension):Bool:=
 decide (jM.kind= .function)&&decide ((jM.names.map (·.1)).Nodup)&&jM.names.all (fun p=>decide (p.2= .free->sc.names.lookup p.1=some .cell\/sc.names.lookup p.1=some .free))&&gens.all fun g=>decide (g.is_async=0)&& !qH g.iter&&oR jM g.target
noncomputable def btB(f:Expr->Option Bool)(op:BoolOp)(es:List Expr):Option Bool:=match op with
 | .And=>yf es (fun _=>none) fun x y=>(f x).bind fun b=>if b=true then f y else some false
 | .Or=>yf es (fun _=>none) fun x y=>(f x).bind fun b=>if b=true then some true else f y
noncomputable def notU(op:UnaryOp)(o:Option Bool):Option Bool:=by
 induction op using cU with
 |Not=>exact o.map (!·)
 |_=>exact none
noncomputable def btC(sc:Scope)(l:Loc)(x:Expr)(ops:List CmpOp)(ys:List Expr):Option Bool:=bO ops fun op=>bO ys fun y=>if qH y=true then none else (r.E k sc l x).bind fun a=>(r.E k sc l y).bind fun b=>gA op a b
noncomputable def btE(sc:Scope)(l:Loc)(f:Expr->Option Bool)(e:Expr):Option Bool:=by
 induction e using cE with
 |UnaryOp op x _=>exact notU op (f x)
 |BoolOp op es _=>exact btB f op es
 |Compare x ops ys _=>exact btC r k sc l x ops ys
 |Name x p=>exact(r.E k sc l (.Name x p)).bind uC
 |Call g as ks p=>exact(r.E k sc l (.Call g as ks p)).bind uC
 |_=>exact none
noncomputable def Bt(sc:Scope)(l:Loc):Nat->Expr->Option Bool
 |0,_=>none
 |n+1,e=>btE r k sc l (Bt sc l n) e
noncomputable def qx(sc:Scope)(l:Loc):List Expr->Option Bool
 |[]=>some true
 |e::es=>match es with
  |[]=>Bt r k sc l 4 e
  |_::_=>none
noncomputable def compLoop(sc:Scope)(l:Loc)(g:Comprehension)(deep:Loc->Option (List D)):List D->Option (List D)
 |[]=>some []
 |d::ds=>do
  let l'<-wq l g.target d
  let ok<-qx r k sc l' g.ifs
  let here<-if ok then deep l' else some []
  let more<-compLoop sc l g deep ds
  some (here++more)
noncomputable def o7{K:Type}(f:D->Option K)(sc:Scope)(ke ve:Expr)(l:Loc):Option D:=(r.E k sc l ke).bind fun a=>(r.E k sc l ve).bind fun b=>(f a).map fun _=> .tup [a,b]
noncomputable def comp(sc:Scope)(emit:Loc->Option D):List Comprehension->Loc->List D->Option (List D)
 |[],_,_=>none
 |[g],l,its=>compLoop r k sc l g (fun l'=>(emit l').map fun x=>[x]) its
 |g::g'::gs,l,its=>compLoop r k sc l g (fun l'=>do
   let yw<-(r.E k sc l' g'.iter).bind ji
   comp sc emit (g'::gs) l' yw) its
noncomputable def nxt(x:Fl×jN)(k:jN->Option (Fl×jN)):Option (Fl×jN):=match x.1 with
 | .next=>k x.2
 | .brk=>some x
 | .ret _=>some x
 | .exc _ _=>some x
noncomputable def qd(sc:Scope):jN->List Stmt->Option (Fl×jN)
 |l,[]=>some (.next,l)
 |l,s::ss=>(r.S k sc l s).bind fun x=>nxt x fun l=>qd sc l ss
noncomputable def nxtF(x:Fl×jN)(k:jN->Option (Fl×jN)):Option (Fl×jN):=match x.1 with
 | .next=>k x.2
 | .brk=>some x
 | .ret _=>some x
 | .exc _ _=>none
noncomputable def forL(sc:Scope)(t:Expr)(body:List Stmt):jN->List D->Option (Fl×jN)
 |l,[]=>some (.next,l)
 |l,d::ds=>(gB l t d).bind fun l1=>(qd r k sc l1 body).bind fun x=>nxtF x fun l=>forL sc t body l ds
noncomputable def xu:List Str->List D->Option jN
 |[],[]=>some fun _=>none
 |x::xs,d::ds=>(xu xs ds).map fun l=>jA l x (.val d)
 |_,_=>none
noncomputable def yX(l:Loc):List Str->List D->Option Loc
 |[],[]=>some l
 |x::xs,d::ds=>(yX l xs ds).map fun l=>jA l x d
 |_,_=>none
noncomputable def zH(f:Str)(as:List D):Option (Fl×jN):=do
 let fn<-fns.lookup f
 let l<-xu fn.names as
 qd r false fn.scope l fn.body
noncomputable def qB:Fl×jN->Option D
 |(.ret d,_)=>some d
 |_=>none
noncomputable def rR(sc:Scope)(ps:Arguments)(qa:Scope):Bool:=k&&zl ps&&ps.defaults.isEmpty&&ps.kw_defaults.isEmpty&& !qa.isCoroutine&& !qa.isGenerator&&decide (qa.kind= .function)&&decide ((qa.names.map (·.1)).Nodup)&&
   ps.args.all (fun a=>decide (qa.names.lookup a.arg=some .local\/qa.names.lookup a.arg=some .cell))&&qa.names.all (fun p=>decide (p.2= .free->sc.names.lookup p.1=some .cell\/sc.names.lookup p.1=some .free))
noncomputable def vH(sc:Scope)(e:Expr):Bool:=by
 induction e using cE with
 |Lambda ps _ qa _=>exact rR k sc ps qa
 |_=>exact false
noncomputable def zp(l:Loc)(f:Expr)(as:List D):Option D:=by
 induction f using cE with
 |Lambda ps body qa _=>exact(yX (jF qa l) (ps.args.map (·.arg)) as).bind fun l'=>r.E false qa l' body
 |_=>exact none
noncomputable def zV(l:Loc)(f:Expr):D->List D->Option D
 |a,[]=>some a
 |a,d::ds=>do
  let a'<-zp r l f [a,d]
  zV l f a' ds
noncomputable def zF(sc:Scope)(l:Loc):Option Expr->Option (Option Int)
 |none=>some none
 |some e=>(r.E k sc l e).bind fun d=>d.asInt?.map some
noncomputable def tH:Fl×jN->Option (Fl×jN)
 |(.exc _ _,_)=>none
 |x=>some x
noncomputable def zt(e:Expr):Bool:=by
 induction e using cE with
 |Call _ _ _ _=>exact true
 |_=>exact false
noncomputable def jHh:D->Bool
 | .list _=>true
 | .int _=>true
 |_=>false
noncomputable def mK(l:Loc)(g:Expr):List D->Option D
 |[]=>none
 |a::ds=>zV r l g a ds
noncomputable def u5(sc:Scope)(l:Loc)(g s i:Expr):Option D:=if vH k sc g=false\/PySem.W.isStarred s=true\/PySem.W.isStarred i=true then none else (r.E k sc l s).bind fun d=>(r.E k sc l i).bind fun a=>d.asList?.bind fun ds=>if jHh a=true then zV r l g a ds else none
noncomputable def n8(sc:Scope)(l:Loc)(args:List Expr):Option D:=match args with
 |[]=>none
 |g::r2=>match r2 with
  |[]=>none
  |s::r3=>match r3 with
   |[]=>if vH k sc g=false\/PySem.W.isStarred s=true then none else (r.E k sc l s).bind fun d=>d.asList?.bind (mK r l g)
   |i::r4=>match r4 with
    |[]=>u5 r k sc l g s i
    |_::_=>none
noncomputable def mS(sc:Scope)(l:Loc)(args:List Expr):Option D:=yf args (fun _=>none) fun a b=>(nameE? b).bind fun b=>if b="list"/\sc.names.lookup b=some .globalImplicit/\PySem.W.isStarred a=false then (r.E k sc l a).bind fun d=>d.asList?.map fun _=> .bool true else none
noncomputable def mI(o:Option D)(args:List Expr):Option D:=yf args (fun _=>none) fun a b=>(strC? a).bind fun y=>(strC? b).bind fun z=>o.bind fun d=>d.asStr?.bind fun x=>if (fns.lookup ("_law_said":Str)).isSome=true/\x.length<=1000/\z.length<=14/\(y==z)=false then some (.str (Txt.replace x y z)) else none
noncomputable def constD(c:Const):Option D:=by
 induction c using cC with
 |none=>exact some .none
 |bool b=>exact some (.bool b)
 |int i=>exact some (.int i)
 |str s=>exact some (.str s)
 |_=>exact none
noncomputable def iG(kd:NameKind)(a b:Option D):Option D:=by
 cases kd with
 |«local»=>exact a
 |cell=>exact a
 |free=>exact a
 |globalImplicit=>exact b
 |_=>exact none
noncomputable def nameD(sc:Scope)(l:Loc)(x:Str):Option D:=if (x==("__debug__":Str)||x==("__classdict__":Str))=true then none else (sc.names.lookup x).bind fun kd=>iG kd (l x) (if (fns.lookup x).isSome then none else glob.lookup x)
noncomputable def negD(op:UnaryOp)(x:Expr):Option D:=by
 induction op using cU with
 |USub=>exact(intC? x).map fun i=> .int (-i)
 |_=>exact none
noncomputable def sR(d:D)(o:Option D):Option D:=match d with
 | .bool b=>if b=true then o else some (.bool false)
 |_=>none
noncomputable def boolD(sc:Scope)(l:Loc)(op:BoolOp)(es:List Expr):Option D:=match op with
 | .And=>yf es (fun _=>none) fun a b=>(r.E k sc l a).bind fun d=>sR d (r.E k sc l b)
 | .Or=>none
noncomputable def lcD(sc:Scope)(l:Loc)(elt:Expr)(gens:List Comprehension)(jM:Scope):Option D:=match gens with
  |[]=>none
  |g::_=>do
   let its<-(r.E k sc l g.iter).bind ji
   if jk sc jM gens=true then
   let ds<-comp r k (jO sc jM) (fun l'=>r.E k (jO sc jM) l' elt) gens (jF jM l) its
   if ds.length<=lim then some (.list ds) else none
   else none
noncomputable def bX{K:Type}[BEq K][DecidableEq K](f:D->Option K)(mk:List (K×D)->D)(sc:Scope)(l:Loc)(ke ve:Expr)(g:Comprehension)(jM:Scope)(its:List D):Option D:=(comp r k (jO sc jM) (o7 r k f (jO sc jM) ke ve) [g] (jF jM l) its).bind fun ps=>if ps.length<=lim then (dictK? f [] ps).map mk else none
noncomputable def dcD(sc:Scope)(l:Loc)(ke ve:Expr)(gens:List Comprehension)(jM:Scope):Option D:=match gens with
  |[]=>none
  |g::gs=>match gs with
   |[]=>((r.E k sc l g.iter).bind ji).bind fun its=>if jk sc jM [g]=true then nC (bX r k D.asStr? .dictS sc l ke ve g jM its) (bX r k D.asInt? .dictI sc l ke ve g jM its) else none
   |_::_=>none
noncomputable def bF:List Expr->Option (List Str)
 |[]=>some []
 |e::r=>(strC? e).bind fun x=>(bF r).map (x::·)
noncomputable def tN:List (Option Expr)->Option (List Str)
 |[]=>some []
 |e::r=>(e.bind strC?).bind fun x=>(tN r).map (x::·)
noncomputable def dictD(ks:List (Option Expr))(vs:List Expr):Option D:=(tN ks).bind fun a=>(bF vs).bind fun b=>if 1<=a.length/\a.length<=15/\a.length=b.length/\a.Nodup then some (.dictS (a.zip (b.map .str))) else none
noncomputable def cmpE(sc:Scope)(l:Loc)(a:Expr)(ops:List CmpOp)(bs:List Expr):Option D:=bO ops fun op=>bO bs fun b=>if qH b=true then none else (r.E k sc l a).bind fun x=>(r.E k sc l b).bind fun y=>(gA op x y).map .bool
noncomputable def sl?(e:Expr):Option (Option Expr×Option Expr×Option Expr):=by
 induction e using cE with
 |Slice lo hi st _=>exact some (lo,hi,st)
 |_=>exact none
noncomputable def rO(d:D)(lo hi st:Option Int):Option D:=match d with
 | .list ds=>if st≠some 0/\ds.length<=lim then some (.list (pick ds lo hi st)) else none
 | .str x=>if st=none/\x.length<=lim then some (.str (Txt.slice x lo hi)) else none
 |_=>none
noncomputable def rP(sc:Scope)(l:Loc)(v:Expr)(lo hi st:Option Expr):Option D:=(r.E k sc l v).bind fun d=>(zF r k sc l lo).bind fun lo=>(zF r k sc l hi).bind fun hi=>(zF r k sc l st).bind fun st=>rO d.flat lo hi st
noncomputable def subD(sc:Scope)(l:Loc)(v s:Expr):Option D:=match sl? s with
 |some q=>rP r k sc l v q.1 q.2.1 q.2.2
 |none=>(r.E k sc l v).bind fun x=>(r.E k sc l s).bind fun y=>vY x y
noncomputable def t9(σ:List Int)(k:Int):List Int:=if σ.any (·==k) then σ else σ++[k]
noncomputable def wu(l:List Int):List Int:=l.foldl t9 []
noncomputable def jD1(d:D):Option D:=d.asList?.bind fun ds=>(ints? ds).bind fun ns=>if (wu ns).length<=18/\(wu ns).all (fun x=>decide (0<=x/\x<4096))=true then some (.list ((sortI (wu ns)).map .int)) else none
noncomputable def setArg(g:Expr)(as:List Expr)(ks:List Keyword):Option Expr:=match ks with
 |[]=>bO as fun e=>(nameE? g).bind fun x=>if x="set" then some e else none
 |_::_=>none
noncomputable def setArg?(e:Expr):Option Expr:=by
 induction e using cE with
 |Call g as ks _=>exact setArg g as ks
 |_=>exact none
noncomputable def uK(sc:Scope)(l:Loc)(f:Str)(args:List Expr):Option D:=if f="sorted"/\sc.names.lookup ("set":Str)=some .globalImplicit then bO args fun c=>(setArg? c).bind fun e=>if PySem.W.isStarred e=true then none else (r.E k sc l e).bind jD1 else none
noncomputable def jK3(sc:Scope)(l:Loc)(f:Str)(args:List Expr):Option D:=
  if sc.names.lookup f≠some .globalImplicit\/(f==("__debug__":Str))=true then none else
  if f="reduce" then n8 r k sc l args
  else if f="isinstance" then mS r k sc l args
  else if (fns.lookup f).isSome then (zh r k sc l args).bind fun as=>(zH fns r f as).bind qB
  else nC ((zh r k sc l args).bind fun as=>jr f as) (uK r k sc l f args)
noncomputable def oA(sc:Scope)(l:Loc)(o:Expr)(m:Str)(ap:Pos)(args:List Expr)(cp:Pos):Option D:=if zt o=true\/(ap.endLine==cp.line)=false\/args.length≥20\/args.length=0 then none else
  if m="replace" then mI fns (r.E k sc l o) args
  else (r.E k sc l o).bind fun d=>(zh r k sc l args).bind fun as=>gR d m as
noncomputable def kw0(ks:List Keyword)(o:Option D):Option D:=match ks with
 |[]=>o
 |_::_=>none
noncomputable def callE(sc:Scope)(l:Loc)(f:Expr)(args:List Expr)(ks:List Keyword)(cp:Pos):Option D:=by
 induction f using cE with
 |Name f _=>exact kw0 ks (jK3 fns r k sc l f args)
 |Attribute o m ap=>exact kw0 ks (oA fns r k sc l o m ap args cp)
 |_=>exact none
noncomputable def xK(sc:Scope)(l:Loc)(e:Expr):Option D:=by
 induction e using cE with
 |Constant c _ _=>exact constD c
 |Name x _=>exact nameD fns glob sc l x
 |BinOp a op b _=>exact(r.E k sc l a).bind fun x=>(r.E k sc l b).bind fun y=>vQ op x y
 |UnaryOp op x _=>exact negD op x
 |BoolOp op es _=>exact boolD r k sc l op es
 |IfExp t a b _=>exact(Bt r k sc l 4 t).bind fun c=>if c=true then r.E k sc l a else r.E k sc l b
 |List es _=>exact(zh r k sc l es).bind fun ds=>if ds.length<=lim then some (.list ds) else none
 |Tuple es _ _=>exact(zh r k sc l es).bind fun ds=>if ds.length<=lim then some (.tup ds) else none
 |ListComp elt gens jM _=>exact lcD r k sc l elt gens jM
 |DictComp ke ve gens jM _=>exact dcD r k sc l ke ve gens jM
 |Dict ks vs _=>exact dictD ks vs
 |Compare a ops bs _=>exact cmpE r k sc l a ops bs
 |Subscript v s _=>exact subD r k sc l v s
 |Call f args ks cp=>exact callE fns r k sc l f args ks cp
 |_=>exact none
noncomputable def vg(e:Expr):Bool:=by
 induction e using cE with
 |Tuple _ _ _=>exact true
 |_=>exact false
noncomputable def call1?(e:Expr):Option (Expr×Expr×Pos):=by
 induction e using cE with
 |Call f as ks cp=>exact match ks with
  |[]=>yf as (fun a=>some (f,a,cp)) fun _ _=>none
  |_::_=>none
 |_=>exact none
noncomputable def attrN?(e:Expr):Option (Str×Str×Pos):=by
 induction e using cE with
 |Attribute o m ap=>exact(nameE? o).map fun x=>(x,m,ap)
 |_=>exact none
noncomputable def D.asTup? :D->Option (List D)
 | .tup i=>Option.some i
 |_=>Option.none
noncomputable def xh(e:Expr):Bool:=((call1? e).bind fun q=>nameE? q.1).any fun x=>decide (x=("enumerate":Str))
noncomputable def di(sc:Scope)(l:Loc)(e:Expr):Option (List D):=if sc.names.lookup ("enumerate":Str)=some .globalImplicit/\PySem.W.isStarred e=false then (r.E k sc l e).bind fun d=>d.asTup?.bind fun ds=>if ds.length<=1000 then some (ds.mapIdx fun k d=> .tup [.int k,d]) else none else none
noncomputable def zR(sc:Scope)(l:Loc)(i:Expr):Option (List D):=if xh i=true then (call1? i).bind fun q=>di r k sc l q.2.1 else (r.E k sc l i).bind ji
noncomputable def isAdd(op:Operator):Bool:=by
 induction op using cP with
 |Add=>exact true
 |_=>exact false
noncomputable def ze(e:Expr):Bool:=by
 induction e using cE with
 |List _ _=>exact true
 |BinOp _ op _ _=>exact isAdd op
 |_=>exact false
noncomputable def ownB? :B->Option (List D)
 | .own ds=>some ds
 |_=>none
noncomputable def assS(sc:Scope)(l:jN)(ts:List Expr)(e:Expr):Option (Fl×jN):=yf ts (fun t=>(nameE? t).bind fun x=>if oR sc t=false then none else (r.E k sc (j3 l) e).bind fun d=>if gZ.contains x=true then (if ze e=true then d.asList?.map fun ds=>(.next,jA l x (.own ds)) else none) else some (.next,jA l x (.val d))) fun _ _=>none
noncomputable def fJ(sc:Scope)(l:jN)(x m:Str)(ap:Pos)(a:Expr)(cp:Pos):Option (Fl×jN):=if (ap.endLine==cp.line)=false\/PySem.W.isStarred a=true\/(x==("__debug__":Str))=true\/(x==("__classdict__":Str))=true then none else ((l x).bind ownB?).bind fun ds=>(r.E k sc (j3 l) a).bind fun d=>
 if m="append" then (if ds.length<=lim then some (.next,jA l x (.own (ds++[d]))) else none)
 else if m="extend" then d.asList?.bind fun es=>if ds.length+es.length<=lim then some (.next,jA l x (.own (ds++es))) else none
 else none
noncomputable def exprS(sc:Scope)(l:jN)(e:Expr):Option (Fl×jN):=(call1? e).bind fun q=>(attrN? q.1).bind fun a=>fJ r k sc l a.1 a.2.1 a.2.2 q.2.1 q.2.2
noncomputable def aftS(sc:Scope)(orelse:List Stmt)(x:Fl×jN):Option (Fl×jN):=match x.1 with
 | .next=>(qd r k sc x.2 orelse).bind tH
 | .brk=>some (.next,x.2)
 | .ret _=>some x
 | .exc _ _=>some x
noncomputable def mB(sc:Scope)(l:jN)(t i:Expr)(body orelse:List Stmt):Option (Fl×jN):=if (oR sc t&& !qH i&&(vg t|| !xh i))=false then none else (zR r k sc (j3 l) i).bind fun its=>(forL r k sc t body l its).bind (aftS r k sc orelse)
noncomputable def goS(n:Nat)(sc:Scope)(s:Stmt)(x:Fl×jN):Option (Fl×jN):=match x.1 with
 | .next=>match n with
   |0=>none
   |_+1=>r.S k sc x.2 s
 | .brk=>some (.next,x.2)
 | .ret d=>some (.ret d,x.2)
 | .exc _ _=>none
noncomputable def ee(n:Nat)(sc:Scope)(l:jN)(t:Expr)(body:List Stmt)(s:Stmt):Option (Fl×jN):=(Bt r k sc (xW l) 4 t).bind fun b=>if b=true then (qd r k sc l body).bind (goS r k n sc s) else some (.next,l)
noncomputable def rQ(sc:Scope)(l:jN)(e:Expr):Option (Fl×jN):=(call1? e).bind fun q=>(nameE? q.1).bind fun c=>if (c≠"error_reply"/\c≠"error_proto")\/sc.names.lookup c≠some .globalImplicit\/PySem.W.isStarred q.2.1=true then none else (r.E k sc (j3 l) q.2.1).map fun d=>(.exc c d,l)
noncomputable def whE(n:Nat)(sc:Scope)(l:jN)(t:Expr)(body orelse:List Stmt)(p:Pos):Option (Fl×jN):=match orelse with
 |[]=>ee r k n sc l t body (.While t body [] p)
 |_::_=>none
noncomputable def raiseE(sc:Scope)(l:jN)(e c:Option Expr):Option (Fl×jN):=match c with
 |none=>e.bind (rQ r k sc l)
 |some _=>none
noncomputable def vV(n:Nat)(sc:Scope)(l:jN)(st:Stmt):Option (Fl×jN):=by
 induction st using cS with
 |Assign ts e _=>exact assS r k sc l ts e
 |Expr e _=>exact exprS r k sc l e
 |If t a b _=>exact(Bt r k sc (xW l) 4 t).bind fun c=>if c=true then qd r k sc l a else qd r k sc l b
 |For t i body orelse _=>exact mB r k sc l t i body orelse
 |While t body orelse p=>exact whE r k n sc l t body orelse p
 |Return e _=>exact e.bind fun e=>(r.E k sc (xW l) e).map fun d=>(.ret d,l)
 |Break _=>exact some (.brk,l)
 |Raise e c _=>exact raiseE r k sc l e c
 |_=>exact none
end
noncomputable def ev(fns:List (Str×Fn))(glob:xQ):Nat->Ev
 |0=>⟨fun _ _ _ _=>none,fun _ _ _ _=>none⟩
 |n+1=>⟨xK fns glob (ev fns glob n),fun k=>vV (ev fns glob n) k n⟩
theorem arF{i:Int}{n:Nat}(h:i<n)(k:n<=lim):i<2 ^ 63:=jQr h (Int.lt_of_le_of_lt (Int.ofNat_le.mpr k) kD)
theorem arG{i:Int}{n:Nat}(h: -(n:Int)<=i)(k:n<=lim): -(2 ^ 63)<=i:=jRp (jRp kD (Int.neg_le_neg (Int.ofNat_le.mpr k))) h
theorem e8{a:Int}(h:small a=true): -(2:Int) ^ 60<a/\a<2 ^ 60:=by
 have h:a.natAbs<2 ^ 60:=jNu h
 omega
open PySem.W
structure Cx where
 prog:Program
 w:World
 g0:Heap
 P:Addr
 mg:Str->Option Value
 mb:Str->Option Value
 fns:List (Str×Fn)
 glob:xQ
 c:Addr
 lq:Str
noncomputable abbrev Cx.M(C:Cx):Model:=model C.prog C.w
abbrev RD(C:Cx)(h:Heap)(Y:List Addr)(v:Value)(d:D):Prop:=R C.prog C.w (view h Y) v d
abbrev qM(C:Cx)(h:Heap)(Y:List Addr)(v:List Value)(d:List D):Prop:=Rs C.prog C.w (view h Y) v d
noncomputable def y9:List Str:=["len","sum","range","sorted","max","str","int","list","enumerate","isinstance","set","iter","next"]
noncomputable def zy:List Str:=["__init__","__getattribute__","__getattr__","args","__str__"]
noncomputable def u6:List Value:=[.type "Exception",.type "BaseException",.type "object"]
def bI(h:Heap)(cl uI:Addr):Prop:=∃(nm q:Str) (N:Addr) (bs:List Value) (hdct:Bool) (sn:List Str) (sub:List Value) (ab:Bool) (col:Option Bool) (dd:Option Addr) (k0 k1 k2 k3 k5:Option Value) (newId Bn inN:String) (bmN:List Value)
    (c0:Value) (aO:Option Addr) (cd:ClassData) (sl:Array (Option Value)) (mN mE:Str->Option Value),
 ExcBaseFacts Bn newId inN bmN/\u6.contains (.type Bn)=true/\h.get? cl=some (excClassObj nm q cl N bs (.ref uI::u6) hdct sn sub ab col dd k0 k1 k2 k3 k5 newId)/\h.Ns N mN/\(∀x∈zy,mN x=none)/\
 h.get? uI=some { cls:=c0,dict:=aO,data:= .cls cd,slots:=sl }/\h.Ns cd.ns mE/\∀x∈zy,mE x=none
noncomputable def c9(p1 p2 p3:Pos)(es:List Expr):Arguments:=⟨[],[⟨"function",none,p1⟩,⟨"sequence",none,p2⟩,⟨"initial",none,p3⟩],none,[],[],none,es⟩
noncomputable def rIt(p:Nat->Pos):Stmt:= .Assign [.Name "it" (p 0)] (.Call (.Name "iter" (p 1)) [.Name "sequence" (p 2)] [] (p 3)) (p 4)
noncomputable def rNx(p:Nat->Pos):Stmt:= .Assign [.Name "value" (p 8)] (.Call (.Name "next" (p 9)) [.Name "it" (p 10)] [] (p 11)) (p 12)
noncomputable def rVi(p:Nat->Pos):Stmt:= .Assign [.Name "value" (p 14)] (.Name "initial" (p 15)) (p 16)
noncomputable def rIf(p:Nat->Pos)(hs:List ExceptHandler):Stmt:= .If (.Compare (.Name "initial" (p 5)) [.Is] [.Name "_initial_missing" (p 6)] (p 7)) [.Try [rNx p] hs [] [] (p 13)] [rVi p] (p 17)
noncomputable def rB(p:Nat->Pos):Stmt:= .Assign [.Name "value" (p 20)] (.Call (.Name "function" (p 21)) [.Name "value" (p 22),.Name "element" (p 23)] [] (p 24)) (p 25)
noncomputable def rFor(p:Nat->Pos):Stmt:= .For (.Name "element" (p 18)) (.Name "it" (p 19)) [rB p] [] (p 26)
noncomputable def iD(p:Nat->Pos):List Stmt:=[rFor p,.Return (some (.Name "value" (p 27))) (p 28)]
structure o8(fn:Fn):Prop where
 ok:oL fn=true
 names:fn.names=(["function","sequence","initial"]:List Str)
 params:∃p1 p2 p3 es,fn.params=c9 p1 p2 p3 es
 loc:∀x∈(["function","sequence","initial","it","value","element"]:List Str),fn.scope.names.lookup x=some .local
 glb:∀x∈(["iter","next","_initial_missing"]:List Str),fn.scope.names.lookup x=some .globalImplicit
 shape:∃(p:Nat->Pos) (h0:ExceptHandler) (hs:List ExceptHandler),fn.body=rIt p::rIf p (h0::hs)::iD p
structure Base(C:Cx):Prop where
 g:C.g0.Ns mainGlobals C.mg
 b:C.g0.Ns builtinsNs C.mb
 nolimit:C.g0.NoLimit
 hP:C.g0.get? C.P=none
 fn:∀x f,C.fns.lookup x=some f->∃a o pm code doc,C.mg x=some (.ref a)/\C.g0.get? a=some o/\o.data= .func (docDef x f.params f.body f.scope pm code doc)/\C.g0.CodeRec code x
 okf:∀x f,C.fns.lookup x=some f->oL f=true
 gl:∀x d,C.glob.lookup x=some d->∃v,C.mg x=some v/\R C.prog C.w C.g0.get? v d
 bi:∀x∈y9,C.mg x=none/\C.mb x=bootBuiltins x
 sys:(C.g0.get? sysModules).isSome=true
 red:∃(fn:Fn) (ar:Addr) (o:Obj) (pm code doc:Value) (dt ai:Addr) (fU:Obj) (nt:Nat) (oi:Obj),o8 fn/\C.mg "reduce"=some (.ref ar)/\C.g0.get? ar=some o/\o.data= .func { docDef "reduce" fn.params fn.body fn.scope pm code doc with defaults:= .ref dt }/\C.g0.CodeRec code "reduce"/\
  C.g0.get? dt=some fU/\fU.data= .seq #[.ref ai] nt/\C.mg "_initial_missing"=some (.ref ai)/\C.g0.get? ai=some oi/\oi.cls= .type "object"
 hd:CodeHd C.g0 C.c C.P
 bat:∃bm o,C.mg "__builtins__"=some (.ref bm)/\bm≠builtinsNs/\bm≠mainGlobals/\C.g0.get? bm=some o/\o.cls= .type "module"/\o.dict=some builtinsNs/\o.data= .plain
 exc:∃xD xH uI,C.mg "error_reply"=some (.ref xD)/\C.mg "error_proto"=some (.ref xH)/\bI C.g0 xD uI/\bI C.g0 xH uI/\xD≠xH/\xD≠uI/\xH≠uI
inductive jd (C:Cx) (h:Heap):Prop
 |mk:∀ps,h.get? C.P=some (tabObj ps)->TriplesOk ps.toList->(∀pos cv,codeAmong pos ps.toList=some cv->h.CodeRec cv C.lq)->jd C h
structure Gr(C:Cx)(s:Shared):Prop where
 keep:∀b o,C.g0.get? b=some o->s.heap.get? b=some o
 tab:jd C s.heap
 toks:(C.fns.lookup ("_law_said":Str)).isSome=true->0<s.toks
def jq(C:Cx)(h:Heap)(c:Addr):Prop:=∃ps pos,h.get? C.P=some (tabObj ps)/\codeAmong pos ps.toList=some (.ref c)
def qL(C:Cx)(h h':Heap):Prop:=jd C h->jd C h'/\∀c,jq C h' c->jq C h c\/h.get? c=none
inductive KP (C:Cx) (s s':Shared):Prop
 |mk:∀h' tk,s'={ s with heap:=h',toks:=tk }->s.toks<=tk->((∀b o,b≠C.P->s.heap.get? b=some o->h'.get? b=some o))->qL C s.heap h'->KP C s s'
theorem jd.keeps{C:Cx}{h h':Heap}(x:jd C h)(k:∀b o,h.get? b=some o->h'.get? b=some o):jd C h':=by
 obtain⟨ps,h1,h2,h3⟩:=x
 exact⟨ps,k _ _ h1,h2,fun pos cv e=>(h3 pos cv e).keeps k⟩
theorem qL.keeps{C:Cx}{h h':Heap}(k:∀b o,h.get? b=some o->h'.get? b=some o):qL C h h':=fun x=>
 ⟨x.keeps k,fun c hc=>by
  obtain⟨ps,h1,h2,h3⟩:=x
  show qA hc fun tf pos e1 e2=> ?_;clear hc
  rw[k _ _ h1] at e1
  cases e1
  exact .inl ⟨ps,pos,h1,e2⟩⟩
theorem jd.code{C:Cx}{h:Heap}(x:jd C h){c:Addr}(hc:jq C h c):∃o,h.get? c=some o:=by
 obtain⟨ps,h1,h2,h3⟩:=x
 show qA hc fun tf pos e1 e2=> ?_;clear hc
 rw[h1] at e1;cases e1
 show dD (h3 pos _ e2) fun c' o vs t oj ho _=> ?_
 cases oj
 exact⟨o,ho⟩
theorem KP.refl{C:Cx}(s:Shared):KP C s s:=⟨s.heap,s.toks,rfl,jNi _,fun _ _ _ e=>e,.keeps fun _ _ e=>e⟩
theorem KP.of{C:Cx}{s:Shared}{h':Heap}{tk:Nat}(ht:s.toks<=tk)(k:∀b o,s.heap.get? b=some o->h'.get? b=some o):KP C s { s with heap:=h',toks:=tk }:=
 ⟨h',tk,rfl,ht,fun b o _ e=>k b o e,.keeps k⟩
theorem KP.tok{C:Cx}{s:Shared}{tk:Nat}(ht:s.toks<=tk):KP C s { s with toks:=tk }:=KP.of ht fun _ _ e=>e
theorem KP.push{C:Cx}{s:Shared}{o:Obj}{tk:Nat}(ht:s.toks<=tk):KP C s { s with heap:=s.heap.push o,toks:=tk }:=KP.of ht fun _ _ e=>vK _ e
theorem KP.heap{C:Cx}{s s':Shared}(x:KP C s s'){b:Addr}{o:Obj}(hb:b≠C.P)(e:s.heap.get? b=some o):s'.heap.get? b=some o:=by
 obtain⟨h1,t1,rfl,l1,k1,b1⟩:=x
 exact k1 b o hb e
theorem KP.tabTo{C:Cx}{s s':Shared}(x:KP C s s'):qL C s.heap s'.heap:=by
 obtain⟨h1,t1,rfl,l1,k1,b1⟩:=x
 exact b1
theorem KP.tab{C:Cx}{s s':Shared}(x:KP C s s')(h:jd C s.heap):jd C s'.heap:=(x.tabTo h).1
theorem KP.toks{C:Cx}{s s':Shared}(x:KP C s s'):s.toks<=s'.toks:=by
 obtain⟨h1,t1,rfl,l1,k1,b1⟩:=x
 exact l1
theorem KP.some{C:Cx}{s s':Shared}(x:KP C s s')(t:jd C s.heap){a:Addr}(h:∃o,s.heap.get? a=some o):∃o,s'.heap.get? a=some o:=by
 by_cases hb:a=C.P
 .subst hb
  obtain⟨ps,h1,_⟩:=x.tab t
  exact⟨_,h1⟩
 .obtain⟨o,e⟩:=h
  exact⟨o,x.heap hb e⟩
theorem none_of{h:Heap}{c:Addr}(x:¬∃o,h.get? c=some o):h.get? c=none:=by
 generalize e:h.get? c=x0;induction x0 using cO with
 |none=>rfl
 |some o=>exact absurd ⟨o,e⟩ x
theorem KP.trans{C:Cx}{s s' k7:Shared}(x:KP C s s')(y:KP C s' k7):KP C s k7:=by
 have x':=x
 obtain⟨h1,t1,rfl,l1,k1,b1⟩:=x
 obtain⟨h2,t2,rfl,l2,k2,b2⟩:=y
 show⟨h2,t2,rfl,x8 l1 l2,fun b o hb e=>k2 b o hb (k1 b o hb e),fun z=>⟨(b2 (b1 z).1).1,fun c hc=> ?_⟩⟩
 rcases (b2 (b1 z).1).2 c hc with h|h
 .exact(b1 z).2 c h
 .show .inr (none_of fun hs=> ?_)
  obtain⟨o,ho⟩:=x'.some z hs
  rw[h] at ho;exact zn ho
theorem Gr.kp{C:Cx}(Bs:Base C){s s':Shared}(g:Gr C s)(x:KP C s s'):Gr C s':=
 ⟨fun b o e=>x.heap (fun hb=>by rw[hb,Bs.hP] at e;exact zn e) (g.keep b o e),x.tab g.tab,fun e=>jNc (g.toks e) x.toks⟩
theorem Gr.ne{C:Cx}{s:Shared}(g:Gr C s){a:Addr}{o:Obj}(e:s.heap.get? a=some o)(hc:o.cls≠.none):a≠C.P:=by
 intro h;subst h
 obtain⟨ps,h1,_⟩:=g.tab
 rw[h1] at e;replace e:=jX e;subst e;exact hc rfl
theorem RD.kp{C:Cx}{s s':Shared}{Y:List Addr}{v:Value}{d:D}(x:KP C s s')(hP:C.P∈Y)(r:RD C s.heap Y v d):RD C s'.heap Y v d:=
 R.mono (fun a o e=>by
  obtain⟨e,n⟩:=jG e
  exact jT (x.heap (fun h=>n (h▸hP)) e) n) r
theorem qM.kp{C:Cx}{s s':Shared}{Y:List Addr}{v:List Value}{d:List D}(x:KP C s s')(hP:C.P∈Y)(r:qM C s.heap Y v d):qM C s'.heap Y v d:=
 Rs.mono (fun a o e=>by
  obtain⟨e,n⟩:=jG e
  exact jT (x.heap (fun h=>n (h▸hP)) e) n) r
def jg(env:Env)(h:Heap)(x:Str)(v:Value):Prop:=
 (env.kindOf x=some .local/\∃m,h.Ns env.locals m/\m x=some v)\/((env.kindOf x=some .cell\/env.kindOf x=some .free)/\∃c,env.cells.lookup x=some c/\h.IsCell c (some v))
theorem j8{C:Cx}{h:Heap}(t:jd C h){a:Addr}{m:Str->Option Value}(n:h.Ns a m):a≠C.P:=by
 intro e;subst e
 obtain⟨ps,h1,_⟩:=t
 show ja n fun o es ep ho hd _=> ?_;clear n
 rw[h1] at ho;replace ho:=jX ho;subst ho;cases hd
theorem jz{C:Cx}{h:Heap}(t:jd C h){a:Addr}{v:Option Value}(n:h.IsCell a v):a≠C.P:=by
 intro e;subst e
 obtain⟨ps,h1,_⟩:=t
 show jE n fun o ho hd=> ?_;clear n
 rw[h1] at ho;replace ho:=jX ho;subst ho;cases hd
theorem jg.kp{C:Cx}{s s':Shared}{env:Env}{x:Str}{v:Value}(t:jd C s.heap)(k:KP C s s')(a:jg env s.heap x v):jg env s'.heap x v:=by
 rcases a with ⟨hk,m,hn,hm⟩|⟨hk,c,hc,hv⟩
 .exact .inl ⟨hk,m,hn.at fun o e=>k.heap (j8 t hn) e,hm⟩
 .show jE (id hv) fun o ho hd=> ?_
  exact .inr ⟨hk,c,hc,o,k.heap (jz t hv) ho,hd⟩
structure tP(C:Cx)(k:Bool)(env:Env):Prop where
 kind:env.scope.kind= .function
 glob:env.globals=mainGlobals
 bi:env.builtins=builtinsNs
 cells:∀n,env.kindOf n=some .cell\/env.kindOf n=some .free->(env.cells.lookup n).isSome=true
 lam:k=true->env.code= .ref C.c/\env.qual++("<lambda>":Str)=C.lq
def mF(C:Cx)(Y:List Addr)(env:Env)(h:Heap)(l:Loc):Prop:=∀x d,l x=some d->∃v,jg env h x v/\RD C h Y v d
theorem mF.kp{C:Cx}{s s':Shared}{Y:List Addr}{env:Env}{l:Loc}(t:jd C s.heap)(k:KP C s s')(hP:C.P∈Y)(e:mF C Y env s.heap l):mF C Y env s'.heap l:=fun x d hx=>by
 show jE (e x d hx) fun v a r=> ?_
 exact⟨v,a.kp t k,r.kp k hP⟩
structure y0(n:Nat)(A:Around):Prop where
 handled:A.handled=none
 depth:A.depth+3 * n<900
 units:A.units+40 * n<9000
theorem y0.mono{n m:Nat}{A:Around}(h:y0 n A)(hm:m<=n):y0 m A:=⟨h.handled,by have:=h.depth;lia,by have:=h.units;lia⟩
structure fG(env:Env)(h:Heap):Prop where
 ns:∃m,h.Ns env.locals m
 cl:∀p∈env.cells,∃v,h.IsCell p.2 v
 apart:env.cells.Pairwise fun x y=>x.2≠y.2
theorem fG.kp{C:Cx}{s s':Shared}{env:Env}(t:jd C s.heap)(k:KP C s s')(f:fG env s.heap):fG env s'.heap:=by
 obtain⟨⟨m,hn⟩,hc,ha⟩:=f
 show⟨⟨m,hn.at fun o e=>k.heap (j8 t hn) e⟩,fun p hp=> ?_,ha⟩
 obtain⟨v,hv⟩:=hc p hp
 show jE (id hv) fun o ho hd=> ?_
 exact⟨v,o,k.heap (jz t hv) ho,hd⟩
noncomputable abbrev NE:Value->Shared->Prop:=fun _ _=>False
def SE(C:Cx)(n:Nat)(r:Ev):Prop:=∀(k:Bool) (A:Around) (env:Env) (Y:List Addr) (l:Loc) (e:Expr) (d:D) (s:Shared) (Q:qN),
 y0 n A->tP C k env->Gr C s->C.P∈Y->(∀a∈Y,C.g0.get? a=none)->(∀a∈Y,∃o,s.heap.get? a=some o)->fG env s.heap->(∀p∈env.cells,p.2∈Y)->mF C Y env s.heap l->r.E k env.scope l e=some d->
 (∀v s',KP C s s'->RD C s'.heap Y v d->Q v s')->wpAny C.M A (eval e env) Q NE s
theorem yA{C:Cx}{α:Type}{A:Around}{t:Sem α}{Q:α->Shared->Prop}{s:Shared}(h:wpAny C.M A t (fun a s'=>s.toks<=s'.toks->Q a s') NE s):wpAny C.M A t Q NE s:=
 wpAny_with_toks nL (jNh h (fun _ _ x=>x) fun _ _ x=>x.elim)
structure Pre(C:Cx)(n:Nat)(k:Bool)(A:Around)(env:Env)(Y:List Addr)(l:Loc)(s:Shared):Prop where
 bs:Base C
 a:y0 n A
 eo:tP C k env
 gr:Gr C s
 hP:C.P∈Y
 hY:∀a∈Y,C.g0.get? a=none
 hYs:∀a∈Y,∃o,s.heap.get? a=some o
 fm:fG env s.heap
 hc:∀p∈env.cells,p.2∈Y
 loc:mF C Y env s.heap l
theorem Pre.kp{C:Cx}{n:Nat}{k:Bool}{A:Around}{env:Env}{Y:List Addr}{l:Loc}{s s':Shared}(p:Pre C n k A env Y l s)(x:KP C s s'):Pre C n k A env Y l s':=
 ⟨p.bs,p.a,p.eo,p.gr.kp p.bs x,p.hP,p.hY,fun a ha=>x.some p.gr.tab (p.hYs a ha),p.fm.kp p.gr.tab x,p.hc,p.loc.kp p.gr.tab x p.hP⟩
theorem Pre.mono{C:Cx}{n m:Nat}{k:Bool}{A:Around}{env:Env}{Y:List Addr}{l:Loc}{s:Shared}(p:Pre C n k A env Y l s)(hm:m<=n):Pre C m k A env Y l s:=
 ⟨p.bs,p.a.mono hm,p.eo,p.gr,p.hP,p.hY,p.hYs,p.fm,p.hc,p.loc⟩
theorem SE.at{C:Cx}{n:Nat}{r:Ev}(S:SE C n r){k:Bool}{A:Around}{env:Env}{Y:List Addr}{l:Loc}{e:Expr}{d:D}{s:Shared}{Q:qN}(p:Pre C n k A env Y l s)(h:r.E k env.scope l e=some d)
  (hQ:∀v s',KP C s s'->Pre C n k A env Y l s'->RD C s'.heap Y v d->Q v s'):wpAny C.M A (eval e env) Q NE s:=
 S k A env Y l e d s Q p.a p.eo p.gr p.hP p.hY p.hYs p.fm p.hc p.loc h fun v s' x r=>hQ v s' x (p.kp x) r
theorem Pre.lt{C:Cx}{n:Nat}{k:Bool}{A:Around}{env:Env}{Y:List Addr}{l:Loc}{s:Shared}(p:Pre C n k A env Y l s):∀a∈Y,a<s.heap.objs.size:=fun a ha=>by
 obtain⟨o,e⟩:=p.hYs a ha
 exact jM1 e
section
variable{C:Cx}{n:Nat}{r:Ev}{k:Bool}{A:Around}{env:Env}{Y:List Addr}{l:Loc}{s:Shared}{Q:qN}
abbrev Kq(C:Cx)(Y:List Addr)(d:D)(s:Shared)(Q:qN):Prop:=∀v s',KP C s s'->RD C s'.heap Y v d->Q v s'
theorem E_none{kd:Nat}{pos:Pos}(q:Kq C Y .none s Q):wpAny C.M A (eval (.Constant .none kd pos) env) Q NE s:=jMr (q _ _ (KP.refl s) .none)
theorem E_bool{b:Bool}{kd:Nat}{pos:Pos}(q:Kq C Y (.bool b) s Q):wpAny C.M A (eval (.Constant (.bool b) kd pos) env) Q NE s:=jMr (q _ _ (KP.refl s) (.bool b))
theorem tQ{i:Int}{kd:Nat}{pos:Pos}(q:Kq C Y (.int i) s Q):wpAny C.M A (eval (.Constant (.int i) kd pos) env) Q NE s:=wpAny_Constant_int (q _ _ (KP.tok (jM5 _)) (.int i _))
theorem m9{x:Str}{kd:Nat}{pos:Pos}(q:Kq C Y (.str x) s Q):wpAny C.M A (eval (.Constant (.str x) kd pos) env) Q NE s:=by
 rw[jQ5]
 exact jRh (q _ _ (KP.tok (jM5 _)) (.str x _))
theorem m8{B:Around}{x:Str}{pos:Pos}{v:Value}(p:Pre C n k A env Y l s)(a:jg env s.heap x v)(hd:(x==("__debug__":Str))=false)(hc:(x==("__classdict__":Str))=false)(q:Q v s):wpAny C.M B (eval (.Name x pos) env) Q NE s:=by
 show wpAny_Name ?_ hd
 rcases a with ⟨hk,m,hn,hm⟩|⟨hk,c,hc',hv⟩
 .exact wpAny_loadName_local p.eo.kind hk hn hm q
 .rcases hk with hk|hk
  .exact wpAny_loadName_cell p.eo.kind hk hc' hv q
  .exact wpAny_loadName_free p.eo.kind hk hc' hv q hc
theorem Gr.globals(bs:Base C)(g:Gr C s):s.heap.Ns mainGlobals C.mg:=bs.g.keeps g.keep
theorem Gr.builtins(bs:Base C)(g:Gr C s):s.heap.Ns builtinsNs C.mb:=bs.b.keeps g.keep
theorem qh{B:Around}{x:Str}{pos:Pos}{v:Value}(p:Pre C n k A env Y l s)(hk:env.kindOf x=some .globalImplicit)(hv:C.mg x=some v)(hd:(x==("__debug__":Str))=false)(q:Q v s):wpAny C.M B (eval (.Name x pos) env) Q NE s:=by
 show Name_function_global p.eo.kind hk (loadGlobal_global (mg:=C.mg) ?_ hv q) hd
 rw[p.eo.glob];exact p.gr.globals p.bs
theorem qi{B:Around}{x:Str}{pos:Pos}{v:Value}(p:Pre C n k A env Y l s)(hk:env.kindOf x=some .globalImplicit)(hm:x∈y9)(hv:bootBuiltins x=some v)(hd:(x==("__debug__":Str))=false)(q:Q v s):wpAny C.M B (eval (.Name x pos) env) Q NE s:=by
 show Name_function_global p.eo.kind hk (loadGlobal_builtin (mg:=C.mg) (mb:=C.mb) ?_ (p.bs.bi x hm).1 ?_ ((p.bs.bi x hm).2.trans hv) q) hd
 .rw[p.eo.glob];exact p.gr.globals p.bs
 .rw[p.eo.bi];exact p.gr.builtins p.bs
theorem jFp(g:Gr C s)(hY:∀a∈Y,C.g0.get? a=none){v:Value}{d:D}(x:R C.prog C.w C.g0.get? v d):RD C s.heap Y v d:=
 R.mono (fun a o e=>jT (g.keep a o e) fun h=>by rw[hY a h] at e;exact zn e) x
theorem jH2{a b:Expr}{op:Operator}{pos:Pos}(h:wpAny C.M A (eval a env) (fun x s₁=>wpAny C.M A (eval b env) (fun y s₂=>wpAny C.M A (binaryOp op x y) Q NE s₂) NE s₁) NE s):wpAny C.M A (eval (.BinOp a op b pos) env) Q NE s:=jRu h
variable{prog:Program}{w:World}{H:HV}{v:Value}
theorem R.int_inv{i:Int}(h:R prog w H v (.int i)):∃t,v= .int i t:=h.inv
theorem R.str_inv{x:Str}(h:R prog w H v (.str x)):∃t,v= .str x t:=h.inv
theorem R.bool_inv{b:Bool}(h:R prog w H v (.bool b)):v= .bool b:=h.inv
theorem R.none_inv(h:R prog w H v .none):v= .none:=h.inv
theorem R.list_inv{ds:List D}(h:R prog w H v (.list ds)):∃a vs n,v= .ref a/\H a=some (j4 vs n)/\Rs prog w H vs ds:=h.inv
theorem R.tup_inv{ds:List D}(h:R prog w H v (.tup ds)):∃a vs n,v= .ref a/\H a=some (xo vs n)/\Rs prog w H vs ds:=h.inv
theorem R.rng_inv{a b:Int}(h:R prog w H v (.rng a b)):∃r t u z,v= .ref r/\H r=some { cls:= .type "range",data:= .fields #[.int a t,.int b u,.int 1 z] }:=h.inv
theorem xN{o:Obj}{tk:Nat}(hY:∀a∈Y,a<s.heap.objs.size)(hf:o.isFreed=false):view ({ s with heap:=s.heap.push o,toks:=tk }:Shared).heap Y s.heap.objs.size=some o:=
 jT (jMw _ hf) fun h=>jNp _ (hY _ h)
theorem sz{m:Nat}(h:m<=lim):m<=sizeLine:=by
 have:sizeLine=16777216:=by decide
 have:lim=1000000:=by decide
 exact j6
theorem jBy{a:Int}(h:small a=true):Builtin.Int.intBits a<=64:=by
 exact intBits_le_64 (jQr kD (e8 h).1) (jQr (e8 h).2 kD)
theorem mulOk{x:Str}{m:Int}(h:x.length<=100/\0<=m/\m<=100):MulOk x m:=by
 show uX h fun h1 h2 h3=> ?_;clear h
 show⟨by simp;lia,?_,?_⟩
 .intro h4 _ h5
  have h7:(x.length:Int) * m<=100 * 100:=Int.mul_le_mul (Int.ofNat_le.mpr h1) h3 h2 kD
  have h6:(x.length:Int)<=(2 ^ 63 - 1) / m:=(Int.le_ediv_iff_mul_le (by lia)).mpr (by lia)
  lia
 .intro _ _
  have h7:x.length * m.toNat<=100 * 100:=Nat.mul_le_mul h1 (Int.toNat_le.mpr h3)
  have:sizeLine=16777216:=by decide
  unfold Builtin.Str.tooLong
  simp;exact j6
theorem jJd{op:Operator}{a b i:Int}{t u:Tok}(h:intOp op a b=some i)(q:Kq C Y (.int i) s Q):wpAny C.M A (binaryOp op (.int a t) (.int b u)) Q NE s:=by
 have q':=fun tk=>q (.int i tk) _ (KP.tok (jM5 _)) (.int _ _)
 induction op using cP with
 |Add=>(replace h:=jX h;subst h);exact P.add_int (q' _)
 |Sub=>(replace h:=jX h;subst h);exact P.sub_int (q' _)
 |Mult=>
  have h:(if (small a||small b)=true then some (a * b) else none)=some i:=h
  revert h;show yT (fun hs h=> ?_) fun _ h=> ?_
  .replace h:=jX h;subst h
   show P.mul_int (q' _) ?_
   rcases Bool.or_eq_true_iff.mp hs with hs|hs
   .exact .of_left (jBy hs)
   .exact .of_right (jBy hs)
  .exact nn h
 |FloorDiv=>
  have h:(if b≠0/\b.natAbs<1073741824 then some (a.fdiv b) else none)=some i:=h
  revert h;show yT (fun hs h=> ?_) fun _ h=> ?_
  .replace h:=jX h;subst h
   exact floordiv_int hs.1 (q' _) (.inl (PyProof.noPylong_small hs.2))
  .exact nn h
 |Mod=>
  have h:(if b≠0 then some (a.fmod b) else none)=some i:=h
  revert h;show yT (fun hs h=> ?_) fun _ h=> ?_
  .replace h:=jX h;subst h
   exact mod_int' hs (q' _)
  .exact nn h
 |Pow=>
  have h:(if (a=2\/a=8)/\0<=b/\b<=64 then some (a ^ b.toNat) else none)=some i:=h
  revert h;show yT (fun hs h=> ?_) fun _ h=> ?_
  .replace h:=jX h;subst h
   show pow_int_small hs.2.1 (by lia) ?_ (q' _)
   rcases hs.1 with rfl|rfl <;> decide
  .exact nn h
 |BitAnd=>(replace h:=jX h;subst h);exact and_int (q' _)
 |BitOr=>(replace h:=jX h;subst h);exact or_int (q' _)
 |_=>exact nn h
theorem wV{op:Operator}{x y:Value}{a b d:D}(hP:C.P∈Y)(hY:∀a∈Y,a<s.heap.objs.size)(h:vQ op a b=some d)(hx:RD C s.heap Y x a)(hy:RD C s.heap Y y b)(q:Kq C Y d s Q):wpAny C.M A (binaryOp op x y) Q NE s:=by
 induction a using cD with
 |int a=>
  induction b using cD with
  |int b=>
   show mE h ?_;rintro i hi rfl
   obtain⟨t,rfl⟩:=hx.int_inv
   obtain⟨u,rfl⟩:=hy.int_inv
   exact jJd hi q
  |_=>exact nn h
 |str a=>
  induction b using cD with
  |str b=>
   induction op using cP with
   |Add=>
    have h:(if a.length+b.length<=lim then some (D.str (a++b)) else none)=some d:=h
    revert h;show yT (fun hs h=> ?_) fun _ h=> ?_
    .replace h:=jX h;subst h;obtain⟨t,rfl⟩:=hx.str_inv;obtain⟨u,rfl⟩:=hy.str_inv
     exact yA (SB.add (fun t' k' ht=>q _ _ (KP.tok ht) (.str _ _)) (sz hs))
    .exact nn h
   |_=>exact nn h
  |int b=>
   induction op using cP with
   |Mult=>
    have h:(if a.length<=100/\0<=b/\b<=100 then some (D.str (Txt.mul a b)) else none)=some d:=h
    revert h;show yT (fun hs h=> ?_) fun _ h=> ?_
    .replace h:=jX h;subst h;obtain⟨t,rfl⟩:=hx.str_inv;obtain⟨u,rfl⟩:=hy.int_inv
     exact yA (SB.mul (mulOk hs) (fun t' k' ht=>q _ _ (KP.tok ht) (.str _ _)))
    .exact nn h
   |_=>exact nn h
  |_=>exact nn h
 |list a=>
  induction b using cD with
  |list b=>
   induction op using cP with
   |Add=>
    have h:(if a.length+b.length<=lim then some (D.list (a++b)) else none)=some d:=h
    revert h;show yT (fun hs h=> ?_) fun _ h=> ?_
    .replace h:=jX h;subst h
     show ja hx.list_inv ?_;rintro a1 vs n1 rfl h1 r1
     show ja hy.list_inv ?_;rintro a2 ws n2 rfl h2 r2
     have l1:=r1.length
     have l2:=r2.length
     show P.add_list (jG h1).1 (jG h2).1 (q _ _ (KP.push nL) ?_) (by simp only[List.size_toArray];exact sz (by lia))
     show .list (vs:=vs++ws) (n:=0) ?_ (qM.kp (KP.push nL) hP (r1.append r2))
     rw[List.append_toArray]
     exact xN (tk:=s.toks) (o:=j4 (vs++ws) 0) hY rfl
    .exact nn h
   |_=>exact nn h
  |_=>exact nn h
 |_=>exact nn h
open PySem.SeqAt
theorem vp{a:D}{i:Int}(h:a.asInt? =some i):a= .int i:=by cases a <;> first|exact nn h|exact jM8 _ (jX h)
theorem xl{a:D}{i:Str}(h:a.asStr? =some i):a= .str i:=by cases a <;> first|exact nn h|exact jM8 _ (jX h)
theorem wW{a:D}{i:List D}(h:a.asList? =some i):a= .list i:=by cases a <;> first|exact nn h|exact jM8 _ (jX h)
theorem yH{a d:D}{f:Int->Option D}(h:a.asInt?.bind f=some d):∃i,a= .int i/\f i=some d:=by
 show bE h fun i h1 h2=> ?_
 exact⟨i,vp h1,h2⟩
theorem asIntB{α:Type}{a:D}{d:α}{f:Int->Option α}(h:a.asInt?.bind f=some d):∃i,a= .int i/\f i=some d:=by
 show bE h fun i h1 h2=> ?_
 exact⟨i,vp h1,h2⟩
theorem asStrB{α:Type}{a:D}{d:α}{f:Str->Option α}(h:a.asStr?.bind f=some d):∃i,a= .str i/\f i=some d:=by
 show bE h fun i h1 h2=> ?_
 exact⟨i,xl h1,h2⟩
theorem kW{a d:D}{f:Int->D}(h:a.asInt?.map f=some d):∃i,a= .int i/\f i=d:=by
 show mE h fun i h1 h2=> ?_
 exact⟨i,vp h1,h2⟩
theorem qD{a d:D}{f:Str->Option D}(h:a.asStr?.bind f=some d):∃i,a= .str i/\f i=some d:=by
 show bE h fun i h1 h2=> ?_
 exact⟨i,xl h1,h2⟩
theorem qW{a d:D}{f:List D->Option D}(h:a.asList?.bind f=some d):∃i,a= .list i/\f i=some d:=by
 show bE h fun i h1 h2=> ?_
 exact⟨i,wW h1,h2⟩
theorem jHt:∀{l:List D} {a:D},a∈l->a.dep<=D.deps l
 |b::r,a,h=>by
  rw[dpC]
  rcases j0.mp h with e0|h
  .rw[e0];exact Nat.le_max_left _ _
  .exact x8 (jHt h) (Nat.le_max_right _ _)
theorem qv{a b:D}{r q:List D}(h:D.likes (a::r) (b::q)=true):D.like a b=true/\D.likes r q=true:=jM2.mp h
theorem yE{a:D}{r:List D}(h:D.deps (a::r)<=n):a.dep<=n/\D.deps r<=n:=Nat.max_le.mp h
theorem yq{P:D->D->Prop}{a b:D}(h:D.like a b=true)(h1:∀i j,P (.int i) (.int j))(h2:∀i j,P (.str i) (.str j))(h3:∀i j,D.likes i j=true->P (.list i) (.list j))(h4:∀i j,D.likes i j=true->P (.tup i) (.tup j)):P a b:=by
 induction a using cD with
 |int i=>induction b using cD with
  |int j=>exact h1 _ _
  |_=>exact ff h
 |str i=>induction b using cD with
  |str j=>exact h2 _ _
  |_=>exact ff h
 |list i=>induction b using cD with
  |list j=>exact h3 _ _ h
  |_=>exact ff h
 |tup i=>induction b using cD with
  |tup j=>exact h4 _ _ h
  |_=>exact ff h
 |_=>exact ff h
theorem jHj{vs ws:List Value}{m:Nat}(h:Data.seq vs.toArray n= .seq ws.toArray m):vs=ws:=by
 injection h with h
 exact jM8 Array.toList h
theorem R.two_list{i j:List D}(h:R prog w H v (.list i))(g:R prog w H v (.list j)):∃vs,Rs prog w H vs i/\Rs prog w H vs j:=by
 show ja h.list_inv fun a1 vs n1 e1 h1 r1=> ?_
 show ja g.list_inv fun a2 ws n2 e2 h2 r2=> ?_
 cases Value.ref.inj (e1.symm.trans e2)
 have e:vs=ws:=jHj (jM8 Obj.data (jX (h1.symm.trans h2)))
 exact⟨vs,r1,e▸r2⟩
theorem R.two_tup{i j:List D}(h:R prog w H v (.tup i))(g:R prog w H v (.tup j)):∃vs,Rs prog w H vs i/\Rs prog w H vs j:=by
 show ja h.tup_inv fun a1 vs n1 e1 h1 r1=> ?_
 show ja g.tup_inv fun a2 ws n2 e2 h2 r2=> ?_
 cases Value.ref.inj (e1.symm.trans e2)
 have e:vs=ws:=jHj (jM8 Obj.data (jX (h1.symm.trans h2)))
 exact⟨vs,r1,e▸r2⟩
theorem R.two_int{i j:Int}(h:R prog w H v (.int i))(g:R prog w H v (.int j)):i=j:=by
 obtain⟨t,e1⟩:=h.int_inv
 obtain⟨u,e2⟩:=g.int_inv
 exact(Value.int.inj (e1.symm.trans e2)).1
theorem R.two_str{i j:Str}(h:R prog w H v (.str i))(g:R prog w H v (.str j)):i=j:=by
 obtain⟨t,e1⟩:=h.str_inv
 obtain⟨u,e2⟩:=g.str_inv
 exact(Value.str.inj (e1.symm.trans e2)).1
theorem jB2(n:Nat)(IH:∀(a b:D) (v:Value),a.dep<=n->R prog w H v a->R prog w H v b->D.like a b=true->D.beq a b=true){a:List D}{v:List Value}(h:Rs prog w H v a):
  ∀(b:List D),D.deps a<=n->Rs prog w H v b->D.likes a b=true->D.beqs a b=true:=
 h.ind (P:=fun v a=>∀(b:List D),D.deps a<=n->Rs prog w H v b->D.likes a b=true->D.beqs a b=true) (fun b _ g _=>by
  induction b using cL with
  |nil=>rfl
  |cons _ _=>show qA g.un fun _ _ e _=> ?_;cases e) fun v a vs as h _ ih b hn g k=>by
  induction b using cL with
  |nil=>cases g.un0
  |cons b bs=>
   show yz g.un fun x xs e g gr=> ?_
   obtain⟨rfl,rfl⟩:=List.cons.inj e
   exact jM2.mpr ⟨IH _ _ _ (yE hn).1 h g (qv k).1,ih _ (yE hn).2 gr (qv k).2⟩
theorem jG6(n:Nat):∀(a b:D) (v:Value),a.dep=n->R prog w H v a->R prog w H v b->D.like a b=true->D.beq a b=true:=
 Nat.strongRecOn n fun n IH a b v hn h g k=>
  yq (P:=fun a b=>a.dep=n->R prog w H v a->R prog w H v b->D.beq a b=true) k (fun i j _ h g=>jMx (h.two_int g)) (fun i j _ h g=>jNs.mpr (h.two_str g))
   (fun i j k hn h g=>let ⟨_,r1,r2⟩:=h.two_list g;jB2 (D.deps i) (fun a b v ha h g k=>IH a.dep (jPh (jPl ha) hn) a b v rfl h g k) r1 _ nL r2 k)
   (fun i j k hn h g=>let ⟨_,r1,r2⟩:=h.two_tup g;jB2 (D.deps i) (fun a b v ha h g k=>IH a.dep (jPh (jPl ha) hn) a b v rfl h g k) r1 _ nL r2 k) hn h g
theorem jEu{a b:D}(h:R prog w H v a)(g:R prog w H v b)(k:D.like a b=true):D.beq a b=true:=jG6 _ a b v rfl h g k
noncomputable def tB(as bs:List D)(j:Nat):Bool:=match as[j]?,bs[j]? with
 |some a,some b=>D.beq a b
 |_,_=>true
theorem uO:∀(as bs:List D),as.length=bs.length->(List.range as.length).all (tB as bs)=D.beqs as bs
 |[],[],_=>rfl
 |a::as,b::bs,h=>by
  rw[jNo,List.range_succ_eq_map,jQj,List.all_map]
  rw[show (tB (a::as) (b::bs) ∘ Nat.succ)=tB as bs from rfl,uO as bs (Nat.succ.inj h)]
  rfl
theorem zL:∀(as bs:List D),((List.range (min as.length bs.length)).all (tB as bs)&&as.length==bs.length)=D.beqs as bs
 |[],[]=>rfl
 |[],b::bs=>by rw[List.length_nil,Nat.zero_min];rfl
 |a::as,[]=>by rw[List.length_nil,Nat.min_zero];rfl
 |a::as,b::bs=>by
  have:=zL as bs
  rw[jNo,jNo,Nat.succ_min_succ,List.range_succ_eq_map,jQj,List.all_map]
  rw[show (tB (a::as) (b::bs) ∘ Nat.succ)=tB as bs from rfl]
  have e2:(as.length+1==bs.length+1)=(as.length==bs.length):=decide_eq_decide.mpr ⟨Nat.succ.inj,jM8 (·+1)⟩
  rw[e2,Bool.and_assoc,this]
  rfl
theorem gd:∀(as bs:List D),as.length≠bs.length->D.beqs as bs=false
 |[],[],h=>absurd rfl h
 |[],b::bs,_=>rfl
 |a::as,[],_=>rfl
 |a::as,b::bs,h=>(jM8 (D.beq a b&&·) (gd as bs fun e=>h (jM8 (·+1) e))).trans (Bool.and_false _)
theorem jU{a:Addr}{vs:List Value}(h:view s.heap Y a=some (j4 vs n)):s.heap.IsList a vs.toArray:=⟨_,(jG h).1,rfl,n,rfl⟩
theorem jl{a:Addr}{vs:List Value}(h:view s.heap Y a=some (xo vs n)):s.heap.IsTuple a vs.toArray:=⟨_,(jG h).1,rfl,n,rfl⟩
theorem arD{u d:Nat}(h:u+d<9800):d<=9799 - u:=by omega
theorem arE{u d e:Nat}(h:d<=9799 - u)(k:u+e<9800):u+d<9800:=by omega
theorem gz(n:Nat)(IH:∀(a b:D) (x y:Value) (A:Around),a.dep<=n->D.like a b=true->R prog w (view s.heap Y) x a->R prog w (view s.heap Y) y b->A.units+a.dep<9800->EqAt A s x y (D.beq a b)):
  ∀(a b:List D) (x y:List Value) (A:Around),D.deps a<=n->D.likes a b=true->Rs prog w (view s.heap Y) x a->Rs prog w (view s.heap Y) y b->A.units+D.deps a<9800->
  ∀(j:Nat) (h1:j<x.length) (h2:j<y.length),EqAt A s x[j] y[j] (tB a b j):=by
 intro a b x y A hn k h
 show h.ind (P:=fun x a=>∀(b:List D) (y:List Value),D.deps a<=n->D.likes a b=true->Rs prog w (view s.heap Y) y b->A.units+D.deps a<9800->∀(j:Nat) (h1:j<x.length) (h2:j<y.length),EqAt A s x[j] y[j] (tB a b j)) (fun _ _ _ _ _ _ j h1 _=>absurd h1 (jOx j)) (fun v d vs ds h _ ih b y hn k g hu j h1 h2=> ?_) b y hn k
 induction b using cL with
 |nil=>rw[g.un0] at h2;exact absurd h2 (jOx j)
 |cons b bs=>
  show yz g.un ?_;rintro u us rfl g gr
  have lx:=yE (n:=9799 - A.units) (arD hu)
  induction j using cN with
  |zero=>exact IH d _ _ _ A (yE hn).1 (qv k).1 h g (arE lx.1 hu)
  |succ j=>exact ih _ _ (yE hn).2 (qv k).2 gr (arE lx.2 hu) j (jPg h1) (jPg h2)
theorem jJo(IH:∀(a b:D) (x y:Value) (A:Around),a.dep<=n->D.like a b=true->R prog w (view s.heap Y) x a->R prog w (view s.heap Y) y b->A.units+a.dep<9800->EqAt A s x y (D.beq a b)){i j:List D}{x y:Value}(hn:D.deps i<=n)(k:D.likes i j=true)(h:R prog w (view s.heap Y) x (.list i))(g:R prog w (view s.heap Y) y (.list j))(hu:A.units+(D.deps i+1)<9800):EqAt A s x y (D.beqs i j):=by
 show ja h.list_inv ?_;rintro a1 vs n1 rfl h1 r1
 show ja g.list_inv ?_;rintro a2 ws n2 rfl h2 r2
 by_cases e:a1=a2
 .subst e
  have:=jEu h g k
  rw[show D.beqs i j=true from this]
  exact EqAt.same _
 .show EqAt.of_refs e ?_
  have l1:=r1.length
  have l2:=r2.length
  have hc:cLine=9900:=rfl
  by_cases hl:i.length=j.length
  .rw[<-uO i j hl,<-l1]
   have z:=RcAt.lists (e:=tB i j) (jU h1) (jU h2) (l1.trans (hl.trans l2.symm)) (jM7 (jOn _ _) (jPf hu kD)) (A:=A) (fun k' h1' h2'=>by
    have:=gz n IH i j vs ws A.in1 hn k r1 r2 (by rw[jO9 (D.deps i) 1,<-jQh] at hu;exact hu) k' (by exact h1') (by exact h2')
    exact this)
   exact z
  .rw[gd i j hl]
   exact RcAt.lists_lengths (jU h1) (jU h2) (bne_iff_ne.mpr fun e:vs.length=ws.length=>hl (l1.symm.trans (e.trans l2))) (jM7 (jOn _ _) (jPf hu kD))
theorem jL2(IH:∀(a b:D) (x y:Value) (A:Around),a.dep<=n->D.like a b=true->R prog w (view s.heap Y) x a->R prog w (view s.heap Y) y b->A.units+a.dep<9800->EqAt A s x y (D.beq a b)){i j:List D}{x y:Value}(hn:D.deps i<=n)(k:D.likes i j=true)(h:R prog w (view s.heap Y) x (.tup i))(g:R prog w (view s.heap Y) y (.tup j))(hu:A.units+(D.deps i+1)<9800):EqAt A s x y (D.beqs i j):=by
 show ja h.tup_inv ?_;rintro a1 vs n1 rfl h1 r1
 show ja g.tup_inv ?_;rintro a2 ws n2 rfl h2 r2
 by_cases e:a1=a2
 .subst e
  have:=jEu h g k
  rw[show D.beqs i j=true from this]
  exact EqAt.same _
 .show EqAt.of_refs e ?_
  have l1:=r1.length
  have l2:=r2.length
  have hc:cLine=9900:=rfl
  rw[<-zL i j,<-l1,<-l2]
  have z:=RcAt.tuples (e:=tB i j) (jl h1) (jl h2) (by lia) (A:=A) (fun k' h1' h2'=>by
   have:=gz n IH i j vs ws A.in1 hn k r1 r2 (by rw[jO9 (D.deps i) 1,<-jQh] at hu;exact hu) k' (by exact h1') (by exact h2')
   exact this)
  exact z
theorem str_beq{i j:Str}:decide (i=j)=D.beq (.str i) (.str j):=(Bool.beq_eq_decide_eq i j).symm
theorem eqAt_m(n:Nat):∀(a b:D) (x y:Value) (A:Around),a.dep=n->D.like a b=true->R prog w (view s.heap Y) x a->R prog w (view s.heap Y) y b->A.units+a.dep<9800->EqAt A s x y (D.beq a b):=
 Nat.strongRecOn n fun n IH a b x y A hn k h g hu=>by
  show yq (P:=fun a b=>a.dep=n->R prog w (view s.heap Y) x a->R prog w (view s.heap Y) y b->A.units+a.dep<9800->EqAt A s x y (D.beq a b)) k (fun i j _ h g _=> ?_) (fun i j _ h g _=> ?_) (fun i j k hn h g hu=> ?_) (fun i j k hn h g hu=> ?_) hn h g hu
  .obtain⟨t,rfl⟩:=h.int_inv
   obtain⟨u,rfl⟩:=g.int_inv
   intro prog w E Q q
   exact wpAny_eqBool_int q
  .obtain⟨t,rfl⟩:=h.str_inv
   obtain⟨u,rfl⟩:=g.str_inv
   intro prog w E Q q
   show wpAny_eqBool_str ?_
   rw[str_beq];exact q
  .exact jJo (fun a b x y A ha k h g hu=>IH a.dep (jPh (jPl ha) hn) a b x y A rfl k h g hu) nL k h g hu
  .exact jL2 (fun a b x y A ha k h g hu=>IH a.dep (jPh (jPl ha) hn) a b x y A rfl k h g hu) nL k h g hu
theorem dH(n:Nat):∀(a b:D) (x y:Value) (A:Around),a.dep<=n->D.like a b=true->R prog w (view s.heap Y) x a->R prog w (view s.heap Y) y b->A.units+a.dep<9800->EqAt A s x y (D.beq a b):=fun a b x y A _=>eqAt_m _ a b x y A rfl
theorem sL{a b:D}{x y:Value}(k:D.like a b=true)(h:R prog w (view s.heap Y) x a)(g:R prog w (view s.heap Y) y b)(hu:A.units+a.dep<9800):EqAt A s x y (D.beq a b):=eqAt_m _ a b x y A rfl k h g hu
open AutoSeq1 (wpAny_loadPart')
variable{E:qN}
theorem jFq{α β:Type}{M:Model}(f:α->β->Sem (ForInStep β))(b:β)(Q:β->Shared->Prop)(l:List α):(∀x∈l,∀R:ForInStep β->Shared->Prop,R (.yield b) s->wpAny M A (f x b) R E s)->Q b s->wpAny M A (forIn l b f) Q E s:=by
 induction l with
 |nil=>
  intro _ q
  rw[List.forIn_nil];exact jMr q
 |cons x l ih=>
  intro h q
  rw[jQn]
  exact jMq (h x jy _ (ih (fun y hy=>h y (qV _ hy)) q))
theorem jIw{a b:Addr}{xs ys:List Value}{n2:Nat}(h1:s.heap.get? a=some (xo xs n))(h2:s.heap.get? b=some (xo ys n2))(hl:xs.length=ys.length)(hu:A.units<cLine)
  (he:∀p∈xs.zip ys,∀(E:qN) (Q:Bool->Shared->Prop),Q true s->wpAny (model prog w) A.in1 (eqBool p.1 p.2) Q E s) (q:Q (.bool false) s):wpAny (model prog w) A (compareOp .NotEq (.ref a) (.ref b)) Q E s:=by
 show wpAny_richCompare_same_room (op:= .NotEq) (T:="tuple") ⟨_,h1,rfl⟩ ⟨_,h2,rfl⟩ PySem.F.slot_tuple_ne (jN4 PySem.F.slot_tuple_ne ⟨_,h1,rfl⟩ PySem.F.entry_tuple_ne ?_ (PySem.F.args_tuple_ne_2 _ _)) hu
 obtain⟨hp,g,d,tk,os⟩:=s
 have f2:=AutoSeq1.sub_tuple_tuple
 simp only[xo] at h1 h2
 wp_walk using jQl h1,jQl h2,jFq _
 .rintro ⟨x,y⟩ hm R hR
  show jMq (he ⟨x,y⟩ (by exact hm) _ _ ?_)
  exact jMr hR
 .wp_walk
  show⟨_,rfl,?_,?_⟩
  .intro x;cases x
  .simpa [hl,Builtin.Tuple.tupleCompareSizes] using q
theorem eq_dict{K:Type}[DecidableEq K]{knd:KeyKind prog w K}{a b:Addr}{oa ob:Obj}{ks:List K}{vs us:List Value}(ha:a≠sysModules)(hb:b≠sysModules)(ga:s.heap.get? a=some oa)(gb:s.heap.get? b=some ob)
  (da:oa.IsDictOf knd (ks.zip vs)) (db:ob.IsDictOf knd (ks.zip us)) (oU:ks.length=vs.length) (hl2:ks.length=us.length) (hu:A.units<cLine) (he:∀p∈vs.zip us,EqAt A.in1 s p.1 p.2 true) {Q:Bool->Shared->Prop} (q:Q true s):wpAny (model prog w) A (eqBool (.ref a) (.ref b)) Q E s:=by
 unfold eqBool
 show jPb ?_
 split
 .exact jMr (M:=model prog w) (E:=E) q
 have gk:ks.Nodup:=by
  obtain⟨es,ep,_,_,_,_,hn⟩:=da
  rw[jPu (by lia)] at hn
  exact hn
 have hits:∀(ks:List K) (vs us:List Value) (kb:List (K×Value)),ks.length=vs.length->ks.length=us.length->ks.Nodup->(∀p∈ks.zip us,valueAt kb p.1=some p.2)->(∀p∈vs.zip us,EqAt A.in1 s p.1 p.2 true)->KeqHits A.in1 s kb (ks.zip vs) true:=by
  intro ks
  induction ks with
  |nil=>intro vs us kb _ _ _ _ _;exact .nil
  |cons k ks ih=>
   intro vs us kb h1 h2 hn hv he
   match vs,us,h1,h2 with
   |v::vs,u::us,h1,h2=>
    have:=ih vs us kb (by simpa using h1) (by simpa using h2) (xw.mp hn).2 (fun p hp=>hv p (qV _ hp)) fun p hp=>he p (qV _ hp)
    exact .hit (e:=true) (b:=true) (hv (k,u) jy) (he (v,u) jy) this
 have cu:∀(ks:List K) (us:List Value),ks.Nodup->∀p∈ks.zip us,valueAt (ks.zip us) p.1=some p.2:=by
  intro ks
  induction ks with
  |nil=>intro us _ p hp;cases hp
  |cons k ks ih=>
   intro us hn p hp
   match us with
   |[]=>cases hp
   |u::us=>
    rcases j0.mp hp with e0|hp
    .rw[e0];simp[valueAt]
    .have hk:p.1∈ks:=(jQm hp).1
     have je:k≠p.1:=fun e=>(xw.mp hn).1 (e▸hk)
     have:=ih us (xw.mp hn).2 p hp
     unfold valueAt at this ⊢
     rw[jNy,jRn (by simpa using je)]
     exact this
 have hlen:(ks.zip vs).length=(ks.zip us).length:=by simp[<-oU,<-hl2]
 show jMq ?_
 show keq_eq (by simpa using ha) (by simpa using hb) (jNz.mpr ⟨oa,ga,da⟩) (jNz.mpr ⟨ob,gb,db⟩) hu (fun _=>hits ks vs us _ oU hl2 gk (cu ks us gk) he) ?_
 rw[hlen]
 simp only[beq_self_eq_true,Bool.and_true]
 exact jOs q
theorem jL1(xs:List Value):∀(a b:List D) (ys:List Value),D.likes a b=true->D.beqs a b=true->(∀v∈xs,∀u∈ys,∀d∈a,∀e∈b,D.like d e=true->R C.prog C.w H v d->R C.prog C.w H u e->EqAt A s v u (D.beq d e))->Rs C.prog C.w H xs a->Rs C.prog C.w H ys b->∀p∈xs.zip ys,EqAt A s p.1 p.2 true:=by
 induction xs with
 |nil=>intro a b ys _ _ _ _ _ p hp;cases hp
 |cons x xs ih=>
  intro a b ys hl hb h r1 r2
  induction a using cL with
  |nil=>cases r1
  |cons a as=>
  induction ys using cL with
  |nil=>intro p hp;cases hp
  |cons y ys=>
   induction b using cL with
   |nil=>cases r2
   |cons b bs=>
    replace hl:=jM2.mp (show (D.like a b&&D.likes as bs)=true from hl)
    replace hb:=jM2.mp (show (D.beq a b&&D.beqs as bs)=true from hb)
    show yz r1.un fun _ _ e1 q1 ez=> ?_
    show yz r2.un fun _ _ e2 q2 ey=> ?_
    cases e1;cases e2
    intro p hp
    rcases j0.mp hp with e0|hp
    .rw[e0];have:=h x jy y jy a jy b jy hl.1 q1 q2
     rw[hb.1] at this;exact this
    .exact ih as bs ys hl.2 hb.2 (fun v hv u hu d hd e he=>h v (qV _ hv) u (qV _ hu) d (qV _ hd) e (qV _ he)) ez ey p hp
theorem R.dictS_inv0{l:xQ}(h:R C.prog C.w H v (.dictS l)):∃(a:Addr) (o:Obj) (ks:List Str) (vs:List Value) (ds:List D),v= .ref a/\l=ks.zip ds/\H a=some o/\o.IsDictOf (strKind C.prog C.w) (ks.zip vs)/\ks.length=vs.length/\Rs C.prog C.w H vs ds/\a≠sysModules:=h.inv
theorem jJ9{d b c:D}{a:xQ}{r:List D}(h:tri3 d r=some (a,b,c)):d= .dictS a/\r=[b,c]:=by
 induction r using cL with
 |nil=>exact nn h
 |cons x r=>
  induction r using cL with
  |nil=>exact nn h
  |cons y r=>
   induction r using cL with
   |cons _ _=>exact nn h
   |nil=>
    induction d using cD with
    |dictS l=>cases h;exact⟨rfl,rfl⟩
    |_=>exact nn h
theorem jHc{x b c:D}{a:xQ}(h:eh x=some (a,b,c)):x= .tup [.dictS a,b,c]:=by
 induction x using cD with
 |tup l=>
  induction l using cL with
  |nil=>exact nn h
  |cons d r=>obtain⟨rfl,rfl⟩:=jJ9 h;rfl
 |_=>exact nn h
def TrAt(prog:Program)(w:World)(A:Around)(s:Shared)(p:Value×Value):Prop:=∀(E:qN) (Q:Bool->Shared->Prop),Q true s->wpAny (model prog w) A (eqBool p.1 p.2) Q E s
theorem jH9{x y:Value}{l l':xQ}(hu:A.units+40<9800)(hx:RD C s.heap Y x (.dictS l))(hy:RD C s.heap Y y (.dictS l'))(hk:l.map (·.1)=l'.map (·.1))(bw:D.likes (l.map (·.2)) (l'.map (·.2))=true)(d1:D.deps (l.map (·.2))<=20)(aI:D.beqs (l.map (·.2)) (l'.map (·.2))=true):TrAt C.prog C.w A.in1 s (x,y):=fun E Q hq=>by
 have hc:cLine=9900:=rfl
 obtain⟨a1,o1,ks,vs,ds,rfl,rfl,g1,i1,l1,z1,n1⟩:=R.dictS_inv0 hx
 obtain⟨a2,o2,ks2,vs2,ds2,rfl,rfl,g2,i2,l2,z2,n2⟩:=R.dictS_inv0 hy
 have e1:ks.length=ds.length:=l1.trans z1.length
 have e2:ks2.length=ds2.length:=l2.trans z2.length
 rw[jPu (by lia),jPu (by lia)] at hk
 subst hk
 rw[List.map_snd_zip (by lia),List.map_snd_zip (by lia)] at bw aI
 rw[List.map_snd_zip (by lia)] at d1
 show eq_dict n1 n2 (jG g1).1 (jG g2).1 i1 i2 l1 l2 (by show(?_:A.units+1<_);lia) (jL1 vs ds ds2 vs2 bw aI (fun v _ u _ d hd e _ hl rv ru=>sL hl rv ru ?_) z1 z2) hq
 have:=jHt hd
 show(?_:A.units+1+1+_<_)
 lia
theorem jHd{x y:Value}{a b:D}(hu:A.units+40<9800)(hx:RD C s.heap Y x a)(hy:RD C s.heap Y y b)(hl:D.like a b=true)(hd:D.dep a<=20)(hb:D.beq a b=true):TrAt C.prog C.w A.in1 s (x,y):=fun E Q hq=>by
 have:=sL (A:=A.in1) hl hx hy (by show(?_:A.units+1+_<_);lia)
 rw[hb] at this
 exact this _ _ _ _ hq
theorem jFz{x y:Value}{a b:D}{c:Bool}(hu:A.units+40<9800)(h:u9 a b=some c)(hx:RD C s.heap Y x a)(hy:RD C s.heap Y y b)(q:Q (.bool c) s):wpAny C.M A (compareOp .NotEq x y) Q NE s:=by
 show bE h ?_;rintro ⟨da,b1,c1⟩ ha h1
 show bE h1 ?_;rintro ⟨da',b1',c1'⟩ hb h2
 clear h h1
 obtain rfl:=jHc ha
 obtain rfl:=jHc hb
 clear ha hb
 revert h2;show yT (fun hh h2=> ?_) fun _ h2=> ?_
 .replace h2:=jX h2;subst h2
  show ja hx.tup_inv ?_;rintro ad ws m rfl ho rs
  show ja hy.tup_inv ?_;rintro ad' ws' m' rfl ho' aV
  show yy rs.un3 ?_;rintro v0 v1 v2 rfl r0 r1 r2
  show yy aV.un3 ?_;rintro u0 u1 u2 rfl t0 t1 t2
  obtain⟨hk,bw,hlb,bx,d1,d2,d3,aI,hb2,hb3⟩:=hh
  have hc:cLine=9900:=rfl
  exact jIw (jG ho).1 (jG ho').1 rfl (by lia) (jM6.mpr ⟨jH9 hu r0 t0 hk bw d1 aI,jM6.mpr ⟨jHd hu r1 t1 hlb d2 hb2,jM6.mpr ⟨jHd hu r2 t2 bx d3 hb3,fun _ h=>nomatch h⟩⟩⟩) q
 .exact nn h2
theorem jK1{i j:List D}{x y:Value}(k0:D.like (.list i) (.list j)=true)(h:RD C s.heap Y x (.list i))(g:RD C s.heap Y y (.list j))(hu:A.units+(D.list i).dep<9800):RcNeAt A s x y (!D.beqs i j):=by
 show ja h.list_inv ?_;rintro a1 vs n1 rfl h1 r1
 show ja g.list_inv ?_;rintro a2 ws n2 rfl h2 r2
 have l1:=r1.length
 have l2:=r2.length
 have hc:cLine=9900:=rfl
 simp only[eY,lY] at hu
 by_cases hl:i.length=j.length
 .rw[<-uO i j hl,<-l1]
  have z:=RcNeAt.lists (e:=tB i j) (jU h1) (jU h2) (by simp;lia) (by lia) (A:=A) (fun k' h1' h2'=>by
   have:=gz _ (dH (D.deps i)) i j vs ws A.in1 nL k0 r1 r2 (by show(?_:A.units+1+_<_);(show jM7 ?_ (by assumption);simp+arith)) k' (by exact h1') (by exact h2')
   exact this)
  exact z
 .rw[gd i j hl]
  exact RcNeAt.lists_lengths (jU h1) (jU h2) (by simp;lia) (by lia)
theorem ne_tups{i j:List D}{x y:Value}(k0:D.like (.tup i) (.tup j)=true)(h:RD C s.heap Y x (.tup i))(g:RD C s.heap Y y (.tup j))(hu:A.units+(D.tup i).dep<9800):RcNeAt A s x y (!D.beqs i j):=by
 show ja h.tup_inv ?_;rintro a1 vs n1 rfl h1 r1
 show ja g.tup_inv ?_;rintro a2 ws n2 rfl h2 r2
 have l1:=r1.length
 have l2:=r2.length
 have hc:cLine=9900:=rfl
 simp only[eY,lY] at hu
 rw[<-zL i j,<-l1,<-l2]
 have z:=RcNeAt.tuples (e:=tB i j) (jl h1) (jl h2) (by lia) (A:=A) (fun k' h1' h2'=>by
  have:=gz _ (dH (D.deps i)) i j vs ws A.in1 nL k0 r1 r2 (by show(?_:A.units+1+_<_);(show jM7 ?_ (by assumption);simp+arith)) k' (by exact h1') (by exact h2')
  exact this)
 exact z
theorem jL0{i j:List D}{x y:Value}(k0:D.like (.list i) (.list j)=true)(h:RD C s.heap Y x (.list i))(g:RD C s.heap Y y (.list j))(hu:A.units+(D.list i).dep<9800)(q:Q (.bool (D.beqs i j)) s):wpAny C.M A (compareOp .Eq x y) Q NE s:=by
 show ja h.list_inv ?_;rintro a1 vs n1 rfl h1 r1
 show ja g.list_inv ?_;rintro a2 ws n2 rfl h2 r2
 have l1:=r1.length
 have l2:=r2.length
 have hc:cLine=9900:=rfl
 simp only[eY,lY] at hu
 by_cases hl:i.length=j.length
 .rw[<-uO i j hl,<-l1] at q
  exact eq_listAt (e:=tB i j) (jU h1) (jU h2) (by simp;lia) (by lia) (fun k' h1' h2'=>by
   have:=gz _ (dH (D.deps i)) i j vs ws A.in1 nL k0 r1 r2 (by show(?_:A.units+1+_<_);(show jM7 ?_ (by assumption);simp+arith)) k' (by exact h1') (by exact h2')
   exact this) (by exact q)
 .rw[gd i j hl] at q
  exact eq_list_lengthsAt (jU h1) (jU h2) (by simp;lia) (by lia) q
theorem eq_tups{i j:List D}{x y:Value}(k0:D.like (.tup i) (.tup j)=true)(h:RD C s.heap Y x (.tup i))(g:RD C s.heap Y y (.tup j))(hu:A.units+(D.tup i).dep<9800)(q:Q (.bool (D.beqs i j)) s):wpAny C.M A (compareOp .Eq x y) Q NE s:=by
 show ja h.tup_inv ?_;rintro a1 vs n1 rfl h1 r1
 show ja g.tup_inv ?_;rintro a2 ws n2 rfl h2 r2
 have l1:=r1.length
 have l2:=r2.length
 have hc:cLine=9900:=rfl
 simp only[eY,lY] at hu
 rw[<-zL i j,<-l1,<-l2] at q
 exact eq_tupleAt (e:=tB i j) (jl h1) (jl h2) (by lia) (fun k' h1' h2'=>by
  have:=gz _ (dH (D.deps i)) i j vs ws A.in1 nL k0 r1 r2 (by show(?_:A.units+1+_<_);(show jM7 ?_ (by assumption);simp+arith)) k' (by exact h1') (by exact h2')
  exact this) (by exact q)
theorem jEt(n:Nat)(IH:∀(a b c:D) (v:Value),a.dep<=n->D.like a c=true->D.like b c=true->R C.prog C.w H v a->R C.prog C.w H v b->D.beq a c=D.beq b c){a:List D}{v:List Value}(h:Rs C.prog C.w H v a):
  ∀(b c:List D),D.deps a<=n->D.likes a c=true->D.likes b c=true->Rs C.prog C.w H v b->D.beqs a c=D.beqs b c:=
 h.ind (P:=fun v a=>∀(b c:List D),D.deps a<=n->D.likes a c=true->D.likes b c=true->Rs C.prog C.w H v b->D.beqs a c=D.beqs b c) (fun b c _ _ _ g=>by
  induction b using cL with
  |nil=>rfl
  |cons _ _=>show qA g.un fun _ _ e _=> ?_;cases e) fun v a vs as h _ ih b c hn k1 k2 g=>by
  induction b using cL with
  |nil=>cases g.un0
  |cons b bs=>
   show yz g.un fun x xs e g gr=> ?_
   obtain⟨rfl,rfl⟩:=List.cons.inj e
   induction c using cL with
   |nil=>rfl
   |cons c cr=>
    show(?_:(D.beq a c&&D.beqs as cr)=(D.beq b c&&D.beqs bs cr))
    rw[IH _ _ _ _ (yE hn).1 (qv k1).1 (qv k2).1 h g,ih _ _ (yE hn).2 (qv k1).2 (qv k2).2 gr]
theorem jJ1(n:Nat):∀(a b c:D) (v:Value),a.dep=n->D.like a c=true->D.like b c=true->R C.prog C.w H v a->R C.prog C.w H v b->D.beq a c=D.beq b c:=
 Nat.strongRecOn n fun n IH a b c v hn k1 k2 h g=>
  yq (P:=fun a c=>a.dep=n->D.like b c=true->R C.prog C.w H v a->D.beq a c=D.beq b c) k1 (fun i j _ k2 h=>by
      induction b using cD with
      |int m=>rw[h.two_int g]
      |_=>exact ff k2) (fun i j _ k2 h=>by
      induction b using cD with
      |str m=>rw[h.two_str g]
      |_=>exact ff k2) (fun i j k1 hn k2 h=>by
      induction b using cD with
      |list m=>
       show jE (h.two_list g) fun _ r1 r2=> ?_
       exact jEt (D.deps i) (fun a b c v ha k1 k2 h g=>IH a.dep (jPh (jPl ha) hn) a b c v rfl k1 k2 h g) r1 _ _ nL k1 k2 r2
      |_=>exact ff k2) (fun i j k1 hn k2 h=>by
      induction b using cD with
      |tup m=>
       show jE (h.two_tup g) fun _ r1 r2=> ?_
       exact jEt (D.deps i) (fun a b c v ha k1 k2 h g=>IH a.dep (jPh (jPl ha) hn) a b c v rfl k1 k2 h g) r1 _ _ nL k1 k2 r2
      |_=>exact ff k2) hn k2 h
theorem any_map{vs:List Value}{ds:List D}{x:D}(e:Value->Bool):Rs C.prog C.w H vs ds->(∀v d,v∈vs->R C.prog C.w H v d->d∈ds->e v=D.beq d x)->vs.any e=ds.any (fun y=>D.beq y x):=by
 intro h
 induction vs generalizing ds with
 |nil=>intro _;cases h;rfl
 |cons v vs ih=>
  cases h with
  |cons h hr=>
   intro he
   rw[jR7,jR7,he v _ jy h jy,ih hr fun v d hv hr hd=>he v d (qV _ hv) hr (qV _ hd)]
theorem rZ{vs:List Value}{ds:List D}{x:Value}{d:D}(hs:Rs C.prog C.w (view s.heap Y) vs ds)(hx:RD C s.heap Y x d)(hl:ds.all (fun y=>D.like y d&&decide (D.dep y<=20))=true)(hu:A.units+21<9800):
  ∃e:Value->Bool,(∀y,y∈vs->EqAt A s y x (e y))/\vs.any e=ds.any (fun y=>D.beq y d)/\(∀v d',v∈vs->d'∈ds->R C.prog C.w (view s.heap Y) v d'->e v=D.beq d' d):=by
 have key:∀v∈vs,∃b,EqAt A s v x b/\∀d',d'∈ds->R C.prog C.w (view s.heap Y) v d'->b=D.beq d' d:=by
  intro v hv
  obtain⟨j,hj⟩:=List.mem_iff_getElem?.mp hv
  show jE (hs.getV hj) fun d1 bS hr1=> ?_
  have hm:d1∈ds:=jNw bS
  have oU:=jNe.mp hl d1 hm
  simp only[Bool.and_eq_true,decide_eq_true_eq] at oU
  show⟨D.beq d1 d,sL oU.1 hr1 hx (by lia),fun d' yL eB=> ?_⟩
  have hl2:=jNe.mp hl d' yL
  simp only[Bool.and_eq_true,decide_eq_true_eq] at hl2
  exact jJ1 _ _ _ _ _ rfl oU.1 hl2.1 hr1 eB
 classical
 have he:∀v d',v∈vs->d'∈ds->R C.prog C.w (view s.heap Y) v d'->(if h:v∈vs then (key v h).choose else false)=D.beq d' d:=fun v d' hv hd hr=>by
  simp only[hv,dif_pos]
  exact(key v hv).choose_spec.2 d' hd hr
 show⟨fun v=>if h:v∈vs then (key v h).choose else false,fun y hy=> ?_,?_,he⟩
 .simp only[hy,dif_pos]
  exact(key y hy).choose_spec.1
 .exact any_map _ hs fun v d' hv hr hd=>he v d' hv hd hr
theorem ux{K:Type}[DecidableEq K]{ks:List K}:∀{vs:List Value} {ds:List D},Rs C.prog C.w H vs ds->∀k:K,
  (∀d,(ks.zip ds).lookup k=some d->∃v,valueAt (ks.zip vs) k=some v/\R C.prog C.w H v d)/\((ks.zip ds).lookup k=none->valueAt (ks.zip vs) k=none):=by
 induction ks with
 |nil=>exact fun _ _=>⟨fun _ h=>nn h,fun _=>rfl⟩
 |cons q ks ih=>
  intro vs ds h k
  show h.ind (P:=fun vs ds=>(∀d,((q::ks).zip ds).lookup k=some d->∃v,valueAt ((q::ks).zip vs) k=some v/\R C.prog C.w H v d)/\(((q::ks).zip ds).lookup k=none->valueAt ((q::ks).zip vs) k=none)) ⟨fun _ h=>nn h,fun _=>rfl⟩ fun v d vs ds h r _=> ?_
  have ih:=ih r k
  by_cases e:q=k
  .subst e;simp[valueAt];exact h
  .have e':(k==q)=false:=jNn.mpr fun x=>e x.symm
   simp only[List.zip_cons_cons,List.lookup_cons,e',valueAt,List.find?_cons,e,decide_false]
   exact ih
theorem R.dictS_inv{l:xQ}(h:R C.prog C.w H v (.dictS l)):∃(a:Addr) (o:Obj) (ks:List Str) (vs:List Value) (ds:List D),v= .ref a/\l=ks.zip ds/\H a=some o/\o.IsDictOf (strKind C.prog C.w) (ks.zip vs)/\ks.length=vs.length/\Rs C.prog C.w H vs ds/\a≠sysModules:=h.inv
theorem R.dictI_inv{l:List (Int×D)}(h:R C.prog C.w H v (.dictI l)):∃(a:Addr) (o:Obj) (ks:List Int) (vs:List Value) (ds:List D),v= .ref a/\l=ks.zip ds/\H a=some o/\o.IsDictOf (intKind C.prog C.w) (ks.zip vs)/\ks.length=vs.length/\Rs C.prog C.w H vs ds/\a≠sysModules:=h.inv
theorem lookup_isSome{ks:List Str}{vs:List Value}{ds:List D}(hr:Rs C.prog C.w H vs ds)(kk:Str):(valueAt (ks.zip vs) kk).isSome=((ks.zip ds).lookup kk).isSome:=by
 have z:=ux (ks:=ks) hr kk
 generalize q:(ks.zip ds).lookup kk=x0;induction x0 using cO with
 |none=>rw[z.2 q];rfl
 |some d=>show jE (z.1 d q) fun v e1 _=> ?_;rw[e1];rfl
theorem jLn{x y:Value}{a b:D}{c:Bool}(p:y0 (n+1) A)(h:inD a b=some c)(hx:RD C s.heap Y x a)(hy:RD C s.heap Y y b)(q:∀tk,s.toks<=tk->Q (.bool c) { s with toks:=tk }):wpAny C.M A (compareOp .In x y) Q NE s:=by
 have hu:=p.units
 induction b using cD with
 |list l=>
  replace h:(if l.all (fun y=>D.like y a&&decide (D.dep y<=20)) then some (l.any (fun y=>D.beq y a)) else none)=some c:=h
  revert h;show vS fun hl h=> ?_
  .replace h:=jX h;subst h
   show ja hy.list_inv ?_;rintro a2 ws n2 rfl h2 r2
   show qk (rZ (A:=A.in1) r2 hx hl (by show(?_:A.units+1+21<9800);lia)) fun e he hq _=> ?_
   show in_listAt e (jU h2) (fun y hy=>he y (by simpa using hy)) ?_
   have:=q s.toks nL
   rw[<-hq] at this
   simpa using this
 |str y=>
  show mE (show (a.asStr?.map fun u=>Txt.contains y u)=some c from h) ?_;rintro u h1 rfl
  obtain rfl:=xl h1
  obtain⟨t,rfl⟩:=hx.str_inv;obtain⟨u,rfl⟩:=hy.str_inv
  exact SB.contains (q s.toks nL)
 |dictS l=>
  show mE (show (a.asStr?.map fun k=>(l.lookup k).isSome)=some c from h) fun u h1 hc=> ?_
  subst hc
  obtain rfl:=xl h1
  obtain⟨t,rfl⟩:=hx.str_inv
  obtain⟨a2,o,ks,vs,ds,rfl,rfl,h2,hd,hlen,hr,je⟩:=R.dictS_inv hy
  have hD:s.heap.DictOf (strKind C.prog C.w) a2 (ks.zip vs):=jNz.mpr ⟨o,(jG h2).1,hd⟩
  show wpAny_in_of (jRj _ _ u t) (by simpa using je) hD.mapOf ?_
  rw[lookup_isSome hr]
  exact q _ (jM5 _)
 |_=>exact nn h
theorem jFh{x y:Value}{a b:D}{c:Bool}(p:y0 (n+1) A)(h:inD a b=some c)(hx:RD C s.heap Y x a)(hy:RD C s.heap Y y b)(q:∀tk,s.toks<=tk->Q (.bool (!c)) { s with toks:=tk }):wpAny C.M A (compareOp .NotIn x y) Q NE s:=by
 have hu:=p.units
 induction b using cD with
 |list l=>
  replace h:(if l.all (fun y=>D.like y a&&decide (D.dep y<=20)) then some (l.any (fun y=>D.beq y a)) else none)=some c:=h
  revert h;show vS fun hl h=> ?_
  .replace h:=jX h;subst h
   show ja hy.list_inv ?_;rintro a2 ws n2 rfl h2 r2
   show qk (rZ (A:=A.in1) r2 hx hl (by show(?_:A.units+1+21<9800);lia)) fun e he hq _=> ?_
   show notIn_listAt e (jU h2) (fun y hy=>he y (by simpa using hy)) ?_
   have:=q s.toks nL
   rw[<-hq] at this
   simpa using this
 |str y=>
  show mE (show (a.asStr?.map fun u=>Txt.contains y u)=some c from h) ?_;rintro u h1 rfl
  obtain rfl:=xl h1
  obtain⟨t,rfl⟩:=hx.str_inv;obtain⟨u,rfl⟩:=hy.str_inv
  exact SB.notContains (q s.toks nL)
 |dictS l=>
  show mE (show (a.asStr?.map fun k=>(l.lookup k).isSome)=some c from h) fun u h1 hc=> ?_
  subst hc
  obtain rfl:=xl h1
  obtain⟨t,rfl⟩:=hx.str_inv
  obtain⟨a2,o,ks,vs,ds,rfl,rfl,h2,hd,hlen,hr,je⟩:=R.dictS_inv hy
  have hD:s.heap.DictOf (strKind C.prog C.w) a2 (ks.zip vs):=jNz.mpr ⟨o,(jG h2).1,hd⟩
  show wpAny_notIn_of (jRj _ _ u t) (by simpa using je) hD.mapOf ?_
  rw[lookup_isSome hr]
  exact q _ (jM5 _)
 |_=>exact nn h
theorem jEn{f:Int->Int->Bool}{x y:D}{c:Bool}(h:sO f x y=some c):∃i j,x= .int i/\y= .int j/\c=f i j:=by
 induction x using cD with
 |int i=>induction y using cD with
  |int j=>(replace h:=jX h;subst h);exact⟨_,_,rfl,rfl,rfl⟩
  |_=>exact nn h
 |_=>exact nn h
theorem jC6{op:CmpOp}{x y:Value}{a b:D}{c:Bool}(p:y0 (n+1) A)(h:gA op a b=some c)(hx:RD C s.heap Y x a)(hy:RD C s.heap Y y b)(q:∀tk,s.toks<=tk->Q (.bool c) { s with toks:=tk }):wpAny C.M A (compareOp op x y) Q NE s:=by
 have hu:=p.units
 have q0:=q s.toks nL
 induction op using cCO with
 |Eq=>
  have h:(if (D.like a b&&decide (D.dep a<=20))=true then some (D.beq a b) else none)=some c:=h
  revert h;show yT (fun hl h=> ?_) fun _ h=> ?_
  .replace h:=jX h;subst h
   obtain⟨hl,pJ⟩:=jM2.mp hl
   have pJ:=jNu pJ
   show yq (P:=fun a b=>RD C s.heap Y x a->RD C s.heap Y y b->D.dep a<=20->Q (.bool (D.beq a b)) s->wpAny C.M A (compareOp .Eq x y) Q NE s) hl (fun i j hx hy _ q0=> ?_) (fun i j hx hy _ q0=> ?_) (fun i j k hx hy pJ q0=>jL0 k hx hy (by lia) q0) (fun i j k hx hy pJ q0=>eq_tups k hx hy (by lia) q0) hx hy pJ q0
   .obtain⟨t,rfl⟩:=hx.int_inv;obtain⟨u,rfl⟩:=hy.int_inv
    exact P.eq_int q0
   .obtain⟨t,rfl⟩:=hx.str_inv;obtain⟨u,rfl⟩:=hy.str_inv
    exact PyProof.Rows.eq_str q0
  .exact nn h
 |NotEq=>
  have h:(if (D.like a b&&decide (D.dep a<=20))=true then some (!D.beq a b) else u9 a b)=some c:=h
  revert h;show yT (fun hl h=> ?_) fun _ h=> ?_
  .replace h:=jX h;subst h
   obtain⟨hl,pJ⟩:=jM2.mp hl
   have pJ:=jNu pJ
   show yq (P:=fun a b=>RD C s.heap Y x a->RD C s.heap Y y b->D.dep a<=20->Q (.bool (!D.beq a b)) s->wpAny C.M A (compareOp .NotEq x y) Q NE s) hl (fun i j hx hy _ q0=> ?_) (fun i j hx hy _ q0=> ?_) (fun i j k hx hy pJ q0=>jK1 k hx hy (by lia) C.prog C.w NE Q q0) (fun i j k hx hy pJ q0=>ne_tups k hx hy (by lia) C.prog C.w NE Q q0) hx hy pJ q0
   .obtain⟨t,rfl⟩:=hx.int_inv;obtain⟨u,rfl⟩:=hy.int_inv
    exact P.ne_int q0
   .obtain⟨t,rfl⟩:=hx.str_inv;obtain⟨u,rfl⟩:=hy.str_inv
    exact PyProof.Rows.ne_str q0
  .exact jFz (by lia) h hx hy q0
 |Lt=>(show yz (jEn h) ?_;rintro i j rfl rfl rfl);obtain⟨t,rfl⟩:=hx.int_inv;obtain⟨u,rfl⟩:=hy.int_inv;exact P.lt_int q0
 |GtE=>(show yz (jEn h) ?_;rintro i j rfl rfl rfl);obtain⟨t,rfl⟩:=hx.int_inv;obtain⟨u,rfl⟩:=hy.int_inv;exact P.ge_int q0
 |In=>exact jLn p h hx hy q
 |NotIn=>
  show mE h ?_;rintro c' hi rfl
  exact jFh p hi hx hy q
 |Is=>
  induction b using cD with
  |none=>
   rw[hy.none_inv]
   show mE (show (a.asStr?.map fun _=>false)=some c from h) ?_;rintro u h1 rfl
   obtain rfl:=xl h1
   obtain⟨t,rfl⟩:=hx.str_inv
   exact PySem.is_none q0
  |_=>exact nn h
 |_=>exact nn h
theorem dO(slice:Expr)(o i:Value):∃ops,subscripted slice false o i=operate ops (getItem o i):=by
 induction slice using cE with
 |Slice lo hi st p=>
  induction st using cO with
  |none=>exact⟨_,rfl⟩
  |some _=>exact⟨_,rfl⟩
 |_=>exact⟨_,rfl⟩
theorem idx_neg{i:Int}{m:Nat}(h1:¬0<=i)(h2: -(m:Int)<=i):(i+m).toNat<m:=by
 have h3:0<=i+m:=by rw[<-Int.add_left_neg (m:Int)];exact Int.add_le_add_right h2 _
 show(Int.toNat_lt h3).mpr ?_
 have:=Int.add_lt_add_right (Int.not_le.mp h1) (m:Int)
 rw[Int.zero_add] at this
 exact this
theorem ua{i:Int}{m j:Nat}(h:idx? i m=some j):j<m/\((0<=i/\i<m/\j=i.toNat)\/(i<0/\-(m:Int)<=i/\j=(i+m).toNat)):=by
 unfold idx? at h
 revert h;show yT (fun h1 h=> ?_) fun h1 h=> ?_
 .revert h;show yT (fun h2 h=> ?_) fun _ h=> ?_
  .rw[<-jX h]
   exact⟨(Int.toNat_lt h1).mpr h2,.inl ⟨h1,h2,rfl⟩⟩
  .exact nn h
 .revert h;show yT (fun h2 h=> ?_) fun _ h=> ?_
  .rw[<-jX h]
   exact⟨idx_neg h1 h2,.inr ⟨Int.not_le.mp h1,h2,rfl⟩⟩
  .exact nn h
theorem arJ{i:Int}{m:Nat}(h:i<0)(k: -(m:Int)<=i):0<=i+m/\i+m<m:=by omega
theorem jHq{i:Int}{m j:Nat}(h:idx? i m=some j):seqIndex? i m=some j:=by
 obtain⟨h1,h2⟩:=ua h
 unfold seqIndex?
 rcases h2 with ⟨h2,h3,rfl⟩|⟨h2,h3,rfl⟩
 .rw[jMv (Int.not_lt.mpr h2)]
  exact jMt (by rw[Bool.and_eq_true,jNk,jNk];exact⟨h2,h3⟩)
 .rw[jMt h2]
  exact jMt (by rw[Bool.and_eq_true,jNk,jNk];exact arJ h2 h3)
theorem wJ{i:Int}{m j:Nat}(h:idx? i m=some j)(k:m<=lim): -(2 ^ 63)<=i/\i<2 ^ 63:=by
 rcases (ua h).2 with ⟨h2,h3,_⟩|⟨h2,h3,_⟩
 .exact⟨jRp kD h2,arF h3 k⟩
 .exact⟨arG h3 k,jQr h2 kD⟩
theorem jCz{l:List D}{i:Int}{d:D}(h:tJ l i=some d):l.length<=lim/\∃j,idx? i l.length=some j/\l[j]? =some d:=by
 unfold tJ at h
 revert h;show vS fun hs h=> ?_
 .exact⟨hs,zbs.mp h⟩
theorem jBt{value slice:Expr}{x y:Value}{a b d:D}(h0:vY a b=some d)(av:RD C s.heap Y x a)(hy:RD C s.heap Y y b)(q:Kq C Y d s Q):wpAny C.M A (subscriptTail value slice x y) Q NE s:=by
 obtain⟨ops,dC⟩:=dO slice x y
 have jh:lim=1000000:=rfl
 have h:itemD0 a.flat b=some d:=h0
 have hx:=av.flat
 clear h0 av
 generalize a.flat=a at h hx
 induction a using cD with
 |list ds=>
  show jE (yH h) ?_;rintro i rfl h
  obtain⟨hs,j,hi,h⟩:=jCz h
  obtain⟨t,rfl⟩:=hy.int_inv
  show ja hx.list_inv ?_;rintro a1 vs n1 rfl h1 r1
  show jE (r1.get h) fun v hv hr=> ?_
  have hlen:=r1.length
  obtain⟨hj,wo⟩:=ua hi
  show jRv (jU h1).typeIs slot_list_getitem.lookup ?_ dC
  rcases wo with ⟨h2,h3,rfl⟩|⟨h2,h3,rfl⟩
  .exact wpAny_getItem_list (jU h1) h2 (wJ hi hs).2 (by simpa using hv) (q _ _ (KP.refl s) hr)
  .exact wpAny_getItem_list_neg (jU h1) h2 (show -((vs.length:Nat):Int)<=i from hlen.symm▸h3) (wJ hi hs).1 (by simp[hlen];exact hv) (q _ _ (KP.refl s) hr)
 |tup ds=>
  show jE (yH h) ?_;rintro i rfl h
  obtain⟨hs,j,hi,h⟩:=jCz h
  obtain⟨t,rfl⟩:=hy.int_inv
  show ja hx.tup_inv ?_;rintro a1 vs n1 rfl h1 r1
  show jE (r1.get h) fun v hv hr=> ?_
  have hlen:=r1.length
  show jRv (jl h1).typeIs slot_tuple_getitem.lookup ?_ dC
  obtain⟨hj,wo⟩:=ua hi
  exact getItem_tuple (jl h1) (wJ hi hs).1 (wJ hi hs).2 (by simp only[List.size_toArray,hlen];exact jHq hi) (by simpa using hv) (q _ _ (KP.refl s) hr)
 |str x=>
  show jE (yH h) ?_;rintro i rfl h
  revert h;show vS fun hs h=> ?_
  .show bE h fun j hi h=> ?_
   show mE h ?_;rintro c hc rfl
   obtain⟨t,rfl⟩:=hy.int_inv
   obtain⟨u,rfl⟩:=hx.str_inv
   show jRv (T:="str") rfl slot_str_getitem.lookup ?_ dC
   obtain⟨hj,wo⟩:=ua hi
   show P.getItem_str (c:=c) (by rw[jNb (Int.not_lt.mpr (wJ hi hs).1),jNb (Int.not_le.mpr (wJ hi hs).2)];rfl) ?_ (q _ _ (KP.tok (jM5 _)) (.str _ _))
   rw[jHq hi];exact hc
 |dictS l=>
  show jE (qD h) ?_;rintro kk rfl h
  obtain⟨t,rfl⟩:=hy.str_inv
  obtain⟨a2,o,ks,vs,ds,rfl,rfl,h2,hd,hlen,hr,je⟩:=R.dictS_inv hx
  have hD:s.heap.DictOf (strKind C.prog C.w) a2 (ks.zip vs):=jNz.mpr ⟨o,(jG h2).1,hd⟩
  show jE ((ux (ks:=ks) hr kk).1 d h) fun v hv iX=> ?_
  show jRv hD.mapOf.typeIs slot_dict_getitem.lookup ?_ dC
  exact wpAny_getItem_of (jRj _ _ kk t) hD.mapOf hv (q _ _ (KP.tok (jM5 _)) iX)
 |dictI l=>
  show jE (yH h) ?_;rintro kk rfl h
  obtain⟨t,rfl⟩:=hy.int_inv
  obtain⟨a2,o,ks,vs,ds,rfl,rfl,h2,hd,hlen,hr,je⟩:=R.dictI_inv hx
  have hD:s.heap.DictOf (intKind C.prog C.w) a2 (ks.zip vs):=jNz.mpr ⟨o,(jG h2).1,hd⟩
  show jE ((ux (ks:=ks) hr kk).1 d h) fun v hv iX=> ?_
  show jRv hD.mapOf.typeIs slot_dict_getitem.lookup ?_ dC
  exact wpAny_getItem_of (intKind_is _ _ kk t) hD.mapOf hv (q _ _ (KP.tok (jM5 _)) iX)
 |_=>exact nn h
theorem Rs.pick{vs:List Value}{ds:List D}(h:Rs C.prog C.w H vs ds)(js:List Nat):Rs C.prog C.w H (js.filterMap (vs[·]?)) (js.filterMap (ds[·]?)):=by
 induction js with
 |nil=>
  exact .nil
 |cons j js ih=>
  have ih:=ih
  rw[jNd,jNd]
  generalize e:ds[j]? =x0;induction x0 using cO with
  |none=>
   have:vs[j]? =none:=by
    have hl:=h.length
    rw[List.getElem?_eq_none_iff] at e ⊢;lia
   rw[this];exact ih
  |some d=>
   show jE (h.get e) fun v hv hr=> ?_
   rw[hv];exact .cons hr ih
theorem jAv{value slice:Expr}{x vl vu vs:Value}{ds:List D}{lo hi st:Option Int}{sl:Addr}(hx:RD C s.heap Y x (.list ds))(hs:s.heap.IsSliceOf sl vl vu vs)(pl:IsPart vl lo)(pu:IsPart vu hi)(ps:IsPart vs st)(h0:st≠some 0)(hlen:ds.length<=lim)
  (hP:C.P∈Y) (hY:∀a∈Y,a<s.heap.objs.size) (q:Kq C Y (.list (pick ds lo hi st)) s Q):wpAny C.M A (subscriptTail value slice x (.ref sl)) Q NE s:=by
 obtain⟨ops,dC⟩:=dO slice x (.ref sl)
 show ja hx.list_inv ?_;rintro a1 ws n1 rfl h1 r1
 have l1:=r1.length
 show jRv (jU h1).typeIs slot_list_getitem.lookup ?_ dC
 show wpAny_getItem_list_slice (jU h1) hs pl pu ps h0 (q _ _ (KP.push nL) ?_) (by simp only[List.size_toArray];exact sz (by lia))
 show .list (vs:=(sliceRange (sliceBounds lo hi st ds.length).1 (sliceBounds lo hi st ds.length).2.1 (sliceBounds lo hi st ds.length).2.2).filterMap (ws[·]?)) (n:=0) ?_ ?_
 .have:=xN (tk:=s.toks) (o:=j4 ((sliceRange (sliceBounds lo hi st ds.length).1 (sliceBounds lo hi st ds.length).2.1 (sliceBounds lo hi st ds.length).2.2).filterMap (ws[·]?)) 0) hY rfl
  simpa [j4,slicePick,l1] using this
 .exact qM.kp (KP.push nL) hP (r1.pick _)
theorem jBd{value slice:Expr}{x:Str}{lo hi:Option (Int×Tok)}{sl:Addr}(hx:RD C s.heap Y v (.str x))(hs:s.heap.IsSlice sl lo hi none)(hlen:x.length<=lim)
  (q:Kq C Y (.str (Txt.slice x (lo.map (·.1)) (hi.map (·.1)))) s Q):wpAny C.M A (subscriptTail value slice v (.ref sl)) Q NE s:=by
 obtain⟨ops,dC⟩:=dO slice v (.ref sl)
 obtain⟨t,rfl⟩:=hx.str_inv
 show jRv (T:="str") rfl slot_str_getitem.lookup ?_ dC
 show wpAny_getItem_str_slice hs rfl ?_
 unfold sliceMade slicePicked
 unfold Txt.slice at q
 simp only[Option.map_none,Option.getD_none]
 split
 .rename_i h
  rw[jMt h] at q
  exact q _ _ (KP.refl s) (.str _ _)
 .rename_i h
  rw[jMv h] at q
  show⟨?_,q _ _ (KP.tok (jM5 _)) (.str _ _)⟩
  show x8 ?_ (sz hlen)
  show(?_:(List.toArray _).size<=_)
  rw[jQ4]
  exact x8 (List.length_filterMap_le _ _) (sliceIndices_le _ _ _)
theorem jI{e:Expr}{rest:List Expr}(h:isStarred e=false):starEach (e::rest) env=(false,eval e env)::starEach rest env:=by
 cases e <;> first|rfl|exact Bool.noConfusion h
theorem plain_any{pos:Pos}{es:List Expr}(h:∀e∈es,isStarred e=false):(backTo pos (starEach es env)).any (·.1)=false:=by
 induction es with
 |nil=>rfl
 |cons e es ih=>
  rw[jI (h e jy)]
  have:=ih fun x hx=>h x (qV _ hx)
  simp only[backTo,List.map_cons,List.any_cons] at this ⊢
  exact this
theorem tc{sc:Scope}{e:Expr}{es:List Expr}(hs:isStarred e=false):zh r k sc l (e::es)=(r.E k sc l e).bind fun d=>(zh r k sc l es).bind fun us=>some (d::us):=by
 show(?_:(if isStarred e=true then none else (r.E k sc l e).bind fun d=>(zh r k sc l es).bind fun us=>some (d::us))=_)
 rw[hs];rfl
theorem Ess_is{sc:Scope}{e:Expr}{es:List Expr}{ds:List D}(h:zh r k sc l (e::es)=some ds):isStarred e=false/\∃d us,r.E k sc l e=some d/\zh r k sc l es=some us/\ds=d::us:=by
 have h:(if isStarred e=true then none else (r.E k sc l e).bind fun d=>(zh r k sc l es).bind fun us=>some (d::us))=some ds:=h
 revert h;show tg fun hs h=> ?_
 show bE h fun d h1 h2=> ?_
 show bE h2 fun us h3 h4=> ?_
 exact⟨eq_false_of_ne_true hs,d,us,h1,h3,(jX h4).symm⟩
theorem kX{sc:Scope}{es:List Expr}:∀{ds:List D},zh r k sc l es=some ds->∀e∈es,isStarred e=false:=by
 induction es with
 |nil=>
  intro _ _ e he
  exact nomatch he
 |cons e es ih=>
  intro ds h x hx
  obtain⟨hs,d,us,_,h2,_⟩:=Ess_is h
  rcases j0.mp hx with e0|hx
  .rw[e0];exact hs
  .exact ih h2 x hx
theorem yI(S:SE C n r){pos:Pos}{es:List Expr}:∀{ds:List D} {s:Shared} {Q:List Value->Shared->Prop},Pre C n k A env Y l s->zh r k env.scope l es=some ds->
  (∀vs s',KP C s s'->Pre C n k A env Y l s'->qM C s'.heap Y vs ds->Q vs s')->wpAny C.M A (spliced (backTo pos (starEach es env))) Q NE s:=by
 induction es with
 |nil=>
  intro ds s Q p h q
  replace h:=jX h;subst h
  exact jQ8 (q [] s (KP.refl s) p .nil)
 |cons e es ih=>
  intro ds s Q p h q
  obtain⟨xR,d,us,h1,h2,rfl⟩:=Ess_is h
  show jPk (S.at p h1 fun v s₁ k₁ p₁ r₁=> ?_) (jI xR)
  exact ih p₁ h2 fun vs s₂ k₂ p₂ r₂=>q (v::vs) s₂ (k₁.trans k₂) p₂ (.cons (r₁.kp k₂ p.hP) r₂)
theorem jG8(S:SE C n r){pos:Pos}{es:List Expr}{ds:List D}(p:Pre C n k A env Y l s)(h:zh r k env.scope l es=some ds)(hl:ds.length<=lim)(q:Kq C Y (.list ds) s Q):wpAny C.M A (eval (.List es pos) env) Q NE s:=by
 show jRi (yI S p h fun vs s₁ k₁ p₁ r₁=> ?_)
 have hlen:=r₁.length
 show⟨by rw[hlen];exact sz hl,q _ _ (k₁.trans (KP.push nL)) (.list (vs:=vs) (n:=0) ?_ ?_)⟩
 .exact xN (tk:=s₁.toks) (o:=j4 vs 0) p₁.lt rfl
 .exact qM.kp (KP.push nL) p.hP r₁
theorem jFx(S:SE C n r){pos:Pos}{kd:Nat}{es:List Expr}{ds:List D}(p:Pre C n k A env Y l s)(h:zh r k env.scope l es=some ds)(hl:ds.length<=lim)(q:Kq C Y (.tup ds) s Q):wpAny C.M A (eval (.Tuple es kd pos) env) Q NE s:=by
 show wpAny_Tuple (yI S p h fun vs s₁ k₁ p₁ r₁=> ?_)
 have hlen:=r₁.length
 show⟨by rw[hlen];exact sz hl,q _ _ (k₁.trans (KP.push nL)) (.tup (vs:=vs) (n:=0) ?_ ?_)⟩
 .exact xN (tk:=s₁.toks) (o:=xo vs 0) p₁.lt rfl
 .exact qM.kp (KP.push nL) p.hP r₁
open PySem.Spec
theorem z9(a b:Str):strLe a b=true↔a.cps.toList<=b.cps.toList:=by simp[strLe]
theorem zJ(a b c:Str)(h:strLe a b=true)(g:strLe b c=true):strLe a c=true:=by
 rw[z9] at *;exact List.le_trans h g
theorem vw(a b:Str):(strLe a b||strLe b a)=true:=by
 rw[Bool.or_eq_true,z9,z9];exact List.le_total _ _
theorem jAd(a b:Str)(h:strLe a b=true)(g:strLe b a=true):a=b:=by
 rw[z9] at *
 have:=List.le_antisymm h g
 cases a;cases b
 simp only[Str.mk.injEq]
 exact Array.ext' this
theorem jBe(p:Str)(l:List Str)(h:risingS p l=true):(p::l).Pairwise (fun a b=>strLe a b=true):=by
 induction l generalizing p with
 |nil=>exact jRd _ _
 |cons x r ih=>
  simp only[risingS,Bool.and_eq_true,Bool.not_eq_true',ltCps_eq,decide_eq_false_iff_not] at h
  have ih:=ih x h.2
  have hpx:strLe p x=true:=(z9 _ _).mpr (List.not_lt.mp h.1)
  show jOa.mpr ⟨fun y hy=> ?_,ih⟩
  rcases j0.mp hy with e0|hy
  .rw[e0];exact hpx
  .exact zJ _ _ _ hpx (List.rel_of_pairwise_cons ih hy)
theorem jKi{l l':List Str}(hp:l'.Perm l)(h:sortedS l'=true):l'=vW l:=by
 show jPz (le:=fun a b=>strLe a b=true) (fun a b _ _ h g=>jAd a b h g) ?_ (jPc zJ vw l) (hp.trans (jOy l strLe).symm)
 induction l' using cL with
 |nil=>exact .nil
 |cons x r=>exact jBe x r h
theorem um{l l':List Int}(hp:l'.Perm l)(h:l'.Pairwise (·<=·)):l'=sortI l:=by
 show jPz (le:=fun a b=>decide (a<=b)=true) (fun a b _ _ h g=>by simp at h g;omega) (h.imp fun x=>by simpa using x) (jPc (fun a b c h g=>by simp at *;omega) (fun a b=>by simp;omega) l) (hp.trans (jOy l _).symm)
theorem d9{vs:List Value}{ds:List D}(h:Rs C.prog C.w H vs ds):∀{ns:List Int},ints? ds=some ns->IntsAre vs ns:=
 h.ind (P:=fun vs ds=>∀{ns:List Int},ints? ds=some ns->IntsAre vs ns) (fun e=>(jX e)▸.nil) fun v d vs ds r _ ih ns e=>by
  show jE (asIntB (show (d.asInt?.bind fun i=>(ints? ds).map (i::·))=some ns from e)) ?_;rintro i rfl e
  show mE e ?_;rintro ms h1 rfl
  obtain⟨t,rfl⟩:=r.int_inv
  exact .cons i t (ih h1)
theorem jHg{vs:List Value}{ds:List D}(h:Rs C.prog C.w H vs ds):∀{ns:List Str},strs? ds=some ns->StrsAre vs ns:=
 h.ind (P:=fun vs ds=>∀{ns:List Str},strs? ds=some ns->StrsAre vs ns) (fun e=>(jX e)▸.nil) fun v d vs ds r _ ih ns e=>by
  show jE (asStrB (show (d.asStr?.bind fun i=>(strs? ds).map (i::·))=some ns from e)) ?_;rintro i rfl e
  show mE e ?_;rintro ms h1 rfl
  obtain⟨t,rfl⟩:=r.str_inv
  exact .cons i t (ih h1)
theorem Rs.ofInts{vs:List Value}{ns:List Int}(h:IntsAre vs ns):Rs C.prog C.w H vs (ns.map .int):=by
 induction h with
 |nil=>exact .nil
 |cons n t _ ih=>exact .cons (.int n t) ih
theorem Rs.ofStrs{vs:List Value}{ns:List Str}(h:StrsAre vs ns):Rs C.prog C.w H vs (ns.map .str):=by
 induction h with
 |nil=>exact .nil
 |cons n t _ ih=>exact .cons (.str n t) ih
theorem jGo{vs:List Value}{ns:List Int}(h:IntsAre vs ns):∃xs:List (Int×Tok),vs=xs.map (fun p=> .int p.1 p.2)/\xs.map (·.1)=ns:=by
 induction h with
 |nil=>exact⟨[],rfl,rfl⟩
 |cons n t _ ih=>show jE ih ?_;rintro xs rfl rfl;exact⟨(n,t)::xs,rfl,rfl⟩
theorem jIa{x:Value}{ds:List D}{ns:List Int}(hh:A.handled=none)(hx:RD C s.heap Y x (.list ds))(hi:ints? ds=some ns)(q:Kq C Y (.int ns.sum) s Q):wpAny C.M A (call (.builtin "sum") [x]) Q NE s:=by
 show ja hx.list_inv ?_;rintro a vs m rfl h1 r1
 show jE (jGo (d9 r1 hi)) fun xs e1 e2=> ?_
 show yA (sum_intListG (xs:=xs.toArray) hh ?_ fun h' tk t' hk ht=> ?_)
 .have:=jU h1
  rw[e1] at this
  simpa [intItems] using this
 .have e:preSum (numAt xs.toArray) xs.toArray.size=ns.sum:=by
   rw[preSum_eq];simp[e2]
   rw[<-e2,jOi (by simp)]
  rw[e]
  exact q _ _ (KP.of ht hk) (.int _ _)
theorem zb{h':Heap}{a:Addr}{o:Obj}(hY:∀a∈Y,a<s.heap.objs.size)(fe:s.heap.objs.size<=a)(e:h'.get? a=some o):view h' Y a=some o:=jT e fun h=>absurd (hY _ h) (jN9.mpr fe)
theorem jDe{x:Value}{ds:List D}{d:D}(hY:∀a∈Y,a<s.heap.objs.size)(hx:RD C s.heap Y x (.list ds))(h:zI ds=some d)(q:Kq C Y d s Q):wpAny C.M A (call (.builtin "sorted") [x]) Q NE s:=by
 show ja hx.list_inv ?_;rintro a vs m rfl h1 r1
 have l1:=r1.length
 unfold zI at h
 revert h;show vS fun _ h=> ?_
 .show lh h (fun h=> ?_) fun h=> ?_
  .show mE h ?_;rintro ns hi rfl
   show sorted_ints (jU h1) (d9 r1 hi) (by lia) fun out iF hI hp hs=> ?_
   obtain⟨e,he⟩:=sortedAll_at s.heap vs out
   rw[<-um hp hs] at q
   show q _ _ (KP.of nL fun b o hb=>sortedAll_old hb) (.list (vs:=out.toList) (n:=e) ?_ (Rs.ofInts hI))
   exact zb hY (jM5 _) (by rw[he];simp[j4])
  show mE h ?_;rintro ss gM rfl
  show sorted_strs (jU h1) (jHg r1 gM) (by lia) fun out iF hI hp hs=> ?_
  obtain⟨e,he⟩:=sortedAll_at s.heap vs out
  rw[<-jKi hp hs] at q
  show q _ _ (KP.of nL fun b o hb=>sortedAll_old hb) (.list (vs:=out.toList) (n:=e) ?_ (Rs.ofStrs hI))
  exact zb hY (jM5 _) (by rw[he];simp[j4])
theorem jIj{i:Int}(h:small i=true):i.natAbs.log2<1920:=by
 have h':i.natAbs<2 ^ 60:=jNu h
 by_cases h0:i.natAbs=0
 .rw[h0];decide
 .have:=(Nat.log2_lt h0).mpr h'
  exact(c6 zA zD)
noncomputable def wL(f:Str):Value:=if f="len" then .builtin "len" else if f="sum" then .builtin "sum" else if f="range" then .type "range" else if f="sorted" then .builtin "sorted" else if f="str" then .type "str" else .type "int"
theorem rL{as:List D}{vs:List Value}{d:D}{k1:D->Option D}{k2:D->D->Option D}(h:yf as k1 k2=some d)(hr:Rs C.prog C.w H vs as){P:List Value->Prop}(h1:∀u a,R C.prog C.w H u a->k1 a=some d->P [u])(h2:∀u v a b,R C.prog C.w H u a->R C.prog C.w H v b->k2 a b=some d->P [u,v]):P vs:=by
 cases hr with
 |nil=>exact nn h
 |cons r1 hr=>
  cases hr with
  |nil=>exact h1 _ _ r1 h
  |cons r2 hr=>
   cases hr with
   |nil=>exact h2 _ _ _ _ r1 r2 h
   |cons _ _=>exact nn h
theorem k9{as:List D}{vs:List Value}{d:D}{k1:D->Option D}(h:fA as k1=some d)(hr:Rs C.prog C.w H vs as){P:List Value->Prop}(h1:∀u a,R C.prog C.w H u a->k1 a=some d->P [u]):P vs:=rL h hr h1 fun _ _ _ _ _ _ h=>nn h
theorem mf{α:Type}{f g:Str}{P:Str->Prop}{x y:Option α}{d:α}(h1:x=some d->P g)(h2:y=some d->P f)(h:(if f=g then x else y)=some d):P f:=yT (fun e h=>by rw[e];exact h1 h) (fun _ h=>h2 h) h
theorem jAi{f:Str}{as:List D}{d:D}(h:jr f as=some d){P:Str->Prop}(h1:fA as cm=some d->P "len")(h2:fA as (fun a=>a.asList?.bind fun l=>(ints? l).map fun ns=> .int ns.sum)=some d->P "sum")(h3:yf as (fun a=>a.asInt?.map fun n=> .rng 0 n) (fun a b=>a.asInt?.bind fun x=>b.asInt?.map fun y=> .rng x y)=some d->P "range")(h4:fA as (fun a=>a.asList?.bind zI)=some d->P "sorted")
  (h6:fA as (fun a=>a.asInt?.bind fun i=>if small i then some (.str (Str.ofString (toString i))) else none)=some d->P "str") (h7:fA as (fun a=>a.asStr?.bind fun x=>if x.length<=640 then (PySem.intText? x).map .int else none)=some d->P "int"):P f:=
mf h1 (mf h2 (mf h3 (mf h4 (mf h6 (mf h7 nn))))) h
theorem jI5{x:Value}{a d:D}(hx:RD C s.heap Y x a)(h:cm a=some d)(q:Kq C Y d s Q):wpAny C.M A (call (.builtin "len") [x]) Q NE s:=by
 have jh:lim=1000000:=rfl
 induction a using cD with
 |list l=>
  replace h:(if l.length<=lim then some (D.int l.length) else none)=some d:=h
  revert h;show vS fun _ h=> ?_
  .replace h:=jX h;subst h
   show ja hx.list_inv ?_;rintro a vs m rfl h1 r1
   show call_len_list (jU h1) (by have:=r1.length;simp;lia) ?_
   have:=q (.int vs.toArray.size (s.toks+1)) _ (KP.tok (tk:=s.toks+1+1) (by simp+arith only)) (by rw[jQ4,r1.length];exact .int _ _)
   exact this
 |str y=>
  replace h:(if y.length<=lim then some (D.int y.length) else none)=some d:=h
  revert h;show vS fun _ h=> ?_
  .replace h:=jX h;subst h
   obtain⟨t,rfl⟩:=hx.str_inv
   exact P.len_str (by lia) (q _ _ (KP.tok (by simp+arith only)) (.int _ _))
 |_=>exact nn h
theorem jFd{vs:List Value}{as:List D}{d:D}(hY:∀a∈Y,a<s.heap.objs.size)(hr:qM C s.heap Y vs as)(h:yf as (fun a=>a.asInt?.map fun n=> .rng 0 n) (fun a b=>a.asInt?.bind fun x=>b.asInt?.map fun y=> .rng x y)=some d)(q:Kq C Y d s Q):wpAny C.M A (call (.type "range") vs) Q NE s:=by
 show rL h hr (P:=fun vs=>wpAny C.M A (call (.type "range") vs) Q NE s) (fun u a ru ha=> ?_) fun u v a b ru rv ha=> ?_
 .show jE (kW ha) ?_;rintro i rfl rfl
  obtain⟨t,rfl⟩:=ru.int_inv
  show call_range_1 (q _ _ (KP.push (by simp+arith only)) (.rng (t:=s.toks) (u:=t) (v:=s.toks+1) ?_))
  exact zb hY nL (jMw _ rfl)
 .show jE (yH ha) ?_;rintro i rfl ha
  show jE (kW ha) ?_;rintro j rfl rfl
  obtain⟨t,rfl⟩:=ru.int_inv
  obtain⟨u,rfl⟩:=rv.int_inv
  show call_range_2 (q _ _ (KP.push (by simp+arith only)) (.rng (t:=t) (u:=u) (v:=s.toks) ?_))
  exact zb hY nL (jMw _ rfl)
theorem jDs{f:Str}{ds:List D}{vs:List Value}{d:D}(hh:A.handled=none)(hP:C.P∈Y)(hY:∀a∈Y,a<s.heap.objs.size)(h:jr f ds=some d)(hr:qM C s.heap Y vs ds)(q:Kq C Y d s Q):wpAny C.M A (call (wL f) vs) Q NE s:=by
 show jAi h (P:=fun f=>wpAny C.M A (call (wL f) vs) Q NE s) (fun h=> ?_) (fun h=> ?_) (fun h=>jFd hY hr h q) (fun h=> ?_) (fun h=> ?_) fun h=> ?_
 .exact k9 h hr (P:=fun vs=>wpAny C.M A (call (.builtin "len") vs) Q NE s) fun u a ru ha=>jI5 ru ha q
 .show k9 h hr (P:=fun vs=>wpAny C.M A (call (.builtin "sum") vs) Q NE s) fun u a ru ha=> ?_
  show jE (qW ha) ?_;rintro l rfl ha
  show mE ha ?_;rintro ns hi rfl
  exact jIa hh ru hi q
 .show k9 h hr (P:=fun vs=>wpAny C.M A (call (.builtin "sorted") vs) Q NE s) fun u a ru ha=> ?_
  show jE (qW ha) ?_;rintro l rfl ha
  exact jDe hY ru ha q
 .show k9 h hr (P:=fun vs=>wpAny C.M A (call (.type "str") vs) Q NE s) fun u a ru ha=> ?_
  show jE (yH ha) ?_;rintro i rfl ha
  revert ha;show vS fun hs ha=> ?_
  .replace ha:=jX ha;subst ha
   obtain⟨t,rfl⟩:=ru.int_inv
   exact P.str_of_int (jIj hs) (q _ _ (KP.tok (jM5 _)) (.str _ _))
 .show k9 h hr (P:=fun vs=>wpAny C.M A (call (.type "int") vs) Q NE s) fun u a ru ha=> ?_
  show jE (qD ha) ?_;rintro x rfl ha
  revert ha;show vS fun hs ha=> ?_
  .show mE ha ?_;rintro m hi rfl
   obtain⟨t,rfl⟩:=ru.str_inv
   exact KIN.call_text hi hs (q _ _ (KP.tok (jM5 _)) (.int _ _))
theorem jCs:∀(m:Nat) (xs:List Str),Rs C.prog C.w H (strsFrom m xs) (xs.map .str)
 |_,[]=> .nil
 |m,x::r=>by
  show(?_:Rs _ _ _ (Value.str x m::strsFrom (m+1) r) _)
  exact .cons (.str x m) (jCs (m+1) r)
theorem jF2{vs:List Value}{ns:List Str}(h:StrsAre vs ns):∃xs:List (Str×Tok),vs=strValues xs/\xs.map (·.1)=ns:=by
 induction h with
 |nil=>exact⟨[],rfl,rfl⟩
 |cons n t _ ih=>show jE ih ?_;rintro xs rfl rfl;exact⟨(n,t)::xs,rfl,rfl⟩
theorem jI7(m:Nat)(ss:List Str):∀(acc:Nat),(ss.all (fun s=>decide (s.length<=1000)))=true->ss.foldl (·+·.length+m) acc<=acc+ss.length * (1000+m):=by
 induction ss with
 |nil=>intro acc _;exact jOn _ _
 |cons x r ih=>
  intro acc h
  obtain⟨h1,h2⟩:=jM2.mp h
  show x8 (ih (acc+x.length+m) h2) ?_
  rw[jNo,Nat.add_mul,Nat.one_mul,jQh acc,jQh acc]
  exact Nat.add_le_add_left (x8 (jRx (jRx (jNu h1) m) _) (Nat.le_of_eq (jO9 _ _))) _
noncomputable def gw(m:Str):String:=if m="find" then "str.find" else if m="split" then "str.split" else if m="join" then "str.join" else "list.index"
theorem jBp{o d:D}{f:Str}{as:List D}(h:gR o f as=some d){P:Str->Prop}(h1:o.asStr?.bind (fun x=>yf as (fun a=>a.asStr?.map fun y=> .int (Txt.find x y)) fun a b=>a.asStr?.bind fun y=>b.asInt?.map fun i=> .int (jEj x y i))=some d->P "find")(h2:o.asStr?.bind (fun x=>fA as fun a=>a.asStr?.bind fun y=>dF x y)=some d->P "split")
  (h3:o.asStr?.bind (fun x=>fA as fun a=>a.asList?.bind fun l=>tI x l)=some d->P "join") (h4:o.asList?.bind (fun l=>fA as fun x=>gy l x)=some d->P "index"):P f:=mf h1 (mf h2 (mf h3 (mf h4 nn))) h
theorem jF5{x y:Str}{t u:Tok}{d:D}(hY:∀a∈Y,a<s.heap.objs.size)(h:dF x y=some d)(q:Kq C Y d s Q):wpAny C.M A (call (.builtin "str.split") [.str x t,.str y u]) Q NE s:=by
 unfold dF at h
 revert h;show vS fun hs h=> ?_
 .replace h:=jX h;subst h
  show rI hs fun g1 g2 g3 g4 g5=> ?_;clear hs
  have hz:sizeLine=16777216:=by decide
  show call_meets F.slot_str_split (jSc _ _ _) F.entry_str_split (F.args_str_split_2 _ _) (meets_str_split_sep _ _ t u g3 (by simp[g1]) g4 j6 j6) ?_
  show q _ _ (KP.push (by simp+arith only)) (.list (vs:=strsFrom s.toks _) (n:=0) ?_ (jCs _ _))
  exact zb hY nL (jMw _ rfl)
theorem jI8{x:Str}{t:Tok}{l:List D}{d:D}(p:y0 (n+1) A)(hv:RD C s.heap Y v (.list l))(h:tI x l=some d)(q:Kq C Y d s Q):wpAny C.M A (call (.builtin "str.join") [.str x t,v]) Q NE s:=by
 have hu:=p.units
 unfold tI at h
 revert h;show vS fun _ h=> ?_
 .show bE h fun ss hi h=> ?_
  revert h;show vS fun _ h=> ?_
  .rename_i hs nu;replace h:=jX h;subst h
   show ja hv.list_inv ?_;rintro a vs m rfl h1 r1
   show jE (jF2 (jHg r1 hi)) fun xs e1 e2=> ?_
   show yA (SC.join (D:=a) (l:=xs) (texts:=ss) ?_ e2 ?_ fun t' k' ht=>q _ _ (KP.tok ht) (.str _ _))
   .rw[<-e1];exact jU h1
   .unfold JoinOk Builtin.Str.tooLong
    have:=jI7 x.length ss 0 nu
    have e3:ss.length=l.length:=by
     have:=jM8 List.length e2
     have l1:=r1.length
     rw[e1] at l1
     simp[strValues] at l1 this
     lia
    have hz:sizeLine=16777216:=by decide
    simp only[List.foldl_toArray',Bool.not_eq_true',decide_eq_false_iff_not]
    have:ss.length * (1000+x.length)<=1000 * 1000:=Nat.mul_le_mul (by lia) (by lia)
    simp
    lia
theorem jGp{l:List D}{x d:D}{ov:Value}(p:y0 (n+1) A)(ho:RD C s.heap Y ov (.list l))(h1:RD C s.heap Y v x)(h:gy l x=some d)(q:Kq C Y d s Q):wpAny C.M A (call (.builtin "list.index") [ov,v]) Q NE s:=by
 have hu:=p.units
 unfold gy at h
 revert h;show vS fun hs h=> ?_
 .show mE h fun j hi hj=> ?_
  subst hj
  show ja ho.list_inv ?_;rintro a ws m rfl h2 r2
  show qk (rZ (A:=A.in1) r2 h1 hs.2 (by show(?_:A.units+1+21<9800);lia)) fun e he _ hb=> ?_
  obtain⟨hj,hj1,hj2⟩:=jO6.mp hi
  have hlen:=r2.length
  have at_:∀i (hi:i<l.length),e (ws[i]'(by lia))=D.beq l[i] x:=fun i hi=>by
   show jE (r2.get (k:=i) (d:=l[i]) (by simp)) fun v hv hr=> ?_
   have:ws[i]'(by lia)=v:=by
    have h3:ws[i]? =some (ws[i]'(by lia)):=by simp
    rw[h3] at hv;exact jX hv
   rw[this]
   exact hb v _ (by rw[<-this];exact jPv _) (jPv _) hr
  show call_meets F.slot_list_index (jU h2).typeIs F.entry_list_index (F.args_list_index_2 _ _) (list_indexAt a ws.toArray m none #[] _ e j (by simp;lia) (by lia) (by exact(at_ j hj).trans hj1) fun i hi hij=> ?_) ⟨(jG h2).1,fun y hy=>he y (by simpa using hy),?_⟩
  .have:=at_ i (by simp at hi;lia)
   have h4:=hj2 i hij
   simp only[Bool.not_eq_true] at h4
   exact this.trans h4
  .exact q _ _ (KP.tok (jM5 _)) (.int _ _)
theorem jIy{o d:D}{m:Str}{ds:List D}{ov:Value}{vs:List Value}(p:y0 (n+1) A)(hP:C.P∈Y)(hY:∀a∈Y,a<s.heap.objs.size)(h:gR o m ds=some d)(ho:RD C s.heap Y ov o)(hr:qM C s.heap Y vs ds)(q:Kq C Y d s Q):wpAny C.M A (call (.builtin (gw m)) (ov::vs)) Q NE s:=by
 show jBp h (P:=fun m=>wpAny C.M A (call (.builtin (gw m)) (ov::vs)) Q NE s) (fun h=> ?_) (fun h=> ?_) (fun h=> ?_) fun h=> ?_
 .show jE (qD h) ?_;rintro x rfl h
  obtain⟨t,rfl⟩:=ho.str_inv
  show rL h hr (P:=fun vs=>wpAny C.M A (call (.builtin "str.find") (.str x t::vs)) Q NE s) (fun u a ru ha=> ?_) fun u v a b ru rv ha=> ?_
  .show mE ha fun y hy hd=> ?_
   obtain rfl:=xl hy
   subst hd
   obtain⟨u,rfl⟩:=ru.str_inv
   exact SC.find (q _ _ (KP.tok (jM5 _)) (.int _ _))
  .show jE (qD ha) ?_;rintro y rfl ha
   show jE (kW ha) ?_;rintro i rfl rfl
   obtain⟨u,rfl⟩:=ru.str_inv
   obtain⟨v,rfl⟩:=rv.int_inv
   exact call_gives F.slot_str_find (jSc _ _ _) F.entry_str_find (F.args_str_find_3 _ _ _) (gives_str_find_from _ _ _ t u v) (q _ _ (KP.tok (jM5 _)) (.int _ _))
 .show jE (qD h) ?_;rintro x rfl h
  obtain⟨t,rfl⟩:=ho.str_inv
  show k9 h hr (P:=fun vs=>wpAny C.M A (call (.builtin "str.split") (.str x t::vs)) Q NE s) fun u a ru ha=> ?_
  show jE (qD ha) ?_;rintro y rfl ha
  obtain⟨u,rfl⟩:=ru.str_inv
  exact jF5 hY ha q
 .show jE (qD h) ?_;rintro x rfl h
  obtain⟨t,rfl⟩:=ho.str_inv
  show k9 h hr (P:=fun vs=>wpAny C.M A (call (.builtin "str.join") (.str x t::vs)) Q NE s) fun u a ru ha=> ?_
  show jE (qW ha) ?_;rintro l rfl ha
  exact jI8 p ru ha q
 .show jE (qW h) ?_;rintro l rfl h
  exact k9 h hr (P:=fun vs=>wpAny C.M A (call (.builtin "list.index") (ov::vs)) Q NE s) fun u a ru ha=>jGp p ho ru ha q
set_option tactic.hygienic true in
theorem jCr{d:D}{b:Bool}{Q:Bool->Shared->Prop}(h0:uC d=some b)(mi:RD C s.heap Y v d)(q:∀tk,s.toks<=tk->Q b { s with toks:=tk }):wpAny C.M A (truthy v) Q NE s:=by
 have h:truD0 d.flat=some b:=h0
 have hv:=mi.flat
 clear h0 mi
 generalize d.flat=d at h hv
 induction d using cD with
 |bool c=>
  replace h:=jX h;subst h;rw[hv.bool_inv];exact jOs (q _ nL)
 |list ds=>
  replace h:(if ds.length<=lim then some (!ds.isEmpty) else none)=some b:=h
  revert h;show yT (fun hs h=> ?_) (fun _ h=> ?_)
  .replace h:=jX h;subst h
   show ja hv.list_inv ?_;rintro a vs m rfl h1 r1
   have hl:=r1.length
   have jh:lim=1000000:=rfl
   show wpAny_truthy_list (jU h1) (by simp;lia) ?_
   have:=q (s.toks+1+1) (by simp+arith only)
   have e:(!vs.toArray.isEmpty)= !ds.isEmpty:=by
    induction vs using cL with
    |nil=>induction ds using cL with
     |nil=>rfl
     |cons=>simp at hl
    |cons=>induction ds using cL with
     |nil=>simp at hl
     |cons=>simp
   rw[e];exact this
  .exact zn h
 |_=>exact zn h
theorem jEa{op:CmpOp}{e:Expr}(h:qH e=false):behindInMarks op e=false:=by
 cases e <;> first|rfl|(exact Bool.noConfusion h)
theorem gi(S:SE C n r)(a1:y0 (n+1) A)(m:Nat):∀{e:Expr} {b:Bool} {s:Shared} {Q:Bool->Shared->Prop},Pre C n k A env Y l s->Bt r k env.scope l m e=some b->
  (∀s',KP C s s'->Pre C n k A env Y l s'->Q b s')->wpAny C.M A (isTrue e env (eval e env)) Q NE s:=by
 induction m with
 |zero=>
  intro e b s Q p h q
  cases h
 |succ m ih=>
  intro e b s Q p h q
  induction e using cE with
  |UnaryOp op x pos=>
   induction op using cU with
   |Not=>
    show mE h ?_;rintro c h1 rfl
    exact isTrue_not (ih p h1 fun s' k' p'=>q s' k' p')
   |_=>exact nn h
  |BoolOp op es pos=>
   induction op using cBO with
   |And=>
    induction es using cL with
    |nil=>exact nn h
    |cons x es=>
     induction es using cL with
     |nil=>exact nn h
     |cons y es=>
      induction es using cL with
      |cons _ _=>exact nn h
      |nil=>
       show bE (show (Bt r k env.scope l m x).bind (fun b=>if b=true then Bt r k env.scope l m y else some false)=some b from h) fun c h1 h=> ?_
       show isTrue_and (ih p h1 fun s' k' p'=> ?_)
       induction c using cT with
       |false=>(replace h:=jX h;subst h);rw[jMv jMy];exact q s' k' p'
       |true=>
        rw[jMt rfl]
        show isTrue_and (ih p' h fun k7 ah aW=> ?_)
        induction b using cT with
        |false=>rw[jMv jMy];exact q k7 (k'.trans ah) aW
        |true=>rw[jMt rfl];exact isTrue_and_nil (q k7 (k'.trans ah) aW)
   |Or=>
    induction es using cL with
    |nil=>exact nn h
    |cons x es=>
     induction es using cL with
     |nil=>exact nn h
     |cons y es=>
      induction es using cL with
      |cons _ _=>exact nn h
      |nil=>
       show bE (show (Bt r k env.scope l m x).bind (fun b=>if b=true then some true else Bt r k env.scope l m y)=some b from h) fun c h1 h=> ?_
       show isTrue_or (ih p h1 fun s' k' p'=> ?_)
       induction c using cT with
       |true=>(replace h:=jX h;subst h);rw[jMt rfl];exact q s' k' p'
       |false=>
        rw[jMv jMy]
        show isTrue_or (ih p' h fun k7 ah aW=> ?_)
        induction b using cT with
        |true=>rw[jMt rfl];exact q k7 (k'.trans ah) aW
        |false=>rw[jMv jMy];exact isTrue_or_nil (q k7 (k'.trans ah) aW)
  |Compare x ops ys pos=>
   induction ops using cL with
   |nil=>exact nn h
   |cons op ops=>
    induction ops using cL with
    |cons _ _=>exact nn h
    |nil=>
     induction ys using cL with
     |nil=>exact nn h
     |cons y ys=>
      induction ys using cL with
      |cons _ _=>exact nn h
      |nil=>
       have h:(if qH y=true then none else (r.E k env.scope l x).bind fun a=>(r.E k env.scope l y).bind fun b=>gA op a b)=some b:=h
       revert h;show yT (fun _ h=> ?_) fun wa h=> ?_
       .exact nn h
       .show bE h fun a h1 h=> ?_
        show bE h fun c h2 h=> ?_
        show jRt (S.at p h1 fun v1 s₁ k₁ p₁ r₁=>S.at p₁ h2 fun v2 s₂ k₂ p₂ r₂=>jC6 a1 h (r₁.kp k₂ p.hP) r₂ fun tk ht=>jOs ?_) (jEa (by simpa using wa))
        have kk:KP C s₂ { s₂ with toks:=tk }:=KP.tok ht
        exact q _ ((k₁.trans k₂).trans kk) (p₂.kp kk)
  |Name x pp=>
   show bE (show (r.E k env.scope l (.Name x pp)).bind uC=some b from h) fun d h1 h=> ?_
   show isTrue_plain (S.at p h1 fun v s₁ k₁ p₁ r₁=>jCr h r₁ fun tk ht=> ?_)
   have kk:KP C s₁ { s₁ with toks:=tk }:=KP.tok ht
   exact q _ (k₁.trans kk) (p₁.kp kk)
  |Call f as ks pp=>
   show bE (show (r.E k env.scope l (.Call f as ks pp)).bind uC=some b from h) fun d h1 h=> ?_
   show isTrue_plain (S.at p h1 fun v s₁ k₁ p₁ r₁=>jCr h r₁ fun tk ht=> ?_)
   have kk:KP C s₁ { s₁ with toks:=tk }:=KP.tok ht
   exact q _ (k₁.trans kk) (p₁.kp kk)
  |_=>exact nn h
theorem fG.ne{h:Heap}(f:fG env h){p:Str×Addr}(hp:p∈env.cells):p.2≠env.locals:=by
 intro e
 show qA (f.cl p hp) fun v o ho hd=> ?_
 show dD f.ns fun m o' es ep ho' yL _=> ?_
 rw[e] at ho
 rw[ho] at ho'
 replace ho':=jX ho';subst ho'
 rw[hd] at yL;cases yL
theorem vx{x:Str}{Q:Unit->Shared->Prop}(kind:env.scope.kind= .function)(cells:∀n,env.kindOf n=some .cell\/env.kindOf n=some .free->(env.cells.lookup n).isSome=true)(fm:fG env s.heap)(hk:env.kindOf x=some .local\/env.kindOf x=some .cell)
  (hQ:∀h' tk a,s.toks<=tk->(a=env.locals\/(env.kindOf x=some .cell/\env.cells.lookup x=some a))->Heap.SameBut a s.heap h'->fG env h'->jg env h' x v->(∀y u,y≠x->jg env s.heap y u->jg env h' y u)->Q () { s with heap:=h',toks:=tk }):
  wpAny C.M A (storeName env x v) Q NE s:=by
 rcases hk with hk|hk
 .obtain⟨m,hn⟩:=fm.ns
  show wpAny_storeName_local hk hn (fun h' oF hs=> ?_) (by rw[kind];rfl)
  show hQ h' _ env.locals (jM5 _) (.inl rfl) hs ⟨⟨_,oF⟩,fun p hp=> ?_,fm.apart⟩ (.inl ⟨hk,_,oF,by simp⟩) ?_
  .obtain⟨u,hu⟩:=fm.cl p hp
   exact⟨u,hu.sameBut hs (fm.ne hp)⟩
  .intro y u hy hv
   rcases hv with ⟨cA,m2,rx,lF⟩|⟨cA,c,hc,hv⟩
   .show .inl ⟨cA,_,oF,?_⟩
    rw[jMv hy,hn.agree rx];exact lF
   .exact .inr ⟨cA,c,hc,hv.sameBut hs (fm.ne (mem_of_lookup hc))⟩
 .obtain⟨c,hc⟩:=jM4.mp (cells x (.inl hk))
  have xx:=mem_of_lookup hc
  obtain⟨v0,mi⟩:=fm.cl _ xx
  show wpAny_storeName_cell kind hk hc mi fun h' du hs=> ?_
  show hQ h' s.toks c nL (.inr ⟨hk,hc⟩) hs ⟨?_,fun p hp=> ?_,fm.apart⟩ (.inr ⟨.inl hk,c,hc,du⟩) ?_
  .obtain⟨m,hn⟩:=fm.ns
   exact⟨m,hn.sameBut hs (fun e=>fm.ne xx e.symm)⟩
  .by_cases e:p.2=c
   .rw[e];exact⟨_,du⟩
   .obtain⟨u,hu⟩:=fm.cl p hp
    exact⟨u,hu.sameBut hs e⟩
  .intro y u hy hv
   rcases hv with ⟨cA,m2,rx,lF⟩|⟨cA,c2,cK,sx⟩
   .exact .inl ⟨cA,m2,rx.sameBut hs (fun e=>by
     show ja rx fun o es ep ho hd _=> ?_;clear rx
     show jE mi fun o' ho' yL=> ?_;clear mi
     rw[e] at ho
     rw[ho] at ho';replace ho':=jX ho';subst ho';rw[hd] at yL;cases yL),lF⟩
   .show .inr ⟨cA,c2,cK,sx.sameBut hs fun e=> ?_⟩
    subst e
    exact hy (name_of_addr fm.apart (mem_of_lookup cK) xx)
theorem gc(names:fb):∀(h:Heap) (acc:yR),(∀p∈acc,∃v,h.IsCell p.2 v)->(acc.Pairwise fun x y=>x.2≠y.2)->
  (∀p∈cellsFrom h.objs.size names acc,∃v,(pushCells h names).IsCell p.2 v)/\((cellsFrom h.objs.size names acc).Pairwise fun x y=>x.2≠y.2)/\(∀p∈cellsFrom h.objs.size names acc,p∈acc\/h.objs.size<=p.2):=by
 induction names with
 |nil=>
  intro h acc h1 h2
  exact⟨h1,h2,fun p hp=> .inl hp⟩
 |cons q0 rs ih=>
  obtain⟨name,kind⟩:=q0
  intro h acc h1 h2
  unfold pushCells cellsFrom
  split
  .have:=ih (h.push { cls:= .type "cell",data:= .cell none }) ((name,h.objs.size)::acc)
    (fun p hp=>by
     rcases j0.mp hp with e0|hp
     .rw[e0];exact⟨_,_,jMw _ rfl,rfl⟩
     .obtain⟨v,hv⟩:=h1 p hp
      exact⟨v,hv.keeps fun b o e=>vK _ e⟩)
    (jOa.mpr ⟨fun y hy e=>by
     obtain⟨v,hv⟩:=h1 y hy
     have e':h.objs.size=y.2:=e
     exact jNp _ (e'▸hv.lt),h2⟩)
   rw[jOr] at this
   show⟨this.1,this.2.1,fun p hp=> ?_⟩
   rcases this.2.2 p hp with h|h
   .rcases j0.mp h with e0|h
    .rw[e0];exact .inr nL
    .exact .inl h
   .exact .inr (by show x8 ?_ (by assumption);simp+arith)
  .exact ih h acc h1 h2
theorem xB(names:fb):∀(m:Nat) (acc:yR) (x:Str),(names.lookup x=some .cell\/(acc.lookup x).isSome=true)->((cellsFrom m names acc).lookup x).isSome=true:=by
 induction names with
 |nil=>
  intro m acc x h
  rcases h with h|h;cases h;exact h
 |cons q0 rs ih=>
  obtain⟨name,kind⟩:=q0
  intro m acc x h
  unfold cellsFrom
  split
  .rename_i hk
   show ih (m+1) _ x ?_
   by_cases e:x=name
   .subst e;right;simp
   .have e':(x==name)=false:=by simpa using e
    rcases h with h|h
    .left;rw[jMz,e'] at h;exact h
    .right;rw[jMz,e'];exact h
  .rename_i hk
   show ih m acc x ?_
   by_cases e:x=name
   .subst e
    rcases h with h|h
    .simp only[List.lookup_cons,beq_self_eq_true,Option.some.injEq] at h
     rw[h] at hk;exact absurd rfl hk
    .exact .inr h
   .have e':(x==name)=false:=by simpa using e
    rcases h with h|h
    .left;rw[jMz,e'] at h;exact h
    .exact .inr h
theorem vD(names:fb):∀(m:Nat) (acc:yR) (x:Str),(∀q∈names,q.1=x->q.2≠.cell)->(cellsFrom m names acc).lookup x=acc.lookup x:=by
 induction names with
 |nil=>
  intro m acc x h
  exact rfl
 |cons q0 rs ih=>
  obtain⟨name,kind⟩:=q0
  intro m acc x h
  unfold cellsFrom
  split
  .rename_i hk
   have je:x≠name:=fun e=>h (name,kind) jy e.symm (by simpa using hk)
   rw[ih (m+1) _ x fun q hq=>h q (qV _ hq),jMz]
   have e':(x==name)=false:=by simpa using je
   rw[e']
  .exact ih m acc x fun q hq=>h q (qV _ hq)
theorem jC8(names:fb):∀(m:Nat) (acc:yR) (x:Str),(∃q∈names,q.1=x/\q.2= .cell)->∃c,m<=c/\(cellsFrom m names acc).lookup x=some c:=by
 induction names with
 |nil=>
  intro m acc x h
  (show jE h fun q hq _=> ?_;clear h);cases hq
 |cons q0 rs ih=>
  obtain⟨name,kind⟩:=q0
  intro m acc x h
  unfold cellsFrom
  by_cases hr:∃q∈rs,q.1=x/\q.2= .cell
  .split
   .show jE (ih (m+1) ((name,m)::acc) x hr) fun c h1 h2=> ?_
    exact⟨c,by show x8 ?_ (by assumption);simp+arith,h2⟩
   .exact ih m acc x hr
  .show qk h fun q hq h1 h2=> ?_;clear h
   rcases j0.mp hq with rfl|hq
   .simp only at h1 h2
    subst h1 h2
    simp only[beq_self_eq_true,if_true]
    show⟨m,jNi _,?_⟩
    rw[vD rs (m+1) _ name fun q hq h1 h2=>hr ⟨q,hq,h1,h2⟩]
    simp
   .exact absurd ⟨q,hq,h1,h2⟩ hr
theorem jAa{l:fb}{x:Str}{kd:NameKind}(h:l.lookup x=some kd):∃q∈l,q.1=x/\q.2=kd:=by
 induction l with
 |nil=>exact nn h
 |cons q rs ih=>
  rw[jMz] at h
  generalize hb:(x==q.1)=x0;induction x0 using cT with
  |true=>rw[hb] at h;exact⟨q,jy,(jNs.mp hb).symm,jX h⟩
  |false=>rw[hb] at h;show jE (ih h) fun q hq h1=> ?_;exact⟨q,qV _ hq,h1⟩
theorem jFv(N:Nat)(f:Str×Value->PUnit->Sem (ForInStep PUnit))(hf:∀x v u,f (x,v) u=(do storeName env x v;pure (.yield ⟨⟩)))
  (kind:env.scope.kind= .function) (cells:∀n,env.kindOf n=some .cell\/env.kindOf n=some .free->(env.cells.lookup n).isSome=true)
  (hN:N<=env.locals) (hNc:∀x c,env.kindOf x=some .cell->env.cells.lookup x=some c->N<=c) (binds:nF):∀(s:Shared) (dn:Str->Option Value) (Q:PUnit->Shared->Prop),fG env s.heap->(∀x∈binds,env.kindOf x.1=some .local\/env.kindOf x.1=some .cell)->(∀x v,dn x=some v->jg env s.heap x v)->
   (∀h' tk,s.toks<=tk->(∀b o,b<N->s.heap.get? b=some o->h'.get? b=some o)->fG env h'->(∀x v,(binds.reverse.lookup x).or (dn x)=some v->jg env h' x v)->Q ⟨⟩ { s with heap:=h',toks:=tk })->
   wpAny C.M A (forIn binds ⟨⟩ f) Q NE s:=by
 induction binds with
 |nil=>
  intro s dn Q fm _ hd hQ
  rw[List.forIn_nil]
  exact jMr (hQ s.heap s.toks nL (fun _ _ _ e=>e) fm fun x v h=>hd x v (by exact h))
 |cons q0 rs ih=>
  obtain⟨x,v⟩:=q0
  intro s dn Q fm hb hd hQ
  rw[jQn,hf]
  show jMq (jMq (vx kind cells fm (hb _ jy) fun h' tk a ht ha hs nV hv hk=>jMr ?_))
  show ih { s with heap:=h',toks:=tk } (fun y=>if y=x then some v else dn y) Q nV (fun y hy=>hb y (qV _ hy)) (fun y u h=> ?_) (fun pQ tk' pH wm fm'' du=> ?_)
  .by_cases e:y=x
   .subst e;simp at h;subst h;exact hv
   .rw[jMv e] at h;exact hk y u e (hd y u h)
  .show hQ pQ tk' (x8 ht pH) (fun b o pL e=>wm b o pL (hs.extBut b o ?_ e)) fm'' fun y u h=>du y u ?_
   .rcases ha with ha|⟨iq,cG⟩
    .exact fun e=>absurd pL (jN9.mpr (by rw[e,ha];exact hN))
    .exact fun e=>absurd pL (jN9.mpr (by rw[e];exact hNc x a iq cG))
   .rw[List.reverse_cons,jSd] at h
    by_cases e:y=x
    .subst e
     generalize h1:rs.reverse.lookup y=x0;induction x0 using cO with
     |some w=>rw[h1] at h;exact h
     |none=>rw[h1] at h;simpa using h
    .have e':(y==x)=false:=by simpa using e
     generalize h1:rs.reverse.lookup y=x0;induction x0 using cO with
     |some w=>rw[h1] at h;exact h
     |none=>rw[h1] at h;simpa [List.lookup_cons,e',e] using h
theorem vB{scope:Scope}{globals:Addr}{closure:yR}{binds:nF}{qual:Str}{func:Option Addr}{code:Value}{around:Option Env}{builtins:Addr}{Q:Env->Shared->Prop}
  (kind:scope.kind= .function) (hb:∀x∈binds,scope.names.lookup x.1=some .local\/scope.names.lookup x.1=some .cell)
  (mV:∀x,scope.names.lookup x=some .free->(closure.lookup x).isSome=true)
  (xc:∀p∈closure,∃v,s.heap.IsCell p.2 v) (eQ:closure.Pairwise fun x y=>x.2≠y.2)
  (hQ:∀env h' tk,env=newEnv scope s.heap.objs.size globals (cellsFrom (s.heap.objs.size+1) scope.names closure) qual func code around builtins->s.toks<=tk->(∀b o,s.heap.get? b=some o->h'.get? b=some o)->fG env h'->
   (∀x v,binds.reverse.lookup x=some v->jg env h' x v)->Q env { s with heap:=h',toks:=tk }):
  wpAny C.M A (newFunctionEnv scope globals closure binds qual func code around builtins) Q NE s:=by
 have main:∀(cls:Value) (env:Env),env=newEnv scope s.heap.objs.size globals (cellsFrom (s.heap.objs.size+1) scope.names closure) qual func code around builtins->
   env.scope=scope->env.locals=s.heap.objs.size->env.cells=cellsFrom (s.heap.objs.size+1) scope.names closure->
   ∀f:Str×Value->PUnit->Sem (ForInStep PUnit),(∀x v u,f (x,v) u=(do storeName env x v;pure (.yield ⟨⟩)))->
   wpAny C.M A (forIn binds ⟨⟩ f) (fun _ s'=>wpAny C.M A (pure env) Q NE s') NE { s with heap:=pushCells (s.heap.push { cls:=cls,data:= .dict #[] }) scope.names }:=by
  intro cls env he qE hl hc f hf
  have ku:(s.heap.push { cls:=cls,data:= .dict #[] }).objs.size=s.heap.objs.size+1:=jOr ..
  have wf:=gc scope.names (s.heap.push { cls:=cls,data:= .dict #[] }) closure (fun p hp=>by
   obtain⟨v,hv⟩:=xc p hp
   exact⟨v,hv.keeps fun b o e=>vK _ e⟩) eQ
  rw[ku] at wf
  show jFv s.heap.objs.size f hf (by rw[qE];exact kind) ?_ (by rw[hl];exact jNi _) ?_ binds _ (fun _=>none) _ ⟨?_,?_,?_⟩ ?_ (fun x v h=>by exact zn h) ?_
  .intro x hx
   rw[hc]
   show xB _ _ _ _ ?_
   rcases hx with hx|hx
   .left;rw[<-qE];exact hx
   .right;exact mV x (by rw[<-qE];exact hx)
  .intro x c hx h
   rw[hc] at h
   show jE (jC8 scope.names (s.heap.objs.size+1) closure x (jAa (by rw[<-qE];exact hx))) fun c' h1 h2=> ?_
   rw[h2] at h;replace h:=jX h;subst h;(show x8 ?_ (by assumption);simp+arith)
  .rw[hl]
   exact⟨_,(Heap.Ns.new s.heap cls).keeps fun b o e=>pushCells_keeps _ _ b o e⟩
  .rw[hc];exact wf.1
  .rw[hc];exact wf.2.1
  .intro x hx
   have:=hb x hx
   show(?_:env.scope.names.lookup x.1=_\/env.scope.names.lookup x.1=_)
   rw[qE];exact this
  .intro h' tk ht hk fm hv
   exact jMr (hQ env h' tk he ht (fun b o e=>hk b o (jM1 e) (pushCells_keeps _ _ b o (vK _ e))) fm fun x v h=>hv x v (by simpa using h))
 induction around using cO with
 |none=>
  simp only[newFunctionEnv,Option.isSome_none,Bool.false_eq_true,if_false]
  show jMq (wpAny_alloc (jMq (wpAny_layCells _ (fun _ _ _=>rfl) _ _ _ _ (jMq ?_))))
  rw[show ({ s with heap:=s.heap.push { cls:= .type "frame",data:= .dict #[] } }:Shared).heap.objs.size=s.heap.objs.size+1 from jOr ..]
  exact main (.type "frame") _ rfl rfl rfl rfl _ fun _ _ _=>rfl
 |some outer=>
  simp only[newFunctionEnv,Option.isSome_some,if_true]
  show jMq (wpAny_alloc (jMq (wpAny_layCells _ (fun _ _ _=>rfl) _ _ _ _ (jMq ?_))))
  rw[show ({ s with heap:=s.heap.push { cls:= .type "dict",data:= .dict #[] } }:Shared).heap.objs.size=s.heap.objs.size+1 from jOr ..]
  exact main (.type "dict") _ rfl rfl rfl rfl _ fun _ _ _=>rfl
theorem ne{α:Type}{M:Model}{t:Sem α}{Q:α->Shared->Prop}(h:wpAny M A t Q NE s):wpAny M A t Q E s:=jNh h (fun _ _ x=>x) fun _ _ x=>x.elim
inductive gm (C:Cx) (A:Around) (Y:List Addr) (I:Addr) (ds:List D) (h:Heap):Prop
 |mk:∀fp n P St i,Walks C.prog C.w A I fp [I] n P St->St i h->i+ds.length=n->(((∀b∈fp,b=I\/b∉Y)/\∀b∈fp,∃o,h.get? b=some o))->((∀j h,St j h->∃o,h.get? I=some o/\(o.cls= .type "list_iterator"\/o.cls= .type "tuple_iterator"\/o.cls= .type "range_iterator")))->(∀j v,P (i+j) v->∀d,ds[j]? =some d->RD C h Y v d)->gm C A Y I ds h
variable{I:Addr}{ds:List D}
theorem z7{h h':Heap}(hk:∀b o,b∉Y->h.get? b=some o->h'.get? b=some o):∀a o,view h Y a=some o->view h' Y a=some o:=fun a o e=>by
 obtain⟨e,n⟩:=jG e
 exact jT (hk a o n e) n
theorem gm.obj{h:Heap}(x:gm C A Y I ds h):∃o,h.get? I=some o/\(o.cls= .type "list_iterator"\/o.cls= .type "tuple_iterator"\/o.cls= .type "range_iterator"):=by
 obtain⟨fp,m,P,St,i,W,st,hl,vM,ho,hP⟩:=x
 exact ho i h st
theorem yc{h h':Heap}{Z:List Addr}(hk:∀b o,b∉Y->h.get? b=some o->h'.get? b=some o)(hn:∀b∈Z,h.get? b=none):∀a o,view h Y a=some o->view h' (Z++Y) a=some o:=fun a o e=>by
 obtain⟨e,n⟩:=jG e
 show jT (hk a o n e) fun hm=> ?_
 rcases jj.mp hm with hm|hm
 .rw[hn a hm] at e;exact zn e
 .exact n hm
theorem gm.keep{h h':Heap}(x:gm C A Y I ds h)(hI:∀o,h.get? I=some o->h'.get? I=some o)(hk:∀b o,b∉Y->h.get? b=some o->h'.get? b=some o):gm C A Y I ds h':=by
 obtain⟨fp,m,P,St,i,W,st,hl,vM,ho,hP⟩:=x
 have wm:∀b∈fp,∀o,h.get? b=some o->h'.get? b=some o:=fun b hb o e=>by
  rcases vM.1 b hb with rfl|hb
  .exact hI o e
  .exact hk b o hb e
 exact⟨fp,m,P,St,i,W,W.frame i h h' st wm,hl,⟨vM.1,fun b hb=>let ⟨o,e⟩:=vM.2 b hb;⟨o,wm b hb o e⟩⟩,ho,fun j v hv d hd=>R.mono (z7 hk) (hP j v hv d hd)⟩
theorem gm.more{h h':Heap}{Z:List Addr}(x:gm C A Y I ds h)(hZ:∀b∈Z,h.get? b=none)(hk:∀b o,h.get? b=some o->h'.get? b=some o):gm C A (Z++Y) I ds h':=by
 obtain⟨fp,m,P,St,i,W,st,hl,vM,ho,hP⟩:=x
 show⟨fp,m,P,St,i,W,W.frame i h h' st fun b _ o e=>hk b o e,hl,⟨fun b hb=> ?_,fun b hb=>let ⟨o,e⟩:=vM.2 b hb;⟨o,hk b o e⟩⟩,ho,fun j v hv d hd=>R.mono (yc (fun b o _ e=>hk b o e) hZ) (hP j v hv d hd)⟩
 rcases vM.1 b hb with e|e
 .exact .inl e
 .show .inr fun hm=> ?_
  rcases jj.mp hm with hm|hm
  .obtain⟨o,ho⟩:=vM.2 b hb
   rw[hZ b hm] at ho;exact zn ho
  .exact e hm
theorem gm.perm{h:Heap}{Y':List Addr}(x:gm C A Y I ds h)(hY:∀b,b∈Y'↔b∈Y):gm C A Y' I ds h:=by
 obtain⟨fp,m,P,St,i,W,st,hl,vM,ho,hP⟩:=x
 show⟨fp,m,P,St,i,W,st,hl,⟨fun b hb=> ?_,vM.2⟩,ho,fun j v hv d hd=>R.mono (fun a o e=> ?_) (hP j v hv d hd)⟩
 .rcases vM.1 b hb with e|e
  .exact .inl e
  .exact .inr fun hm=>e ((hY b).mp hm)
 .obtain⟨e,nn⟩:=jG e
  exact jT e fun hm=>nn ((hY a).mp hm)
theorem jK0{Q:Option Value->Shared->Prop}(x:gm C A Y I [] s.heap)(q:∀h' tk,s.toks<=tk->(∀b o,b≠I->s.heap.get? b=some o->h'.get? b=some o)->Q none { s with heap:=h',toks:=tk }):wpAny C.M A (pyNext (.ref I)) Q NE s:=by
 obtain⟨fp,m,P,St,i,W,st,hl,vM,ho,hP⟩:=x
 have e:i=m:=by exact hl
 subst e
 exact yA (W.done s _ _ st fun h' tk hk ht=>q h' tk ht fun b o hb e=>hk b o (by simpa using hb) e)
theorem jIv{d:D}{Q:Option Value->Shared->Prop}(hI:I∈Y)(x:gm C A Y I (d::ds) s.heap)(q:∀v h' tk,s.toks<=tk->(∀b o,b≠I->s.heap.get? b=some o->h'.get? b=some o)->gm C A Y I ds h'->RD C h' Y v d->Q (some v) { s with heap:=h',toks:=tk }):wpAny C.M A (pyNext (.ref I)) Q NE s:=by
 obtain⟨fp,m,P,St,i,W,st,hl,vM,ho,hP⟩:=x
 simp only[List.length_cons] at hl
 show yA (W.item i s _ _ (by lia) st fun v h' tk hv st' hk ht=> ?_)
 have k8:∀b o,b≠I->s.heap.get? b=some o->h'.get? b=some o:=fun b o hb e=>hk b o (by simpa using hb) e
 have hm:=z7 (h:=s.heap) (h':=h') (Y:=Y) fun b o hb e=>k8 b o (fun e'=>hb (e'▸hI)) e
 exact q v h' tk ht k8 ⟨fp,m,P,St,i+1,W,st',by lia,⟨vM.1,fun b hb=>(by by_cases e:b=I;exact(ho (i+1) h' st').elim fun o h=>⟨o,e▸h.1⟩;exact(vM.2 b hb).elim fun o h=>⟨o,k8 b o e h⟩)⟩,ho,fun j u hu d' yL=>R.mono hm (hP (j+1) u (by rw[show i+(j+1)=i+1+j by simp+arith only];exact hu) d' (by exact yL))⟩ (R.mono hm (hP 0 v (by exact hv) d rfl))
theorem jBn(x:gm C A Y I ds s.heap)(q:Q (.ref I) s):wpAny C.M A (pyIter (.ref I)) Q NE s:=by
 obtain⟨fp,m,P,St,i,W,st,hl,vM,ho,hP⟩:=x
 exact W.self i s _ _ st q
set_option tactic.hygienic true in
theorem yr{d:D}(hh:A.handled=none)(hY:∀a∈Y,a<s.heap.objs.size)(hv:RD C s.heap Y v d)(h:ji d=some ds)
  (q:∀h',(∀b o,s.heap.get? b=some o->h'.get? b=some o)->gm C A (s.heap.objs.size::Y) s.heap.objs.size ds h'->Q (.ref s.heap.objs.size) { s with heap:=h' }):wpAny C.M A (pyIter v) Q NE s:=by
 have zN:∀o:Obj,∀b∈[s.heap.objs.size],s.heap.get? b=none:=fun o b hb=>by
  rw[jw.mp hb]
  generalize e:s.heap.get? s.heap.objs.size=x0;induction x0 using cO with
  |none=>rfl
  |some o=>exact absurd (jM1 e) (jNp _)
 induction d using cD with
 |list l=>
  replace h:=jX h;subst h
  show ja hv.list_inv ?_;rintro a vs m rfl h1 r1
  have jv:=jM1 (jG h1).1
  show jSe (jU h1) (q _ (fun b o e=>vK _ e) ?_)
  show⟨_,_,_,_,0,Walks.list hh s.heap.objs.size a (jN5 jv) vs.toArray,⟨⟨_,jMw _ rfl,rfl,rfl⟩,(jU h1).push _⟩,by simp[r1.length],?_,?_,?_⟩
  .show⟨?_,fun b hb=> ?_⟩
   .intro b hb
    simp at hb
    rcases hb with e0|rfl
    .rw[e0];exact .inl rfl
    .show .inr fun hm=> ?_
     rcases j0.mp hm with e|hm
     .exact jNp _ (e▸jv)
     .exact(jG h1).2 hm
   .simp at hb
    rcases hb with e0|rfl
    .rw[e0];exact⟨_,jMw _ rfl⟩
    .exact⟨_,vK _ (jG h1).1⟩
  .rintro j h ⟨⟨o,ho,hc,_⟩,_⟩;exact⟨o,ho,.inl hc⟩
  .intro j v hv d hd
   have hv:vs[j]? =some v:=by simpa using hv
   show jE (r1.getV hv) fun d' yL hr=> ?_
   rw[hd] at yL;replace yL:=jX yL;subst yL
   exact R.mono (yc (Z:=[s.heap.objs.size]) (fun b o _ e=>vK _ e) (zN (j4 [] 0))) hr
 |tup l=>
  replace h:=jX h;subst h
  show ja hv.tup_inv ?_;rintro a vs m rfl h1 r1
  have jv:=jM1 (jG h1).1
  show jSa (jl h1) (q _ (fun b o e=>vK _ e) ?_)
  show⟨_,_,_,_,0,Walks.tuple hh s.heap.objs.size a (jN5 jv) vs.toArray,⟨⟨_,jMw _ rfl,rfl,rfl⟩,(jl h1).push _⟩,by simp[r1.length],?_,?_,?_⟩
  .show⟨?_,fun b hb=> ?_⟩
   .intro b hb
    simp at hb
    rcases hb with e0|rfl
    .rw[e0];exact .inl rfl
    .show .inr fun hm=> ?_
     rcases j0.mp hm with e|hm
     .exact jNp _ (e▸jv)
     .exact(jG h1).2 hm
   .simp at hb
    rcases hb with e0|rfl
    .rw[e0];exact⟨_,jMw _ rfl⟩
    .exact⟨_,vK _ (jG h1).1⟩
  .rintro j h ⟨⟨o,ho,hc,_⟩,_⟩;exact⟨o,ho,.inr (.inl hc)⟩
  .intro j v hv d hd
   have hv:vs[j]? =some v:=by simpa using hv
   show jE (r1.getV hv) fun d' yL hr=> ?_
   rw[hd] at yL;replace yL:=jX yL;subst yL
   exact R.mono (yc (Z:=[s.heap.objs.size]) (fun b o _ e=>vK _ e) (zN (j4 [] 0))) hr
 |rng a b=>
  replace h:(if small a&&small b&&decide (b - a<=1000) then some ((List.range (b - a).toNat).map fun(k:Nat)=>D.int (a+(k:Int))) else none)=some ds:=h
  revert h;show yT (fun hs h=> ?_) (fun _ h=> ?_)
  .replace h:=jX h;subst h
   simp only[Bool.and_eq_true,decide_eq_true_eq] at hs
   have ha:=e8 hs.1.1
   have hb:=e8 hs.1.2
   show uV hv.rng_inv ?_;rintro rr t u z rfl h1
   have hsize:Builtin.Range.rangeSize a b 1=((b - a).toNat:Int):=by
    unfold Builtin.Range.rangeSize;simp;split <;> lia
   show wpAny_pyIter_range (jG h1).1 (small_one (jRp kD (Int.le_of_lt ha.1)) (jQr ha.2 kD) (jRp kD (Int.le_of_lt hb.1)) (jQr hb.2 kD)) (q _ (fun b o e=>vK _ e) ?_)
   .show⟨_,_,_,_,0,Walks.range hh s.heap.objs.size a 1 (b - a).toNat,?_,by simp,?_,?_,?_⟩
    .rw[hsize]
     simp
     exact jMw _ rfl
    .show⟨?_,fun b hb=> ?_⟩
     .intro b hb
      replace hb:=jw.mp hb
      exact .inl hb
     .replace hb:=jw.mp hb
      subst hb
      exact⟨_,jMw _ rfl⟩
    .intro j h ho;exact⟨_,ho,.inr (.inr rfl)⟩
    .intro j v hv d hd
     obtain⟨t,rfl⟩:=hv
     simp only[List.getElem?_map] at hd
     generalize hj:(List.range (b - a).toNat)[j]? =x0;induction x0 using cO with
     |none=>rw[hj] at hd;cases hd
     |some i=>
      rw[hj] at hd;replace hd:=jX hd;subst hd
      have:i=j:=by
       obtain⟨h1,h2⟩:=jPw.mp hj
       simpa using h2.symm
      subst this
      simp
      exact .int _ _
  .exact zn h
 |_=>exact zn h
noncomputable def gx(e:Expr)(depth:Nat)(acc:Value)(env:Env)(emit:Sem Unit):Option Comprehension->Sem Unit
 |some g'=>do
  let x<-eval g'.iter env
  standAt g'.iter.pos
  let x<-foldedSetIterable g'.iter env x
  let _<-runOwn (.compStart e (depth+1) (<-holding [x] (pyIter x)) acc env) env
 |none=>emit
noncomputable def oW(e:Expr)(gens:List Comprehension)(depth:Nat)(g:Comprehension)(it acc:Value)(env:Env)(emit:Sem Unit):Sem Fin:=do
 standAt g.iter.pos
 match<-pyNext it with
 |none=>pure (.done .next)
 |some v=>
  letOwnedTupleGo g.target it v
  assign g.target env v
  let mut ok:=true
  for c in g.ifs do
   if ok then ok<-isTrue c env (eval c env)
  if ok then gx e depth acc env emit gens[depth+1]?
  again (.compLoop e depth it acc env)
theorem jH5{elt:Expr}{gens:List Comprehension}{jM:Scope}{pos:Pos}{depth:Nat}{g:Comprehension}{it acc:Value}(hd:gens[depth]? =some g)(ha:∀g∈gens,g.is_async=0):
  compTurn (.ListComp elt gens jM pos) depth it acc env=oW (.ListComp elt gens jM pos) gens depth g it acc env (do let _<-call (.builtin "list.append") [acc,<-eval elt env]):=by
 have h0:g.is_async=0:=ha g (jNw hd)
 unfold compTurn oW
 simp only[hd,h0]
 generalize h1:gens[depth+1]? =x0;induction x0 using cO with
 |none=>rfl
 |some g'=>
  have h2:g'.is_async=0:=ha g' (jNw h1)
  simp only[h2,gx,bne_self_eq_false,Bool.false_eq_true,if_false,bind_assoc,pure_bind]
  rfl
theorem jH6{ke ve:Expr}{gens:List Comprehension}{jM:Scope}{pos:Pos}{depth:Nat}{g:Comprehension}{it:Value}{d:Addr}(hd:gens[depth]? =some g)(ha:∀g∈gens,g.is_async=0):
  compTurn (.DictComp ke ve gens jM pos) depth it (.ref d) env=oW (.DictComp ke ve gens jM pos) gens depth g it (.ref d) env (do
   let kv<-eval ke env
   let vv<-holding [kv] (eval ve env)
   standAt { ke.pos with endLine:=ve.pos.endLine,endCol:=ve.pos.endCol }
   holding [kv,vv] (dictSet d kv vv)):=by
 have h0:g.is_async=0:=ha g (jNw hd)
 unfold compTurn oW
 simp only[hd,h0]
 generalize h1:gens[depth+1]? =x0;induction x0 using cO with
 |none=>rfl
 |some g'=>
  have h2:g'.is_async=0:=ha g' (jNw h1)
  simp only[h2,gx,bne_self_eq_false,Bool.false_eq_true,if_false,bind_assoc,pure_bind]
  rfl
structure vh(e:Expr)(gens:List Comprehension)(acc:Value)(emit:Env->Sem Unit):Prop where
 cl:clausesOf e=gens
 turn:∀depth g it env,gens[depth]? =some g->compTurn e depth it acc env=oW e gens depth g it acc env (emit env)
 loop:∀(A:Around) depth it env,A.under (.compLoop e depth it acc env)=A
 start:∀(A:Around) depth it env,A.under (.compStart e depth it acc env)=A
 denL:∀depth it env,denote table (.compLoop e depth it acc env)=(compTurn e depth it acc env).onRaise (fun x=>do noteFrame x env;theTreesLotGoes x)
 denS:∀depth it env,denote table (.compStart e depth it acc env)=(compStart e depth it acc env).onRaise (fun x=>do noteFrame x env;standAt theWindowsPlace)
 sync:∀g∈gens,g.is_async=0
theorem jA6{elt:Expr}{gens:List Comprehension}{jM:Scope}{pos:Pos}{acc:Value}(ha:∀g∈gens,g.is_async=0):
  vh (.ListComp elt gens jM pos) gens acc (fun env=>do let _<-call (.builtin "list.append") [acc,<-eval elt env]):=
 ⟨rfl,fun _ _ _ _ hd=>jH5 hd ha,fun _ _ _ _=>jQb rfl,fun _ _ _ _=>jQb rfl,fun _ _ _=>rfl,fun _ _ _=>rfl,ha⟩
theorem jFl{ke ve:Expr}{gens:List Comprehension}{jM:Scope}{pos:Pos}{d:Addr}(ha:∀g∈gens,g.is_async=0):
  vh (.DictComp ke ve gens jM pos) gens (.ref d) (fun env=>do
   let kv<-eval ke env
   let vv<-holding [kv] (eval ve env)
   standAt { ke.pos with endLine:=ve.pos.endLine,endCol:=ve.pos.endCol }
   holding [kv,vv] (dictSet d kv vv)):=
 ⟨rfl,fun _ _ _ _ hd=>jH6 hd ha,fun _ _ _ _=>jQb rfl,fun _ _ _ _=>jQb rfl,fun _ _ _=>rfl,fun _ _ _=>rfl,ha⟩
variable{e:Expr}{gens:List Comprehension}{acc:Value}{emit:Env->Sem Unit}{R:Result->Shared->Prop}
theorem jBk{depth:Nat}{it:Value}{g:Comprehension}(H:vh e gens acc emit)(hd:gens[depth]? =some g)
  (h0:codeAny C.M A (.compLoop e depth it acc env) R s) (h:wpAny C.M A (pyIter it) (fun so s'=>codeAny C.M A (.compLoop e depth so acc env) R s') NE s):
  codeAny C.M A (.compStart e depth it acc env) R s:=by
 have h0':g.is_async=0:=H.sync g (jNw hd)
 show codeAny_of_tree ?_
 rw[H.start,show C.M.den (.compStart e depth it acc env)=denote table (.compStart e depth it acc env) from rfl,H.denS]
 show wpAny_notedAt ?_
 have xc:(clausesOf e)[depth]? =some g:=by rw[H.cl];exact hd
 unfold compStart
 simp only[xc,Option.elim_some,h0',bne_self_eq_false,Bool.false_eq_true,if_false]
 show jMq (jQe (wpAny_ite ?_))
 split
 .exact jMr (And.intro rfl h0)
 .exact jMq (jR9 (jMq (jQf (jMq (jNh h (fun so s' h'=>jMr (And.intro rfl h')) fun _ _ x=>x.elim)))))
theorem jI2{depth:Nat}{it:Value}{g:Comprehension}(H:vh e gens acc emit)(hd:gens[depth]? =some g)(J:Nat->Shared->Prop)
  (turn:∀n s,J n s->wpAny C.M A (pyNext it) (fun r s₁=>match r with
   |none=>R (.ok .next) s₁
   |some v=>wpAny C.M A (letOwnedTupleGo g.target it v) (fun _ s₁'=>wpAny C.M A (assign g.target env v) (fun _ s₂=>
     wpAny C.M A (forIn g.ifs true fun c r=>if r=true then do let ok<-isTrue c env (eval c env);pure (ForInStep.yield ok) else pure (ForInStep.yield r)) (fun ok s₃=>
      if ok=true then wpAny C.M A (gx e depth acc env (emit env) gens[depth+1]?) (fun _ s₄=>∃m,m<n/\J m s₄) NE s₃ else∃m,m<n/\J m s₃) NE s₂) NE s₁') NE s₁) NE s)
  (n:Nat) (h:J n s):codeAny C.M A (.compLoop e depth it acc env) R s:=by
 show codeAny_loop rfl J (fun n s hJ=> ?_) n h
 rw[H.loop,show C.M.den (.compLoop e depth it acc env)=denote table (.compLoop e depth it acc env) from rfl,H.denL,H.turn depth g it env hd]
 show wpAny_noted ?_
 unfold oW
 show jMq (jQf (jMq (jNh (turn n s hJ) (fun r s₁ h₁=> ?_) fun _ _ x=>x.elim)))
 induction r using cO with
 |none=>exact jMr h₁
 |some v=>
  show jMq (jNh h₁ (fun _ s₁' h₁'=>jMq (jNh h₁' (fun _ s₂ h₂=>jMq (jNh h₂ (fun ok s₃ h₃=> ?_) fun _ _ x=>x.elim)) fun _ _ x=>x.elim)) fun _ _ x=>x.elim)
  induction ok using cT with
  |false=>
   simp only[Bool.false_eq_true,if_false] at h₃ ⊢
   exact jMr ⟨rfl,h₃⟩
  |true=>
   simp only[if_true] at h₃ ⊢
   exact jMq (jNh h₃ (fun _ s₄ h₄=>jMr ⟨rfl,h₄⟩) fun _ _ x=>x.elim)
inductive KW (C:Cx) (Z:Addr->Prop) (s s':Shared):Prop
 |mk:∀h' tk,s'={ s with heap:=h',toks:=tk }->s.toks<=tk->((∀b o,b≠C.P->¬Z b->s.heap.get? b=some o->h'.get? b=some o))->((∀b,b≠C.P->(∃o,s.heap.get? b=some o)->∃o,h'.get? b=some o))->qL C s.heap h'->KW C Z s s'
variable{W:List Addr}{s' k7:Shared}{Z Z':Addr->Prop}
theorem KP.kw(x:KP C s s'):KW C Z s s':=by
 obtain⟨h1,t1,rfl,l1,k1,b1⟩:=x
 exact⟨h1,t1,rfl,l1,fun b o hb _ e=>k1 b o hb e,fun b hb ⟨o,e⟩=>⟨o,k1 b o hb e⟩,b1⟩
theorem KW.mono(x:KW C Z s s')(h:∀b,Z b->Z' b):KW C Z' s s':=by
 obtain⟨h1,t1,rfl,l1,k1,e1,b1⟩:=x
 exact⟨h1,t1,rfl,l1,fun b o hb hz e=>k1 b o hb (fun z=>hz (h b z)) e,e1,b1⟩
theorem KW.refl(s:Shared):KW C Z s s:=(KP.refl s).kw
theorem KW.heap(x:KW C Z s s'){b:Addr}{o:Obj}(hb:b≠C.P)(hz:¬Z b)(e:s.heap.get? b=some o):s'.heap.get? b=some o:=by
 obtain⟨h1,t1,rfl,l1,k1,e1,b1⟩:=x
 exact k1 b o hb hz e
theorem KW.tabTo(x:KW C Z s s'):qL C s.heap s'.heap:=by
 obtain⟨h1,t1,rfl,l1,k1,e1,b1⟩:=x
 exact b1
theorem KW.toks(x:KW C Z s s'):s.toks<=s'.toks:=by
 obtain⟨h1,t1,rfl,l1,k1,e1,b1⟩:=x
 exact l1
theorem KW.exs(x:KW C Z s s')(t:jd C s.heap){a:Addr}(h:∃o,s.heap.get? a=some o):∃o,s'.heap.get? a=some o:=by
 by_cases hb:a=C.P
 .subst hb
  obtain⟨ps,h1,_⟩:=(x.tabTo t).1
  exact⟨_,h1⟩
 .obtain⟨h1,t1,rfl,l1,k1,e1,b1⟩:=x
  exact e1 a hb h
theorem qL.trans{h1 h2 h3:Heap}(x:qL C h1 h2)(y:qL C h2 h3)(e:jd C h1->∀b,(∃o,h1.get? b=some o)->∃o,h2.get? b=some o):qL C h1 h3:=fun z=>by
 show⟨(y (x z).1).1,fun c hc=> ?_⟩
 rcases (y (x z).1).2 c hc with h|h
 .exact(x z).2 c h
 .show .inr (none_of fun hs=> ?_)
  obtain⟨o,ho⟩:=e z c hs
  rw[h] at ho;exact zn ho
theorem KW.trans(x:KW C Z s s')(y:KW C Z s' k7):KW C Z s k7:=by
 have x':=x
 obtain⟨h1,t1,rfl,l1,k1,e1,b1⟩:=x
 obtain⟨h2,t2,rfl,l2,k2,e2,b2⟩:=y
 exact⟨h2,t2,rfl,x8 l1 l2,fun b o hb hz e=>k2 b o hb hz (k1 b o hb hz e),fun b hb h=>e2 b hb (e1 b hb h),b1.trans b2 fun t b h=>x'.exs t h⟩
theorem qL.one{h h':Heap}{a:Addr}(ha:a≠C.P)(hc:¬jq C h a)(k:∀b o,b≠a->h.get? b=some o->h'.get? b=some o):qL C h h':=fun x=>by
 obtain⟨ps,h1,h2,h3⟩:=x
 have h1':=k _ _ (Ne.symm ha) h1
 show⟨⟨ps,h1',h2,fun pos cv e=> ?_⟩,fun c hc'=> ?_⟩
 .show dD (h3 pos cv e) ?_;rintro c o vs t rfl ho hd
  exact⟨c,o,vs,t,rfl,k _ _ (fun e'=>hc ⟨ps,pos,h1,e'▸e⟩) ho,hd⟩
 .show qA hc' fun tf pos e1 e2=> ?_;clear hc'
  rw[h1'] at e1;cases e1
  exact .inl ⟨ps,pos,h1,e2⟩
theorem KW.one{h':Heap}{tk:Nat}{a:Addr}(ht:s.toks<=tk)(hZ:Z a)(ha:a≠C.P)(hc:¬jq C s.heap a)(k:∀b o,b≠a->s.heap.get? b=some o->h'.get? b=some o)(ho:∃o,h'.get? a=some o):KW C Z s { s with heap:=h',toks:=tk }:=by
 show⟨h',tk,rfl,ht,fun b o hb hz e=>k b o (fun e'=>hz (e'▸hZ)) e,fun b hb ⟨o,e⟩=> ?_,.one ha hc k⟩
 by_cases e':b=a
 .exact e'▸ho
 .exact⟨o,k b o e' e⟩
theorem KW.code(x:KW C Z s s')(t:jd C s.heap){a:Addr}(ho:∃o,s.heap.get? a=some o)(h:¬jq C s.heap a):¬jq C s'.heap a:=fun hc=>by
 rcases (x.tabTo t).2 a hc with h'|h'
 .exact h h'
 .obtain⟨o,e⟩:=ho
  rw[h'] at e;exact zn e
theorem Gr.kw(Bs:Base C)(g:Gr C s)(x:KW C Z s s')(hZ:∀b,Z b->C.g0.get? b=none):Gr C s':=
 ⟨fun b o e=>x.heap (fun hb=>by rw[hb,Bs.hP] at e;exact zn e) (fun z=>by rw[hZ b z] at e;exact zn e) (g.keep b o e),(x.tabTo g.tab).1,fun e=>jNc (g.toks e) x.toks⟩
theorem RD.kw{d:D}(x:KW C Z s s')(hP:C.P∈Y)(hZ:∀b,Z b->b∈Y)(h:RD C s.heap Y v d):RD C s'.heap Y v d:=
 R.mono (fun a o e=>by
  obtain⟨e,n⟩:=jG e
  exact jT (x.heap (fun h=>n (h▸hP)) (fun z=>n (hZ a z)) e) n) h
theorem qM.kw{v:List Value}{d:List D}(x:KW C Z s s')(hP:C.P∈Y)(hZ:∀b,Z b->b∈Y)(h:qM C s.heap Y v d):qM C s'.heap Y v d:=
 Rs.mono (fun a o e=>by
  obtain⟨e,n⟩:=jG e
  exact jT (x.heap (fun h=>n (h▸hP)) (fun z=>n (hZ a z)) e) n) h
theorem jg.kw{x:Str}(t:jd C s.heap)(w:KW C Z s s')(hl:¬Z env.locals)(hc:∀p∈env.cells,¬Z p.2)(a:jg env s.heap x v):jg env s'.heap x v:=by
 rcases a with ⟨hk,m,hn,hm⟩|⟨hk,c,xc,hv⟩
 .exact .inl ⟨hk,m,hn.at fun o e=>w.heap (j8 t hn) hl e,hm⟩
 .show jE (id hv) fun o ho hd=> ?_
  exact .inr ⟨hk,c,xc,o,w.heap (jz t hv) (hc _ (mem_of_lookup xc)) ho,hd⟩
theorem fG.kw(t:jd C s.heap)(w:KW C Z s s')(hl:¬Z env.locals)(hc:∀p∈env.cells,¬Z p.2)(f:fG env s.heap):fG env s'.heap:=by
 obtain⟨⟨m,hn⟩,xc,ha⟩:=f
 show⟨⟨m,hn.at fun o e=>w.heap (j8 t hn) hl e⟩,fun p hp=> ?_,ha⟩
 obtain⟨v,hv⟩:=xc p hp
 show jE (id hv) fun o ho hd=> ?_
 exact⟨v,o,w.heap (jz t hv) (hc p hp) ho,hd⟩
theorem Pre.kw(p:Pre C n k A env Y l s)(x:KW C Z s s')(hZ:∀b,Z b->b∈Y)(hl:¬Z env.locals)(hc:∀p∈env.cells,¬Z p.2):Pre C n k A env Y l s':=
 ⟨p.bs,p.a,p.eo,p.gr.kw p.bs x fun b z=>p.hY b (hZ b z),p.hP,p.hY,fun a ha=>x.exs p.gr.tab (p.hYs a ha),p.fm.kw p.gr.tab x hl hc,p.hc,fun y d hy=>by
  show jE (p.loc y d hy) fun v a rv=> ?_
  exact⟨v,a.kw p.gr.tab x hl hc,rv.kw x p.hP hZ⟩⟩
structure Own(C:Cx)(W:List Addr)(h:Heap):Prop where
 ne:∀a∈W,a≠C.P
 code:∀a∈W,¬jq C h a
 ex:∀a∈W,∃o,h.get? a=some o
theorem Own.kw(o:Own C W s.heap)(t:jd C s.heap)(x:KW C Z s s'):Own C W s'.heap:=
 ⟨o.ne,fun a ha=>x.code t (o.ex a ha) (o.code a ha),fun a ha=>x.exs t (o.ex a ha)⟩
theorem dq{x:Str}{d:D}{Q:Unit->Shared->Prop}(p:Pre C n k A env Y l s)(o:Own C W s.heap)(hx:env.kindOf x=some .local\/env.kindOf x=some .cell)(hW:env.locals∈W)
  (hU:∀c,env.kindOf x=some .cell->env.cells.lookup x=some c->c∈W) (oB:∀a∈W,a∈Y) (hv:RD C s.heap Y v d) (q:∀s',KW C (·∈W) s s'->Pre C n k A env Y (jA l x d) s'->Q () s'):
  wpAny C.M A (storeName env x v) Q NE s:=by
 show vx p.eo.kind p.eo.cells p.fm hx fun h' tk a ht ha hs nV du k8=> ?_
 have pM:a∈W:=by
  rcases ha with rfl|⟨h1,h2⟩
  .exact hW
  .exact hU a h1 h2
 have jv:∃o,h'.get? a=some o:=by
  rcases ha with rfl|⟨h1,h2⟩
  .show uV nV.ns fun m o es ep ho _=> ?_
   exact⟨o,ho⟩
  .show qA (nV.cl _ (mem_of_lookup h2)) fun v o ho _=> ?_
   exact⟨o,ho⟩
 have kw:KW C (·∈W) s { s with heap:=h',toks:=tk }:=KW.one ht pM (o.ne a pM) (o.code a pM) (fun b o hb e=>by rw[hs.2 b hb];exact e) jv
 show q _ kw ⟨p.bs,p.a,p.eo,p.gr.kw p.bs kw fun b z=>p.hY b (oB b z),p.hP,p.hY,fun a ha=>kw.exs p.gr.tab (p.hYs a ha),nV,p.hc,fun y d' hy=> ?_⟩
 unfold jA at hy
 revert hy;show yT (fun e hy=> ?_) fun e hy=> ?_
 .subst e;replace hy:=jX hy;subst hy
  exact⟨v,du,hv.kw kw p.hP oB⟩
 .show jE (p.loc y d' hy) fun u hu ru=> ?_
  exact⟨u,k8 y u e hu,ru.kw kw p.hP oB⟩
def m5(env:Env)(W:List Addr)(t:Expr):Prop:=∀x∈xj t,(env.kindOf x=some .local\/env.kindOf x=some .cell)/\∀c,env.kindOf x=some .cell->env.cells.lookup x=some c->c∈W
theorem yP{x:Str}(h:nameE? e=some x):∃p,e= .Name x p:=by
 induction e using cE with
 |Name y p=>exact⟨p,by rw[jX h]⟩
 |_=>exact nn h
theorem vj{α β:Type}{as:List α}{k2:α->α->Option β}{d:β}(h:yf as (fun _=>none) k2=some d):∃a b,as=[a,b]/\k2 a b=some d:=by
 induction as using cL with
 |nil=>exact nn h
 |cons a as=>
  induction as using cL with
  |nil=>exact nn h
  |cons b as=>
   induction as using cL with
   |nil=>exact⟨a,b,rfl,h⟩
   |cons _ _=>exact nn h
theorem uf{β:Type}{d:D}{k:D->D->Option β}{z:β}(h:om d k=some z):∃a b,d= .tup [a,b]/\k a b=some z:=by
 induction d using cD with
 |tup l=>
  show qA (vj (show yf l (fun _=>none) k=some z from h)) ?_;rintro a b rfl h
  exact⟨a,b,rfl,h⟩
 |_=>exact nn h
theorem kE{P:Expr->List Str->Prop}{t:Expr}(h0:∀t,P t [])(h1:∀x p,P (.Name x p) [x])(h2:∀x p y q c z,P (.Tuple [.Name x p,.Name y q] c z) [x,y]):P t (xj t):=by
 induction t using cE with
 |Name x p=>exact h1 x p
 |Tuple es c z=>
  show(?_:P _ (Option.getD _ _))
  generalize h:(yf es (fun _=>none) fun a b=>(nameE? a).bind fun x=>(nameE? b).map fun y=>[x,y])=x0;induction x0 using cO with
  |none=>exact h0 _
  |some ns=>
   show qA (vj h) ?_;rintro a b rfl h3
   show bE h3 fun x ha h4=> ?_
   show mE h4 ?_;rintro y hb rfl
   clear h h3 h4
   obtain⟨p,rfl⟩:=yP ha
   obtain⟨q,rfl⟩:=yP hb
   exact h2 x p y q c z
 |_=>exact h0 _
variable{l':Loc}
theorem Pre.weak(p:Pre C n k A env Y l' s)(h:∀x d,l x=some d->l' x=some d):Pre C n k A env Y l s:=
 ⟨p.bs,p.a,p.eo,p.gr,p.hP,p.hY,p.hYs,p.fm,p.hc,fun x d e=>p.loc x d (h x d e)⟩
theorem j9{h:Heap}{Y':List Addr}(hs:∀a∈Y,a∈Y'):∀a o,view h Y' a=some o->view h Y a=some o:=fun a o e=>by
 obtain⟨e,n⟩:=jG e
 exact jT e fun hm=>n (hs a hm)
theorem RD.more{h h':Heap}{I:Addr}{d:D}(hn:h.get? I=none)(hk:∀b o,h.get? b=some o->h'.get? b=some o)(x:RD C h Y v d):RD C h' (I::Y) v d:=
 R.mono (yc (Z:=[I]) (fun b o _ e=>hk b o e) (m1 hn)) x
theorem Pre.more{I:Addr}{h':Heap}{tk:Nat}(p:Pre C n k A env Y l s)(hn:s.heap.get? I=none)(ht:s.toks<=tk)(hk:∀b o,s.heap.get? b=some o->h'.get? b=some o)(hI:∃o,h'.get? I=some o):Pre C n k A env (I::Y) l { s with heap:=h',toks:=tk }:=by
 have kp:KP C s { s with heap:=h',toks:=tk }:=KP.of ht hk
 have p':=p.kp kp
 show⟨p.bs,p.a,p.eo,p'.gr,qV _ p.hP,fun a ha=> ?_,fun a ha=> ?_,p'.fm,fun q hq=>qV _ (p.hc q hq),fun x d e=> ?_⟩
 .rcases j0.mp ha with e0|ha
  .rw[e0];exact none_of fun⟨o,ho⟩=>by rw[p.gr.keep _ o ho] at hn;cases hn
  .exact p.hY a ha
 .rcases j0.mp ha with e0|ha
  .rw[e0];exact hI
  .exact p'.hYs a ha
 .show jE (p.loc x d e) fun v a rv=> ?_
  exact⟨v,a.kp p.gr.tab kp,rv.more hn hk⟩
theorem dR{x y:Str}{a e:D}(hn:¬(l x).isSome=true)(h:l y=some e){l2:Loc}(h2:l2 y=some e):jA l2 x a y=some e:=by
 unfold jA
 rw[jMv fun e'=>hn (by rw[<-e',h];rfl)]
 exact h2
theorem jEs{t:Expr}{d:D}(h:wq l t d=some l'):∀x e,l x=some e->l' x=some e:=by
 unfold wq at h
 generalize xj t=ns at h
 intro x e hx
 induction ns using cL with
 |nil=>exact nn h
 |cons y r=>
  induction r using cL with
  |nil=>
   replace h:(if (l y).isSome=true then none else some (jA l y d))=some l':=h
   revert h;show yT (fun _ h=> ?_) fun hn h=> ?_
   .exact nn h
   .rw[<-jX h]
    exact dR hn hx hx
  |cons z r=>
   show qA (uf (show (om d fun a b=>if (l y).isSome=true\/(l z).isSome=true then none else some (jA (jA l y a) z b))=some l' from h)) ?_;rintro a b rfl h2
   revert h2;show yT (fun _ h2=> ?_) fun hn h2=> ?_
   .exact nn h2
   .rw[jP2] at hn
    rw[<-jX h2]
    exact dR hn.2 hx (dR hn.1 hx hx)
theorem jFw{t:Expr}{d:D}{Q:Unit->Shared->Prop}(p:Pre C n k A env Y l s)(o:Own C W s.heap)(hT:m5 env W t)(hW:env.locals∈W)(oB:∀a∈W,a∈Y)(hv:RD C s.heap Y v d)(hb:wq l t d=some l')
  (q:∀s',KW C (·∈W) s s'->Pre C n k A env Y l' s'->Q () s'):wpAny C.M A (assign t env v) Q NE s:=by
 show kE (P:=fun t ns=>(∀x∈ns,(env.kindOf x=some .local\/env.kindOf x=some .cell)/\∀c,env.kindOf x=some .cell->env.cells.lookup x=some c->c∈W)->sa ns none (fun x=>if (l x).isSome=true then none else some (jA l x d)) (fun x y=>om d fun a b=>if (l x).isSome=true\/(l y).isSome=true then none else some (jA (jA l x a) y b))=some l'->wpAny C.M A (assign t env v) Q NE s) (fun _ _ h=>nn h) (fun x p0 hT h=> ?_) (fun x p0 y q0 c0 z0 hT h=> ?_) hT hb
 .replace h:(if (l x).isSome=true then none else some (jA l x d))=some l':=h
  revert h;show yT (fun _ h=> ?_) fun _ h=> ?_
  .exact nn h
  .obtain⟨h1,h2⟩:=hT x yS
   exact jNt (dq p o h1 hW h2 oB hv (jX h▸q))
 .show qA (uf (show (om d fun a b=>if (l x).isSome=true\/(l y).isSome=true then none else some (jA (jA l x a) y b))=some l' from h)) ?_;rintro a b rfl g
  revert g;show yT (fun _ g=> ?_) fun _ g=> ?_
  .exact nn g
  .rw[<-jX g] at q
   obtain⟨h1,h2⟩:=hT x yS
   obtain⟨h3,h4⟩:=hT y uR
   show ja hv.tup_inv ?_;rintro t vs m rfl ho rs
   show yz ((qM.kp (KP.refl s) p.hP rs).un2) ?_;rintro u1 u2 rfl r1 r2
   show jSb p.a.handled (jl ho) rfl rfl fun h' hk=> ?_
   have kp:KP C s { s with heap:=h' }:=KP.of nL fun b o e=>hk b o (fun e'=>jNp _ (e'▸jM1 e)) e
   have p':=p.kp kp
   have r1:=RD.kp kp p.hP r1
   have r2:=RD.kp kp p.hP r2
   show jO2 (jNt (dq (l:=l) p' (o.kw p.gr.tab kp.kw (Z:=fun _=>False)) h1 hW h2 oB r1 fun s1 gj p1=> ?_))
   show jO2 (jNt (dq p1 ((o.kw p.gr.tab kp.kw (Z:=fun _=>False)).kw p'.gr.tab gj) h3 hW h4 oB (RD.kw gj p.hP oB r2) fun s2 vR p2=> ?_))
   exact jSf (q s2 ((KP.kw kp).trans (gj.trans vR)) p2)
theorem jA5{t:Expr}{Q:Unit->Shared->Prop}(hI:∃o,s.heap.get? I=some o/\(o.cls= .type "list_iterator"\/o.cls= .type "tuple_iterator"\/o.cls= .type "range_iterator"))(q:Q () s):
  wpAny C.M A (letOwnedTupleGo t (.ref I) v) Q NE s:=by
 show jE hI fun o ho hc=> ?_;clear hI
 have main:wpAny C.M A (do
  let (.ref r,.ref a):=((Value.ref I),v)|return
  let o<-load r
  match o.cls,o.data with
  | .type n,.fields vs=>
    if ["enumerate","zip","dict_itemiterator","dict_reverseitemiterator","odict_iterator","itertools.zip_longest","itertools.pairwise"].contains n&&vs[0]? ==some (rawInt a) then
     rule "for.unpacks-the-owned-tuple"
     updateField r 0 .none
  |_,_=>pure ()) Q NE s:=by
  induction v using cV with
  |ref a=>
   show jMq (wpAny_load ho ?_)
   rcases hc with hc|hc|hc <;> rw[hc] <;> cases hd:o.data <;> exact jMr q
  |_=>exact jMr q
 induction t using cE with
 |Tuple _ _ _=>exact main
 |List _ _=>exact main
 |_=>exact jMr q
structure u4(DD:Addr)(Acc:List Addr->Heap->List D->Prop):Prop where
 frame:∀Y h h' a0,Acc Y h a0->(∀o,h.get? DD=some o->h'.get? DD=some o)->(∀b o,b∉Y->h.get? b=some o->h'.get? b=some o)->Acc Y h' a0
 more:∀Y h h' a0 I,Acc Y h a0->h.get? I=none->(∀b o,h.get? b=some o->h'.get? b=some o)->Acc (I::Y) h' a0
 sub:∀Y Y' h a0,(∀b∈Y',b∈Y)->Acc Y h a0->Acc Y' h a0
def kB(C:Cx)(n:Nat)(k:Bool)(A:Around)(env:Env)(DD:Addr)(Acc:List Addr->Heap->List D->Prop)(qK:Loc->Option D)(emit:Sem Unit):Prop:=
 ∀Y l d s a0 (Q:Unit->Shared->Prop),qK l=some d->Pre C n k A env Y l s->Own C [DD] s.heap->DD∈Y->Acc Y s.heap a0->a0.length<lim->(∀s',KW C (·=DD) s s'->Acc Y s'.heap (a0++[d])->Q () s')->wpAny C.M A emit Q NE s
variable{DD:Addr}{Acc:List Addr->Heap->List D->Prop}{qK:Loc->Option D}
theorem u4.kw(a:u4 DD Acc){a0:List D}(x:KW C Z s s')(hP:C.P∈Y)(hZ:∀b,Z b->b∈Y)(hD:¬Z DD)(hDP:DD≠C.P)(h:Acc Y s.heap a0):Acc Y s'.heap a0:=
 a.frame Y _ _ a0 h (fun o e=>x.heap hDP hD e) fun b o hb e=>x.heap (fun e'=>hb (e'▸hP)) (fun z=>hb (hZ b z)) e
theorem gm.kw(i:gm C A Y I ds s.heap)(x:KW C Z s s')(hP:C.P∈Y)(hZ:∀b,Z b->b∈Y)(hI:¬Z I)(pO:I≠C.P):gm C A Y I ds s'.heap:=
 i.keep (fun o e=>x.heap pO hI e) fun b o hb e=>x.heap (fun e'=>hb (e'▸hP)) (fun z=>hb (hZ b z)) e
theorem jCd(S:SE C n r)(a1:y0 (n+1) A){ts:List Expr}{b:Bool}{Q:Bool->Shared->Prop}(p:Pre C n k A env Y l s)(h:qx r k env.scope l ts=some b)(q:∀s',KP C s s'->Pre C n k A env Y l s'->Q b s'):
  wpAny C.M A (forIn ts true fun c r=>if r=true then do let ok<-isTrue c env (eval c env);pure (ForInStep.yield ok) else pure (ForInStep.yield r)) Q NE s:=by
 induction ts using cL with
 |nil=>(replace h:=jX h;subst h);exact wpAny_tests_nil (q s (KP.refl s) p)
 |cons e es=>
  induction es using cL with
  |nil=>exact wpAny_tests_one (gi S a1 4 p h q)
  |cons _ _=>exact nn h
inductive KL (C:Cx) (I:Addr) (Z:Addr->Prop) (s s':Shared):Prop
 |mk:∀h' tk,s'={ s with heap:=h',toks:=tk }->s.toks<=tk->((∀b o,b≠C.P->¬Z b->s.heap.get? b=some o->h'.get? b=some o))->((∀b,b≠C.P->b≠I->(∃o,s.heap.get? b=some o)->∃o,h'.get? b=some o))->qL C s.heap h'->KL C I Z s s'
theorem KL.one{h':Heap}{tk:Nat}(ht:s.toks<=tk)(ha:I≠C.P)(hc:¬jq C s.heap I)(k:∀b o,b≠I->s.heap.get? b=some o->h'.get? b=some o):KL C I (·=I) s { s with heap:=h',toks:=tk }:=
 ⟨h',tk,rfl,ht,fun b o _ hz e=>k b o hz e,fun b _ hb ⟨o,e⟩=>⟨o,k b o hb e⟩,.one ha hc k⟩
theorem KW.last(x:KW C Z s s')(y:KL C I Z' s' k7)(h:∀b,Z' b->Z b):KL C I Z s k7:=by
 have x':=x
 obtain⟨h1,t1,rfl,l1,k1,e1,b1⟩:=x
 obtain⟨h2,t2,rfl,l2,k2,e2,b2⟩:=y
 exact⟨h2,t2,rfl,x8 l1 l2,fun b o hb hz e=>k2 b o hb (fun z=>hz (h b z)) (k1 b o hb hz e),fun b hb hi ho=>e2 b hb hi (e1 b hb ho),b1.trans b2 fun t b h=>x'.exs t h⟩
theorem KW.lastNew(x:KW C Z s s')(hI:s.heap.get? I=none)(y:KL C I Z' s' k7)(h:∀b,Z' b->b=I\/Z b):KW C Z s k7:=by
 have x':=x
 obtain⟨h1,t1,rfl,l1,k1,e1,b1⟩:=x
 obtain⟨h2,t2,rfl,l2,k2,e2,b2⟩:=y
 have ne:∀b o,s.heap.get? b=some o->b≠I:=fun b o e e'=>by rw[e',hI] at e;exact zn e
 exact⟨h2,t2,rfl,x8 l1 l2,fun b o hb hz e=>k2 b o hb (fun z=>(h b z).elim (ne b o e) hz) (k1 b o hb hz e),fun b hb ⟨o,ho⟩=>e2 b hb (ne b o ho) (e1 b hb ⟨o,ho⟩),b1.trans b2 fun t b h=>x'.exs t h⟩
theorem Pre.last(p:Pre C n k A env (I::Y) l s)(x:KL C I (·=I) s s')(hP:C.P∈Y)(hI:I∉Y)(hc:∀p∈env.cells,p.2∈Y)(hl:env.locals≠I):Pre C n k A env Y l s':=by
 have ci:∀p∈env.cells,p.2≠I:=fun q hq e=>hI (e▸hc q hq)
 have t:=p.gr.tab
 have p':=p
 obtain⟨h1,t1,rfl,l1,k1,e1,b1⟩:=x
 have t':jd C h1:=(b1 t).1
 show⟨p.bs,p.a,p.eo,⟨fun b o e=>k1 b o (fun hb=>by rw[hb,p.bs.hP] at e;exact zn e) (fun z=>by rw[p.hY b (by simp[z])] at e;exact zn e) (p.gr.keep b o e),t',fun e=>jNc (p.gr.toks e) l1⟩,hP,fun a ha=>p.hY a (qV _ ha),fun a ha=> ?_,?_,hc,?_⟩
 .by_cases e:a=C.P
  .subst e;obtain⟨ps,h1,_⟩:=t';exact⟨_,h1⟩
  .exact e1 a e (fun e=>hI (e▸ha)) (p.hYs a (qV _ ha))
 .obtain⟨⟨m,hn⟩,xc,ha⟩:=p.fm
  show⟨⟨m,hn.at fun o e=>k1 _ o (j8 t hn) hl e⟩,fun q hq=> ?_,ha⟩
  obtain⟨v,hv⟩:=xc q hq
  show jE (id hv) fun o ho hd=> ?_
  exact⟨v,o,k1 _ o (jz t hv) (ci q hq) ho,hd⟩
 .intro y d hy
  show jE (p.loc y d hy) fun v a rv=> ?_
  show⟨v,?_,R.mono (fun a o e=> ?_) rv⟩
  .rcases a with ⟨hk,m,hn,hm⟩|⟨hk,c,xc,hv⟩
   .exact .inl ⟨hk,m,hn.at fun o e=>k1 _ o (j8 t hn) hl e,hm⟩
   .show jE (id hv) fun o ho hd=> ?_
    exact .inr ⟨hk,c,xc,o,k1 _ o (jz t hv) (ci _ (mem_of_lookup xc)) ho,hd⟩
  .obtain⟨e,nn⟩:=jG e
   exact jT (k1 a o (fun h=>nn (qV _ (h▸hP))) (fun z=>nn (by simp[z])) e) fun hm=>nn (qV _ hm)
structure CL(C:Cx)(A:Around)(env:Env)(W:List Addr)(DD:Addr)(Acc:List Addr->Heap->List D->Prop)(gens:List Comprehension):Prop where
 acc:u4 DD Acc
 tgt:∀g∈gens,m5 env W g.target/\qH g.iter=false
 loc:env.locals∈W
 nD:DD∉W
 cD:∀p∈env.cells,p.2≠DD
structure LS(C:Cx)(n:Nat)(k:Bool)(A:Around)(env:Env)(W:List Addr)(DD:Addr)(Acc:List Addr->Heap->List D->Prop)(Y:List Addr)(l:Loc)(I:Addr)(its a0:List D)(s:Shared):Prop where
 pre:Pre C n k A env (I::Y) l s
 hP:C.P∈Y
 WY:∀a∈DD::W,a∈Y
 nI:I∉Y
 cY:∀p∈env.cells,p.2∈Y
 own:Own C (I::DD::W) s.heap
 it:gm C A (I::Y) I its s.heap
 acc:Acc (I::Y) s.heap a0
theorem Own.sub{W':List Addr}{h:Heap}(o:Own C W h)(hs:∀a∈W',a∈W):Own C W' h:=⟨fun a ha=>o.ne a (hs a ha),fun a ha=>o.code a (hs a ha),fun a ha=>o.ex a (hs a ha)⟩
theorem jBr(S:SE C n r)(a1:y0 (n+1) A)(H:vh e gens acc emit)(c:CL C A env W DD Acc gens){j:Nat}{g:Comprehension}(hg:gens[j]? =some g){deep:Loc->Option (List D)}
  (dp:∀(l':Loc) (here a0:List D) (I:Addr) (its:List D) (s:Shared) (Q:Unit->Shared->Prop),deep l'=some here->a0.length+here.length<=lim->LS C n k A env W DD Acc Y l' I its a0 s->
   (∀s',KW C (fun b=>b∈DD::W) s s'->Pre C n k A env (I::Y) l' s'->Acc (I::Y) s'.heap (a0++here)->Q () s')->wpAny C.M A (gx e j acc env (emit env) gens[j+1]?) Q NE s)
  {its out a0:List D} {I:Addr} {R:Result->Shared->Prop} (h:compLoop r k env.scope l g deep its=some out) (hlen:a0.length+out.length<=lim) (st:LS C n k A env W DD Acc Y l I its a0 s)
  (q:∀s',KL C I (fun b=>b∈I::DD::W) s s'->Pre C n k A env Y l s'->Acc Y s'.heap (a0++out)->R (.ok .next) s'):codeAny C.M A (.compLoop e j (.ref I) acc env) R s:=by
 have hgm:g∈gens:=jNw hg
 show jI2 H hg (fun m s1=>∃yw out' a',yw.length=m/\compLoop r k env.scope l g deep yw=some out'/\a'++out'=a0++out/\LS C n k A env W DD Acc Y l I yw a' s1/\KW C (fun b=>b∈I::DD::W) s s1) ?_ its.length ⟨its,out,a0,rfl,h,rfl,st,KW.refl s⟩
 intro m s1 gO
 obtain⟨yw,out',a',hm,hc,fW,vL,gj⟩:=gO
 have oB:∀a∈I::DD::W,a∈I::Y:=fun a ha=>by
  rcases j0.mp ha with e|ha
  .simp[e]
  .exact qV _ (vL.WY a ha)
 have hDP:DD≠C.P:=vL.own.ne DD uR
 have pO:I≠C.P:=vL.own.ne I yS
 have ig:I∉W:=fun h=>vL.nI (vL.WY I (by simp[h]))
 have ir:I≠DD:=fun h=>vL.nI (vL.WY I (by simp[h]))
 have hcI:∀p∈env.cells,p.2≠I:=fun p hp e=>vL.nI (e▸vL.cY p hp)
 have tW:I≠env.locals:=fun e=>ig (e▸c.loc)
 have lV:DD≠env.locals:=fun e=>c.nD (e▸c.loc)
 induction yw using cL with
 |nil=>
  replace hc:=jX hc;subst hc
  show jK0 vL.it fun h' tk ht hk=> ?_
  have kl:KL C I (·=I) s1 { s1 with heap:=h',toks:=tk }:=KL.one ht pO (vL.own.code I yS) hk
  show q _ (gj.last kl fun b e=>by simp[e]) (vL.pre.last kl vL.hP vL.nI vL.cY (Ne.symm tW)) ?_
  rw[<-fW,jOj]
  show c.acc.sub (I::Y) Y _ _ (fun b hb=>qV _ hb) (c.acc.frame _ _ _ _ vL.acc (fun o e=>hk _ o (Ne.symm ir) e) fun b o hb e=>hk b o (fun e'=>hb (by simp[e'])) e)
 |cons d ds=>
  show bE (show (wq l g.target d).bind _=some out' from hc) fun l' bz hc=> ?_
  show bE hc fun ok mn hc=> ?_
  obtain⟨here,more,km,o5,rfl⟩:∃here more,(if ok=true then deep l' else some [])=some here/\compLoop r k env.scope l g deep ds=some more/\here++more=out':=by
   induction ok using cT with
   |false=>
    show bE (show Option.bind (compLoop r k env.scope l g deep ds) (fun more=>some ([]++more))=some out' from hc) fun more o5 hc=> ?_
    replace hc:=jX hc;subst hc
    exact⟨[],more,rfl,o5,rfl⟩
   |true=>
    show bE (show Option.bind (deep l') (fun here=>Option.bind (compLoop r k env.scope l g deep ds) (fun more=>some (here++more)))=some out' from hc) fun here km hc=> ?_
    show bE hc fun more o5 hc=> ?_
    replace hc:=jX hc;subst hc
    exact⟨here,more,km,o5,rfl⟩
  show jIv (oB I yS) vL.it fun v h' tk ht hk og hv=> ?_
  show jE og.obj fun o2 oE hcl2=> ?_
  have vR:KW C (fun b=>b=I) s1 { s1 with heap:=h',toks:=tk }:=KW.one ht rfl pO (vL.own.code I yS) hk ⟨o2,oE⟩
  have hZ:∀b,b=I->b∈I::Y:=fun b e=>oB b (by simp[e])
  have p2:=vL.pre.kw vR hZ (fun e=>tW e.symm) hcI
  have tZ:=vL.own.kw vL.pre.gr.tab vR
  have sT:=c.acc.kw vR vL.pre.hP hZ (fun e=>ir e.symm) hDP vL.acc
  show jA5 ⟨o2,oE,hcl2⟩ ?_
  have sG:∀a∈W,a∈I::Y:=fun a ha=>oB a (by simp[ha])
  show jFw p2 (tZ.sub fun a ha=>by simp[ha]) (c.tgt g hgm).1 c.loc sG hv bz fun s3 wZ p3=> ?_
  have own3:=tZ.kw p2.gr.tab wZ
  have it3:=og.kw wZ p2.hP sG ig pO
  have sS:=c.acc.kw wZ p2.hP sG c.nD hDP sT
  show jCd S a1 p3 mn fun s4 mh p4=> ?_
  have zM:KW C (fun _=>False) s3 s4:=mh.kw
  have cb:=own3.kw p3.gr.tab zM
  have aj:=it3.kw zM p2.hP (fun _ f=>f.elim) (fun f=>f) pO
  have acc4:=c.acc.kw zM p2.hP (fun _ f=>f.elim) (fun f=>f) hDP sS
  have kw14:KW C (fun b=>b∈I::DD::W) s s4:=gj.trans ((vR.mono fun b e=>by simp[e]).trans ((wZ.mono fun b e=>by simp[e]).trans (zM.mono fun b f=>f.elim)))
  have pI:ds.length<m:=by rw[<-hm];simp
  induction ok using cT with
  |false=>
   simp only[Bool.false_eq_true,if_false] at km ⊢
   replace km:=jX km;subst km
   exact⟨ds.length,pI,ds,more,a',rfl,o5,fW,⟨p4.weak (jEs bz),vL.hP,vL.WY,vL.nI,vL.cY,cb,aj,acc4⟩,kw14⟩
  |true=>
   simp only[if_true] at km ⊢
   have hlen':a'.length+here.length<=lim:=by
    have:=jM8 List.length fW
    simp only[List.length_append] at this
    lia
   show dp l' here a' I ds s4 _ km hlen' ⟨p4,vL.hP,vL.WY,vL.nI,vL.cY,cb,aj,acc4⟩ fun s5 fV p5 acc5=> ?_
   have hZ5:∀b,b∈DD::W->b∈I::Y:=fun b hb=>oB b (qV _ hb)
   have hI5:I∉DD::W:=by
    intro hm;rcases j0.mp hm with e|e
    .exact ir e
    .exact ig e
   exact⟨ds.length,pI,ds,more,a'++here,rfl,o5,by rw[jNl];exact fW,⟨p5.weak (jEs bz),vL.hP,vL.WY,vL.nI,vL.cY,cb.kw p4.gr.tab fV,aj.kw fV p2.hP hZ5 hI5 pO,acc5⟩,kw14.trans (fV.mono fun b hb=>qV _ hb)⟩
theorem wR{g:Expr}(h:qH g=false)(env:Env)(x:Value):foldedSetIterable g env x=pure x:=by
 cases g <;> first|rfl|(exact Bool.noConfusion h)
theorem qy(h:Heap):h.get? h.objs.size=none:=none_of fun⟨o,e⟩=>jNp _ (jM1 e)
theorem jG0(S:SE C n r)(a1:y0 (n+1) A)(H:vh e gens acc emit)(c:CL C A env W DD Acc gens)(em:kB C n k A env DD Acc qK (emit env)):
  ∀(gs:List Comprehension) (j:Nat) (Y:List Addr) (l:Loc) (I:Addr) (its out a0:List D) (s:Shared) (R:Result->Shared->Prop),gens.drop j=gs->comp r k env.scope qK gs l its=some out->a0.length+out.length<=lim->
   LS C n k A env W DD Acc Y l I its a0 s->(∀s',KL C I (fun b=>b∈I::DD::W) s s'->Pre C n k A env Y l s'->Acc Y s'.heap (a0++out)->R (.ok .next) s')->codeAny C.M A (.compLoop e j (.ref I) acc env) R s:=by
 intro gs
 induction gs with
 |nil=>intro j Y l I its out a0 s R hj h hlen st q;exact nn h
 |cons g gs ih=>
  induction gs using List.casesOn with
  |nil=>
   intro j Y l I its out a0 s R hj h hlen st q
   have hg:gens[j]? =some g:=by rw[<-List.head?_drop,hj];rfl
   have lJ:gens[j+1]? =none:=by
    have:=jM8 List.length hj
    simp only[List.length_drop,List.length_singleton] at this
    exact List.getElem?_eq_none (by lia)
   show jBr S a1 H c hg (fun l' here a0 I its s Q hd hl st q=> ?_) h hlen st q
   show mE hd ?_;rintro d yL rfl
   rw[lJ]
   show em (I::Y) l' d s a0 Q yL st.pre (st.own.sub fun a ha=>by replace ha:=jw.mp ha;simp[ha]) (qV _ (st.WY DD yS)) st.acc (Nat.lt_of_succ_le (by exact hl)) fun s' kw ac=> ?_
   exact q s' (kw.mono fun b e=>by simp[e]) (st.pre.kw kw (fun b e=>qV _ (st.WY b (by simp[e]))) (fun e=>c.nD (e▸c.loc)) fun p hp=>c.cD p hp) ac
  |cons g' gs=>
   intro j Y l I its out a0 s R hj h hlen st q
   have hg:gens[j]? =some g:=by rw[<-List.head?_drop,hj];rfl
   have eJ:gens.drop (j+1)=g'::gs:=by rw[<-List.drop_drop,hj];rfl
   have lJ:gens[j+1]? =some g':=by rw[<-List.head?_drop,eJ];rfl
   have wa:qH g'.iter=false:=(c.tgt g' (jNw lJ)).2
   show jBr S a1 H c hg (fun l' here a0 I its s Q hd hl st q=> ?_) h hlen st q
   show bE hd fun yw h1 hd=> ?_
   show bE h1 fun d1 h1 h2=> ?_
   rw[lJ]
   unfold gx
   show jMq (S.at st.pre h1 fun v s1 zU p1 rv=>jMq (jQf (jMq (jQ2 (wR wa env v) (jMq (jPb ?_))))))
   have gj:KW C (fun _=>False) s s1:=zU.kw
   show yr p1.a.handled p1.lt rv h2 fun h' hk og=> ?_
   have hn:s1.heap.get? s1.heap.objs.size=none:=qy _
   show jE og.obj fun oi oT _=> ?_
   have p2:Pre C n k A env (s1.heap.objs.size::I::Y) l' { s1 with heap:=h' }:=p1.more hn nL hk ⟨oi,oT⟩
   have yb:KP C s1 { s1 with heap:=h' }:=KP.of nL hk
   have hDP:DD≠C.P:=st.own.ne DD uR
   have fw:=st.own.kw st.pre.gr.tab gj
   have tZ:=fw.kw p1.gr.tab (KP.kw yb (Z:=fun _=>False))
   have acc1:=c.acc.kw gj st.pre.hP (fun _ f=>f.elim) (fun f=>f) hDP st.acc
   have sT:=c.acc.more _ _ h' _ s1.heap.objs.size acc1 hn hk
   have hnY:s1.heap.objs.size∉I::Y:=fun hm=>jNp _ (p1.lt _ hm)
   have ic:s1.heap.objs.size≠C.P:=fun e=>hnY (e▸p1.hP)
   have ei:LS C n k A env W DD Acc (I::Y) l' s1.heap.objs.size yw a0 { s1 with heap:=h' }:=by
    show⟨p2,p1.hP,fun a ha=>qV _ (st.WY a ha),hnY,fun p hp=>qV _ (st.cY p hp),⟨fun a ha=> ?_,fun a ha=> ?_,fun a ha=> ?_⟩,og,sT⟩
    .rcases j0.mp ha with e0|ha
     .rw[e0];exact ic
     .exact tZ.ne a (qV _ ha)
    .rcases j0.mp ha with e0|ha
     .rw[e0];intro hc
      rcases (yb.tabTo p1.gr.tab).2 _ hc with h|h
      .obtain⟨o,ho⟩:=p1.gr.tab.code h
       rw[hn] at ho;exact zn ho
      .show qA hc fun ps pos e1 e2=> ?_;clear hc
       obtain⟨tf,h1',_⟩:=p1.gr.tab
       have:=hk _ _ h1'
       rw[this] at e1;cases e1
       obtain⟨o,ho⟩:=p1.gr.tab.code ⟨ps,pos,h1',e2⟩
       rw[hn] at ho;exact zn ho
     .exact tZ.code a (qV _ ha)
    .rcases j0.mp ha with e0|ha
     .rw[e0];exact⟨oi,oT⟩
     .exact tZ.ex a (qV _ ha)
   have loop:codeAny C.M A (.compLoop e (j+1) (.ref s1.heap.objs.size) acc env) (fun r s'=>match r with| .ok f=>wpAny C.M A (pure ():Sem Unit) Q NE s'| .error x=>cameBackBy C.M A env NE x s') { s1 with heap:=h' }:=by
    show ih (j+1) (I::Y) l' s1.heap.objs.size yw here a0 _ _ eJ hd hl ei fun s3 kl3 p3 sS=> ?_
    show jMr (q s3 ?_ p3 sS)
    have k12:KW C (fun b=>b∈DD::W) s { s1 with heap:=h' }:=(zU.trans yb).kw
    have hns:s.heap.get? s1.heap.objs.size=none:=none_of fun ho=>by
     obtain⟨o,e⟩:=zU.some st.pre.gr.tab ho
     rw[hn] at e;exact zn e
    exact k12.lastNew hns kl3 fun b hb=>by simpa using hb
   show jMq (wpAny_runOwn ?_)
   exact jBk H lJ loop (jBn og loop)
noncomputable def v5(cells:yR)(p:Str×NameKind)(acc:yR):yR:=if p.2= .free then ((cells.lookup p.1).map fun c=>(p.1,c)::acc).getD acc else acc
noncomputable def qe(cells:yR):fb->yR->yR
 |[],acc=>acc
 |p::rs,acc=>qe cells rs (v5 cells p acc)
theorem vz(cells:yR)(x:Str)(kd:NameKind)(acc:yR):v5 cells (x,kd) acc=acc\/∃c,kd= .free/\cells.lookup x=some c/\v5 cells (x,kd) acc=(x,c)::acc:=by
 by_cases h:kd= .free
 .generalize hc:cells.lookup x=z
  induction z using cO with
  |none=>exact .inl ((jMt h).trans (by rw[hc];rfl))
  |some c=>exact .inr ⟨c,h,rfl,(jMt h).trans (by rw[hc];rfl)⟩
 .exact .inl (jMv h)
theorem zT{scope:Scope}(h:∀p∈scope.names,p.2= .free->(env.cells.lookup p.1).isSome=true):closureFor scope env=pure (qe env.cells scope.names []):=by
 have main:∀(names:fb) (acc:yR) (f:Str×NameKind->yR->Sem (ForInStep yR)),(∀x kd a,f (x,kd) a=if kd== .free then (do let c<-cellOf env x;pure (.yield ((x,c)::a))) else pure (.yield a))->
   (∀p∈names,p.2= .free->(env.cells.lookup p.1).isSome=true)->forIn names acc f=pure (qe env.cells names acc):=by
  intro names
  induction names with
  |nil=>intro acc f hf hn;rfl
  |cons p rs ih=>
   obtain⟨x,kd⟩:=p
   intro acc f hf hn
   rw[jQn,hf]
   have oF:∀p∈rs,p.2= .free->(env.cells.lookup p.1).isSome=true:=fun p hp=>hn p (qV _ hp)
   show(?_:_=(pure (qe env.cells rs (v5 env.cells (x,kd) acc)):Sem yR))
   by_cases hk:kd= .free
   .obtain⟨c,hc⟩:=jM4.mp (hn (x,kd) jy hk)
    have hc':env.cells.lookup x=some c:=hc
    have aG:cellOf env x=pure c:=by unfold cellOf;rw[hc']
    rw[show v5 env.cells (x,kd) acc=(x,c)::acc from (jMt hk).trans (by rw[hc];rfl),jMt (jNs.mpr hk),aG,pure_bind,pure_bind]
    exact ih ((x,c)::acc) f hf oF
   .rw[show v5 env.cells (x,kd) acc=acc from jMv hk,jMv (fun h=>hk (jNs.mp h)),pure_bind]
    exact ih acc f hf oF
 simp only[closureFor]
 rw[main scope.names [] _ (fun x kd a=>rfl) h]
 rfl
theorem yF{cells:yR}(names:fb):∀(acc:yR) (p:Str×Addr),p∈qe cells names acc->p∈acc\/(cells.lookup p.1=some p.2/\(p.1,NameKind.free)∈names):=by
 induction names with
 |nil=>exact fun acc p h=> .inl h
 |cons q rs ih=>
  intro acc p h
  obtain⟨x,kd⟩:=q
  rcases ih (v5 cells (x,kd) acc) p h with h|h
  .rcases vz cells x kd acc with e|e
   .exact .inl (e▸h)
   .obtain⟨c,rfl,hc,e⟩:=e
    rw[e] at h
    rcases j0.mp h with e0|h
    .rw[e0];exact .inr ⟨hc,jy⟩
    .exact .inl h
  .exact .inr ⟨h.1,qV _ h.2⟩
theorem jJu{cells:yR}(names:fb):∀(acc:yR) (p:Str×Addr),p∈acc->p∈qe cells names acc:=by
 induction names with
 |nil=>exact fun acc p h=>h
 |cons q rs ih=>
  intro acc p h
  show ih (v5 cells q acc) p ?_
  rcases vz cells q.1 q.2 acc with e|e
  .exact(jM8 (p∈·) e).mpr h
  .obtain⟨c,_,hc,e⟩:=e
   exact(jM8 (p∈·) e).mpr (qV _ h)
theorem jJt{cells:yR}(names:fb):∀(acc:yR) (x:Str) (c:Addr),(x,NameKind.free)∈names->cells.lookup x=some c->(x,c)∈qe cells names acc:=by
 induction names with
 |nil=>exact fun acc x c h=>nomatch h
 |cons q rs ih=>
  intro acc x c h hc
  rcases j0.mp h with e|h
  .show jJu rs (v5 cells q acc) _ ?_
   rw[<-e,show v5 cells (x,.free) acc=(x,c)::acc from (jMt rfl).trans (by rw[hc];rfl)]
   exact jy
  .exact ih _ x c h hc
theorem jBg{l:yR}{x:Str}{c:Addr}(h:(x,c)∈l):(l.lookup x).isSome=true:=by
 induction l with
 |nil=>cases h
 |cons q rs ih=>
  rw[jMz]
  generalize e:(x==q.1)=x0;induction x0 using cT with
  |true=>rfl
  |false=>
   rcases j0.mp h with h|h
   .rw[<-h,jPq] at e;cases e
   .exact ih h
theorem xA{cells:yR}{names:fb}{x:Str}{c:Addr}(h:(x,NameKind.free)∈names)(hc:cells.lookup x=some c):(qe cells names []).lookup x=some c:=by
 obtain⟨c',h'⟩:=jM4.mp (jBg (jJt (cells:=cells) names [] x c h hc))
 rcases yF names [] _ (mem_of_lookup h') with h2|⟨h2,_⟩
 .cases h2
 .rw[hc] at h2;replace h2:=jX h2;subst h2;exact h'
theorem wA{cells:yR}(ap:cells.Pairwise fun x y=>x.2≠y.2)(names:fb):∀(acc:yR),(names.map (·.1)).Nodup->(∀p∈acc,cells.lookup p.1=some p.2/\p.1∉names.map (·.1))->(acc.Pairwise fun x y=>x.2≠y.2)->((qe cells names acc).Pairwise fun x y=>x.2≠y.2):=by
 induction names with
 |nil=>exact fun acc _ _ h=>h
 |cons q rs ih=>
  intro acc hn ha h
  obtain⟨x,kd⟩:=q
  have oF:=xw.mp hn
  have fW:∀p∈acc,cells.lookup p.1=some p.2/\p.1∉rs.map (·.1):=fun p hp=>⟨(ha p hp).1,fun hm=>(ha p hp).2 (qV _ hm)⟩
  show(?_:(qe cells rs (v5 cells (x,kd) acc)).Pairwise _)
  rcases vz cells x kd acc with e|e
  .rw[e];exact ih acc oF.2 fW h
  .obtain⟨c,_,hc,e⟩:=e
   rw[e]
   show ih _ oF.2 (fun p hp=> ?_) (jOa.mpr ⟨fun q hq e=> ?_,h⟩)
   .rcases j0.mp hp with e0|hp
    .rw[e0];exact⟨hc,oF.1⟩
    .exact fW p hp
   .have e':c=q.2:=e
    exact(ha q hq).2 (name_of_addr ap (mem_of_lookup hc) (e'▸mem_of_lookup (ha q hq).1)▸jy)
theorem jGi(c:Str->NameKind->Bool)(x:Str)(names:fb):(names.map fun(y,kd)=>if c y kd=true then (y,NameKind.cell) else (y,kd)).lookup x=(names.lookup x).map fun kd=>if c x kd=true then .cell else kd:=by
 induction names with
 |nil=>
  exact rfl
 |cons q0 rs ih=>
  obtain⟨y,kd⟩:=q0
  have ih:=ih
  rw[jNv]
  have hf:(match ((y,kd):Str×NameKind) with|(y,kd)=>if c y kd=true then (y,NameKind.cell) else (y,kd))=(y,if c y kd=true then NameKind.cell else kd):=by
   show(?_:(if c y kd=true then (y,NameKind.cell) else (y,kd))=_)
   split <;> rfl
  rw[hf,jMz,jMz]
  by_cases e:x=y
  .subst e
   simp only[beq_self_eq_true,Option.map_some]
  .have e':(x==y)=false:=by simpa using e
   simp only[e']
   exact ih
theorem jAn(outer sc:Scope)(x:Str):(jO outer sc).names.lookup x=(sc.names.lookup x).map fun kd=>if (kd== .free&&outer.kind== .function&&outer.names.lookup x==some .cell)=true then .cell else kd:=
 jGi (fun x kd=>kd== .free&&outer.kind== .function&&outer.names.lookup x==some .cell) x sc.names
theorem jCy{sc:Scope}{t:Expr}(h:oR sc t=true):∀x∈xj t,sc.names.lookup x=some .local\/sc.names.lookup x=some .cell:=by
 unfold oR at h
 show kE (P:=fun _ ns=>sa ns false (fun x=>decide (sc.names.lookup x=some .local\/sc.names.lookup x=some .cell)) (fun x y=>decide ((sc.names.lookup x=some .local\/sc.names.lookup x=some .cell)/\(sc.names.lookup y=some .local\/sc.names.lookup y=some .cell)/\x≠y))=true->∀x∈ns,sc.names.lookup x=some .local\/sc.names.lookup x=some .cell) (fun _ h=>ff h) (fun x _ h=> ?_) (fun x _ y _ _ _ h=> ?_) h
 .exact jM6.mpr ⟨jNu h,fun _ h=>nomatch h⟩
 .replace h:=jNu (show decide ((sc.names.lookup x=some .local\/sc.names.lookup x=some .cell)/\(sc.names.lookup y=some .local\/sc.names.lookup y=some .cell)/\x≠y)=true from h)
  exact jM6.mpr ⟨h.1,jM6.mpr ⟨h.2.1,fun _ h=>nomatch h⟩⟩
variable{s1:Shared}
theorem Own.fresh{h h':Heap}(t:jd C h)(hP:∀a∈W,a≠C.P)(k:∀b o,h.get? b=some o->h'.get? b=some o)(hn:∀a∈W,h.get? a=none)(ho:∀a∈W,∃o,h'.get? a=some o):Own C W h':=by
 show⟨hP,fun a ha hc=> ?_,ho⟩
 obtain⟨ps,h1,h2,h3⟩:=id t
 show qA hc fun tf pos e1 e2=> ?_;clear hc
 rw[k _ _ h1] at e1;cases e1
 obtain⟨o,ho'⟩:=t.code ⟨ps,pos,h1,e2⟩
 rw[hn a ha] at ho';exact zn ho'
theorem kpNew{h4 h':Heap}{tk:Nat}{L:Addr}(x:KP C s s1)(t:jd C s.heap)(ht:s1.toks<=tk)(k4:∀b o,s1.heap.get? b=some o->h4.get? b=some o)(y:KL C I Z { s1 with heap:=h4,toks:=tk } s')
  (hI:s1.heap.get? I=none) (hZ:∀b,Z b->s1.heap.get? b=none) (hL:s1.heap.get? L=none) (fC:¬jq C s'.heap L) (hs:Heap.SameBut L s'.heap h'):KP C s { s' with heap:=h' }:=by
 obtain⟨h2,t2,rfl,l2,k2,e2,b2⟩:=y
 show x.trans ⟨h',t2,rfl,x8 ht l2,fun b o hb e=> ?_,?_⟩
 .have hK:b≠L:=fun e'=>by rw[e',hL] at e;exact zn e
  show(?_:h'.get? b=some o)
  rw[hs.2 b hK]
  exact k2 b o hb (fun z=>by rw[hZ b z] at e;exact zn e) (k4 b o e)
 .have t1:=x.tab t
  have lQ:L≠C.P:=fun e=>by
   obtain⟨ps,h1,_⟩:=t1
   rw[e,h1] at hL;cases hL
  have a1:qL C s1.heap h2:=(qL.keeps k4).trans b2 fun _ b ⟨o,e⟩=>⟨o,k4 b o e⟩
  show a1.trans (qL.one lQ fC fun b o hb e=>by rw[hs.2 b hb];exact e) fun tt b ⟨o,e⟩=> ?_
  by_cases hb:b=C.P
  .subst hb
   obtain⟨ps,h1,_⟩:=(a1 tt).1
   exact⟨_,h1⟩
  .exact⟨o,k2 b o hb (fun z=>by rw[hZ b z] at e;exact zn e) (k4 b o e)⟩
theorem xV{names:fb}{x:Str}{kd:NameKind}(hn:(names.map (·.1)).Nodup)(h:(x,kd)∈names):names.lookup x=some kd:=by
 induction names with
 |nil=>cases h
 |cons q rs ih=>
  rw[jMz]
  rcases j0.mp h with e|h
  .rw[<-e,jPq]
  .rw[jNn.mpr fun e:x=q.1=>(xw.mp hn).1 (jo.mpr ⟨(x,kd),h,e⟩)]
   exact ih (xw.mp hn).2 h
theorem jt{names:fb}{x:Str}{kd:NameKind}(h:names.lookup x=some kd):(x,kd)∈names:=by
 show qk (jAa h) fun q hq h1 h2=> ?_
 rw[<-h1,<-h2];exact hq
noncomputable def jB(ce:Env):List Addr:=ce.locals::(ce.cells.map (·.2)).filter (fun a=>decide (ce.locals<a))
structure OkC(sc jM:Scope)(gens:List Comprehension):Prop where
 kind:jM.kind= .function
 nodup:(jM.names.map (·.1)).Nodup
 free:∀p∈jM.names,p.2= .free->sc.names.lookup p.1=some .cell\/sc.names.lookup p.1=some .free
 sync:∀g∈gens,g.is_async=0
 set:∀g∈gens,qH g.iter=false
 tgt:∀g∈gens,oR jM g.target=true
theorem bc{sc jM:Scope}(h:jk sc jM gens=true):OkC sc jM gens:=by
 unfold jk at h
 simp only[Bool.and_eq_true,decide_eq_true_eq,List.all_eq_true,Bool.not_eq_true'] at h
 obtain⟨⟨⟨h1,h2⟩,h3⟩,h4⟩:=h
 exact⟨h1,h2,fun p hp=>h3 p hp,fun g hg=>(h4 g hg).1.1,fun g hg=>(h4 g hg).1.2,fun g hg=>(h4 g hg).2⟩
theorem jL7{jM:Scope}{ce:Env}{h4:Heap}{L:Addr}{b:Addr}(oc:OkC env.scope jM gens)(eo:tP C k env)
  (he:ce={ newEnv jM L env.globals (cellsFrom (L+1) jM.names (qe env.cells jM.names [])) env.qual none .none (some env) b with scope:=relabel jM env }):
  tP C k ce/\ce.scope=jO env.scope jM/\ce.locals=L/\ce.cells=cellsFrom (L+1) jM.names (qe env.cells jM.names [])/\(∀g∈gens,m5 ce (jB ce) g.target):=by
 have hk:∀x,ce.kindOf x=(jM.names.lookup x).map fun kd=>if (kd== .free&&env.scope.kind== .function&&env.scope.names.lookup x==some .cell)=true then .cell else kd:=fun x=>by
  subst he;exact jAn env.scope jM x
 have xY:ce.cells=cellsFrom (L+1) jM.names (qe env.cells jM.names []):=by subst he;rfl
 have yh:ce.locals=L:=by subst he;rfl
 show⟨⟨?_,?_,?_,fun x hx=> ?_,fun ry=> ?_⟩,by subst he;rfl,yh,xY,fun g hg x hx=> ?_⟩
 .subst he;exact oc.kind
 .subst he;exact eo.glob
 .subst he;exact eo.bi
 .rw[xY]
  rw[hk x] at hx
  generalize hl:jM.names.lookup x=x0;induction x0 using cO with
  |none=>rw[hl] at hx;rcases hx with hx|hx <;> cases hx
  |some kd=>
   rw[hl] at hx
   by_cases hc:kd= .cell
   .subst hc;exact xB _ _ _ _ (.inl hl)
   .have hf:kd= .free:=by
     rcases hx with hx|hx
     .simp only[Option.map_some,Option.some.injEq] at hx
      split at hx
      .rename_i hh;simp only[Bool.and_eq_true,beq_iff_eq] at hh;exact hh.1.1
      .exact absurd hx hc
     .simp only[Option.map_some,Option.some.injEq] at hx
      split at hx
      .cases hx
      .exact hx
    subst hf
    have hm:=jt hl
    obtain⟨c,nT⟩:=jM4.mp (eo.cells x (oc.free _ hm rfl))
    show xB _ _ _ _ (.inr ?_)
    rw[xA hm nT];rfl
 .subst he;exact eo.lam ry
 .have ht:=oc.tgt g hg
  have th:jM.names.lookup x=some .local\/jM.names.lookup x=some .cell:=by
   generalize g.target=tt at hx ht
   exact jCy ht x hx
  have eG:ce.kindOf x=jM.names.lookup x:=by
   rw[hk x]
   rcases th with e|e <;> rw[e] <;> rfl
  show⟨by rw[eG];exact th,fun c hc bx=> ?_⟩
  rw[eG] at hc
  rw[xY] at bx
  show jE (jC8 jM.names (L+1) (qe env.cells jM.names []) x ⟨_,jt hc,rfl,rfl⟩) fun c' h1 h2=> ?_
  rw[bx] at h2;replace h2:=jX h2;subst h2
  show qV _ (qX.mpr ⟨?_,?_⟩)
  .rw[xY];exact jMs (f:=(·.2)) (mem_of_lookup bx)
  .rw[yh];exact jMx h1
variable{jM:Scope}
theorem ur{a:Addr}(hm:a∈I::(W++DD::Y)):a∈I::DD::W\/a∈Y:=by
 rcases j0.mp hm with e|hm
 .exact .inl (by simp[e])
 .rcases jj.mp hm with hm|hm
  .exact .inl (by simp[hm])
  .rcases j0.mp hm with e|hm
   .exact .inl (by simp[e])
   .exact .inr hm
theorem u4.moreL(a:u4 DD Acc){h h':Heap}{a0:List D}:∀(Z:List Addr),Acc Y h a0->(∀b∈Z,h.get? b=none)->(∀b o,h.get? b=some o->h'.get? b=some o)->Acc (Z++Y) h' a0
 |[],x,_,hk=>a.frame Y h h' a0 x (fun o e=>hk _ o e) fun b o _ e=>hk b o e
 |z::Z,x,hz,hk=>by
  have y:=u4.moreL a (h:=h) (h':=h) Z x (fun b hb=>hz b (qV _ hb)) fun _ _ e=>e
  exact a.more (Z++Y) h h' a0 z y (hz z jy) hk
theorem jEm(S:SE C n r)(a1:y0 (n+1) A)(oc:OkC env.scope jM gens)(H:vh e gens acc emit)(as:u4 DD Acc)(em:∀ce:Env,ce.scope=jO env.scope jM->kB C n k A ce DD Acc qK (emit ce))
  (p:Pre C n k A env Y l s1) {h3:Heap} (k3:∀b o,s1.heap.get? b=some o->h3.get? b=some o) (hI:s1.heap.get? I=none) (hD:s1.heap.get? DD=none) (hID:I≠DD) (exD:∃o,h3.get? DD=some o)
  {its out:List D} (it:gm C A (DD::I::Y) I its h3) (wz:Acc (I::DD::Y) h3 []) (h:comp r k (jO env.scope jM) qK gens (jF jM l) its=some out) (hlen:out.length<=lim) {b:Addr} {R:Addr->Result->Shared->Prop}
  (q:∀L h4 tk s' (Z:Addr->Prop),s1.toks<=tk->(∀b o,s1.heap.get? b=some o->h4.get? b=some o)->KL C I Z { s1 with heap:=h4,toks:=tk } s'->(∀b,Z b->s1.heap.get? b=none)->s1.heap.get? L=none->¬jq C s'.heap L->L≠DD->(∃m,s'.heap.Ns L m)->Acc (L::Y) s'.heap out->R L (.ok .next) s'):
  wpAny C.M A (newFunctionEnv jM env.globals (qe env.cells jM.names []) [] env.qual none .none (some env) b) (fun cenv s4=>codeAny C.M A (.compStart e 0 (.ref I) acc { cenv with scope:=relabel jM env }) (R cenv.locals) s4) NE { s1 with heap:=h3 }:=by
 show vB oc.kind (fun x hx=>by cases hx) (fun x hx=> ?_) (fun q hq=> ?_) (wA p.fm.apart jM.names [] oc.nodup (fun _ h=>by cases h) jOv) fun sM h4 tk he ht bg fm0 _=> ?_
 .have hm:=jt hx
  obtain⟨c,nT⟩:=jM4.mp (p.eo.cells x (oc.free _ hm rfl))
  rw[xA hm nT];rfl
 .rcases yF jM.names [] q hq with h|⟨h,_⟩
  .cases h
  .obtain⟨v,hv⟩:=p.fm.cl _ (mem_of_lookup h)
   exact⟨v,hv.keeps k3⟩
 .generalize hL:h3.objs.size=L at he
  have hLn:h3.get? L=none:=hL▸qy h3
  have hfresh3:∀a,h3.get? a=none->s1.heap.get? a=none:=fun a ha=>none_of fun⟨o,e⟩=>by rw[k3 a o e] at ha;cases ha
  have bP:∀b o,s1.heap.get? b=some o->h4.get? b=some o:=fun b o e=>bg b o (k3 b o e)
  generalize cJ:({ sM with scope:=relabel jM env }:Env)=ce
  show rI (jL7 (C:=C) (k:=k) (gens:=gens) (ce:=ce) (h4:=h4) (L:=L) (b:=b) oc p.eo (by rw[<-cJ,he])) fun eo qE yh xY htg=> ?_
  have fm:fG ce h4:=by subst cJ;exact⟨fm0.ns,fm0.cl,fm0.apart⟩
  have rz:sM.locals=L:=by rw[he];rfl
  have wf:=gc jM.names (h3.push (j4 [] 0)) (qe env.cells jM.names []) (fun q hq=>by
   rcases yF jM.names [] q hq with h|⟨h,_⟩
   .cases h
   .obtain⟨v,hv⟩:=p.fm.cl _ (mem_of_lookup h)
    exact⟨v,(hv.keeps k3).keeps fun b o e=>vK _ e⟩) (wA p.fm.apart jM.names [] oc.nodup (fun _ h=>by cases h) jOv)
  rw[jOr,hL] at wf
  have rV:∀q∈ce.cells,q.2∈Y\/(q.2∈jB ce):=fun q hq=>by
   rcases wf.2.2 q (xY▸hq) with h|h
   .rcases yF jM.names [] q h with h|⟨h,_⟩
    .cases h
    .exact .inl (p.hc _ (mem_of_lookup h))
   .show .inr (qV _ (qX.mpr ⟨jMs (f:=(·.2)) hq,?_⟩))
    rw[yh];exact jMx h
  have fj:∀a∈jB ce,h3.get? a=none:=fun a ha=>by
   have fe:L<=a:=by
    rcases j0.mp ha with e|ha
    .rw[e,yh]
     exact jNi _
    .have:=jNu (qX.mp ha).2
     rw[yh] at this
     exact jPt this
   exact none_of fun⟨o,e⟩=>by
    have:=jM1 e
    rw[hL] at this
    exact absurd fe (jRm.mpr this)
  have aK:∀a∈jB ce,∃o,h4.get? a=some o:=fun a ha=>by
   rcases j0.mp ha with e|ha
   .show uV fm.ns fun m o es ep ho _=> ?_
    exact⟨o,e▸ho⟩
   .show jE (jo.mp (qX.mp ha).1) ?_;rintro q hq rfl
    show qA (fm.cl q hq) fun v o ho _=> ?_
    exact⟨o,ho⟩
  show jE it.obj fun oi oT _=> ?_
  obtain⟨od,oD⟩:=exD
  have hDW:DD∉jB ce:=fun hm=>by rw[fj DD hm] at oD;exact zn oD
  have hIW:I∉jB ce:=fun hm=>by rw[fj I hm] at oT;exact zn oT
  have hIY:I∉Y:=fun hm=>by obtain⟨o,ho⟩:=p.hYs I hm;rw[hI] at ho;exact zn ho
  have hDY:DD∉Y:=fun hm=>by obtain⟨o,ho⟩:=p.hYs DD hm;rw[hD] at ho;exact zn ho
  have zN:∀a∈I::DD::jB ce,s1.heap.get? a=none:=fun a ha=>by
   rcases j0.mp ha with e0|ha
   .rw[e0];exact hI
   .rcases j0.mp ha with e0|ha
    .rw[e0];exact hD
    .exact hfresh3 a (fj a ha)
  have hex:∀a∈I::DD::jB ce,∃o,h4.get? a=some o:=fun a ha=>by
   rcases j0.mp ha with e0|ha
   .rw[e0];exact⟨oi,bg _ _ oT⟩
   .rcases j0.mp ha with e0|ha
    .rw[e0];exact⟨od,bg _ _ oD⟩
    .exact aK a ha
  have ic:∀a∈I::DD::jB ce,a≠C.P:=fun a ha e=>by
   obtain⟨o,ho⟩:=p.hYs C.P p.hP
   rw[<-e,zN a ha] at ho;exact zn ho
  have lz:s1.toks<=tk:=ht
  have kp:KP C s1 { s1 with heap:=h4,toks:=tk }:=KP.of lz bP
  have own:Own C (I::DD::jB ce) h4:=Own.fresh p.gr.tab ic bP zN hex
  have hview:∀a o,view s1.heap Y a=some o->view h4 (I::(jB ce++DD::Y)) a=some o:=fun a o e=>by
   obtain⟨e,nn⟩:=jG e
   show jT (bP a o e) fun hm=> ?_
   have:a∈I::DD::jB ce\/a∈Y:=ur hm
   rcases this with hm|hm
   .rw[zN a hm] at e;exact zn e
   .exact nn hm
  have pre:Pre C n k A ce (I::(jB ce++DD::Y)) (jF jM l) { s1 with heap:=h4,toks:=tk }:=by
   have p':=p.kp kp
   show⟨p.bs,p.a,eo,p'.gr,by simp[p.hP],fun a ha=> ?_,fun a ha=> ?_,fm,fun q hq=> ?_,fun x d hx=> ?_⟩
   .rcases ur ha with h|h
    .exact none_of fun⟨o,ho⟩=>by
      have:=p.gr.keep _ o ho
      rw[zN a h] at this;exact zn this
    .exact p.hY a h
   .rcases ur ha with h|h
    .exact hex a h
    .exact p'.hYs a h
   .rcases rV q hq with h|h <;> simp[h]
   .unfold jF at hx
    revert hx;show vS fun hf hx=> ?_
    .have hm:=jt hf
     show jE (p.loc x d hx) fun v va rv=> ?_
     show⟨v,?_,_m.R.mono hview rv⟩
     rcases va with ⟨hk,_⟩|⟨hk,c,hc,hv⟩
     .have k8:env.scope.names.lookup x=some .local:=hk
      rcases oc.free _ hm rfl with h|h
      .rw[h] at k8;cases k8
      .rw[h] at k8;cases k8
     .show .inr ⟨?_,c,?_,hv.keeps bP⟩
      .have eG:ce.kindOf x=(jO env.scope jM).names.lookup x:=by
        show(?_:ce.scope.names.lookup x=_)
        rw[qE]
       rw[eG,jAn,hf]
       simp only[Option.map_some,Option.some.injEq]
       split
       .exact .inl rfl
       .exact .inr rfl
      .rw[xY,vD jM.names (L+1) _ x fun q hq e1 e2=> ?_]
       .exact xA hm hc
       .have:=xV oc.nodup (show (x,NameKind.cell)∈jM.names by rw[<-e1,<-e2];exact hq)
        rw[hf] at this;cases this
  have st:LS C n k A ce (jB ce) DD Acc (jB ce++DD::Y) (jF jM l) I its [] { s1 with heap:=h4,toks:=tk }:=by
   show⟨pre,by simp[p.hP],fun a ha=> ?_,fun hm=> ?_,fun q hq=> ?_,own,(it.more (Z:=jB ce) fj bg).perm fun b=> ?_,as.sub (jB ce++I::DD::Y) _ _ _ (fun b hb=> ?_) (as.moreL (jB ce) wz fj bg)⟩
   .rcases j0.mp ha with e|h
    .simp[e]
    .simp[h]
   .rcases jj.mp hm with h|h
    .exact hIW h
    .rcases j0.mp h with h|h
     .exact hID h
     .exact hIY h
   .rcases rV q hq with h|h <;> simp[h]
   .simp only[List.mem_cons,List.mem_append]
    constructor
    .rintro (h|h|h|h)
     .exact .inr (.inr (.inl h))
     .exact .inl h
     .exact .inr (.inl h)
     .exact .inr (.inr (.inr h))
    .rintro (h|h|h|h)
     .exact .inr (.inl h)
     .exact .inr (.inr (.inl h))
     .exact .inl h
     .exact .inr (.inr (.inr h))
   .simp only[List.mem_cons,List.mem_append] at hb ⊢
    rcases hb with h|h|h|h
    .exact .inr (.inl h)
    .exact .inl h
    .exact .inr (.inr (.inl h))
    .exact .inr (.inr (.inr h))
  have cl:CL C A ce (jB ce) DD Acc gens:=⟨as,fun g hg=>⟨htg g hg,oc.set g hg⟩,jy,hDW,fun q hq e=>by
   rcases rV q hq with h|h
   .exact hDY (e▸h)
   .exact hDW (e▸h)⟩
  have loop:codeAny C.M A (.compLoop e 0 (.ref I) acc ce) (R sM.locals) { s1 with heap:=h4,toks:=tk }:=by
   show jG0 S a1 H cl (em ce qE) gens 0 (jB ce++DD::Y) (jF jM l) I its out [] _ _ rfl (by rw[qE];exact h) (by simpa using hlen) st fun s' kl p' ac=> ?_
   rw[rz]
   show q L h4 tk s' _ lz bP kl (fun b hb=>zN b hb) (zN L (by simp[jB,yh])) ?_ (fun e=>hDW (by simp[jB,yh,e])) (yh▸p'.fm.ns) ?_
   .intro hc
    obtain⟨h5,t5,rfl,l5,k5,e5,b5⟩:=kl
    have hmL:L∈I::DD::jB ce:=by simp[jB,yh]
    rcases (b5 pre.gr.tab).2 L hc with h|h
    .exact own.code L hmL h
    .obtain⟨o,ho⟩:=hex L hmL
     have h':h4.get? L=none:=h
     rw[h'] at ho;exact zn ho
   .exact as.sub _ (L::Y) _ _ (fun b hb=>by rcases j0.mp hb with e|hb;simp[jB,yh,e];simp[hb]) ac
  have hgne:∃g,gens[0]? =some g:=by
   induction gens using cL with
   |nil=>cases h
   |cons g gs=>exact⟨g,rfl⟩
  obtain⟨g,hg⟩:=hgne
  have aj:gm C A (DD::I::Y) I its h4:=it.keep (fun o e=>bg _ _ e) fun b o _ e=>bg b o e
  exact jBk H hg loop (jBn aj loop)
def sV(C:Cx)(DD:Addr)(Y:List Addr)(h:Heap)(a0:List D):Prop:=∃vs m,h.get? DD=some (j4 vs m)/\qM C h Y vs a0
theorem accL(C:Cx)(DD:Addr):u4 DD (sV C DD):=
 ⟨fun Y h h' a0 ⟨vs,m,h1,h2⟩ hD hk=>⟨vs,m,hD _ h1,Rs.mono (z7 hk) h2⟩,
  fun Y h h' a0 I ⟨vs,m,h1,h2⟩ hn hk=>⟨vs,m,hk _ _ h1,Rs.mono (yc (Z:=[I]) (fun b o _ e=>hk b o e) (m1 hn)) h2⟩,
  fun Y Y' h a0 hs ⟨vs,m,h1,h2⟩=>⟨vs,m,h1,Rs.mono (j9 hs) h2⟩⟩
theorem emitL(S:SE C n r){ce:Env}{sc:Scope}{elt:Expr}(qE:ce.scope=sc):kB C n k A ce DD (sV C DD) (fun l'=>r.E k sc l' elt) (do let _<-call (.builtin "list.append") [.ref DD,<-eval elt ce]):=by
 intro Y l d s a0 Q hd p own hDY wz hlen q
 subst qE
 show jMq (S.at p hd fun v s1 kp p1 rv=> ?_)
 show qA wz fun vs m h1 h2=> ?_;clear wz
 have hDP:DD≠C.P:=own.ne DD yS
 have h1':=kp.heap hDP h1
 have h2':=qM.kp kp p.hP h2
 have hl:vs.length=a0.length:=h2.length
 have fw:=own.kw p.gr.tab (KP.kw kp (Z:=fun _=>False))
 show jMq (jQ6 (items:=vs.toArray) ⟨m,h1'⟩ (fun h' hp hs=> ?_) (by
  have:lim=1000000:=rfl
  exact x8 (by simp;lia:vs.toArray.size<=1000000) kD))
 obtain⟨m',hp⟩:=hp
 have kw:KW C (·=DD) s1 { s1 with heap:=h' }:=KW.one nL rfl hDP (fw.code DD yS) (fun b o hb e=>by rw[hs.2 b hb];exact e) ⟨_,hp⟩
 have hZ:∀b,b=DD->b∈Y:=fun b e=>e▸hDY
 show jMr (q _ ((KP.kw kp).trans kw) ⟨vs++[v],m',?_,?_⟩)
 .have:(vs.toArray.push v)=(vs++[v]).toArray:=by simp
  rw[this] at hp
  exact hp
 .exact Rs.append (qM.kw kw p.hP hZ h2') (.cons (RD.kw kw p.hP hZ rv) .nil)
end
open PySem.SeqAt
open AutoSeq1 (wpAny_loadPart')
open PySem.Spec
section
variable{K:Type}[DecidableEq K]{α:Type}
noncomputable def oH(k:K)(v:α):List K->List α->List α
 |k'::ks,x::xs=>(if k'=k then v else x)::oH k v ks xs
 |_,_=>[]
theorem two{α β:Type}{P:List α->List β->Prop}(h0:P [] [])(h1:∀a b l m,l.length=m.length->P l m->P (a::l) (b::m))(l:List α):∀m:List β,l.length=m.length->P l m:=by
 induction l with
 |nil=>
  intro m h
  rw[List.eq_nil_of_length_eq_zero h.symm];exact h0
 |cons a l ih=>
  intro m h
  induction m using cL with
  |nil=>exact absurd h (Nat.succ_ne_zero _)
  |cons b m=>exact h1 a b l m (Nat.succ.inj h) (ih m (Nat.succ.inj h))
theorem jAz(k:K)(v:α):∀(ks:List K) (xs:List α),ks.length=xs.length->ks.length=(oH k v ks xs).length:=
 two rfl fun _ _ _ _ _ ih=>jM8 (·+1) ih
theorem gW(k:K)(v:α):∀(ks:List K) (xs:List α),ks.length=xs.length->(ks.zip xs).map (fun kv=>if kv.1=k then (kv.1,v) else kv)=ks.zip (oH k v ks xs):=
 two rfl fun k' x ks xs _ ih=>by
  show(?_:(if k'=k then (k',v) else (k',x))::(ks.zip xs).map _=(k',if k'=k then v else x)::ks.zip (oH k v ks xs))
  rw[ih]
  by_cases e:k'=k
  .rw[jMt e,jMt e]
  .rw[jMv e,jMv e]
theorem jHb(k:K):∀(ks:List K) (xs:List α),ks.length=xs.length->((ks.zip xs).any fun kv=>kv.1=k)=decide (k∈ks):=
 two rfl fun k' x ks xs _ ih=>by
  rw[jNy,jR7,ih]
  by_cases e:k'=k
  .simp[e]
  .have:k≠k':=fun h=>e h.symm
   simp[e,this]
theorem jBi[BEq K][LawfulBEq K](k:K):∀(ks:List K) (xs:List α),ks.length=xs.length->((ks.zip xs).lookup k).isSome=decide (k∈ks):=
 two rfl fun k' x ks xs _ ih=>by
  rw[jNy,jMz]
  by_cases e:k=k'
  .subst e;simp
  .rw[jNn.mpr e]
   simp only[List.mem_cons,e,false_or]
   exact ih
theorem Rs.upd{prog:Program}{w:World}{H:HV}{k:K}{v:Value}{d:D}(hv:R prog w H v d){vs:List Value}{ds:List D}(rs:Rs prog w H vs ds):∀{ks:List K},ks.length=vs.length->Rs prog w H (oH k v ks vs) (oH k d ks ds):=
 rs.ind (P:=fun vs ds=>∀{ks:List K},ks.length=vs.length->Rs prog w H (oH k v ks vs) (oH k d ks ds)) (fun {ks} _=>by
  induction ks using cL with
  |nil=>exact .nil
  |cons _ _=>exact .nil) fun x y vs ds r _ ih {ks} h=>by
  induction ks using cL with
  |nil=>exact .nil
  |cons k' ks=>
   show(?_:Rs _ _ _ ((if k'=k then v else x)::oH k v ks vs) ((if k'=k then d else y)::oH k d ks ds))
   show .cons ?_ (ih (Nat.succ.inj h))
   by_cases e:k'=k
   .rw[jMt e,jMt e];exact hv
   .rw[jMv e,jMv e];exact r
end
theorem jGz{K:Type}[BEq K][DecidableEq K]{f:D->Option K}{k:K}{a:D}(hf:f a=some k)(v:D)(a0:List D):∀(acc m:List (K×D)),dictK? f acc a0=some m->dictK? f acc (a0++[.tup [a,v]])=some (qj m k v):=by
 induction a0 with
 |nil=>
  intro acc m h
  replace h:=jX h;subst h
  show(?_:((f a).map fun k=>(k,v)).bind _=_)
  rw[hf];rfl
 |cons d a0 ih=>
  intro acc m h
  show bE (show ((pairK? f d).bind fun p=>dictK? f (qj acc p.1 p.2) a0)=some m from h) fun p h1 h2=> ?_
  show(?_:((pairK? f d).bind fun p=>dictK? f (qj acc p.1 p.2) (a0++[.tup [a,v]]))=_)
  rw[h1]
  exact ih _ m h2
structure DK(C:Cx)(K:Type)[DecidableEq K]where
 kd:KeyKind C.prog C.w K
 f:D->Option K
 dd:List (K×D)->D
 hf:∀{H:HV} {v:Value} {a:D} {x:K},R C.prog C.w H v a->f a=some x->kd.is x v=true
 hmk:∀{H:HV} {a:Addr} {o:Obj} {ks:List K} {vs:List Value} {ds:List D},H a=some o->o.IsDictOf kd (ks.zip vs)->ks.length=vs.length->Rs C.prog C.w H vs ds->a≠sysModules->R C.prog C.w H (.ref a) (dd (ks.zip ds))
noncomputable def kS(C:Cx):DK C Str where
 kd:=strKind C.prog C.w
 f:=D.asStr?
 dd:= .dictS
 hf:=fun r e=>by
  obtain rfl:=xl e
  obtain⟨t,rfl⟩:=r.str_inv
  exact jRj _ _ _ t
 hmk:= .dictS
noncomputable def kI(C:Cx):DK C Int where
 kd:=intKind C.prog C.w
 f:=D.asInt?
 dd:= .dictI
 hf:=fun r e=>by
  obtain rfl:=vp e
  obtain⟨t,rfl⟩:=r.int_inv
  exact intKind_is _ _ _ t
 hmk:= .dictI
section
variable{C:Cx}{n:Nat}{r:Ev}{k:Bool}{A:Around}{K:Type}[BEq K][LawfulBEq K][DecidableEq K]
def sW(κ:DK C K)(DD:Addr)(Y:List Addr)(h:Heap)(a0:List D):Prop:=∃(o:Obj) (ks:List K) (vs:List Value) (ds:List D),h.get? DD=some o/\o.IsDictOf κ.kd (ks.zip vs)/\ks.length=vs.length/\qM C h Y vs ds/\dictK? κ.f [] a0=some (ks.zip ds)/\ks.length<=a0.length
omit [LawfulBEq K] in
theorem accD(κ:DK C K)(DD:Addr):u4 DD (sW κ DD):=
 ⟨fun Y h h' a0 x hD hk=>by
  obtain⟨o,ks,vs,ds,h1,h2,h3,h4,h5⟩:=x
  exact⟨o,ks,vs,ds,hD _ h1,h2,h3,Rs.mono (z7 hk) h4,h5⟩,
  fun Y h h' a0 I x hn hk=>by
   obtain⟨o,ks,vs,ds,h1,h2,h3,h4,h5⟩:=x
   exact⟨o,ks,vs,ds,hk _ _ h1,h2,h3,Rs.mono (yc (Z:=[I]) (fun b o _ e=>hk b o e) (m1 hn)) h4,h5⟩,
  fun Y Y' h a0 hs x=>by
   obtain⟨o,ks,vs,ds,h1,h2,h3,h4,h5⟩:=x
   exact⟨o,ks,vs,ds,h1,h2,h3,Rs.mono (j9 hs) h4,h5⟩⟩
set_option tactic.hygienic true in
theorem emitDK(κ:DK C K)(S:SE C n r){ce:Env}{sc:Scope}{DD:Addr}{ke ve:Expr}{P:Pos}(qE:ce.scope=sc):kB C n k A ce DD (sW κ DD) (o7 r k κ.f sc ke ve) (do
   let kv<-eval ke ce
   let vv<-holding [kv] (eval ve ce)
   standAt P
   holding [kv,vv] (dictSet DD kv vv)):=by
 intro Y l d s a0 Q hd p own hDY wz hlen q
 subst qE
 unfold o7 at hd
 show bE hd fun a h1 hd=> ?_
 show bE hd fun b h2 hd=> ?_
 show mE hd fun x hx hd2=> ?_
 clear hd
 .subst hd2
  show jMq (S.at p h1 fun kv s1 zU p1 rk=>jMq (jPb (S.at p1 h2 fun vv s2 yb p2 rv=>jMq (jQf (jPb ?_)))))
  obtain⟨o,ks,vs,ds,g1,g2,g3,g4,g5,g6⟩:=wz
  have kp:=zU.trans yb
  have hDP:DD≠C.P:=own.ne DD yS
  have g1':=kp.heap hDP g1
  have g4':=qM.kp kp p.hP g4
  have fw:=own.kw p.gr.tab (KP.kw kp (Z:=fun _=>False))
  have jh:lim=1000000:=rfl
  show wpAny_dictSet_pairs (κ.hf rk hx) (jNz.mpr ⟨o,g1',g2⟩) (fun h' hD hs=> ?_) (sz (by rw[List.length_zip];lia))
  show jE (jNz.mp hD) fun o' ho' yL=> ?_
  have kw:KW C (·=DD) s2 { s2 with heap:=h',toks:=s2.toks+1 }:=KW.one (jM5 _) rfl hDP (fw.code DD yS) (fun b o hb e=>by rw[hs.2 b hb];exact e) ⟨_,ho'⟩
  have hZ:∀b,b=DD->b∈Y:=fun b e=>e▸hDY
  have rv':=RD.kw kw p.hP hZ rv
  have g4'':=qM.kw kw p.hP hZ g4'
  have vF:ks.length=ds.length:=g3.trans g4.length
  have bj:=jGz hx b a0 [] _ g5
  show q _ ((KP.kw kp).trans kw) ?_
  unfold stored at yL
  unfold qj at bj
  rw[jHb x ks vs g3] at yL
  rw[jBi x ks ds vF] at bj
  by_cases hm:x∈ks
  .simp only[hm,decide_true,if_true] at yL bj
   rw[gW x vv ks vs g3] at yL
   rw[gW x b ks ds vF] at bj
   exact⟨o',ks,_,_,ho',yL,jAz x vv ks vs g3,Rs.upd rv' g4'' g3,bj,by simp;exact(ec zA)⟩
  .simp only[hm,decide_false,Bool.false_eq_true,if_false] at yL bj
   show⟨o',ks++[x],vs++[vv],ds++[b],ho',?_,by simp[g3],Rs.append g4'' (.cons rv' .nil),?_,by simp;assumption⟩
   .rw[jRr g3];exact yL
   .rw[jRr vF];exact bj
end
theorem wy{α1:Type}{A1 A2 A3:α1->Prop}(x1:α1)(h1:A1 x1)(h2:A2 x1)(h3:A3 x1):∃x1,A1 x1/\A2 x1/\A3 x1:=⟨x1,h1,h2,h3⟩
theorem dA{α1 α2:Type}{A1 A2:α1->α2->Prop}(x1:α1)(x2:α2)(h1:A1 x1 x2)(h2:A2 x1 x2):∃x1 x2,A1 x1 x2/\A2 x1 x2:=⟨x1,x2,h1,h2⟩
theorem vO{α1 α2 α3:Type}{A1 A2 A3 A4:α1->α2->α3->Prop}(x1:α1)(x2:α2)(x3:α3)(h1:A1 x1 x2 x3)(h2:A2 x1 x2 x3)(h3:A3 x1 x2 x3)(h4:A4 x1 x2 x3):∃x1 x2 x3,A1 x1 x2 x3/\A2 x1 x2 x3/\A3 x1 x2 x3/\A4 x1 x2 x3:=⟨x1,x2,x3,h1,h2,h3,h4⟩
theorem ta{α1 α2 α3 α4:Type}{A1 A2 A3 A4:α1->α2->α3->α4->Prop}(x1:α1)(x2:α2)(x3:α3)(x4:α4)(h1:A1 x1 x2 x3 x4)(h2:A2 x1 x2 x3 x4)(h3:A3 x1 x2 x3 x4)(h4:A4 x1 x2 x3 x4):∃x1 x2 x3 x4,A1 x1 x2 x3 x4/\A2 x1 x2 x3 x4/\A3 x1 x2 x3 x4/\A4 x1 x2 x3 x4:=⟨x1,x2,x3,x4,h1,h2,h3,h4⟩
section
variable{C:Cx}{n:Nat}{r:Ev}{k:Bool}{A:Around}{env:Env}{Y W:List Addr}{l:Loc}{s s' k7:Shared}{Z Z':Addr->Prop}
theorem KW.newOff{L:Addr}{h':Heap}{tk:Nat}(x:KW C Z s s')(t:jd C s.heap)(hL:s.heap.get? L=none)(fC:¬jq C s'.heap L)(ht:s'.toks<=tk)(hs:∀b o,b≠L->s'.heap.get? b=some o->h'.get? b=some o):KW C Z s { s' with heap:=h',toks:=tk }:=by
 have lQ:L≠C.P:=fun e=>by
  obtain⟨ps,h1,_⟩:=t
  rw[e,h1] at hL;cases hL
 exact x.lastNew hL (KL.one ht lQ fC hs) fun b e=> .inl e
theorem KP.newOff{L:Addr}{h':Heap}(x:KP C s s')(t:jd C s.heap)(hL:s.heap.get? L=none)(fC:¬jq C s'.heap L)(hs:Heap.SameBut L s'.heap h'):KP C s { s' with heap:=h' }:=by
 have lQ:L≠C.P:=fun e=>by
  obtain⟨ps,h1,_⟩:=t
  rw[e,h1] at hL;cases hL
 have x':=x
 obtain⟨h2,t2,rfl,l2,k2,b2⟩:=x
 show⟨h',t2,rfl,l2,fun b o hb e=> ?_,b2.trans (qL.one lQ fC fun b o hb e=>by rw[hs.2 b hb];exact e) fun tt b hb=>x'.some tt hb⟩
 have hK:b≠L:=fun e'=>by rw[e',hL] at e;exact zn e
 rw[hs.2 b hK]
 exact k2 b o hb e
theorem KP.of_kw(x:KW C (fun _=>False) s s'):KP C s s':=by
 obtain⟨h1,t1,rfl,l1,k1,e1,b1⟩:=x
 exact⟨h1,t1,rfl,l1,fun b o hb e=>k1 b o hb (fun f=>f) e,b1⟩
theorem Pre.moreKP{L:Addr}(p:Pre C n k A env Y l s)(x:KP C s s')(hn:s.heap.get? L=none)(hI:∃o,s'.heap.get? L=some o):Pre C n k A env (L::Y) l s':=by
 have p1:Pre C n k A env Y l s':=p.kp x
 show⟨p.bs,p.a,p.eo,p1.gr,qV _ p.hP,fun a ha=> ?_,fun a ha=> ?_,p1.fm,fun q hq=>qV _ (p.hc q hq),fun y d e=> ?_⟩
 .rcases j0.mp ha with e0|ha
  .rw[e0];exact none_of fun⟨o,ho⟩=>by rw[p.gr.keep _ o ho] at hn;cases hn
  .exact p.hY a ha
 .rcases j0.mp ha with e0|ha
  .rw[e0];exact hI
  .exact p1.hYs a ha
 .show jE (p.loc y d e) fun v a rv=> ?_
  show⟨v,a.kp p.gr.tab x,_m.R.mono (fun a o e=> ?_) rv⟩
  obtain⟨e,nn⟩:=jG e
  show jT (x.heap (fun h=>nn (h▸p.hP)) e) fun hm=> ?_
  rcases j0.mp hm with rfl|hm
  .rw[hn] at e;exact zn e
  .exact nn hm
theorem dm{B:Around}{x:Str}{v:Value}{d:D}{l:Loc}{Q:Unit->Shared->Prop}(p:Pre C n k A env Y l s)(o:Own C W s.heap)(hx:env.kindOf x=some .local\/env.kindOf x=some .cell)(hW:env.locals∈W)
  (hU:∀c,env.kindOf x=some .cell->env.cells.lookup x=some c->c∈W) (oB:∀a∈W,a∈Y) (hv:RD C s.heap Y v d)
  (q:∀s',KW C (·∈W) s s'->Pre C n k A env Y (jA l x d) s'->jg env s'.heap x v->(∀y u,y≠x->jg env s.heap y u->jg env s'.heap y u)->Q () s'):
  wpAny C.M B (storeName env x v) Q NE s:=by
 show vx p.eo.kind p.eo.cells p.fm hx fun h' tk a ht ha hs nV du k8=> ?_
 have pM:a∈W:=by
  rcases ha with rfl|⟨h1,h2⟩
  .exact hW
  .exact hU a h1 h2
 have jv:∃o,h'.get? a=some o:=by
  rcases ha with rfl|⟨h1,h2⟩
  .show uV nV.ns fun m o es ep ho _=> ?_
   exact⟨o,ho⟩
  .show qA (nV.cl _ (mem_of_lookup h2)) fun v o ho _=> ?_
   exact⟨o,ho⟩
 have kw:KW C (·∈W) s { s with heap:=h',toks:=tk }:=KW.one ht pM (o.ne a pM) (o.code a pM) (fun b o hb e=>by rw[hs.2 b hb];exact e) jv
 show q _ kw ⟨p.bs,p.a,p.eo,p.gr.kw p.bs kw fun b z=>p.hY b (oB b z),p.hP,p.hY,fun a ha=>kw.exs p.gr.tab (p.hYs a ha),nV,p.hc,fun y d' hy=> ?_⟩ du k8
 unfold jA at hy
 revert hy;show yT (fun e hy=> ?_) fun e hy=> ?_
 .subst e;replace hy:=jX hy;subst hy
  exact⟨v,du,hv.kw kw p.hP oB⟩
 .show jE (p.loc y d' hy) fun u hu ru=> ?_
  exact⟨u,k8 y u e hu,ru.kw kw p.hP oB⟩
theorem jg.same{L:Addr}{h h':Heap}{x:Str}{v:Value}(a:jg env h x v)(hl:env.locals≠L)(hc:∀q∈env.cells,q.2≠L)(hs:Heap.SameBut L h h'):jg env h' x v:=by
 rcases a with ⟨hk,m,hn,hm⟩|⟨hk,c,xc,hv⟩
 .exact .inl ⟨hk,m,hn.sameBut hs hl,hm⟩
 .exact .inr ⟨hk,c,xc,hv.sameBut hs (hc _ (mem_of_lookup xc))⟩
structure u7(C:Cx)(n:Nat)(k:Bool)(A:Around)(sc jM:Scope)(e:Expr)(gens:List Comprehension)(yj:Sem Value)(qK:Loc->Option D)(out:List D)(dd:D)
  (o0:Obj) (gu:Addr->List Addr->Heap->List D->Prop) (emit:Addr->Env->Sem Unit):Prop where
 cl:clausesOf e=gens
 is:∀DD,vh e gens (.ref DD) (emit DD)
 acc:∀DD,u4 DD (gu DD)
 em:∀DD ce,ce.scope=jO sc jM->kB C n k A ce DD (gu DD) qK (emit DD ce)
 new:∀(s:Shared) (Q:qN),Q (.ref s.heap.objs.size) { s with heap:=s.heap.push o0 }->wpAny C.M A yj Q NE s
 live:o0.isFreed=false
 nil:∀h Y DD,h.get? DD=some o0->gu DD Y h []
 fin:∀h Y DD,gu DD Y h out->DD∉Y->DD≠sysModules->RD C h Y (.ref DD) dd
variable{jM:Scope}{e:Expr}{g:Comprehension}{gs:List Comprehension}{yj:Sem Value}{qK:Loc->Option D}{its out:List D}{d dd:D}{o0:Obj}{gu:Addr->List Addr->Heap->List D->Prop}{emit:Addr->Env->Sem Unit}
theorem jC5{pos:Pos}{use:Option (Value->Sem Unit)}{Q:qN}(S:SE C n r)(a1:y0 (n+1) A)(K:u7 C n k A env.scope jM e (g::gs) yj qK out dd o0 gu emit)(p:Pre C n k A env Y l s)
  (h1:r.E k env.scope l g.iter=some d) (h2:ji d=some its) (ok:jk env.scope jM (g::gs)=true) (h:comp r k (jO env.scope jM) qK (g::gs) (jF jM l) its=some out) (hlen:out.length<=lim)
  (q:∀DD L s',KP C s s'->s.heap.get? L=none->¬jq C s'.heap L->(∃m,s'.heap.Ns L m)->RD C s'.heap (L::Y) (.ref DD) dd->compPost C.M A NE use Q (.ref DD) L (.ok .next) s'):
  wpAny C.M A (comprehension e jM env pos yj false (eval g.iter env) use) Q NE s:=by
 have oc:=bc ok
 show wpAny_comprehension_free (g:=g) (gs:=gs) K.cl (wR (oc.set g jy) env) (zT fun q hq hf=>p.eo.cells q.1 (oc.free q hq hf)) oc.kind (fun x hx hl=>xV oc.nodup (hl▸hx)) ?_
 show S.at p h1 fun v s1 zU p1 rv=> ?_
 show yr p1.a.handled p1.lt rv h2 fun h' hk it=> ?_
 show K.new _ _ ?_
 show jE it.obj fun oi oT _=> ?_
 have jv:s1.heap.objs.size<h'.objs.size:=jM1 oT
 have hn:s1.heap.get? s1.heap.objs.size=none:=qy _
 have cW:h'.get? h'.objs.size=none:=qy _
 have hD:s1.heap.get? h'.objs.size=none:=none_of fun⟨o,e⟩=>by rw[hk _ o e] at cW;cases cW
 have so:gm C A (h'.objs.size::s1.heap.objs.size::Y) s1.heap.objs.size its (h'.push o0):=it.more (Z:=[h'.objs.size]) (m1 cW) fun b o e=>vK _ e
 have oD:(h'.push o0).get? h'.objs.size=some o0:=jMw _ K.live
 show jEm (DD:=h'.objs.size) (I:=s1.heap.objs.size) (Acc:=gu h'.objs.size) S a1 oc (K.is h'.objs.size) (K.acc _) (fun ce qE=>K.em _ ce qE) p1 (fun b o e=>vK _ (hk b o e)) hn hD (jN5 jv) ⟨_,oD⟩ so (K.nil _ _ _ oD) h hlen fun L h4 tk s' Z ht k4 kl hZ hL fC hLD hns tq=> ?_
 have kp:KP C s s':=kpNew zU p.gr.tab ht k4 kl hn hZ hL fC (jSn ..)
 have hDY:h'.objs.size∉L::Y:=fun hm=>by
  rcases j0.mp hm with e|hm
  .exact hLD e.symm
  .obtain⟨o,e⟩:=p1.hYs _ hm;rw[hD] at e;exact zn e
 have hLs:s.heap.get? L=none:=none_of fun ho=>by
  obtain⟨o,e⟩:=zU.some p.gr.tab ho
  rw[hL] at e;exact zn e
 show q _ L s' kp hLs fC hns (K.fin _ _ _ tq hDY fun e=> ?_)
 obtain⟨o,ho⟩:=jM4.mp p.bs.sys
 have:=p1.gr.keep _ o ho
 rw[<-e,hD] at this;exact zn this
theorem RD.off{L DD:Addr}{h h5:Heap}(hs:Heap.SameBut L h h5)(x:RD C h (L::Y) (.ref DD) dd):RD C h5 Y (.ref DD) dd:=
 _m.R.mono (fun a o e=>by
  obtain⟨e,nn⟩:=jG e
  show jT ?_ fun hm=>nn (qV _ hm)
  rw[hs.2 a fun e'=>nn (by simp[e'])];exact e) x
theorem jC4{pos:Pos}{Q:qN}(S:SE C n r)(a1:y0 (n+1) A)(K:u7 C n k A env.scope jM e (g::gs) yj qK out dd o0 gu emit)(p:Pre C n k A env Y l s)
  (h1:r.E k env.scope l g.iter=some d) (h2:ji d=some its) (ok:jk env.scope jM (g::gs)=true) (h:comp r k (jO env.scope jM) qK (g::gs) (jF jM l) its=some out) (hlen:out.length<=lim)
  (q:∀v s',KP C s s'->RD C s'.heap Y v dd->Q v s'):
  wpAny C.M A (comprehension e jM env pos yj false (eval g.iter env) none) Q NE s:=
 jC5 S a1 K p h1 h2 ok h hlen fun DD L s' kp hL fC ⟨m,hns⟩ rd=>⟨m,hns,fun h5 hs=>q _ _ (kp.newOff p.gr.tab hL fC hs) (rd.off hs)⟩
theorem jEl{pos py:Pos}{y:Str}{Q:Unit->Shared->Prop}(S:SE C n r)(a1:y0 (n+1) A)(K:u7 C n k A env.scope jM e (g::gs) yj qK out dd o0 gu emit)(p:Pre C n k A env Y l s)
  (h1:r.E k env.scope l g.iter=some d) (h2:ji d=some its) (ok:jk env.scope jM (g::gs)=true) (h:comp r k (jO env.scope jM) qK (g::gs) (jF jM l) its=some out) (hlen:out.length<=lim)
  (o:Own C W s.heap) (hy:env.kindOf y=some .local) (hW:env.locals∈W) (oB:∀a∈W,a∈Y)
  (q:∀s',KW C (·∈W) s s'->Pre C n k A env Y (jA l y dd) s'->(∀z u,z≠y->jg env s.heap z u->jg env s'.heap z u)->Q () s'):
  wpAny C.M A (do let _<-comprehension e jM env pos yj false (eval g.iter env) (some (assign (.Name y py) env));pure ()) Q NE s:=by
 show jMq (jNh (jC5 (Q:=fun _ s'=>KW C (·∈W) s s'/\Pre C n k A env Y (jA l y dd) s'/\(∀z u,z≠y->jg env s.heap z u->jg env s'.heap z u)) S a1 K p h1 h2 ok h hlen fun DD L s' kp hL fC ⟨m,hns⟩ rd=> ?_) (fun _ s' hq=>jMr (q s' hq.1 hq.2.1 hq.2.2)) fun _ _ x=>x.elim)
 show(?_:wpAny C.M A (assign (.Name y py) env (.ref DD)) _ NE s')
 have hLe:∃o,s'.heap.get? L=some o:=by
  show oO hns fun o es ep ho _=> ?_;clear hns;exact⟨o,ho⟩
 have p1:Pre C n k A env (L::Y) l s':=p.moreKP kp hL hLe
 have o1:Own C W s'.heap:=o.kw p.gr.tab (KP.kw kp (Z:=fun _=>False))
 have hLW:L∉W:=fun hm=>by obtain⟨oo,e⟩:=o.ex L hm;rw[hL] at e;exact zn e
 have hLl:env.locals≠L:=fun e=>hLW (e▸hW)
 have hLc':∀q∈env.cells,q.2≠L:=fun q hq e=>by
  show qA (p.fm.cl q hq) fun v oo ho _=> ?_
  rw[e,hL] at ho;exact zn ho
 show jNt (dm p1 o1 (.inl hy) hW (fun c hc=>by rw[hy] at hc;cases hc) (fun a ha=>qV _ (oB a ha)) rd fun s2 vR p2 _ cG=> ?_)
 have nj:s2.heap.Ns L m:=hns.at fun o e=>vR.heap (j8 p1.gr.tab hns) hLW e
 have hLc2:¬jq C s2.heap L:=vR.code p1.gr.tab hLe fC
 show⟨m,nj,fun h5 hs=> ?_⟩
 have kwA:KW C (·∈W) s { s2 with heap:=h5 }:=((KP.kw kp).trans vR).newOff (tk:=s2.toks) p.gr.tab hL hLc2 nL fun b o hb e=>by rw[hs.2 b hb];exact e
 show⟨kwA,?_,fun z u hz hv=>(cG z u hz (hv.kp p.gr.tab kp)).same hLl hLc' hs⟩
 have hLe2:∃o,h5.get? L=some o\/True:=⟨j4 [] 0,.inr trivial⟩
 have kl:KL C L (·=L) s2 { s2 with heap:=h5 }:=KL.one (tk:=s2.toks) nL (j8 p1.gr.tab hns) hLc2 fun b o hb e=>by rw[hs.2 b hb];exact e
 exact p2.last kl p.hP (fun hm=>by obtain⟨oo,e⟩:=p.hYs L hm;rw[hL] at e;exact zn e) p.hc hLl
end
section
variable{C:Cx}{n:Nat}{r:Ev}{k:Bool}{A:Around}{env:Env}{Y W:List Addr}{l:Loc}{s s' k7:Shared}{sc jM:Scope}{elt ke ve:Expr}{gens:List Comprehension}{pos:Pos}{out:List D}
theorem kindL(S:SE C n r)(ha:∀g∈gens,g.is_async=0):u7 C n k A sc jM (.ListComp elt gens jM pos) gens (newList []) (fun l'=>r.E k (jO sc jM) l' elt) out (.list out) (j4 [] 0) (sV C)
  (fun DD ce=>do let _<-call (.builtin "list.append") [.ref DD,<-eval elt ce]) where
 cl:=rfl
 is:=fun DD=>jA6 ha
 acc:=fun DD=>accL C DD
 em:=fun DD ce qE=>emitL S qE
 new:=fun s Q h=>wpAny_newList h
 live:=rfl
 nil:=fun h Y DD ho=>⟨[],0,ho,.nil⟩
 fin:=fun h Y DD ⟨vs,m,ho,rs⟩ hY _=> .list (jT ho hY) rs
theorem kindDK{K:Type}[BEq K][LawfulBEq K][DecidableEq K](κ:DK C K)(S:SE C n r)(ha:∀g∈gens,g.is_async=0){m0:List (K×D)}(hm0:dictK? κ.f [] out=some m0):u7 C n k A sc jM (.DictComp ke ve gens jM pos) gens newDict (o7 r k κ.f (jO sc jM) ke ve) out (κ.dd m0) { cls:= .type "dict",data:= .dict #[] } (sW κ)
  (fun DD ce=>do
   let kv<-eval ke ce
   let vv<-holding [kv] (eval ve ce)
   standAt { ke.pos with endLine:=ve.pos.endLine,endCol:=ve.pos.endCol }
   holding [kv,vv] (dictSet DD kv vv)) where
 cl:=rfl
 is:=fun DD=>jFl ha
 acc:=fun DD=>accD κ DD
 em:=fun DD ce qE=>emitDK κ S qE
 new:=fun s Q h=>jO8 h
 live:=rfl
 nil:=fun h Y DD ho=>⟨_,[],[],[],ho,by
  show jE (jNz.mp (Heap.DictOf.new (knd:=κ.kd) h)) fun od oD cx=> ?_
  rw[jMw _ rfl] at oD
  replace oD:=jX oD;subst oD;exact cx,rfl,.nil,rfl,jNi _⟩
 fin:=fun h Y DD x hY hs=>by
  show e4_5 x fun o ks vs ds ho hio hl rs hds0=> ?_
  have vF:=hds0.1
  rw[hm0] at vF;replace vF:=jX vF;subst vF
  exact κ.hmk (jT ho hY) hio hl rs hs
noncomputable def uN(e:Expr):Bool:=by
 induction e using cE with
 |ListComp _ _ _ _=>exact true
 |DictComp _ _ _ _ _=>exact true
 |SetComp _ _ _ _=>exact true
 |_=>exact false
def SU(C:Cx)(n:Nat)(r:Ev):Prop:=∀(k:Bool) (A:Around) (env:Env) (Y W:List Addr) (l:Loc) (e:Expr) (d:D) (y:Str) (py:Pos) (s:Shared) (Q:Unit->Shared->Prop),
 Pre C n k A env Y l s->uN e=true->Own C W s.heap->env.kindOf y=some .local->env.locals∈W->(∀a∈W,a∈Y)->r.E k env.scope l e=some d->
 (∀s',KW C (·∈W) s s'->Pre C n k A env Y (jA l y d) s'->(∀z u,z≠y->jg env s.heap z u->jg env s'.heap z u)->Q () s')->wpAny C.M A (evalThenUse e env (assign (.Name y py) env)) Q NE s
def SF(C:Cx)(n:Nat)(r:Ev):Prop:=∀(k:Bool) (A:Around) (env:Env) (Y:List Addr) (l:Loc) (e:Expr) (ds:List D) (s:Shared) (Q:qN),
 Pre C n k A env Y l s->ze e=true->r.E k env.scope l e=some (.list ds)->
 (∀a vs s',KP C s s'->s.heap.get? a=none->s'.heap.get? a=some (j4 vs 0)->¬jq C s'.heap a->qM C s'.heap (a::Y) vs ds->Q (.ref a) s')->wpAny C.M A (eval e env) Q NE s
theorem eTU_l{use:Value->Sem Unit}:evalThenUse (.ListComp elt gens jM pos) env use=(do let _<-comprehension (.ListComp elt gens jM pos) jM env (firstIterPos gens pos) (newList []) (firstAsync gens) (firstIter gens env) (some use)):=rfl
theorem eTU_d{use:Value->Sem Unit}:evalThenUse (.DictComp ke ve gens jM pos) env use=(do let _<-comprehension (.DictComp ke ve gens jM pos) jM env (firstIterPos gens pos) newDict (firstAsync gens) (firstIter gens env) (some use)):=rfl
theorem SU_step{fns:List (Str×Fn)}{glob:xQ}(S:SE C n r):SU C (n+1) ⟨xK fns glob r,fun k=>vV r k n⟩:=by
 intro k A env Y W l e d y py s Q p hc o hy hW oB h q
 have p':=p.mono (jM5 n)
 have a1:=p.a
 have q':∀s',KW C (·∈W) s s'->Pre C n k A env Y (jA l y d) s'->(∀z u,z≠y->jg env s.heap z u->jg env s'.heap z u)->Q () s':=fun s' kw p2 hk=>q s' kw ⟨p2.bs,p.a,p2.eo,p2.gr,p2.hP,p2.hY,p2.hYs,p2.fm,p2.hc,p2.loc⟩ hk
 induction e using cE with
 |ListComp elt gens jM pos=>
  induction gens using cL with
  |nil=>exact nn h
  |cons g gs=>
   show bE (show Option.bind ((r.E k env.scope l g.iter).bind ji) _=some d from h) fun its h1 h=> ?_
   show bE h1 fun d1 h1 h2=> ?_
   revert h;show vS fun ok h=> ?_
   .show bE h fun out h3 h=> ?_
    revert h;show vS fun hlen h=> ?_
    .replace h:=jX h;subst h
     have oc:=bc ok
     have nQ:firstAsync (g::gs)=false:=by
      have h0:=oc.sync g jy
      cases g;simp only at h0;subst h0;rfl
     have nO:firstIter (g::gs) env=eval g.iter env:=by cases g;rfl
     rw[eTU_l,nQ,nO]
     exact jEl S a1 (kindL S fun g hg=>oc.sync g hg) p' h1 h2 ok h3 hlen o hy hW oB q'
 |SetComp elt gens jM pos=>exact nn h
 |DictComp ke ve gens jM pos=>
  induction gens using cL with
  |nil=>exact nn h
  |cons g gs=>
   induction gs using cL with
   |cons _ _=>exact nn h
   |nil=>
    show bE (show Option.bind ((r.E k env.scope l g.iter).bind ji) _=some d from h) fun its h1 h=> ?_
    show bE h1 fun d1 h1 h2=> ?_
    revert h;show vS fun ok h=> ?_
    .have oc:=bc ok
     have nQ:firstAsync [g]=false:=by
      have h0:=oc.sync g jy
      cases g;simp only at h0;subst h0;rfl
     have nO:firstIter [g] env=eval g.iter env:=by cases g;rfl
     rw[eTU_d,nQ,nO]
     have go:∀{K:Type} [BEq K] [LawfulBEq K] [DecidableEq K] (κ:DK C K),bX r k κ.f κ.dd env.scope l ke ve g jM its=some d->wpAny C.M A (do let _<-comprehension (.DictComp ke ve [g] jM pos) jM env (firstIterPos [g] pos) newDict false (eval g.iter env) (some (assign (.Name y py) env))) Q NE s:=fun κ h=>by
      show bE h fun ps h3 h=> ?_
      revert h;show vS fun hlen h=> ?_
      show mE h ?_;rintro m0 hm rfl
      exact jEl S a1 (kindDK κ S (fun g hg=>oc.sync g hg) hm) p' h1 h2 ok h3 hlen o hy hW oB q'
     exact lh h (go (kS C)) (go (kI C))
 |_=>exact ff hc
noncomputable abbrev qQ(OL:yR):List Addr:=OL.map (·.2)
noncomputable abbrev ZO(OL:yR)(env:Env):Addr->Prop:=fun b=>b∈qQ OL++jB env
end
section
variable{C:Cx}{n:Nat}{r:Ev}{k:Bool}{A:Around}{env:Env}{Y W:List Addr}{OL N:yR}{l l':jN}{s s' k7 s1:Shared}{Z Z':Addr->Prop}
theorem KW.transNew(x:KW C Z s s')(y:KW C Z' s' k7)(h:∀b,Z' b->Z b\/s.heap.get? b=none):KW C Z s k7:=by
 have x':=x
 obtain⟨h1,t1,rfl,l1,k1,e1,b1⟩:=x
 obtain⟨h2,t2,rfl,l2,k2,e2,b2⟩:=y
 show⟨h2,t2,rfl,x8 l1 l2,fun b o hb hz e=>k2 b o hb (fun z=> ?_) (k1 b o hb hz e),fun b hb h=>e2 b hb (e1 b hb h),b1.trans b2 fun t b h=>x'.exs t h⟩
 rcases h b z with h|h
 .exact hz h
 .rw[h] at e;exact zn e
structure FS(C:Cx)(n:Nat)(k:Bool)(A:Around)(env:Env)(Y:List Addr)(OL:yR)(l:jN)(s:Shared):Prop where
 pre:Pre C n k A env (qQ OL++Y) (j3 l) s
 hP:C.P∈Y
 cY:∀p∈env.cells,p.2∈Y
 own:Own C (qQ OL++jB env) s.heap
 wY:∀a∈jB env,a∈Y
 nY:∀p∈OL,p.2∉Y
 ap:OL.Pairwise fun p q=>p.2≠q.2
 cw:∀x c,env.kindOf x=some .cell->env.cells.lookup x=some c->c∈jB env
 lst:∀x ds,l x=some (.own ds)->∃a vs m,(x,a)∈OL/\jg env s.heap x (.ref a)/\s.heap.get? a=some (j4 vs m)/\qM C s.heap (qQ OL++Y) vs ds
theorem ZO.sub{b:Addr}(wY:∀a∈jB env,a∈Y)(h:ZO OL env b):b∈qQ OL++Y:=by
 rcases jj.mp h with h|h
 .exact xP _ h
 .exact ju _ (wY b h)
def ExcPost(C:Cx)(env:Env)(Z:Addr->Prop)(Y:List Addr)(c:Str)(d:D)(s:Shared)(E:qN):Prop:=
 ∀e t cl v s',KW C Z s s'->s.heap.get? e=none->C.mg c=some (.ref cl)->s'.heap.get? e=some { cls:= .ref cl,data:= .fields #[.ref t,.none,.none,.none,.bool false,.none] }->
  s.heap.get? t=none->s'.heap.get? t=some { cls:= .type "tuple",data:= .seq #[v] }->RD C s'.heap Y v d->(∃m,s'.heap.Ns env.locals m)->E (.ref e) s'
def qS(C:Cx)(n:Nat)(k:Bool)(A:Around)(env:Env)(Y:List Addr)(OL:yR)(l':jN)(s:Shared)(Q:Shared->Prop):Prop:=
 ∀s' N,(∀p∈N,s.heap.get? p.2=none)->KW C (ZO OL env) s s'->FS C n k A env Y (N++OL) l' s'->Q s'
def y8(C:Cx)(n:Nat)(k:Bool)(A:Around)(env:Env)(Y:List Addr)(OL:yR)(f:Fl)(l':jN)(s:Shared)(Q:wc)(E:qN):Prop:=
 match f with
 | .next=>qS C n k A env Y OL l' s (Q .next)
 | .brk=>qS C n k A env Y OL l' s (Q .brk)
 | .ret d=>∀v s',KW C (ZO OL env) s s'->RD C s'.heap Y v d->Q (.ret v) s'
 | .exc c d=>ExcPost C env (ZO OL env) Y c d s E
def SS(C:Cx)(n:Nat)(r:Ev):Prop:=∀(k:Bool) (A:Around) (env:Env) (Y:List Addr) (OL:yR) (l:jN) (st:Stmt) (f:Fl) (l':jN) (s:Shared) (Q:wc) (E:qN),
 FS C n k A env Y OL l s->r.S k env.scope l st=some (f,l')->y8 C n k A env Y OL f l' s Q E->wpAny C.M A (exec st env) Q E s
structure gL(C:Cx)(n:Nat)(r:Ev):Prop where
 E:SE C n r
 U:SU C n r
 F:SF C n r
 S:SS C n r
theorem xM(x:KW C Z s s')(t:jd C s.heap){a:Addr}(h:s'.heap.get? a=none):s.heap.get? a=none:=none_of fun ho=>by
 obtain⟨o,e⟩:=x.exs t ho
 rw[h] at e;exact zn e
theorem vU(hN:∀p∈N,s.heap.get? p.2=none)(b:Addr)(h:ZO (N++OL) env b):ZO OL env b\/s.heap.get? b=none:=by
 rcases jj.mp h with h|h
 .rw[qQ,jNr] at h
  rcases jj.mp h with h|h
  .show lE h ?_;rintro p hp rfl
   exact .inr (hN p hp)
  .exact .inl (xP _ h)
 .exact .inl (ju _ h)
theorem qS.step{Q:Shared->Prop}(t:jd C s.heap)(hN:∀p∈N,s.heap.get? p.2=none)(kw:KW C (ZO OL env) s s1)(h:qS C n k A env Y OL l' s Q):qS C n k A env Y (N++OL) l' s1 Q:=by
 intro s' N' hN' aZ fs
 show h s' (N'++N) (fun p hp=> ?_) (kw.transNew aZ (vU hN)) (by rw[jNl];exact fs)
 rcases jj.mp hp with hp|hp
 .exact xM kw t (hN' p hp)
 .exact hN p hp
theorem y8.step{f:Fl}{Q:wc}{E:qN}(t:jd C s.heap)(hN:∀p∈N,s.heap.get? p.2=none)(kw:KW C (ZO OL env) s s1)(h:y8 C n k A env Y OL f l' s Q E):y8 C n k A env Y (N++OL) f l' s1 Q E:=by
 induction f using cF with
 |next=>exact qS.step t hN kw h
 |brk=>exact qS.step t hN kw h
 |ret d=>exact fun v s' aZ rd=>h v s' (kw.transNew aZ (vU hN)) rd
 |exc c d=>exact fun e tt cl v s' aZ he hc ho ht bQ rd hns=>h e tt cl v s' (kw.transNew aZ (vU hN)) (xM kw t he) hc ho (xM kw t ht) bQ rd hns
theorem FS.kp(fs:FS C n k A env Y OL l s)(x:KP C s s'):FS C n k A env Y OL l s' where
 pre:=fs.pre.kp x
 hP:=fs.hP
 cY:=fs.cY
 own:=fs.own.kw fs.pre.gr.tab (KP.kw x (Z:=fun _=>False))
 wY:=fs.wY
 nY:=fs.nY
 ap:=fs.ap
 cw:=fs.cw
 lst:=fun y ds hy=>by
  show yy (fs.lst y ds hy) fun a vs m h1 h2 h3 h4=> ?_
  have fX:a≠C.P:=fs.own.ne a (xP _ (jMs (f:=(·.2)) h1))
  exact vO a vs m h1 (h2.kp fs.pre.gr.tab x) (x.heap fX h3) (h4.kp x fs.pre.hP)
theorem y8.kp{f:Fl}{Q:wc}{E:qN}(t:jd C s.heap)(kp:KP C s s1)(h:y8 C n k A env Y OL f l' s Q E):y8 C n k A env Y OL f l' s1 Q E:=
 y8.step (N:=[]) t (fun p hp=>by cases hp) kp.kw h
set_option tactic.hygienic true in
theorem FS.all(fs:FS C n k A env Y OL l s):Pre C n k A env Y (xW l) s where
 bs:=fs.pre.bs
 a:=fs.pre.a
 eo:=fs.pre.eo
 gr:=fs.pre.gr
 hP:=fs.hP
 hY:=fun a ha=>fs.pre.hY a (ju _ ha)
 hYs:=fun a ha=>fs.pre.hYs a (ju _ ha)
 fm:=fs.pre.fm
 hc:=fs.cY
 loc:=fun x d hx=>by
  have hs:∀a o,view s.heap (qQ OL++Y) a=some o->view s.heap Y a=some o:=j9 fun a ha=>ju _ ha
  unfold xW at hx
  split at hx
  .rename_i d' e
   cases (hx)
   show jE (fs.pre.loc x d (by unfold j3;rw[e])) fun v a rv=> ?_
   exact⟨v,a,_m.R.mono hs rv⟩
  .rename_i ds e
   cases (hx)
   show yy (fs.lst x ds e) fun a vs m h1 h2 h3 h4=> ?_
   exact⟨_,h2,.list (jT h3 (fs.nY _ h1)) (Rs.mono hs h4)⟩
  .cases (hx)
set_option tactic.hygienic true in
theorem xa(S:SS C n r)(ss:List Stmt):∀(OL:yR) (l l':jN) (f:Fl) (s:Shared) (Q:wc) (E:qN),FS C n k A env Y OL l s->qd r k env.scope l ss=some (f,l')->y8 C n k A env Y OL f l' s Q E->wpAny C.M A (execs ss env) Q E s:=by
 induction ss with
 |nil=>
  intro OL l l' f s Q E fs h q
  replace h:some (Fl.next,l)=some (f,l'):=h
  cases (h)
  exact jNj (q s [] (fun p hp=>by cases (hp)) (KW.refl s) fs)
 |cons st ss ih=>
  intro OL l l' f s Q E fs h q
  show bE (show (r.S k env.scope l st).bind _=some (f,l') from h) ?_;rintro ⟨f1,l1⟩ h1 h2
  show jM0 ?_
  have t:=fs.pre.gr.tab
  cases (f1) with
  |next=>
   show S k A env Y OL l st .next l1 s _ E fs h1 fun s1 N hN kw qF=> ?_
   exact ih (N++OL) l1 l' f s1 Q E qF h2 (q.step t hN kw)
  |brk=>cases (h2);exact S k A env Y OL l st .brk l' s _ E fs h1 q
  |ret d=>cases (h2);exact S k A env Y OL l st (.ret d) l' s _ E fs h1 q
  |exc c d=>cases (h2);exact S k A env Y OL l st (.exc c d) l' s _ E fs h1 q
theorem FS.lo{m:Nat}(fs:FS C n k A env Y OL l s)(h:m<=n):FS C m k A env Y OL l s:=⟨fs.pre.mono h,fs.hP,fs.cY,fs.own,fs.wY,fs.nY,fs.ap,fs.cw,fs.lst⟩
theorem FS.hi{m:Nat}(fs:FS C m k A env Y OL l s)(a:y0 n A):FS C n k A env Y OL l s:=
 ⟨⟨fs.pre.bs,a,fs.pre.eo,fs.pre.gr,fs.pre.hP,fs.pre.hY,fs.pre.hYs,fs.pre.fm,fs.pre.hc,fs.pre.loc⟩,fs.hP,fs.cY,fs.own,fs.wY,fs.nY,fs.ap,fs.cw,fs.lst⟩
theorem qS.lo{m:Nat}{Q:Shared->Prop}(a:y0 n A)(h:qS C n k A env Y OL l' s Q):qS C m k A env Y OL l' s Q:=fun s' N hN kw fs=>h s' N hN kw (fs.hi a)
theorem y8.lo{m:Nat}{f:Fl}{Q:wc}{E:qN}(a:y0 n A)(h:y8 C n k A env Y OL f l' s Q E):y8 C m k A env Y OL f l' s Q E:=by
 induction f using cF with
 |next=>exact qS.lo a h
 |brk=>exact qS.lo a h
 |ret d=>exact h
 |exc c d=>exact h
theorem FS.frame_notOwn(fs:FS C n k A env Y OL l s){x:Str}{a:Addr}(h:(x,a)∈OL):a∉jB env:=fun hm=>fs.nY _ h (fs.wY a hm)
theorem FS.assign{B:Around}{x:Str}{v:Value}{d:D}{Q:Unit->Shared->Prop}(fs:FS C n k A env Y OL l s)(hx:env.kindOf x=some .local\/env.kindOf x=some .cell)(hv:RD C s.heap (qQ OL++Y) v d)
  (q:∀s',KW C (ZO OL env) s s'->FS C n k A env Y OL (jA l x (.val d)) s'->Q () s'):wpAny C.M B (storeName env x v) Q NE s:=by
 have own:Own C (jB env) s.heap:=fs.own.sub fun a ha=>ju _ ha
 have nJ:∀a∈jB env,a∈qQ OL++Y:=fun a ha=>ju _ (fs.wY a ha)
 show dm fs.pre own hx jy (fun c h1 h2=>fs.cw x c h1 h2) nJ hv fun s' kw p2 sx hk=> ?_
 have aY:KW C (ZO OL env) s s':=kw.mono fun b hb=>ju _ hb
 show q s' aY ⟨p2.weak fun y dy e=> ?_,fs.hP,fs.cY,fs.own.kw fs.pre.gr.tab kw,fs.wY,fs.nY,fs.ap,fs.cw,fun y ds hy=> ?_⟩
 .unfold j3 jA at e
  unfold jA
  by_cases h:y=x
  .subst h;simp at e;subst e;simp
  .rw[jMv h] at e ⊢;exact e
 .unfold jA at hy
  revert hy;show yT (fun _ hy=> ?_) fun je hy=> ?_
  .cases hy
  .show yy (fs.lst y ds hy) fun a vs m h1 h2 h3 h4=> ?_
   have hn:=fs.frame_notOwn h1
   have fX:a≠C.P:=fs.own.ne a (xP _ (jMs (f:=(·.2)) h1))
   exact vO a vs m h1 (hk y _ je h2) (kw.heap fX hn h3) (h4.kw kw fs.pre.hP nJ)
theorem FS.assignOwn{x:Str}{a:Addr}{vs:List Value}{m:Nat}{ds:List D}{Q:Unit->Shared->Prop}(fs:FS C n k A env Y OL l s)(kp:KP C s s1)(hx:env.kindOf x=some .local\/env.kindOf x=some .cell)
  (hn:s.heap.get? a=none) (ho:s1.heap.get? a=some (j4 vs m)) (hc:¬jq C s1.heap a) (hr:qM C s1.heap (a::(qQ OL++Y)) vs ds)
  (q:∀s',KW C (ZO OL env) s s'->FS C n k A env Y ((x,a)::OL) (jA l x (.own ds)) s'->Q () s'):wpAny C.M A (storeName env x (.ref a)) Q NE s1:=by
 have bT:a∉qQ OL++Y:=fun hm=>by obtain⟨o,e⟩:=fs.pre.hYs a hm;rw[hn] at e;exact zn e
 have p1:Pre C n k A env (a::(qQ OL++Y)) (j3 l) s1:=fs.pre.moreKP kp hn ⟨_,ho⟩
 have qF:=fs.kp kp
 have own:Own C (jB env) s1.heap:=qF.own.sub fun a ha=>ju _ ha
 have pM:a∉jB env:=fun hm=>bT (ju _ (fs.wY a hm))
 have nJ:∀b∈jB env,b∈a::(qQ OL++Y):=fun b hb=>qV _ (ju _ (fs.wY b hb))
 have fi:a≠C.P:=fun e=>by obtain⟨o,ho'⟩:=fs.pre.hYs C.P fs.pre.hP;rw[<-e,hn] at ho';exact zn ho'
 show dm (d:= .opq (.ref a)) p1 own hx jy (fun c h1 h2=>fs.cw x c h1 h2) nJ (.opq _) fun s' kw p2 sx hk=> ?_
 have aY:KW C (ZO OL env) s s':=(KP.kw kp (Z:=ZO OL env)).trans (kw.mono fun b hb=>ju _ hb)
 have oE:s'.heap.get? a=some (j4 vs m):=kw.heap fi pM ho
 show q s' aY ⟨p2.weak fun y dy e=> ?_,fs.hP,fs.cY,⟨fun b hb=> ?_,fun b hb=> ?_,fun b hb=> ?_⟩,fs.wY,fun p hp=> ?_,jOa.mpr ⟨fun p hp e=> ?_,fs.ap⟩,fs.cw,fun y dy hy=> ?_⟩
 .unfold j3 jA at e
  unfold jA
  by_cases h:y=x
  .subst h;simp at e
  .rw[jMv h] at e ⊢;exact e
 .rcases j0.mp hb with e0|hb
  .rw[e0];exact fi
  .exact qF.own.ne b hb
 .rcases j0.mp hb with e0|hb
  .rw[e0];exact kw.code qF.pre.gr.tab ⟨_,ho⟩ hc
  .exact kw.code qF.pre.gr.tab (qF.own.ex b hb) (qF.own.code b hb)
 .rcases j0.mp hb with e0|hb
  .rw[e0];exact⟨_,oE⟩
  .exact kw.exs qF.pre.gr.tab (qF.own.ex b hb)
 .rcases j0.mp hp with e0|hp
  .rw[e0];exact fun hm=>bT (ju _ hm)
  .exact fs.nY p hp
 .exact bT (xP _ (by have e':a=p.2:=e;rw[e'];exact jMs (f:=(·.2)) hp))
 .unfold jA at hy
  revert hy;show yT (fun e hy=> ?_) fun je hy=> ?_
  .subst e;cases hy
   exact vO a vs m jy sx oE (qM.kw kw (qV _ fs.pre.hP) nJ hr)
  .show yy (fs.lst y dy hy) fun b ws m' h1 h2 h3 h4=> ?_
   have hb:=fs.frame_notOwn h1
   have fX:b≠C.P:=fs.own.ne b (xP _ (jMs (f:=(·.2)) h1))
   show vO b ws m' (qV _ h1) (hk y _ je (h2.kp fs.pre.gr.tab kp)) (kw.heap fX hb (kp.heap fX h3)) ?_
   have hv:qM C s1.heap (a::(qQ OL++Y)) ws dy:=Rs.mono (fun z o e=>by
    obtain⟨e,nn⟩:=jG e
    show jT (kp.heap (fun e'=>nn (e'▸fs.pre.hP)) e) fun hm=> ?_
    rcases j0.mp hm with rfl|hm
    .rw[hn] at e;exact zn e
    .exact nn hm) h4
   exact qM.kw kw (qV _ fs.pre.hP) nJ hv
theorem FS.grow{x:Str}{a:Addr}{us:List Value}{m':Nat}{es:List D}{h':Heap}(fs:FS C n k A env Y OL l s)(ha:(x,a)∈OL)(hv:jg env s.heap x (.ref a))(ho:h'.get? a=some (j4 us m'))(hr:qM C s.heap (qQ OL++Y) us es)(hs:Heap.SameBut a s.heap h')(tk:Nat)(ht:s.toks<=tk):
  KW C (ZO OL env) s { s with heap:=h',toks:=tk }/\FS C n k A env Y OL (jA l x (.own es)) { s with heap:=h',toks:=tk }:=by
 have hm:a∈qQ OL:=jMs (f:=(·.2)) ha
 have ij:a∈qQ OL++jB env:=xP _ hm
 have fi:=fs.own.ne a ij
 have kw:KW C (·=a) s { s with heap:=h',toks:=tk }:=KW.one ht rfl fi (fs.own.code a ij) (fun b o hb e=>by rw[hs.2 b hb];exact e) ⟨_,ho⟩
 have hZ:∀b,b=a->b∈qQ OL++Y:=fun b e=>e▸xP _ hm
 have pM:=fs.frame_notOwn ha
 have lN:¬env.locals=a:=fun e=>pM (e▸jy)
 have tq:∀p∈env.cells,¬p.2=a:=fun p hp e=>fs.nY _ ha (e▸fs.cY p hp)
 show⟨kw.mono fun b e=>e▸ij,(fs.pre.kw kw hZ lN tq).weak fun y dy e=> ?_,fs.hP,fs.cY,fs.own.kw fs.pre.gr.tab kw,fs.wY,fs.nY,fs.ap,fs.cw,fun y dy hy=> ?_⟩
 .unfold j3 jA at e
  unfold j3
  by_cases h:y=x
  .subst h;simp at e
  .rw[jMv h] at e;exact e
 .unfold jA at hy
  revert hy;show yT (fun e hy=> ?_) fun je hy=> ?_
  .subst e;cases hy
   exact vO a us m' ha (hv.kw fs.pre.gr.tab kw lN tq) ho (qM.kw kw fs.pre.hP hZ hr)
  .show yy (fs.lst y dy hy) fun b ws2 m2 h1 h2 h3 h4=> ?_
   have pK:b≠a:=by
    have key:∀(OL:yR),OL.Pairwise (fun p q=>p.2≠q.2)->(y,b)∈OL->(x,a)∈OL->b=a->False:=by
     intro OL
     induction OL with
     |nil=>intro _ h;cases h
     |cons q qs ih=>
      intro hp h1 h2 e
      obtain⟨hq,hp⟩:=jOa.mp hp
      rcases j0.mp h1 with e1|h1'
      .rcases j0.mp h2 with e2|h2'
       .rw[<-e1] at e2;cases e2;exact je rfl
       .subst e1;exact hq (x,a) h2' e
      .rcases j0.mp h2 with e2|h2'
       .subst e2;exact hq (y,b) h1' e.symm
       .exact ih hp h1' h2' e
    exact fun e=>key OL fs.ap h1 ha e
   have fX:b≠C.P:=fs.own.ne b (xP _ (jMs (f:=(·.2)) h1))
   exact vO b ws2 m2 h1 (h2.kw fs.pre.gr.tab kw lN tq) (kw.heap fX pK h3) (qM.kw kw fs.pre.hP hZ h4)
theorem jBq{x:Str}{a:Addr}{vs:List Value}{m:Nat}{xp ap cp:Pos}{meth:Str}{id:String}{arg:Expr}{Q:qN}{l:Loc}(p:Pre C n k A env Y l s)(hv:jg env s.heap x (.ref a))(ho:s.heap.get? a=some (j4 vs m))
  (wk:(ap.endLine==cp.line)=true) (xR:isStarred arg=false) (nH:(x==("__debug__":Str))=false) (bh:(x==("__classdict__":Str))=false) (slot:Slot "list" meth id) (ty:typeOf (.builtin id)=pure (.type "method_descriptor"))
  (h:wpAny C.M A (eval arg env) (fun v s'=>wpAny C.M A (call (.builtin id) [.ref a,v]) Q NE s') NE s):
  wpAny C.M A (eval (.Call (.Attribute (.Name x xp) meth ap) [arg] [] cp) env) Q NE s:=by
 show Call_method1 rfl (jI xR) wk ?_
 show m8 p hv nH bh ?_
 show⟨"list",id,PySem.F.plainAttrs_list,slot,ty,⟨_,ho,rfl⟩,fun b e=>by cases e;exact⟨_,ho,rfl⟩,?_⟩
 show jO0 rfl (jNg (jNf (jNh h (fun v s' h'=>jN3 ?_) fun _ _ x=>x)))
 exact h'
variable{Y' J:List Addr}{s2:Shared}
inductive KJ (C:Cx) (J:List Addr) (s s':Shared):Prop
 |mk:∀h' tk,s'={ s with heap:=h',toks:=tk }->s.toks<=tk->((∀b o,b∉J->s.heap.get? b=some o->h'.get? b=some o))->qL C s.heap h'->KJ C J s s'
theorem qL.many{h h':Heap}(hP:∀a∈J,a≠C.P)(hc:∀a∈J,¬jq C h a)(k:∀b o,b∉J->h.get? b=some o->h'.get? b=some o):qL C h h':=fun x=>by
 obtain⟨ps,h1,h2,h3⟩:=x
 have h1':=k _ _ (fun hm=>hP _ hm rfl) h1
 show⟨⟨ps,h1',h2,fun pos cv e=> ?_⟩,fun c hc'=> ?_⟩
 .show dD (h3 pos cv e) ?_;rintro c o vs t rfl ho hd
  exact⟨c,o,vs,t,rfl,k _ _ (fun hm=>hc c hm ⟨ps,pos,h1,e⟩) ho,hd⟩
 .show qA hc' fun tf pos e1 e2=> ?_;clear hc'
  rw[h1'] at e1;cases e1
  exact .inl ⟨ps,pos,h1,e2⟩
theorem KJ.of{h':Heap}{tk:Nat}(ht:s.toks<=tk)(hP:∀a∈J,a≠C.P)(hc:∀a∈J,¬jq C s.heap a)(k:∀b o,b∉J->s.heap.get? b=some o->h'.get? b=some o):KJ C J s { s with heap:=h',toks:=tk }:=
 ⟨h',tk,rfl,ht,k,qL.many hP hc k⟩
theorem KW.many{h':Heap}{tk:Nat}(ht:s.toks<=tk)(hP:∀a∈J,a≠C.P)(hc:∀a∈J,¬jq C s.heap a)(k:∀b o,b∉J->s.heap.get? b=some o->h'.get? b=some o)(ho:∀a∈J,∃o,h'.get? a=some o):KW C (·∈J) s { s with heap:=h',toks:=tk }:=
 ⟨h',tk,rfl,ht,fun b o _ hz e=>k b o hz e,fun b _ ⟨o,e⟩=>by
  by_cases hb:b∈J
  .exact ho b hb
  .exact⟨o,k b o hb e⟩,qL.many hP hc k⟩
theorem KW.lastJ(x:KW C Z s s1)(hJ:∀b∈J,s.heap.get? b=none)(y:KJ C J s1 s2)(h:∀b,Z b->Z' b\/b∈J):KW C Z' s s2:=by
 have x':=x
 obtain⟨h1,t1,rfl,l1,k1,e1,b1⟩:=x
 obtain⟨h2,t2,rfl,l2,k2,b2⟩:=y
 have ne:∀b o,s.heap.get? b=some o->b∉J:=fun b o e hm=>by rw[hJ b hm] at e;exact zn e
 show⟨h2,t2,rfl,x8 l1 l2,fun b o hb hz e=>k2 b o (ne b o e) (k1 b o hb (fun z=>(h b z).elim hz (ne b o e)) e),fun b hb ⟨o,ho⟩=> ?_,b1.trans b2 fun t b h=>x'.exs t h⟩
 obtain⟨o',ho'⟩:=e1 b hb ⟨o,ho⟩
 exact⟨o',k2 b o' (ne b o ho) ho'⟩
theorem KJ.refl(s:Shared):KJ C J s s:=⟨s.heap,s.toks,rfl,jNi _,fun _ _ _ e=>e,.keeps fun _ _ e=>e⟩
theorem KJ.heap(x:KJ C J s s'){b:Addr}{o:Obj}(hb:b∉J)(e:s.heap.get? b=some o):s'.heap.get? b=some o:=by
 obtain⟨h1,t1,rfl,l1,k1,b1⟩:=x
 exact k1 b o hb e
theorem KJ.tabTo(x:KJ C J s s'):qL C s.heap s'.heap:=by
 obtain⟨h1,t1,rfl,l1,k1,b1⟩:=x
 exact b1
theorem KJ.toks(x:KJ C J s s'):s.toks<=s'.toks:=by
 obtain⟨h1,t1,rfl,l1,k1,b1⟩:=x
 exact l1
theorem jg.kj{x:Str}{v:Value}(a:jg env s.heap x v)(hl:env.locals∉J)(hc:∀q∈env.cells,q.2∉J)(y:KJ C J s s'):jg env s'.heap x v:=by
 rcases a with ⟨hk,m,hn,hm⟩|⟨hk,c,xc,hv⟩
 .exact .inl ⟨hk,m,hn.at fun o e=>y.heap hl e,hm⟩
 .show jE (id hv) fun o ho hd=> ?_
  exact .inr ⟨hk,c,xc,o,y.heap (hc _ (mem_of_lookup xc)) ho,hd⟩
theorem Pre.lastJ{l:Loc}(p:Pre C n k A env Y' l s)(x:KJ C J s s')(jx:∀a∈Y,a∈Y')(hJ:∀a∈J,a∈Y'/\a∉Y)(hP:C.P∈Y)(hc:∀p∈env.cells,p.2∈Y)(hl:env.locals∉J):Pre C n k A env Y l s':=by
 have ci:∀p∈env.cells,p.2∉J:=fun q hq hm=>(hJ _ hm).2 (hc q hq)
 have t:=p.gr.tab
 have tt:=x.tabTo t
 show⟨p.bs,p.a,p.eo,⟨fun b o e=>x.heap (fun hm=>by rw[p.hY b (hJ b hm).1] at e;exact zn e) (p.gr.keep b o e),tt.1,fun e=>jNc (p.gr.toks e) x.toks⟩,hP,fun a ha=>p.hY a (jx a ha),fun a ha=> ?_,?_,hc,?_⟩
 .obtain⟨o,ho⟩:=p.hYs a (jx a ha)
  exact⟨o,x.heap (fun hm=>(hJ a hm).2 ha) ho⟩
 .obtain⟨⟨m,hn⟩,xc,ha⟩:=p.fm
  show⟨⟨m,hn.at fun o e=>x.heap hl e⟩,fun q hq=> ?_,ha⟩
  obtain⟨v,hv⟩:=xc q hq
  show jE (id hv) fun o ho hd=> ?_
  exact dA v o (x.heap (ci q hq) ho) hd
 .intro y d hy
  show jE (p.loc y d hy) fun v a rv=> ?_
  show⟨v,a.kj hl ci x,_m.R.mono (fun a o e=> ?_) rv⟩
  obtain⟨e,nn⟩:=jG e
  exact jT (x.heap (fun hm=>nn (hJ a hm).1) e) fun hm=>nn (jx a hm)
theorem qM.lastJ{vs:List Value}{ds:List D}(x:KJ C J s s')(jx:∀a∈Y,a∈Y')(hJ:∀a∈J,a∈Y')(h:qM C s.heap Y' vs ds):qM C s'.heap Y vs ds:=
 Rs.mono (fun a o e=>by
  obtain⟨e,nn⟩:=jG e
  exact jT (x.heap (fun hm=>nn (hJ a hm)) e) fun hm=>nn (jx a hm)) h
theorem FS.lastJ(fs:FS C n k A env (J++Y) OL l s)(x:KJ C J s s')(hJ:∀a∈J,a∉Y)(hP:C.P∈Y)(hc:∀p∈env.cells,p.2∈Y)(wY:∀a∈jB env,a∈Y):FS C n k A env Y OL l s':=by
 have jx:∀a∈qQ OL++Y,a∈qQ OL++(J++Y):=fun a ha=>by
  rcases jj.mp ha with h|h
  .exact xP _ h
  .exact ju _ (ju _ h)
 have hJO:∀p∈OL,p.2∉J:=fun p hp hm=>fs.nY p hp (xP _ hm)
 have hJ':∀a∈J,a∈qQ OL++(J++Y)/\a∉qQ OL++Y:=fun a ha=>⟨ju _ (xP _ ha),fun hm=>by
  rcases jj.mp hm with h|h
  .show lE h ?_;rintro p hp rfl
   exact hJO p hp ha
  .exact hJ a ha h⟩
 have hl:env.locals∉J:=fun hm=>hJ _ hm (wY _ jy)
 have tt:=x.tabTo fs.pre.gr.tab
 have hWJ:∀a∈qQ OL++jB env,a∉J:=fun a ha hm=>by
  rcases jj.mp ha with h|h
  .show lE h ?_;rintro p hp rfl
   exact hJO p hp hm
  .exact hJ a hm (wY a h)
 show⟨fs.pre.lastJ x jx hJ' (ju _ hP) (fun p hp=>ju _ (hc p hp)) hl,hP,hc,⟨fs.own.ne,fun a ha hc=> ?_,fun a ha=> ?_⟩,wY,fun p hp hm=>fs.nY p hp (ju _ hm),fs.ap,fs.cw,fun y ds hy=> ?_⟩
 .rcases tt.2 a hc with h|h
  .exact fs.own.code a ha h
  .obtain⟨o,e⟩:=fs.own.ex a ha
   rw[h] at e;exact zn e
 .obtain⟨o,e⟩:=fs.own.ex a ha
  exact⟨o,x.heap (hWJ a ha) e⟩
 .show yy (fs.lst y ds hy) fun a vs m h1 h2 h3 h4=> ?_
  exact vO a vs m h1 (h2.kj hl (fun q hq hm=>hJ _ hm (hc q hq)) x) (x.heap (hJO _ h1) h3) (qM.lastJ x jx (fun a ha=>(hJ' a ha).1) h4)
structure SrcR(C:Cx)(A:Around)(t:Expr)(Y:List Addr)(I:Addr)(J:List Addr)(ds:List D)(h:Heap):Prop where
 go:∃(fp:List Addr) (m i:Nat) (St:Nat->Heap->Prop) (PV:Nat->Value->Heap->Nat->Prop),
  (∀i h h',St i h->(∀b∈fp,∀o,h.get? b=some o->h'.get? b=some o)->St i h')/\
  (∀i (s:Shared) (Q:qN),i<m->St i s.heap->(∀v h' tk,s.toks<=tk->(∀b o,b∉J->s.heap.get? b=some o->h'.get? b=some o)->St (i+1) h'->PV i v h' s.heap.objs.size->(∀b∈J,∃o,h'.get? b=some o)->Q v { s with heap:=h',toks:=tk })->
   wpAny C.M A (pyNext (.ref I)) (fun r s1=>∃v,r=some v/\wpAny C.M A (letOwnedTupleGo t (.ref I) v) (fun _ s2=>Q v s2) NE s1) NE s)/\
  (∀(s:Shared) (Q:Option Value->Shared->Prop),St m s.heap->(∀h' tk,s.toks<=tk->(∀b o,b∉J->s.heap.get? b=some o->h'.get? b=some o)->Q none { s with heap:=h',toks:=tk })->wpAny C.M A (pyNext (.ref I)) Q NE s)/\
  St i h/\i+ds.length=m/\(∀b∈fp,b∈J\/b∉Y)/\(∀b∈fp,∃o,h.get? b=some o)/\
  (∀j v h' B (nW:List Addr),PV (i+j) v h' B->(∀b∈nW,b<B)->(∀a o,view h Y a=some o->view h' nW a=some o)->∀d,ds[j]? =some d->RD C h' nW v d)
theorem SrcR.next{t:Expr}{I:Addr}{d:D}{ds:List D}{Q:qN}(pA:∀b∈J,b∈Y)(hYs:∀b∈Y,∃o,s.heap.get? b=some o)(x:SrcR C A t Y I J (d::ds) s.heap)
  (q:∀v h' tk,s.toks<=tk->(∀b o,b∉J->s.heap.get? b=some o->h'.get? b=some o)->(∀b∈J,∃o,h'.get? b=some o)->SrcR C A t Y I J ds h'->RD C h' Y v d->Q v { s with heap:=h',toks:=tk }):
  wpAny C.M A (pyNext (.ref I)) (fun r s1=>∃v,r=some v/\wpAny C.M A (letOwnedTupleGo t (.ref I) v) (fun _ s2=>Q v s2) NE s1) NE s:=by
 obtain⟨fp,m,i,St,PV,g1,g2,g3,g4,g5,g6,g7,g8⟩:=x.go
 simp only[List.length_cons] at g5
 show g2 i s _ (by lia) g4 fun v h' tk ht hk xR lC hj=> ?_
 have hv:∀a o,view s.heap Y a=some o->view h' Y a=some o:=z7 fun b o hb e=>hk b o (fun hm=>hb (pA b hm)) e
 show q v h' tk ht hk hj ⟨fp,m,i+1,St,PV,g1,g2,g3,xR,by lia,g6,fun b hb=> ?_,fun j u pQ B nW hu hB du d' yL=> ?_⟩ (g8 0 v h' _ Y lC (fun b hb=>let ⟨o,e⟩:=hYs b hb;jM1 e) hv d rfl)
 .by_cases hm:b∈J
  .exact hj b hm
  .obtain⟨o,e⟩:=g7 b hb
   exact⟨o,hk b o hm e⟩
 .exact g8 (j+1) u pQ B nW (by rw[show i+(j+1)=i+1+j by simp+arith only];exact hu) hB (fun a o e=>du a o (hv a o e)) d' (by exact yL)
theorem SrcR.done{t:Expr}{I:Addr}{Q:Option Value->Shared->Prop}(x:SrcR C A t Y I J [] s.heap)(q:∀h' tk,s.toks<=tk->(∀b o,b∉J->s.heap.get? b=some o->h'.get? b=some o)->Q none { s with heap:=h',toks:=tk }):wpAny C.M A (pyNext (.ref I)) Q NE s:=by
 obtain⟨fp,m,i,St,PV,g1,g2,g3,g4,g5,g6,g7,g8⟩:=x.go
 have:i=m:=by exact g5
 subst this
 exact g3 s Q g4 q
theorem SrcR.more{t:Expr}{I:Addr}{ds:List D}{h h':Heap}{Zs:List Addr}(x:SrcR C A t Y I J ds h)(hZ:∀b∈Zs,h.get? b=none)(lO:∀b∈Y',b∈Zs\/b∈Y)(vM:∀b o,(b∈J\/b∉Y)->h.get? b=some o->h'.get? b=some o):SrcR C A t Y' I J ds h':=by
 obtain⟨fp,m,i,St,PV,g1,g2,g3,g4,g5,g6,g7,g8⟩:=x.go
 have nZ:∀b o,h.get? b=some o->b∉Zs:=fun b o e hm=>by rw[hZ b hm] at e;exact zn e
 show⟨fp,m,i,St,PV,g1,g2,g3,g1 i h h' g4 fun b hb o e=>vM b o (g6 b hb) e,g5,fun b hb=> ?_,fun b hb=> ?_,fun j v pQ B nW lC hB hv d hd=>g8 j v pQ B nW lC hB (fun a o e=>hv a o ?_) d hd⟩
 .rcases g6 b hb with h|h
  .exact .inl h
  .show .inr fun hm=> ?_
   rcases lO b hm with hm|hm
   .obtain⟨o,e⟩:=g7 b hb
    exact nZ b o e hm
   .exact h hm
 .obtain⟨o,e⟩:=g7 b hb
  exact⟨o,vM b o (g6 b hb) e⟩
 .obtain⟨e,nn⟩:=jG e
  show jT (vM a o (.inr nn) e) fun hm=> ?_
  rcases lO a hm with hm|hm
  .exact nZ a o e hm
  .exact nn hm
theorem SrcR.ofIt{t:Expr}{I:Addr}{ds:List D}{h:Heap}(hI:I∈Y)(x:gm C A Y I ds h):SrcR C A t Y I [I] ds h:=by
 obtain⟨fp,m,P,St,i,W,st,hl,vM,ho,hP⟩:=x
 show⟨fp,m,i,St,fun i v _ _=>P i v,W.frame,fun i s Q hi xR hq=> ?_,fun s Q xR hq=>yA (W.done s _ _ xR fun h' tk hk ht=>hq h' tk ht hk),st,hl,fun b hb=> ?_,vM.2,fun j v h' B nW lC hB hv d hd=>_m.R.mono hv (hP j v lC d hd)⟩
 .show yA (W.item i s _ _ hi xR fun v h' tk hv pZ hk ht=>⟨v,rfl,jA5 (ho _ _ pZ) ?_⟩)
  show hq v h' tk ht hk pZ hv fun b hb=> ?_
  rw[jw.mp hb]
  show jE (ho _ _ pZ) fun o e _=> ?_
  exact⟨o,e⟩
 .rcases vM.1 b hb with e|e
  .exact .inl (by simp[e])
  .exact .inr e
theorem jD7{t:Expr}(h:oR env.scope t=true):∀x∈xj t,env.kindOf x=some .local\/env.kindOf x=some .cell:=jCy h
theorem jDv{t:Expr}{v:Value}{d:D}{Q:Unit->Shared->Prop}(fs:FS C n k A env Y OL l s)(hT:oR env.scope t=true)(hv:RD C s.heap (qQ OL++Y) v d)(hb:gB l t d=some l')
  (q:∀s',KW C (ZO OL env) s s'->FS C n k A env Y OL l' s'->Q () s'):wpAny C.M A (assign t env v) Q NE s:=by
 show kE (P:=fun t ns=>(∀x∈ns,env.kindOf x=some .local\/env.kindOf x=some .cell)->sa ns none (fun x=>some (jA l x (.val d))) (fun x y=>om d fun a b=>some (jA (jA l x (.val a)) y (.val b)))=some l'->wpAny C.M A (assign t env v) Q NE s) (fun _ _ h=>nn h) (fun x p0 hk h=> ?_) (fun x p0 y q0 c0 z0 hk h=> ?_) (jD7 hT) hb
 .rw[<-jX (show some (jA l x (.val d))=some l' from h)] at q
  exact jNt (fs.assign (hk x yS) hv q)
 .show qA (uf (show (om d fun a b=>some (jA (jA l x (.val a)) y (.val b)))=some l' from h)) ?_;rintro a b rfl g
  rw[<-jX g] at q
  have h1:=hk x yS
  have h3:=hk y uR
  show ja hv.tup_inv ?_;rintro t vs m rfl ho rs
  show yz (Rs.un2 rs) ?_;rintro u1 u2 rfl r1 r2
  show jSb fs.pre.a.handled (jl ho) rfl rfl fun h' hk=> ?_
  have kp:KP C s { s with heap:=h' }:=KP.of nL fun b o e=>hk b o (fun e'=>jNp _ (e'▸jM1 e)) e
  have cX:=fs.kp kp
  have r1:=RD.kp kp fs.pre.hP r1
  have r2:=RD.kp kp fs.pre.hP r2
  have hZ:∀b,ZO OL env b->b∈qQ OL++Y:=fun b hb=>ZO.sub fs.wY hb
  show jO2 (jNt (cX.assign h1 r1 fun s1 gj qF=> ?_))
  show jO2 (jNt (qF.assign h3 (RD.kw gj fs.pre.hP hZ r2) fun s2 vR xd=> ?_))
  exact jSf (q s2 ((KP.kw kp).trans (gj.trans vR)) xd)
def dJ(C:Cx)(J:List Addr)(OL:yR)(env:Env)(s s2:Shared):Prop:=∃s1,KW C (fun b=>b∈J\/ZO OL env b) s s1/\KJ C J s1 s2
inductive bH (C:Cx) (n:Nat) (r:Ev) (k:Bool) (A:Around) (env:Env) (Y J:List Addr) (OL:yR) (s:Shared) (t:Expr) (body:List Stmt) (f:Fl) (l1:jN) (I:Addr) (m:Nat) (s1:Shared):Prop
 |mk:∀yw l' N,yw.length=m->forL r k env.scope t body l' yw=some (f,l1)->(∀p∈N,s.heap.get? p.2=none)->FS C n k A env (J++Y) (N++OL) l' s1->SrcR C A t (qQ (N++OL)++(J++Y)) I J yw s1.heap->(KW C (fun b=>b∈J\/ZO OL env b) s s1)->bH C n r k A env Y J OL s t body f l1 I m s1
theorem jCk(S:gL C n r){t:Expr}{body orelse:List Stmt}{its:List D}{f:Fl}{l1:jN}{I:Addr}{R:Result->Shared->Prop}(hT:oR env.scope t=true)(h:forL r k env.scope t body l its=some (f,l1))
  (fs:FS C n k A env (J++Y) OL l s) (src:SrcR C A t (qQ OL++(J++Y)) I J its s.heap) (hJ:∀a∈J,a∉Y) (oJ:Own C J s.heap) (hP:C.P∈Y) (hc:∀p∈env.cells,p.2∈Y) (wY:∀a∈jB env,a∈Y)
  (qn:f= .next->∀s2 N,(∀p∈N,s.heap.get? p.2=none)->dJ C J OL env s s2->FS C n k A env Y (N++OL) l1 s2->wpAny C.M A (execs orelse env) (fun f s3=>R (.ok f) s3) (notedBy C.M A env fun e s'=>R (.error e) s') s2)
  (qb:f= .brk->∀s2 N,(∀p∈N,s.heap.get? p.2=none)->dJ C J OL env s s2->FS C n k A env Y (N++OL) l1 s2->R (.ok .next) s2)
  (qr:∀d,f= .ret d->∀v s2,dJ C J OL env s s2->RD C s2.heap Y v d->R (.ok (.ret v)) s2):
  codeAny C.M A (.forLoop t (.ref I) body orelse env) R s:=by
 show jR3 (bH C n r k A env Y J OL s t body f l1 I) ?_ its.length ⟨its,l,[],rfl,h,fun p hp=>(by cases hp),fs,src,KW.refl s⟩
 intro m s1 gO
 obtain⟨yw,l',N,hm,hf,hN,qF,uD,gj⟩:=gO
 have t0:=fs.pre.gr.tab
 have sb:Own C J s1.heap:=oJ.kw t0 gj
 have pA:∀b∈J,b∈qQ (N++OL)++(J++Y):=fun b hb=>ju _ (xP _ hb)
 have il:env.locals∉J:=fun hm=>hJ _ hm (wY _ jy)
 have hcJ:∀q∈env.cells,¬q.2∈J:=fun q hq hm=>hJ _ hm (hc q hq)
 have hoJ:∀(OL':yR) (l2:jN) (s2:Shared),FS C n k A env (J++Y) OL' l2 s2->∀b∈J,¬ZO OL' env b:=fun OL' l2 s2 xd b hb hz=>by
  rcases jj.mp hz with h|h
  .exact lE h fun p hp e=>xd.nY p hp (e▸xP _ hb)
  .exact hJ b hb (wY b h)
 have nE:∀{α:Type} {t:Sem α} {Q:α->Shared->Prop} {s:Shared},wpAny C.M A t Q NE s->wpAny C.M A t Q (notedBy C.M A env fun e s'=>R (.error e) s') s:=fun h=>ne h
 induction yw using cL with
 |nil=>
  obtain⟨hA,hB⟩:=Prod.mk.inj (jX hf)
  show nE (uD.done fun h' tk ht hk=> ?_)
  have kj:KJ C J s1 { s1 with heap:=h',toks:=tk }:=KJ.of ht sb.ne sb.code hk
  exact qn hA.symm _ N hN ⟨s1,gj,kj⟩ (by rw[<-hB];exact qF.lastJ kj hJ hP hc wY)
 |cons d ds=>
  show bE (show (gB l' t d).bind _=some (f,l1) from hf) fun l2 hb hf=> ?_
  show bE hf ?_;rintro ⟨f3,l3⟩ hs hf
  show nE (jNh (uD.next pA qF.pre.hYs (Q:=fun v s2=>wpAny C.M A (assign t env v) (fun _ s₂=>wpAny C.M A (execs body env) (fun ff s₃=>match ff with
      | .next| .cont=>∃m',m'<m/\bH C n r k A env Y J OL s t body f l1 I m' s₃
      | .brk=>R (.ok .next) s₃
      | .ret v=>R (.ok (.ret v)) s₃) (notedBy C.M A env fun e s'=>R (.error e) s') s₂) (notedBy C.M A env fun e s'=>R (.error e) s') s2) ?_) ?_ fun _ _ x=>x)
  .intro v h' tk ht hk lH pX hv
   have vR:KW C (·∈J) s1 { s1 with heap:=h',toks:=tk }:=KW.many ht sb.ne sb.code hk lH
   have xd:FS C n k A env (J++Y) (N++OL) l' { s1 with heap:=h',toks:=tk }:=by
    have hJl:¬env.locals∈J:=il
    show⟨qF.pre.kw vR pA hJl hcJ,qF.hP,qF.cY,qF.own.kw qF.pre.gr.tab vR,qF.wY,qF.nY,qF.ap,qF.cw,fun y dy hy=> ?_⟩
    show yy (qF.lst y dy hy) fun a vs m' h1 h2 h3 h4=> ?_
    have haJ:¬a∈J:=fun hm=>qF.nY _ h1 (xP _ hm)
    have fi:a≠C.P:=qF.own.ne a (xP _ (jMs (f:=(·.2)) h1))
    exact vO a vs m' h1 (h2.kw qF.pre.gr.tab vR hJl hcJ) (vR.heap fi haJ h3) (qM.kw vR qF.pre.hP pA h4)
   show nE (jDv xd hT hv hb fun s3 wZ yM=> ?_)
   have oy:KW C (fun b=>b∈J\/ZO OL env b) s s3:=gj.transNew ((vR.mono fun b hb=>jQt hb).trans (wZ.mono fun b hb=>jQs hb) (Z:=fun b=>b∈J\/ZO (N++OL) env b)) fun b hb=>by
    rcases hb with hb|hb
    .exact .inl (.inl hb)
    .rcases vU hN b hb with h|h
     .exact .inl (.inr h)
     .exact .inr h
   have pW:SrcR C A t (qQ (N++OL)++(J++Y)) I J ds s3.heap:=pX.more (Zs:=[]) (fun b hb=>by cases hb) (fun b hb=> .inr hb) fun b o hb e=>by
    show wZ.heap (fun e'=> ?_) (fun hz=> ?_) e
    .rcases hb with hb|hb
     .exact sb.ne b hb e'
     .exact hb (e'▸qF.pre.hP)
    .rcases hb with hb|hb
     .exact hoJ _ _ _ xd b hb hz
     .exact hb (ZO.sub xd.wY hz)
   show xa S.S body (N++OL) l2 l3 f3 s3 _ _ yM hs ?_
   have next:forL r k env.scope t body l3 ds=some (f,l1)->qS C n k A env (J++Y) (N++OL) l3 s3 (fun s4=>∃m',m'<m/\bH C n r k A env Y J OL s t body f l1 I m' s4):=by
    intro hf s4 N2 tw zM zC
    have hN2s:∀p∈N2,s.heap.get? p.2=none:=fun p hp=>xM oy t0 (tw p hp)
    show⟨ds.length,by rw[<-hm];simp,ds,l3,N2++N,rfl,hf,fun p hp=> ?_,by rw[jNl];exact zC,?_,?_⟩
    .rcases jj.mp hp with hp|hp
     .exact hN2s p hp
     .exact hN p hp
    .show pW.more (Zs:=qQ N2) (fun b hb=> ?_) (fun b hb=> ?_) fun b o hb e=> ?_
     .exact lE hb fun p hp e=>e▸tw p hp
     .simp only[qQ,List.map_append,List.mem_append] at hb ⊢
      rcases hb with ((hb|hb)|hb)|hb
      .exact .inl hb
      .exact .inr (.inl (.inl hb))
      .exact .inr (.inl (.inr hb))
      .exact .inr (.inr hb)
     .show zM.heap (fun e'=> ?_) (fun hz=> ?_) e
      .rcases hb with hb|hb
       .exact sb.ne b hb e'
       .exact hb (e'▸qF.pre.hP)
      .rcases hb with hb|hb
       .exact hoJ _ _ _ yM b hb hz
       .exact hb (ZO.sub yM.wY hz)
    .exact oy.transNew (zM.mono fun b hb=>hb) fun b hb=>by
      rcases vU hN b hb with h|h
      .exact .inl (.inr h)
      .exact .inr h
   have kw4f:∀s4,KW C (ZO (N++OL) env) s3 s4->KW C (fun b=>b∈J\/ZO OL env b) s s4:=fun s4 zM=>oy.transNew zM fun b hb=>by
    rcases vU hN b hb with h|h
    .exact .inl (.inr h)
    .exact .inr h
   induction f3 using cF with
   |next=>exact next hf
   |brk=>
    obtain⟨hA,hB⟩:=Prod.mk.inj (jX hf)
    intro s4 N2 tw zM zC
    show qb hA.symm s4 (N2++N) (fun p hp=> ?_) ⟨s4,kw4f s4 zM,KJ.refl s4⟩ (by rw[jNl,<-hB];exact zC.lastJ (KJ.refl s4) hJ hP hc wY)
    rcases jj.mp hp with hp|hp
    .exact xM oy t0 (tw p hp)
    .exact hN p hp
   |ret d'=>
    intro v s4 zM rd
    exact qr d' (Prod.mk.inj (jX hf)).1.symm v s4 ⟨s4,kw4f s4 zM,KJ.refl s4⟩ (_m.R.mono (j9 fun a ha=>ju _ ha) rd)
   |exc c d'=>exact zn hf
  .intro rr s2 gO
   show jE gO ?_;clear gO;rintro v rfl hh
   exact ne hh
theorem IsTupleIter.at{h h':Heap}{a t i}(x:h.IsTupleIter a t i)(e:∀o,h.get? a=some o->h'.get? a=some o):h'.IsTupleIter a t i:=let ⟨o,ho,r⟩:=x;⟨o,e _ ho,r⟩
variable{prog:Program}{w:World}{E:qN}
theorem jKb{M:Model}{c:Value}{Q:Bool->Shared->Prop}(h:∀b,Q b s):wpAny M A (Builtin.SmallTypes.calledThroughType c) Q E s:=
 jMq (wpAny_stack_any fun _=>jMr (h _))
set_option tactic.hygienic true in
theorem jFj(l:Addr)(items:Array Value)(n:Nat):
  Meets (Builtin.«enumerate.__new__» ⟨[.type "enumerate",.ref l],[]⟩) (fun _ R s=>s.heap.get? l=some { cls:= .type "tuple",dict:=none,data:= .seq items n,slots:= #[] }/\
   R (.ok (.ret (.ref (s.heap.push { cls:= .type "tuple_iterator",data:= .fields #[.ref l,.int 0 0] }).objs.size)))
     { s with heap:=(s.heap.push { cls:= .type "tuple_iterator",data:= .fields #[.ref l,.int 0 0] }).push { cls:= .type "enumerate",data:= .fields #[.none,.bool false,.ref s.heap.objs.size,rawInt 0,.none,.none] } }):=
 .of_wp fun prog w A R s h=>by
  obtain⟨hp,g,d,tk,os⟩:=s;obtain⟨hl,h⟩:=h
  have jx:=sub_enumerate
  have hL:Heap.IsTuple (Shared.heap ⟨hp,g,d,tk,os⟩) l items:=⟨_,hl,rfl,n,rfl⟩
  wp_walk using jQl hl,jKb
  intro b
  cases b
  .wp_walk using jQl hl,jSa hL
   exact⟨_,rfl,h⟩
  .wp_walk using jQl hl,jSa hL
   exact⟨_,rfl,h⟩
theorem jG3{l:Addr}{vs:List Value}{Q:qN}(hl:s.heap.get? l=some (xo vs n))
  (h:∀h',IsEnum h' (s.heap.objs.size+1) s.heap.objs.size 0 .none->h'.IsTupleIter s.heap.objs.size l 0->h'.objs.size=s.heap.objs.size+2->
   (∀b o,s.heap.get? b=some o->h'.get? b=some o)->Q (.ref (s.heap.objs.size+1)) { s with heap:=h' }):
  wpAny (model prog w) A (call (.type "enumerate") [.ref l]) Q E s:=by
 show callType_new F.called_enumerate kD (F.typeCall_enumerate_1 _) (F.newCall_enumerate_1 _) (fun obj=>F.args_object_init_2 obj _) F.entry_enumerate_new
  (jFj l vs.toArray n) ⟨hl,?_⟩
 have hz:(s.heap.push { cls:= .type "tuple_iterator",data:= .fields #[.ref l,.int 0 0] }).objs.size=s.heap.objs.size+1:=jOr ..
 show(?_:_/\_)
 rw[hz]
 have he:IsEnum ((s.heap.push { cls:= .type "tuple_iterator",data:= .fields #[.ref l,.int 0 0] }).push
   { cls:= .type "enumerate",data:= .fields #[.none,.bool false,.ref s.heap.objs.size,rawInt 0,.none,.none] }) (s.heap.objs.size+1) s.heap.objs.size 0 .none:=by
  have:=jMw (s.heap.push { cls:= .type "tuple_iterator",data:= .fields #[.ref l,.int 0 0] })
   (o:={ cls:= .type "enumerate",data:= .fields #[.none,.bool false,.ref s.heap.objs.size,rawInt 0,.none,.none] }) rfl
  rw[hz] at this;exact this
 show⟨⟨_,he,rfl⟩,h _ he ⟨_,vK _ (jMw _ rfl),rfl,rfl⟩ (by rw[jOr,hz]) fun b o x=>vK _ (vK _ x)⟩
theorem jBf{it l:Addr}{i:Nat}{items}{x:Value}{Q:qN}(hit:s.heap.IsTupleIter it l i)
  (hl:s.heap.IsTuple l items) (hx:items[i]? =some x)
  (hQ:∀h',h'.IsTupleIter it l (i+1)->Heap.SameBut it s.heap h'->Q x { s with heap:=h' }):
  wpAny (model prog w) A (Builtin.SmallTypes.nextOf (.ref it)) Q E s:=by
 show qk (id hit) fun o ho hc hd=> ?_
 obtain⟨ol,nK,_,nl,nR⟩:=hl
 unfold Builtin.SmallTypes.nextOf
 show jMq (jOc (name:=Str.ofString "__next__") hit.typeIs jPp
  (jN4 jPp hit.typeIs F.entry_tuple_iterator_next ?_ (F.args_tuple_iterator_next_1 _)))
 show(?_:wpAny _ _ (field (.ref it) 0 >>=_) _ _ s)
 show jMq (jN7 ho hd (x:= .ref l) rfl ?_)
 show(?_:wpAny _ _ (if (Value.ref l==Value.none)=true then _ else _) _ _ s)
 rw[jMv (show¬((Value.ref l==Value.none)=true) from jMy)]
 show(?_:wpAny _ _ (field (.ref it) 1 >>=_) _ _ s)
 show jMq (jN7 ho hd (x:= .int i 0) rfl ?_)
 show(?_:wpAny _ _ (seqItems? (.ref l) >>=_) _ _ s)
 show jMq (jP4 nK nR ?_)
 simp only[Int.toNat_natCast,hx]
 show jMq (jO1 ho hd (by simp) (jMr ⟨x,rfl,jMr (hQ _ ?_ (jN6 ..))⟩))
 exact wy _ (jOm _ ho (jO5 (jNx hd _))) ((jQ3 ..).trans hc) (by
  rw[jNx hd];simp[rawInt])
theorem jB5{it l:Addr}{i:Nat}{items}{Q:qN}(hh:A.handled=none)
  (hit:s.heap.IsTupleIter it l i) (hl:s.heap.IsTuple l items) (hx:items[i]? =none)
  (hE:∀h' e,Heap.ExtBut it s.heap h'->(∃o,h'.get? e=some o/\o.cls= .type "StopIteration")->E (.ref e) { s with heap:=h' }):
  wpAny (model prog w) A (Builtin.SmallTypes.nextOf (.ref it)) Q E s:=by
 show qk (id hit) fun o ho hc hd=> ?_
 obtain⟨ol,nK,_,nl,nR⟩:=hl
 unfold Builtin.SmallTypes.nextOf
 show jMq (jOc (name:=Str.ofString "__next__") hit.typeIs jPp
  (jN4 jPp hit.typeIs F.entry_tuple_iterator_next ?_ (F.args_tuple_iterator_next_1 _)))
 show(?_:wpAny _ _ (field (.ref it) 0 >>=_) _ _ s)
 show jMq (jN7 ho hd (x:= .ref l) rfl ?_)
 show(?_:wpAny _ _ (if (Value.ref l==Value.none)=true then _ else _) _ _ s)
 rw[jMv (show¬((Value.ref l==Value.none)=true) from jMy)]
 show(?_:wpAny _ _ (field (.ref it) 1 >>=_) _ _ s)
 show jMq (jN7 ho hd (x:= .int i 0) rfl ?_)
 show(?_:wpAny _ _ (seqItems? (.ref l) >>=_) _ _ s)
 show jMq (jP4 nK nR ?_)
 simp only[Int.toNat_natCast,hx]
 show jMq (jR9 (jMq (jO1 ho hd (by simp) ?_)))
 show(?_:wpAny _ _ (newExc (.type "StopIteration") [] >>=_) _ _ _)
 show jMq ?_
 simp only[newExc,newTuple]
 show jMq (jO8 ?_ (by size_fits))
 show jMq (m:=firstArgMember _ _) (jQ2 (a:=Value.none) (by first|rfl|(simp only[firstArgMember];rfl)) ?_)
 show jO8 ?_ (by size_fits)
 unfold raiseNew
 show jMq (wpAny_handled ?_)
 first|rw[show A.in1.handled=none from hh]|rw[hh]
 show jMq (jMr (wpAny_throw ?_))
 exact hE _ _ (((jN6 ..).extBut.push _).push _) ⟨_,jMw _ rfl,rfl⟩
theorem jGv{e it l:Addr}{i:Nat}{items:Array Value}{x old:Value}{Q:qN}
  (he:IsEnum s.heap e it i old) (hit:s.heap.IsTupleIter it l i) (hl:s.heap.IsTuple l items) (hx:items[i]? =some x) (je:e≠it)
  (hQ:∀h',IsEnumOut h' e it ((i:Int)+1) x s.heap.objs.size->h'.IsTupleIter it l (i+1)->
   h'.get? s.heap.objs.size=some { cls:= .type "tuple",data:= .seq #[.int i s.toks,x] }->h'.objs.size=s.heap.objs.size+1->
   (∀b o,b≠e->b≠it->s.heap.get? b=some o->h'.get? b=some o)->Q (.ref s.heap.objs.size) { s with heap:=h',toks:=s.toks+1 }):
  wpAny (model prog w) A (Builtin.«enumerate.__next__» ⟨[.ref e],[]⟩) (fun fin s'=>∃v,fin= .done (.ret v)/\Q v s') E s:=by
 obtain⟨hp,g,d,tk,os⟩:=s
 show(?_:wpAny _ _ (field (.ref e) 2 >>=_) _ _ _)
 show jMq (jN7 he rfl (x:= .ref it) rfl ?_)
 show jMq (jBf hit hl hx fun h₁ hit₁ hs₁=> ?_)
 replace hs₁:Heap.SameBut it hp h₁:=hs₁
 have he₁:IsEnum h₁ e it i old:=(hs₁.2 e je).trans he
 show(?_:wpAny _ _ (field (.ref e) 3 >>=_) _ _ ⟨h₁,g,d,tk,os⟩)
 show jMq (jN7 he₁ rfl (x:=rawInt i) rfl ?_)
 show(?_:wpAny _ _ (field (.ref e) 4 >>=_) _ _ ⟨h₁,g,d,tk,os⟩)
 show jMq (jN7 he₁ rfl (x:= .none) rfl ?_)
 show(?_:wpAny _ _ (mkInt i >>=_) _ _ ⟨h₁,g,d,tk,os⟩)
 show jMq (wpAny_mkInt ?_)
 show(?_:wpAny _ _ (setField (.ref e) 3 (rawInt ((i:Int)+1)) >>=_) _ _ ⟨h₁,g,d,tk+1,os⟩)
 show jMq (jP1 he₁ (by simp) fun h₂ he₂ hs₂=> ?_)
 replace hs₂:Heap.SameBut e h₁ h₂:=hs₂
 replace he₂:IsEnum h₂ e it ((i:Int)+1) old:=he₂
 show(?_:wpAny _ _ (setField (.ref e) 4 .none >>=_) _ _ ⟨h₂,g,d,tk+1,os⟩)
 show jMq (jP1 he₂ (by simp) fun h₃ he₃ hs₃=> ?_)
 replace hs₃:Heap.SameBut e h₂ h₃:=hs₃
 replace he₃:IsEnum h₃ e it ((i:Int)+1) old:=he₃
 show(?_:wpAny _ _ (newTuple [.int i tk,x] >>=_) _ _ ⟨h₃,g,d,tk+1,os⟩)
 show jMq (wpAny_newTuple ?_)
 have he₄:IsEnum (h₃.push { cls:= .type "tuple",data:= .seq #[.int i tk,x] }) e it ((i:Int)+1) old:=vK _ he₃
 generalize hh₄:h₃.push { cls:= .type "tuple",data:= .seq #[.int i tk,x] }=h₄ at he₄
 have ku:h₃.objs.size=hp.objs.size:=by rw[hs₃.1,hs₂.1,hs₁.1]
 have gN:e<hp.objs.size:=jM1 he
 have ht₄:h₄.get? hp.objs.size=some { cls:= .type "tuple",data:= .seq #[.int i tk,x] }:=by rw[<-hh₄,<-ku];exact jMw _ rfl
 have hz₄:h₄.objs.size=hp.objs.size+1:=by rw[<-hh₄,jOr,ku]
 have hk₄:∀b o,b≠e->b≠it->hp.get? b=some o->h₄.get? b=some o:=fun b o tU hG hb=>by
  rw[<-hh₄];exact vK _ (hs₃.extBut b o tU (hs₂.extBut b o tU (hs₁.extBut b o hG hb)))
 have hit₄:h₄.IsTupleIter it l (i+1):=by
  rw[<-hh₄];show jE ((hit₁.extBut hs₂.extBut (Ne.symm je)).extBut hs₃.extBut (Ne.symm je)) fun o ho r=> ?_;exact⟨o,vK _ ho,r⟩
 show(?_:wpAny _ _ (Builtin.SmallTypes.ownedTupleIsFree (.ref e) >>=_) _ _ ⟨h₄,g,d,tk+1,os⟩)
 rw[ku]
 clear hh₄ he₃ hs₃ he₂ hs₂ he₁ hs₁ hit₁ ku h₃ h₂ h₁
 show jMq ?_
 .unfold Builtin.SmallTypes.ownedTupleIsFree
  show jMq (jN7 he₄ rfl (x:= .none) rfl (jMr ?_))
  simp only[if_true]
  show jMq (jR9 ?_)
  show jMq (jN7 he₄ rfl (x:=old) rfl ?_)
  show jMq (jP1 he₄ (by simp) fun h₅ he₅ hs₅=> ?_)
  replace hs₅:Heap.SameBut e h₄ h₅:=hs₅
  replace he₅:IsEnum h₅ e it ((i:Int)+1) x:=he₅
  show(?_:wpAny _ _ (Builtin.SmallTypes.ownedTupleHandOut (.ref e) (.ref hp.objs.size) >>=_) _ _ ⟨h₅,g,d,tk+1,os⟩)
  show jMq ?_
  .unfold Builtin.SmallTypes.ownedTupleHandOut
   show jMq (jP1 he₅ (by simp) fun h₆ he₆ hs₆=> ?_)
   replace hs₆:Heap.SameBut e h₅ h₆:=hs₆
   replace he₆:IsEnumOut h₆ e it ((i:Int)+1) x hp.objs.size:=he₆
   show jP1 he₆ (by simp) fun h₇ he₇ hs₇=> ?_
   replace hs₇:Heap.SameBut e h₆ h₇:=hs₇
   replace he₇:IsEnumOut h₇ e it ((i:Int)+1) x hp.objs.size:=he₇
   show jMq (wpAny_letGo (jMr ⟨_,rfl,hQ h₇ he₇ ?_ ?_ ?_ ?_⟩))
   .exact((hit₄.extBut hs₅.extBut (Ne.symm je)).extBut hs₆.extBut (Ne.symm je)).extBut hs₇.extBut (Ne.symm je)
   .exact hs₇.extBut _ _ (jPs gN) (hs₆.extBut _ _ (jPs gN) (hs₅.extBut _ _ (jPs gN) ht₄))
   .rw[hs₇.1,hs₆.1,hs₅.1,hz₄]
   .exact fun b o tU hG hb=>hs₇.extBut b o tU (hs₆.extBut b o tU (hs₅.extBut b o tU (hk₄ b o tU hG hb)))
theorem jAu{e it l:Addr}{i:Nat}{items:Array Value}{x old:Value}{Q:Option Value->Shared->Prop}
  (he:IsEnum s.heap e it i old) (hit:s.heap.IsTupleIter it l i) (hl:s.heap.IsTuple l items) (hx:items[i]? =some x) (je:e≠it)
  (hQ:∀h',IsEnumOut h' e it ((i:Int)+1) x s.heap.objs.size->h'.IsTupleIter it l (i+1)->
   h'.get? s.heap.objs.size=some { cls:= .type "tuple",data:= .seq #[.int i s.toks,x] }->h'.objs.size=s.heap.objs.size+1->
   (∀b o,b≠e->b≠it->s.heap.get? b=some o->h'.get? b=some o)->Q (some (.ref s.heap.objs.size)) { s with heap:=h',toks:=s.toks+1 }):
  wpAny (model prog w) A (pyNext (.ref e)) Q E s:=by
 have hT:s.TypeIs (.ref e) "enumerate":=⟨_,he,rfl⟩
 unfold pyNext
 exact jMq (jR6 (jOc (name:=Str.ofString "__next__") hT jQc
  (jN4 jQc hT F.entry_enumerate_next
   (jGv he hit hl hx je fun h' a b c d k=>jMr (hQ h' a b c d k)) (F.args_enumerate_next_1 _))))
theorem jAw{e it l:Addr}{i:Nat}{items:Array Value}{old:Value}{Q:Option Value->Shared->Prop}(hh:A.handled=none)
  (he:IsEnum s.heap e it i old) (hit:s.heap.IsTupleIter it l i) (hl:s.heap.IsTuple l items) (hx:items[i]? =none)
  (hQ:∀h',Heap.ExtBut it s.heap h'->Q none { s with heap:=h' }):wpAny (model prog w) A (pyNext (.ref e)) Q E s:=by
 have hT:s.TypeIs (.ref e) "enumerate":=⟨_,he,rfl⟩
 unfold pyNext
 show jMq (jR6 (jOc (name:=Str.ofString "__next__") hT jQc
  (jN4 jQc hT F.entry_enumerate_next ?_ (F.args_enumerate_next_1 _))))
 show(?_:wpAny _ _ (field (.ref e) 2 >>=_) _ _ _)
 show jMq (jN7 he rfl (x:= .ref it) rfl ?_)
 show jMq (jB5 hh hit hl hx fun h' x mq th=> ?_)
 show jE th fun o ho hc=> ?_;clear th
 show jMq (wpAny_isInstance (T:="StopIteration") (b:=true) ⟨o,ho,hc⟩ isSubtype_stop ?_)
 exact jMr (hQ _ mq)
theorem SrcR.enumT{ts:List Expr}{kd:Nat}{pos:Pos}{e it l:Addr}{vs:List Value}{ds:List D}{h:Heap}(hh:A.handled=none)(he:IsEnum h e it 0 .none)(hit:h.IsTupleIter it l 0)(hl:h.get? l=some (xo vs n))(iw:e≠it)(hle:l≠e)(hli:l≠it)(aC:l∉Y)(hr:qM C h Y vs ds):
  SrcR C A (.Tuple ts kd pos) Y e [e,it] (ds.mapIdx fun k d=>D.tup [.int k,d]) h:=by
 have hlen:=hr.length
 show qk (id hit) fun oi oT tm oD=> ?_
 show⟨[e,it,l],vs.length,0,fun i h=>(∃old,IsEnum h e it i old)/\h.IsTupleIter it l i/\h.get? l=some (xo vs n),
  fun i v h' B=>∃T t x,v= .ref T/\h'.get? T=some (xo [.int i t,x] 0)/\vs[i]? =some x/\B<=T,fun i h h' ⟨⟨old,h1⟩,h2,h3⟩ hk=>⟨⟨old,hk e yS _ h1⟩,IsTupleIter.at h2 fun o x=>hk it uR o x,hk l b8 _ h3⟩,?_,?_,
  ⟨⟨_,he⟩,hit,hl⟩,by simp[hlen],fun b hb=> ?_,fun b hb=> ?_,?_⟩
 .rintro i s Q hi ⟨⟨old,h1⟩,h2,h3⟩ hq
  have hx:vs.toArray[i]? =some (vs[i]'hi):=by simp[hi]
  have hL:s.heap.IsTuple l vs.toArray:=⟨_,h3,rfl,n,rfl⟩
  have helt:=jM1 h1
  have hilt:it<s.heap.objs.size:=by (show jE h2 fun o ho _=> ?_;clear h2);exact jM1 ho
  show jAu h1 h2 hL hx iw fun h' ho fz hT ku hk=>⟨_,rfl,wpAny_letOwnedTupleGo_enum ho fun pQ he'' fy=> ?_⟩
  replace fy:Heap.SameBut e h' pQ:=fy
  have ry:∀b o,b≠e->h'.get? b=some o->pQ.get? b=some o:=fun b o hb x=>by rw[fy.2 b hb];exact x
  show hq (.ref s.heap.objs.size) pQ (s.toks+1) (jM5 _) (fun b o hb x=>ry b o (fun e'=>hb (by simp[e'])) (hk b o (fun e'=>hb (by simp[e'])) (fun e'=>hb (by simp[e'])) x))
   ⟨⟨_,by exact he''⟩,IsTupleIter.at fz fun o x=>ry it o iw.symm x,ry l _ hle (hk l _ hle hli h3)⟩ ⟨s.heap.objs.size,s.toks,vs[i]'hi,rfl,ry _ _ (jPs helt) hT,by simp,jNi _⟩ fun b hb=> ?_
  simp at hb
  rcases hb with e0|rfl
  .rw[e0];exact⟨_,he''⟩
  .show jE fz fun o ho' _=> ?_;clear fz
   exact⟨o,ry _ _ iw.symm ho'⟩
 .rintro s Q ⟨⟨old,h1⟩,h2,h3⟩ hq
  have hL:s.heap.IsTuple l vs.toArray:=⟨_,h3,rfl,n,rfl⟩
  exact jAw hh h1 h2 hL (by simp) fun h' hx=>hq h' s.toks nL fun b o hb y=>hx b o (fun e'=>hb (by simp[e'])) y
 .simp at hb
  rcases hb with rfl|rfl|rfl
  .exact .inl yS
  .exact .inl uR
  .exact .inr aC
 .simp at hb
  rcases hb with rfl|rfl|rfl
  .exact⟨_,he⟩
  .exact⟨_,oT⟩
  .exact⟨_,hl⟩
 .rintro j v h' B nW ⟨T,t,x,rfl,hT,hx,hBT⟩ hB hv d hd
  rw[List.getElem?_mapIdx] at hd
  show mE hd ?_;rintro d' yL rfl
  show jE (hr.get yL) fun v' du rv=> ?_
  rw[jPr] at hx
  rw[hx] at du;replace du:=jX du;subst du
  rw[jPr] at hT
  show .tup (jT hT fun hm=> ?_) (.cons (.int _ t) (.cons (_m.R.mono hv rv) .nil))
  exact absurd hBT (jRm.mpr (hB T hm))
theorem Pre.moreL{l:Loc}(p:Pre C n k A env Y l s)(x:KP C s s')(hn:∀a∈J,s.heap.get? a=none)(hI:∀a∈J,∃o,s'.heap.get? a=some o)(h1:∀a∈Y',a∈J\/a∈Y)(h2:∀a∈Y,a∈Y'):Pre C n k A env Y' l s':=by
 have p1:Pre C n k A env Y l s':=p.kp x
 show⟨p.bs,p.a,p.eo,p1.gr,h2 _ p.hP,fun a ha=> ?_,fun a ha=> ?_,p1.fm,fun q hq=>h2 _ (p.hc q hq),fun y d e=> ?_⟩
 .rcases h1 a ha with ha|ha
  .exact none_of fun⟨o,ho⟩=>by have:=hn a ha;rw[p.gr.keep _ o ho] at this;cases this
  .exact p.hY a ha
 .rcases h1 a ha with ha|ha
  .exact hI a ha
  .exact p1.hYs a ha
 .show jE (p.loc y d e) fun v a rv=> ?_
  show⟨v,a.kp p.gr.tab x,_m.R.mono (fun a o e=> ?_) rv⟩
  obtain⟨e,nn⟩:=jG e
  show jT (x.heap (fun h=>nn (h▸p.hP)) e) fun hm=> ?_
  rcases h1 a hm with hm|hm
  .rw[hn a hm] at e;exact zn e
  .exact nn hm
theorem qM.moreL{vs:List Value}{ds:List D}(x:KP C s s')(hP:C.P∈Y)(hn:∀a∈J,s.heap.get? a=none)(h1:∀a∈Y',a∈J\/a∈Y)(h:qM C s.heap Y vs ds):qM C s'.heap Y' vs ds:=
 Rs.mono (fun a o e=>by
  obtain⟨e,nn⟩:=jG e
  show jT (x.heap (fun h=>nn (h▸hP)) e) fun hm=> ?_
  rcases h1 a hm with hm|hm
  .rw[hn a hm] at e;exact zn e
  .exact nn hm) h
theorem FS.moreJ(fs:FS C n k A env Y OL l s)(x:KP C s s')(hn:∀a∈J,s.heap.get? a=none)(hI:∀a∈J,∃o,s'.heap.get? a=some o):FS C n k A env (J++Y) OL l s':=by
 have h1:∀a∈qQ OL++(J++Y),a∈J\/a∈qQ OL++Y:=fun a ha=>by
  simp only[List.mem_append] at ha ⊢
  rcases ha with h|h|h
  .exact .inr (.inl h)
  .exact .inl h
  .exact .inr (.inr h)
 have h2:∀a∈qQ OL++Y,a∈qQ OL++(J++Y):=fun a ha=>by
  simp only[List.mem_append] at ha ⊢
  rcases ha with h|h
  .exact .inl h
  .exact .inr (.inr h)
 show⟨fs.pre.moreL x hn hI h1 h2,ju _ fs.hP,fun p hp=>ju _ (fs.cY p hp),fs.own.kw fs.pre.gr.tab (KP.kw x (Z:=fun _=>False)),fun a ha=>ju _ (fs.wY a ha),fun p hp hm=> ?_,fs.ap,fs.cw,fun y ds hy=> ?_⟩
 .rcases jj.mp hm with h|h
  .obtain⟨o,e⟩:=fs.own.ex p.2 (xP _ (jMs (f:=(·.2)) hp))
   rw[hn _ h] at e;exact zn e
  .exact fs.nY p hp h
 .show yy (fs.lst y ds hy) fun a vs m g1 g2 g3 g4=> ?_
  have fX:a≠C.P:=fs.own.ne a (xP _ (jMs (f:=(·.2)) g1))
  exact vO a vs m g1 (g2.kp fs.pre.gr.tab x) (x.heap fX g3) (qM.moreL x fs.pre.hP hn h1 g4)
theorem jE4(e:Expr)(x:Str)(p:Pos)(line:Nat):∃b,swapsWith e (some (.Name x p)) line env=pure b/\(b=true->uN e=true/\env.kindOf x=some .local):=by
 have main:∀sc pe,(uN e=true)->∃b,(do return env.blockKind== .function&&env.kindOf x==some .local&&p.line==pe&& !((sc:Scope).names.any fun(n,k)=>n==x&&(k== .local||k== .cell)):Sem Bool)=pure b/\(b=true->uN e=true/\env.kindOf x=some .local):=fun sc pe h=>⟨_,rfl,fun hb=>⟨h,jNs.mp (jM2.mp (jM2.mp (jM2.mp hb).1).1).2⟩⟩
 cases e <;> first|exact main _ _ rfl|exact⟨false,rfl,fun h=>zf h⟩
theorem jDo{e:Expr}(h:ze e=true)(x:Str)(p:Pos)(line:Nat):swapsWith e (some (.Name x p)) line env=pure false:=by
 cases e <;> first|rfl|exact zf h
theorem vA(r:Ev)(k:Bool)(n:Nat)(sc:Scope)(l:jN)(x:Str)(p pos:Pos)(e:Expr):vV r k n sc l (.Assign [.Name x p] e pos)=if oR sc (.Name x p)=false then none else (r.E k sc (j3 l) e).bind fun d=>
  if gZ.contains x=true then (if ze e=true then d.asList?.map fun ds=>(.next,jA l x (.own ds)) else none) else some (.next,jA l x (.val d)):=rfl
theorem ownB_is{b:B}{ds:List D}(h:ownB? b=some ds):b= .own ds:=by
 induction b using cB with
 |own es=>rw[jX h]
 |_=>exact nn h
theorem jDw(S:gL C n r){x:Str}{p pos:Pos}{e:Expr}{f:Fl}{Q:wc}(fs:FS C n k A env Y OL l s)(h:vV r k n env.scope l (.Assign [.Name x p] e pos)=some (f,l'))(q:y8 C n k A env Y OL f l' s Q E):
  wpAny C.M A (exec (.Assign [.Name x p] e pos) env) Q E s:=by
 rw[vA] at h
 revert h;show tg fun mn h=> ?_
 .have mn:oR env.scope (.Name x p)=true:=by simpa using mn
  have hk:=jD7 mn x (by simp[xj])
  show bE h fun d hd h=> ?_
  show ne ?_
  revert h;show yT (fun _ h=> ?_) fun _ h=> ?_
  .revert h;show vS fun uA h=> ?_
   ··show mE h fun ds vF h'=> ?_
     clear h
     obtain rfl:=wW vF
     cases h'
     show jOt (S.F k A env (qQ OL++Y) (j3 l) e ds s _ fs.pre uA hd fun a vs s1 kp hn ho hc hr=> ?_) (jDo uA x p _)
     show fs.assignOwn kp hk hn ho hc hr fun s2 kw xd=> ?_
     exact q s2 [(x,a)] (m1 hn) kw xd
  .obtain⟨hA,hB⟩:=Prod.mk.inj (jX h);clear h;subst hA;subst hB
   show jE (jE4 (env:=env) e x p pos.line) fun b hb hbt=> ?_
   induction b using cT with
   |false=>
    show jOt (S.E.at fs.pre hd fun v s1 kp p1 rv=> ?_) hb
    show(fs.kp kp).assign hk rv fun s2 kw xd=> ?_
    exact q s2 [] (fun p hp=>by cases hp) ((KP.kw kp).trans kw) xd
   |true=>
    obtain⟨hc,hl⟩:=hbt rfl
    rw[exec_Assign_Name_used _ _ _ _ hb]
    show jMq (jQf (jMq ?_))
    have own:Own C (jB env) s.heap:=fs.own.sub fun a ha=>ju _ ha
    have nJ:∀a∈jB env,a∈qQ OL++Y:=fun a ha=>ju _ (fs.wY a ha)
    show S.U k A env (qQ OL++Y) (jB env) (j3 l) e d x p s _ fs.pre hc own hl jy nJ hd fun s2 kw p2 cG=>jMr ?_
    have aY:KW C (ZO OL env) s s2:=kw.mono fun b hb=>ju _ hb
    show q s2 [] (fun p hp=>by cases hp) aY ⟨p2.weak fun y dy e=> ?_,fs.hP,fs.cY,fs.own.kw fs.pre.gr.tab kw,fs.wY,fs.nY,fs.ap,fs.cw,fun y ds hy=> ?_⟩
    .unfold j3 jA at e
     unfold jA
     by_cases h:y=x
     .subst h;simp at e;subst e;simp
     .rw[jMv h] at e ⊢;exact e
    .unfold jA at hy
     revert hy;show yT (fun _ hy=> ?_) fun je hy=> ?_
     .cases hy
     .show yy (fs.lst y ds hy) fun a vs m h1 h2 h3 h4=> ?_
      have hn:=fs.frame_notOwn h1
      have fX:a≠C.P:=fs.own.ne a (xP _ (jMs (f:=(·.2)) h1))
      exact vO a vs m h1 (cG y _ je h2) (kw.heap fX hn h3) (h4.kw kw fs.pre.hP nJ)
theorem jAb(h:env.scope.kind= .function):interactive env=false:=by
 unfold interactive;rw[h];rfl
theorem appOne(S:gL C n r){x:Str}{xp ap cp pos:Pos}{arg:Expr}{ds:List D}{d:D}{Q:wc}(fs:FS C n k A env Y OL l s)(wk:(ap.endLine==cp.line)=true)(xR:isStarred arg=false)(nH:(x==("__debug__":Str))=false)(bh:(x==("__classdict__":Str))=false)(hx:l x=some (.own ds))(hd:r.E k env.scope (j3 l) arg=some d)(hl:ds.length<=lim)(q:y8 C n k A env Y OL .next (jA l x (.own (ds++[d]))) s Q E):
  wpAny C.M A (exec (.Expr (.Call (.Attribute (.Name x xp) "append" ap) [arg] [] cp) pos) env) Q E s:=by
 show yy (fs.lst x ds hx) fun a vs mm h1 h2 h3 h4=> ?_
 show ne (wpAny_Expr (E:=NE) ?_ (jAb fs.pre.eo.kind))
 have fi:a≠C.P:=fs.own.ne a (xP _ (jMs (f:=(·.2)) h1))
 have jh:lim=1000000:=rfl
 have hz:sizeLine=16777216:=by decide
 have hlen:=h4.length
 show jBq fs.pre h2 h3 wk xR nH bh slot_list_append (by first|exact PySem.F.type_list_append|exact type_list_append) (S.E.at fs.pre hd fun v s1 kp p1 rv=> ?_)
 have g3:=kp.heap fi h3
 have g4:=qM.kp kp fs.pre.hP h4
 show jQ6 (items:=vs.toArray) ⟨mm,g3⟩ (fun h' hp hs=> ?_) (by simp;lia)
 obtain⟨m',hp⟩:=hp
 have e:(vs.toArray.push v)=(vs++[v]).toArray:=by simp
 rw[e] at hp
 obtain⟨kw,xd⟩:=(fs.kp kp).grow (us:=vs++[v]) (es:=ds++[d]) h1 (h2.kp fs.pre.gr.tab kp) hp (g4.append (.cons rv .nil)) hs s1.toks nL
 exact q _ [] (fun p hp=>by cases hp) ((KP.kw kp).trans kw) xd
theorem extOne(S:gL C n r){x:Str}{xp ap cp pos:Pos}{arg:Expr}{ds es:List D}{Q:wc}(fs:FS C n k A env Y OL l s)(wk:(ap.endLine==cp.line)=true)(xR:isStarred arg=false)(nH:(x==("__debug__":Str))=false)(bh:(x==("__classdict__":Str))=false)(hx:l x=some (.own ds))(hd:r.E k env.scope (j3 l) arg=some (.list es))(hl:ds.length+es.length<=lim)(q:y8 C n k A env Y OL .next (jA l x (.own (ds++es))) s Q E):
  wpAny C.M A (exec (.Expr (.Call (.Attribute (.Name x xp) "extend" ap) [arg] [] cp) pos) env) Q E s:=by
 show yy (fs.lst x ds hx) fun a vs mm h1 h2 h3 h4=> ?_
 show ne (wpAny_Expr (E:=NE) ?_ (jAb fs.pre.eo.kind))
 have fi:a≠C.P:=fs.own.ne a (xP _ (jMs (f:=(·.2)) h1))
 have jh:lim=1000000:=rfl
 have hz:sizeLine=16777216:=by decide
 have hlen:=h4.length
 show jBq fs.pre h2 h3 wk xR nH bh PySem.F.slot_list_extend PySem.F.type_list_extend (S.E.at fs.pre hd fun v s1 kp p1 rv=> ?_)
 have g3:=kp.heap fi h3
 have g4:=qM.kp kp fs.pre.hP h4
 show ja rv.list_inv ?_;rintro b ws mb rfl ho rs
 have hlen2:=rs.length
 show call_meets PySem.F.slot_list_extend ⟨_,g3,rfl⟩ PySem.F.entry_list_extend (PySem.F.args_list_extend_2 _ _) (PySem.AutoSeq1.list_extend_list_list_0 a vs.toArray mm b ws.toArray mb (by simp[Builtin.List.listTooLong];lia) (by simp;lia) (by simp;lia)) ⟨g3,(jG ho).1,?_⟩
 have oE:∃m',(s1.heap.update a (Obj.mapSeq fun x=>x++ws.toArray)).get? a=some (j4 (vs++ws) m'):=by
  have e:∃m',Obj.mapSeq (fun x=>x++ws.toArray) (j4 vs mm)=j4 (vs++ws) m':=by
   have e1:vs.toArray++ws.toArray=(vs++ws).toArray:=by simp
   exact⟨_,by rw[j4,Obj.mapSeq,j4,e1]⟩
  obtain⟨m',e⟩:=e
  show⟨m',?_⟩
  rw[jOm _ g3 (by rw[e];rfl),e]
 obtain⟨m',oE⟩:=oE
 obtain⟨kw,xd⟩:=(fs.kp kp).grow (us:=vs++ws) (es:=ds++es) h1 (h2.kp fs.pre.gr.tab kp) oE (g4.append rs) (jN6 ..) s1.toks nL
 exact q _ [] (fun p hp=>by cases hp) ((KP.kw kp).trans kw) xd
theorem jDy(S:gL C n r){x m:Str}{xp ap cp pos:Pos}{arg:Expr}{f:Fl}{Q:wc}(fs:FS C n k A env Y OL l s)(h:fJ r k env.scope l x m ap arg cp=some (f,l'))(q:y8 C n k A env Y OL f l' s Q E):
  wpAny C.M A (exec (.Expr (.Call (.Attribute (.Name x xp) m ap) [arg] [] cp) pos) env) Q E s:=by
 unfold fJ at h
 revert h;show yT (fun _ h=> ?_) fun hg h=> ?_
 .exact nn h
 .rw[jP2,jP2,jP2,jSo,jOf,jOf,jOf] at hg
  show bE h fun ds av h0=> ?_
  show bE av fun b0 hx hb0=> ?_
  show bE h0 fun d hd h1=> ?_
  rw[ownB_is hb0] at hx
  clear h h0 av hb0
  revert h1;show yT (fun hm h1=> ?_) fun _ h1=> ?_
  .revert h1;show yT (fun hl h1=> ?_) fun _ h1=> ?_
   .obtain⟨hA,hB⟩:=Prod.mk.inj (jX h1);clear h1;subst hA;subst hB
    subst hm
    exact appOne S fs hg.1 hg.2.1 hg.2.2.1 hg.2.2.2 hx hd hl q
   .exact nn h1
  .revert h1;show yT (fun hm h1=> ?_) fun _ h1=> ?_
   .show bE h1 fun es aE h2=> ?_
    rw[wW aE] at hd
    revert h2;show yT (fun hl h2=> ?_) fun _ h2=> ?_
    .obtain⟨hA,hB⟩:=Prod.mk.inj (jX h2);clear h2;subst hA;subst hB
     subst hm
     exact extOne S fs hg.1 hg.2.1 hg.2.2.1 hg.2.2.2 hx hd hl q
    .exact nn h2
   .exact nn h1
theorem jFe(S:gL C n r){c:Str}{np cp pos:Pos}{a:Expr}{f:Fl}{Q:wc}(fs:FS C n k A env Y OL l s)(h:rQ r k env.scope l (.Call (.Name c np) [a] [] cp)=some (f,l'))(q:y8 C n k A env Y OL f l' s Q E):
  wpAny C.M A (exec (.Raise (some (.Call (.Name c np) [a] [] cp)) none pos) env) Q E s:=by
 replace h:(if (c≠"error_reply"/\c≠"error_proto")\/env.scope.names.lookup c≠some .globalImplicit\/isStarred a=true then none else (r.E k env.scope (j3 l) a).map fun d=>(Fl.exc c d,l))=some (f,l'):=h
 revert h;show tg fun hg h=> ?_
 .simp only[not_or,Decidable.not_and_iff_not_or_not,Decidable.not_not,Bool.not_eq_true] at hg
  show uX hg fun hc hk xR=> ?_;clear hg
  show mE h fun d hd h=> ?_
  cases h
  obtain⟨xD,xH,uI,mR,mP,eR,eP,_⟩:=fs.pre.bs.exc
  obtain⟨cl,hm,he⟩:∃cl,C.mg c=some (.ref cl)/\bI C.g0 cl uI:=by
   rcases hc with e0|rfl
   .rw[e0];exact⟨_,mR,eR⟩
   .exact⟨_,mP,eP⟩
  obtain⟨nm,qn,Nn,bs,hdct,sn,sub,ab,col,dd,k0,k1,k2,k3,k5,newId,Bn,inN,bmN,c0,aO,cd,sl,mN,mE,Fn,hBn,xc,hN,hmN,hclE,hNE,hmE⟩:=he
  have hdbg:(c==("__debug__":Str))=false:=by rcases hc with rfl|rfl <;> decide
  have T:OwnTail C.g0 u6 (.ref uI::u6):= .own hclE hNE (hmE _ kD) .base
  show wpAny_Raise_call_subU (C:=cl) (nm:=nm) (q:=qn) (bs:=bs) (hdct:=hdct) (sn:=sn) (sub:=sub) (ab:=ab) (col:=col) (dd:=dd) (k0:=k0) (k1:=k1) (k2:=k2) (k3:=k3) (k5:=k5) (N:=Nn) (bm:= .ref uI::u6) (bmB:=u6) (mN:=mN) Fn hBn F.excBase_Exception (T.hasType (b:=true) kD) fs.pre.a.handled (plain_any (m1 xR)) (hmN _ kD) ?_
  show ne (qh fs.pre hk hm hdbg ⟨rfl,?_⟩)
  rw[jI xR]
  show jNg (jNf (ne (S.E.at fs.pre hd fun v s1 kp p1 rv=>jN3 ?_)))
  have kg:=p1.gr.keep
  show⟨rfl,by simp;decide,kg _ _ xc,hN.keeps kg,T.keeps kg,fun h' e eE=> ?_⟩
  show qk eE.there fun t h1 h2 h3=> ?_
  have yb:KP C s1 { s1 with heap:=h' }:=KP.of nL eE.keeps
  have kw:KW C (ZO OL env) s { s1 with heap:=h' }:=(kp.trans yb).kw
  have eu:=RD.kp yb fs.pre.hP rv
  exact q e t cl v _ kw (xM kp.kw fs.pre.gr.tab (Z:=fun _=>False) eE.new) hm h1 (xM kp.kw fs.pre.gr.tab (Z:=fun _=>False) h2) h3 (_m.R.mono (j9 fun a ha=>ju _ ha) eu) (by
   obtain⟨m,hm⟩:=p1.fm.ns
   exact⟨m,hm.keeps eE.keeps⟩)
theorem jDi(S:gL C n r){e:Expr}{pos:Pos}{f:Fl}{Q:wc}(fs:FS C n k A env Y OL l s)(h:vV r k n env.scope l (.Return (some e) pos)=some (f,l'))(q:y8 C n k A env Y OL f l' s Q E):
  wpAny C.M A (exec (.Return (some e) pos) env) Q E s:=by
 show mE (show (r.E k env.scope (xW l) e).map (fun d=>(Fl.ret d,l))=some (f,l') from h) fun d hd h=> ?_
 cases h
 exact ne (jP5 (S.E.at fs.all hd fun v s1 kp p1 rv=>q v s1 kp.kw rv))
theorem jLp(S:gL C n r)(a1:y0 (n+1) A){t:Expr}{a b:List Stmt}{pos:Pos}{f:Fl}{Q:wc}(fs:FS C n k A env Y OL l s)(h:vV r k n env.scope l (.If t a b pos)=some (f,l'))(q:y8 C n k A env Y OL f l' s Q E):
  wpAny C.M A (exec (.If t a b pos) env) Q E s:=by
 show bE (show (Bt r k env.scope (xW l) 4 t).bind (fun c=>if c=true then qd r k env.scope l a else qd r k env.scope l b)=some (f,l') from h) fun c hc h=> ?_
 show wpAny_If (ne (gi S.E a1 4 fs.all hc fun s1 kp p1=> ?_))
 have t0:=fs.pre.gr.tab
 induction c using cT with
 |true=>exact xa S.S a OL l l' f s1 Q E (fs.kp kp) h (q.kp t0 kp)
 |false=>exact xa S.S b OL l l' f s1 Q E (fs.kp kp) h (q.kp t0 kp)
theorem KW.ofLoop(kp:KP C s s1)(hn:∀a∈J,s.heap.get? a=none)(h:dJ C J OL env s1 s2):KW C (ZO OL env) s s2:=by
 show jE h fun sm kw kj=> ?_;clear h
 exact((KP.kw kp).trans kw).lastJ hn kj fun b hb=>hb.symm
theorem jMi{a:D}{i:List D}(h:a.asTup? =some i):a= .tup i:=by
 induction a using cD with
 |tup j=>rw[jX h]
 |_=>exact nn h
theorem jDz{α β:Type}{as:List α}{k1:α->Option β}{d:β}(h:yf as k1 (fun _ _=>none)=some d):∃a,as=[a]/\k1 a=some d:=by
 induction as using cL with
 |nil=>exact nn h
 |cons a as=>
  induction as using cL with
  |nil=>exact⟨a,rfl,h⟩
  |cons b as=>induction as using cL with
   |nil=>exact nn h
   |cons _ _=>exact nn h
theorem uy{e f a:Expr}{p:Pos}(h:call1? e=some (f,a,p)):e= .Call f [a] [] p:=by
 induction e using cE with
 |Call g as ks q=>
  induction ks using cL with
  |nil=>
   show jE (jDz (show yf as (fun a=>some (g,a,q)) (fun _ _=>none)=some (f,a,p) from h)) fun b h0 h1=> ?_
   obtain⟨h2,h3⟩:=Prod.mk.inj (jX h1)
   obtain⟨h4,h5⟩:=Prod.mk.inj h3
   rw[h0,h2,h4,h5]
  |cons _ _=>exact nn h
 |_=>exact nn h
theorem jMh{e:Expr}{x m:Str}{p:Pos}(h:attrN? e=some (x,m,p)):∃q,e= .Attribute (.Name x q) m p:=by
 induction e using cE with
 |Attribute o m2 p2=>
  show mE (show (nameE? o).map (fun x=>(x,m2,p2))=some (x,m,p) from h) fun y h1 h2=> ?_
  obtain⟨q,e⟩:=yP h1
  obtain⟨h3,h4⟩:=Prod.mk.inj h2
  obtain⟨h5,h6⟩:=Prod.mk.inj h4
  exact⟨q,by rw[e,h3,h5,h6]⟩
 |_=>exact nn h
theorem enum_is{i:Expr}(h:xh i=true):∃f p e qp,i= .Call (.Name f p) [e] [] qp/\f="enumerate":=by
 show jE ((Option.any_eq_true _ _).mp h) fun x h1 h2=> ?_
 show bE h1 ?_;rintro ⟨f,e,qp⟩ h3 h4
 obtain⟨p,h5⟩:=yP h4
 exact⟨x,p,e,qp,by rw[uy h3];exact jM8 (fun f=>Expr.Call f [e] [] qp) h5,jNu h2⟩
set_option tactic.hygienic true in
theorem jJa(S:gL C n r)(a1:y0 (n+1) A){t i:Expr}{its:List D}{Q:qN}(hE:(vg t|| !xh i)=true)(fs:FS C n k A env Y OL l s)(h:zR r k env.scope (j3 l) i=some its)
  (q:∀I J s',KP C s s'->(∀a∈J,s.heap.get? a=none)->FS C n k A env (J++Y) OL l s'->Own C J s'.heap->SrcR C A t (qQ OL++(J++Y)) I J its s'.heap->Q (.ref I) s'):
  wpAny C.M A (eval i env) (fun x s₁=>wpAny C.M A (pyIter x) Q E s₁) E s:=by
 unfold zR at h
 by_cases hI:xh i=true
 rotate_left
 .rw[jMv hI] at h
  show bE h fun d h1 h2=> ?_
  show ne (S.E.at fs.pre h1 fun v s1 kp p1 rv=>ne (yr p1.a.handled p1.lt rv h2 fun h' hk it=> ?_))
  have qF:=fs.kp kp
  have wd:s1.heap.get? s1.heap.objs.size=none:=qy _
  show jE it.obj fun oi oT _=> ?_
  have yb:KP C s1 { s1 with heap:=h' }:=KP.of nL hk
  show q s1.heap.objs.size [s1.heap.objs.size] _ (kp.trans yb) (m1 (xM kp.kw fs.pre.gr.tab (Z:=fun _=>False) wd)) (qF.moreJ (J:=[s1.heap.objs.size]) yb (m1 wd) (m1 ⟨oi,oT⟩))
   (Own.fresh p1.gr.tab (fun a ha e=> ?_) hk (m1 wd) (m1 ⟨oi,oT⟩)) (SrcR.ofIt (by simp) (it.perm fun b=> ?_))
  .rw[jw.mp ha] at e
   obtain⟨o,ho⟩:=p1.hYs C.P p1.hP
   rw[<-e,wd] at ho;exact zn ho
  .simp only[List.mem_append,List.mem_cons,jw,List.not_mem_nil,or_false]
   constructor
   .rintro (h|h|h)
    .exact .inr (.inl h)
    .exact .inl h
    .exact .inr (.inr h)
   .rintro (h|h|h)
    .exact .inr (.inl h)
    .exact .inl h
    .exact .inr (.inr h)
 .rw[jMt hI] at h
  show uV (enum_is hI) ?_;rintro f p e qp rfl hf
  replace h:di r k env.scope (j3 l) e=some its:=h
  unfold di at h
  revert h;show vS fun ry h=> ?_
  .obtain⟨ry,je⟩:=ry
   show bE h fun dd he h2=> ?_
   show bE h2 fun ds vF h3=> ?_
   rw[jMi vF] at he
   clear h h2 vF
   .revert h3;show vS fun hl h3=> ?_
    .replace h3:=jX h3;subst h3
     subst hf
     show ne (jOw rfl (qi (v:= .type "enumerate") fs.pre ry kD (by rfl) kD ?_))
     show callWith_type1 ?_ (jI je) (by rfl)
     rw[jI je]
     show jNf (S.E.at fs.pre he fun v s1 kp p1 rv=>jN3 ?_)
     show ja rv.tup_inv ?_;rintro a vs m rfl ho rs
     obtain⟨ho,ib⟩:=jG ho
     show jG3 ho fun h' hEn hit ku hk=> ?_
     show wpAny_pyIter_enum hEn ?_
     have qF:=fs.kp kp
     have wd:s1.heap.get? s1.heap.objs.size=none:=qy _
     have rx:s1.heap.get? (s1.heap.objs.size+1)=none:=none_of fun⟨o,e⟩=>absurd (jM1 e) (jN9.mpr (jM5 _))
     show jE (id hit) fun oi oT _=> ?_
     have yb:KP C s1 { s1 with heap:=h' }:=KP.of nL hk
     have pN:∀a∈[s1.heap.objs.size+1,s1.heap.objs.size],s1.heap.get? a=none:=fun a ha=>by
      simp at ha;rcases ha with rfl|rfl
      .exact rx
      .exact wd
     have lR:∀a∈[s1.heap.objs.size+1,s1.heap.objs.size],∃o,h'.get? a=some o:=fun a ha=>by
      simp at ha;rcases ha with rfl|rfl
      .exact⟨_,hEn⟩
      .exact⟨_,oT⟩
     have jv:=jM1 ho
     have hTup:∃ts kd tp,t= .Tuple ts kd tp:=by
      rw[hI] at hE
      cases t <;> first|exact⟨_,_,_,rfl⟩|(exact Bool.noConfusion hE)
     obtain⟨ts,kd,tp,rfl⟩:=hTup
     show q (s1.heap.objs.size+1) [s1.heap.objs.size+1,s1.heap.objs.size] _ (kp.trans yb) (fun a ha=>xM kp.kw fs.pre.gr.tab (Z:=fun _=>False) (pN a ha)) (qF.moreJ yb pN lR) (Own.fresh p1.gr.tab (fun a ha e=> ?_) hk pN lR)
      (SrcR.enumT p1.a.handled hEn hit (hk _ _ ho) (Nat.succ_ne_self _) (jN5 (jSg jv)) (jN5 jv) ?_ (qM.moreL yb p1.hP pN (fun b hb=> ?_) rs))
     .obtain⟨o,ho⟩:=p1.hYs C.P p1.hP
      rw[<-e,pN a ha] at ho;exact zn ho
     .intro hm
      simp only[List.mem_append] at hm ib
      rcases hm with h|h|h
      .exact ib (.inl h)
      .rw[pN a h] at ho;exact zn ho
      .exact ib (.inr h)
     .simp only[List.mem_append] at hb ⊢
      rcases hb with h|h|h
      .exact .inr (.inl h)
      .exact .inl h
      .exact .inr (.inr h)
theorem jJk(S:gL C n r)(a1:y0 (n+1) A){t i:Expr}{body orelse:List Stmt}{pos:Pos}{f:Fl}{Q:wc}(fs:FS C n k A env Y OL l s)(h:mB r k env.scope l t i body orelse=some (f,l'))(q:y8 C n k A env Y OL f l' s Q E):
  wpAny C.M A (exec (.For t i body orelse pos) env) Q E s:=by
 unfold mB at h
 revert h;show tg fun hg h=> ?_
 .simp only[Bool.not_eq_false,Bool.and_eq_true,Bool.not_eq_true'] at hg
  obtain⟨⟨hT,wa⟩,hE⟩:=hg
  show bE h fun its h1 h=> ?_
  show bE h ?_;rintro ⟨f1,l1⟩ h2 h
  have t0:=fs.pre.gr.tab
  show wpAny_For (jJa S a1 hE fs h1 fun I J s1 kp hn qF oJ src=> ?_) (wR wa env)
  have hJ:∀a∈J,a∉Y:=fun a ha hm=>by
   obtain⟨o,e⟩:=fs.pre.hYs a (ju _ hm)
   rw[hn a ha] at e;exact zn e
  have fresh:∀(N:yR),(∀p∈N,s1.heap.get? p.2=none)->∀p∈N,s.heap.get? p.2=none:=fun N hN p hp=>xM kp.kw t0 (Z:=fun _=>False) (hN p hp)
  show jCk S hT h2 qF src hJ oJ fs.hP fs.cY fs.wY (fun hf s2 N hN lt xd=> ?_) (fun hf s2 N hN lt xd=> ?_) fun d hf v s2 lt rd=> ?_
  .rw[hf] at h
   show bE h ?_;rintro ⟨f2,l2⟩ h3 h4
   have kw:=KW.ofLoop kp hn lt
   show xa S.S orelse (N++OL) l1 l2 f2 s2 _ _ xd h3 ?_
   have q2:y8 C n k A env Y (N++OL) f l' s2 Q E:=q.step t0 (fresh N hN) kw
   induction f2 using cF with
   |next=>(obtain⟨hA,hB⟩:=Prod.mk.inj (jX h4);rw[<-hA,<-hB] at q2);exact q2
   |brk=>(obtain⟨hA,hB⟩:=Prod.mk.inj (jX h4);rw[<-hA,<-hB] at q2);exact q2
   |ret d=>(obtain⟨hA,hB⟩:=Prod.mk.inj (jX h4);rw[<-hA,<-hB] at q2);exact q2
   |exc c d=>cases h4
  .rw[hf] at h
   obtain⟨hA,hB⟩:=Prod.mk.inj (jX h)
   rw[<-hA,<-hB] at q
   exact q s2 N (fresh N hN) (KW.ofLoop kp hn lt) xd
  .rw[hf] at h
   obtain⟨hA,hB⟩:=Prod.mk.inj (jX h)
   rw[<-hA,<-hB] at q
   exact q v s2 (KW.ofLoop kp hn lt) rd
variable{fns:List (Str×Fn)}{glob:xQ}
inductive WInv (C:Cx) (n:Nat) (fns:List (Str×Fn)) (glob:xQ) (k:Bool) (A:Around) (env:Env) (Y:List Addr) (OL:yR) (s:Shared) (st:Stmt) (f:Fl) (l1:jN) (m:Nat) (s1:Shared):Prop
 |mk:∀l' N,m<=n->vV (ev fns glob m) k m env.scope l' st=some (f,l1)->(∀p∈N,s.heap.get? p.2=none)->FS C n k A env Y (N++OL) l' s1->KW C (ZO OL env) s s1->WInv C n fns glob k A env Y OL s st f l1 m s1
theorem jEz(H:∀m,m<=n->gL C m (ev fns glob m))(a1:y0 (n+1) A){t:Expr}{body:List Stmt}{pos:Pos}{f:Fl}{Q:wc}(fs:FS C n k A env Y OL l s)(h:vV (ev fns glob n) k n env.scope l (.While t body [] pos)=some (f,l'))(q:y8 C n k A env Y OL f l' s Q E):
  wpAny C.M A (exec (.While t body [] pos) env) Q E s:=by
 have t0:=fs.pre.gr.tab
 show wpAny_While (codeAny_whileLoop (WInv C n fns glob k A env Y OL s (.While t body [] pos) f l') ?_ n ⟨l,[],jNi _,h,fun p hp=>(by cases hp),fs,KW.refl s⟩)
 intro m s1 gO
 obtain⟨l1,N,hm,h,hN,qF,gj⟩:=gO
 have S:=H m hm
 replace h:ee (ev fns glob m) k m env.scope l1 t body (.While t body [] pos)=some (f,l'):=h
 unfold ee at h
 show bE h fun b hb h=> ?_
 show ne (gi S.E (a1.mono (jRb hm)) 4 (qF.lo hm).all hb fun s2 kp p2=> ?_)
 have vR:KW C (ZO OL env) s s2:=gj.trans kp.kw
 induction b using cT with
 |false=>
  simp only[Bool.false_eq_true,if_false] at h ⊢
  obtain⟨hA,hB⟩:=Prod.mk.inj (jX h)
  rw[<-hA,<-hB] at q
  exact jNj (q s2 N hN vR (qF.kp kp))
 |true=>
  simp only[if_true] at h ⊢
  show bE h ?_;rintro ⟨f3,l3⟩ h3 h
  show xa S.S body (N++OL) l1 l3 f3 s2 _ _ ((qF.kp kp).lo hm) h3 ?_
  have up:∀(N2:yR),(∀p∈N2,s2.heap.get? p.2=none)->∀p∈N2++N,s.heap.get? p.2=none:=fun N2 tw p hp=>by
   rcases jj.mp hp with hp|hp
   .exact xM vR t0 (tw p hp)
   .exact hN p hp
  induction f3 using cF with
  |next=>
   intro s4 N2 tw zM zC
   induction m using cN with
   |zero=>cases h
   |succ m=>
    show⟨m,jRc m,l3,N2++N,Nat.le_of_succ_le hm,h,up N2 tw,by rw[jNl];exact zC.hi fs.pre.a,vR.transNew zM (vU hN)⟩
  |brk=>
   obtain⟨hA,hB⟩:=Prod.mk.inj (jX h)
   rw[<-hA,<-hB] at q
   intro s4 N2 tw zM zC
   exact q s4 (N2++N) (up N2 tw) (vR.transNew zM (vU hN)) (by rw[jNl];exact zC.hi fs.pre.a)
  |ret d=>
   obtain⟨hA,hB⟩:=Prod.mk.inj (jX h)
   rw[<-hA,<-hB] at q
   intro v s4 zM rd
   exact q v s4 (vR.transNew zM (vU hN)) rd
  |exc c d=>cases h
theorem assS_is{sc:Scope}{ts:List Expr}{e:Expr}{z:Fl×jN}(h:assS r k sc l ts e=some z):∃x p,ts=[.Name x p]:=by
 show jE (jDz h) ?_;rintro t rfl h
 show bE h fun x h1 _=> ?_
 obtain⟨p,rfl⟩:=yP h1
 exact⟨x,p,rfl⟩
theorem jLy{sc:Scope}{e:Expr}{z:Fl×jN}(h:exprS r k sc l e=some z):∃x p m ap a cp,e= .Call (.Attribute (.Name x p) m ap) [a] [] cp/\fJ r k sc l x m ap a cp=some z:=by
 show bE h ?_;rintro ⟨f,a,cp⟩ h1 h2
 show bE h2 ?_;rintro ⟨x,m,ap⟩ h3 h4
 obtain⟨p,e3⟩:=jMh h3
 exact⟨x,p,m,ap,a,cp,by rw[uy h1];exact jM8 (fun f=>Expr.Call f [a] [] cp) e3,h4⟩
theorem jIq{sc:Scope}{e:Expr}{z:Fl×jN}(h:rQ r k sc l e=some z):∃c np a cp,e= .Call (.Name c np) [a] [] cp:=by
 show bE h ?_;rintro ⟨f,a,cp⟩ h1 h2
 show bE h2 fun c h3 _=> ?_
 obtain⟨p,e3⟩:=yP h3
 exact⟨c,p,a,cp,by rw[uy h1];exact jM8 (fun f=>Expr.Call f [a] [] cp) e3⟩
theorem SS_step(H:∀m,m<=n->gL C m (ev fns glob m)):SS C (n+1) (ev fns glob (n+1)):=by
 intro k A env Y OL l st f l' s Q E fs h q
 have a1:=fs.pre.a
 have S:=H n nL
 have bW:=fs.lo (jM5 n)
 have q0:=y8.lo a1 q (m:=n)
 clear q
 replace h:vV (ev fns glob n) k n env.scope l st=some (f,l'):=h
 induction st using cS with
 |Assign ts e pos=>
  show oP (assS_is h) ?_;rintro x p rfl
  exact jDw S bW h q0
 |Expr e pos=>
  obtain⟨x,p,m,ap,a,cp,rfl,h2⟩:=jLy h
  exact jDy S bW h2 q0
 |If t a b pos=>exact jLp S a1 bW h q0
 |For t i body orelse pos=>exact jJk S a1 bW h q0
 |While t body orelse pos=>
  induction orelse using cL with
  |nil=>exact jEz H a1 bW h q0
  |cons _ _=>exact nn h
 |Return e pos=>
  induction e using cO with
  |some e=>exact jDi S bW h q0
  |none=>exact nn h
 |Break pos=>
  obtain⟨hA,hB⟩:=Prod.mk.inj (jX h);clear h;subst hA;subst hB
  exact wpAny_Break (q0 s [] (fun p hp=>by cases hp) (KW.refl s) bW)
 |Raise e c pos=>
  induction c using cO with
  |some _=>exact nn h
  |none=>
   induction e using cO with
   |none=>exact nn h
   |some e=>
    obtain⟨c,np,a,cp,rfl⟩:=jIq h
    exact jFe S bW h q0
 |_=>exact nn h
theorem jBb{ns:List Str}{vs:List Value}(hl:ns.length=vs.length):∀n∈ns,((ns.zip vs).lookup n).isSome=true:=by
 induction ns generalizing vs with
 |nil=>intro n hn;cases hn
 |cons m ns ih=>
  match vs,hl with
  |v::vs,hl=>
   intro n hn
   rw[jNy,jMz]
   by_cases e:n=m
   .subst e;simp
   .have e':(n==m)=false:=by simpa using e
    rw[e']
    rcases j0.mp hn with h|h
    .exact absurd h e
    .exact ih (by simpa using hl) n h
theorem jCc{ns:List Str}{vs:List Value}(hl:ns.length=vs.length)(hn:ns.Nodup):ns.filterMap (fun n=>((ns.zip vs).lookup n).map (n,·))=ns.zip vs:=by
 have key:∀(ns:List Str) (vs:List Value) (L:nF),ns.length=vs.length->ns.Nodup->(∀p∈ns.zip vs,L.lookup p.1=some p.2)->ns.filterMap (fun n=>(L.lookup n).map (n,·))=ns.zip vs:=by
  intro ns
  induction ns with
  |nil=>intro vs L _ _ _;rfl
  |cons n ns ih=>
   intro vs L hl hn h
   match vs,hl with
   |v::vs,hl=>
    rw[jNd,h (n,v) jy,jNy]
    simp only[Option.map_some]
    rw[ih vs L (by simpa using hl) (xw.mp hn).2 fun p hp=>h p (qV _ hp)]
 show key ns vs _ hl hn ?_
 have l2:∀(ns:List Str) (vs:List Value),ns.Nodup->∀p∈ns.zip vs,(ns.zip vs).lookup p.1=some p.2:=by
  intro ns
  induction ns with
  |nil=>intro vs _ p hp;cases hp
  |cons n ns ih=>
   intro vs hn p hp
   match vs with
   |[]=>cases hp
   |v::vs=>
    rw[jNy] at hp ⊢
    rcases j0.mp hp with e0|hp
    .rw[e0];simp
    .have hk:p.1∈ns:=(jQm hp).1
     have je:p.1≠n:=fun e=>(xw.mp hn).1 (e▸hk)
     have e':(p.1==n)=false:=by simpa using je
     rw[jMz,e']
     exact ih vs (xw.mp hn).2 p hp
 exact l2 ns vs hn
theorem eZ{α β:Type}{m:Sem α}{a:α}{f:α->Sem β}{r:Sem β}(h:m=pure a)(h2:f a=r):(m >>=f)=r:=by rw[h,pure_bind];exact h2
theorem iQ{c:Prop}[Decidable c]{α:Type}{A B r:α}(h:¬c)(h2:B=r):(if c then A else B)=r:=(jMv h).trans h2
theorem nomiss{α:Type}{l:List α}(e:l=[]):¬((!l.isEmpty)=true):=by rw[e];exact jMy
theorem missnil{names:List Str}{l:List Value}{k:Nat}{p:Str->Bool}(hl:l=[])(h2:(names.take names.length).filter p=[]):(names.take (names.length - (l.drop k).length)).filter p=[]:=by rw[hl,List.drop_nil];exact h2
theorem forzip{α β σ:Type}{l:List α}{s:σ}{d:List β}{f:α×β->σ->Sem (ForInStep σ)}(hd:d=[]):forIn (l.zip d) s f=pure s:=by rw[hd,List.zip_nil_right];rfl
theorem appnil{α β:Type}{names l:List α}{f:α->Option β}{r:List β}(hl:l=[])(h3:names.filterMap f=r):(names++l).filterMap f=r:=by rw[hl,jOj];exact h3
theorem bindA{fd:FuncData}{as:List Arg}{vs:List Value}{kd:List (Option Expr)}{dl:List Expr}(hp:fd.params=⟨[],as,none,[],kd,none,dl⟩)(hd:fd.defaults= .none)(h1:decide (vs.length > (as.map (·.arg)).length)=false)(h2:((List.take (as.map (·.arg)).length (as.map (·.arg))).filter fun n=>(((as.map (·.arg)).zip vs).lookup n).isNone)=[])(h3:(as.map (·.arg)).filterMap (fun n=>(((as.map (·.arg)).zip vs).lookup n).map (n,·))=(as.map (·.arg)).zip vs):bindArgs fd ⟨vs,[]⟩=pure ((as.map (·.arg)).zip vs):=by
 obtain⟨nm,qn,ps,body,sc,gl,cl,df⟩:=fd
 subst hp;subst hd
 show eZ (a:=((as.map (·.arg)).zip vs,[])) rfl ?_
 show eZ (a:=none) rfl ?_
 show iQ (fun h=>Bool.noConfusion (h1.symm.trans (jM2.mp h).1)) ?_
 show iQ (nomiss (missnil rfl h2)) ?_
 show eZ (forzip List.drop_nil) ?_
 show eZ (a:=((as.map (·.arg)).zip vs,[])) rfl ?_
 show iQ (fun h=>Bool.noConfusion h) ?_
 exact jM8 pure (appnil rfl h3)
theorem jKq{p:Arguments}(hp:zl p=true):p=⟨[],p.args,none,[],p.kw_defaults,none,p.defaults⟩/\(p.args.map (·.arg)).Nodup:=by
 unfold zl at hp
 simp only[Bool.and_eq_true,decide_eq_true_eq,List.isEmpty_iff,Option.isNone_iff_eq_none] at hp
 obtain⟨⟨⟨⟨h1,h2⟩,h3⟩,h4⟩,h5⟩:=hp
 obtain⟨po,as,va,ko,kd,kw,df⟩:=p
 subst h1;subst h2;subst h3;subst h4
 exact⟨rfl,h5⟩
theorem qU{fd:FuncData}{vs:List Value}(hp:zl fd.params=true)(hd:fd.defaults= .none)(hl:fd.params.args.length=vs.length):bindArgs fd ⟨vs,[]⟩=pure ((fd.params.args.map (·.arg)).zip vs):=by
 obtain⟨e,hn⟩:=jKq hp
 have bz:(fd.params.args.map (·.arg)).length=vs.length:=by rw[jMu];exact hl
 show bindA e hd (jNb (by rw[bz];exact jNp _)) ?_ (jCc bz hn)
 rw[List.take_length]
 show jRo.mpr fun n hn=> ?_
 have:=jBb bz n hn
 rw[jM4] at this
 obtain⟨v,e⟩:=this
 rw[e];exact jMy
theorem jB0{y:Str}{xs:List Str}{ds:List D}(h:xu (y::xs) ds=some l):∃d fE l0,ds=d::fE/\xu xs fE=some l0/\l=jA l0 y (.val d):=by
 induction ds using List.casesOn with
 |nil=>exact nn h
 |cons d ds=>exact mE (show (xu xs ds).map (fun l=>jA l y (.val d))=some l from h) fun l0 h0 e=>⟨d,ds,l0,rfl,h0,e.symm⟩
theorem jDa{ds:List D}(h:xu [] ds=some l):ds=[]/\l=fun _=>none:=by
 induction ds using List.casesOn with
 |nil=>exact⟨rfl,(jX h).symm⟩
 |cons _ _=>exact nn h
theorem xm{xs:List Str}:∀{ds:List D} {l:jN},xu xs ds=some l->∀x,l x=((xs.zip ds).lookup x).map .val:=by
 induction xs with
 |nil=>intro ds l h x;obtain⟨rfl,rfl⟩:=jDa h;rfl
 |cons y xs ih=>
  intro ds l h x
  show ja (jB0 h) ?_;rintro d fE l0 rfl h0 rfl
  unfold jA
  rw[jNy,jMz]
  by_cases e:x=y
  .subst e;simp
  .rw[jMv e,jNn.mpr e,ih h0 x]
theorem kU{xs:List Str}:∀{ds:List D} {l:jN},xu xs ds=some l->xs.length=ds.length:=by
 induction xs with
 |nil=>intro ds l h;rw[(jDa h).1];rfl
 |cons y xs ih=>
  intro ds l h
  show ja (jB0 h) ?_;rintro d fE l0 rfl h0 rfl
  exact jM8 (·+1) (ih h0)
theorem zip_R{H:HV}{xs:List Str}:∀{vs:List Value} {ds:List D},Rs C.prog C.w H vs ds->∀x d,(xs.zip ds).lookup x=some d->∃v,(xs.zip vs).lookup x=some v/\R C.prog C.w H v d:=by
 induction xs with
 |nil=>exact fun _ _ _ h=>nn h
 |cons y xs ih=>
  intro vs ds r x d
  show r.ind (P:=fun vs ds=>((y::xs).zip ds).lookup x=some d->∃v,((y::xs).zip vs).lookup x=some v/\R C.prog C.w H v d) (fun h=>nn h) fun v e vs ds r rs _ h=> ?_
  rw[jNy,jMz] at h ⊢
  generalize hb:(x==y)=x0;induction x0 using cT with
  |true=>rw[hb] at h;exact⟨v,rfl,jX h▸r⟩
  |false=>rw[hb] at h;exact ih rs x d h
theorem jAe{L:nF}(hn:(L.map (·.1)).Nodup)(x:Str):L.reverse.lookup x=L.lookup x:=by
 induction L with
 |nil=>rfl
 |cons p L ih=>
  obtain⟨y,v⟩:=p
  obtain⟨h1,h2⟩:=xw.mp (show (y::L.map (·.1)).Nodup from hn)
  rw[List.reverse_cons,jSd,ih h2,jMz]
  generalize hb:(x==y)=x0;induction x0 using cT with
  |true=>
   have e:x=y:=jNs.mp hb
   subst e
   have:L.lookup x=none:=by
    rw[List.lookup_eq_none_iff]
    intro p hp
    simp only[bne_iff_ne,ne_eq]
    intro e
    exact h1 (jo.mpr ⟨p,hp,e.symm⟩)
   rw[this];simp
  |false=>simp[List.lookup_cons,hb]
set_option tactic.hygienic true in
theorem jL3{sc:Scope}{L:Addr}{qual:Str}{func:Option Addr}{code:Value}{h':Heap}{tk:Nat}{l0:jN}{names:List Str}{vs:List Value}{as:List D}(bs:Base C)(g:Gr C s)(hP:C.P∈Y)(hY:∀a∈Y,C.g0.get? a=none)(hYs:∀a∈Y,∃o,s.heap.get? a=some o)
  (ha:y0 n A) (kind:sc.kind= .function) (mV:∀x,sc.names.lookup x≠some .free) (gk:(names.zip vs).map (·.1) |>.Nodup) (hL:L=s.heap.objs.size) (he:env=newEnv sc L mainGlobals (cellsFrom (L+1) sc.names []) qual func code none builtinsNs)
  (ht:s.toks<=tk) (hk:∀b o,s.heap.get? b=some o->h'.get? b=some o) (fm:fG env h') (hv:∀x v,(names.zip vs).reverse.lookup x=some v->jg env h' x v) (hb:xu names as=some l0) (hr:qM C s.heap Y vs as)
  (cz:k=true->env.code= .ref C.c/\env.qual++("<lambda>":Str)=C.lq):
  KP C s { s with heap:=h',toks:=tk }/\FS C n k A env (jB env++Y) [] l0 { s with heap:=h',toks:=tk }/\(∀a∈jB env,s.heap.get? a=none)/\(∀p∈env.cells,p.2∈jB env):=by
 have kp:KP C s { s with heap:=h',toks:=tk }:=KP.of ht hk
 have yh:env.locals=L:=by rw[he];rfl
 have xY:env.cells=cellsFrom (L+1) sc.names []:=by rw[he];rfl
 have qE:env.scope=sc:=by rw[he];rfl
 have wf:=gc sc.names (s.heap.push (j4 [] 0)) [] (fun p hp=>by cases (hp)) jOv
 rw[jOr,<-hL] at wf
 have fe:∀q∈env.cells,L+1<=q.2:=fun q hq=>by
  rcases wf.2.2 q (xY▸hq) with h|h
  .cases (h)
  .exact h
 have aH:∀q∈env.cells,q.2∈jB env:=fun q hq=>qV _ (qX.mpr ⟨jMs (f:=(·.2)) hq,by rw[yh];exact jMx (fe q hq)⟩)
 have fj:∀a∈jB env,s.heap.get? a=none:=fun a ha=>by
  have fe:L<=a:=by
   rcases j0.mp ha with e|ha
   .rw[e,yh];exact jNi _
   .have:=jNu (qX.mp ha).2
    rw[yh] at this
    exact jPt this
  exact none_of fun⟨o,e⟩=>by
   have:=jM1 e
   rw[<-hL] at this
   exact absurd fe (jRm.mpr this)
 have aK:∀a∈jB env,∃o,h'.get? a=some o:=fun a ha=>by
  rcases j0.mp ha with e|ha
  .show uV fm.ns fun m o es ep ho _=> ?_
   exact⟨o,e▸ho⟩
  .show jE (jo.mp (qX.mp ha).1) ?_;rintro q hq rfl
   show qA (fm.cl q hq) fun v o ho _=> ?_
   exact⟨o,ho⟩
 have hWP:∀a∈jB env,a≠C.P:=fun a ha e=>by
  obtain⟨o,ho⟩:=hYs C.P hP
  rw[<-e,fj a ha] at ho;cases (ho)
 have aV:qM C h' (jB env++Y) vs as:=qM.moreL (J:=jB env) kp hP fj (fun b hb=>jj.mp hb) hr
 show⟨kp,⟨⟨bs,ha,⟨by rw[qE];exact kind,by rw[he];rfl,by rw[he];rfl,fun x hx=> ?_,cz⟩,g.kp bs kp,ju _ (ju _ hP),fun a ha=> ?_,fun a ha=> ?_,fm,fun p hp=>ju _ (xP _ (aH p hp)),fun x d hx=> ?_⟩,
  ju _ hP,fun p hp=>xP _ (aH p hp),Own.fresh g.tab hWP hk fj aK,fun a ha=>xP _ ha,fun p hp=>(by cases (hp)),jOv,fun x c hx hc=>aH _ (mem_of_lookup hc),fun x ds hx=> ?_⟩,fj,aH⟩
 .rw[xY]
  show xB _ _ _ _ (.inl ?_)
  rcases hx with hx|hx
  .rw[<-qE];exact hx
  .have th:env.scope.names.lookup x=some .free:=hx
   rw[qE] at th
   exact absurd th (mV x)
 .rcases jj.mp (show a∈jB env++Y from ha) with h|h
  .exact none_of fun⟨o,ho⟩=>by
    have:=fj a h
    rw[g.keep _ o ho] at this;cases (this)
  .exact hY a h
 .rcases jj.mp (show a∈jB env++Y from ha) with h|h
  .exact aK a h
  .obtain⟨o,ho⟩:=hYs a h
   exact⟨o,hk _ _ ho⟩
 .unfold j3 at hx
  rw[xm hb x] at hx
  generalize hz:(names.zip as).lookup x=x0;induction x0 using cO with
  |none=>rw[hz] at hx;cases (hx)
  |some d'=>
   rw[hz] at hx;cases (hx)
   show jE (zip_R aV x d hz) fun v iU rv=> ?_
   exact⟨v,hv x v (by rw[jAe gk];exact iU),rv⟩
 .rw[xm hb x] at hx
  generalize hz:(names.zip as).lookup x=x0;induction x0 using cO with
  |none=>rw[hz] at hx;cases (hx)
  |some d'=>rw[hz] at hx;cases (hx)
structure OkFn(f:Fn):Prop where
 plain:zl f.params=true
 co:f.scope.isCoroutine=false
 gen:f.scope.isGenerator=false
 kind:f.scope.kind= .function
 par:∀x∈f.names,f.scope.names.lookup x=some .local\/f.scope.names.lookup x=some .cell
 free:∀x,f.scope.names.lookup x≠some .free
theorem wH{f:Fn}(h:oL f=true):OkFn f:=by
 unfold oL at h
 simp only[Bool.and_eq_true,Bool.not_eq_true',decide_eq_true_eq,List.all_eq_true] at h
 obtain⟨⟨⟨⟨⟨h1,h2⟩,h3⟩,h4⟩,h5⟩,h6⟩:=h
 exact⟨h1,h2,h3,h4,h5,fun x hx=>h6 _ (jt hx) rfl⟩
structure xv(n:Nat)(A:Around):Prop where
 handled:A.handled=none
 depth:A.depth+1+3 * n<900
 units:A.units+4+40 * n<9000
theorem xv.deeper(h:xv n A):y0 n (A.deeper env):=⟨h.handled,h.depth,by have:=h.units;show(?_:A.units+3+40 * n<9000);(show jM7 ?_ (by assumption);simp+arith)⟩
theorem y0.room(h:y0 (n+1) A):xv n A:=⟨h.handled,by have:=h.depth;(show jM7 ?_ (by assumption);simp+arith),by have:=h.units;(show jM7 ?_ (by assumption);simp+arith)⟩
theorem zZ{fn:Fn}{a:Addr}{qual:Str}{code:Value}{as:List D}{vs:List Value}{l0:jN}{B:Around}{Q:Env->Shared->Prop}(ok:OkFn fn)(bs:Base C)(g:Gr C s)(hP:C.P∈Y)(hY:∀a∈Y,C.g0.get? a=none)(hYs:∀a∈Y,∃o,s.heap.get? a=some o)
  (hA:∀env,y0 n (A.deeper env)) (hb:xu fn.names as=some l0) (hr:qM C s.heap Y vs as) (cz:k=true->code= .ref C.c/\qual++("<lambda>":Str)=C.lq)
  (q:∀env s',KP C s s'->FS C n k (A.deeper env) env (jB env++Y) [] l0 s'->(∀a∈jB env,s.heap.get? a=none)->(∀p∈env.cells,p.2∈jB env)->env.scope=fn.scope->env.frame=some env.locals->Q env s'):
  wpAny C.M B (newFunctionEnv fn.scope mainGlobals [] (fn.names.zip vs) qual (some a) code none builtinsNs) Q NE s:=by
 have hlen:fn.names.length=vs.length:=(kU hb).trans hr.length.symm
 have gk:((fn.names.zip vs).map (·.1)).Nodup:=by
  rw[jPu (by lia)]
  have h1:=ok.plain
  unfold zl at h1
  simp only[Bool.and_eq_true,decide_eq_true_eq] at h1
  exact h1.2
 show vB ok.kind (fun x hx=>ok.par _ (jQm hx).1) (fun x hx=>absurd hx (ok.free x)) (fun p hp=>by cases hp) jOv fun env h' tk he ht hk fm hv=> ?_
 show uF (jL3 (A:=A.deeper env) bs g hP hY hYs (hA env) ok.kind ok.free gk rfl he ht hk fm hv hb hr (fun hk=>by rw[he];exact cz hk)) fun kp fs hn hcn=> ?_
 exact q env _ kp fs hn hcn (by rw[he];rfl) (by rw[he];rfl)
theorem zz(S:SS C n r){f:Str}{fn:Fn}{a:Addr}{as:List D}{vs:List Value}{d:D}{l0:jN}{Q:qN}(hf:C.fns.lookup f=some fn)(hm:C.mg f=some (.ref a))(bs:Base C)(g:Gr C s)(hP:C.P∈Y)(hY:∀a∈Y,C.g0.get? a=none)(hYs:∀a∈Y,∃o,s.heap.get? a=some o)
  (hA:xv n A) (hb:xu fn.names as=some l0) (hs:qd r false fn.scope l0 fn.body=some (.ret d,l')) (hr:qM C s.heap Y vs as) (q:∀v s',KP C s s'->RD C s'.heap Y v d->Q v s'):
  wpAny C.M A (call (.ref a) vs) Q E s:=by
 have ok:=wH (bs.okf f fn hf)
 show rH (bs.fn f fn hf) fun a' o pm code doc pI ho hd hc=> ?_
 rw[hm] at pI;cases pI
 have pq:=hA.depth
 have hlen:fn.names.length=vs.length:=(kU hb).trans hr.length.symm
 show jQd (jO4 (fd:=docDef f fn.params fn.body fn.scope pm code doc) (body:=fn.body) (by have:recursionLimit=1000:=rfl;lia) (g.keep _ _ ho) hd ok.co ok.gen rfl (hc.keeps g.keep) ?_)
 rw[qU ok.plain rfl (by show(?_:fn.params.args.length=vs.length);simpa [Fn.names] using hlen)]
 show jMr (ne ?_)
 show zZ (k:=false) (n:=n) (A:=A) ok bs g hP hY hYs (fun env=>hA.deeper) hb hr (fun h=>by exact zf h) fun env s1 kp fs hn _ qE _=>⟨bs.nolimit.keeps (g.kp bs kp).keep,jQq ?_⟩
 show xa S fn.body [] l0 l' (.ret d) s1 _ _ fs (by rw[qE];exact hs) fun v s2 kw rd=> ?_
 have yb:KP C s s2:=KP.of_kw (kp.kw.transNew kw fun b hb=> .inr (hn b (by exact hb)))
 exact q v s2 yb (_m.R.mono (j9 fun a ha=>ju _ ha) rd)
theorem jCa{I l:Addr}{i:Nat}{items:Array Value}{x:Value}{Q:qN}(hit:s.heap.IsListIter I l i)(hl:s.heap.IsList l items)(hx:items[i]? =some x)
  (q:∀h',h'.IsListIter I l (i+1)->Heap.SameBut I s.heap h'->Q x { s with heap:=h' }):wpAny C.M A (call (.builtin "next") [.ref I]) Q E s:=by
 show qk (id hit) fun o ho hc hd=> ?_
 obtain⟨ol,nK,_,nl,nR⟩:=hl
 show call_function_entry (by decide+kernel) (by decide+kernel) kdk_entry_next (kdk_args_next _) ?_
 unfold Builtin.«next»
 show jMq (m:=someArgs "next" 1 2 _) (jQ2 (a:=[Value.ref I]) (by first|rfl|kernel_rfl!) ?_)
 dsimp only
 show jMq (wpAny_specialOf (name:=Str.ofString "__next__") hit.typeIs slot_listiter_next.lookup ?_)
 show wpAny_ite_split (fun fh=>absurd fh kD) (fun _=> ?_)
 show jMq (jOc (name:=Str.ofString "__next__") hit.typeIs slot_listiter_next
  (jN4 slot_listiter_next hit.typeIs entry_listiter_next ?_ (args_listiter_next _)))
 show(?_:wpAny _ _ (field (.ref I) 0 >>=_) _ _ s)
 show jMq (jN7 ho hd (x:= .ref l) rfl ?_)
 show(?_:wpAny _ _ (if (Value.ref l==Value.none)=true then _ else _) _ _ s)
 rw[jMv (show¬((Value.ref l==Value.none)=true) from jMy)]
 show(?_:wpAny _ _ (field (.ref I) 1 >>=_) _ _ s)
 show jMq (jN7 ho hd (x:= .int i 0) rfl ?_)
 show(?_:wpAny _ _ (seqItems? (.ref l) >>=_) _ _ s)
 show jMq (jP4 nK nR ?_)
 simp only[Int.toNat_natCast,hx]
 show jMq (jO1 ho hd (by simp) (jMr ⟨x,rfl,jMr ⟨_,rfl,q _ ?_ (jN6 ..)⟩⟩))
 exact wy _ (jOm _ ho (jO5 (jNx hd _))) ((jQ3 ..).trans hc) (by
  rw[jNx hd];simp[rawInt])
theorem jLl{v:Value}{ai:Addr}{oi:Obj}{Q:qN}(hi:s.heap.get? ai=some oi)(hc:oi.cls≠.type "tuple")(hv:(∃x o,v= .ref x/\x≠ai/\s.heap.get? x=some o)\/∃i t,v= .int i t)(q:Q (.bool false) s):
  wpAny C.M A (compareOp .Is v (.ref ai)) Q E s:=by
 rcases hv with ⟨x,o,rfl,je,ho⟩|⟨i,t,rfl⟩
 .show(?_:wpAny _ _ (do return .bool (<-isSame (.ref x) (.ref ai))) Q E s)
  exact jMq (wpAny_isSame_ref_other' je ho hi hc (jMr q))
 .exact wpAny_is_other (by rfl) (by intro h;cases h) q
theorem wp_eq{α:Type}{M:Model}{m m':Sem α}{Q:α->Shared->Prop}(h:m=m')(w:wpAny M A m' Q E s):wpAny M A m Q E s:=h▸w
theorem jDu{fd:FuncData}{p1 p2 p3:Pos}{es:List Expr}{dt:Addr}{fU:Obj}{nt:Nat}{u v dv:Value}{Q:nF->Shared->Prop}(hp:fd.params=c9 p1 p2 p3 es)(hd:fd.defaults= .ref dt)(ho:s.heap.get? dt=some fU)(oD:fU.data= .seq #[dv] nt)
  (q:Q [("function",u),("sequence",v),("initial",dv)] s):wpAny C.M A (bindArgs fd ⟨[u,v],[]⟩) Q E s:=by
 obtain⟨nm,qn,ps,body,sc,gl,cl,df⟩:=fd
 subst hp;subst hd
 show jMq (jMr (jMq (jP4 ho oD ?_)))
 exact(wp_eq (m':=(pure [(("function":Str),u),(("sequence":Str),v),(("initial":Str),dv)]:Sem nF)) kR (jMr q))
theorem jG4{fd:FuncData}{p1 p2 p3:Pos}{es:List Expr}{dt:Addr}{fU:Obj}{nt:Nat}{u v x dv:Value}{Q:nF->Shared->Prop}(hp:fd.params=c9 p1 p2 p3 es)(hd:fd.defaults= .ref dt)(ho:s.heap.get? dt=some fU)(oD:fU.data= .seq #[dv] nt)
  (q:Q [("function",u),("sequence",v),("initial",x)] s):wpAny C.M A (bindArgs fd ⟨[u,v,x],[]⟩) Q E s:=by
 obtain⟨nm,qn,ps,body,sc,gl,cl,df⟩:=fd
 subst hp;subst hd
 show jMq (jMr (jMq (jP4 ho oD ?_)))
 exact(wp_eq (m':=(pure [(("function":Str),u),(("sequence":Str),v),(("initial":Str),x)]:Sem nF)) kR (jMr q))
theorem mJ(bs:Base C){P:Prop}(k:∀(fn:Fn) (ar:Addr) (o:Obj) (pm code doc:Value) (dt ai:Addr) (fU:Obj) (nt:Nat) (oi:Obj),o8 fn->C.mg "reduce"=some (.ref ar)->C.g0.get? ar=some o->o.data= .func { docDef "reduce" fn.params fn.body fn.scope pm code doc with defaults:= .ref dt }->C.g0.CodeRec code "reduce"->
  C.g0.get? dt=some fU->fU.data= .seq #[.ref ai] nt->C.mg "_initial_missing"=some (.ref ai)->C.g0.get? ai=some oi->oi.cls= .type "object"->P):P:=by
 obtain⟨fn,ar,o,pm,code,doc,dt,ai,fU,nt,oi,h1,h2,h3,h4,h5,h6,h7,h8,h9,h10⟩:=bs.red
 exact k fn ar o pm code doc dt ai fU nt oi h1 h2 h3 h4 h5 h6 h7 h8 h9 h10
theorem sQ{α:Type}{l:Str->Option α}{x:Str}{a:α}:jA l x a x=some a:=jMt rfl
theorem mz{α:Type}{l:Str->Option α}{x y:Str}{a:α}(h:y≠x):jA l x a y=l y:=jMv h
theorem dropC1{α:Type}{l r:List α}{j:Nat}{d:α}(h:l.drop j=d::r):j<l.length:=by
 rcases jSh j l.length with g|g
 .exact g
 .rw[jPi g] at h;cases h
theorem dropC2{α:Type}{l r:List α}{j:Nat}{d:α}(h:l.drop j=d::r):l[j]? =some d/\l.drop (j+1)=r:=by
 have t:=jQ1 (dropC1 h)
 rw[h] at t
 injection t with h1 h2
 exact⟨by rw[h1];exact jM9 _,h2.symm⟩
theorem mE'{a b q:Prop}(h:a/\b)(k:a->b->q):q:=k h.1 h.2
theorem FS.out(fs:FS C n k A env Y OL l s)(x:KW C Z s s')(hZ:∀b,Z b->b∈Y)(hl:¬Z env.locals)(hc:∀p∈env.cells,¬Z p.2):FS C n k A env Y OL l s':=by
 have aJ:∀b,Z b->b∈qQ OL++Y:=fun b hb=>ju _ (hZ b hb)
 show⟨fs.pre.kw x aJ hl hc,fs.hP,fs.cY,fs.own.kw fs.pre.gr.tab x,fs.wY,fs.nY,fs.ap,fs.cw,fun y ds hy=> ?_⟩
 show yy (fs.lst y ds hy) fun a vs m h1 h2 h3 h4=> ?_
 have fX:a≠C.P:=fs.own.ne a (xP _ (jMs (f:=(·.2)) h1))
 exact vO a vs m h1 (h2.kw fs.pre.gr.tab x hl hc) (x.heap fX (fun hz=>fs.nY _ h1 (hZ a hz)) h3) (qM.kw x fs.pre.hP aJ h4)
theorem FS.out'(fs:FS C n k A env Y OL l s)(x:KW C Z s s')(hZ:∀b,Z b->b∈Y)(hl:Z env.locals->∀m,s.heap.Ns env.locals m->s'.heap.Ns env.locals m)(hc:∀p∈env.cells,¬Z p.2):FS C n k A env Y OL l s':=by
 have aJ:∀b,Z b->b∈qQ OL++Y:=fun b hb=>ju _ (hZ b hb)
 have t:=fs.pre.gr.tab
 have hns:∀m,s.heap.Ns env.locals m->s'.heap.Ns env.locals m:=fun m hm=>by
  by_cases hz:Z env.locals
  .exact hl hz m hm
  .exact hm.at fun o e=>x.heap (j8 t hm) hz e
 have hva:∀y v,jg env s.heap y v->jg env s'.heap y v:=fun y v a=>by
  rcases a with ⟨hk,m,hn,hm⟩|⟨hk,c,xc,hv⟩
  .exact .inl ⟨hk,m,hns m hn,hm⟩
  .show jE (id hv) fun o ho hd=> ?_
   exact .inr ⟨hk,c,xc,o,x.heap (jz t hv) (hc _ (mem_of_lookup xc)) ho,hd⟩
 show⟨⟨fs.pre.bs,fs.pre.a,fs.pre.eo,fs.pre.gr.kw fs.pre.bs x fun b hb=>fs.pre.hY b (aJ b hb),fs.pre.hP,fs.pre.hY,fun a ha=>x.exs t (fs.pre.hYs a ha),?_,fs.pre.hc,fun y d hy=> ?_⟩,fs.hP,fs.cY,fs.own.kw t x,fs.wY,fs.nY,fs.ap,fs.cw,fun y ds hy=> ?_⟩
 .obtain⟨⟨m,hn⟩,xc,ha⟩:=fs.pre.fm
  show⟨⟨m,hns m hn⟩,fun p hp=> ?_,ha⟩
  obtain⟨v,hv⟩:=xc p hp
  show jE (id hv) fun o ho hd=> ?_
  exact dA v o (x.heap (jz t hv) (hc p hp) ho) hd
 .show jE (fs.pre.loc y d hy) fun v a r=> ?_
  exact⟨v,hva y v a,RD.kw x fs.pre.hP aJ r⟩
 .show yy (fs.lst y ds hy) fun a vs m h1 h2 h3 h4=> ?_
  have fX:a≠C.P:=fs.own.ne a (xP _ (jMs (f:=(·.2)) h1))
  exact vO a vs m h1 (hva y _ h2) (x.heap fX (fun hz=>fs.nY _ h1 (hZ a hz)) h3) (qM.kw x fs.pre.hP aJ h4)
theorem FS.var(fs:FS C n k A env Y OL l s){x:Str}{d:D}(h:l x=some (.val d)):∃v,jg env s.heap x v/\RD C s.heap (qQ OL++Y) v d:=fs.pre.loc x d (by unfold j3;rw[h])
theorem R.opq_inv{H:HV}{v u:Value}(h:R prog w H v (.opq u)):v=u:=h.inv
structure fT(C:Cx)(n:Nat)(A:Around)(af:Addr)(I:List Addr->Nat->Value->Shared->Prop)(its:List D)(ZF:Addr->Prop)(s0:Shared)(Y0:List Addr):Prop where
 zf:∀b,ZF b->b∈Y0
 fobj:∀Y j v s,I Y j v s->∃o fd,s.heap.get? af=some o/\o.data= .func fd
 call:∀(env:Env) Y j va vd d s (Q:qN),y0 n (A.deeper env)->Gr C s->C.P∈Y->(∀a∈Y,C.g0.get? a=none)->(∀a∈Y,∃o,s.heap.get? a=some o)->(∀a∈Y0,a∈Y)->I Y j va s->its[j]? =some d->RD C s.heap Y vd d->env.scope.kind= .function->env.frame=some env.locals->env.locals∈Y->s0.heap.get? env.locals=none->(∃m,s.heap.Ns env.locals m)->
  (∀v' s',KW C (fun b=>ZF b\/b=env.locals) s s'->(∀m,s.heap.Ns env.locals m->s'.heap.Ns env.locals m)->I Y (j+1) v' s'->Q v' s')->wpAny C.M (A.deeper env) (call (.ref af) [va,vd]) Q NE s
 kw:∀Y j v s s' (Z:Addr->Prop),I Y j v s->KW C Z s s'->(∀b,Z b->b∈Y/\s0.heap.get? b=none)->C.P∈Y->jd C s.heap->I Y j v s'
 more:∀(Y Y' J:List Addr) j v s s',I Y j v s->KP C s s'->(∀a∈J,s.heap.get? a=none)->(∀a∈J,∃o,s'.heap.get? a=some o)->(∀a∈Y',a∈J\/a∈Y)->(∀a∈Y,a∈Y')->C.P∈Y->I Y' j v s'
 last:∀(Y J:List Addr) j v s s',I (J++Y) j v s->KJ C J s s'->(∀a∈J,s0.heap.get? a=none/\a∉Y)->(∀a∈Y0,a∈Y)->C.P∈Y->I Y j v s'
 sub:∀(Y Y':List Addr) j v s,I Y j v s->(∀a∈Y',a∈Y)->(∀a∈Y0,a∈Y')->I Y' j v s
theorem yN{B:Around}{x:Str}{d:D}{p:Pos}{Q:qN}(fs:FS C n k A env Y OL l s)(h:l x=some (.val d))(h1:(x==("__debug__":Str))=false)(h2:(x==("__classdict__":Str))=false)(q:∀v,RD C s.heap (qQ OL++Y) v d->Q v s):wpAny C.M B (eval (.Name x p) env) Q NE s:=by
 show jE (fs.var h) fun v hv rv=> ?_
 exact m8 fs.pre hv h1 h2 (q v rv)
theorem pE{B:Around}{x:Str}{u:Value}{p:Pos}{Q:qN}(fs:FS C n k A env Y OL l s)(h:l x=some (.val (.opq u)))(h1:(x==("__debug__":Str))=false)(h2:(x==("__classdict__":Str))=false)(q:Q u s):wpAny C.M B (eval (.Name x p) env) Q NE s:=
 yN fs h h1 h2 fun v rv=>(_m.R.opq_inv rv).symm▸q
theorem zv{x:Str}{p pos:Pos}{e:Expr}{Q:wc}(hsw:swapsWith e (some (.Name x p)) pos.line env=pure false)
  (h:wpAny C.M A (eval e env) (fun v s1=>∃Y OL l d,FS C n k A env Y OL l s1/\(env.kindOf x=some .local\/env.kindOf x=some .cell)/\RD C s1.heap (qQ OL++Y) v d/\∀s2,KW C (ZO OL env) s1 s2->FS C n k A env Y OL (jA l x (.val d)) s2->Q .next s2) NE s):
  wpAny C.M A (exec (.Assign [.Name x p] e pos) env) Q E s:=by
 show ne (jOt (E:=NE) (jNh h (fun v s1 h1=> ?_) fun _ _ x=>x) hsw)
 show oN h1 fun Y OL l d fs hk rv q=> ?_;clear h1
 exact fs.assign hk rv q
noncomputable def localsOf(m:xQ):jN:=fun x=>(m.lookup x).map .val
inductive sU (C:Cx) (n:Nat) (mC:Around) (env:Env) (Yl:List Addr) (I0 af:Addr) (I:List Addr->Nat->Value->Shared->Prop) (its:List D) (ZT:Addr->Prop) (pe:Pos) (s:Shared) (m:Nat) (s1:Shared):Prop
 |mk:∀j v l',j+m=its.length->FS C n false mC env ([I0]++Yl) [] l' s1->l' "function"=some (.val (.opq (.ref af)))->l' "value"=some (.val (.opq v))->I ([I0]++Yl) j v s1->SrcR C mC (.Name "element" pe) ([I0]++Yl) I0 [I0] (its.drop j) s1.heap->KW C ZT s s1->sU C n mC env Yl I0 af I its ZT pe s m s1
theorem jFc{af I0:Addr}{I:List Addr->Nat->Value->Shared->Prop}{its:List D}{ZF:Addr->Prop}{s0:Shared}{Y0 Yl:List Addr}{fn:Fn}(fc:fT C n A af I its ZF s0 Y0){p:Nat->Pos}{R:Result->Shared->Prop}
  (uA:env.frame=some env.locals) (qE:env.scope=fn.scope) (rf:o8 fn) (fs:FS C n false (A.deeper env) env ([I0]++Yl) [] l s) (tV:∀a∈Y0,a∈Yl) (hIn:I0∉Yl) (hP:C.P∈Yl) (hc:∀p∈env.cells,p.2∈Yl) (wY:∀a∈jB env,a∈Yl) (oI:Own C [I0] s.heap)
  (zN:∀b,(b∈[I0]\/b∈jB env)->s0.heap.get? b=none) (su:∀b,ZF b->b≠I0/\b≠env.locals/\(∀p∈env.cells,p.2≠b))
  (lf:l "function"=some (.val (.opq (.ref af)))) (lv:∃v,l "value"=some (.val (.opq v))/\I ([I0]++Yl) 0 v s) (src:SrcR C (A.deeper env) (.Name "element" (p 18)) ([I0]++Yl) I0 [I0] its s.heap)
  (q:∀v s1 s2 l',KW C (fun b=>b∈[I0]\/b∈jB env\/ZF b) s s1->KJ C [I0] s1 s2->FS C n false (A.deeper env) env Yl [] l' s2->l' "value"=some (.val (.opq v))->I Yl its.length v s2->R (.ok .next) s2):
  codeAny C.M (A.deeper env) (.forLoop (.Name "element" (p 18)) (.ref I0) [rB p] [] env) R s:=by
 show jE lv fun v0 lv0 lU=> ?_;clear lv
 show jR3 (sU C n (A.deeper env) env Yl I0 af I its (fun b=>b∈[I0]\/b∈jB env\/ZF b) (p 18) s) ?_ its.length ⟨0,v0,l,by simp,fs,lf,lv0,lU,by exact src,KW.refl s⟩
 intro m s1 gO
 obtain⟨j,v,l1,hm,qF,lf1,lv1,eT,uD,gj⟩:=gO
 have t0:=fs.pre.gr.tab
 have pO:I0≠C.P:=oI.ne I0 yS
 have tW:I0≠env.locals:=fun e=>hIn (e▸wY _ jy)
 have hIc:∀p∈env.cells,¬p.2=I0:=fun p hp e=>hIn (e▸hc p hp)
 have pA:∀b∈[I0],b∈[I0]++Yl:=fun b hb=>xP _ hb
 have pD:Own C [I0] s1.heap:=oI.kw t0 gj
 have ki:∀x∈(["function","sequence","initial","it","value","element"]:List Str),env.kindOf x=some .local:=fun x hx=>by
  show(?_:env.scope.names.lookup x=_)
  rw[qE];exact rf.loc x hx
 have zG:∀b,b∈jB env->b∈[I0]++Yl/\s0.heap.get? b=none:=fun b hb=>⟨ju _ (wY b hb),zN b (.inr hb)⟩
 have o6:∀b,b=I0->b∈[I0]++Yl/\s0.heap.get? b=none:=fun b hb=>⟨by simp[hb],zN b (.inl (by simp[hb]))⟩
 generalize hd:its.drop j=x0;induction x0 using cL with
 |nil=>
  rw[hd] at uD
  show ne (uD.done fun h' tk ht hk=> ?_)
  have kj:KJ C [I0] s1 { s1 with heap:=h',toks:=tk }:=KJ.of ht pD.ne pD.code hk
  have hj:j=its.length:=by
   have:=jRy.mp hd
   lia
  have hInJ:∀a∈[I0],a∉Yl:=(m1 hIn)
  show jNj (q v s1 _ l1 gj kj (qF.lastJ kj hInJ hP hc wY) lv1 ?_)
  rw[<-hj]
  exact fc.last Yl [I0] j v s1 _ eT kj (fun a ha=>⟨zN a (.inl ha),hInJ a ha⟩) tV hP
 |cons d ds=>
  rw[hd] at uD
  have jv:=dropC1 hd
  show mE' (dropC2 hd) fun eI vF=> ?_
  show ne (jNh (uD.next pA qF.pre.hYs (Q:=fun v s2=>wpAny C.M (A.deeper env) (assign (.Name "element" (p 18)) env v) (fun _ s₂=>wpAny C.M (A.deeper env) (execs [rB p] env) (fun ff s₃=>match ff with
      | .next| .cont=>∃m',m'<m/\sU C n (A.deeper env) env Yl I0 af I its (fun b=>b∈[I0]\/b∈jB env\/ZF b) (p 18) s m' s₃
      | .brk=>R (.ok .next) s₃
      | .ret v=>R (.ok (.ret v)) s₃) (notedBy C.M (A.deeper env) env fun e s'=>R (.error e) s') s₂) (notedBy C.M (A.deeper env) env fun e s'=>R (.error e) s') s2) ?_) ?_ fun _ _ x=>x)
  .intro e h' tk ht hk lH pX he
   have vR:KW C (·=I0) s1 { s1 with heap:=h',toks:=tk }:=KW.one ht rfl pO (pD.code I0 yS) (fun b o hb e=>hk b o (by simpa using hb) e) (lH I0 yS)
   have xd:=qF.out vR (fun b hb=>(o6 b hb).1) (fun e=>tW e.symm) hIc
   have lT:=fc.kw _ _ _ _ _ _ eT vR o6 qF.hP qF.pre.gr.tab
   show ne (jNt (xd.assign (.inl (ki "element" kD)) he fun s3 wZ yM=> ?_))
   have w9:KW C (·∈jB env) { s1 with heap:=h',toks:=tk } s3:=wZ.mono fun b hb=>by exact hb
   have lS:=fc.kw _ _ _ _ _ _ lT w9 zG qF.hP xd.pre.gr.tab
   have pW:SrcR C (A.deeper env) (.Name "element" (p 18)) ([I0]++Yl) I0 [I0] ds s3.heap:=pX.more (Zs:=[]) (fun b hb=>by cases hb) (fun b hb=> .inr hb) fun b o hb e=>by
    show w9.heap (fun e'=> ?_) (fun hz=> ?_) e
    .rcases hb with hb|hb
     .exact pD.ne b hb e'
     .exact hb (e'▸qF.hP)
    .rcases hb with hb|hb
     .exact hIn (wY _ (jw.mp hb▸hz))
     .exact hb (zG b hz).1
   have sh:jA l1 "element" (.val d) "function"=some (.val (.opq (.ref af))):=by
    exact(mz kD).trans lf1
   have lv3:jA l1 "element" (.val d) "value"=some (.val (.opq v)):=by
    exact(mz kD).trans lv1
   have iK:jA l1 "element" (.val d) "element"=some (.val d):=by
    exact sQ
   have oy:KW C (fun b=>b∈[I0]\/b∈jB env\/ZF b) s s3:=gj.trans ((vR.mono fun b hb=>jQt (by simp[hb])).trans (w9.mono fun b hb=>jQs (jQt hb)))
   show jM0 (zv (n:=n) (k:=false) (by rfl) ?_)
   show jOw rfl (pE yM sh kD kD ?_)
   show qA (fc.fobj _ _ _ _ lS) fun of fd hof hofd=> ?_
   show jOu (o:=of) (fd:=fd) (jNg (jNf (yN yM lv3 kD kD fun u ru=>jNf (yN yM iK kD kD fun e' re=>jN3 ⟨⟨hof,hofd⟩,?_⟩))))
   have hu:u=v:=_m.R.opq_inv ru
   rw[hu]
   have aQ:y0 n (A.deeper env):=fs.pre.a
   show fc.call env ([I0]++Yl) j v e' d s3 _ aQ yM.pre.gr yM.hP (fun a ha=>yM.pre.hY a (by exact ha)) (fun a ha=>yM.pre.hYs a (by exact ha)) (fun a ha=>ju _ (tV a ha)) lS eI re yM.pre.eo.kind uA (zG env.locals jy).1 (zG env.locals jy).2 yM.pre.fm.ns fun v' s4 zM pn aM=> ?_
   have hzY:∀b,ZF b\/b=env.locals->b∈[I0]++Yl:=fun b hb=>by
    rcases hb with hb|hb
    .exact ju _ (tV b (fc.zf b hb))
    .exact hb▸(zG env.locals jy).1
   have bx:∀p∈env.cells,p.2≠env.locals:=fun p hp e=>by
    show dD yM.pre.fm.ns fun m o es ep ho yL _=> ?_
    show qA (yM.pre.fm.cl p hp) fun v o' ho' hd''=> ?_
    rw[e,ho] at ho';replace ho':=jX ho';subst ho';rw[yL] at hd'';cases hd''
   have zC:=yM.out' zM hzY (fun _=>pn) fun p hp hz=>by
    rcases hz with hz|hz
    .exact(su _ hz).2.2 p hp rfl
    .exact bx p hp hz
   show ta ([I0]++Yl) [] _ (.opq v') zC (.inl (ki "value" kD)) (.opq v') (fun s5 fV oG=> ?_)
   have uE:KW C (·∈jB env) s4 s5:=fV.mono fun b hb=>by exact hb
   have hI5:=fc.kw _ _ _ _ _ _ aM uE zG qF.hP zC.pre.gr.tab
   have src5:SrcR C (A.deeper env) (.Name "element" (p 18)) ([I0]++Yl) I0 [I0] ds s5.heap:=pW.more (Zs:=[]) (fun b hb=>by cases hb) (fun b hb=> .inr hb) fun b o hb e=>by
    have cM:b≠C.P:=fun e'=>by
     rcases hb with hb|hb
     .exact pD.ne b hb e'
     .exact hb (e'▸qF.hP)
    show uE.heap cM (fun hz=> ?_) (zM.heap cM (fun hz=> ?_) e)
    .rcases hb with hb|hb
     .exact hIn (wY _ (jw.mp hb▸hz))
     .exact hb (zG b hz).1
    .rcases hb with hb|hb
     .replace hb:=jw.mp hb
      rcases hz with hz|hz
      .exact(su b hz).1 hb
      .exact tW (hb.symm.trans hz)
     .exact hb (hzY b hz)
   show jNj ⟨m - 1,by lia,j+1,v',_,by lia,oG,?_,?_,hI5,vF▸src5,oy.trans ((zM.mono fun b hb=>hb.elim (fun hb=>jQs (jQs hb)) fun hb=>jQs (jQt (hb▸jy))).trans (uE.mono fun b hb=>jQs (jQt hb)))⟩
   .exact(mz kD).trans sh
   .exact sQ
  .intro rr s2 gO
   show jE gO ?_;clear gO;rintro v rfl hh
   exact ne hh
theorem jCb{ad:Addr}{items:Array Value}{Q:qN}(hl:s.heap.IsList ad items)
  (q:Q (.ref s.heap.objs.size) { s with heap:=s.heap.push { cls:= .type "list_iterator",data:= .fields #[.ref ad,.int 0 0] } }):wpAny C.M A (call (.builtin "iter") [.ref ad]) Q E s:=by
 show call_function_entry (by decide+kernel) (by decide+kernel) kdk_entry_iter (kdk_args_iter _) ?_
 unfold Builtin.«iter»
 show jMq (m:=someArgs "iter" 1 2 _) (jQ2 (a:=[.ref ad]) (by first|rfl|kernel_rfl!) ?_)
 show(?_:wpAny _ _ (pyIter (.ref ad) >>=_) _ _ _)
 exact jMq (jSe hl (jMr ⟨_,rfl,q⟩))
structure RMid(C:Cx)(n:Nat)(mC:Around)(env:Env)(Yl:List Addr)(I0 af ad:Addr)(I:List Addr->Nat->Value->Shared->Prop)(vs:List Value)(ds its:List D)(v0:Value)(ZT:Addr->Prop)(i0:Nat)(l5:jN)(s s5:Shared):Prop where
 fs:FS C n false mC env ([I0]++Yl) [] l5 s5
 lf:l5 "function"=some (.val (.opq (.ref af)))
 li:l5 "it"=some (.val (.opq (.ref I0)))
 lv:l5 "value"=some (.val (.opq v0))
 inv:I ([I0]++Yl) 0 v0 s5
 it:s5.heap.IsListIter I0 ad i0
 list:s5.heap.IsList ad vs.toArray
 rs:qM C s5.heap ([I0]++Yl) vs ds
 its:ds.drop i0=its
 i0:i0<=ds.length
 kw:KW C ZT s s5
theorem jFb{af I0 ad:Addr}{I:List Addr->Nat->Value->Shared->Prop}{its ds:List D}{ZF:Addr->Prop}{s0:Shared}{Y0 Yl:List Addr}{fn:Fn}(fc:fT C n A af I its ZF s0 Y0){p:Nat->Pos}{i0:Nat}{l5:jN}{s5:Shared}{vs:List Value}{v0:Value}{Q:wc}
  (hh:A.handled=none) (uA:env.frame=some env.locals) (qE:env.scope=fn.scope) (rf:o8 fn) (tV:∀a∈Y0,a∈Yl) (hIn:I0∉Yl) (hP:C.P∈Yl) (hc:∀p∈env.cells,p.2∈Yl) (wY:∀a∈jB env,a∈Yl) (oI:Own C [I0] s5.heap)
  (zN:∀b,(b∈[I0]\/b∈jB env)->s0.heap.get? b=none) (su:∀b,ZF b->b≠I0/\b≠env.locals/\(∀p∈env.cells,p.2≠b)) (pv:ad∉[I0]++Yl)
  (m:RMid C n (A.deeper env) env Yl I0 af ad I vs ds its v0 (fun b=>b∈[I0]\/b∈jB env\/ZF b) i0 l5 s s5)
  (q:∀v s1 s2,KW C (fun b=>b∈[I0]\/b∈jB env\/ZF b) s s1->KJ C [I0] s1 s2->I Y0 its.length v s2->Q (.ret v) s2):
  wpAny C.M (A.deeper env) (execs (iD p) env) Q E s5:=by
 obtain⟨fs,lf,li,lv,inv,it,list,rs,hits,hi0,kw⟩:=m
 have hPY:∀b∈[I0],b∈[I0]++Yl:=fun b hb=>xP _ hb
 show jM0 (wpAny_For (ne (pE fs li kD kD ?_)) (by intro _;rfl))
 show wpAny_pyIter_listiter it ?_
 have hlen:=rs.length
 have hIad:ad≠I0:=fun e=>pv (by simp[e])
 show qk (id it) fun oit nh hcit hdit=> ?_
 show jE (id list) fun oad hoad _=> ?_
 have itr:gm C (A.deeper env) ([I0]++Yl) I0 its s5.heap:=by
  show⟨_,_,_,_,i0,Walks.list (A:=A.deeper env) hh I0 ad hIad vs.toArray,⟨it,list⟩,?_,⟨fun b hb=> ?_,fun b hb=> ?_⟩,?_,?_⟩
  .rw[<-hits];simp[hlen];lia
  .simp at hb
   rcases hb with e0|rfl
   .rw[e0];exact .inl rfl
   .exact .inr pv
  .simp at hb
   rcases hb with e0|rfl
   .rw[e0];exact⟨_,nh⟩
   .exact⟨_,hoad⟩
  .rintro j h ⟨⟨o,ho,hc,_⟩,_⟩;exact⟨o,ho,.inl hc⟩
  .intro j v hv d hd
   have hv:vs[i0+j]? =some v:=by simpa using hv
   show jE (rs.getV hv) fun d' yL hr=> ?_
   rw[<-hits,List.getElem?_drop] at hd
   rw[hd] at yL;replace yL:=jX yL;subst yL
   exact hr
 show jFc fc uA qE rf fs tV hIn hP hc wY oI zN su lf ⟨v0,lv,inv⟩ (SrcR.ofIt (by simp) itr) fun v s6 s7 l7 lu kj pR lv7 inv7=> ?_
 show jM0 (ne (jP5 (E:=NE) (pE pR lv7 kD kD ?_)))
 exact q _ s6 s7 (kw.trans lu) kj (fc.sub Yl Y0 _ _ _ inv7 tV fun a ha=>ha)
theorem jAm{af ar:Addr}{I:List Addr->Nat->Value->Shared->Prop}{its ds:List D}{ZF:Addr->Prop}{sv v0:Value}{args:List Value}{Q:qN}(bs:Base C)(g:Gr C s)(hP:C.P∈Y)(hY:∀a∈Y,C.g0.get? a=none)(hYs:∀a∈Y,∃o,s.heap.get? a=some o)
  (hm:C.mg "reduce"=some (.ref ar)) (room:xv n A) (fc:fT C n A af I its ZF s Y) (hI:I Y 0 v0 s) (ay:RD C s.heap Y sv (.list ds))
  (mY:(args=[.ref af,sv,v0]/\ds=its/\((∃x o,v0= .ref x/\s.heap.get? x=some o/\(o.cls= .type "list"\/o.cls= .type "tuple"))\/∃i t,v0= .int i t))\/
   (args=[.ref af,sv]/\∃a,ds=a::its/\∃l0 vs m,sv= .ref l0/\s.heap.get? l0=some (j4 (v0::vs) m)))
  (q:∀v s',KW C ZF s s'->I Y its.length v s'->Q v s'):wpAny C.M A (call (.ref ar) args) Q E s:=by
 show mJ bs fun fn ar' o pm code doc dt ai fU nt oi rf pI ho hd fg hdt hdtd hmi hai haic=> ?_
 rw[Value.ref.inj (jX (pI.symm.trans hm))] at ho;clear pI
 have ok:=wH rf.ok
 obtain⟨_,_,_,_,hpar⟩:=rf.params
 have ub:fn.params.args.map (·.arg)=(["function","sequence","initial"]:List Str):=rf.names
 have pq:=room.depth
 show ja ay.list_inv ?_;rintro ad vs mv rfl hadv rs0
 obtain⟨nv,pv⟩:=jG hadv
 obtain⟨iv,hbind,wo⟩:∃iv,(∀(R:nF->Shared->Prop),R (fn.names.zip [.ref af,.ref ad,iv]) s->wpAny C.M A.in1 (bindArgs { docDef "reduce" fn.params fn.body fn.scope pm code doc with defaults:= .ref dt } ⟨args,[]⟩) R (fun e s'=>E e s') s)/\
   ((iv=v0/\ds=its/\((∃x o,v0= .ref x/\x≠ai/\s.heap.get? x=some o)\/∃i t,v0= .int i t))\/(iv= .ref ai/\∃a vT,ds=a::its/\vs=v0::vT)):=by
  rcases mY with ⟨rfl,h1,h2⟩|⟨rfl,a,h1,l0,vT,m',h2,h3⟩
  .show⟨v0,fun R hR=>jG4 (fd:={ docDef "reduce" fn.params fn.body fn.scope pm code doc with defaults:= .ref dt }) hpar rfl (g.keep _ _ hdt) hdtd (by rw[rf.names] at hR;exact hR),.inl ⟨rfl,h1,?_⟩⟩
   rcases h2 with ⟨x,ox,h2,h3,h4⟩|h2
   .show .inl ⟨x,ox,h2,fun e=> ?_,h3⟩
    have:=g.keep _ _ hai
    rw[<-e,h3] at this
    replace this:=jX this;subst this
    rw[haic] at h4
    rcases h4 with h4|h4 <;> (injection h4 with h4;exact absurd h4 kD)
   .exact .inr h2
  .show⟨.ref ai,fun R hR=>jDu (fd:={ docDef "reduce" fn.params fn.body fn.scope pm code doc with defaults:= .ref dt }) hpar rfl (g.keep _ _ hdt) hdtd (by rw[rf.names] at hR;exact hR),.inr ⟨rfl,a,vT,h1,?_⟩⟩
   cases h2
   rw[nv] at h3
   simp only[j4,Option.some.injEq,Obj.mk.injEq,Data.seq.injEq] at h3
   exact jM8 Array.toList h3.2.2.1.1
 show jQd (jO4 (fd:={ docDef "reduce" fn.params fn.body fn.scope pm code doc with defaults:= .ref dt }) (body:=fn.body) (by have:recursionLimit=1000:=rfl;lia) (g.keep _ _ ho) hd ok.co ok.gen rfl (fg.keeps g.keep) ?_)
 show hbind _ (ne ?_)
 have hb:∃l0,xu fn.names [.opq (.ref af),.opq (.ref ad),.opq iv]=some l0:=by rw[rf.names];exact⟨_,rfl⟩
 obtain⟨l0,hb⟩:=hb
 have vE:∀x,l0 x=((fn.names.zip [D.opq (.ref af),.opq (.ref ad),.opq iv]).lookup x).map .val:=xm hb
 rw[rf.names] at vE
 have lf0:l0 "function"=some (.val (.opq (.ref af))):=by rw[vE];rfl
 have aX:l0 "sequence"=some (.val (.opq (.ref ad))):=by rw[vE];rfl
 have li0:l0 "initial"=some (.val (.opq iv)):=by rw[vE];rfl
 show zZ (k:=false) (n:=n) (A:=A) ok bs g hP hY hYs (fun env=>room.deeper) hb (.cons (.opq _) (.cons (.opq _) (.cons (.opq iv) .nil))) (fun h=>by exact zf h) fun env s1 zU qF wd hcn qE uA=>⟨bs.nolimit.keeps (g.kp bs zU).keep,jQq ?_⟩
 have hfresh:∀a,s1.heap.get? a=none->s.heap.get? a=none:=fun a ha=>xM zU.kw g.tab (Z:=fun _=>False) ha
 have eT:I (jB env++Y) 0 v0 s1:=fc.more Y (jB env++Y) (jB env) 0 v0 s s1 hI zU wd (fun a ha=>qF.pre.hYs a (ju _ (xP _ ha))) (fun a ha=>jj.mp ha) (fun a ha=>ju _ ha) hP
 have ez:qM C s1.heap (jB env++Y) vs ds:=qM.moreL zU hP wd (fun a ha=>jj.mp ha) rs0
 have px:ad≠C.P:=fun e=>pv (e▸hP)
 have tM:=zU.heap px nv
 have ny:ad∉jB env:=fun hm=>by rw[wd ad hm] at nv;exact zn nv
 have hadYl:ad∉jB env++Y:=fun hm=>(jj.mp hm).elim ny pv
 have ki:∀x∈(["function","sequence","initial","it","value","element"]:List Str),env.kindOf x=some .local:=fun x hx=>by
  show(?_:env.scope.names.lookup x=_)
  rw[qE];exact rf.loc x hx
 have sA:∀x∈(["iter","next","_initial_missing"]:List Str),env.kindOf x=some .globalImplicit:=fun x hx=>by
  show(?_:env.scope.names.lookup x=_)
  rw[qE];exact rf.glb x hx
 obtain⟨p,h0,hs,kn⟩:=rf.shape
 rw[kn]
 show jM0 (zv (n:=n) (k:=false) (by rfl) ?_)
 show jOw rfl (qi (v:= .builtin "iter") qF.pre (sA "iter" kD) kD boot_iter kD ?_)
 show jO0 rfl (jNg (jNf (pE qF aX kD kD (jN3 ?_))))
 have hlist1:s1.heap.IsList ad vs.toArray:=⟨_,tM,rfl,mv,rfl⟩
 show jCb hlist1 ?_
 generalize gM:({ s1 with heap:=s1.heap.push { cls:= .type "list_iterator",data:= .fields #[.ref ad,.int 0 0] } }:Shared)=s2
 generalize lU:s1.heap.objs.size=I0
 have nz:s1.heap.get? I0=none:=lU▸qy _
 have yb:KP C s1 s2:=by rw[<-gM];exact KP.of nL fun b o e=>vK _ e
 have nq:s2.heap.get? I0=some { cls:= .type "list_iterator",data:= .fields #[.ref ad,.int 0 0] }:=by rw[<-gM,<-lU];exact jMw _ rfl
 have pN:∀a∈[I0],s1.heap.get? a=none:=m1 nz
 have lR:∀a∈[I0],∃o,s2.heap.get? a=some o:=m1 ⟨_,nq⟩
 have xd:FS C n false (A.deeper env) env ([I0]++(jB env++Y)) [] l0 s2:=qF.moreJ yb pN lR
 have hIn:I0∉jB env++Y:=fun hm=>by obtain⟨o,e⟩:=qF.pre.hYs I0 (ju _ hm);rw[nz] at e;exact zn e
 have lT:I ([I0]++(jB env++Y)) 0 v0 s2:=fc.more (jB env++Y) ([I0]++(jB env++Y)) [I0] 0 v0 s1 s2 eT yb pN lR (fun a ha=>jj.mp ha) (fun a ha=>ju _ ha) qF.hP
 have ey:qM C s2.heap ([I0]++(jB env++Y)) vs ds:=qM.moreL yb qF.hP pN (fun a ha=>jj.mp ha) ez
 have hadI:ad≠I0:=fun e=>by rw[e,nz] at tM;exact zn tM
 have hadY2:ad∉[I0]++(jB env++Y):=fun hm=>(jj.mp hm).elim (fun h=>hadI (jw.mp h)) hadYl
 have hado2:=yb.heap px tM
 have nU:s.heap.get? I0=none:=hfresh I0 nz
 have zN:∀b,(b∈[I0]\/b∈jB env)->s.heap.get? b=none:=fun b hb=>hb.elim (m1 (P:=fun b=>s.heap.get? b=none) nU b) (wd b)
 have tW:I0∉jB env:=fun hm=>hIn (xP _ hm)
 have hzex:∀b,ZF b->∃o,s.heap.get? b=some o:=fun b hb=>hYs b (fc.zf b hb)
 have su:∀b,ZF b->b≠I0/\b≠env.locals/\(∀p∈env.cells,p.2≠b):=fun b hb=>by
  obtain⟨o,ho⟩:=hzex b hb
  show⟨fun e=> ?_,fun e=> ?_,fun p hp e=> ?_⟩
  .rw[e,nU] at ho;exact zn ho
  .rw[e,wd _ jy] at ho;exact zn ho
  .rw[<-e,wd _ (hcn p hp)] at ho;exact zn ho
 show ta ([I0]++(jB env++Y)) [] l0 (.opq (.ref I0)) xd (.inl (ki "it" kD)) (.opq _) (fun s3 wZ yM=> ?_)
 have zG:∀b,b∈jB env->b∈[I0]++(jB env++Y)/\s.heap.get? b=none:=fun b hb=>⟨ju _ (xP _ hb),wd b hb⟩
 have o6:∀b,b=I0->b∈[I0]++(jB env++Y)/\s.heap.get? b=none:=fun b hb=>⟨by simp[hb],hb▸nU⟩
 have w9:KW C (·∈jB env) s2 s3:=wZ.mono fun b hb=>by exact hb
 have lS:=fc.kw _ _ _ _ _ _ lT w9 zG xd.hP xd.pre.gr.tab
 have rs3:qM C s3.heap ([I0]++(jB env++Y)) vs ds:=qM.kw w9 xd.hP (fun b hb=>(zG b hb).1) ey
 have mZ:=w9.heap px ny hado2
 have mA:I0≠C.P:=fun e=>by obtain⟨oo,ho'⟩:=hYs C.P hP;rw[<-e,nU] at ho';exact zn ho'
 have hit3:=w9.heap mA tW nq
 have oI2:Own C [I0] s2.heap:=by
  rw[<-gM]
  exact Own.fresh qF.pre.gr.tab (m1 mA) (fun b o e=>vK _ e) pN (m1 (by rw[<-lU];exact⟨_,jMw _ rfl⟩))
 have iE:Own C [I0] s3.heap:=oI2.kw xd.pre.gr.tab w9
 have cn:KW C (fun b=>b∈[I0]\/b∈jB env\/ZF b) s s3:=((KP.kw (zU.trans yb)).trans (w9.mono fun b hb=>jQs (jQt hb)))
 have fin:∀v s6 s7,KW C (fun b=>b∈[I0]\/b∈jB env\/ZF b) s s6->KJ C [I0] s6 s7->I Y its.length v s7->Q v s7:=fun v s6 s7 kw kj hI=>by
  have kw7:KW C (fun b=>b∈jB env\/ZF b) s s7:=kw.lastJ (J:=[I0]) (m1 nU) kj fun b hb=>Or.symm hb
  exact q v s7 ((KW.refl (Z:=ZF) s).transNew kw7 fun b hb=>hb.elim (fun hb=> .inr (wd b hb)) .inl) hI
 have tail:∀(i0:Nat) (l5:jN) (s5:Shared) (E5:qN),RMid C n (A.deeper env) env (jB env++Y) I0 af ad I vs ds its v0 (fun b=>b∈[I0]\/b∈jB env\/ZF b) i0 l5 s s5->Own C [I0] s5.heap->
   wpAny C.M (A.deeper env) (execs (iD p) env) (fun f s'=>match f with
    | .ret v=>Q v s'
    |_=>False) E5 s5:=fun i0 l5 s5 E5 rm oI5=>by
  show jFb fc room.handled uA qE rf (fun a ha=>ju _ ha) hIn (ju _ hP) (fun p hp=>xP _ (hcn p hp)) (fun a ha=>xP _ ha) oI5 zN su hadY2 rm fun v s6 s7 kw kj hI=>fin v s6 s7 kw kj hI
 have iI:jA l0 "it" (.val (.opq (.ref I0))) "initial"=some (.val (.opq iv)):=(mz kD).trans li0
 have sh:jA l0 "it" (.val (.opq (.ref I0))) "function"=some (.val (.opq (.ref af))):=(mz kD).trans lf0
 have lj:jA l0 "it" (.val (.opq (.ref I0))) "it"=some (.val (.opq (.ref I0))):=sQ
 generalize jA l0 "it" (.val (.opq (.ref I0)))=l3 at iI sh lj yM
 have hai3:=yM.pre.gr.keep _ _ hai
 show jM0 (wpAny_If (ne (jRt (pE yM iI kD kD (qh yM.pre (sA "_initial_missing" kD) hmi kD ?_)))))
 rcases wo with ⟨rfl,vF,mi⟩|⟨hiv,a,vT,vF,aw⟩
 .show jLl hai3 (by rw[haic];intro h;injection h with h;exact absurd h kD) ?_ (jOs ?_)
  .rcases mi with ⟨x,ox,h1,h2,h3⟩|h
   .obtain⟨o3,h4⟩:=cn.exs g.tab ⟨ox,h3⟩
    exact .inl ⟨x,o3,h1,h2,h4⟩
   .exact .inr h
  .simp only[Bool.false_eq_true,if_false]
   show jM0 (zv (n:=n) (k:=false) (by rfl) (pE yM iI kD kD ?_))
   show ta ([I0]++(jB env++Y)) [] l3 (.opq _) yM (.inl (ki "value" kD)) (.opq _) (fun s4 zM zC=>jNj ?_)
   have uU:KW C (·∈jB env) s3 s4:=zM.mono fun b hb=>by exact hb
   show jNh (tail 0 _ s4 _ ⟨zC,?_,?_,?_,fc.kw _ _ _ _ _ _ lS uU zG xd.hP yM.pre.gr.tab,⟨_,uU.heap mA tW hit3,rfl,rfl⟩,⟨_,uU.heap px ny mZ,rfl,mv,rfl⟩,qM.kw uU xd.hP (fun b hb=>(zG b hb).1) rs3,vF,jQk _,cn.trans (uU.mono fun b hb=>jQs (jQt hb))⟩ (iE.kw yM.pre.gr.tab uU)) (fun f s' hf=> ?_) fun _ _ x=>x
   .exact(mz kD).trans sh
   .exact(mz kD).trans lj
   .exact sQ
   .cases f with
    |ret v=>exact hf
    |next=>exact hf.elim
    |brk=>exact hf.elim
    |cont=>exact hf.elim
 .subst hiv
  show wpAny_is_ref_self (jOs ?_)
  simp only[if_true]
  show jM0 (wpAny_Try_except (jM0 (zv (n:=n) (k:=false) (by rfl) ?_)))
  show jOw rfl (qi (v:= .builtin "next") yM.pre (sA "next" kD) kD boot_next kD ?_)
  show jO0 rfl (jNg (jNf (pE yM lj kD kD (jN3 ?_))))
  show jCa (i:=0) (items:=vs.toArray) (x:=v0) ⟨_,hit3,rfl,rfl⟩ ⟨_,mZ,rfl,mv,rfl⟩ (by rw[aw];rfl) fun h' fz hs=> ?_
  show qk (id fz) fun oit nh hcit hdit=> ?_
  have zM:KW C (·=I0) s3 { s3 with heap:=h' }:=KW.one (tk:=s3.toks) nL rfl mA (iE.code I0 yS) (fun b o hb e=>by rw[hs.2 b hb];exact e) ⟨_,nh⟩
  have hIl':¬env.locals=I0:=fun e=>tW (e▸jy)
  have zC:=yM.out zM (fun b hb=>(o6 b hb).1) hIl' fun q hq e=>tW (e▸hcn q hq)
  have aM:=fc.kw _ _ _ _ _ _ lS zM o6 xd.hP yM.pre.gr.tab
  show ta ([I0]++(jB env++Y)) [] l3 (.opq v0) zC (.inl (ki "value" kD)) (.opq _) (fun s5 fV oG=>jNj (jNj (jNj ?_)))
  have uE:KW C (·∈jB env) { s3 with heap:=h' } s5:=fV.mono fun b hb=>by exact hb
  have rs4:qM C h' ([I0]++(jB env++Y)) vs ds:=qM.kw zM xd.hP (fun b hb=>(o6 b hb).1) rs3
  have e1:h'.get? ad=some (j4 vs mv):=by rw[hs.2 ad hadI];exact mZ
  show jNh (tail 1 _ s5 _ ⟨oG,?_,?_,?_,fc.kw _ _ _ _ _ _ aM uE zG xd.hP zC.pre.gr.tab,⟨_,uE.heap mA tW nh,hcit,hdit⟩,⟨_,uE.heap px ny e1,rfl,mv,rfl⟩,qM.kw uE xd.hP (fun b hb=>(zG b hb).1) rs4,by rw[vF];rfl,by rw[vF];simp,cn.trans ((zM.mono fun b hb=>jQt (by simp[hb])).trans (uE.mono fun b hb=>jQs (jQt hb)))⟩ ((iE.kw yM.pre.gr.tab zM).kw zC.pre.gr.tab uE)) (fun f s' hf=> ?_) fun _ _ x=>x
  .exact(mz kD).trans sh
  .exact(mz kD).trans lj
  .exact sQ
  .cases f with
   |ret v=>exact hf
   |next=>exact hf.elim
   |brk=>exact hf.elim
   |cont=>exact hf.elim
theorem jB4{pos:Pos}{a b:Int}{c cv:Value}(l:List Value)(h:TriplesOk l)(hs:codeAmong pos (l++[rawInt a,rawInt b,c])=some cv):codeAmong pos l=some cv\/cv=c:=by
 fun_induction TriplesOk l with
 |case1=>
  simp only[List.nil_append,codeAmong,rawInt] at hs
  revert hs;show vS fun _ hs=> ?_
  .replace hs:=jX hs;subst hs;exact .inr rfl
 |case2 a' t b' u x rest ih=>
  simp only[List.cons_append,codeAmong] at hs ⊢
  revert hs;show yT (fun hc hs=> ?_) fun hc hs=> ?_
  .rw[jMt hc];exact .inl hs
  .rw[jMv hc];exact ih h hs
 |case3 l h1 h2=>exact h.elim
theorem jMk{pos:Pos}{cv:Value}(l:List Value)(h:TriplesOk l)(hs:codeAmong pos l=some cv):∀x t,l[1]? ≠some (.str x t):=by
 intro x t e
 induction l using cL with
 |nil=>exact nn e
 |cons a l=>
  induction l using cL with
  |nil=>exact nn e
  |cons b l=>
   obtain rfl:=jX (show some b=some (.str x t) from e)
   induction a using cV with
   |_=>exact(h:False)
end
section
variable{C:Cx}{n:Nat}{r:Ev}{k:Bool}{A:Around}{env:Env}{Y Y' W J:List Addr}{OL N:yR}{l l':Loc}{s s' k7 s1 s2:Shared}{Z Z':Addr->Prop}
theorem qL.row{h h':Heap}{c':Addr}{ps:Array Value}{a b:Int}(hP:h.get? C.P=some (tabObj ps))(hk:∀b o,b≠C.P->h.get? b=some o->h'.get? b=some o)(tu:h'.get? C.P=some (tabObj (ps++ #[rawInt a,rawInt b,.ref c'])))(hr:h'.CodeRec (.ref c') C.lq)(hn:h.get? c'=none):qL C h h':=fun x=>by
 obtain⟨tf,h1,h2,h3⟩:=x
 rw[hP] at h1
 simp only[tabObj,Option.some.injEq,Obj.mk.injEq,Data.fields.injEq,true_and,and_true] at h1
 subst h1
 have e:(ps++ #[rawInt a,rawInt b,.ref c']).toList=ps.toList++[rawInt a,rawInt b,.ref c']:=by simp
 show⟨⟨_,tu,by rw[e];exact TriplesOk_snoc a b _ _ h2,fun pos cv hc=> ?_⟩,fun c hc=> ?_⟩
 .rw[e] at hc
  rcases jB4 _ h2 hc with hc|rfl
  .show oN (h3 pos cv hc) ?_;rintro c o vs t rfl ho hd hv
   show ta c o vs t rfl (hk c o (fun e'=> ?_) ho) hd hv
   subst e'
   rw[hP] at ho;replace ho:=jX ho;subst ho
   simp only[tabObj,Data.fields.injEq] at hd
   subst hd
   exact jMk _ h2 hc C.lq t (by simpa using hv)
  .exact hr
 .show qA hc fun ps2 pos e1 e2=> ?_;clear hc
  rw[tu] at e1
  simp only[tabObj,Option.some.injEq,Obj.mk.injEq,Data.fields.injEq,true_and,and_true] at e1
  subst e1
  rw[e] at e2
  rcases jB4 _ h2 e2 with h|h
  .exact .inl ⟨ps,pos,hP,h⟩
  .cases h;exact .inr hn
structure tO(k:Bool)(sc:Scope)(ps:Arguments)(qa:Scope):Prop where
 k:k=true
 plain:zl ps=true
 d1:ps.defaults=[]
 d2:ps.kw_defaults=[]
 co:qa.isCoroutine=false
 gen:qa.isGenerator=false
 kind:qa.kind= .function
 nodup:(qa.names.map (·.1)).Nodup
 par:∀a∈ps.args,qa.names.lookup a.arg=some .local\/qa.names.lookup a.arg=some .cell
 free:∀p∈qa.names,p.2= .free->sc.names.lookup p.1=some .cell\/sc.names.lookup p.1=some .free
theorem jKy{sc qa:Scope}{ps:Arguments}{body:Expr}{pos:Pos}(h:vH k sc (.Lambda ps body qa pos)=true):tO k sc ps qa:=by
 replace h:rR k sc ps qa=true:=h
 unfold rR at h
 simp only[Bool.and_eq_true,Bool.not_eq_true',decide_eq_true_eq,List.all_eq_true,List.isEmpty_iff] at h
 obtain⟨⟨⟨⟨⟨⟨⟨⟨⟨h0,h1⟩,h2⟩,h3⟩,h4⟩,h5⟩,h6⟩,h7⟩,h8⟩,h9⟩:=h
 exact⟨h0,h1,h2,h3,h4,h5,h6,h7,h8,h9⟩
noncomputable abbrev fP(C:Cx)(ps:Arguments)(body:Expr)(qa:Scope)(clos:yR)(pm fk:Value)(c':Addr):FuncData:=kla_fn "<lambda>" C.lq ps body qa clos pm (.ref c') fk
theorem jLf{ps:Arguments}{body:Expr}{qa:Scope}{pos:Pos}{Q:qN}(p:Pre C n k A env Y l s)(ok:tO k env.scope ps qa)
  (q:∀f c' pm fk s',KP C s s'->s.heap.get? f=none->s'.heap.get? f=some { cls:= .type "function",data:= .func (fP C ps body qa (qe env.cells qa.names []) pm fk c') }->s'.heap.CodeRec (.ref c') C.lq->Q (.ref f) s'):
  wpAny C.M A (eval (.Lambda ps body qa pos) env) Q NE s:=by
 have hdef:defaultsOf ps env=([],[]):=by
  obtain⟨a1,a2,a3,a4,a5,a6,a7⟩:=ps
  have h1:a7=[]:=ok.d1
  have h2:a5=[]:=ok.d2
  subst h1 h2;rfl
 obtain⟨hcode,hqual⟩:=p.eo.lam ok.k
 show kla_eval hdef ?_
 have hclos:closureFor qa env=pure (qe env.cells qa.names []):=zT fun q hq hf=>p.eo.cells q.1 (ok.free q hq hf)
 obtain⟨fv,hP,htr,hrec⟩:=p.gr.tab
 have hd:CodeHd s.heap C.c C.P:=p.bs.hd.keeps p.gr.keep
 have hg:=p.gr.globals p.bs
 obtain⟨bm,ob,b1,b2,b3,b4,b5,b6,b7⟩:=p.bs.bat
 have cM:bm≠C.P:=fun e=>by rw[e,p.bs.hP] at b4;exact zn b4
 have hbat:s.heap.BuiltinsAt C.mg C.P:=⟨bm,ob,b1,b2,b3,cM,p.gr.keep _ _ b4,b5,b6,b7⟩
 have hgP:mainGlobals≠C.P:=fun e=>by
  show oO p.bs.g fun o es ep ho _=> ?_
  rw[e,p.bs.hP] at ho;exact zn ho
 rw[hqual]
 generalize hc:codeAmong pos fv.toList=x0;induction x0 using cO with
 |none=>
  show yA (kla_makeFunction hclos p.eo.glob hg hcode hd hP htr hc hgP hbat fun c' fk h' tk hx fe jv fg ti ht=> ?_)
  have hcn:s.heap.get? c'=none:=none_of fun⟨o,e⟩=>absurd (jM1 e) (jN9.mpr fe)
  have wm:∀b o,b≠C.P->s.heap.get? b=some o->(h'.push (kla_obj "<lambda>" C.lq ps body qa (qe env.cells qa.names []) ((C.mg "__name__").getD .none) c' fk)).get? b=some o:=fun b o hb e=>vK _ (hx b o hb e)
  show q h'.objs.size c' _ fk _ ⟨_,tk,rfl,ht,wm,qL.row hP wm (vK _ ti) (fg.push _) hcn⟩ ?_ (jMw _ rfl) (fg.push _)
  exact none_of fun⟨o,e⟩=>by
   have h1:=jM1 e
   have h2:s.heap.objs.size<h'.objs.size:=jM7 fe jv
   exact jNp _ (jPf h1 h2)
 |some cv=>
  show yA (kla_makeFunctionHit hclos p.eo.glob hg hcode hd hP htr hc hbat fun fk h' tk hk ku ht=> ?_)
  have fg:=hrec pos cv hc
  show oN (id fg) ?_;rintro c' oc vs t rfl ho hdd hv
  show q h'.objs.size c' _ fk _ (KP.of ht fun b o e=>vK _ (hk b o e)) ?_ (jMw _ rfl) ((fg.keeps hk).push _)
  exact none_of fun⟨o,e⟩=>absurd (jM1 e) (jN9.mpr ku)
theorem jBa{y:Str}{xs:List Str}{ds:List D}{l0:Loc}(h:yX l0 (y::xs) ds=some l):∃d fE l1,ds=d::fE/\yX l0 xs fE=some l1/\l=jA l1 y d:=by
 induction ds using List.casesOn with
 |nil=>exact nn h
 |cons d ds=>exact mE (show (yX l0 xs ds).map (fun l=>jA l y d)=some l from h) fun l1 h0 e=>⟨d,ds,l1,rfl,h0,e.symm⟩
theorem jB1{ds:List D}{l0:Loc}(h:yX l0 [] ds=some l):ds=[]/\l=l0:=by
 induction ds using List.casesOn with
 |nil=>exact⟨rfl,(jX h).symm⟩
 |cons _ _=>exact nn h
theorem jCp{xs:List Str}:∀{ds:List D} {l0 l1:Loc},yX l0 xs ds=some l1->∀x,l1 x=((xs.zip ds).lookup x).or (l0 x):=by
 induction xs with
 |nil=>intro ds l0 l1 h x;obtain⟨rfl,rfl⟩:=jB1 h;rfl
 |cons y xs ih=>
  intro ds l0 l1 h x
  show ja (jBa h) ?_;rintro d fE l2 rfl h0 rfl
  unfold jA
  rw[jNy,jMz]
  by_cases e:x=y
  .subst e;simp
  .rw[jMv e,jNn.mpr e,ih h0 x]
theorem jG5{xs:List Str}:∀{ds:List D} {l0 l1:Loc},yX l0 xs ds=some l1->xs.length=ds.length:=by
 induction xs with
 |nil=>intro ds l0 l1 h;rw[(jB1 h).1];rfl
 |cons y xs ih=>
  intro ds l0 l1 h
  show ja (jBa h) ?_;rintro d fE l2 rfl h0 rfl
  exact jM8 (·+1) (ih h0)
set_option tactic.hygienic true in
theorem jLh{m:Nat}{B:Around}(S:SE C m r){ps:Arguments}{body:Expr}{qa:Scope}{f c':Addr}{pm fk:Value}{as:List D}{vs:List Value}{d:D}{l1:Loc}{Q:qN}(p:Pre C n k A env Y l s)(ok:tO k env.scope ps qa)
  (room:xv m B) (ho:s.heap.get? f=some { cls:= .type "function",data:= .func (fP C ps body qa (qe env.cells qa.names []) pm fk c') }) (fg:s.heap.CodeRec (.ref c') C.lq)
  (hb:yX (jF qa l) (ps.args.map (·.arg)) as=some l1) (he:r.E false qa l1 body=some d) (hr:qM C s.heap Y vs as) (q:∀v s',KP C s s'->RD C s'.heap Y v d->Q v s'):
  wpAny C.M B (call (.ref f) vs) Q NE s:=by
 have pq:=room.depth
 have hlen:(ps.args.map (·.arg)).length=vs.length:=(jG5 hb).trans hr.length.symm
 show jQd (kla_callFunE (fd:=fP C ps body qa (qe env.cells qa.names []) pm fk c') (body:=body) (by have:recursionLimit=1000:=rfl;lia) ho rfl ok.co ok.gen rfl fg ?_)
 rw[qU ok.plain rfl (by show(?_:ps.args.length=vs.length);simpa using hlen)]
 show jMr (ne ?_)
 have ub:((fun x:Arg=>x.arg)<$> ps.args)=ps.args.map (·.arg):=rfl
 have gk:(((ps.args.map (·.arg)).zip vs).map (·.1)).Nodup:=by
  rw[jPu (by lia)]
  have h1:=ok.plain
  unfold zl at h1
  simp only[Bool.and_eq_true,decide_eq_true_eq] at h1
  exact h1.2
 have eQ:=wA p.fm.apart qa.names [] ok.nodup (fun _ h=>by cases (h)) jOv
 show vB ok.kind (fun x hx=> ?_) (fun x hx=> ?_) (fun q hq=> ?_) eQ fun gP h' tk mq ht hk fm hv=> ?_
 .have:=(jQm hx).1
  show lE this fun a ha bh=> ?_
  rw[<-bh];exact ok.par a ha
 .have hm:=jt hx
  obtain⟨c,nT⟩:=jM4.mp (p.eo.cells x (ok.free _ hm rfl))
  rw[xA hm nT];rfl
 .rcases yF qa.names [] q hq with h|⟨h,_⟩
  .cases (h)
  .exact p.fm.cl _ (mem_of_lookup h)
 .generalize hL:s.heap.objs.size=L at mq
  have yh:gP.locals=L:=by rw[mq];rfl
  have xY:gP.cells=cellsFrom (L+1) qa.names (qe env.cells qa.names []):=by rw[mq];rfl
  have qE:gP.scope=qa:=by rw[mq];rfl
  have kp:KP C s { s with heap:=h',toks:=tk }:=KP.of ht hk
  have wf:=gc qa.names (s.heap.push (j4 [] 0)) (qe env.cells qa.names []) (fun q hq=>by
   rcases yF qa.names [] q hq with h|⟨h,_⟩
   .cases (h)
   .obtain⟨v,hv⟩:=p.fm.cl _ (mem_of_lookup h)
    exact⟨v,hv.keeps fun b o e=>vK _ e⟩) eQ
  rw[jOr,hL] at wf
  have aH:∀q∈gP.cells,q.2∈jB gP\/q.2∈Y:=fun q hq=>by
   rcases wf.2.2 q (xY▸hq) with h|h
   .rcases yF qa.names [] q h with h|⟨h,_⟩
    .cases (h)
    .exact .inr (p.hc _ (mem_of_lookup h))
   .exact .inl (qV _ (qX.mpr ⟨jMs (f:=(·.2)) hq,by rw[yh];exact jMx h⟩))
  have fj:∀a∈jB gP,s.heap.get? a=none:=fun a ha=>by
   have fe:L<=a:=by
    rcases j0.mp ha with e|ha
    .rw[e,yh];exact jNi _
    .have:=jNu (qX.mp ha).2
     rw[yh] at this
     exact jPt this
   exact none_of fun⟨o,e⟩=>by
    have:=jM1 e
    rw[hL] at this
    exact absurd fe (jRm.mpr this)
  have aK:∀a∈jB gP,∃o,h'.get? a=some o:=fun a ha=>by
   rcases j0.mp ha with e|ha
   .show uV fm.ns fun m o es ep ho _=> ?_
    exact⟨o,e▸ho⟩
   .show jE (jo.mp (qX.mp ha).1) ?_;rintro q hq rfl
    show qA (fm.cl q hq) fun v o ho _=> ?_
    exact⟨o,ho⟩
  have aV:qM C h' (jB gP++Y) vs as:=qM.moreL (J:=jB gP) kp p.hP fj (fun b hb=>jj.mp hb) hr
  have view':∀a o,view s.heap Y a=some o->view h' (jB gP++Y) a=some o:=fun a o e=>by
   obtain⟨e,nn⟩:=jG e
   show jT (hk a o e) fun hm=> ?_
   rcases jj.mp hm with h|h
   .rw[fj a h] at e;cases (e)
   .exact nn h
  have pre:Pre C m false (B.deeper gP) gP (jB gP++Y) l1 { s with heap:=h',toks:=tk }:=by
   show⟨p.bs,room.deeper,⟨by rw[qE];exact ok.kind,by rw[mq];rfl,by rw[mq];rfl,fun x hx=> ?_,fun h=>by cases (h)⟩,p.gr.kp p.bs kp,ju _ p.hP,fun a ha=> ?_,fun a ha=> ?_,fm,fun q hq=>jj.mpr (aH q hq),fun x d hx=> ?_⟩
   .rw[xY]
    rcases hx with hx|hx
    .exact xB _ _ _ _ (.inl (by rw[<-qE];exact hx))
    .have th:qa.names.lookup x=some .free:=by rw[<-qE];exact hx
     have hm:=jt th
     obtain⟨c,nT⟩:=jM4.mp (p.eo.cells x (ok.free _ hm rfl))
     show xB _ _ _ _ (.inr ?_)
     rw[xA hm nT];rfl
   .rcases jj.mp ha with h|h
    .exact none_of fun⟨o,ho⟩=>by
      have:=fj a h
      rw[p.gr.keep _ o ho] at this;cases (this)
    .exact p.hY a h
   .rcases jj.mp ha with h|h
    .exact aK a h
    .obtain⟨o,ho⟩:=p.hYs a h
     exact⟨o,hk _ _ ho⟩
   .rw[jCp hb x] at hx
    generalize hz:((ps.args.map (·.arg)).zip as).lookup x=x0;induction x0 using cO with
    |some d'=>
     rw[hz] at hx;cases (hx)
     show jE (zip_R aV x d hz) fun v iU rv=> ?_
     exact⟨v,hv x v (by rw[jAe gk];exact iU),rv⟩
    |none=>
     rw[hz] at hx
     have hx:jF qa l x=some d:=hx
     unfold jF at hx
     revert hx;show yT (fun hf hx=> ?_) fun _ hx=> ?_
     .have hm:=jt hf
      show jE (p.loc x d hx) fun v va rv=> ?_
      show⟨v,?_,_m.R.mono view' rv⟩
      rcases va with ⟨ry,_⟩|⟨ry,c,hc,hv⟩
      .have k8:env.scope.names.lookup x=some .local:=ry
       rcases ok.free _ hm rfl with h|h
       .rw[h] at k8;cases (k8)
       .rw[h] at k8;cases (k8)
      .show .inr ⟨.inr (by show(?_:gP.scope.names.lookup x=_);rw[qE];exact hf),c,?_,hv.keeps hk⟩
       rw[xY,vD qa.names (L+1) _ x fun q hq e1 e2=> ?_]
       .exact xA hm hc
       .have:=xV ok.nodup (show (x,NameKind.cell)∈qa.names by rw[<-e1,<-e2];exact hq)
        rw[hf] at this;cases (this)
     .cases (hx)
  show⟨p.bs.nolimit.keeps (p.gr.kp p.bs kp).keep,kla_codeExpr ?_⟩
  show ne (S.at pre (by rw[qE];exact he) fun v s2 yb p2 rv=> ?_)
  exact q v s2 (kp.trans yb) (_m.R.mono (j9 fun a ha=>ju _ ha) rv)
theorem Pre.subset(p:Pre C n k A env Y l s)(h:∀a∈Y',a∈Y)(hP:C.P∈Y')(hc:∀p∈env.cells,p.2∈Y'):Pre C n k A env Y' l s:=
 ⟨p.bs,p.a,p.eo,p.gr,hP,fun a ha=>p.hY a (h a ha),fun a ha=>p.hYs a (h a ha),p.fm,hc,fun x d e=>by
  show jE (p.loc x d e) fun v a rv=> ?_
  exact⟨v,a,_m.R.mono (j9 h) rv⟩⟩
theorem jJl{g:Expr}{its:List D}:∀{d0 d':D},zV r l g d0 its=some d'->∃acc:Nat->D,acc 0=d0/\acc its.length=d'/\∀j d,its[j]? =some d->zp r l g [acc j,d]=some (acc (j+1)):=by
 induction its with
 |nil=>
  intro d0 d' h
  replace h:=jX h;subst h
  exact wy (fun _=>d0) rfl rfl (fun j d e=>by simp at e)
 |cons d ds ih=>
  intro d0 d' h
  show bE (show (zp r l g [d0,d]).bind (fun a'=>zV r l g a' ds)=some d' from h) fun d1 h1 h2=> ?_
  show qk (ih h2) fun acc a0 a1 a2=> ?_
  show wy (fun j=>match j with|0=>d0|j+1=>acc j) rfl a1 (fun j e hj=> ?_)
  induction j using cN with
  |zero=>
   simp at hj;subst hj
   show(?_:zp r l g [d0,d]=some (acc 0))
   rw[a0];exact h1
  |succ j=>exact a2 j e (by exact hj)
theorem rM{h:Heap}{c':Addr}{co:Obj}{bY:Array Value}{x:Str}{ct:Tok}(t:jd C h)(hc:h.get? c'=some co)(hcd:co.data= .fields bY)(oj:bY[1]? =some (.str x ct)):c'≠C.P:=fun e=>by
 obtain⟨fv,tu,htr,_⟩:=t
 rw[<-e,hc] at tu
 obtain rfl:=jX tu
 obtain rfl:fv=bY:=Data.fields.inj hcd
 match hl:fv.toList,htr with
 |[],_=>
  rw[<-jN8,hl] at oj;exact zn oj
 | .int _ _:: .int _ _::_::_,_=>
   rw[<-jN8,hl] at oj
   cases oj
structure LI(C:Cx)(n:Nat)(k:Bool)(A:Around)(env:Env)(l:Loc)(acc:Nat->D)(f c':Addr)(fo co:Obj)(Y:List Addr)(j:Nat)(v:Value)(s:Shared):Prop where
 pre:Pre C n k A env Y l s
 rv:RD C s.heap Y v (acc j)
 f:s.heap.get? f=some fo
 c:s.heap.get? c'=some co
theorem jLg(S:SE C n r){ps:Arguments}{body:Expr}{qa:Scope}{pos:Pos}{f c':Addr}{pm fk:Value}{acc:Nat->D}{its:List D}{co:Obj}{bY:Array Value}{ct:Tok}(p:Pre C (n+1) k A env Y l s)(ok:tO k env.scope ps qa)
  (hf:s.heap.get? f=some { cls:= .type "function",data:= .func (fP C ps body qa (qe env.cells qa.names []) pm fk c') }) (hc:s.heap.get? c'=some co) (hcd:co.data= .fields bY) (oj:bY[1]? =some (.str C.lq ct))
  (wz:∀j d,its[j]? =some d->zp r l (.Lambda ps body qa pos) [acc j,d]=some (acc (j+1))):
  fT C n A f (LI C (n+1) k A env l acc f c' { cls:= .type "function",data:= .func (fP C ps body qa (qe env.cells qa.names []) pm fk c') } co) its (fun _=>False) s Y where
 zf:=fun b h=>h.elim
 fobj:=fun Y j v s h=>⟨_,_,h.f,rfl⟩
 call:=fun rF Y2 j va vd d s2 Q ha g hP hY hYs tV hI hj hd _ _ _ _ _ q=>by
  show bE (show (yX (jF qa l) (ps.args.map (·.arg)) [acc j,d]).bind (fun l'=>r.E false qa l' body)=some (acc (j+1)) from wz j d hj) fun l1 h1 h2=> ?_
  have a1:=p.a
  have room:xv n (A.deeper rF):=⟨a1.handled,by have:=a1.depth;show(?_:A.depth+1+1+3 * n<900);(show jM7 ?_ (by assumption);simp+arith),by have:=a1.units;show(?_:A.units+3+4+40 * n<9000);(show jM7 ?_ (by assumption);simp+arith)⟩
  show jLh S hI.pre ok room hI.f ⟨c',co,bY,ct,rfl,hI.c,hcd,oj⟩ h1 h2 (.cons hI.rv (.cons hd .nil)) fun v' s' kp rv=>q v' s' kp.kw (fun m hn=>hn.at fun o e=>kp.heap (j8 g.tab hn) e) ⟨hI.pre.kp kp,rv,kp.heap (fun e=> ?_) hI.f,kp.heap (fun e=> ?_) hI.c⟩
  .have:=p.gr.ne hf (by intro h;cases h)
   exact this e
  .exact rM hI.pre.gr.tab hI.c hcd oj e
 kw:=fun Y2 j v s2 s3 Z hI kw hZ hP t=>by
  have hl:¬Z env.locals:=fun hz=>by
   show uV p.fm.ns fun m o es ep ho _=> ?_
   rw[(hZ _ hz).2] at ho;exact zn ho
  have hcz:∀q∈env.cells,¬Z q.2:=fun q hq hz=>by
   show qA (p.fm.cl q hq) fun v o ho _=> ?_
   rw[(hZ _ hz).2] at ho;exact zn ho
  show⟨hI.pre.kw kw (fun b hb=>(hZ b hb).1) hl hcz,RD.kw kw hP (fun b hb=>(hZ b hb).1) hI.rv,kw.heap (p.gr.ne hf (by intro h;cases h)) (fun hz=>by rw[(hZ _ hz).2] at hf;exact zn hf) hI.f,kw.heap (fun e=> ?_) (fun hz=>by rw[(hZ _ hz).2] at hc;exact zn hc) hI.c⟩
  exact rM hI.pre.gr.tab hI.c hcd oj e
 more:=fun Y2 Y3 J j v s2 s3 hI kp hn he h1 h2 hP=>by
  show⟨hI.pre.moreL kp hn he h1 h2,?_,kp.heap (p.gr.ne hf (by intro h;cases h)) hI.f,kp.heap (fun e=> ?_) hI.c⟩
  .have:=qM.moreL kp hP hn h1 (.cons hI.rv .nil)
   cases this with|cons h _=>exact h
  .exact rM hI.pre.gr.tab hI.c hcd oj e
 last:=fun Y2 J j v s2 s3 hI kj hJ tV hP=>by
  have jx:∀a∈Y2,a∈J++Y2:=fun a ha=>ju _ ha
  have il:env.locals∉J:=fun hm=>by
   show uV p.fm.ns fun m o es ep ho _=> ?_
   rw[(hJ _ hm).1] at ho;exact zn ho
  show⟨hI.pre.lastJ kj jx (fun a ha=>⟨xP _ ha,(hJ a ha).2⟩) hP (fun q hq=>tV _ (p.hc q hq)) il,?_,kj.heap (fun hm=>by rw[(hJ _ hm).1] at hf;exact zn hf) hI.f,kj.heap (fun hm=>by rw[(hJ _ hm).1] at hc;exact zn hc) hI.c⟩
  have:=qM.lastJ kj jx (fun a ha=>xP _ ha) (.cons hI.rv .nil)
  cases this with|cons h _=>exact h
 sub:=fun Y2 Y3 j v s2 hI h1 h2=>⟨hI.pre.subset h1 (h2 _ p.hP) (fun q hq=>h2 _ (p.hc q hq)),_m.R.mono (j9 h1) hI.rv,hI.f,hI.c⟩
theorem jFg{sc:Scope}{g:Expr}(h:vH k sc g=true):∃ps body qa pos,g= .Lambda ps body qa pos:=by
 cases g <;> first|exact⟨_,_,_,_,rfl⟩|exact zf h
theorem jLe(ps:Arguments)(body:Expr)(qa:Scope)(pos:Pos):isStarred (.Lambda ps body qa pos)=false:=rfl
theorem jHk(S:SE C n r){g:Expr}{rest:List Expr}{np pos:Pos}{d:D}{Q:qN}(p:Pre C (n+1) k A env Y l s)(ok:vH k env.scope g=true)(hk:env.kindOf "reduce"=some .globalImplicit)(yB:(backTo pos (starEach rest env)).any (·.1)=false)
  (h:∀(s1:Shared),Pre C (n+1) k A env Y l s1->∀(R:List Value->Shared->Prop),(∀vs sv v0 ds its d0 s2,KP C s1 s2->Pre C (n+1) k A env Y l s2->RD C s2.heap Y sv (.list ds)->RD C s2.heap Y v0 d0->zV r l g d0 its=some d->
    ((vs=[sv,v0]/\ds=its/\((∃x o,v0= .ref x/\s2.heap.get? x=some o/\(o.cls= .type "list"\/o.cls= .type "tuple"))\/∃i t,v0= .int i t))\/
      (vs=[sv]/\∃a,ds=a::its/\∃l0 ws m,sv= .ref l0/\s2.heap.get? l0=some (j4 (v0::ws) m)))->R vs s2)->
   wpAny C.M A (spliced (backTo pos (starEach rest env))) R NE s1)
  (q:Kq C Y d s Q):wpAny C.M A (eval (.Call (.Name "reduce" np) (g::rest) [] pos) env) Q NE s:=by
 obtain⟨ps,body,qa,lp,rfl⟩:=jFg ok
 have okl:=jKy ok
 show mJ p.bs fun fn ar o pm code doc dt ai fU nt oi rf hm ho hd _ _ _ _ _ _=> ?_
 show jOw rfl (qh p hk hm kD ?_)
 rw[jI (jLe ps body qa lp)]
 show jOu (o:=o) (fd:={ docDef "reduce" fn.params fn.body fn.scope pm code doc with defaults:= .ref dt }) (jNg (jNf (jLf p okl fun f c' pm' fk s1 zU iu hf fg=> ?_)))
 have p1:=p.kp zU
 show h s1 p1 _ fun vs sv v0 ds its d0 s2 yb p2 ay mi hfold mY=>⟨⟨p2.gr.keep _ _ ho,hd⟩,?_⟩
 show qk (jJl hfold) fun acc a0 a1 a2=> ?_
 show oN fg fun c2 co bY ct e2 hc hcd oj=> ?_;clear fg
 cases e2
 have cH:=yb.heap (p1.gr.ne hf (by intro h;cases h)) hf
 have cK:s2.heap.get? c'=some co:=yb.heap (fun e=>by
  subst e
  obtain⟨fv,tu,htr,_⟩:=p1.gr.tab
  rw[hc] at tu;replace tu:=jX tu;subst tu
  simp only[Data.fields.injEq] at hcd
  subst hcd
  match hl:fv.toList,htr with
  |[],_=>simp at hl;subst hl;cases oj
  | .int _ _:: .int _ _::_::_,_=>
    have:fv.toList[1]? =some (.str C.lq ct):=by simpa using oj
    rw[hl] at this;cases this) hc
 have fc:=jLg (pos:=lp) S p2 okl cH cK hcd oj a2
 have room:xv n A:=p.a.room
 show jAm (n:=n) (its:=its) (sv:=sv) (v0:=v0) (ds:=ds) p.bs p2.gr p2.hP p2.hY p2.hYs hm room fc ⟨p2,by rw[a0];exact mi,cH,cK⟩ ay ?_ fun v s3 kw hI=> ?_
 .rcases mY with ⟨rfl,h1,h2⟩|⟨rfl,h1⟩
  .exact .inl ⟨rfl,h1,h2⟩
  .exact .inr ⟨rfl,h1⟩
 .have:=hI.rv
  rw[a1] at this
  exact q v s3 ((zU.trans yb).trans (KP.of_kw kw)) this
theorem jCg(S:SE C n r){g e:Expr}{np pos:Pos}{a d:D}{ds:List D}{Q:qN}(p:Pre C (n+1) k A env Y l s)(ok:vH k env.scope g=true)(hk:env.kindOf "reduce"=some .globalImplicit)(xR:isStarred e=false)
  (he:r.E k env.scope l e=some (.list (a::ds))) (hf:zV r l g a ds=some d) (q:Kq C Y d s Q):wpAny C.M A (eval (.Call (.Name "reduce" np) [g,e] [] pos) env) Q NE s:=by
 show jHk S p ok hk (plain_any (m1 xR)) (fun s1 p1 R hR=> ?_) q
 rw[jI xR]
 show jNf (S.at (p1.mono (jM5 n)) he fun v s2 kp p2 rv=>jN3 ?_)
 show ja (id rv.list_inv) ?_;rintro ad vs m rfl hv rs
 match vs,rs with
 |w::ws,.cons rw rws=>exact hR [.ref ad] (.ref ad) w (a::ds) ds a s2 kp (p1.kp kp) rv rw hf (.inr ⟨rfl,a,rfl,ad,ws,m,rfl,(jG hv).1⟩)
theorem jCf(S:SE C n r){g e i:Expr}{np pos:Pos}{a d:D}{ds:List D}{Q:qN}(p:Pre C (n+1) k A env Y l s)(ok:vH k env.scope g=true)(hk:env.kindOf "reduce"=some .globalImplicit)(xR:isStarred e=false)(hst2:isStarred i=false)
  (he:r.E k env.scope l e=some (.list ds)) (hi:r.E k env.scope l i=some a) (ha:(∃x,a= .list x)\/∃x,a= .int x) (hf:zV r l g a ds=some d) (q:Kq C Y d s Q):wpAny C.M A (eval (.Call (.Name "reduce" np) [g,e,i] [] pos) env) Q NE s:=by
 show jHk S p ok hk (plain_any fun x hx=>by simp at hx;rcases hx with rfl|rfl;exact xR;exact hst2) (fun s1 p1 R hR=> ?_) q
 rw[jI xR,jI hst2]
 show jNf (S.at (p1.mono (jM5 n)) he fun v s2 kp p2 rv=>jNf (S.at p2 hi fun u s3 rq p3 ru=>jN3 ?_))
 show hR [v,u] v u ds ds a s3 (kp.trans rq) (p1.kp (kp.trans rq)) (rv.kp rq p.hP) ru hf (.inl ⟨rfl,rfl,?_⟩)
 rcases ha with ⟨x,rfl⟩|⟨x,rfl⟩
 .show ja ru.list_inv ?_;rintro ad vs m rfl hv _
  exact .inl ⟨ad,_,rfl,(jG hv).1,.inl rfl⟩
 .obtain⟨t,rfl⟩:=ru.int_inv
  exact .inr ⟨x,t,rfl⟩
variable{Q:qN}
theorem jGd{x:Str}{pos:Pos}{d:D}(p:Pre C n k A env Y l s)(h:xK C.fns C.glob r k env.scope l (.Name x pos)=some d)(q:Kq C Y d s Q):wpAny C.M A (eval (.Name x pos) env) Q NE s:=by
 have h:(if (x==("__debug__":Str)||x==("__classdict__":Str))=true then none else (env.scope.names.lookup x).bind fun kd=>iG kd (l x) (if (C.fns.lookup x).isSome then none else C.glob.lookup x))=some d:=h
 revert h;show tg fun hx h=> ?_
 .simp only[Bool.or_eq_true,not_or,Bool.not_eq_true] at hx
  obtain⟨h1,h2⟩:=hx
  have var:l x=some d->wpAny C.M A (eval (.Name x pos) env) Q NE s:=fun hl=>by
   show jE (p.loc x d hl) fun v va rv=> ?_
   exact m8 p va h1 h2 (q v s (KP.refl s) rv)
  show bE h fun kd hk h=> ?_
  cases kd with
  |«local»=>exact var h
  |cell=>exact var h
  |free=>exact var h
  |globalImplicit=>
   revert h;show tg fun _ h=> ?_
   .show jE (p.bs.gl x d h) fun v hv rv=> ?_
    exact qh p hk hv h1 (q v s (KP.refl s) (jFp p.gr p.hY rv))
  |_=>exact zn h
theorem jFu(S:SE C n r){a b:Expr}{op:Operator}{pos:Pos}{d:D}(p:Pre C n k A env Y l s)(h:xK C.fns C.glob r k env.scope l (.BinOp a op b pos)=some d)(q:Kq C Y d s Q):wpAny C.M A (eval (.BinOp a op b pos) env) Q NE s:=by
 have h:((r.E k env.scope l a).bind fun x=>(r.E k env.scope l b).bind fun y=>vQ op x y)=some d:=h
 show bE h fun x h1 h=> ?_
 show bE h fun y h2 h=> ?_
 show jH2 (S.at p h1 fun v s1 k1 p1 r1=>S.at p1 h2 fun u s2 k2 p2 r2=> ?_)
 exact wV p2.hP p2.lt h (r1.kp k2 p.hP) r2 fun v s3 k3 r3=>q v s3 ((k1.trans k2).trans k3) r3
theorem jE1{i:Int}{kd:Nat}{p1 pos:Pos}(q:Kq C Y (.int (-i)) s Q):wpAny C.M A (eval (.UnaryOp .USub (.Constant (.int i) kd p1) pos) env) Q NE s:=
 wpAny_UnaryOp (wpAny_Constant_int (PyProof.Rows.neg_int (q _ _ (KP.tok (by show(?_:s.toks<=s.toks+1+1);simp+arith only)) (.int _ _))))
theorem jJ4(S:SE C n r){a b:Expr}{pos:Pos}{d:D}(p:Pre C n k A env Y l s)(h:xK C.fns C.glob r k env.scope l (.BoolOp .And [a,b] pos)=some d)(q:Kq C Y d s Q):wpAny C.M A (eval (.BoolOp .And [a,b] pos) env) Q NE s:=by
 show bE (show ((r.E k env.scope l a).bind fun x=>sR x (r.E k env.scope l b))=some d from h) fun x h1 h=> ?_
 show wpAny_And2 (S.at p h1 fun v s1 k1 p1 r1=> ?_)
 induction x using cD with
 |bool c=>
  rw[r1.bool_inv]
  show jOs ?_
  revert h;show yT (fun hc h=> ?_) fun hc h=> ?_
  .rw[jMt hc]
   exact S.at p1 h fun v s2 k2 p2 r2=>q v s2 (k1.trans k2) r2
  .rw[jMv hc]
   replace h:=jX h;subst h
   rw[jOf] at hc;subst hc
   exact q _ _ k1 (.bool false)
 |_=>exact nn h
theorem jFo(S:SE C n r)(a1:y0 (n+1) A){t a b:Expr}{pos:Pos}{d:D}(p:Pre C n k A env Y l s)(h:xK C.fns C.glob r k env.scope l (.IfExp t a b pos)=some d)(q:Kq C Y d s Q):wpAny C.M A (eval (.IfExp t a b pos) env) Q NE s:=by
 have h:((Bt r k env.scope l 4 t).bind fun c=>if c=true then r.E k env.scope l a else r.E k env.scope l b)=some d:=h
 show bE h fun c h1 h=> ?_
 show wpAny_IfExp (gi S a1 4 p h1 fun s1 k1 p1=> ?_)
 induction c using cT with
 |true=>exact S.at p1 h fun v s2 k2 p2 r2=>q v s2 (k1.trans k2) r2
 |false=>exact S.at p1 h fun v s2 k2 p2 r2=>q v s2 (k1.trans k2) r2
theorem jCn(S:SE C n r)(a1:y0 (n+1) A){a b:Expr}{op:CmpOp}{pos:Pos}{d:D}(p:Pre C n k A env Y l s)(h:xK C.fns C.glob r k env.scope l (.Compare a [op] [b] pos)=some d)(q:Kq C Y d s Q):wpAny C.M A (eval (.Compare a [op] [b] pos) env) Q NE s:=by
 have h:(if qH b=true then none else (r.E k env.scope l a).bind fun x=>(r.E k env.scope l b).bind fun y=>(gA op x y).map .bool)=some d:=h
 revert h;show tg fun hs h=> ?_
 .show bE h fun x h1 h=> ?_
  show bE h fun y h2 h=> ?_
  show mE h ?_;rintro c h3 rfl
  show wpAny_Compare1 (S.at p h1 fun v s1 k1 p1 r1=>S.at p1 h2 fun u s2 k2 p2 r2=>jC6 a1 h3 (r1.kp k2 p.hP) r2 fun tk ht=> ?_) (jEa (by simpa using hs))
  exact q _ _ ((k1.trans k2).trans (KP.tok ht)) (.bool c)
theorem jB6(S:SE C n r)(a1:y0 (n+1) A){elt:Expr}{gens:List Comprehension}{jM:Scope}{pos:Pos}{d:D}(p:Pre C n k A env Y l s)(h:xK C.fns C.glob r k env.scope l (.ListComp elt gens jM pos)=some d)(q:Kq C Y d s Q):wpAny C.M A (eval (.ListComp elt gens jM pos) env) Q NE s:=by
 match gens with
 |[]=>cases h
 |g::gs=>
  show bE (show Option.bind ((r.E k env.scope l g.iter).bind ji) _=some d from h) fun its h1 h=> ?_
  show bE h1 fun d1 h1 h2=> ?_
  revert h;show vS fun ok h=> ?_
  .show bE h fun out h3 h=> ?_
   revert h;show vS fun hlen h=> ?_
   .replace h:=jX h;subst h
    have oc:=bc ok
    have nQ:firstAsync (g::gs)=false:=by
     have h0:=oc.sync g jy
     cases g;simp only at h0;subst h0;rfl
    have nO:firstIter (g::gs) env=eval g.iter env:=by cases g;rfl
    rw[arm_eval_ListComp,nQ,nO]
    exact jC4 S a1 (kindL S fun g hg=>oc.sync g hg) p h1 h2 ok h3 hlen q
theorem jB9(S:SE C n r)(a1:y0 (n+1) A){ke ve:Expr}{gens:List Comprehension}{jM:Scope}{pos:Pos}{d:D}(p:Pre C n k A env Y l s)(h:xK C.fns C.glob r k env.scope l (.DictComp ke ve gens jM pos)=some d)(q:Kq C Y d s Q):wpAny C.M A (eval (.DictComp ke ve gens jM pos) env) Q NE s:=by
 match gens with
 |[]=>cases h
 |_::_::_=>cases h
 |[g]=>
  show bE (show Option.bind ((r.E k env.scope l g.iter).bind ji) _=some d from h) fun its h1 h=> ?_
  show bE h1 fun d1 h1 h2=> ?_
  revert h;show vS fun ok h=> ?_
  .have oc:=bc ok
   have nQ:firstAsync [g]=false:=by
    have h0:=oc.sync g jy
    cases g;simp only at h0;subst h0;rfl
   have nO:firstIter [g] env=eval g.iter env:=by cases g;rfl
   rw[arm_eval_DictComp,nQ,nO]
   have go:∀{K:Type} [BEq K] [LawfulBEq K] [DecidableEq K] (κ:DK C K),bX r k κ.f κ.dd env.scope l ke ve g jM its=some d->wpAny C.M A (comprehension (.DictComp ke ve [g] jM pos) jM env (firstIterPos [g] pos) newDict false (eval g.iter env)) Q NE s:=fun κ h=>by
    show bE h fun ps h3 h=> ?_
    revert h;show vS fun hlen h=> ?_
    show mE h ?_;rintro m0 hm rfl
    exact jC4 S a1 (kindDK κ S (fun g hg=>oc.sync g hg) hm) p h1 h2 ok h3 hlen q
   exact lh h (go (kS C)) (go (kI C))
theorem jGk(S:SE C n r){es:List Expr}{pos:Pos}{d:D}(p:Pre C n k A env Y l s)(h:xK C.fns C.glob r k env.scope l (.List es pos)=some d)(q:Kq C Y d s Q):wpAny C.M A (eval (.List es pos) env) Q NE s:=by
 show bE (show (zh r k env.scope l es).bind (fun ds=>if ds.length<=lim then some (.list ds) else none)=some d from h) fun ds h1 h=> ?_
 revert h;show vS fun hl h=> ?_
 .replace h:=jX h;subst h
  exact jG8 S p h1 hl q
theorem jE2(S:SE C n r){es:List Expr}{kd:Nat}{pos:Pos}{d:D}(p:Pre C n k A env Y l s)(h:xK C.fns C.glob r k env.scope l (.Tuple es kd pos)=some d)(q:Kq C Y d s Q):wpAny C.M A (eval (.Tuple es kd pos) env) Q NE s:=by
 show bE (show (zh r k env.scope l es).bind (fun ds=>if ds.length<=lim then some (.tup ds) else none)=some d from h) fun ds h1 h=> ?_
 revert h;show vS fun hl h=> ?_
 .replace h:=jX h;subst h
  exact jFx S p h1 hl q
theorem gF(S:SE C n r){e:Option Expr}{o:Option Int}(p:Pre C n k A env Y l s)(h:zF r k env.scope l e=some o)(q:∀(ot:Option (Int×Tok)) s',ot.map (·.1)=o->KP C s s'->Pre C n k A env Y l s'->Q (partValue ot) s'):wpAny C.M A (evalPart e env) Q NE s:=by
 induction e using cO with
 |none=>
  replace h:=jX h;subst h
  exact jMr (q none s rfl (KP.refl s) p)
 |some e=>
  show bE (show ((r.E k env.scope l e).bind fun d=>d.asInt?.map some)=some o from h) fun d hd h2=> ?_
  show mE h2 fun i hi h3=> ?_
  rw[vp hi] at hd
  show evalPart_some_step (S.at p hd fun v s1 k1 p1 r1=> ?_)
  obtain⟨t,rfl⟩:=r1.int_inv
  exact q (some (i,t)) s1 h3 k1 p1
theorem kN(ot:Option (Int×Tok)):IsPart (partValue ot) (ot.map (·.1)):=by
 induction ot using cO with
 |none=>exact .none
 |some p=>exact .int _ _
theorem jE7(S:SE C n r){v:Expr}{lo hi st:Option Expr}{p1 pos:Pos}{d:D}(p:Pre C n k A env Y l s)(h:xK C.fns C.glob r k env.scope l (.Subscript v (.Slice lo hi st p1) pos)=some d)(q:Kq C Y d s Q):wpAny C.M A (eval (.Subscript v (.Slice lo hi st p1) pos) env) Q NE s:=by
 have h:((r.E k env.scope l v).bind fun d=>(zF r k env.scope l lo).bind fun lo=>(zF r k env.scope l hi).bind fun hi=>(zF r k env.scope l st).bind fun st=>rO d.flat lo hi st)=some d:=h
 show bE h fun x h1 h=> ?_
 show bE h fun lo' h2 h=> ?_
 show bE h fun hi' h3 h=> ?_
 show bE h fun st' h4 h=> ?_
 show Subscript_ (S.at p h1 fun u s1 k1 p1 r1=>wpAny_Slice (gF S p1 h2 fun ol s2 e2 k2 p2=>gF S p2 h3 fun oh s3 e3 k3 p3=>gF S p3 h4 fun sZ s4 e4 k4 p4=> ?_))
 have bP:=(k2.trans k3).trans k4
 have r4:=r1.kp bP p.hP
 have pF:KP C s4 { s4 with heap:=s4.heap.push { cls:= .type "slice",data:= .fields #[partValue ol,partValue oh,partValue sZ] } }:=KP.push (tk:=s4.toks) nL
 have r5:=r4.kp pF p.hP
 have p5:=p4.kp pF
 have kk:=(k1.trans bP).trans pF
 subst e2 e3 e4
 have r5:=r5.flat
 generalize x.flat=x at h r5
 induction x using cD with
 |list ds=>
  replace h:(if sZ.map (·.1)≠some 0/\ds.length<=lim then some (D.list (pick ds (ol.map (·.1)) (oh.map (·.1)) (sZ.map (·.1)))) else none)=some d:=h
  revert h;show vS fun hc h=> ?_
  .replace h:=jX h;subst h
   exact jAv r5 (Heap.IsSliceOf.new ..) (kN ol) (kN oh) (kN sZ) hc.1 hc.2 p.hP p5.lt fun v s6 k6 r6=>q v s6 (kk.trans k6) r6
 |str y=>
  replace h:(if sZ.map (·.1)=none/\y.length<=lim then some (D.str (Txt.slice y (ol.map (·.1)) (oh.map (·.1)))) else none)=some d:=h
  revert h;show vS fun hc h=> ?_
  .replace h:=jX h;subst h
   obtain⟨hn,hl⟩:=hc
   induction sZ using cO with
   |some o=>cases hn
   |none=>
    show jBd (lo:=ol) (hi:=oh) r5 ⟨_,jMw _ rfl,rfl,rfl⟩ hl fun v s6 k6 r6=>q v s6 (kk.trans k6) r6
 |_=>exact nn h
theorem jFn(S:SE C n r){v e:Expr}{pos:Pos}{x i d:D}(p:Pre C n k A env Y l s)(h1:r.E k env.scope l v=some x)(h2:r.E k env.scope l e=some i)(h3:vY x i=some d)(q:Kq C Y d s Q):wpAny C.M A (eval (.Subscript v e pos) env) Q NE s:=
 Subscript_ (S.at p h1 fun u s1 k1 p1 r1=>S.at p1 h2 fun w s2 k2 p2 r2=>jBt h3 (r1.kp k2 p.hP) r2 fun y s3 k3 r3=>q y s3 ((k1.trans k2).trans k3) r3)
theorem jBc(S:SE C n r){v e:Expr}{pos:Pos}{d:D}(p:Pre C n k A env Y l s)(h:xK C.fns C.glob r k env.scope l (.Subscript v e pos)=some d)(q:Kq C Y d s Q):wpAny C.M A (eval (.Subscript v e pos) env) Q NE s:=by
 by_cases hs:∃lo hi st p1,e= .Slice lo hi st p1
 .obtain⟨lo,hi,st,p1,rfl⟩:=hs
  exact jE7 S p h q
 .have h:((r.E k env.scope l v).bind fun x=>(r.E k env.scope l e).bind fun y=>vY x y)=some d:=by
   cases e <;> first|exact h|exact absurd ⟨_,_,_,_,rfl⟩ hs
  show bE h fun x h1 h=> ?_
  show bE h fun y h2 h=> ?_
  exact jFn S p h1 h2 h q
theorem jEw{o:Expr}{m:Str}(h:zt o=false):attributeBase o m env (eval o env)=eval o env:=by
 cases o <;> first|rfl|exact ft h
theorem uJ{e:Expr}{y:Str}(h:strC? e=some y):∃k p,e= .Constant (.str y) k p:=by
 induction e using cE with
 |Constant c k p=>
  induction c using cC with
  |str z=>exact⟨k,p,by rw[jX h]⟩
  |_=>exact nn h
 |_=>exact nn h
theorem jF9(S:SE C n r){o:Expr}{ap cp:Pos}{args:List Expr}{d:D}(p:Pre C n k A env Y l s)(aG:zt o=false)(wk:(ap.endLine==cp.line)=true)(h:mI C.fns (r.E k env.scope l o) args=some d)(q:Kq C Y d s Q):wpAny C.M A (eval (.Call (.Attribute o "replace" ap) args [] cp) env) Q NE s:=by
 show qA (vj h) ?_;rintro a b rfl h
 show bE h fun y ha h2=> ?_
 show bE h2 fun z hb h3=> ?_
 show bE h3 fun dx hx h4=> ?_
 show jE (qD h4) ?_;rintro x rfl hf
 clear h h2 h3 h4
 show oP (uJ ha) ?_;rintro ky py rfl
 show oP (uJ hb) ?_;rintro kz pz rfl
 revert hf;show vS fun hc hf=> ?_
 .replace hf:=jX hf;subst hf
  show wpAny_Call_method_lateS (jEw aG) (by rfl) wk (S.at p hx fun u s1 k1 p1 r1=> ?_)
  obtain⟨t,rfl⟩:=r1.str_inv
  show⟨"str","str.replace",jP6,PySem.F.slot_str_replace,PySem.F.type_str_replace,jSc _ _ _,fun a e=>(by cases e),?_⟩
  show jO0 rfl (jNg (jNf ?_))
  rw[jQ5]
  show jRh (jNf ?_)
  rw[jQ5]
  show jRh (jN3 ?_)
  have dB:=p1.gr.toks hc.1
  show yA (SC.replaceW (Nat.pos_iff_ne_zero.mp dB) (by show(?_:s1.toks+1≠0);lia) (by show(?_:s1.toks≠s1.toks+1);lia) hc.2.2.2 (by lia) hc.2.2.1 fun t' k' ht=> ?_)
  exact q _ _ (k1.trans (KP.tok (x8 (show s1.toks<=s1.toks+1+1 by simp+arith only) ht))) (.str _ _)
def MethOk(m:Str)(x:D):Prop:=∃(T:String),PlainAttrs T/\Slot T m (gw m)/\typeOf (.builtin (gw m))=pure (.type "method_descriptor")/\((T="str"/\∃y,x= .str y)\/(T="list"/\∃y,x= .list y))
theorem meth_ok{x d:D}{m:Str}{as:List D}(h:gR x m as=some d):MethOk m x:=
 jBp h (P:=fun m=>MethOk m x) (fun h=>let ⟨_,e,_⟩:=qD h;⟨"str",jP6,PySem.F.slot_str_find,PySem.F.type_str_find,.inl ⟨rfl,_,e⟩⟩) (fun h=>let ⟨_,e,_⟩:=qD h;⟨"str",jP6,PySem.F.slot_str_split,PySem.F.type_str_split,.inl ⟨rfl,_,e⟩⟩) (fun h=>let ⟨_,e,_⟩:=qD h;⟨"str",jP6,PySem.F.slot_str_join,PySem.F.type_str_join,.inl ⟨rfl,_,e⟩⟩) fun h=>let ⟨_,e,_⟩:=qW h;⟨"list",PySem.F.plainAttrs_list,PySem.F.slot_list_index,PySem.F.type_list_index,.inr ⟨rfl,_,e⟩⟩
theorem jDk(S:SE C n r)(a1:y0 (n+1) A){o:Expr}{m:Str}{ap cp:Pos}{args:List Expr}{d:D}(p:Pre C n k A env Y l s)(h:xK C.fns C.glob r k env.scope l (.Call (.Attribute o m ap) args [] cp)=some d)(q:Kq C Y d s Q):wpAny C.M A (eval (.Call (.Attribute o m ap) args [] cp) env) Q NE s:=by
 have hh:(if zt o=true\/(ap.endLine==cp.line)=false\/args.length≥20\/args.length=0 then none else
  if m="replace" then mI C.fns (r.E k env.scope l o) args
  else (r.E k env.scope l o).bind fun d=>(zh r k env.scope l args).bind fun as=>gR d m as)=some d:=h
 clear h
 revert hh;show tg fun hg hh=> ?_
 .simp only[not_or,Bool.not_eq_true,Bool.not_eq_false,Nat.not_le] at hg
  show uF hg fun aG wk jv je=> ?_;clear hg
  revert hh;show yT (fun hm hh=> ?_) fun hm hh=> ?_
  .subst hm
   exact jF9 S p aG wk hh q
  .show bE hh fun x h1 hh1=> ?_
   clear hh
   show bE hh1 fun as h2 h=> ?_
   clear hh1
   have xR:=kX h2
   have yB:=plain_any (pos:=cp) (env:=env) xR
   have hmeth:=meth_ok h
   obtain⟨T,eS,lP,hT3,hT4⟩:=hmeth
   have hfew:((backTo cp (starEach args env)).all (fun x=> !x.1)&&(backToKw cp (keywordEach [] env)).all (fun x=>x.1.isSome)&&decide (args.length+([]:List Keyword).length+(if ([]:List Keyword).isEmpty then 0 else 1)<30))=true:=by
    have e1:(backTo cp (starEach args env)).all (fun x=> !x.1)=true:=by
     rw[jNe]
     intro y hy
     have:=List.any_eq_false.mp yB y hy
     simpa using this
    rw[e1]
    exact jMx (p:=args.length<30) (c6 zA zD)
   show wpAny_Call_method_lateS (jEw aG) hfew wk (S.at p h1 fun u s1 k1 p1 r1=> ?_)
   show⟨T,gw m,eS,lP,hT3,?_,?_,?_⟩
   .rcases hT4 with ⟨rfl,y,rfl⟩|⟨rfl,y,rfl⟩
    .obtain⟨t,rfl⟩:=r1.str_inv
     exact jSc _ _ _
    .show ja r1.list_inv ?_;rintro a vs mm rfl ho _
     exact⟨_,(jG ho).1,rfl⟩
   .intro a e
    subst e
    rcases hT4 with ⟨rfl,y,rfl⟩|⟨rfl,y,rfl⟩
    .obtain⟨t,e⟩:=r1.str_inv;cases e
    .show ja r1.list_inv fun a vs mm e ho _=> ?_
     cases e
     exact⟨_,(jG ho).1,rfl⟩
   .show jO0 yB ?_
    match args,je,h2,xR with
    |e::es,_,h2,xR=>
     rw[jI (xR e jy)]
     show jNg ?_
     have:=yI S (pos:=cp) (Q:=fun vs s'=>wpAny C.M A (call (.builtin (gw m)) (u::vs)) Q NE s') p1 h2 fun vs s2 k2 p2 r2=> ?_
     .rw[jI (xR e jy)] at this
      exact this
     .exact jIy a1 p2.hP p2.lt h (r1.kp k2 p.hP) r2 fun v s3 k3 r3=>q v s3 ((k1.trans k2).trans k3) r3
def fK(l:List Nat):Prop:=l.Pairwise (·<·)
theorem za{xs:Array Nat}(hr:fK xs.toList){i k j:Nat}(h:i<k)(hk:k<xs.size):xs.getD i j<xs.getD k j:=by
 have hi:i<xs.size:=jPf h hk
 have:=jQ0.mp hr i k (by simpa using hi) (by simpa using hk) h
 simpa [Array.getD,hi,hk] using this
theorem mid{lo hi:Nat}(c:lo<hi):lo<=(lo+hi) / 2/\(lo+hi) / 2<hi:=
 ⟨(Nat.le_div_iff_mul_le kD).mpr (Nat.mul_two lo▸Nat.add_le_add_left (jPt c) lo),jPn (Nat.two_mul hi▸Nat.add_lt_add_right c hi)⟩
theorem jMf{xs:Array Nat}(j:Nat)(hr:fK xs.toList)(fuel:Nat):∀(lo hi:Nat),hi<=lo+fuel->lo<=hi->hi<=xs.size->(∀i,i<lo->xs.getD i j<j)->(∀i,hi<=i->i<xs.size->¬xs.getD i j<j)->
  SetTable.below.go xs j fuel lo hi<=xs.size/\(∀i,i<SetTable.below.go xs j fuel lo hi->xs.getD i j<j)/\∀i,SetTable.below.go xs j fuel lo hi<=i->i<xs.size->¬xs.getD i j<j:=by
 induction fuel with
 |zero=>
  intro lo hi h1 h2 h3 h4 h5
  exact⟨x8 h2 h3,h4,fun i hi=>h5 i (x8 h1 hi)⟩
 |succ n ih=>
  intro lo hi h1 h2 h3 h4 h5
  show(?_:(fun r=>r<=xs.size/\(∀i,i<r->xs.getD i j<j)/\∀i,r<=i->i<xs.size->¬xs.getD i j<j) (if lo<hi then (if xs.getD ((lo+hi) / 2) j<j then SetTable.below.go xs j n ((lo+hi) / 2+1) hi else SetTable.below.go xs j n lo ((lo+hi) / 2)) else lo))
  by_cases c:lo<hi
  .rw[jMt c]
   obtain⟨m1,m2⟩:=mid c
   generalize (lo+hi) / 2=m at m1 m2 ⊢
   by_cases d:xs.getD m j<j
   .rw[jMt d]
    show ih _ _ (x8 h1 (by rw[jQh,jO9 1 n];exact jRx m1 _)) m2 h3 (fun i hi'=> ?_) h5
    by_cases g:i=m
    .rw[g];exact d
    .exact jPf (za hr (jQw (jSi hi') g) (jNc m2 h3)) d
   .rw[jMv d]
    show ih _ _ (jSi (jNc m2 h1)) m1 (x8 (jPt m2) h3) h4 fun i hi' his jv=> ?_
    by_cases g:i=m
    .exact d (g▸jv)
    .exact d (jPf (za hr (jQw hi' (Ne.symm g)) his) jv)
  .rw[jMv c]
   exact⟨x8 h2 h3,h4,fun i hi=>h5 i (x8 (jN9.mp c) hi)⟩
theorem jB3{xs:Array Nat}(j:Nat)(hr:fK xs.toList):SetTable.below xs j<=xs.size/\(∀i,i<SetTable.below xs j->xs.getD i j<j)/\∀i,SetTable.below xs j<=i->i<xs.size->¬xs.getD i j<j:=
 jMf j hr xs.size 0 xs.size (Nat.le_add_left _ _) (jQk _) nL (fun i h=>absurd h (jOx i)) fun i h1 h2=>absurd h2 (jN9.mpr h1)
theorem jFa{xs:Array Nat}{j:Nat}(hr:fK xs.toList)(hj:(xs[SetTable.below xs j]? ==some j)=false):fK (SetTable.insertAt xs (SetTable.below xs j) j).toList:=by
 show uX (jB3 j hr) fun h1 h2 h3=> ?_
 generalize SetTable.below xs j=r at *
 rw[SetTable.toList_insertAt]
 have hx:∀i (h:i<xs.size),xs.getD i j=xs[i]:=fun i h=>by simp[Array.getD,h]
 show List.pairwise_append.mpr ⟨hr.sublist (List.take_sublist _ _),jOa.mpr ⟨fun y hy=> ?_,hr.sublist (List.drop_sublist _ _)⟩,fun a ha b hb=> ?_⟩
 .obtain⟨i,hi,rfl⟩:=jQo hy
  rw[List.getElem_drop]
  have jv:r+i<xs.size:=Nat.add_lt_of_lt_sub' (by rw[List.length_drop,jM3] at hi;exact hi)
  have g:=h3 (r+i) (jOn _ _) jv
  rw[hx _ jv] at g
  rw[jRz]
  show jQw (jN9.mp g) fun e=> ?_
  induction i using cN with
  |zero=>
   have:xs[r]? =some j:=by rw[jOk (show r<xs.size from jv)];exact jM8 some e.symm
   rw[this] at hj;simp at hj
  |succ i=>
   have lB:r<xs.size:=by show jM7 ?_ (by assumption);simp+arith
   have g0:=h3 r nL lB
   have:=za hr (j:=j) (show r<r+(i+1) by simp+arith only) jv
   rw[hx _ jv,<-e] at this
   exact g0 this
 .have fW:a<j:=by
   obtain⟨i,hi,rfl⟩:=jQo ha
   have hi':i<r:=jNc hi (by rw[List.length_take];exact Nat.min_le_left _ _)
   have:=h2 i hi'
   rw[hx i (jNc hi' h1)] at this
   rw[List.getElem_take,jRz];exact this
  rcases j0.mp hb with e0|hb
  .rw[e0];exact fW
  .obtain⟨i,hi,rfl⟩:=jQo hb
   have jv:r+i<xs.size:=Nat.add_lt_of_lt_sub' (by rw[List.length_drop,jM3] at hi;exact hi)
   have g:=h3 (r+i) (jOn _ _) jv
   rw[hx _ jv] at g
   rw[List.getElem_drop,jRz]
   exact jNc fW (jN9.mp g)
open SetTable
def Sm(m:Nat):Prop:=m=7\/m=31
noncomputable def bN(m:Nat):Nat->Nat×Nat->Nat×Nat
 |0,x=>x
 |k+1,x=>bN m k (leap m x.1 x.2)
theorem orb_7:∀i<8,∀r<8,∃k<8,(bN 7 k (i,0)).1=r:=by decide+kernel
theorem orb_31:∀i<32,∀r<32,∃k<32,(bN 31 k (i,0)).1=r:=by decide+kernel
theorem jD6{m i p r:Nat}(hm:Sm m)(hp:p<4096)(hr:r<m+1):∃k<m+4,(bN m k (i,p)).1=r:=by
 have e3:p / 32 / 32 / 32=0:=by lia
 have key:∀k,bN m (k+3) (i,p)=bN m k (((((i * 5+1+p / 32) % (m+1)) * 5+1+p / 32 / 32) % (m+1) * 5+1+p / 32 / 32 / 32) % (m+1),p / 32 / 32 / 32):=fun k=>rfl
 rw[e3] at key
 have hi:((((i * 5+1+p / 32) % (m+1)) * 5+1+p / 32 / 32) % (m+1) * 5+1+0) % (m+1)<m+1:=jP3 _ (jRk m)
 generalize ((((i * 5+1+p / 32) % (m+1)) * 5+1+p / 32 / 32) % (m+1) * 5+1+0) % (m+1)=i3 at *
 rcases hm with rfl|rfl
 .show jE (orb_7 i3 hi r hr) fun k hk e=> ?_
  exact⟨k+3,by lia,by rw[key];exact e⟩
 .show jE (orb_31 i3 hi r hr) fun k hk e=> ?_
  exact⟨k+3,by lia,by rw[key];exact e⟩
theorem jA4{m:Nat}{l:List Nat}(h:∀r,r<m+1->r∈l):m+1<=l.length:=by
 have:=List.Nodup.length_le_of_subset (jRf (n:=m+1)) (l₂:=l) fun r hr=>h r (yU.mp hr)
 rwa [jP7] at this
noncomputable def aT(m:Nat)(x:Nat×Nat)(d:Option Nat):Probe:={ j:=x.1,more:=runEnd m x.1 - x.1,i:=x.1,perturb:=x.2,dummy:=d }
theorem jKl(m i:Nat):runEnd m i - i<=9:=by
 unfold runEnd
 by_cases c:i+9<=m
 .rw[jMt c];lia
 .rw[jMv c];lia
theorem tG(h:Int):¬(h+1==h)=true:=fun e=>by have:=jNs.mp e;lia
variable{t:SetTable}{h:Int}
noncomputable abbrev tR(t:SetTable)(h:Int):Nat->Probe->Option Met:=SetTable.probe.go t (fun _=>h+1) h
theorem vn(n:Nat)(p:Probe):tR t h (n+1) p=(match t.slot p.j with
   | .empty=>some (Met.empty p.j p.dummy)
   | .dummy=>tR t h n (t.advance { p with dummy:=some p.j })
   | .live i=>if h+1==h then some (Met.candidate p.j i (t.advance p)) else tR t h n (t.advance p)):=rfl
theorem wO(hd:t.dummies= #[])(j:Nat):t.slot j= .empty\/∃i,t.slot j= .live i/\j∈t.place.toList:=by
 have e:t.slot j=(if t.place[below t.place j]? ==some j then .live (below t.place j) else if has t.dummies j then .dummy else .empty):=rfl
 rw[e,hd]
 by_cases c:t.place[below t.place j]? ==some j
 .rw[jMt c]
  show .inr ⟨_,rfl,?_⟩
  have:=jNs.mp c
  rw[<-jN8] at this
  exact jNw this
 .rw[jMv c];exact .inl rfl
theorem gY(hd:t.dummies= #[]){p:Probe}(e:tR t h (n+1) p=none):p.j∈t.place.toList/\tR t h n (t.advance p)=none:=by
 rw[vn] at e
 rcases wO hd p.j with g|⟨i,g,hm⟩
 .rw[g] at e;cases e
 .rw[g] at e
  dsimp only at e
  rw[jMv (tG h)] at e
  exact⟨hm,e⟩
theorem jKu(hd:t.dummies= #[]):∀(n:Nat) (p:Probe) (k:Nat),k<=n->tR t h n p=none->tR t h k p=none:=by
 intro n
 induction n with
 |zero=>intro p k hk e;rw[Nat.le_zero.mp hk];exact e
 |succ n ih=>
  intro p k hk e
  induction k using cN with
  |zero=>rfl
  |succ k=>
   obtain⟨h1,h2⟩:=gY hd e
   have:=ih _ k (Nat.le_of_succ_le_succ hk) h2
   rw[vn]
   rcases wO hd p.j with g|⟨i,g,hm⟩
   .rw[vn,g] at e;cases e
   .rw[g];dsimp only;rw[if_neg (tG h)];exact this
theorem jKt(hd:t.dummies= #[]):∀(n:Nat) (p:Probe) (f:Nat),p.more=n->tR t h (f+n+1) p=none->tR t h f (aT t.mask (leap t.mask p.i p.perturb) p.dummy)=none:=by
 intro n
 induction n with
 |zero=>
  intro p f hp e
  have:=(gY hd e).2
  have e2:t.advance p=aT t.mask (leap t.mask p.i p.perturb) p.dummy:=by
   unfold SetTable.advance
   rw[jMv (by rw[hp];exact jNp 0)]
   rfl
  rwa [e2] at this
 |succ n ih=>
  intro p f hp e
  have h2:=(gY hd e).2
  have e2:t.advance p={ p with j:=p.j+1,more:=p.more - 1 }:=by
   unfold SetTable.advance
   rw[jMt (by rw[hp];exact jRk n)]
  rw[e2] at h2
  exact ih { p with j:=p.j+1,more:=p.more - 1 } f (by show(?_:p.more - 1=n);lia) h2
theorem pgo_all(hd:t.dummies= #[]):∀(n:Nat) (x:Nat×Nat) (d:Option Nat),tR t h (10 * n) (aT t.mask x d)=none->∀k<n,(bN t.mask k x).1∈t.place.toList:=by
 intro n
 induction n with
 |zero=>intro x d e k hk;exact absurd hk (jOx k)
 |succ n ih=>
  intro x d e k hk
  have h9:=jKl t.mask x.1
  induction k using cN with
  |zero=>exact(gY hd (n:=10 * n+9) e).1
  |succ k=>
   have e':=jKu hd (10 * (n+1)) _ (10 * n+(runEnd t.mask x.1 - x.1)+1) (by lia) e
   exact ih _ _ (jKt hd (runEnd t.mask x.1 - x.1) (aT t.mask x d) (10 * n) rfl e') k (jPg hk)
theorem jCi(hd:t.dummies= #[])(hm:Sm t.mask)(hs:t.place.size<=t.mask)(hh:bits h<4096):∃j,t.freeSlot h=some (j,false):=by
 have key:t.probe (fun _=>h+1) h (t.probeStart h)=tR t h (10 * turns t.mask) (aT t.mask (bits h % (t.mask+1),bits h) none):=rfl
 generalize e:(t.probe (fun _=>h+1) h (t.probeStart h))=x0;induction x0 using cO with
 |none=>
  rw[key] at e
  have:=pgo_all hd _ _ _ e
  have:=jA4 (m:=t.mask) (l:=t.place.toList) fun r hr=>by
   show jE (jD6 (i:=bits h % (t.mask+1)) hm hh hr) fun k hk e=> ?_
   rw[<-e]
   exact this k (jPf hk (Nat.add_lt_add_left kD _))
  rw[jM3] at this
  lia
 |some x=>
  generalize f:t.freeSlot h=x0;induction x0 using cO with
  |none=>
   unfold SetTable.freeSlot at f
   rw[e] at f
   cases x with
   |empty j d=>cases f
   |candidate j i nx=>
    exfalso
    rw[key] at e
    have never:∀(n:Nat) (p:Probe),tR t h n p≠some (Met.candidate j i nx):=by
     intro n
     induction n with
     |zero=>intro p e;cases e
     |succ n ih=>
      intro p e
      rw[vn] at e
      rcases wO hd p.j with g|⟨i',g,_⟩
      .rw[g] at e;cases e
      .rw[g] at e;dsimp only at e;rw[if_neg (tG h)] at e;exact ih _ e
    exact never _ _ e
  |some y=>
   obtain⟨j,b⟩:=y
   show⟨j,?_⟩
   unfold SetTable.freeSlot at f
   rw[e] at f
   cases x with
   |candidate _ _ _=>exact zn f
   |empty j' d=>
    have:d=none:=by
     rw[key] at e
     have never:∀(n:Nat) (p:Probe),p.dummy=none->tR t h n p=some (Met.empty j' d)->d=none:=by
      intro n
      induction n with
      |zero=>intro p _ e;cases e
      |succ n ih=>
       intro p hp e
       rw[vn] at e
       rcases wO hd p.j with g|⟨i',g,_⟩
       .rw[g] at e;cases e;exact hp
       .rw[g] at e;dsimp only at e;rw[if_neg (tG h)] at e
        show ih _ ?_ e
        unfold SetTable.advance
        split
        .exact hp
        .exact hp
     exact never _ _ rfl e
    subst this
    cases f
    rfl
noncomputable def lives(m:Nat)(o:Array (Option Nat)):List (Nat×Nat):=(List.range (m+1)).filterMap fun j=>(o.getD j none).map (j,·)
theorem jB8{α β:Type}{f g:α->Option β}:∀{l:List α},(∀i,i∈l->g i=f i)->l.filterMap g=l.filterMap f:=by
 intro l
 induction l with
 |nil=>intro _;rfl
 |cons a l ih=>intro e;rw[jNd,jNd,e a jy,ih fun i hi=>e i (qV _ hi)]
theorem jI3{f g:Nat->Option (Nat×Nat)}{j:Nat}{y:Nat×Nat}(hf:f j=none)(hg:g j=some y):∀{l:List Nat},l.Nodup->(∀i,i∈l->i≠j->g i=f i)->j∈l->(l.filterMap g).Perm (y::l.filterMap f):=by
 intro l
 induction l with
 |nil=>intro _ _ hj;exact absurd hj jRe
 |cons a l ih=>
  intro hn e hj
  obtain⟨h1,h2⟩:=xw.mp hn
  by_cases c:a=j
  .subst c
   rw[jNd,jNd,hf,hg]
   have:l.filterMap g=l.filterMap f:=jB8 fun i hi=>e i (qV _ hi) fun q=>h1 (q▸hi)
   rw[this]
  .have eJ:j∈l:=(j0.mp hj).resolve_left fun q=>c q.symm
   have p:=ih h2 (fun i hi=>e i (qV _ hi)) eJ
   rw[jNd,jNd,e a jy c]
   cases f a with
   |none=>exact p
   |some z=>exact(p.cons z).trans (List.Perm.swap _ _ _)
structure kA(m:Nat)(o:Array (Option Nat))(k:Nat):Prop where
 sz:o.size=m+1
 pm:((lives m o).map (·.2)).Perm (List.range k)
theorem jJj{m:Nat}{o:Array (Option Nat)}:∀(n:Nat) (x:Nat×Nat),layClean.free m o n x.1 x.2=none->∀k<n,(o.getD (bN m k x).1 (some 0)).isNone=false:=by
 intro n
 induction n with
 |zero=>intro x _ k hk;exact absurd hk (jOx k)
 |succ n ih=>
  intro x e k hk
  have e:(match (List.range (runEnd m x.1+1 - x.1)).find? fun k=>(o.getD (x.1+k) (some 0)).isNone with
   |some k=>some (x.1+k)
   |none=>layClean.free m o n (leap m x.1 x.2).1 (leap m x.1 x.2).2)=none:=e
  generalize g:((List.range (runEnd m x.1+1 - x.1)).find? fun k=>(o.getD (x.1+k) (some 0)).isNone)=x0;induction x0 using cO with
  |some k=>rw[g] at e;cases e
  |none=>
   rw[g] at e
   induction k using cN with
   |zero=>
    have h0:0∈List.range (runEnd m x.1+1 - x.1):=yU.mpr (by unfold runEnd;split <;> lia)
    have:=List.find?_eq_none.mp g 0 h0
    exact Bool.eq_false_iff.mpr this
   |succ k=>exact ih _ e k (jPg hk)
theorem jJi{m:Nat}{o:Array (Option Nat)}:∀(n:Nat) (i p j:Nat),layClean.free m o n i p=some j->(o.getD j (some 0)).isNone=true:=by
 intro n
 induction n with
 |zero=>intro i p j e;cases e
 |succ n ih=>
  intro i p j e
  have e:(match (List.range (runEnd m i+1 - i)).find? fun k=>(o.getD (i+k) (some 0)).isNone with
   |some k=>some (i+k)
   |none=>layClean.free m o n (leap m i p).1 (leap m i p).2)=some j:=e
  generalize g:((List.range (runEnd m i+1 - i)).find? fun k=>(o.getD (i+k) (some 0)).isNone)=x0;induction x0 using cO with
  |some k=>
   rw[g] at e
   replace e:=jX e;subst e
   exact List.find?_some (p:=fun k=>(o.getD (i+k) (some 0)).isNone) g
  |none=>rw[g] at e;exact ih _ _ _ e
theorem jJb{o:Array (Option Nat)}{j:Nat}(h:(o.getD j (some 0)).isNone=true):j<o.size/\o.getD j none=none:=by
 by_cases c:j<o.size
 .show⟨c,?_⟩
  simp only[Array.getD,c,dif_pos] at h ⊢
  exact Option.isNone_iff_eq_none.mp h
 .simp[Array.getD,c] at h
theorem jKw{m k:Nat}{o:Array (Option Nat)}(hm:Sm m)(H:kA m o k)(hk:k<=m){b:Nat}(hb:b<4096):
  ∃j,layClean.free m o (turns m) (b % (m+1)) b=some j/\kA m (o.setIfInBounds j (some k)) (k+1):=by
 have hlen:(lives m o).length=k:=by have:=H.pm.length_eq;rwa [jMu,jP7] at this
 generalize e:layClean.free m o (turns m) (b % (m+1)) b=x0;induction x0 using cO with
 |none=>
  exfalso
  have hx:=jJj (turns m) (b % (m+1),b) e
  have:=jA4 (m:=m) (l:=(lives m o).map (·.1)) fun r hr=>by
   show jE (jD6 (i:=b % (m+1)) hm hb hr) fun i hi e=> ?_
   have q:=hx i (jPf hi (Nat.add_lt_add_left kD _))
   rw[e] at q
   have jv:r<o.size:=by rw[H.sz];exact hr
   simp only[Array.getD,jv,dif_pos] at q
   obtain⟨y,hy⟩:=jM4.mp (Option.isNone_eq_false_iff.mp q)
   exact jo.mpr ⟨(r,y),jOo.mpr ⟨r,yU.mpr hr,by simp only[Array.getD,jv,dif_pos];rw[hy];rfl⟩,rfl⟩
  rw[jMu,hlen] at this
  lia
 |some j=>
  obtain⟨h1,h2⟩:=jJb (jJi _ _ _ _ e)
  show⟨j,rfl,?_⟩
  have hj:j<m+1:=by rw[<-H.sz];exact h1
  have p:=jI3 (f:=fun i=>(o.getD i none).map (i,·)) (g:=fun i=>((o.setIfInBounds j (some k)).getD i none).map (i,·)) (j:=j) (y:=(j,k)) (by rw[h2];rfl) (by simp[Array.getD,h1]) (jRf (n:=m+1))
   (fun i hi je=>by
    have hi':i<o.size:=by rw[H.sz];exact yU.mp hi
    simp[Array.getD,hi',Array.getElem_setIfInBounds,Ne.symm je]) (yU.mpr hj)
  show⟨by rw[Array.size_setIfInBounds];exact H.sz,?_⟩
  show(p.map _).trans ?_
  rw[jRs (n:=k),jNv]
  exact((H.pm.cons k)).trans (List.perm_append_singleton k _).symm
noncomputable abbrev d8(m:Nat)(acc:Option (Array (Option Nat)×Nat))(h:Int):Option (Array (Option Nat)×Nat):=do
 let (owner,k)<-acc
 let j<-layClean.free m owner (turns m) (bits h % (m+1)) (bits h)
 pure (owner.setIfInBounds j (some k),k+1)
theorem own_all{m:Nat}(hm:Sm m):∀(hs:List Int) (o:Array (Option Nat)) (k:Nat),kA m o k->k+hs.length<=m->(∀h∈hs,bits h<4096)->∃o',hs.foldl (d8 m) (some (o,k))=some (o',k+hs.length)/\kA m o' (k+hs.length):=by
 intro hs
 induction hs with
 |nil=>intro o k H _ _;exact⟨o,rfl,H⟩
 |cons h hs ih=>
  intro o k H hl hb
  rw[jNo] at hl
  show jE (jKw hm H (by show x8 ?_ (by assumption);simp+arith) (hb h jy)) fun j e H'=> ?_
  show jE (ih _ _ H' (by show x8 ?_ (by assumption);simp+arith) fun x hx=>hb x (qV _ hx)) fun o' e' H''=> ?_
  show⟨o',?_,?_⟩
  .rw[List.foldl_cons]
   have:d8 m (some (o,k)) h=some (o.setIfInBounds j (some k),k+1):=by
    show(?_:(layClean.free m o (turns m) (bits h % (m+1)) (bits h)).bind _=_)
    rw[e];rfl
   rw[this,e',jNo]
   exact jM8 (fun z=>some (o',z)) (by simp+arith only)
  .rw[jNo,show k+(hs.length+1)=k+1+hs.length by simp+arith only];exact H''
theorem jCh{m:Nat}(hm:Sm m){hs:Array Int}(hl:hs.size<=m)(hb:∀h∈hs.toList,bits h<4096):∃o,layClean m hs=some o/\kA m o hs.size:=by
 have H0:kA m (Array.replicate (m+1) none) 0:=⟨Array.size_replicate,by
  have:lives m (Array.replicate (m+1) none)=[]:=List.filterMap_eq_nil_iff.mpr fun j hj=>by
   simp[Array.getD,yU.mp hj]
  rw[this];exact List.Perm.nil⟩
 show jE (own_all hm hs.toList _ 0 H0 (by rw[jPr,jM3];exact hl) hb) fun o e H=> ?_
 show⟨o,?_,?_⟩
 .have:layClean m hs=(hs.foldl (d8 m) (some (Array.replicate (m+1) none,0))).map (·.1):=rfl
  rw[this,<-Array.foldl_toList,e];rfl
 .rw[jPr,jM3] at H;exact H
structure zO(L:Bool)(t:SetTable):Prop where
 rise:fK t.place.toList
 dum:t.dummies= #[]
 led:t.led=L
 pl:t.plain=true
 sm:Sm t.mask
theorem jHr(j:Nat):SetTable.has #[] j=false:=rfl
theorem jF6{j:Nat}(h:t.slot j= .empty):(t.place[SetTable.below t.place j]? ==some j)=false:=by
 unfold SetTable.slot at h
 dsimp only at h
 generalize g:(t.place[SetTable.below t.place j]? ==some j)=x0;induction x0 using cT with
 |false=>rfl
 |true=>rw[g] at h;simp at h
theorem jDf(hd:t.dummies= #[]){j:Nat}:t.slot j≠.dummy:=by
 intro h
 unfold SetTable.slot at h
 dsimp only at h
 rw[hd,jHr] at h
 generalize g:(t.place[SetTable.below t.place j]? ==some j)=x0;induction x0 using cT with
 |false=>rw[g] at h;simp at h
 |true=>rw[g] at h;simp at h
theorem jCq(t:SetTable)(p:SetTable.Probe):(t.advance p).dummy=p.dummy:=by
 unfold SetTable.advance
 split <;> rfl
theorem jKn{hashAt:Nat->Int}(hd:t.dummies= #[]){j:Nat}{d:Option Nat}:∀(fuel:Nat) (p:SetTable.Probe),p.dummy=none->SetTable.probe.go t hashAt h fuel p=some (.empty j d)->d=none/\(t.place[SetTable.below t.place j]? ==some j)=false:=by
 intro fuel
 induction fuel with
 |zero=>intro p _ e;cases e
 |succ n ih=>
  intro p hp e
  have e:(match t.slot p.j with
   | .empty=>some (SetTable.Met.empty p.j p.dummy)
   | .dummy=>SetTable.probe.go t hashAt h n (t.advance { p with dummy:=some p.j })
   | .live i=>if hashAt i==h then some (SetTable.Met.candidate p.j i (t.advance p)) else SetTable.probe.go t hashAt h n (t.advance p))=some (.empty j d):=e
  cases hs:t.slot p.j with
  |empty=>
   rw[hs] at e
   cases e
   exact⟨hp,jF6 hs⟩
  |dummy=>exact absurd hs (jDf hd)
  |live i=>
   rw[hs] at e
   dsimp only at e
   split at e
   .cases e
   .exact ih _ ((jCq t p).trans hp) e
set_option tactic.hygienic true in
theorem jCj(hd:t.dummies= #[]){j:Nat}{b:Bool}(e:t.freeSlot h=some (j,b)):(t.place[SetTable.below t.place j]? ==some j)=false:=by
 unfold SetTable.freeSlot at e
 split at e
 .rename_i j' d he
  obtain⟨h1,h2⟩:=jKn hd _ _ rfl he
  subst h1
  cases e
  exact h2
 .exact zn e
theorem zO.put{L:Bool}(h:zO L t){j:Nat}(hj:(t.place[SetTable.below t.place j]? ==some j)=false):zO L (t.put j).1 where
 rise:=jFa h.rise hj
 dum:=by
  show(?_:(if SetTable.has t.dummies j=true then SetTable.eraseAt t.dummies (SetTable.below t.dummies j) else t.dummies)= #[])
  rw[h.dum,jHr,jMv jMy]
 led:=h.led
 pl:=h.pl
 sm:=h.sm
theorem zg(h:t.fits n=true):t.place.size=n:=by
 unfold SetTable.fits at h
 exact jNs.mp (jM2.mp h).1
theorem zO.fill{L:Bool}(h:zO L t):t.fill=t.place.size:=by
 unfold SetTable.fill
 rw[h.dum];rfl
theorem yK{α:Type}(xs:Array α)(p:Nat)(x:α):(SetTable.insertAt xs p x).size=xs.size+1:=by
 rw[<-jM3,(SetTable.insertAt_perm xs p x).length_eq,jM3,Array.size_push]
theorem zO.room{L:Bool}(h:zO L t):t.tooFull=false↔t.place.size * 5<t.mask * 3:=by
 unfold SetTable.tooFull
 rw[h.fill,jQ7,ge_iff_le,jRm]
theorem fits_of{L:Bool}(h:zO L t)(e:t.place.size=n)(hl:n<=t.mask):t.fits n=true:=by
 unfold SetTable.fits
 rw[h.fill,e]
 simp[hl]
theorem jGl{L:Bool}{es:Array (Int×Value)}{hx:Int}{x:Value}(H:zO L t)(hf:t.fits es.size=true)(hr:t.tooFull=false)(hb:SetTable.bits hx<4096):
  zO L (layNew t es hx x).2.1/\(layNew t es hx x).2.1.mask=t.mask/\(layNew t es hx x).2.2.1=false/\(layNew t es hx x).1.size=es.size+1:=by
 have ku:=zg hf
 have h5:=H.room.mp hr
 have jv:t.place.size+1<=t.mask:=by rcases H.sm with e|e <;> rw[e] at h5 ⊢ <;> lia
 obtain⟨j,e⟩:=jCi H.dum H.sm (Nat.le_of_succ_le jv) hb
 have hp:=H.put (jCj H.dum e)
 have hfit:(t.put j).1.fits (SetTable.insertAt es (t.put j).2 (hx,x)).size=true:=
  fits_of hp (by rw[yK];show(?_:(SetTable.insertAt _ _ _).size=_);rw[yK,ku]) (by rw[yK,<-ku];exact jv)
 have g:layNew t es hx x=(SetTable.insertAt es (t.put j).2 (hx,x),(t.put j).1.orStandIn (SetTable.insertAt es (t.put j).2 (hx,x)).size,false,!(t.put j).1.fits (SetTable.insertAt es (t.put j).2 (hx,x)).size):=by
  unfold layNew
  rw[e]
 have g2:(t.put j).1.orStandIn (SetTable.insertAt es (t.put j).2 (hx,x)).size=(t.put j).1:=by
  unfold SetTable.orStandIn
  rw[jMt hfit]
 rw[g2] at g
 rw[g]
 exact⟨hp,rfl,rfl,yK _ _ _⟩
theorem jDj{L:Bool}(h:zO L t){es:Array (Int×Value)}{wanted:Nat}(hw:SetTable.sizeAbove wanted - 1=31)(hn:es.size<=31)(hb:∀e∈es.toList,SetTable.bits e.1<4096):
  zO L (relayAll t es wanted).2.1/\(relayAll t es wanted).2.1.mask=31:=by
 show jE (jCh (.inr rfl) (hs:=es.map (·.1)) (by rw[Array.size_map];exact hn) fun x hx=>by
  rw[Array.toList_map] at hx
  show jE (jo.mp hx) ?_;rintro y hy rfl
  exact hb y hy) fun o e H=> ?_
 rw[Array.size_map] at H
 have hlen:(lives 31 o).length=es.size:=by have:=H.pm.length_eq;rwa [jMu,jP7] at this
 have e1:t.relaid (es.map (·.1)) wanted=some ({ mask:=31,place:=((lives 31 o).map (·.1)).toArray,dummies:= #[],finger:=t.finger,led:=t.led,moves:=t.movedTo 31,plain:=t.plain },((lives 31 o).map (·.2)).toArray):=by
  unfold SetTable.relaid SetTable.laid
  rw[hw,e]
  rfl
 have hI:zO L { mask:=31,place:=((lives 31 o).map (·.1)).toArray,dummies:= #[],finger:=t.finger,led:=t.led,moves:=t.movedTo 31,plain:=t.plain }:=by
  show⟨?_,rfl,h.led,h.pl,.inr rfl⟩
  show(?_:fK ((lives 31 o).map (·.1)))
  unfold lives
  rw[List.map_filterMap]
  show List.pairwise_filterMap.mpr (List.pairwise_lt_range.imp fun {a b} fh x hx y hy=> ?_)
  simp at hx hy
  obtain⟨_,_,rfl⟩:=hx
  obtain⟨_,_,rfl⟩:=hy
  exact fh
 have ku:((((lives 31 o).map (·.2)).toArray).filterMap (es[·]?)).size=es.size:=by
  rw[<-jM3,Array.toList_filterMap,(H.pm.filterMap _).length_eq,filterMap_getElem?_range,jM3]
 unfold relayAll
 rw[e1]
 dsimp only
 rw[jMt]
 .exact⟨hI,rfl⟩
 .show jM2.mpr ⟨List.isPerm_iff.mpr H.pm,?_⟩
  rw[ku]
  exact fits_of hI (by show(?_:((lives 31 o).map (·.1)).toArray.size=_);rw[jQ4,jMu,hlen]) hn
noncomputable def intOf:Value->Int
 | .int i _=>i
 |_=>0
def Small(vs:List Int):Prop:=vs.length<=18/\∀x∈vs,0<=x/\x<4096
theorem jA1{k:Int}(h0:0<=k)(h1:k<4096):SetTable.bits (hashInt k)<4096:=by
 obtain⟨n,rfl⟩:=Int.eq_ofNat_of_zero_le h0
 have hn:n<4096:=by lia
 have e:hashInt (n:Int)=(n:Int):=by
  have e1:rawHash (n:Int)=(n:Int):=by
   have h2:((n:Int).natAbs:Int) % ((2 ^ 61 - 1:Nat):Int)=n:=by
    rw[Int.natAbs_natCast];exact jSm (jOb n) (by lia)
   unfold rawHash
   rw[h2]
   dsimp only
   rw[jMv (Int.not_lt.mpr (jOb n)),jMv]
   intro h
   have:=jNs.mp h
   lia
  unfold hashInt
  rw[e1,jMv]
  intro h
  have:=jNs.mp h
  lia
 rw[e]
 unfold SetTable.bits
 lia
variable{prog:Program}{w:World}{E:qN}{L:Bool}{a:Addr}{vs:List Int}
def zj(prog:Program)(w:World)(L:Bool)(h:Heap)(a:Addr)(vs:List Int):Prop:=
 ∃o es ep t,h.get? a=some o/\o.ExactSet/\o.data= .set es ep t/\ElemsOf (intKind prog w) es.toList/\vs=es.toList.map (fun e=>intOf e.2)/\es.size<scanBound/\t.fits es.size=true/\zO L t/\vs.Nodup/\t.tooFull=false/\Small vs
theorem dj{l:List (Int×Value)}(gN:ElemsOf (intKind prog w) l){e:Int×Value}(he:e∈l)(k:Int):(intKind prog w).is k e.2=true↔intOf e.2=k:=by
 obtain⟨⟨k',h1,_⟩,_⟩:=gN e he
 obtain⟨t,ht⟩:=Value.isInt_shape h1
 constructor
 .intro h
  rw[(intKind prog w).inj e.2 k k' h h1,ht];rfl
 .intro h
  rw[ht] at h
  have h:k'=k:=h
  rw[<-h];exact h1
theorem jJp{l:List (Int×Value)}(gN:ElemsOf (intKind prog w) l)(hs:∀x∈l.map fun e=>intOf e.2,0<=x/\x<4096):∀e∈l,SetTable.bits e.1<4096:=by
 intro e he
 obtain⟨⟨k',h1,h2⟩,_⟩:=gN e he
 have hi:intOf e.2=k':=(dj gN he k').mp h1
 have hx:=hs (intOf e.2) (jo.mpr ⟨e,he,rfl⟩)
 rw[h2]
 rw[hi] at hx
 exact jA1 hx.1 hx.2
theorem zj.store{h:Heap}{o:Obj}{es pS:Array (Int×Value)}{ep:Nat}{t':SetTable}(ho:h.get? a=some o)(hex:o.ExactSet)(hd:o.data= .set es ep t)(gN:ElemsOf (intKind prog w) pS.toList)(hb:pS.size<scanBound)(hf:t'.fits pS.size=true)(hi:zO L t')(hn:(pS.toList.map fun e=>intOf e.2).Nodup)(hr:t'.tooFull=false)(hs:Small (pS.toList.map fun e=>intOf e.2)):
  (h.update a (Obj.putSet pS t')).get? a=some { o with data:= .set pS (ep+1) t' }/\zj prog w L (h.update a (Obj.putSet pS t')) a (pS.toList.map fun e=>intOf e.2):=by
 have g:=(SetOf_store (knd:=intKind prog w) (S':=fun k=>pS.toList.any fun e=>(intKind prog w).is k e.2) ho hex hd gN (fun k=>jOp) hb hf).1
 exact⟨g,_,pS,ep+1,t',g,hex,rfl,gN,rfl,hb,hf,hi,hn,hr,hs⟩
theorem jEh{b:Bool}{x:String}{Q:Unit->Shared->Prop}(h:Q () s):wpAny (model prog w) A (match b with|true=>rule x|false=>pure ()) Q E s:=by
 cases b
 .exact jMr h
 .exact jR9 h
theorem gE{xs ys:List Int}(h:xs.Perm ys)(g:Small ys):Small xs:=⟨h.length_eq▸g.1,fun x hx=>g.2 x (h.mem_iff.mp hx)⟩
theorem jEx{o:Obj}{es we:Array (Int×Value)}{ep:Nat}{t1:SetTable}{vT:List Int}{Q:Bool->Shared->Prop}(ho:s.heap.get? a=some o)(hex:o.ExactSet)(hd:o.data= .set es ep t)(gN:ElemsOf (intKind prog w) we.toList)(hb:we.size<scanBound)(hf:t1.fits we.size=true)(hi:zO L t1)(bl:t1.tooFull=true->we.size=5)
  (hp:(we.toList.map fun e=>intOf e.2).Perm vT) (hn:vT.Nodup) (hs:Small vT) (h:∀h' b9,Heap.SameBut a s.heap h'->zj prog w L h' a b9->b9.Perm vT->Q true { s with heap:=h' }):
  wpAny (model prog w) A (do
    storeSet a we t1
    if (!false&&t1.tooFull)=true then do
        (match (relayAll t1 we (SetTable.grown we.size)).2.2 with
         |true=>rule "set.scan.the-table-gave-way"
         |false=>pure ())
        storeSet a (relayAll t1 we (SetTable.grown we.size)).1 (relayAll t1 we (SetTable.grown we.size)).2.1
        pure (some true)
     else pure (some true)) (fun r s'=>r=some true/\Q true s') E s:=by
 have wd:(we.toList.map fun e=>intOf e.2).Nodup:=hp.nodup_iff.mpr hn
 have kx:=gE hp hs
 have tT:=(SetOf_store (knd:=intKind prog w) (S':=fun k=>we.toList.any fun e=>(intKind prog w).is k e.2) ho hex hd gN (fun k=>jOp) hb hf).1
 show jMq (wpAny_storeSet_of ho hd ?_ (fits_of_scanBound hb))
 have hsb1:=jN6 s.heap a (Obj.putSet we t1)
 generalize fQ:t1.tooFull=x0;induction x0 using cT with
 |true=>
  rw[jMt (show (!false&&true)=true from rfl)]
  have h5:=bl fQ
  have p2:=relayAll_perm t1 we (SetTable.grown we.size)
  have f2:=relayAll_fits t1 we (SetTable.grown we.size)
  have sz:(relayAll t1 we (SetTable.grown we.size)).1.size=we.size:=by rw[<-jM3,p2.length_eq,jM3]
  obtain⟨i2,m2⟩:=jDj (wanted:=SetTable.grown we.size) hi (by rw[h5];decide+kernel) (by lia) (jJp gN kx.2)
  have hel2:=gN.perm p2
  have q2:((relayAll t1 we (SetTable.grown we.size)).1.toList.map fun e=>intOf e.2).Perm vT:=(p2.map _).trans hp
  have r2:(relayAll t1 we (SetTable.grown we.size)).2.1.tooFull=false:=i2.room.mpr (by rw[m2,zg f2,sz,h5];decide)
  obtain⟨_,hS2⟩:=zj.store (prog:=prog) (w:=w) tT hex rfl hel2 (by rw[sz];exact hb) f2 i2 (q2.nodup_iff.mpr hn) r2 (gE q2 hs)
  show jMq (jEh ?_)
  show jMq (wpAny_storeSet_of tT rfl ?_ (fits_of_scanBound (by rw[sz];exact hb)))
  exact jMr ⟨rfl,h _ _ (hsb1.trans (jN6 _ a _)) hS2 q2⟩
 |false=>
  rw[jMv (show¬(!false&&false)=true by decide)]
  obtain⟨_,hS1⟩:=zj.store (prog:=prog) (w:=w) ho hex hd gN hb hf hi wd fQ kx
  exact jMr ⟨rfl,h _ _ hsb1 hS1 hp⟩
theorem find_none{l:List (Int×Value)}(gN:ElemsOf (intKind prog w) l){k:Int}(h:l.findIdx? (fun e=>(intKind prog w).is k e.2)=none):k∉l.map fun e=>intOf e.2:=by
 intro hk
 show jE (jo.mp hk) fun e he e2=> ?_
 have:=List.findIdx?_eq_none_iff.mp h e he
 rw[(dj gN he k).mpr e2] at this
 cases this
theorem find_some{l:List (Int×Value)}(gN:ElemsOf (intKind prog w) l){k:Int}{j:Nat}(h:l.findIdx? (fun e=>(intKind prog w).is k e.2)=some j):k∈l.map fun e=>intOf e.2:=by
 obtain⟨hj,hp,_⟩:=jO6.mp h
 exact jo.mpr ⟨l[j],jPv hj,(dj gN (jPv hj) k).mp hp⟩
theorem add_int{k:Int}{tk:Tok}{Q:Bool->Shared->Prop}(hS:zj prog w L s.heap a vs)(vJ:Small (if k∈vs then vs else vs++[k]))
  (h:∀h' vT b,Heap.SameBut a s.heap h'->zj prog w L h' a vT->vT.Perm (if k∈vs then vs else vs++[k])->Q b { s with heap:=h' }):
  wpAny (model prog w) A (setAddHashed a (.int k tk) ((intKind prog w).hash k)) Q E s:=by
 obtain⟨o,es,ep,t,ho,hex,hd,gN,hv,hb,hf,hi,hn,lB,hsm0⟩:=hS
 have hkey:(intKind prog w).is k (.int k tk)=true:=intKind_is _ _ k tk
 have qE:(Value.int k tk).scannable=true:=rfl
 have hlen:es.size=vs.length:=by rw[hv,jMu,jM3]
 have aI:es.size+1<scanBound:=by rw[hlen];exact jM7 (jRb hsm0.1) kD
 unfold setAddHashed setAddHashedIn
 show jPb (jMq (jO7 ho hd hf ?_))
 dsimp only
 rw[byScan_of qE hb gN,jMt rfl]
 unfold setAddByScan
 show jMq (jNh (Q:=fun r s'=>∃b,r=some b/\Q b s') (E:=E) ?_ (fun r s' x=> ?_) fun _ _ x=>x)
 .show jMq (jR9 (jMq (wpAny_setScan_of hkey ho hd hf gN ?_)))
  generalize hr:(List.findIdx? (fun e=>(intKind prog w).is k e.2) es.toList)=x0;induction x0 using cO with
  |some j=>
   have hk:=find_some gN hr
   rw[<-hv] at hk
   have:=h s.heap vs false (jSn a s.heap) ⟨o,es,ep,t,ho,hex,hd,gN,hv,hb,hf,hi,hn,lB,hsm0⟩ (by rw[jMt hk])
   exact jMr ⟨false,rfl,this⟩
  |none=>
   have hk:=find_none gN hr
   rw[<-hv] at hk
   dsimp only
   have kh:=layNew_perm t es ((intKind prog w).hash k) (.int k tk)
   have fR:=layNew_fits t es ((intKind prog w).hash k) (.int k tk)
   rw[jMv hk] at vJ
   have eH:=vJ.2 k (ju _ jy)
   have aN:=vJ.1
   rw[jNm,List.length_singleton,<-hlen] at aN
   have hinv:=jGl (hx:=(intKind prog w).hash k) (x:= .int k tk) hi hf lB (jA1 eH.1 eH.2)
   have hszt:=zg hf
   have hroom0:=hi.room.mp lB
   generalize layNew t es ((intKind prog w).hash k) (.int k tk)=N at kh fR hinv ⊢
   obtain⟨we,t1,wasDummy,gave⟩:=N
   dsimp only at kh fR hinv ⊢
   show uF hinv ?_;clear hinv;rintro hinv hmask rfl hsz1
   have fQ:t1.tooFull=true->we.size=5:=fun e=>by
    have hq:=(not_congr hinv.room).mp (by rw[e];exact Bool.noConfusion)
    rw[zg fR,hmask,hsz1] at hq
    rcases hi.sm with e|e <;> rw[e] at hq hroom0 <;> lia
   rw[jSp] at kh
   have hel1:ElemsOf (intKind prog w) we.toList:=(gN.push hkey qE).perm kh
   have hb1':we.size<scanBound:=by rw[<-jM3,kh.length_eq,jNm,jM3];exact aI
   have hp:(we.toList.map fun e=>intOf e.2).Perm (vs++[k]):=by
    have:=kh.map fun e=>intOf e.2
    rw[jNr,<-hv] at this
    exact this
   have oF:(vs++[k]).Nodup:=jN1.mpr ⟨hn,xw.mpr ⟨jRe,jO3⟩,fun x hx y hy e=>hk (by rw[jw.mp hy] at e;exact e▸hx)⟩
   have hend:∀h' b9,Heap.SameBut a s.heap h'->zj prog w L h' a b9->b9.Perm (vs++[k])->Q true { s with heap:=h' }:=fun h' b9 x y z=>h h' b9 true x y (by rw[jMv hk];exact z)
   show jMq (jEh ?_)
   split
   .show jMq ?_
    rw[hashByValue_scannable 8 qE]
    show jMr ?_
    show jNh (jEx ho hex hd hel1 hb1' fR hinv fQ hp oF vJ hend) (fun r s' x=>⟨true,x.1,x.2⟩) fun _ _ x=>x
   .show jMq (jMr ?_)
    rw[jMt rfl]
    exact jNh (jEx ho hex hd hel1 hb1' fR hinv fQ hp oF vJ hend) (fun r s' x=>⟨true,x.1,x.2⟩) fun _ _ x=>x
 .show jE x ?_;clear x;rintro b rfl hq
  exact jMr hq
theorem jCt{σ vT:List Int}{k:Int}(h:vs.Perm σ)(g:vT.Perm (if k∈vs then vs else vs++[k])):vT.Perm (step_dedup σ k):=by
 unfold step_dedup
 by_cases c:k∈vs
 .rw[jMt c] at g
  have:σ.any (·==k)=true:=jOp.mpr ⟨k,h.mem_iff.mp c,by simp⟩
  rw[jMt this]
  exact g.trans h
 .rw[jMv c] at g
  have:¬σ.any (·==k)=true:=fun e=>by
   show jE (jOp.mp e) fun x hx e=> ?_
   exact c (h.mem_iff.mpr (jNs.mp e▸hx))
  rw[jMv this]
  exact g.trans (h.append_right _)
theorem jDp(val:Nat->Int)(i:Nat):∀k,(firstMet val i).Sublist (firstMet val (i+k)):=by
 intro k
 induction k with
 |zero=>exact jP8 _
 |succ k ih=>
  show ih.trans ?_
  show(?_:(firstMet val (i+k)).Sublist (firstMet val (i+k+1)))
  rw[firstMet_succ]
  unfold step_dedup
  split
  .exact jP8 _
  .exact List.sublist_append_left _ _
theorem jIi{val:Nat->Int}(h:Small (firstMet val n)){i:Nat}(hi:i<=n):Small (firstMet val i):=by
 have hs:(firstMet val i).Sublist (firstMet val n):=by
  have:=jDp val i (n - i)
  rwa [jR4 hi] at this
 exact⟨x8 hs.length_le h.1,fun x hx=>h.2 x (hs.subset hx)⟩
variable{Rz:Result->Shared->Prop}{I:Addr}{fp wr:List Addr}{G:Array GenState->Array GenState->Prop}{P:Nat->Value->Prop}{St:Nat->Shared->Prop}
theorem zj.at{h h':Heap}(x:zj prog w L h a vs)(e:∀o,h.get? a=some o->h'.get? a=some o):zj prog w L h' a vs:=by
 show uV x fun o es ep t ho r=> ?_;clear x
 exact⟨o,es,ep,t,e o ho,r⟩
theorem jE0(W:WalksS prog w A.in1 I fp wr G n P St)(S:Addr)(hSf:S∉fp)(val:Nat->Int)(cu:∀i v,P i v->∃t,v= .int (val i) t)(bl:Small (firstMet val n)):
  ∀(k i:Nat) (s:Shared) (vs:List Int),n - i=k->i<=n->St i s->zj prog w L s.heap S vs->vs.Perm (firstMet val i)->
   (∀s' vT,Moved (S::wr) G s s'->zj prog w L s'.heap S vT->vT.Perm (firstMet val n)->Rz (.ok (.ret .none)) s')->
   codeAny (model prog w) A (.builtin "set.update.loop" ⟨[.ref S,.ref I],[]⟩) Rz s:=by
 have hSw:S∉wr:=fun h=>hSf (W.sub _ h)
 have jx:∀b∈wr,b∈S::wr:=fun b hb=>qV _ hb
 intro k
 induction k with
 |zero=>
  intro i s vs hk hi xR hS hp hR
  have eK:i=n:=by lia
  subst eK
  show jRq F.entry_set_update_loop ?_
  rw[jR0 jRg _]
  show(?_:wpAny _ A.in1 (pyNext (.ref I) >>=_) _ _ s)
  exact jMq (W.done s _ _ xR fun s' hm=>jMr (hR s' vs (hm.mono jx) (hS.at fun o e=>hm.heap S o hSw e) hp))
 |succ k ih=>
  intro i s vs hk hi xR hS hp hR
  have jv:i<n:=by lia
  show jRq F.entry_set_update_loop ?_
  rw[jR0 jRg _]
  show(?_:wpAny _ A.in1 (pyNext (.ref I) >>=_) _ _ s)
  show jMq (W.item i s _ _ jv xR fun v s' hP pZ hm=> ?_)
  obtain⟨t,rfl⟩:=cu i v hP
  have hS':zj prog w L s'.heap S vs:=hS.at fun o e=>hm.heap S o hSw e
  show(?_:wpAny _ A.in1 (holding [Value.int (val i) t] (setAdd S (.int (val i) t)) >>=_) _ _ s')
  show jMq (jPb ?_)
  unfold setAdd
  show jPb (jMq ((intKind prog w).pyHash (k:=val i) (intKind_is _ _ _ _) ?_))
  have vJ:Small (if val i∈vs then vs else vs++[val i]):=by
   show gE (jCt hp (jQy _)) ?_
   rw[<-firstMet_succ]
   exact jIi bl jv
  show add_int (s:={ s' with toks:=s'.toks+1 }) hS' vJ fun h' vT b ml hS2 aA=> ?_
  have eC:vT.Perm (firstMet val (i+1)):=by rw[firstMet_succ];exact jCt hp aA
  show jMr ⟨plainId_quiet jRg _,ih (i+1) _ vT (by lia) jv (W.frame _ s' _ _ pZ (jM5 _) fun b hb o e=> ?_) hS2 eC fun k7 vs'' hm'' hS'' hp''=> ?_⟩
  .rw[ml.2 b (fun h:b=S=>hSf (by rw[<-h];exact hb))];exact e
  .show hR k7 vs'' (Moved.trans W.gtrans ((hm.mono jx).then_heap (jM5 _) fun b o hb e=> ?_) hm'') hS'' hp''
   rw[ml.2 b (fun h:b=S=>hb (by rw[h];exact jy))];exact e
noncomputable def f7(w:World):Bool:=w.params.followText "set-order"
theorem jF7{h:Heap}(e:h.get? a=some { cls:= .type "set",dict:=none,data:= .set #[] 0 (.fresh 0 0 L),slots:= #[] }):zj prog w L h a []:=
 ⟨_,#[],0,_,e,⟨rfl,rfl,rfl⟩,rfl,fun e he=>(nomatch he),rfl,by decide,rfl,⟨jOv,rfl,rfl,rfl,.inl rfl⟩,jO3,rfl,by decide,fun x hx=>(nomatch hx)⟩
theorem code_set_new(a:Value){Q₁:qN}(h:Q₁ (.ref s.heap.objs.size) { s with heap:=s.heap.push { cls:= .type "set",dict:=none,data:= .set #[] 0 (.fresh 0 0 (!f7 w)) } }):
  codeAny (model prog w) A (.call (.builtin "set.__new__") ⟨[.type "set",a],[]⟩) (wants Q₁ E) s:=by
 show codeAny_of_tree ?_
 show(?_:wpAny _ A.in1 (do checkBuiltinCall "set.__new__" ⟨[.type "set",a],[]⟩;again (.builtin "set.__new__" ⟨[.type "set",a],[]⟩)) _ _ s)
 show jMq (jQ2 (PySem.F.newCall_set_1 a) (jMr ⟨plainId_quiet PySem.F.plain_set_new _,jRq PySem.F.entry_set_new ?_⟩))
 rw[jR0 PySem.F.plain_set_new _]
 unfold Builtin.«set.__new__» Builtin.Frozenset.newClass
 have jx:=sub_set_self
 obtain⟨hp,g,d,tk,os⟩:=s
 dsimp only
 wp_walk
 show jQe (jMr ?_)
 dsimp only
 simp only[newObj]
 show jMq (wpAny_alloc (jMr ?_))
 exact jMr h
set_option maxHeartbeats 1600000
noncomputable abbrev pY(L:Bool):Obj:={ cls:= .type "set",dict:=none,data:= .set #[] 0 (.fresh 0 0 L) }
theorem jJe{l S:Addr}{items:Array Value}{ns:List Int}{R:Fin->Shared->Prop}(hh:A.handled=none)(hS:s.heap.get? S=some (pY L))(hlS:l≠S)(hl:s.heap.IsList l items)(hi:IntsAre items.toList ns)(hb:Small (firstMet (fun i=>ns.getD i 0) items.size))
  (h:∀(h':Heap) (tk:Nat) (vs:List Int),zj prog w L h' S vs->vs.Perm (firstMet (fun i=>ns.getD i 0) items.size)->(∀b o,b≠S->s.heap.get? b=some o->h'.get? b=some o)->R (.done (.ret .none)) { s with heap:=h',toks:=tk }):
  wpAny (model prog w) A (Builtin.«set.__init__» ⟨[.ref S,.ref l],[]⟩) R E s:=by
 have hT:s.TypeIs (.ref S) "set":=⟨_,hS,rfl⟩
 have jv:=jM1 hS
 obtain⟨ol,nK,xc,nl,nR⟩:=id hl
 have ik:=jM1 nK
 obtain⟨oc,od,oda,os⟩:=ol
 have xc:oc= .type "list":=xc
 have nR:oda= .seq items nl:=nR
 subst xc
 subst nR
 have h1:=PySem.F.sub_list_set
 have h2:=PySem.F.sub_list_frozenset
 have h3:(Value.type "list"==Value.type "dict")=false:=by decide
 unfold Builtin.«set.__init__» noKeywords Builtin.Frozenset.updateFrom
 generalize hPI:pyIter=PI
 wp_walk
 subst hPI
 show jSe hl (jMq (wpAny_runValue ?_))
 have hn:S∉[s.heap.objs.size,l]:=by
  rw[jPy,jw]
  exact fun g=>g.elim (jN5 jv) (Ne.symm hlS)
 show jE0 (prog:=prog) (w:=w) (A:=A) (L:=L) ((Walks.list (show A.in1.handled=none by simp[hh]) _ l (jN5 ik) items).toS) S hn (fun i=>ns.getD i 0) (fun i v hv=>IntsAre.int_at hi i v (by rw[jN8];exact hv)) hb items.size 0 { s with heap:=s.heap.push { cls:= .type "list_iterator",data:= .fields #[.ref l,.int 0 0] } } [] (Nat.sub_zero _) (jQk _) ⟨⟨_,jMw _ rfl,rfl,rfl⟩,hl.push _⟩
  (jF7 (vK _ hS)) (by rw[firstMet_zero]) fun s' vs hm hS' hp=> ?_
 have e:=Moved.eq_with hm
 rw[e]
 show jMr (jMr (h s'.heap s'.toks vs hS' hp fun b o hb e=>hm.heap b o ?_ (vK _ e)))
 rw[jPy,jw]
 exact fun g=>g.elim hb (jN5 (jM1 e))
set_option maxHeartbeats 3200000
theorem jJw{l:Addr}{items:Array Value}{ns:List Int}(hh:A.handled=none)(hl:s.heap.IsList l items)(hi:IntsAre items.toList ns)(hb:Small (firstMet (fun i=>ns.getD i 0) items.size))
  (h:∀(h':Heap) (tk:Nat) (vs:List Int),zj prog w (!f7 w) h' s.heap.objs.size vs->vs.Perm (firstMet (fun i=>ns.getD i 0) items.size)->(∀b o,b≠s.heap.objs.size->s.heap.get? b=some o->h'.get? b=some o)->Q (.ref s.heap.objs.size) { s with heap:=h',toks:=tk }):
  wpAny (model prog w) A (call (.type "set") [.ref l]) Q E s:=by
 show oP F.called_set.mro fun c tl hmro=> ?_
 have q1:=F.called_set.made
 have q2:=F.called_set.sub
 have q3:=F.called_set.notType
 have q4:=F.called_set.canCreate
 have q5:=F.typeCall_set_1 (.ref l)
 show jQd (codeAny_of_tree ?_)
 show(?_:wpAny _ _ (callAny (.type "set") _) _ _ _)
 show jMr ⟨Code.quiet_builtin _ (by decide+kernel),jRq F.entry_type_call ?_⟩
 rw[Around.under_plain (weight_type_call_type "set" [.ref l] []) rfl]
 repeat (any_goals (first|assumption|wp_step))
 show codeAny_mono (code_set_new (.ref l) (E:=E) (Q₁:=fun x t=>x= .ref s.heap.objs.size/\t={ s with heap:=s.heap.push (pY (!f7 w)) }) ⟨rfl,rfl⟩) fun r t hr=> ?_
 cases r with
 |error e=>exact hr
 |ok fl=>
  cases fl with
  |ret x=>
   obtain⟨rfl,rfl⟩:=hr
   have hS:(s.heap.push (pY (!f7 w))).get? s.heap.objs.size=some (pY (!f7 w)):=jMw _ rfl
   have hT:Shared.TypeIs { s with heap:=s.heap.push (pY (!f7 w)) } (.ref s.heap.objs.size) "set":=⟨_,hS,rfl⟩
   have q6:=F.called_set.init.lookup
   have q7:=F.called_set.init.bind (.ref s.heap.objs.size)
   repeat (any_goals (first|assumption|wp_step))
   show codeAny_mono (codeAny_call_builtin (R:=wants (fun r t=>r= .none/\∃h' tk vs,t={ s with heap:=h',toks:=tk }/\zj prog w (!f7 w) h' s.heap.objs.size vs/\vs.Perm (firstMet (fun i=>ns.getD i 0) items.size)/\
     ∀b o,b≠s.heap.objs.size->s.heap.get? b=some o->h'.get? b=some o) E) F.called_set.init.plain F.entry_set_init (PySem.check_set_init_1 hT ?_)) fun r t hr=> ?_
   .show jE (id hl) fun ol nK _=> ?_
    show jJe (by simp[hh]) hS (jN5 (jM1 nK)) (hl.push _) hi hb fun h' tk vs hV hP hk=> ?_
    exact⟨rfl,h',tk,vs,rfl,hV,hP,fun b o hb e=>hk b o hb (vK _ e)⟩
   .cases r with
    |error e=>exact hr
    |ok fl=>
     cases fl with
     |ret r=>
      obtain⟨rfl,h',tk,vs,rfl,hV,hP,hk⟩:=hr
      repeat (any_goals (first|assumption|wp_step))
      exact h _ _ vs hV hP hk
     |_=>exact hr.elim
  |_=>exact hr.elim
theorem jGu{α:Type}:∀(l:List α) (j:Nat) (h:j<l.length),(l[j]::l.eraseIdx j).Perm l:=by
 intro l
 induction l with
 |nil=>intro j h;exact absurd h (jOx j)
 |cons a l ih=>
  intro j h
  induction j using cN with
  |zero=>exact jQy _
  |succ j=>exact(List.Perm.swap _ _ _).trans ((ih j (jPg h)).cons a)
theorem pick_go{α:Type}(next:Nat->Nat):∀(fuel k:Nat) (left:List α) (out:Array α),left.length<=fuel->(pickOrder.go next fuel k left out).toList.Perm (out.toList++left):=by
 intro fuel
 induction fuel with
 |zero=>
  intro k left out h
  have:left=[]:=jOe.mp (Nat.le_zero.mp h)
  subst this
  rw[jOj]
  exact jQy _
 |succ n ih=>
  intro k left out h
  have e:pickOrder.go next (n+1) k left out=(match left[next k % left.length]? with
   |some x=>pickOrder.go next n (k+1) (left.eraseIdx (next k % left.length)) (out.push x)
   |none=>out):=rfl
  rw[e]
  induction left using cL with
  |nil=>rw[jOj];exact jQy _
  |cons a l=>
   have jv:next k % (a::l).length<(a::l).length:=jP3 _ (jRk _)
   generalize next k % (a::l).length=j at *
   rw[jM9 jv]
   dsimp only
   show(ih (k+1) _ _ (by rw[List.length_eraseIdx_of_lt jv];rw[jNo] at h ⊢;lia)).trans ?_
   rw[jSp,jNl]
   exact(jGu (a::l) j jv).append_left _
theorem jIs{α:Type}(next:Nat->Nat)(xs:Array α):(pickOrder next xs).toList.Perm xs.toList:=by
 have:=pick_go next xs.size 0 xs.toList #[] (by rw[jM3];exact jNi _)
 exact this
noncomputable def qY(w:World)(a:Addr)(ep:Nat)(es:Array (Int×Value)):Array (Int×Value):=if f7 w then pickOrder (w.params.setOrder a ep) es else es
theorem jAy(w:World)(a:Addr)(ep:Nat)(es:Array (Int×Value)):(qY w a ep es).toList.Perm es.toList:=by
 unfold qY
 split
 .exact jIs _ _
 .exact jQy _
theorem vt(w:World)(a:Addr)(ep:Nat)(es:Array (Int×Value)):(qY w a ep es).size=es.size:=by
 rw[<-jM3,(jAy w a ep es).length_eq,jM3]
theorem jBm(a:Addr)(slot given ep0:Nat):setNext a slot given ep0=(do
  let (es,epoch,t)<-setState a
  if<-setsByText then
   if epoch !=ep0 then unsupported "set_iterator.__next__:elements-changed"
   return ((<-setWalk a)[given]?).map fun e=>(e.2,slot)
  if (!t.plain&&decide (es.size > 1))=true then unsupported "set_iterator.__next__:the-table-is-plain-no-more"
  (if (!t.led&& !es.isEmpty)=true then unsupported "set:maker-not-led" else pure ():Sem Unit)
  let i:=SetTable.below t.place slot
  return match es[i]?,t.place[i]? with
   |some (_,x),some j=>some (x,j+1)
   |_,_=>none):=rfl
variable{o:Obj}{es:Array (Int×Value)}{ep:Nat}
theorem xO{Q:Bool->Shared->Prop}(h:Q (f7 w) s):wpAny (model prog w) A setsByText Q E s:=by
 unfold setsByText
 exact jMq (jQe (jMr h))
def zS(w:World)(t:SetTable)(slot i:Nat):Prop:=f7 w=false->SetTable.below t.place slot=i
theorem jEv{xs:Array Nat}(hr:fK xs.toList){j i:Nat}(hi:i<=xs.size)(h1:∀k,k<i->xs.getD k j<j)(h2:i<xs.size->¬xs.getD i j<j):SetTable.below xs j=i:=by
 show uX (jB3 j hr) fun g1 g2 g3=> ?_
 generalize SetTable.below xs j=r at *
 rcases Nat.lt_trichotomy r i with h|h|h
 .exact absurd (h1 r h) (g3 r nL (jNc h hi))
 .exact h
 .exact absurd (g2 i h) (h2 (jNc h g1))
theorem zS.zero(hi:zO L t):zS w t 0 0:=fun _=>jEv hi.rise (jQk _) (fun k h=>absurd h (jOx k)) fun _=>jOx _
theorem dc{xs:Array Nat}{k j:Nat}(h:k<xs.size):xs.getD k j=xs[k]:=by simp[Array.getD,h]
theorem zS.next(hi:zO L t){i:Nat}(h:i<t.place.size):zS w t (t.place[i]+1) (i+1):=fun _=>by
 show jEv hi.rise h (fun k hk=> ?_) fun g=> ?_
 .have k8:k<t.place.size:=by lia
  rcases jSh k i with c|c
  .have:=za hi.rise (j:=t.place[i]+1) c h
   rw[dc h] at this
   exact jSg this
  .have:k=i:=by lia
   subst this
   rw[dc h]
   exact jRc _
 .have:=za hi.rise (j:=t.place[i]+1) (jRc i) g
  rw[dc h] at this
  exact jN9.mpr (show t.place[i]+1<=t.place.getD (i+1) (t.place[i]+1) from this)
theorem jDh{slot i:Nat}{Q:Option (Value×Nat)->Shared->Prop}(ho:s.heap.get? a=some o)(hd:o.data= .set es ep t)(hf:t.fits es.size=true)(hi:zO (!f7 w) t)(hs:zS w t slot i){x:Int×Value}(hx:(qY w a ep es)[i]? =some x)
  (h:∀n,zS w t n (i+1)->Q (some (x.2,n)) s):wpAny (model prog w) A (setNext a slot i ep) Q E s:=by
 rw[jBm]
 show jMq (jO7 ho hd hf (jMq (xO ?_)))
 dsimp only
 have ku:=zg hf
 generalize c:f7 w=x0;induction x0 using cT with
 |true=>
  rw[jMt rfl,jMv (by simp)]
  show jMq ?_
  unfold setWalk
  show jMq (jO7 ho hd hf ?_)
  dsimp only
  show jMq (xO ?_)
  rw[c,jMt rfl]
  show jMq (jQe (jMr ?_))
  have:pickOrder (w.params.setOrder a ep) es=qY w a ep es:=by unfold qY;rw[if_pos c]
  show jMr ?_
  show(?_:Q (Option.map (fun e=>(e.2,slot)) (pickOrder (w.params.setOrder a ep) es)[i]?) s)
  rw[this,hx]
  exact h slot fun g=>by rw[c] at g;cases g
 |false=>
  have aE:qY w a ep es=es:=by unfold qY;rw[if_neg (by rw[c];exact jMy)]
  rw[aE] at hx
  have hl:t.led=true:=by rw[hi.led,c];rfl
  rw[jMv jMy,hi.pl,jMv (by simp),hl,jMv (by simp)]
  show jMq (jMr ?_)
  have jv:i<es.size:=by
   rcases jSh i es.size with g|g
   .exact g
   .rw[jQa g] at hx;exact zn hx
  have hlp:i<t.place.size:=by rw[ku];exact jv
  rw[hs c,hx,jOk hlp]
  exact jMr (h _ (zS.next hi hlp))
theorem jE8{slot i:Nat}{Q:Option (Value×Nat)->Shared->Prop}(ho:s.heap.get? a=some o)(hd:o.data= .set es ep t)(hf:t.fits es.size=true)(hi:zO (!f7 w) t)(hs:zS w t slot i)(hx:es.size<=i)
  (h:Q none s):wpAny (model prog w) A (setNext a slot i ep) Q E s:=by
 rw[jBm]
 show jMq (jO7 ho hd hf (jMq (xO ?_)))
 dsimp only
 generalize c:f7 w=x0;induction x0 using cT with
 |true=>
  rw[jMt rfl,jMv (by simp)]
  show jMq ?_
  unfold setWalk
  show jMq (jO7 ho hd hf ?_)
  dsimp only
  show jMq (xO ?_)
  rw[c,jMt rfl]
  show jMq (jQe (jMr ?_))
  have:pickOrder (w.params.setOrder a ep) es=qY w a ep es:=by unfold qY;rw[if_pos c]
  show jMr ?_
  show(?_:Q (Option.map (fun e=>(e.2,slot)) (pickOrder (w.params.setOrder a ep) es)[i]?) s)
  rw[this,jQa (by rw[vt];exact hx)]
  exact h
 |false=>
  have hl:t.led=true:=by rw[hi.led,c];rfl
  rw[jMv jMy,hi.pl,jMv (by simp),hl,jMv (by simp)]
  show jMq (jMr ?_)
  rw[hs c,jQa hx]
  exact jMr h
theorem jD5:Manifest.owners.lookup (String.ofList ['r','o','t','a','r','e','t','i','_','t','e','s'].reverse)=some Manifest.sig_set_iterator:=kR
theorem jAl:Slot "set_iterator" "__iter__" "set_iterator.__iter__":=
 .of (owner:="set_iterator") (n:="__iter__") (by rw[typeLookup_type,builtinLookup_eq_fast];kernel_rfl) (by decide+kernel) (by decide+kernel) (by decide+kernel)
  (by first|exact .inl (by decide+kernel)|exact .inr (by decide+kernel)) (by rw[isSubtype_type];kernel_rfl)
theorem qz:Slot "set_iterator" "__next__" "set_iterator.__next__":=
 .of (owner:="set_iterator") (n:="__next__") (by rw[typeLookup_type,builtinLookup_eq_fast];kernel_rfl) (by decide+kernel) (by decide+kernel) (by decide+kernel)
  (by first|exact .inl (by decide+kernel)|exact .inr (by decide+kernel)) (by rw[isSubtype_type];kernel_rfl)
theorem jAh:entryFor table "set_iterator.__next__"=some Builtin.«set_iterator.__next__»:=entryFor_of_tree kR
theorem jCm:entryFor table "set_iterator.__iter__"=some Builtin.«dict_keyiterator.__iter__»:=
 PySem.entryFor_alias (id':="dict_keyiterator.__iter__") kR rfl (by decide+kernel) kR
theorem jDx(a:Value):argsOk "set_iterator.__iter__" ⟨[a],[]⟩:=by
 unfold argsOk;rw[signature?_of (id:="set_iterator.__iter__") (n:=['_','_','r','e','t','i','_','_']) (o:=['r','o','t','a','r','e','t','i','_','t','e','s']) kR jD5];kernel_rfl
theorem jAs(a:Value):argsOk "set_iterator.__next__" ⟨[a],[]⟩:=by
 unfold argsOk;rw[signature?_of (id:="set_iterator.__next__") (n:=['_','_','t','x','e','n','_','_']) (o:=['r','o','t','a','r','e','t','i','_','t','e','s']) kR jD5];kernel_rfl
theorem jBh:entryFor table "set.__iter__"=some Builtin.«frozenset.__iter__»:=
 PySem.entryFor_alias (id':="frozenset.__iter__") kR rfl (by decide+kernel) kR
theorem jE9(a:Addr):setDrawn a=(do
  let (es,_,t)<-setState a
  let byText<-setsByText
  return !byText&&(!t.plain&&decide (es.size > 1))):=rfl
structure zX(prog:Program)(w:World)(h:Heap)(a:Addr)(es:Array (Int×Value))(ep:Nat)(t:SetTable):Prop where
 at':∃o,h.get? a=some o/\o.ExactSet/\o.data= .set es ep t
 fit:t.fits es.size=true
 inv:zO (!f7 w) t
theorem zX.keep{h h':Heap}(x:zX prog w h a es ep t)(e:∀o,h.get? a=some o->h'.get? a=some o):zX prog w h' a es ep t:=
 ⟨let ⟨o,ho,r⟩:=x.at';⟨o,e o ho,r⟩,x.fit,x.inv⟩
def oQ(w:World)(h:Heap)(it a:Addr)(i n ep:Nat)(t:SetTable):Prop:=
 ∃(o:Obj) (slot:Nat),h.get? it=some o/\o.cls= .type "set_iterator"/\o.data= .fields #[.int slot 0,.int i 0,.ref a,.int n 0,.int ep 0]/\zS w t slot i
variable{it:Addr}{i:Nat}
theorem oQ.keep{h h':Heap}(x:oQ w h it a i n ep t)(e:∀o,h.get? it=some o->h'.get? it=some o):oQ w h' it a i n ep t:=let ⟨o,k,ho,r⟩:=x;⟨o,k,e _ ho,r⟩
theorem oQ.typeIs(x:oQ w s.heap it a i n ep t):s.TypeIs (.ref it) "set_iterator":=let ⟨o,_,ho,hc,_⟩:=x;⟨o,ho,hc⟩
theorem zX.typeIs(x:zX prog w s.heap a es ep t):s.TypeIs (.ref a) "set":=let ⟨o,ho,hx,_⟩:=x.at';⟨o,ho,hx.1⟩
theorem zX.lt{h:Heap}(x:zX prog w h a es ep t):a<h.objs.size:=let ⟨_,ho,_⟩:=x.at';jM1 ho
theorem setIter(hS:zX prog w s.heap a es ep t)
  (h:Q (.ref s.heap.objs.size) { s with heap:=s.heap.push { cls:= .type "set_iterator",data:= .fields #[.int 0 0,.int 0 0,.ref a,.int es.size 0,.int ep 0] } }):
  wpAny (model prog w) A (pyIter (.ref a)) Q E s:=by
 show qk (id hS.at') fun o ho hx hd=> ?_
 show wpAny_pyIter_slot hS.typeIs F.slot_set_iter (jN4 F.slot_set_iter hS.typeIs jBh ?_ (F.args_set_iter_1 _))
 unfold Builtin.«frozenset.__iter__»
 show jMq (jMr ?_)
 unfold Builtin.Frozenset.sizeOf
 show jMq (jMq (jR2 ho hd hS.fit (jMr ?_)))
 show jMq ?_
 rw[jE9]
 show jMq (jO7 ho hd hS.fit ?_)
 dsimp only
 show jMq (xO (jMr ?_))
 rw[hS.inv.pl,jMv (by simp)]
 show jMq (jMr ?_)
 unfold setEpoch
 show jMq (jMq (jO7 ho hd hS.fit (jMr ?_)))
 dsimp only
 show jMq (jO8 (jMr ⟨_,rfl,"set_iterator",_,⟨_,jMw _ rfl,rfl⟩,qz.lookup,h⟩))
theorem si_iter(x:oQ w s.heap it a i n ep t)(h:Q (.ref it) s):wpAny (model prog w) A (pyIter (.ref it)) Q E s:=by
 show wpAny_pyIter_slot x.typeIs jAl (jN4 jAl x.typeIs jCm ?_ (jDx _))
 show(?_:wpAny _ _ (ret (.ref it)) _ _ s)
 exact jMr ⟨_,rfl,"set_iterator",_,x.typeIs,qz.lookup,h⟩
theorem si_item{Q:Option Value->Shared->Prop}(hS:zX prog w s.heap a es ep t)(x:oQ w s.heap it a i es.size ep t){e:Int×Value}(he:(qY w a ep es)[i]? =some e)
  (h:∀h',oQ w h' it a (i+1) es.size ep t->Heap.SameBut it s.heap h'->Q (some e.2) { s with heap:=h' }):wpAny (model prog w) A (pyNext (.ref it)) Q E s:=by
 show uW (id x) fun o k ho hc hd xR=> ?_
 show qk (id hS.at') fun os tj aq vF=> ?_
 have je:a≠it:=fun g=>by subst g;rw[ho] at tj;replace tj:=jX tj;subst tj;rw[hd] at vF;cases vF
 unfold pyNext
 show jMq (jR6 (jOc (name:=Str.ofString "__next__") x.typeIs qz
  (jN4 qz x.typeIs jAh ?_ (jAs _))))
 unfold Builtin.«set_iterator.__next__»
 show jMq (jMr ?_)
 dsimp only
 show jMq (wpAny_fieldsOf ho hd ?_)
 dsimp only
 show jMq (jR2 tj vF hS.fit ?_)
 rw[jMv (by simp)]
 show jMq ?_
 simp only[Int.toNat_natCast]
 show jDh tj vF hS.fit hS.inv xR he fun m hm=> ?_
 dsimp only
 show jMq (jO1 ho hd (by simp) ?_)
 have tT:=jOm (h:=s.heap) (a:=it) (Obj.mapFields (·.setIfInBounds 0 (rawInt m))) ho (jO5 (jNx hd _))
 have bS:=jNx hd (·.setIfInBounds 0 (rawInt m))
 show jMq (jO1 tT bS (by simp) ?_)
 show jMr ⟨_,rfl,jMr (h _ ?_ ((jN6 ..).trans (jN6 ..)))⟩
 show⟨_,m,jOm _ tT (jO5 (jNx bS _)),(jQ3 ..).trans ((jQ3 ..).trans hc),?_,hm⟩
 rw[jNx bS]
 rfl
theorem si_end{Q:Option Value->Shared->Prop}(hh:A.handled=none)(hS:zX prog w s.heap a es ep t)(x:oQ w s.heap it a i es.size ep t)(he:es.size<=i)
  (h:∀h',Heap.ExtBut it s.heap h'->Q none { s with heap:=h' }):wpAny (model prog w) A (pyNext (.ref it)) Q E s:=by
 show uW (id x) fun o k ho hc hd xR=> ?_
 show qk (id hS.at') fun os tj aq vF=> ?_
 unfold pyNext
 show jMq (jR6 (jOc (name:=Str.ofString "__next__") x.typeIs qz
  (jN4 qz x.typeIs jAh ?_ (jAs _))))
 unfold Builtin.«set_iterator.__next__»
 show jMq (jMr ?_)
 dsimp only
 show jMq (wpAny_fieldsOf ho hd ?_)
 dsimp only
 show jMq (jR2 tj vF hS.fit ?_)
 rw[jMv (by simp)]
 show jMq ?_
 simp only[Int.toNat_natCast]
 show jE8 tj vF hS.fit hS.inv xR he ?_
 dsimp only
 show jMq (jO1 ho hd (by simp) ?_)
 show(?_:wpAny _ _ (newExc (.type "StopIteration") [] >>=_) _ _ _)
 show jMq ?_
 simp only[newExc,newTuple]
 show jMq (jO8 ?_ (by size_fits))
 show jMq (m:=firstArgMember _ _) (jQ2 (a:=Value.none) (by first|rfl|(simp only[firstArgMember];rfl)) ?_)
 show jO8 ?_ (by size_fits)
 unfold raiseNew
 show jMq (wpAny_handled ?_)
 rw[show A.in1.handled=none from hh]
 show jMq (jMr (wpAny_throw ?_))
 show jMq (wpAny_isInstance (T:="StopIteration") (b:=true) ⟨_,jMw _ rfl,rfl⟩ isSubtype_stop ?_)
 exact jMr (h _ (((jN6 ..).extBut.push _).push _))
theorem jH4(hh:A.handled=none)(I a:Addr)(je:a≠I)(es:Array (Int×Value))(ep:Nat)(t:SetTable):
  Walks prog w A I [I,a] [I] es.size (fun i v=>∃e,(qY w a ep es)[i]? =some e/\v=e.2) (fun i h=>oQ w h I a i es.size ep t/\zX prog w h a es ep t) where
 sub:=fun b hb=>by simp at hb;simp[hb]
 frame:=fun _ _ _ st hk=>⟨st.1.keep fun o e=>hk I (by simp) o e,st.2.keep fun o e=>hk a (by simp) o e⟩
 item:=fun i s Q E hi st hQ=>by
  have hx:(qY w a ep es)[i]? =some ((qY w a ep es)[i]'(by rw[vt];exact hi)):=jOk _
  show si_item st.2 st.1 hx fun h' fz wD=> ?_
  exact hQ _ h' s.toks ⟨_,hx,rfl⟩ ⟨fz,st.2.keep fun o e=>wD.extBut a o je e⟩ fun b o hb e=>wD.extBut b o (fun h=>hb (by simp[h])) e
 done:=fun s Q E st hQ=>si_end hh st.2 st.1 nL fun h' mq=>hQ h' s.toks fun b o hb e=>mq b o (fun h=>hb (by simp[h])) e
 self:=fun _ _ _ _ st hQ=>si_iter st.1 hQ
theorem jLq{r:Addr}{Q:Bool->Shared->Prop}(hT:s.TypeIs (.ref r) "set")(h:Q false s):wpAny (model prog w) A (Builtin.List.listLengthHint (.ref r)) Q E s:=by
 unfold Builtin.List.listLengthHint
 show jMq (wpAny_specialOf hT PySem.F.slot_set_len.lookup ?_)
 generalize hid:("set.__len__":String)=id0
 wp_delta
 rw[show splitId id0=some ("set","__len__") from by subst hid;decide+kernel]
 subst hid
 show jMq (wpAny_isInstance (T:="set") (b:=true) hT (by rw[isSubtype_type];kernel_rfl) ?_)
 show wpAny_ite_split (fun fh=>absurd fh kD) (fun _=> ?_)
 show wpAny_ite_split (fun _=> ?_) (fun fh=>absurd (by decide+kernel) fh)
 show jMq (wpAny_typeOf hT ?_)
 exact jMr h
theorem set_src:KdlSrc prog w "set" a a es.size (fun i v=>∃e,(qY w a ep es)[i]? =some e/\v=e.2) (fun h=>zX prog w h a es ep t) where
 type:=fun _ hm=>hm.typeIs
 there:=fun _ hm=>⟨hm.lt,hm.lt⟩
 keep:=fun _ _ hm hk=>hm.keep fun o e=>hk a (.inl rfl) o e
 notList:=by decide
 notTuple:=by decide
 hint:=fun _ _ _ _ hm hq=>jLq hm.typeIs hq
 iter:=fun _ s hh hm=>⟨_,_,(fun _ _ hq=>setIter hm hq),jH4 hh _ a (jN5 hm.lt) es ep t,⟨⟨_,0,jMw _ rfl,rfl,rfl,zS.zero hm.inv⟩,hm.keep fun o e=>vK _ e⟩⟩
theorem intsAre_of:∀{l:List (Int×Value)},(∀e∈l,∃t,e.2= .int (intOf e.2) t)->IntsAre (l.map (·.2)) (l.map fun e=>intOf e.2):=by
 intro l
 induction l with
 |nil=>intro _;exact .nil
 |cons a l ih=>
  intro h
  obtain⟨t,e⟩:=h a jy
  have:=IntsAre.cons (intOf a.2) t (ih fun e he=>h e (qV _ he))
  rw[<-e] at this
  exact this
theorem jLk{α:Type}{l:List α}{f:α->Value}{acc:Array Value}(h1:acc.size=l.length)(h2:∀(j:Nat) v,acc[j]? =some v->∃e,l[j]? =some e/\v=f e):acc.toList=l.map f:=by
 show List.ext_getElem? fun j=> ?_
 rw[jN8,jN2]
 by_cases hj:j<acc.size
 .show jE (h2 j acc[j] (jOk hj)) fun e h3 h4=> ?_
  rw[h3,jOk hj,h4];rfl
 .rw[jQa (jN9.mp hj),List.getElem?_eq_none (by rw[<-h1];exact jN9.mp hj)];rfl
variable{S:Addr}
theorem jE6(hh:A.handled=none)(hS:zj prog w (!f7 w) s.heap S vs)
  (h:∀(D:Addr) (h':Heap) (tk:Nat) (out:List Value) (n:Nat) (ns:List Int),s.heap.get? D=none->(∀b o,s.heap.get? b=some o->h'.get? b=some o)->h'.get? D=some (seqObj "list" out.toArray n)->IntsAre out ns->ns.Perm vs->ns.Pairwise (·<=·)->Q (.ref D) { s with heap:=h',toks:=tk }):
  wpAny (model prog w) A (call (.builtin "sorted") [.ref S]) Q E s:=by
 obtain⟨o,es,ep,t,ho,hex,hd,gN,hv,hb,hf,hi,hn,hr,bl⟩:=hS
 have nU:zX prog w s.heap S es ep t:=⟨⟨o,ho,hex,hd⟩,hf,hi⟩
 have aN:es.size<=18:=by have:=bl.1;rw[hv,jMu,jM3] at this;exact this
 have mj:es.size<=sizeLine:=by rw[sizeLine_eq];exact j6
 show Calls.call_function_entry kind_sorted plain_sorted entry_sorted (args_sorted1 _) ?_
 unfold Builtin.«sorted»
 show jMq (m:=checkCount "sorted" 1 1 _) (jMr ?_)
 show jMq (kdu_collect (A:=A.in1) (set_src (prog:=prog) (w:=w) (a:=S) (es:=es) (ep:=ep) (t:=t)) hh nU mj fun h' tk acc hk wz=> ?_)
 have e1:acc.toList=(qY w S ep es).toList.map (·.2):=jLk (l:=(qY w S ep es).toList) (f:=fun e=>e.2) (by rw[wz.1,jM3,vt]) fun j v hj=>by
  show jE (wz.2 j v hj) fun e h3 h4=> ?_
  exact⟨e,by rw[jN8];exact h3,h4⟩
 have hp:=jAy w S ep es
 have hI:IntsAre acc.toList ((qY w S ep es).toList.map fun e=>intOf e.2):=by
  rw[e1]
  show intsAre_of fun e he=> ?_
  obtain⟨⟨k',h1,_⟩,_⟩:=gN e (hp.mem_iff.mp he)
  obtain⟨t,ht⟩:=Value.isInt_shape h1
  exact⟨t,by rw[ht];rfl⟩
 have hP:((qY w S ep es).toList.map fun e=>intOf e.2).Perm vs:=by rw[hv];exact hp.map _
 have hl:acc.toList.length=es.size:=by rw[jM3];exact wz.1
 show jMq (wpAny_newList ?_ (by rw[hl];exact mj))
 have i4:(h'.push (seqObj "list" acc.toList.toArray 0)).get? h'.objs.size=some (seqObj "list" acc.toList.toArray 0):=jMw _ rfl
 show jMq (jPb (jN4 slot_list_sort ⟨_,i4,rfl⟩ entry_list_sort (list_sort_tree i4 hI (by lia) fun out iF a1 a2 a3=>⟨_,rfl,?_⟩) (args_list_sort _)))
 obtain⟨n,hO⟩:=sortedHeap_at (out:=out) i4
 have hle:s.heap.get? h'.objs.size=none:=by
  generalize g:s.heap.get? h'.objs.size=x0;induction x0 using cO with
  |none=>rfl
  |some o=>exact absurd (jM1 (hk _ o g)) (jNp _)
 show jMr ⟨_,rfl,h h'.objs.size _ tk out.toList n iF hle (fun b o e=> ?_) hO a1 (a2.trans hP) a3⟩
 have jv:=jM1 (hk b o e)
 rw[sortedHeap_old (jN5 jv) (by rw[size_push'];exact jSg jv),vK _ (hk b o e)]
theorem jJz:bootBuiltins "len"=some (.builtin "len"):=by decide+kernel
theorem jJx:bootBuiltins "sum"=some (.builtin "sum"):=by decide+kernel
theorem jFs:bootBuiltins "range"=some (.type "range"):=by decide+kernel
theorem jAr:bootBuiltins "sorted"=some (.builtin "sorted"):=by decide+kernel
theorem jC9:bootBuiltins "str"=some (.type "str"):=by decide+kernel
theorem jJ0:bootBuiltins "int"=some (.type "int"):=by decide+kernel
theorem jBx:bootBuiltins "list"=some (.type "list"):=by decide+kernel
theorem jAx:bootBuiltins "isinstance"=some (.builtin "isinstance"):=by decide+kernel
def BootOk(as:List D)(f:Str):Prop:=f∈y9/\bootBuiltins f=some (wL f)/\(f==("__debug__":Str))=false/\as≠[]/\((∃id,wL f= .builtin id)\/∃T,wL f= .type T)
theorem wF{α:Type}{as:List α}{k1:α->Option D}{k2:α->α->Option D}{d:D}(h:yf as k1 k2=some d):as≠[]:=by
 induction as using cL with
 |nil=>exact nn h
 |cons _ _=>exact List.cons_ne_nil _ _
theorem jDt{f:Str}{as:List D}{d:D}(h:jr f as=some d):BootOk as f:=
 jAi h (P:=BootOk as) (fun h=>⟨by decide,jJz,by decide,wF h,.inl ⟨_,rfl⟩⟩) (fun h=>⟨by decide,jJx,by decide,wF h,.inl ⟨_,rfl⟩⟩) (fun h=>⟨by decide,jFs,by decide,wF h,.inr ⟨_,rfl⟩⟩) (fun h=>⟨by decide,jAr,by decide,wF h,.inl ⟨_,rfl⟩⟩)
  (fun h=>⟨by decide,jC9,by decide,wF h,.inr ⟨_,rfl⟩⟩) fun h=>⟨by decide,jJ0,by decide,wF h,.inr ⟨_,rfl⟩⟩
theorem jCo(S:SE C n r)(a1:y0 (n+1) A){f:Str}{np pos:Pos}{args:List Expr}{as:List D}{d:D}(p:Pre C n k A env Y l s)(hk:env.kindOf f=some .globalImplicit)(h1:zh r k env.scope l args=some as)(h2:jr f as=some d)(q:Kq C Y d s Q):wpAny C.M A (eval (.Call (.Name f np) args [] pos) env) Q NE s:=by
 show rI (jDt h2) fun hu hb hd je ki=> ?_
 have xR:=kX h1
 have yB:=plain_any (pos:=pos) (env:=env) xR
 show jOw rfl (qi p hk hu hb hd ?_)
 have main:wpAny C.M A (spliced (backTo pos (starEach args env))) (fun vs s'=>wpAny C.M A (call (wL f) vs) Q NE s') NE s:=
  yI S p h1 fun vs s2 k2 p2 r2=>jDs p2.a.handled p2.hP p2.lt h2 r2 fun v s3 k3 r3=>q v s3 (k2.trans k3) r3
 match args,h1,xR,main,yB with
 |[],h1,_,_,_=>(replace h1:=jX h1;subst h1);exact absurd rfl je
 |e::es,h1,xR,main,yB=>
  rw[jI (xR e jy)] at main yB ⊢
  rcases ki with ⟨id,e1⟩|⟨T,e1⟩
  .rw[e1] at main ⊢
   exact jO0 yB (jNg main)
  .rw[e1] at main ⊢
   exact jPm yB (jNg main)
theorem jJy:bootBuiltins "set"=some (.type "set"):=by decide+kernel
theorem on1_is{α β:Type}{as:List α}{k1:α->Option β}{d:β}(h:bO as k1=some d):∃a,as=[a]/\k1 a=some d:=by
 induction as using cL with
 |nil=>exact nn h
 |cons a as=>
  induction as using cL with
  |nil=>exact⟨a,rfl,h⟩
  |cons _ _=>exact nn h
theorem jIk{c e:Expr}(h:setArg? c=some e):∃gp cp,c= .Call (.Name "set" gp) [e] [] cp:=by
 induction c using cE with
 |Call g as ks cp=>
  induction ks using cL with
  |nil=>
   show jE (on1_is (show bO as (fun e=>(nameE? g).bind fun x=>if x="set" then some e else none)=some e from h)) ?_;rintro a rfl h1
   show bE h1 fun x hx h2=> ?_
   obtain⟨gp,rfl⟩:=yP hx
   revert h2;show vS fun hx h2=> ?_
   replace h2:=jX h2;subst h2
   exact⟨gp,cp,by rw[hx]⟩
  |cons _ _=>exact nn h
 |_=>exact nn h
theorem jCl(ns:List Int):firstMet (fun i=>ns.getD i 0) ns.length=wu ns:=by
 have e:(List.range ns.length).map (fun i=>ns.getD i 0)=ns:=by
  show List.ext_getElem (by simp) fun i h1 h2=> ?_
  rw[List.getElem_map,List.getElem_range,jNa,jM9 h2,Option.getD_some]
 unfold firstMet
 rw[e];rfl
theorem jKk{vs:List Value}{m:Nat}{ns:List Int}(hh:A.handled=none)(hY:∀a∈Y,∃o,s.heap.get? a=some o)(ho:view s.heap Y a=some (j4 vs m))(hI:IntsAre vs ns)(bl:Small (wu ns))(q:Kq C Y (.list ((sortI (wu ns)).map .int)) s Q):
  wpAny C.M A (call (.type "set") [.ref a]) (fun v s'=>wpAny C.M A (call (.builtin "sorted") [v]) Q NE s') NE s:=by
 have hlen:vs.length=ns.length:=hI.length
 have hm:firstMet (fun i=>ns.getD i 0) vs.toArray.size=wu ns:=by rw[jQ4,hlen];exact jCl ns
 show yA (jJw hh (jU ho) hI (by rw[hm];exact bl) fun h' tk us hS hp wm ht=> ?_)
 rw[hm] at hp
 show yA (jE6 hh hS fun D h2 tk2 out n2 ns2 hD cG hO lT aA bR ax=> ?_)
 have kk:∀b o,s.heap.get? b=some o->h2.get? b=some o:=fun b o e=>cG b o (wm b o (jN5 (jM1 e)) e)
 rw[<-um (aA.trans hp) bR] at q
 show q _ _ (KP.of (x8 ht ax) kk) (.list (vs:=out) (n:=n2) ?_ (Rs.ofInts lT))
 show jT hO fun hm=> ?_
 obtain⟨o,hb⟩:=hY D hm
 rw[wm D o (jN5 (jM1 hb)) hb] at hD
 exact zn hD.symm
theorem jCe(S:SE C n r){f:Str}{np pos:Pos}{args:List Expr}{d:D}(p:Pre C n k A env Y l s)(hk:env.kindOf f=some .globalImplicit)(h:uK r k env.scope l f args=some d)(q:Kq C Y d s Q):wpAny C.M A (eval (.Call (.Name f np) args [] pos) env) Q NE s:=by
 unfold uK at h
 revert h;show vS fun hf h=> ?_
 obtain⟨rfl,aD⟩:=hf
 show jE (on1_is h) ?_;rintro c rfl h1
 show bE h1 fun e he h2=> ?_
 show oP (jIk he) ?_;rintro gp cp rfl
 revert h2;show tg fun xR h2=> ?_
 rw[jOf] at xR
 show bE h2 fun x hx h3=> ?_
 show jE (qW h3) ?_;rintro ds rfl h4
 show bE h4 fun ns hi h5=> ?_
 revert h5;show vS fun hg h5=> ?_
 replace h5:=jX h5;subst h5
 show jOw rfl (qi (v:= .builtin "sorted") p hk kD jAr kD ?_)
 rw[jI (e:= .Call (.Name "set" gp) [e] [] cp) rfl]
 show jO0 (by rfl) (jNg (jNf ?_))
 show jOw rfl (qi (v:= .type "set") p aD kD jJy kD ?_)
 rw[jI xR]
 show jPm (by rfl) (jNg (jNf (S.at p hx fun v s1 k1 p1 r1=>jN3 ?_)))
 show ja r1.list_inv ?_;rintro a vs m rfl ho rs
 show jNh (jKk p1.a.handled p1.hYs ho (d9 rs hi) ⟨hg.1,fun x hx=>jNu (jNe.mp hg.2 x hx)⟩ fun v s' k2 r2=>q v s' (k1.trans k2) r2) (fun v s' h=>jN3 h) fun _ _ h=>h
theorem jDm(S:SE C n r){e:Expr}{b:Str}{np bp pos:Pos}{x:List D}(p:Pre C n k A env Y l s)(hk:env.kindOf "isinstance"=some .globalImplicit)(hb:b="list")(hkb:env.kindOf b=some .globalImplicit)(xR:isStarred e=false)(h1:r.E k env.scope l e=some (.list x))(q:Kq C Y (.bool true) s Q):
  wpAny C.M A (eval (.Call (.Name "isinstance" np) [e,.Name b bp] [] pos) env) Q NE s:=by
 subst hb
 show jOw rfl (qi (v:= .builtin "isinstance") p hk kD jAx kD ?_)
 rw[jI xR]
 show jO0 (by rfl) (jNg (jNf (S.at p h1 fun v s1 k1 p1 r1=>jNf (qi (v:= .type "list") p1 hkb kD jBx kD (jN3 ?_)))))
 show ja r1.list_inv ?_;rintro a vs m rfl ho _
 have hT:s1.TypeIs (.ref a) "list":=⟨_,(jG ho).1,rfl⟩
 exact PyProof.Rows.call_isinstance_yes hT (by rfl) AutoSeq1.sub_list_list (q _ _ k1 (.bool true))
theorem jLu{fns:List (Str×Fn)}(S:gL C n r){f:Str}{np pos:Pos}{args:List Expr}{as:List D}{d:D}(p:Pre C (n+1) k A env Y l s)(hk:env.kindOf f=some .globalImplicit)(nS:(f==("__debug__":Str))=false)(h1:zh r k env.scope l args=some as)(h2:(zH C.fns r f as).bind qB=some d)(q:Kq C Y d s Q):wpAny C.M A (eval (.Call (.Name f np) args [] pos) env) Q NE s:=by
 show bE h2 fun x g2 h3=> ?_
 show bE g2 fun fn hf g3=> ?_
 show bE g3 fun l0 hb g4=> ?_
 clear h2 g2 g3
 obtain⟨fl,l'⟩:=x
 have hfl:fl= .ret d:=by
  cases fl <;> first|((replace h3:=jX h3;subst h3);rfl)|(cases h3)
 subst hfl
 show rH (p.bs.fn f fn hf) fun a o pm code doc hm ho hd hc=> ?_
 have xR:=kX h1
 have yB:=plain_any (pos:=pos) (env:=env) xR
 have p0:=p.mono (jM5 n)
 show jOw rfl (qh p hk hm nS ?_)
 have main:wpAny C.M A (spliced (backTo pos (starEach args env))) (fun vs s'=>(s'.heap.get? a=some o/\o.data= .func (docDef f fn.params fn.body fn.scope pm code doc))/\wpAny C.M A (call (.ref a) vs) Q NE s') NE s:=
  yI S.E p0 h1 fun vs s2 k2 p2 r2=>⟨⟨p2.gr.keep _ _ ho,hd⟩,zz S.S hf hm p.bs p2.gr p2.hP p2.hY p2.hYs p.a.room hb g4 r2 fun v s3 k3 r3=>q v s3 (k2.trans k3) r3⟩
 match args,h1,xR,main,yB with
 |[],h1,_,main,_=>
  replace h1:=jX h1;subst h1
  exact jOu (o:=o) (fd:=docDef f fn.params fn.body fn.scope pm code doc) (evalArgs_nil3 ⟨⟨p.gr.keep _ _ ho,hd⟩,zz S.S hf hm p.bs p.gr p.hP p.hY p.hYs p.a.room hb g4 .nil fun v s3 k3 r3=>q v s3 k3 r3⟩)
 |e::es,h1,xR,main,yB=>
  rw[jI (xR e jy)] at main yB ⊢
  exact jOu (o:=o) (fd:=docDef f fn.params fn.body fn.scope pm code doc) (jNg main)
theorem jF3{H:HV}{ks:List Str}{vs:List Value}{ds:List D}{x:Str}{v:Value}{d:D}(h1:ks.length=vs.length)(rs:Rs C.prog C.w H vs ds)(rv:R C.prog C.w H v d):
  ∃(aa:List Str) (vT:List Value) (fE:List D),stored (ks.zip vs) x v=aa.zip vT/\qj (ks.zip ds) x d=aa.zip fE/\aa.length=vT.length/\Rs C.prog C.w H vT fE:=by
 have vF:ks.length=ds.length:=h1.trans rs.length
 unfold stored qj
 rw[jHb x ks vs h1,jBi x ks ds vF]
 by_cases hm:x∈ks
 .simp only[hm,decide_true,if_true]
  rw[gW x v ks vs h1,gW x d ks ds vF]
  exact vO ks _ _ rfl rfl (jAz x v ks vs h1) (Rs.upd rv rs h1)
 .simp only[hm,decide_false,Bool.false_eq_true,if_false]
  exact vO (ks++[x]) (vs++[v]) (ds++[d]) (by rw[jRr h1];rfl) (by rw[jRr vF];rfl) (by simp[h1]) (Rs.append rs (.cons rv .nil))
theorem strO_is{o:Option Expr}{x:Str}(h:o.bind strC? =some x):∃k p,o=some (.Constant (.str x) k p):=bE h fun e h1 h2=>by
 obtain⟨k,p,rfl⟩:=uJ h2
 exact⟨k,p,h1⟩
theorem jD0{x:Str}{kd:Nat}{p:Pos}(q:Q (.str x s.toks) { s with toks:=s.toks+1 }):wpAny C.M A (eval (.Constant (.str x) kd p) env) Q E s:=by
 rw[jQ5]
 exact jRh q
theorem jGx{pos:Pos}:∀(as:List Str) (ks:List (Option Expr)) (vs:List Expr) (bs:List Str),tN ks=some as->bF vs=some bs->as.length=bs.length->∃pairs:List (Sem Value×Sem Value),(evalEachOpt ks env).zip ((evalEach vs env).map fun v=>do let x<-v;standAt pos;pure x)=pairs.map (fun p=>(some p.1,p.2))/\pairs.length=as.length/\
  ∀(s:Shared) (R:List (Value×Value)->Shared->Prop),(∀ps ws tk,s.toks<=tk->Carries (strKind C.prog C.w) ps (as.zip ws)->as.length=ws.length->(∀H,Rs C.prog C.w H ws (bs.map .str))->R ps { s with toks:=tk })->wpAny C.M A (evalPairs pairs) R NE s:=by
 intro as
 induction as with
 |nil=>
  intro ks vs bs h1 h2 hl
  cases bs with
  |cons _ _=>cases hl
  |nil=>
   cases ks with
   |cons e r=>exact bE h1 fun x _ h=>mE h fun a _ e=>nomatch e
   |nil=>exact⟨[],rfl,rfl,fun s R q=>evalPairs_nil (q [] [] _ nL trivial rfl fun _=> .nil)⟩
 |cons x as ih=>
  intro ks vs bs h1 h2 hl
  cases ks with
  |nil=>cases h1
  |cons o ks=>
   cases vs with
   |nil=>replace h2:=jX h2;subst h2;cases hl
   |cons v vs=>
    show bE h1 fun x' hx k1=>mE k1 fun as' j1 e1=> ?_
    show bE h2 fun y hy k2=>mE k2 fun bs' j2 e2=> ?_
    cases e1;cases e2
    show oP (strO_is hx) ?_;rintro k1 p1 rfl
    show oP (uJ hy) ?_;rintro k2 p2 rfl
    show qk (ih ks vs bs' j1 j2 (Nat.succ.inj hl)) fun pairs g1 g2 g3=> ?_
    show⟨(eval (.Constant (.str x) k1 p1) env,do let z<-eval (.Constant (.str y) k2 p2) env;standAt pos;pure z)::pairs,jM8 (_::·) g1,jM8 (·+1) g2,fun s R q=>evalPairs_cons (jD0 (jMq (jD0 (jMq (jQf (jMr (g3 _ _ fun ps ws tk ht hc hw hr=> ?_)))))))⟩
    exact q ((.str x s.toks,.str y (s.toks+1))::ps) (.str y (s.toks+1)::ws) tk (x8 (jOn _ 2) ht) ⟨jRj _ _ x _,rfl,hc⟩ (jM8 (·+1) hw) fun H=> .cons (.str y _) (hr H)
theorem jGy{ks:List (Option Expr)}{vs:List Expr}{pos:Pos}{d:D}(p:Pre C n k A env Y l s)(h:xK C.fns C.glob r k env.scope l (.Dict ks vs pos)=some d)(q:Kq C Y d s Q):wpAny C.M A (eval (.Dict ks vs pos) env) Q NE s:=by
 show bE (show ((tN ks).bind fun a=>(bF vs).bind fun b=>if 1<=a.length/\a.length<=15/\a.length=b.length/\a.Nodup then some (D.dictS (a.zip (b.map .str))) else none)=some d from h) fun a h1 h=> ?_
 show bE h fun b h2 h=> ?_
 revert h;show vS fun hc h=> ?_
 replace h:=jX h;subst h
 show uF hc fun c1 c2 c3 c4=> ?_
 show qk (jGx (C:=C) (A:=A) (env:=env) (pos:=pos) a ks vs b h1 h2 c3) fun pairs g1 g2 g3=> ?_
 show wpAny_Dict_pairs (knd:=strKind C.prog C.w) g1 (fun e=> ?_) (g2▸c2) (g3 _ _ fun ps ws tk ht hc hw hr=>⟨a.zip ws,hc,Heap.DictOf.new s.heap,fun h' hD hs=> ?_⟩)
 .rw[e] at g2
  exact absurd (g2▸c1) kD
 .have hn:s.heap.get? s.heap.objs.size=none:=qy _
  have hk:∀b o,s.heap.get? b=some o->h'.get? b=some o:=fun b o e=>(hs.2 b fun hb=>by rw[hb,hn] at e;exact zn e).trans (vK _ e)
  rw[merged_nil_of_nodup _ (by rw[jPu (Nat.le_of_eq hw)];exact c4)] at hD
  show jE (jNz.mp hD) fun o ho hd=> ?_
  show q _ _ (KP.of (x8 ht (jOn _ _)) hk) (.dictS (jT ho fun hm=>jNp _ (p.lt _ hm)) hd hw (hr _) fun e=> ?_)
  obtain⟨o,ho⟩:=jM4.mp p.bs.sys
  have:=p.gr.keep _ o ho
  rw[<-e,hn] at this;exact zn this
theorem xZ(fns:List (Str×Fn))(glob:xQ)(r:Ev)(k:Bool)(sc:Scope)(l:Loc)(f:Str)(np pos:Pos)(args:List Expr):xK fns glob r k sc l (.Call (.Name f np) args [] pos)=(if sc.names.lookup f≠some .globalImplicit\/(f==("__debug__":Str))=true then none else
  if f="reduce" then n8 r k sc l args
  else if f="isinstance" then mS r k sc l args
  else if (fns.lookup f).isSome then (zh r k sc l args).bind fun as=>(zH fns r f as).bind qB
  else nC ((zh r k sc l args).bind fun as=>jr f as) (uK r k sc l f args)):=rfl
theorem jF4{a:D}(h:jHh a=true):(∃x,a= .list x)\/∃x,a= .int x:=by
 induction a using cD with
 |list x=>exact .inl ⟨x,rfl⟩
 |int x=>exact .inr ⟨x,rfl⟩
 |_=>exact ff h
theorem jGa{fns:List (Str×Fn)}(S:gL C n r){np pos:Pos}{args:List Expr}{d:D}(p:Pre C (n+1) k A env Y l s)(hk:env.scope.names.lookup ("reduce":Str)=some .globalImplicit)(h:n8 r k env.scope l args=some d)(q:Kq C Y d s Q):wpAny C.M A (eval (.Call (.Name "reduce" np) args [] pos) env) Q NE s:=by
 induction args using cL with
 |nil=>exact nn h
 |cons g r2=>
  induction r2 using cL with
  |nil=>exact nn h
  |cons e r3=>
   induction r3 using cL with
   |nil=>
    replace h:(if vH k env.scope g=false\/PySem.W.isStarred e=true then none else (r.E k env.scope l e).bind fun d=>d.asList?.bind (mK r l g))=some d:=h
    revert h;show yT (fun _ h=> ?_) fun hc h=> ?_
    .exact nn h
    .show bE h fun x h1 h2=> ?_
     show jE (qW h2) ?_;rintro ds rfl h3
     rw[jP2,jOf,jSo] at hc
     induction ds using cL with
     |nil=>exact nn h3
     |cons a ds=>exact jCg S.E p hc.1 hk hc.2 h1 h3 q
   |cons i r4=>
    induction r4 using cL with
    |nil=>
     replace h:u5 r k env.scope l g e i=some d:=h
     unfold u5 at h
     revert h;show yT (fun _ h=> ?_) fun hc h=> ?_
     .exact nn h
     .show bE h fun x h1 h2=> ?_
      show bE h2 fun y h3 h4=> ?_
      show jE (qW h4) ?_;rintro ds rfl h5
      revert h5;show yT (fun hs h5=> ?_) fun _ h5=> ?_
      .rw[jP2,jP2,jOf,jOf,jSo] at hc
       exact jCf S.E p hc.1 hk hc.2.1 hc.2.2 h1 h3 (jF4 hs) h5 q
      .exact nn h5
    |cons _ _=>exact nn h
theorem jFm(S:SE C n r){np pos:Pos}{args:List Expr}{d:D}(p:Pre C n k A env Y l s)(hk:env.kindOf "isinstance"=some .globalImplicit)(h:mS r k env.scope l args=some d)(q:Kq C Y d s Q):wpAny C.M A (eval (.Call (.Name "isinstance" np) args [] pos) env) Q NE s:=by
 show qA (vj h) ?_;rintro e b rfl h1
 show bE h1 fun x hb h2=> ?_
 clear h h1
 obtain⟨bp,rfl⟩:=yP hb
 revert h2;show yT (fun hc h2=> ?_) fun _ h2=> ?_
 .show bE h2 fun y hx h3=> ?_
  show mE h3 ?_;rintro l hl rfl
  rw[wW hl] at hx
  exact jDm S p hk hc.1 hc.2.1 hc.2.2 hx q
 .exact nn h2
theorem jFr{fns:List (Str×Fn)}(S:gL C n r){f:Str}{np pos:Pos}{args:List Expr}{d:D}(p:Pre C (n+1) k A env Y l s)(h:xK C.fns C.glob r k env.scope l (.Call (.Name f np) args [] pos)=some d)(q:Kq C Y d s Q):wpAny C.M A (eval (.Call (.Name f np) args [] pos) env) Q NE s:=by
 have p0:=p.mono (jM5 n)
 rw[xZ] at h
 revert h;show yT (fun _ h=> ?_) fun hg h=> ?_
 .exact nn h
 .rw[jP2,Decidable.not_not,jOf] at hg
  obtain⟨hk,nS⟩:=hg
  revert h;show yT (fun hf h=> ?_) fun _ h=> ?_
  .subst hf
   exact jGa (fns:=fns) S p hk h q
  .revert h;show yT (fun hf h=> ?_) fun _ h=> ?_
   .subst hf
    exact jFm S.E p0 hk h q
   .revert h;show yT (fun _ h=> ?_) fun _ h=> ?_
    .show bE h fun as h1 g2=> ?_
     exact jLu (fns:=C.fns) S p hk nS h1 g2 q
    .exact lh h (fun h=>bE h fun as h1 g2=>jCo S.E p.a p0 hk h1 g2 q) fun h=>jCe S.E p0 hk h q
theorem jBu{vs:List Value}{ds:List D}(p:Pre C n k A env Y l s)(rs:qM C s.heap Y vs ds):
  KP C s { s with heap:=s.heap.push (j4 vs 0) }/\s.heap.get? s.heap.objs.size=none/\(s.heap.push (j4 vs 0)).get? s.heap.objs.size=some (j4 vs 0)/\¬jq C (s.heap.push (j4 vs 0)) s.heap.objs.size/\qM C (s.heap.push (j4 vs 0)) (s.heap.objs.size::Y) vs ds:=by
 have kp:KP C s { s with heap:=s.heap.push (j4 vs 0) }:=KP.push (tk:=s.toks) nL
 have hn:s.heap.get? s.heap.objs.size=none:=qy _
 have ho:(s.heap.push (j4 vs 0)).get? s.heap.objs.size=some (j4 vs 0):=jMw _ rfl
 have own:Own C [s.heap.objs.size] (s.heap.push (j4 vs 0)):=Own.fresh p.gr.tab (fun a ha e=>by
   rw[jw.mp ha] at e
   obtain⟨o,ho⟩:=p.hYs C.P p.hP
   rw[<-e,hn] at ho;exact zn ho) (fun b o e=>vK _ e) (m1 hn) (m1 ⟨_,ho⟩)
 exact⟨kp,hn,ho,own.code _ yS,qM.moreL (J:=[s.heap.objs.size]) kp p.hP (m1 hn) (fun a ha=>by
  rcases j0.mp ha with e|h
  .exact .inl (by simp[e])
  .exact .inr h) rs⟩
theorem add_inv{x y:D}{ds:List D}(h:vQ .Add x y=some (.list ds)):∃xs ys,x= .list xs/\y= .list ys/\xs.length+ys.length<=lim/\ds=xs++ys:=by
 induction x using cD with
 |list xs=>
  induction y using cD with
  |list ys=>
   have h:(if xs.length+ys.length<=lim then some (D.list (xs++ys)) else none)=some (.list ds):=h
   revert h;show yT (fun _ h=> ?_) fun _ h=> ?_
   .cases h;exact⟨_,_,rfl,rfl,‹_›,rfl⟩
   .exact nn h
  |_=>exact nn h
 |int a=>
  induction y using cD with
  |int b=>exact nomatch h
  |_=>exact nn h
 |str a=>
  induction y using cD with
  |str b=>
   have h:(if a.length+b.length<=lim then some (D.str (a++b)) else none)=some (.list ds):=h
   revert h;show yT (fun _ h=> ?_) fun _ h=> ?_
   .cases h
   .exact nn h
  |_=>exact nn h
 |_=>exact nn h
theorem SF_step(S:SE C n r):SF C (n+1) ⟨xK C.fns C.glob r,fun k=>vV r k n⟩:=by
 intro k A env Y l e ds s Q p hf h q
 have p0:=p.mono (jM5 n)
 induction e using cE with
 |List es pos=>
  show bE (show (zh r k env.scope l es).bind (fun ds=>if ds.length<=lim then some (D.list ds) else none)=some (.list ds) from h) fun fE h1 g=> ?_
  revert g;show yT (fun hl g=> ?_) fun _ g=> ?_
  .cases g
   show jRi (yI S p0 h1 fun vs s₁ k₁ p₁ r₁=> ?_)
   have hlen:=r₁.length
   show rI (jBu p₁ r₁) fun kp hn ho hc rs=> ?_
   exact⟨by rw[hlen];exact sz hl,q _ vs _ (k₁.trans kp) (xM k₁.kw p.gr.tab (Z:=fun _=>False) hn) ho hc rs⟩
  .exact nn g
 |BinOp a op b pos=>
  induction op using cP with
  |Add=>
   show bE (show ((r.E k env.scope l a).bind fun x=>(r.E k env.scope l b).bind fun y=>vQ .Add x y)=some (.list ds) from h) fun x h1 g1=> ?_
   show bE g1 fun y h2 g2=> ?_
   show uW (add_inv g2) ?_;rintro xs ys rfl rfl hl rfl
   show jH2 (S.at p0 h1 fun v s1 k1 p1 r1=>S.at p1 h2 fun u s2 k2 p2 r2=> ?_)
   show ja ((r1.kp k2 p.hP).list_inv) ?_;rintro a1 vs n1 rfl o1 t1
   show ja r2.list_inv ?_;rintro a2 ws n2 rfl o2 t2
   have l1:=t1.length
   have l2:=t2.length
   show rI (jBu p2 (t1.append t2)) fun kp hn ho hc rs=> ?_
   have hk:=xM (k1.trans k2).kw p.gr.tab (Z:=fun _=>False) hn
   show P.add_list (jG o1).1 (jG o2).1 ?_ (by simp only[List.size_toArray];exact sz (by lia))
   rw[List.append_toArray]
   exact q _ (vs++ws) _ ((k1.trans k2).trans kp) hk ho hc rs
  |_=>exact ff hf
 |_=>exact ff hf
theorem SE_step{fns:List (Str×Fn)}(bs:Base C)(S:gL C n r):SE C (n+1) ⟨xK C.fns C.glob r,fun k=>vV r k n⟩:=by
 intro k A env Y l e d s Q a eo gr hP hY hYs fm hc loc h q
 have p:Pre C (n+1) k A env Y l s:=⟨bs,a,eo,gr,hP,hY,hYs,fm,hc,loc⟩
 have p0:=p.mono (jM5 n)
 replace q:Kq C Y d s Q:=q
 replace h:xK C.fns C.glob r k env.scope l e=some d:=h
 induction e using cE with
 |Constant c kd pos=>
  induction c using cC with
  |none=>(replace h:=jX h;subst h);exact E_none q
  |bool b=>(replace h:=jX h;subst h);exact E_bool q
  |int i=>(replace h:=jX h;subst h);exact tQ q
  |str x=>(replace h:=jX h;subst h);exact m9 q
  |_=>exact nn h
 |Name x pos=>exact jGd p0 h q
 |BinOp a op b pos=>exact jFu S.E p0 h q
 |UnaryOp op e1 pos=>
  induction op using cU with
  |USub=>
   induction e1 using cE with
   |Constant c kd p1=>
    induction c using cC with
    |int i=>(replace h:=jX h;subst h);exact jE1 q
    |_=>exact nn h
   |_=>exact nn h
  |_=>exact nn h
 |BoolOp op es pos=>
  cases op with
  |And=>
   show qA (vj (show yf es (fun _=>none) _=some d from h)) ?_;rintro a b rfl _
   exact jJ4 S.E p0 h q
  |Or=>exact nn h
 |IfExp t a b pos=>exact jFo S.E p.a p0 h q
 |List es pos=>exact jGk S.E p0 h q
 |Tuple es kd pos=>exact jE2 S.E p0 h q
 |ListComp elt gens jM pos=>exact jB6 S.E p.a p0 h q
 |DictComp ke ve gens jM pos=>exact jB9 S.E p.a p0 h q
 |Dict ks vs pos=>exact jGy p0 h q
 |Compare a ops bs pos=>
  induction ops using cL with
  |nil=>exact nn h
  |cons op ops=>
   induction ops using cL with
   |cons _ _=>exact nn h
   |nil=>
    induction bs using cL with
    |nil=>exact nn h
    |cons b bs=>
     induction bs using cL with
     |nil=>exact jCn S.E p.a p0 h q
     |cons _ _=>exact nn h
 |Subscript v e pos=>exact jBc S.E p0 h q
 |Call f args sj cp=>
  induction f using cE with
  |Name f np=>
   induction sj using cL with
   |nil=>exact jFr (fns:=C.fns) S p h q
   |cons _ _=>exact nn h
  |Attribute o m ap=>
   induction sj using cL with
   |nil=>exact jDk S.E p.a p0 h q
   |cons _ _=>exact nn h
  |_=>exact nn h
 |_=>exact nn h
theorem dQ(bs:Base C):∀n m,m<=n->gL C m (ev C.fns C.glob m)
 |0,m,hm=>by
  have:m=0:=by lia
  subst this
  constructor
  .intro k A env Y l e d s Q _ _ _ _ _ _ _ _ _ h _;cases h
  .intro k A env Y W l e d y py s Q _ _ _ _ _ _ h _;cases h
  .intro k A env Y l e ds s Q _ _ h _;cases h
  .intro k A env Y OL l st f l' s Q E _ h _;cases h
 |n+1,m,hm=>by
  have ih:=dQ bs n
  by_cases h:m<=n
  .exact ih m h
  .have:m=n+1:=by lia
   subst this
   have S:=ih n (jNi n)
   exact⟨SE_step (fns:=C.fns) bs S,SU_step S.E,SF_step S.E,SS_step ih⟩
structure wb(C:Cx)(xD xH:Addr):Prop where
 mR:C.mg "error_reply"=some (.ref xD)
 mP:C.mg "error_proto"=some (.ref xH)
 ne:xD≠xH
 ty:∀(M:Model),∀c∈[xD,xH],Looks M C.g0 (isInstance (.ref c) (.type "tuple")) false/\Looks M C.g0 (isExcClass (.ref c)) true
 sub:∀(M:Model),∀c∈[xD,xH],∀c'∈[xD,xH],Looks M C.g0 (isSubtype (.ref c) (.ref c')) (decide (c=c'))
 base:∀(M:Model),∀c∈[xD,xH],Looks M C.g0 (isSubtype (.ref c) (.type "BaseException")) true
 str:∀(M:Model),∀c∈[xD,xH],Looks M C.g0 (typeLookup (.ref c) "__str__") (some (.builtin "BaseException.__str__"))
abbrev Kept(C:Cx)(h:Heap):Prop:=∀b o,C.g0.get? b=some o->h.get? b=some o
variable{xD xH:Addr}
theorem kC{M:Model}{e cl:Addr}{oe:Obj}(he:s.heap.get? e=some oe)(hc:oe.cls= .ref cl):Looks M s.heap (typeOf (.ref e)) (.ref cl):=by
 intro A Q E s' k q
 unfold typeOf
 show jMq (wpAny_loadPart (k _ _ he) ?_)
 rw[hc]
 exact jMr q
theorem jA9{M:Model}(X:wb C xD xH)(g:Kept C s.heap){e c c':Addr}{oe:Obj}{Q:Bool->Shared->Prop}(he:s.heap.get? e=some oe)(hc:oe.cls= .ref c)(h1:c∈[xD,xH])(h2:c'∈[xD,xH])(q:Q (decide (c=c')) s):
  wpAny M A (excMatches (.ref e) (.ref c')) Q E s:=by
 have L0:=(X.ty M c' h2).1.keeps g
 have e1:=(X.ty M c' h2).2.keeps g
 have S1:=(X.sub M c h1 c' h2).keeps g
 have LT:=kC (M:=M) he hc
 obtain⟨hh,gg,d,tk,os⟩:=s
 have hk:∀b o,hh.get? b=some o->hh.get? b=some o:=fun _ _ e=>e
 unfold excMatches
 show jMq (L0.at ?_)
 dsimp only
 rw[jMv jMy]
 cases hb:decide (c=c') <;> rw[hb] at q S1 <;> ((repeat (first|simp only[List.forIn_cons,List.forIn_nil,Bool.not_true,Bool.false_eq_true,if_false,if_true]|lk));exact q)
theorem jE5{M:Model}(X:wb C xD xH)(g:Kept C s.heap){e c:Addr}{oe:Obj}{Q:Option Value->Shared->Prop}(he:s.heap.get? e=some oe)(hc:oe.cls= .ref c)(h1:c∈[xD,xH])
  (h:wpAny M A (call (.builtin "BaseException.__str__") [.ref e]) (fun v=>Q (some v)) E s):wpAny M A (callSpecial? (.ref e) "__str__") Q E s:=
 jMq (jMq ((kC (M:=M) he hc).here (((X.str M c h1).keeps g).here (jPb (jMq ((Looks.of_pure (F.excStr_Exception.str.bind _)).here (jMq (jNh h (fun _ _ z=>jMr z) fun _ _ z=>z))))))))
open Builtin Builtin.BaseException in
theorem jMe(X:wb C xD xH)(g:Kept C s.heap){e c t:Addr}{oe ot:Obj}{vs:Array Value}{m:Str}{tk:Tok}(he:s.heap.get? e=some oe)(hc:oe.cls= .ref c)(hd:oe.data= .fields vs)(h0:vs[0]? =some (.ref t))(h1:c∈[xD,xH])
  (ht:s.heap.get? t=some { cls:= .type "tuple",data:= .seq #[.str m tk] }) (q:Q (.str m tk) s):wpAny (model prog w) A (call (.builtin "BaseException.__str__") [.ref e]) Q E s:=by
 have hi:Looks (model prog w) s.heap (isInstance (.ref e) (.type "BaseException")) true:=(kC (M:=model prog w) he hc).andThen ((X.base (model prog w) c h1).keeps g)
 show jQd (codeAny_call_builtin F.excStr_Exception.str.plain F.entry_bexc_str (check_slot (i:="BaseException.__str__") (owner:="BaseException") (n:="__str__") (by decide+kernel) (by decide+kernel) hi (F.args_bexc_str _) ?_))
 unfold Builtin.«BaseException.__str__»
 have hb:∀{Q:Value×List Value->Shared->Prop},Q (.ref t,[.str m tk]) s->wpAny (model prog w) A.in1 (bexcArgs (.ref e)) Q (fun e s'=>E e s') s:=fun hq=>by
  unfold bexcArgs
  show jMq (jN7 he hd h0 (jMq (jP4 ht rfl ?_)))
  exact jMr hq
 repeat (first|with_reducible show hb ?_|wp_step)
 exact q
open Builtin Builtin.Str in
theorem jIb(X:wb C xD xH)(g:Kept C s.heap)(hu:A.units<cLine){e c t:Addr}{oe:Obj}{vs:Array Value}{m:Str}{tk:Tok}(he:s.heap.get? e=some oe)(hc:oe.cls= .ref c)(hd:oe.data= .fields vs)(h0:vs[0]? =some (.ref t))(h1:c∈[xD,xH])
  (ht:s.heap.get? t=some { cls:= .type "tuple",data:= .seq #[.str m tk] }) (q:Q (.str m tk) s):wpAny (model prog w) A (Builtin.Str.strOf (.ref e)) Q E s:=by
 unfold Builtin.Str.strOf
 repeat (first|with_reducible show wpAny_cRoomFor hu ?_|with_reducible show jE5 X g he hc h1 (jMe (ot:={ cls:= .none }) X g he hc hd h0 h1 ht ?_)|wp_step)
 exact q
theorem jDr(X:wb C xD xH)(g:Kept C s.heap)(hu:A.units+2<cLine){e c t tb:Addr}{m:Str}{tk:Tok}(he:s.heap.get? e=some { cls:= .ref c,data:= .fields #[.ref t,.ref tb,.none,.none,.bool false,.none] })
  (ht:s.heap.get? t=some { cls:= .type "tuple",data:= .seq #[.str m tk] }) (h1:c∈[xD,xH]) (h:Q (.str m tk) s):wpAny (model prog w) A (call (.type "str") [.ref e]) Q E s:=
 callType_new F.called_str kD (F.typeCall_str_1 _) (F.newCall_str_1 _) (fun obj=>F.args_object_init_2 obj _) F.entry_str_new
  (PySem.meets_str_new (S:=fun A' R s'=>A'.units+1<cLine/\Kept C s'.heap/\s'.heap.get? e=some { cls:= .ref c,data:= .fields #[.ref t,.ref tb,.none,.none,.bool false,.none] }/\s'.heap.get? t=some { cls:= .type "tuple",data:= .seq #[.str m tk] }/\R (.ok (.ret (.str m tk))) s')
   fun prog w A' R s' hq=>jIb (A:=A'.in1) X hq.2.1 hq.1 hq.2.2.1 rfl rfl rfl h1 hq.2.2.2.1 hq.2.2.2.2)
  ⟨(show A.units+1+1<cLine from hu),g,he,ht,jSc _ _ _,h⟩
noncomputable abbrev yu(l:List Env):List Addr:=l.filterMap (·.frame)
def f9(h:Heap)(l:List Env):Prop:=∀x∈l,x.scope.kind≠.module/\∃L m,x.frame=some L/\h.Ns L m
theorem jD8{h h':Heap}{b:Addr}{m:Str->Option Value}(k:∀o,h.get? b=some o->∃sl,h'.get? b=some { o with slots:=sl })(n:h.Ns b m):h'.Ns b m:=by
 show ja n fun o es ep ho hd hk=> ?_;clear n
 obtain⟨sl,e⟩:=k o ho
 exact⟨_,es,ep,e,hd,hk⟩
theorem f9.slots{h h':Heap}{l:List Env}(f:f9 h l)(k:∀b m,h.Ns b m->h'.Ns b m):f9 h' l:=fun x hx=>by
 obtain⟨h1,L,m,h2,h3⟩:=f x hx
 exact⟨h1,L,m,h2,k L m h3⟩
theorem f9.fun{h:Heap}{l:List Env}:f9 h l->h.FunFrames { objs:= #[] } l:=by
 induction l with
 |nil=>
  intro _
  exact trivial
 |cons x l ih=>
  intro f
  obtain⟨h1,L,m,h2,o,es,ep,ho,hd,hk⟩:=f x jy
  exact⟨h1,⟨L,o,h2,by simp[Heap.get?],ho,fun vs e=>by rw[hd] at e;cases e⟩,ih fun y hy=>f y (qV _ hy)⟩
theorem f9.mem{h:Heap}{l:List Env}(f:f9 h l){b:Addr}(hb:b∈yu l):∃m,h.Ns b m:=by
 show jE (jOo.mp hb) fun x hx e=> ?_
 obtain⟨h1,L,m,h2,h3⟩:=f x hx
 rw[h2] at e;replace e:=jX e;subst e
 exact⟨m,h3⟩
theorem q8{h:Heap}{b c:Addr}{m:Str->Option Value}{vs:Array Value}(n:h.Ns b m)(ho:h.get? c=some o)(hd:o.data= .fields vs):b≠c:=by
 rintro rfl
 show ja n fun o' es ep ho' yL _=> ?_;clear n
 rw[ho] at ho';replace ho':=jX ho';subst ho';rw[hd] at yL;cases yL
theorem tL{H:HV}{c:Addr}(x:¬∃o,H c=some o):H c=none:=by
 generalize e:H c=x0;induction x0 using cO with
 |none=>rfl
 |some o=>exact absurd ⟨o,e⟩ x
variable{M:Model}
theorem jBw{outer:List Env}{L e:Addr}{oe:Obj}{vs:Array Value}{head:Value}{hadNext:Bool}{Q:Unit->Shared->Prop}
  (uA:A.frames=some (env::outer)) (hl:f9 s.heap (env::outer)) (hf:env.frame=some L)
  (he:s.heap.get? e=some oe) (hd:oe.data= .fields vs) (ku:1<vs.size)
  (h:∀h' tb,(∀b o,b∉yu (env::outer)->b≠e->s.heap.get? b=some o->h'.get? b=some o)->(∀b o,b≠e->s.heap.get? b=some o->∃sl,h'.get? b=some { o with slots:=sl })->s.heap.get? tb=none->
   h'.get? e=some (oe.mapFields (·.setIfInBounds 1 (.ref tb)))->(∃nB pC,h'.get? tb=some nB/\nB.data= .fields pC/\3<pC.size/\pC[3]? =some (rawInt L))->tb≠e->Q () { s with heap:=h' }):
  wpAny M A (do let a<-frameOf env;let pl<-entryPlaceOf L hadNext;let b<-EntryCells.newEntry head a .none (rawInt L) .none pl;setField (.ref e) 1 b) Q E s:=by
 have hene:e∉yu (env::outer):=fun hm=>by
  obtain⟨m,hn⟩:=hl.mem hm
  exact q8 hn he hd rfl
 show jMq (wpAny_frameOf_fun uA hl.fun hf fun h₁ hs₁=> ?_)
 show jMq (wpAny_entryPlaceOf fun pl hpl=> ?_)
 unfold EntryCells.newEntry newFields
 show jMq (jO8 ?_ (hpl.sizeOk5 _ _ _ _ _))
 have he₁:h₁.get? e=some oe:=(hs₁.2.1 e hene).trans he
 have he₂:=vK (h:=h₁) { cls:= .type "traceback",dict:=none,data:= .fields ([head,.ref L,.none,rawInt L,.none]++(if pl.isEmpty then List.replicate 6 Value.none else pl)).toArray } he₁
 show jO1 he₂ hd ku ?_
 have hTe:h₁.objs.size≠e:=jPs (jM1 he₁)
 have hd₃:=jNx hd (·.setIfInBounds 1 (Value.ref h₁.objs.size))
 have he₃:=jOm (Obj.mapFields (·.setIfInBounds 1 (Value.ref h₁.objs.size))) he₂ (jO5 hd₃)
 have hT₃:=(jP9 (h₁.push { cls:= .type "traceback",dict:=none,data:= .fields ([head,.ref L,.none,rawInt L,.none]++(if pl.isEmpty then List.replicate 6 Value.none else pl)).toArray })
  (Obj.mapFields (·.setIfInBounds 1 (Value.ref h₁.objs.size))) (Ne.symm hTe)).trans (jMw h₁ rfl)
 have keep:∀b o,b≠e->h₁.get? b=some o->
   ((h₁.push { cls:= .type "traceback",dict:=none,data:= .fields ([head,.ref L,.none,rawInt L,.none]++(if pl.isEmpty then List.replicate 6 Value.none else pl)).toArray }).update e (Obj.mapFields (·.setIfInBounds 1 (Value.ref h₁.objs.size)))).get? b=some o:=fun b o tU hb=>by
  rw[jP9 _ _ (Ne.symm tU)]
  exact vK _ hb
 show h _ h₁.objs.size (fun b o hbf tU hb=>keep b o tU ((hs₁.2.1 b hbf).trans hb)) (fun b o tU hb=> ?_) (Heap.get?_none_of_le (by rw[hs₁.1];exact jNi _)) he₃ ⟨_,_,hT₃,rfl,?_,by simp⟩ hTe
 .obtain⟨sl,mj⟩:=hs₁.2.2 b o hb
  exact⟨sl,keep b _ tU mj⟩
 .simp only[List.size_toArray,List.length_append,List.length_cons,List.length_nil] <;> simp+arith only
structure aR(h0:HV)(fr:List Addr)(e t cl:Addr)(v hd fl:Value)(h:Heap):Prop where
 old:∀b o,b∉fr->h0 b=some o->h.get? b=some o
 sl:∀b o,h0 b=some o->∃sl,h.get? b=some { o with slots:=sl }
 ne:h0 e=none
 nt:h0 t=none
 he:h.get? e=some { cls:= .ref cl,data:= .fields #[.ref t,hd,.none,.none,.bool false,.none] }
 ht:h.get? t=some { cls:= .type "tuple",data:= .seq #[v] }
 hd:(hd= .none)\/∃tb nB pC,hd= .ref tb/\tb≠e/\h0 tb=none/\h.get? tb=some nB/\nB.data= .fields pC/\3<pC.size/\pC[3]? =some fl
theorem jD9{outer:List Env}{L e t cl:Addr}{h0:HV}{fr:List Addr}{v hd:Value}{Q:Unit->Shared->Prop}
  (uA:A.frames=some (env::outer)) (hl:f9 s.heap (env::outer)) (hf:env.frame=some L) (F:aR h0 fr e t cl v hd .none s.heap) (jx:∀b∈yu (env::outer),b∈fr\/h0 b=none)
  (h:∀h' tb,aR h0 fr e t cl v (.ref tb) (rawInt L) h'->(∀b m,s.heap.Ns b m->h'.Ns b m)->Q () { s with heap:=h' }):
  wpAny M A (noteFrame (.ref e) env) Q E s:=by
 obtain⟨old,sl,je,br,he,ht,lI⟩:=F
 unfold noteFrame
 simp only[hf]
 show jMq (jN7 he rfl (x:=hd) rfl ?_)
 rcases lI with rfl|⟨tb,nB,pC,rfl,nd,ni,ti,pG,ku,h3⟩
 .rw[jMv kD]
  show jBw uA hl hf he rfl (by simp) fun h' tb k1 k2 k3 k4 k5 k6=> ?_
  have sy:t≠e:=fun e'=>by rw[e',he] at ht;cases ht
  have iW:t∉yu (env::outer):=fun hm=>by
   show dD (hl.mem hm) fun m o es ep ho hd _=> ?_
   rw[ht] at ho;replace ho:=jX ho;subst ho;cases hd
  show h h' tb ⟨fun b o hb e'=> ?_,fun b o e'=> ?_,je,br,k4,k1 t _ iW sy ht,.inr ?_⟩ fun b m hn=>jD8 (fun o ho=>k2 b o (q8 hn he rfl) ho) hn
  .show k1 b o (fun hm=>(jx b hm).elim hb fun e2=>by rw[e2] at e';exact zn e') (fun e2=>by rw[e2,je] at e';exact zn e') (old b o hb e')
  .obtain⟨s1,e1⟩:=sl b o e'
   obtain⟨s2,e2⟩:=k2 b _ (fun e2=>by rw[e2,je] at e';exact zn e') e1
   exact⟨s2,e2⟩
  .show uW k5 fun nB pC e1 e2 e3 e4=> ?_;clear k5
   exact⟨tb,nB,pC,rfl,k6,tL (fun⟨o,ho⟩=>(by obtain⟨s1,e5⟩:=sl _ o ho;rw[k3] at e5;exact zn e5)),e1,e2,e3,e4⟩
 .rw[jMt (show (Value.ref tb !=Value.none)=true from by simp)]
  show jMq (jN7 ti pG h3 ?_)
  rw[jMv (show¬((Value.none==rawInt L)=true) from by simp[rawInt])]
  show jMq (jO1 ti pG ku ?_)
  have yL:=jNx pG (·.setIfInBounds 3 Value.none)
  have tS:∀b,b≠tb->(s.heap.update tb (Obj.mapFields (·.setIfInBounds 3 Value.none))).get? b=s.heap.get? b:=fun b hb=>jP9 _ _ (Ne.symm hb)
  have hns:∀b m,s.heap.Ns b m->(s.heap.update tb (Obj.mapFields (·.setIfInBounds 3 Value.none))).Ns b m:=fun b m hn=>hn.at fun o ho=>(tS b (q8 hn ti pG)).trans ho
  have sy:t≠e:=fun e'=>by rw[e',he] at ht;cases ht
  have htt:t≠tb:=fun e'=>by rw[e',ti] at ht;replace ht:=jX ht;subst ht;cases pG
  have iW:t∉yu (env::outer):=fun hm=>by
   show dD (hl.mem hm) fun m o es ep ho hd _=> ?_
   rw[ht] at ho;replace ho:=jX ho;subst ho;cases hd
  show jBw uA (hl.slots hns) hf ((tS e (Ne.symm nd)).trans he) rfl (by simp) fun h' my k1 k2 k3 k4 k5 k6=> ?_
  have ob:∀b o,h0 b=some o->b≠tb:=fun b o e' e2=>by rw[e2,ni] at e';exact zn e'
  have obe:∀b o,h0 b=some o->b≠e:=fun b o e' e2=>by rw[e2,je] at e';exact zn e'
  show h h' my ⟨fun b o hb e'=> ?_,fun b o e'=> ?_,je,br,k4,k1 t _ iW sy ((tS t htt).trans ht),.inr ?_⟩ fun b m hn=>jD8 (fun o ho=>k2 b o (q8 hn he rfl) ((tS b (q8 hn ti pG)).trans ho)) hn
  .show k1 b o (fun hm=>(jx b hm).elim hb fun e2=>by rw[e2] at e';exact zn e') (obe b o e') ((tS b (ob b o e')).trans (old b o hb e'))
  .obtain⟨s1,e1⟩:=sl b o e'
   obtain⟨s2,e2⟩:=k2 b _ (obe b o e') ((tS b (ob b o e')).trans e1)
   exact⟨s2,e2⟩
  .show uW k5 fun otb' tvs' e1 e2 e3 e4=> ?_;clear k5
   show⟨my,otb',tvs',rfl,k6,tL fun⟨o,ho⟩=> ?_,e1,e2,e3,e4⟩
   obtain⟨s1,e5⟩:=sl _ o ho
   rw[<-tS _ (ob _ o ho),k3] at e5;exact zn e5
theorem jBv{e t cl tb:Addr}{h0:HV}{fr:List Addr}{v fl:Value}{Q:Unit->Shared->Prop}(F:aR h0 fr e t cl v (.ref tb) fl s.heap)
  (h:∀h',aR h0 fr e t cl v (.ref tb) .none h'->(∀b m,s.heap.Ns b m->h'.Ns b m)->Q () { s with heap:=h' }):wpAny M A (setFlight (.ref e) none) Q E s:=by
 obtain⟨old,sl,je,br,he,ht,lI⟩:=F
 rcases lI with lI|⟨tb',nB,pC,hh,nd,ni,ti,pG,ku,h3⟩
 .cases lI
 .cases hh
  unfold setFlight
  show jMq (jN7 he rfl (x:= .ref tb) rfl ?_)
  rw[jMt (show (Value.ref tb !=Value.none)=true from by simp)]
  have yL:=jNx pG (·.setIfInBounds 3 Value.none)
  have tS:∀b,b≠tb->(s.heap.update tb (Obj.mapFields (·.setIfInBounds 3 Value.none))).get? b=s.heap.get? b:=fun b hb=>jP9 _ _ (Ne.symm hb)
  have ob:∀b o,h0 b=some o->b≠tb:=fun b o e' e2=>by rw[e2,ni] at e';exact zn e'
  show jO1 ti pG ku (h _ ⟨fun b o hb e'=>(tS b (ob b o e')).trans (old b o hb e'),fun b o e'=> ?_,je,br,(tS e (Ne.symm nd)).trans he,?_,.inr ⟨tb,_,_,rfl,nd,ni,jOm _ ti (jO5 yL),yL,by simpa using ku,by simp[ku]⟩⟩ fun b m hn=>hn.at fun o ho=>(tS b (q8 hn ti pG)).trans ho)
  .obtain⟨s1,e1⟩:=sl b o e'
   exact⟨s1,(tS b (ob b o e')).trans e1⟩
  .show(tS t fun e'=> ?_).trans ht
   rw[e',ti] at ht;replace ht:=jX ht;subst ht;cases pG
end
open SetTable
section
variable{C:Cx}{n:Nat}{r:Ev}{k:Bool}{A:Around}{env:Env}{Y Y' W J:List Addr}{OL N:yR}{l l':jN}{s s' k7 s1 s2:Shared}{Z Z':Addr->Prop}
theorem jE3{h:Heap}(t:jd C h){a:Addr}{m:Str->Option Value}(n:h.Ns a m):¬jq C h a:=fun hc=>by
 obtain⟨ps,h1,h2,h3⟩:=t
 show qA hc fun tf pos e1 e2=> ?_;clear hc
 rw[h1] at e1;cases e1
 show oN (h3 pos _ e2) fun c o vs t rfl' ho hd _=> ?_
 cases rfl'
 exact q8 n ho hd rfl
structure zk(C:Cx)(s:Shared)(fr:List Addr)(e t cl:Addr)(v hd fl:Value)(s':Shared):Prop where
 ex:∃(H0:HV) (mw:List Addr),aR H0 mw e t cl v hd fl s'.heap/\(∀b o,b≠C.P->s.heap.get? b=some o->H0 b=some o)/\
  (∀h',(∀b o,b∉mw->H0 b=some o->h'.get? b=some o)->qL C s.heap h')/\(∀b∈mw,b∈fr\/s.heap.get? b=none)/\(∀b∈fr,b∈mw)
 st:∃tk,s'={ s with heap:=s'.heap,toks:=tk }/\s.toks<=tk
 nw:s.heap.get? e=none/\s.heap.get? t=none
theorem zk.kw{fr:List Addr}{e t cl:Addr}{v hd fl:Value}(F:zk C s fr e t cl v hd fl s'):KW C (·∈fr) s s':=by
 obtain⟨⟨H0,mw,F1,h1,h2,h3,h4⟩,⟨tk,e1,e2⟩,nw⟩:=F
 exact⟨s'.heap,tk,e1,e2,fun b o hP hb e=>F1.old b o (fun hm=>(h3 b hm).elim hb fun e'=>by rw[e'] at e;exact zn e) (h1 b o hP e),fun b hP ⟨o,e⟩=>by
  obtain⟨sl,e'⟩:=F1.sl b o (h1 b o hP e)
  exact⟨_,e'⟩,h2 _ F1.old⟩
theorem zk.note{outer:List Env}{L e t cl:Addr}{fr:List Addr}{v hd:Value}{Q:Unit->Shared->Prop}{E:qN}(F:zk C s fr e t cl v hd .none s')
  (uA:A.frames=some (env::outer)) (hl:f9 s'.heap (env::outer)) (hf:env.frame=some L) (jx:∀b∈yu (env::outer),b∈fr)
  (h:∀h' tb,zk C s fr e t cl v (.ref tb) (rawInt L) { s' with heap:=h' }->(∀b m,s'.heap.Ns b m->h'.Ns b m)->Q () { s' with heap:=h' }):
  wpAny C.M A (noteFrame (.ref e) env) Q E s':=by
 obtain⟨⟨H0,mw,F1,h1,h2,h3,h4⟩,⟨tk,e1,e2⟩,nw⟩:=F
 show jD9 uA hl hf F1 (fun b hb=> .inl (h4 b (jx b hb))) fun h' tb F2 k=>h h' tb ⟨⟨H0,mw,F2,h1,h2,h3,h4⟩,⟨tk,?_,e2⟩,nw⟩ k
 rw[e1]
theorem zk.flight{e t cl tb:Addr}{fr:List Addr}{v fl:Value}{Q:Unit->Shared->Prop}{E:qN}(F:zk C s fr e t cl v (.ref tb) fl s')
  (h:∀h',zk C s fr e t cl v (.ref tb) .none { s' with heap:=h' }->(∀b m,s'.heap.Ns b m->h'.Ns b m)->Q () { s' with heap:=h' }):
  wpAny C.M A (setFlight (.ref e) none) Q E s':=by
 obtain⟨⟨H0,mw,F1,h1,h2,h3,h4⟩,⟨tk,e1,e2⟩,nw⟩:=F
 show jBv F1 fun h' F2 k=>h h' ⟨⟨H0,mw,F2,h1,h2,h3,h4⟩,⟨tk,?_,e2⟩,nw⟩ k
 rw[e1]
theorem gH(S:SS C n r){f:Str}{fn:Fn}{a:Addr}{as:List D}{vs:List Value}{c x:Str}{l0:jN}{outer:List Env}{Q E:qN}(hf:C.fns.lookup f=some fn)(hm:C.mg f=some (.ref a))(bs:Base C)(g:Gr C s)(hP:C.P∈Y)(hY:∀a∈Y,C.g0.get? a=none)(hYs:∀a∈Y,∃o,s.heap.get? a=some o)
  (hA:xv n A) (uA:A.frames=some outer) (fl:f9 s.heap outer) (hb:xu fn.names as=some l0) (hs:qd r false fn.scope l0 fn.body=some (.exc c (.str x),l')) (hr:qM C s.heap Y vs as)
  (q:∀e t cl tb tk s',zk C s (yu outer) e t cl (.str x tk) (.ref tb) .none s'->C.mg c=some (.ref cl)->(∀b m,s.heap.Ns b m->s'.heap.Ns b m)->E (.ref e) s'):
  wpAny C.M A (call (.ref a) vs) Q E s:=by
 have ok:=wH (bs.okf f fn hf)
 show rH (bs.fn f fn hf) fun a' o pm code doc pI ho hd hc=> ?_
 rw[hm] at pI;cases pI
 have pq:=hA.depth
 have hlen:fn.names.length=vs.length:=(kU hb).trans hr.length.symm
 show jQd (jO4 (fd:=docDef f fn.params fn.body fn.scope pm code doc) (body:=fn.body) (by have:recursionLimit=1000:=rfl;lia) (g.keep _ _ ho) hd ok.co ok.gen rfl (hc.keeps g.keep) ?_)
 rw[qU ok.plain rfl (by show(?_:fn.params.args.length=vs.length);simpa [Fn.names] using hlen)]
 show jMr (ne ?_)
 show zZ (k:=false) (n:=n) (A:=A) ok bs g hP hY hYs (fun env=>hA.deeper) hb hr (fun h=>by exact zf h) fun env s1 kp fs hn _ qE oV=>⟨bs.nolimit.keeps (g.kp bs kp).keep,jQq ?_⟩
 show xa S fn.body [] l0 l' (.exc c (.str x)) s1 _ _ fs (by rw[qE];exact hs) fun e t cl v s2 kw he xc lD ht bQ rd hns=> ?_
 obtain⟨tk,rfl⟩:∃tk,v= .str x tk:=by cases rd;exact⟨_,rfl⟩
 have new:∀b,ZO [] env b->s.heap.get? b=none:=fun b hb=>hn b (by exact hb)
 have t0:=g.tab
 have old:∀b o,b≠C.P->s.heap.get? b=some o->s2.heap.get? b=some o:=fun b o cM e=>kw.heap cM (fun hz=>by rw[new b hz] at e;exact zn e) (kp.heap cM e)
 have nj:∀b m,s.heap.Ns b m->s2.heap.Ns b m:=fun b m h=>h.at fun o e=>old b o (j8 t0 h) e
 have sj:KW C (fun _=>False) s s2:=(KP.kw kp (Z:=fun _=>False)).transNew kw fun b hb=> .inr (new b hb)
 have yb:KP C s s2:=KP.of_kw sj
 have aE:s.heap.get? e=none:=xM kp.kw t0 he (Z:=fun _=>False)
 have iV:s.heap.get? t=none:=xM kp.kw t0 ht (Z:=fun _=>False)
 have fl2:f9 s2.heap (env::outer):=fun x hx=>by
  rcases j0.mp hx with rfl|hx
  .obtain⟨m,hm⟩:=hns
   exact⟨by rw[fs.pre.eo.kind];decide,_,m,oV,hm⟩
  .exact(fl.slots nj) x hx
 have t2:=yb.tab t0
 have sy:t≠e:=fun e'=>by rw[e',lD] at bQ;cases bQ
 obtain⟨H0,F1,g1,g2⟩:∃H0:HV,aR H0 (yu (env::outer)) e t cl (.str x tk) .none .none s2.heap/\(∀b o,b≠C.P->s.heap.get? b=some o->H0 b=some o)/\
  (∀h',(∀b o,b∉yu (env::outer)->H0 b=some o->h'.get? b=some o)->qL C s.heap h'):=by
  show wy (fun b=>if b=e\/b=t then none else s2.heap.get? b) ⟨fun b o _ e0=> ?_,fun b o e0=> ?_,jMt (.inl rfl),jMt (.inr rfl),lD,bQ,.inl rfl⟩ (fun b o tu e=> ?_) (fun h' k=> ?_)
  .change (if b=e\/b=t then none else s2.heap.get? b)=some o at e0
   revert e0;show tg fun _ e0=> ?_
   .exact e0
  .change (if b=e\/b=t then none else s2.heap.get? b)=some o at e0
   revert e0;show tg fun _ e0=> ?_
   .exact⟨o.slots,e0⟩
  .dsimp only
   rw[jMv]
   .exact old b o tu e
   .rintro (h|h)
    .rw[h,aE] at e;exact zn e
    .rw[h,iV] at e;exact zn e
  .show qL.trans yb.tabTo (fun x=> ?_) fun t b h=>yb.some t h
   have x':=x
   obtain⟨ps,p1,p2,p3⟩:=x
   have kk:∀b o,s2.heap.get? b=some o->(b=C.P\/jq C s2.heap b)->h'.get? b=some o:=fun b o ho hb=>by
    show k b o (fun hm=> ?_) ?_
    .obtain⟨m,hn⟩:=fl2.mem hm
     rcases hb with hb|hb
     .exact j8 x' hn hb
     .exact jE3 x' hn hb
    .dsimp only
     rw[jMv]
     .exact ho
     .rintro (h|h)
      .subst h
       rcases hb with hb|⟨tf,pos,q1,q2⟩
       .rw[hb,p1] at lD;cases lD
       .rw[p1] at q1;cases q1
        show oN (p3 pos _ q2) fun c' o' vT t' h5 h6 h7 h8=> ?_
        cases h5
        rw[lD] at h6;replace h6:=jX h6;subst h6
        cases h7;cases h8
      .subst h
       rcases hb with hb|⟨tf,pos,q1,q2⟩
       .rw[hb,p1] at bQ;cases bQ
       .rw[p1] at q1;cases q1
        show oN (p3 pos _ q2) fun c' o' vT t' h5 h6 h7 h8=> ?_
        cases h5
        rw[bQ] at h6;replace h6:=jX h6;subst h6
        cases h7
   have h1':=kk _ _ p1 (.inl rfl)
   show⟨⟨ps,h1',p2,fun pos cv e=> ?_⟩,fun c hc=> ?_⟩
   .show dD (p3 pos cv e) ?_;rintro c o vs t rfl ho hd
    exact⟨c,o,vs,t,rfl,kk _ _ ho (.inr ⟨ps,pos,p1,e⟩),hd⟩
   .show qA hc fun tf pos e1 e2=> ?_;clear hc
    rw[h1'] at e1;cases e1
    exact .inl ⟨ps,pos,p1,e2⟩
 obtain⟨h2,tk2,e2,ax,_⟩:=yb
 unfold leaving
 show jMq (jD9 (jR1 uA) fl2 oV F1 (fun b hb=> .inl hb) fun h3 tb F2 k3=> ?_)
 show jBv (s:={ s2 with heap:=h3 }) F2 fun h4 F3 k4=> ?_
 show q e t cl tb tk _ ⟨⟨H0,_,F3,g1,g2,fun b hb=> ?_,fun b hb=> ?_⟩,⟨tk2,by rw[e2],ax⟩,aE,iV⟩ xc fun b m h=>k4 b m (k3 b m (nj b m h))
 .rw[yu,jNd,oV] at hb
  rcases j0.mp hb with e0|hb
  .rw[e0];exact .inr (hn _ jy)
  .exact .inl hb
 .rw[yu,jNd,oV]
  exact qV _ hb
variable{B:Around}
structure Hd(A:Around)(env:Env)(outer:List Env)(Y:List Addr)(h:Heap):Prop where
 fr:A.frames=some (env::outer)
 fl:f9 h (env::outer)
 fY:∀b∈yu (env::outer),b∈Y
 ef:env.frame=some env.locals
theorem Hd.ns{outer:List Env}{h h':Heap}(H:Hd A env outer Y h)(k:∀b m,h.Ns b m->h'.Ns b m):Hd A env outer Y h':=⟨H.fr,H.fl.slots k,H.fY,H.ef⟩
theorem FS.fly{outer:List Env}{e t cl:Addr}{v hd fl:Value}(fs:FS C n k A env Y [] l s)(H:Hd A env outer Y s.heap)(F:zk C s (yu (env::outer)) e t cl v hd fl s1)(hns:∀b m,s.heap.Ns b m->s1.heap.Ns b m):FS C n k A env Y [] l s1:=by
 show fs.out' F.kw H.fY (fun _=>hns env.locals) fun p hp hm=> ?_
 show dD (H.fl.mem hm) fun m o es ep ho hd _=> ?_
 show qA (fs.pre.fm.cl p hp) fun u o' ho' yL=> ?_
 rw[ho] at ho';replace ho':=jX ho';subst ho';rw[hd] at yL;cases yL
theorem rb{outer:List Env}{e t cl tb:Addr}{v:Value}{hs:List ExceptHandler}{Q:wc}{E:qN}(fs:FS C n k A env Y [] l s)(H:Hd A env outer Y s.heap)
  (F:zk C s (yu (env::outer)) e t cl v (.ref tb) .none s1) (hns:∀b m,s.heap.Ns b m->s1.heap.Ns b m)
  (h:∀s2 my,zk C s (yu (env::outer)) e t cl v (.ref my) .none s2->(∀b m,s.heap.Ns b m->s2.heap.Ns b m)->FS C n k A env Y [] l s2->Hd A env outer Y s2.heap->wpAny C.M A (handleBy (.ref e) env hs) Q E s2):
  wpAny C.M A (noteFrame (.ref e) env) (fun _ s2=>wpAny C.M A (setFlight (.ref e) none) (fun _ s3=>wpAny C.M A (handleBy (.ref e) env hs) Q E s3) E s2) E s1:=by
 have H1:=H.ns hns
 show F.note H.fr H1.fl H.ef (fun b hb=>hb) fun h2 my F2 k2=> ?_
 show F2.flight fun h3 F3 k3=> ?_
 have kk:∀b m,s.heap.Ns b m->h3.Ns b m:=fun b m x=>k3 b m (k2 b m (hns b m x))
 exact h _ my F3 kk (fs.fly H F3 kk) (H.ns kk)
theorem zk.at{fr:List Addr}{e t cl:Addr}{v hd fl:Value}(F:zk C s fr e t cl v hd fl s'):s'.heap.get? e=some { cls:= .ref cl,data:= .fields #[.ref t,hd,.none,.none,.bool false,.none] }/\s'.heap.get? t=some { cls:= .type "tuple",data:= .seq #[v] }/\s.heap.get? e=none/\s.heap.get? t=none:=by
 obtain⟨⟨H0,mw,F1,h1,h2,h3,h4⟩,tk,nw⟩:=F
 exact⟨F1.he,F1.ht,nw⟩
theorem zk.setFlight2{e t cl tb:Addr}{fr:List Addr}{v fl:Value}{Q:Unit->Shared->Prop}{E:qN}(F:zk C s fr e t cl v (.ref tb) fl s')
  (h:∀h',zk C s fr e t cl v (.ref tb) .none { s' with heap:=h' }->(∀b m,s'.heap.Ns b m->h'.Ns b m)->Q () { s' with heap:=h' }):
  wpAny C.M B (setFlight (.ref e) none) Q E s':=F.flight h
theorem clause_miss{e t cl xD xH c':Addr}{c:Str}{hd:Value}{nm:Str}{body:List Stmt}{p1 p2:Pos}{rest:List ExceptHandler}{oe:Obj}{Q:wc}{E:qN}(X:wb C xD xH)(fs:FS C n k A env Y OL l s)
  (hk:env.kindOf c=some .globalImplicit) (nS:(c==("__debug__":Str))=false) (hc:C.mg c=some (.ref c')) (he:s.heap.get? e=some oe) (xc:oe.cls= .ref cl) (m1:cl∈[xD,xH]) (m2:c'∈[xD,xH]) (je:cl≠c')
  (h:wpAny C.M A (handleBy (.ref e) env rest) Q E s):
  wpAny C.M A (handleBy (.ref e) env (.ExceptHandler (some (.Name c p1)) (some nm) body p2::rest)) Q E s:=by
 show wpAny_handleBy_cons (codeAny_handlers_test (ne (qh fs.pre hk hc nS ?_))) (by intro q;cases q)
 show jA9 X fs.pre.gr.keep he xc m1 m2 ?_
 rw[jNb je]
 exact h
theorem clause_hit{e t cl xD xH:Addr}{c:Str}{hd v:Value}{nm:Str}{b0:Stmt}{body:List Stmt}{p1 p2:Pos}{rest:List ExceptHandler}{outer:List Env}{tb:Addr}{Q:wc}{E:qN}(X:wb C xD xH)(fs:FS C n k A env Y [] l s)(H:Hd A env outer Y s.heap)
  (F:zk C s (yu (env::outer)) e t cl v (.ref tb) .none s1) (hns:∀b m,s.heap.Ns b m->s1.heap.Ns b m)
  (hk:env.kindOf c=some .globalImplicit) (nS:(c==("__debug__":Str))=false) (hc:C.mg c=some (.ref cl)) (m1:cl∈[xD,xH]) (i8:env.kindOf nm=some .local)
  (h:∀s3,KW C (fun b=>b∈yu (env::outer)\/b∈jB env) s s3->FS C n k A env Y [] (jA l nm (.val (.opq (.ref e)))) s3->Hd A env outer Y s3.heap->(∀b m,b∉jB env->s.heap.Ns b m->s3.heap.Ns b m)->s3.heap.get? e=some { cls:= .ref cl,data:= .fields #[.ref t,.ref tb,.none,.none,.bool false,.none] }->s3.heap.get? t=some { cls:= .type "tuple",data:= .seq #[v] }->
   wpAny C.M (A.mark (some (.ref e))) (execs (b0::body) env) (fun f s4=>wpAny C.M A (do bindName env nm .none;unbindBehindTheSuite env nm p2) (fun _ s5=>Q f s5) E s4) NE s3):
  wpAny C.M A (handleBy (.ref e) env (.ExceptHandler (some (.Name c p1)) (some nm) (b0::body) p2::rest)) Q E s1:=by
 have qF:=fs.fly H F hns
 show uF F.at fun a1 a2 a3 a4=> ?_
 show wpAny_handleBy_cons (codeAny_handlers_test (ne (qh qF.pre hk hc nS ?_))) (by intro q;cases q)
 show jA9 X qF.pre.gr.keep a1 rfl m1 m1 ?_
 rw[jMx rfl]
 show codeAny_handlers_suite_as (F.setFlight2 fun h2 F2 k2=> ?_)
 have kk:∀b m,s.heap.Ns b m->h2.Ns b m:=fun b m x=>k2 b m (hns b m x)
 have xd:=fs.fly H F2 kk
 show uF F2.at fun b1 b2 b3 b4=> ?_
 show ne (xd.assign (B:=A.mark (some (.ref e))) (d:= .opq (.ref e)) (.inl i8) (.opq _) fun s3 wZ yM=> ?_)
 have t2:=xd.pre.gr.tab
 have new:∀a,s.heap.get? a=none->a≠C.P/\¬ZO [] env a:=fun a ha=>by
  show⟨fun e'=> ?_,fun hz=> ?_⟩
  .obtain⟨ps,hp,_⟩:=fs.pre.gr.tab
   rw[e',hp] at ha;cases ha
  .obtain⟨o,ho⟩:=fs.pre.hYs a (ZO.sub fs.wY hz)
   rw[ha] at ho;exact zn ho
 have cy:∀b∈yu (env::outer),(∃m,h2.Ns b m)->∃m,s3.heap.Ns b m:=fun b hb ⟨m,hm⟩=>by
  by_cases e':b=env.locals
  .subst e';exact yM.pre.fm.ns
  .show⟨m,hm.at fun o ho=>wZ.heap (j8 t2 hm) (fun hz=> ?_) ho⟩
   have iR:b∈jB env:=by exact hz
   rcases j0.mp iR with h|h
   .exact e' h
   .show jE (jo.mp (qX.mp h).1) ?_;rintro q hq rfl
    show qA (xd.pre.fm.cl q hq) fun u o' ho' yL=> ?_
    rw[ho'] at ho;replace ho:=jX ho;subst ho
    show ja hm fun o2 es ep oE hd2 _=> ?_;clear hm
    rw[ho'] at oE;replace oE:=jX oE;subst oE;rw[hd2] at yL;cases yL
 have H3:Hd A env outer Y s3.heap:=⟨H.fr,fun x hx=>by
  obtain⟨z1,L,m,z2,z3⟩:=(H.fl.slots kk) x hx
  obtain⟨m',z4⟩:=cy L (jOo.mpr ⟨x,hx,z2⟩) ⟨m,z3⟩
  exact⟨z1,L,m',z2,z4⟩,H.fY,H.ef⟩
 show ne (h s3 ((F2.kw.mono fun b hb=>jQt hb).trans (wZ.mono fun b hb=>jQs (by exact hb))) yM H3 (fun b m hb hm=>(kk b m hm).at fun o ho=>wZ.heap (j8 t2 (kk b m hm)) (fun hz=>hb (by exact hz)) ho) (wZ.heap (new e b3).1 (new e b3).2 b1) (wZ.heap (new t b4).1 (new t b4).2 b2))
theorem FS.goes{x:Str}{pos:Pos}{Q:Unit->Shared->Prop}{E:qN}(fs:FS C n k A env Y [] l s)(hk:env.kindOf x=some .local)
  (q:∀s',KW C (·∈jB env) s s'->FS C n k A env Y [] (fun y=>if y=x then none else l y) s'->Q () s'):wpAny C.M B (do bindName env x .none;unbindBehindTheSuite env x pos) Q E s:=by
 obtain⟨m,hn⟩:=fs.pre.fm.ns
 show wpAny_nameGoes_keeps hk hn (by rw[fs.pre.eo.kind];rfl) fun h' v oF hs=> ?_
 have hlW:env.locals∈qQ []++jB env:=ju _ jy
 have kw:KW C (·=env.locals) s { s with heap:=h',toks:=s.toks+1 }:=KW.one (jM5 _) rfl (fs.own.ne _ hlW) (fs.own.code _ hlW) (fun b o hb e=>by rw[hs.2 b hb];exact e) (by (show oO oF fun o es ep ho _=> ?_;clear oF);exact⟨o,ho⟩)
 have hc:∀p∈env.cells,¬p.2=env.locals:=fun p hp e=>fs.pre.fm.ne hp e
 have hZ:∀b,b=env.locals->b∈qQ []++Y:=fun b hb=>hb▸ju _ (fs.wY _ jy)
 have t:=fs.pre.gr.tab
 show q _ (kw.mono fun b hb=>hb▸jy) ⟨⟨fs.pre.bs,fs.pre.a,fs.pre.eo,fs.pre.gr.kw fs.pre.bs kw fun b hb=>fs.pre.hY b (hZ b hb),fs.pre.hP,fs.pre.hY,fun a ha=>kw.exs t (fs.pre.hYs a ha),⟨⟨_,oF⟩,fun p hp=> ?_,fs.pre.fm.apart⟩,fs.pre.hc,fun y d hy=> ?_⟩,fs.hP,fs.cY,fs.own.kw t kw,fs.wY,fs.nY,fs.ap,fs.cw,fun y ds hy=> ?_⟩
 .obtain⟨v,hv⟩:=fs.pre.fm.cl p hp
  show jE (id hv) fun o ho hd=> ?_
  exact dA v o (kw.heap (jz t hv) (hc p hp) ho) hd
 .by_cases e:y=x
  .unfold j3 at hy;dsimp only at hy;rw[if_pos e] at hy;exact zn hy
  .have iS:j3 l y=some d:=by unfold j3 at hy ⊢;dsimp only at hy;rw[if_neg e] at hy;exact hy
   show jE (fs.pre.loc y d iS) fun u hu ru=> ?_
   show⟨u,?_,RD.kw kw fs.pre.hP hZ ru⟩
   rcases hu with ⟨hk,m2,rx,lF⟩|⟨hk,c,xc,hv⟩
   .show .inl ⟨hk,_,oF,?_⟩
    rw[jMv e,hn.agree rx];exact lF
   .show jE (id hv) fun o ho hd=> ?_
    exact .inr ⟨hk,c,xc,o,kw.heap (jz t hv) (hc _ (mem_of_lookup xc)) ho,hd⟩
 .by_cases e:y=x
  .rw[jMt e] at hy;exact zn hy
  .rw[jMv e] at hy
   show oO (fs.lst y ds hy) fun a vs m' h1 _=> ?_
   cases h1
noncomputable def hA(p:Nat->Pos)(nw nr:Str):Stmt:= .Assign [.Tuple [.Name "book" (p 0),.Name nw (p 1),.Name nr (p 2)] 0 (p 3)] (.Name "state" (p 4)) (p 5)
noncomputable def hR1(p:Nat->Pos)(nw nr:Str):Stmt:= .Return (some (.Tuple [.Name "book" (p 6),.BinOp (.Name nw (p 7)) .Add (.List [.Call (.Name "parse257" (p 8)) [.Name "reply" (p 9)] [] (p 10)] (p 11)) (p 12),.Name nr (p 13)] 0 (p 14))) (p 15)
noncomputable def hW(p:Nat->Pos):Stmt:= .Assign [.Name "words" (p 17)] (.Call (.Name "str" (p 18)) [.Name "error" (p 19)] [] (p 20)) (p 21)
noncomputable def hC1(p:Nat->Pos):ExceptHandler:= .ExceptHandler (some (.Name "error_reply" (p 16))) (some "error") [hW p] (p 22)
noncomputable def eS(p:Nat->Pos)(nw nr:Str):Stmt:= .Try [hR1 p nw nr] [hC1 p] [] [] (p 23)
noncomputable def hF(p:Nat->Pos):Stmt:= .Assign [.Name "found" (p 24)] (.Call (.Name "parse229" (p 25)) [.Name "words" (p 26),.Tuple [.Constant (.str "peer") 0 (p 27),.Constant (.int 21) 0 (p 28)] 0 (p 29)] [] (p 30)) (p 31)
noncomputable def hC2(p:Nat->Pos)(nw nr:Str):ExceptHandler:= .ExceptHandler (some (.Name "error_reply" (p 32))) (some "error") [.Return (some (.Tuple [.Name "book" (p 33),.Name nw (p 34),.BinOp (.Name nr (p 35)) .Add (.List [.BinOp (.Constant (.str "no ") 0 (p 36)) .Add (.Call (.Name "str" (p 37)) [.Name "error" (p 38)] [] (p 39)) (p 40)] (p 41)) (p 42)] 0 (p 43))) (p 44)] (p 45)
noncomputable def hC3(p:Nat->Pos)(nw nr:Str):ExceptHandler:= .ExceptHandler (some (.Name "error_proto" (p 46))) (some "error") [.Return (some (.Tuple [.Name "book" (p 47),.Name nw (p 48),.BinOp (.Name nr (p 49)) .Add (.List [.Call (.Name "str" (p 50)) [.Name "error" (p 51)] [] (p 52)] (p 53)) (p 54)] 0 (p 55))) (p 56)] (p 57)
noncomputable def lP(p:Nat->Pos)(nw nr:Str):Stmt:= .Try [hF p] [hC2 p nw nr,hC3 p nw nr] [] [] (p 58)
noncomputable def hP(p:Nat->Pos)(ie:Expr):Stmt:= .Assign [.Subscript (.Name "book" (p 59)) ie (p 60)] (.Name "found" (p 61)) (p 62)
noncomputable def hE(p:Nat->Pos)(nr:Str)(se:Expr):Stmt:= .Return (some (.Tuple [.Name "book" (p 63),se,.Name nr (p 64)] 0 (p 65))) (p 66)
noncomputable def hX(p:Nat->Pos)(nr:Str)(ie se:Expr):List Stmt:=[hP p ie,hE p nr se]
structure kr(fn:Fn)(nw nr:Str)(ie se:Expr):Prop where
 ok:oL fn=true
 names:fn.names=(["state","reply"]:List Str)
 loc:∀x∈([nw,nr,"book","state","reply","error","words","found"]:List Str),fn.scope.names.lookup x=some .local
 glb:∀x∈(["str","parse257","parse229","error_reply","error_proto"]:List Str),fn.scope.names.lookup x=some .globalImplicit
 ne1:∀x∈(["error","words","found"]:List Str),x≠nw/\x≠nr/\x≠"book"/\x≠"reply"
 ne2:nw≠nr/\nw≠"book"/\nr≠"book"/\nw≠"reply"/\nr≠"reply"
 dbg:∀x∈[nw,nr],(x==("__debug__":Str))=false/\(x==("__classdict__":Str))=false
 shape:∃p:Nat->Pos,fn.body=hA p nw nr::eS p nw nr::lP p nw nr::hX p nr ie se/\isStarred se=false
inductive rJ (C:Cx) (r:Ev) (f:Str) (as:List D) (d:D):Prop
 |mk:∀fn l0 l',C.fns.lookup f=some fn->xu fn.names as=some l0->qd r false fn.scope l0 fn.body=some (.ret d,l')->rJ C r f as d
inductive uY (C:Cx) (r:Ev) (f:Str) (as:List D) (c x:Str):Prop
 |mk:∀fn l0 l',C.fns.lookup f=some fn->xu fn.names as=some l0->qd r false fn.scope l0 fn.body=some (.exc c (.str x),l')->uY C r f as c x
noncomputable abbrev xE:D:= .tup [.str "peer",.int 21]
def HKey(C:Cx)(r:Ev)(fn:Fn)(nw:Str)(ie se:Expr)(kvs:xQ)(w q:List D)(y:Str)(wx:xQ)(w' q':List D):Prop:=
 (∃d key,rJ C r "parse229" [.str y,xE] d/\(∀l:Loc,l nw=some (.list w)->r.E false fn.scope l ie=some (.str key))/\(∀l:Loc,l nw=some (.list w)->r.E false fn.scope l se=some (.list w'))/\kvs.length<=1000/\wx=qj kvs key d/\q'=q)\/
   (∃z,uY C r "parse229" [.str y,xE] "error_reply" z/\3+z.length<=lim/\q.length+1<=lim/\wx=kvs/\w'=w/\q'=q++[.str (("no ":Str)++z)])\/
   (∃z,uY C r "parse229" [.str y,xE] "error_proto" z/\q.length+1<=lim/\wx=kvs/\w'=w/\q'=q++[.str z])
def HStp(C:Cx)(r:Ev)(fn:Fn)(nw:Str)(ie se:Expr)(kvs:xQ)(w q:List D)(t:Str)(wx:xQ)(w' q':List D):Prop:=
 (∃x,rJ C r "parse257" [.str t] (.str x)/\w.length+1<=lim/\wx=kvs/\w'=w++[.str x]/\q'=q)\/(∃y,uY C r "parse257" [.str t] "error_reply" y/\HKey C r fn nw ie se kvs w q y wx w' q')
def y6(C:Cx)(r:Ev)(fn:Fn)(nw:Str)(ie se:Expr)(a:xQ×List D×List D)(t:Str)(b:xQ×List D×List D):Prop:=HStp C r fn nw ie se a.1 a.2.1 a.2.2 t b.1 b.2.1 b.2.2
variable{fn:Fn}{nw t x y z key:Str}{ie se:Expr}{kvs:xQ}{w q w':List D}{d:D}
theorem y6.name(h1:rJ C r "parse257" [.str t] (.str x))(h2:w.length+1<=lim):y6 C r fn nw ie se (kvs,w,q) t (kvs,w++[.str x],q):= .inl ⟨_,h1,h2,rfl,rfl,rfl⟩
theorem y6.found(h1:uY C r "parse257" [.str t] "error_reply" y)(h2:rJ C r "parse229" [.str y,xE] d)(h3:∀l:Loc,l nw=some (.list w)->r.E false fn.scope l ie=some (.str key))
  (h4:∀l:Loc,l nw=some (.list w)->r.E false fn.scope l se=some (.list w')) (h5:kvs.length<=1000):y6 C r fn nw ie se (kvs,w,q) t (qj kvs key d,w',q):= .inr ⟨_,h1,.inl ⟨_,_,h2,h3,h4,h5,rfl,rfl⟩⟩
theorem y6.reply(h1:uY C r "parse257" [.str t] "error_reply" y)(h2:uY C r "parse229" [.str y,xE] "error_reply" z)(h3:3+z.length<=lim)(h4:q.length+1<=lim):y6 C r fn nw ie se (kvs,w,q) t (kvs,w,q++[.str (("no ":Str)++z)]):=
 .inr ⟨_,h1,.inr (.inl ⟨_,h2,h3,h4,rfl,rfl,rfl⟩)⟩
theorem y6.proto(h1:uY C r "parse257" [.str t] "error_reply" y)(h2:uY C r "parse229" [.str y,xE] "error_proto" z)(h3:q.length+1<=lim):y6 C r fn nw ie se (kvs,w,q) t (kvs,w,q++[.str z]):=
 .inr ⟨_,h1,.inr (.inr ⟨_,h2,h3,rfl,rfl,rfl⟩)⟩
inductive BK (C:Cx) (s:Shared) (Y:List Addr) (DB:Addr) (kvs:xQ):Prop
 |mk:∀(o:Obj) (ks:List Str) (vs:List Value) (ds:List D),s.heap.get? DB=some o->o.IsDictOf (strKind C.prog C.w) (ks.zip vs)->ks.length=vs.length->qM C s.heap Y vs ds->kvs=ks.zip ds->BK C s Y DB kvs
theorem BK.kw{DB:Addr}(b:BK C s Y DB kvs)(x:KW C Z s s')(hP:C.P∈Y)(hZ:∀b,Z b->b∈Y)(h1:DB≠C.P)(h2:¬Z DB):BK C s' Y DB kvs:=by
 obtain⟨o,ks,vs,ds,e1,e2,e3,e4,e5⟩:=b
 exact⟨o,ks,vs,ds,x.heap h1 h2 e1,e2,e3,qM.kw x hP hZ e4,e5⟩
def lZ(s si:Shared):Prop:=∀b m,s.heap.Ns b m->si.heap.Ns b m
theorem lZ.kp(t:jd C s.heap)(kp:KP C s s1):lZ s s1:=fun b m h=>h.at fun o ho=>kp.heap (j8 t h) ho
theorem triple{e1 e2 e3:Expr}{kd:Nat}{pos:Pos}{Q:qN}{E:qN}(h1:isStarred e1=false)(h2:isStarred e2=false)(h3:isStarred e3=false)
  (h:wpAny C.M B (eval e1 env) (fun v1 s1=>wpAny C.M B (eval e2 env) (fun v2 s2=>wpAny C.M B (eval e3 env) (fun v3 s3=>Q (.ref s3.heap.objs.size) { s3 with heap:=s3.heap.push (xo [v1,v2,v3] 0) }) E s2) E s1) E s):
  wpAny C.M B (eval (.Tuple [e1,e2,e3] kd pos) env) Q E s:=by
 show wpAny_Tuple (jPk (jNh h (fun v1 s1 g1=>jPk (jNh g1 (fun v2 s2 g2=>jPk (jNh g2 (fun v3 s3 g3=>jQ8 ⟨by simp;decide,g3⟩) fun _ _ x=>x) (jI h3)) fun _ _ x=>x) (jI h2)) fun _ _ x=>x) (jI h1))
theorem uq{e1:Expr}{pos:Pos}{Q:qN}{E:qN}(h1:isStarred e1=false)
  (h:wpAny C.M B (eval e1 env) (fun v1 s1=>Q (.ref s1.heap.objs.size) { s1 with heap:=s1.heap.push (j4 [v1] 0) }) E s):
  wpAny C.M B (eval (.List [e1] pos) env) Q E s:=
 jRi (jPk (jNh h (fun v1 s1 g1=>jQ8 ⟨by simp;decide,g1⟩) fun _ _ x=>x) (jI h1))
structure HL(l:jN)(nw nr:Str)(DB:Addr)(w q:List D)(t:Str):Prop where
 b:l "book"=some (.val (.opq (.ref DB)))
 w:l nw=some (.val (.list w))
 q:l nr=some (.val (.list q))
 t:l "reply"=some (.val (.str t))
theorem HL.set{nr:Str}{DB:Addr}(h:HL l nw nr DB w q t)(hx:x≠nw/\x≠nr/\x≠"book"/\x≠"reply"):HL (jA l x (.val d)) nw nr DB w q t:=
 ⟨by unfold jA;rw[if_neg (Ne.symm hx.2.2.1)];exact h.b,by unfold jA;rw[if_neg (Ne.symm hx.1)];exact h.w,by unfold jA;rw[if_neg (Ne.symm hx.2.1)];exact h.q,by unfold jA;rw[if_neg (Ne.symm hx.2.2.2)];exact h.t⟩
theorem HL.del{nr:Str}{DB:Addr}(h:HL l nw nr DB w q t)(hx:x≠nw/\x≠nr/\x≠"book"/\x≠"reply"):HL (fun y=>if y=x then none else l y) nw nr DB w q t:=
 ⟨(jMv (Ne.symm hx.2.2.1)).trans h.b,(jMv (Ne.symm hx.1)).trans h.w,(jMv (Ne.symm hx.2.1)).trans h.q,(jMv (Ne.symm hx.2.2.2)).trans h.t⟩
theorem kG{xD xH e t cl tb:Addr}{tk:Tok}{p1 p2 p3:Pos}{Q:qN}(X:wb C xD xH)(fs:FS C n k A env Y OL l s)(hu:B.units+2<cLine)(h1:env.kindOf "str"=some .globalImplicit)(h2:l "error"=some (.val (.opq (.ref e))))(m1:cl∈[xD,xH])
  (he:s.heap.get? e=some { cls:= .ref cl,data:= .fields #[.ref t,.ref tb,.none,.none,.bool false,.none] }) (ht:s.heap.get? t=some { cls:= .type "tuple",data:= .seq #[.str x tk] }) (q:Q (.str x tk) s):
  wpAny C.M B (eval (.Call (.Name "str" p1) [.Name "error" p2] [] p3) env) Q NE s:=by
 show jOw rfl (qi (v:= .type "str") fs.pre h1 kD jC9 kD ?_)
 show jPm (by rfl) (jNg (jNf (yN fs h2 kD kD fun u ru=>jN3 ?_)))
 have lx:=_m.R.opq_inv ru
 subst lx
 exact jDr X fs.pre.gr.keep hu he ht m1 q
variable{s3:Shared}
structure HX(C:Cx)(s:Shared)(outer:List Env)(env:Env)(Y:List Addr)(DB:Addr)(kvs:xQ)(si:Shared):Prop where
 kw:KW C (fun b=>b=DB\/b∈yu outer\/b∈jB env) s si
 ns:∀b m,b≠DB->s.heap.Ns b m->si.heap.Ns b m
 bk:BK C si (jB env++Y) DB kvs
structure HG(C:Cx)(s:Shared)(outer:List Env)(env:Env)(Y:List Addr)(DB:Addr):Prop where
 hn:∀a∈jB env,s.heap.get? a=none
 hcn:∀p∈env.cells,p.2∈jB env
 hP:C.P∈Y
 hYs:∀a∈Y,∃o,s.heap.get? a=some o
 hDY:DB∈Y
 hDP:DB≠C.P
 hDf:DB∉yu outer
 hfY:∀b∈yu outer,b∈Y
 hfl:f9 s.heap outer
 tab:jd C s.heap
theorem HG.dw{outer:List Env}{DB:Addr}(G:HG C s outer env Y DB):DB∉jB env:=fun hm=>by
 obtain⟨o,e⟩:=G.hYs DB G.hDY
 rw[G.hn DB hm] at e;exact zn e
theorem HX.step{outer:List Env}{DB:Addr}(G:HG C s outer env Y DB)(x:HX C s outer env Y DB kvs s1)(kw:KW C (·∈jB env) s1 s2):HX C s outer env Y DB kvs s2:=by
 have t1:=(x.kw.tabTo G.tab).1
 show⟨x.kw.trans (kw.mono fun b hb=> .inr (.inr hb)),fun b m hb h=>(x.ns b m hb h).at fun o ho=>kw.heap (j8 t1 (x.ns b m hb h)) (fun hz=> ?_) ho,x.bk.kw kw (ju _ G.hP) (fun b hb=>xP _ hb) G.hDP G.dw⟩
 show oO h fun o' es ep ho' _=> ?_;clear h
 rw[G.hn b hz] at ho';exact zn ho'
theorem HX.kp{outer:List Env}{DB:Addr}(G:HG C s outer env Y DB)(x:HX C s outer env Y DB kvs s1)(kp:KP C s1 s2):HX C s outer env Y DB kvs s2:=x.step G kp.kw
theorem HX.frames{outer:List Env}{DB:Addr}(G:HG C s outer env Y DB)(x:HX C s outer env Y DB kvs s1)(kw:KW C (fun b=>b∈yu outer\/b∈jB env) s1 s2)(hns:∀b m,b∉jB env->s1.heap.Ns b m->s2.heap.Ns b m):HX C s outer env Y DB kvs s2:=by
 show⟨x.kw.trans (kw.mono fun b hb=> .inr hb),fun b m hb h=>hns b m (fun hm=> ?_) (x.ns b m hb h),x.bk.kw kw (ju _ G.hP) (fun b hb=> ?_) G.hDP fun hz=>hz.elim G.hDf G.dw⟩
 .show oO h fun o' es ep ho' _=> ?_;clear h
  rw[G.hn b hm] at ho';exact zn ho'
 .rcases hb with hb|hb
  .exact ju _ (G.hfY b hb)
  .exact xP _ hb
theorem dG{DB:Addr}{v2 v3:Value}{Yf:List Addr}(hP:C.P∈Yf)(jv:∀a∈Yf,a<s3.heap.objs.size)
  (r2:RD C s3.heap Yf v2 (.list w)) (r3:RD C s3.heap Yf v3 (.list q)):RD C (s3.heap.push (xo [.ref DB,v2,v3] 0)) Yf (.ref s3.heap.objs.size) (.tup [.opq (.ref DB),.list w,.list q]):=by
 have kp:KP C s3 { s3 with heap:=s3.heap.push (xo [.ref DB,v2,v3] 0) }:=KP.push (tk:=s3.toks) nL
 exact .tup (n:=0) (xN (tk:=s3.toks) (o:=xo [.ref DB,v2,v3] 0) jv rfl) (.cons (.opq _) (.cons (RD.kp kp hP r2) (.cons (RD.kp kp hP r3) .nil)))
abbrev mG(C:Cx)(s:Shared)(outer:List Env)(Y:List Addr)(DB:Addr)(kvs:xQ)(w q:List D)(Q:qN):Prop:=
 ∀v' s',KW C (fun b=>b=DB\/b∈yu outer) s s'->(∀b m,b≠DB->s.heap.Ns b m->s'.heap.Ns b m)->RD C s'.heap Y v' (.tup [.opq (.ref DB),.list w,.list q])->BK C s' Y DB kvs->Q v' s'
theorem kQ{outer:List Env}{DB:Addr}{v:Value}{Q:qN}(G:HG C s outer env Y DB)(x:HX C s outer env Y DB kvs s3)
  (rv:RD C s3.heap (jB env++Y) v (.tup [.opq (.ref DB),.list w,.list q])) (qq:mG C s outer Y DB kvs w q Q):Q v s3:=by
 have jx:∀a∈Y,a∈jB env++Y:=fun a ha=>ju _ ha
 show qq _ _ ((KW.refl s).transNew x.kw fun b hb=> ?_) x.ns (_m.R.mono (j9 jx) rv) ?_
 .rcases hb with h|h|h
  .exact .inl (.inl h)
  .exact .inl (.inr h)
  .exact .inr (G.hn b h)
 .obtain⟨o,ks,vs,ds,e1,e2,e3,e4,e5⟩:=x.bk
  exact⟨o,ks,vs,ds,e1,e2,e3,Rs.mono (j9 jx) e4,e5⟩
theorem HX.put{outer:List Env}{DB:Addr}{tk:Tok}{v:Value}{Q:Unit->Shared->Prop}(G:HG C s outer env Y DB)(x:HX C s outer env Y DB kvs s1)(fs:FS C n k A env (jB env++Y) [] l s1)(hl:kvs.length<=1000)(rv:RD C s1.heap (jB env++Y) v d)
  (q:∀s2,HX C s outer env Y DB (qj kvs key d) s2->FS C n k A env (jB env++Y) [] l s2->Q () s2):wpAny C.M B (setItem (.ref DB) (.str key tk) v) Q NE s1:=by
 obtain⟨o,ks,vs,ds,e1,e2,e3,e4,e5⟩:=x.bk
 have hlen:(ks.zip vs).length<=1000:=by
  have h4:=e4.length
  rw[e5] at hl
  simp only[List.length_zip] at hl ⊢
  lia
 show wpAny_setItem_pairs (knd:=strKind C.prog C.w) (jRj _ _ key tk) (jNz.mpr ⟨o,e1,e2⟩) (fun h' hD hs=> ?_) (x8 hlen kD)
 show jE (jNz.mp hD) fun o' ho' hod'=> ?_
 show yy (jF3 (C:=C) (H:=view s1.heap (jB env++Y)) (x:=key) e3 e4 rv) fun aa vT fE f1 f2 f3 f4=> ?_
 have ia:¬jq C s1.heap DB:=fun hc=>by
  obtain⟨ps,h1,h2,h3⟩:=fs.pre.gr.tab
  show qA hc fun tf pos g1 g2=> ?_;clear hc
  rw[h1] at g1;cases g1
  show oN (h3 pos _ g2) fun c oc ws t oj tm aF _=> ?_
  cases oj
  rw[e1] at tm;replace tm:=jX tm;subst tm
  show yz e2 fun es ep _ hdd _=> ?_;clear e2
  rw[hdd] at aF;cases aF
 have kw:KW C (·=DB) s1 { s1 with heap:=h',toks:=s1.toks+1 }:=KW.one (jM5 _) rfl G.hDP ia (fun b o hb e=>by rw[hs.2 b hb];exact e) ⟨o',ho'⟩
 have hDY:DB∈jB env++Y:=ju _ G.hDY
 show q _ ⟨x.kw.trans (kw.mono fun b hb=> .inl hb),fun b m hb h=>(x.ns b m hb h).at fun o ho=>(hs.2 b hb).trans ho,o',aa,vT,fE,ho',f1▸hod',f3,?_,by rw[e5];exact f2⟩ (fs.out kw (fun b hb=>hb▸hDY) (fun e=>G.dw (e▸jy)) fun p hp e=>G.dw (e▸G.hcn p hp))
 exact Rs.mono (fun a o e=>by
  obtain⟨e,nn⟩:=jG e
  exact jT ((hs.2 a fun e'=>nn (e'▸hDY)).trans e) nn) f4
structure HS(C:Cx)(n:Nat)(A:Around)(env:Env)(outer:List Env)(Y:List Addr)(s:Shared)(DB:Addr)(nw nr:Str)(kvs:xQ)(w q:List D)(t:Str)(l:jN)(si:Shared):Prop where
 fs:FS C n false (A.deeper env) env (jB env++Y) [] l si
 hx:HX C s outer env Y DB kvs si
 hd:Hd (A.deeper env) env outer (jB env++Y) si.heap
 hl:HL l nw nr DB w q t
theorem HS.kp{outer:List Env}{DB:Addr}{nr:Str}(G:HG C s outer env Y DB)(h:HS C n A env outer Y s DB nw nr kvs w q t l s1)(kp:KP C s1 s2):HS C n A env outer Y s DB nw nr kvs w q t l s2:=
 ⟨h.fs.kp kp,h.hx.kp G kp,h.hd.ns (lZ.kp h.fs.pre.gr.tab kp),h.hl⟩
theorem jHw{x:D}{v2 v3:Value}{Q:qN}(fs:FS C n k A env Y OL l s)(h2:RD C s.heap (qQ OL++Y) v2 (.list w))(h3:RD C s.heap (qQ OL++Y) v3 x)(hw:w.length+1<=lim)
  (q:∀v s',KP C s s'->RD C s'.heap (qQ OL++Y) v (.list (w++[x]))->Q v s'):
  wpAny C.M B (binaryOp .Add v2 (.ref s.heap.objs.size)) Q NE { s with heap:=s.heap.push (j4 [v3] 0) }:=by
 have kp:KP C s { s with heap:=s.heap.push (j4 [v3] 0) }:=KP.push (tk:=s.toks) nL
 have p2:=fs.pre.kp kp
 show wV (a:= .list w) (b:= .list [x]) p2.hP p2.lt (by show(?_:(if w.length+[x].length<=lim then some (D.list (w++[x])) else none)=_);rw[jMt (by exact hw)]) (RD.kp kp fs.pre.hP h2) (.list (n:=0) (xN (tk:=s.toks) (o:=j4 [v3] 0) fs.pre.lt rfl) (.cons (RD.kp kp fs.pre.hP h3) .nil)) fun v s3 k3 r3=>q v s3 (kp.trans k3) r3
theorem jDn{outer:List Env}{DB e:Addr}{nr m:Str}(hf:kr fn nw nr ie se)(G:HG C s outer env Y DB)(h:HS C n A env outer Y s DB nw nr kvs w q t l s1)
  {ex:Expr} (hex:isStarred ex=false) {p1 p2 p3 p4 p5 p6 p7:Pos}
  (mW:∀(Q:qN),(∀tk s2,KP C s1 s2->Q (.str m tk) s2)->wpAny C.M B (eval ex env) Q NE s1) (hq:q.length+1<=lim) {Q:wc}
  (qq:∀v s2,FS C n false (A.deeper env) env (jB env++Y) [] l s2->HX C s outer env Y DB kvs s2->RD C s2.heap (jB env++Y) v (.tup [.opq (.ref DB),.list w,.list (q++[.str m])])->Q (.ret v) s2):
  wpAny C.M B (execs [.Return (some (.Tuple [.Name "book" p1,.Name nw p2,.BinOp (.Name nr p3) .Add (.List [ex] p4) p5] 0 p6)) p7] env) Q NE s1:=by
 show jM0 (jP5 (triple rfl rfl rfl (pE h.fs h.hl.b kD kD ?_)))
 show yN h.fs h.hl.w (hf.dbg nw yS).1 (hf.dbg nw yS).2 fun v2 r2=> ?_
 show jRu (yN h.fs h.hl.q (hf.dbg nr uR).1 (hf.dbg nr uR).2 fun v3 r3=>uq hex (mW _ fun tk s2 kp=> ?_))
 have h2:=h.kp G kp
 show jHw h2.fs (RD.kp kp h.fs.pre.hP r3) (.str m tk) hq fun v s3 k3 rv=> ?_
 have h3:=h2.kp G k3
 have mh:KP C s3 { s3 with heap:=s3.heap.push (xo [.ref DB,v2,v] 0) }:=KP.push (tk:=s3.toks) nL
 have h4:=h3.kp G mh
 exact qq _ _ h4.fs h4.hx (dG (by exact h3.fs.pre.hP) (by exact h3.fs.pre.lt) (by exact RD.kp (kp.trans k3) h.fs.pre.hP r2) (by exact rv))
theorem jIt{p1 p2 p3:Pos}{Q:qN}(fs:FS C n k A env Y OL l s)(q:∀v s',KP C s s'->RD C s'.heap (qQ OL++Y) v xE->Q v s'):wpAny C.M B (eval (.Tuple [.Constant (.str "peer") 0 p1,.Constant (.int 21) 0 p2] 0 p3) env) Q NE s:=by
 show wpAny_Tuple (jPk (m9 (C:=C) (Y:=qQ OL++Y) fun v1 s1 k1 r1=>jPk (tQ (C:=C) (Y:=qQ OL++Y) fun v2 s2 k2 r2=>jQ8 ⟨by simp;decide,?_⟩)))
 have kp:KP C s2 { s2 with heap:=s2.heap.push (xo [v1,v2] 0) }:=KP.push (tk:=s2.toks) nL
 have p:=fs.pre.kp (k1.trans k2)
 exact q _ _ ((k1.trans k2).trans kp) (.tup (n:=0) (xN (tk:=s2.toks) (o:=xo [v1,v2] 0) p.lt rfl) (.cons (RD.kp (k2.trans kp) p.hP r1) (.cons (RD.kp kp p.hP r2) .nil)))
theorem jAp{outer:List Env}{DB xD xH e t0 cl tb:Addr}{c nr m:Str}{tk:Tok}(hf:kr fn nw nr ie se)(X:wb C xD xH)(G:HG C s outer env Y DB)(h:HS C n A env outer Y s DB nw nr kvs w q t l s1)(qE:env.scope=fn.scope)
  (hu:A.units+10<cLine) (F:zk C s1 (yu (env::outer)) e t0 cl (.str z tk) (.ref tb) .none s2) (hns:∀b m,s1.heap.Ns b m->s2.heap.Ns b m) (hc:C.mg c=some (.ref cl)) (m1:cl∈[xD,xH]) (hcn:c="error_reply"\/c="error_proto")
  {ex:Expr} (hex:isStarred ex=false) {p0 p1 p2 p3 p4 p5 p6 p7 p8:Pos} {rest:List ExceptHandler}
  (mW:∀(l:jN) (s3:Shared),l "error"=some (.val (.opq (.ref e)))->FS C n false (A.deeper env) env (jB env++Y) [] l s3->s3.heap.get? e=some { cls:= .ref cl,data:= .fields #[.ref t0,.ref tb,.none,.none,.bool false,.none] }->s3.heap.get? t0=some { cls:= .type "tuple",data:= .seq #[.str z tk] }->
   ∀(Q:qN),(∀tk s2,KP C s3 s2->Q (.str m tk) s2)->wpAny C.M ((A.deeper env).mark (some (.ref e))) (eval ex env) Q NE s3) (hq:q.length+1<=lim)
  {Q:qN} {QF:wc} {E:qN} (bU:∀v s,Q v s->QF (.ret v) s) (qq:mG C s outer Y DB kvs w (q++[.str m]) Q):
  wpAny C.M (A.deeper env) (handleBy (.ref e) env (.ExceptHandler (some (.Name c p0)) (some "error") [.Return (some (.Tuple [.Name "book" p1,.Name nw p2,.BinOp (.Name nr p3) .Add (.List [ex] p4) p5] 0 p6)) p7] p8::rest)) QF E s2:=by
 have fB:∀x∈([nw,nr,"book","state","reply","error","words","found"]:List Str),env.kindOf x=some .local:=fun x hx=>by
  show(?_:env.scope.names.lookup x=_)
  rw[qE];exact hf.loc x hx
 have tn:∀x∈(["str","parse257","parse229","error_reply","error_proto"]:List Str),env.kindOf x=some .globalImplicit:=fun x hx=>by
  show(?_:env.scope.names.lookup x=_)
  rw[qE];exact hf.glb x hx
 have hkc:env.kindOf c=some .globalImplicit/\(c==("__debug__":Str))=false:=by
  rcases hcn with e0|rfl
  .rw[e0];exact⟨tn _ aS,by decide⟩
  .exact⟨tn _ zm4,by decide⟩
 show clause_hit (hd:= .none) X h.fs h.hd F hns hkc.1 hkc.2 hc m1 (fB "error" l8) fun s3 wZ yM H3 cy he3 ht3=> ?_
 have w9:KW C (fun b=>b∈yu outer\/b∈jB env) s1 s3:=wZ.mono fun b hb=>by
  rcases hb with hb|hb
  .rw[yu,jNd,h.hd.ef] at hb
   rcases j0.mp hb with hb|hb
   .exact .inr (hb▸jy)
   .exact .inl hb
  .exact .inr hb
 have hx3:=h.hx.frames G w9 cy
 have iK:jA l "error" (.val (.opq (.ref e))) "error"=some (.val (.opq (.ref e))):=by unfold jA;rw[if_pos rfl]
 have h3:HS C n A env outer Y s DB nw nr kvs w q t (jA l "error" (.val (.opq (.ref e)))) s3:=⟨yM,hx3,H3,h.hl.set (hf.ne1 "error" yS)⟩
 show jDn (B:=(A.deeper env).mark (some (.ref e))) (e:=e) (m:=m) hf G h3 hex (mW _ s3 iK yM he3 ht3) hq fun v s4 zC iT rv=> ?_
 show zC.goes (fB "error" l8) fun s5 fV oG=>bU v s5 ?_
 exact kQ G (iT.step G fV) (RD.kw fV (ju _ G.hP) (fun b hb=>xP _ hb) rv) qq
theorem jJg(S:gL C n r){outer:List Env}{DB xD xH:Addr}{nr:Str}{wx:xQ}{q':List D}{p:Nat->Pos}(hf:kr fn nw nr ie se)(X:wb C xD xH)(G:HG C s outer env Y DB)(h:HS C (n+1) A env outer Y s DB nw nr kvs w q t l s1)(qE:env.scope=fn.scope)
  (hu:A.units+10<cLine) (hw:l "words"=some (.val (.str y))) (az:isStarred se=false)
  (wo:HKey C r fn nw ie se kvs w q y wx w' q')
  {Q:qN} {QF:wc} {E:qN} (bU:∀v s,Q v s->QF (.ret v) s) (qq:mG C s outer Y DB wx w' q' Q):
  wpAny C.M (A.deeper env) (execs (lP p nw nr::hX p nr ie se) env) QF E s1:=by
 have fB:∀x∈([nw,nr,"book","state","reply","error","words","found"]:List Str),env.kindOf x=some .local:=fun x hx=>by
  show(?_:env.scope.names.lookup x=_)
  rw[qE];exact hf.loc x hx
 have tn:∀x∈(["str","parse257","parse229","error_reply","error_proto"]:List Str),env.kindOf x=some .globalImplicit:=fun x hx=>by
  show(?_:env.scope.names.lookup x=_)
  rw[qE];exact hf.glb x hx
 have bs:=h.fs.pre.bs
 obtain⟨fp,vM⟩:∃fp,C.fns.lookup ("parse229":Str)=some fp:=by
  rcases wo with ⟨d,key,⟨fp,l0,l',h1,_⟩,_⟩|⟨z,⟨fp,l0,l',h1,_⟩,_⟩|⟨z,⟨fp,l0,l',h1,_⟩,_⟩ <;> exact⟨fp,h1⟩
 show rH (bs.fn _ fp vM) fun a oa pm code doc hm iZ ix fg=> ?_
 show jM0 (wpAny_Try_except (jM0 (jOt ?_ (by rfl))))
 show jOw rfl (ne (qh h.fs.pre (tn "parse229" b8) hm kD ?_))
 show jOu (o:=oa) (fd:=docDef "parse229" fp.params fp.body fp.scope pm code doc) (jNg (jNf (ne (yN h.fs hw kD kD fun u ru=>jNf (ne (jIt h.fs fun u2 s2 kp ru2=>jN3 ⟨⟨(h.fs.kp kp).pre.gr.keep _ _ iZ,ix⟩,?_⟩))))))
 have h2:=h.kp G kp
 have p2:=h2.fs.pre
 have rs:qM C s2.heap (qQ []++(jB env++Y)) [u,u2] [.str y,xE]:= .cons (RD.kp kp h.fs.pre.hP ru) (.cons ru2 .nil)
 have room:xv n (A.deeper env):=p2.a.room
 rcases wo with ⟨d,key,⟨eW,l0,l',h1,hb,hs⟩,hie,hse',iq,e1,e2⟩|⟨z,⟨eW,l0,l',h1,hb,hs⟩,hz,hq,e1,e2,e3⟩|⟨z,⟨eW,l0,l',h1,hb,hs⟩,hq,e1,e2,e3⟩
 .rw[e1,e2] at qq;rw[<-jX (vM.symm.trans h1)] at hb hs
  show zz S.S vM hm bs p2.gr p2.hP p2.hY p2.hYs room hb hs rs fun v s3 rq rv=> ?_
  have h3:=h2.kp G rq
  show ne (h3.fs.assign (.inl (fB "found" zm7)) rv fun s4 zM zC=>jNj (jNj ?_))
  have uU:KW C (·∈jB env) s3 s4:=zM.mono fun b hb=>by exact hb
  have iT:=h3.hx.step G uU
  have lG:=h3.hl.set (d:=d) (hf.ne1 "found" b8)
  have lf4:jA l "found" (.val d) "found"=some (.val d):=by unfold jA;rw[if_pos rfl]
  generalize jA l "found" (.val d)=l4 at zC lG lf4
  have pw:j3 l4 nw=some (.list w):=by unfold j3;rw[lG.w]
  show jM0 (wpAny_Assign_Subscript (ne (yN zC lf4 kD kD fun vf rf=>ne (pE zC lG.b kD kD (ne (S.E.at (zC.pre.mono (jM5 n)) (by rw[qE];exact hie _ pw) fun vi s5 pF p5 ri=>ne ?_))))) (by rfl))
  obtain⟨tki,rfl⟩:=ri.str_inv
  have oG:=zC.kp pF
  have au:=iT.kp G pF
  show au.put G oG iq (by exact RD.kp pF zC.pre.hP rf) fun s6 hx6 mu=> ?_
  show jM0 (jP5 (triple rfl az rfl (ne (pE mu lG.b kD kD (ne (S.E.at (mu.pre.mono (jM5 n)) (by rw[qE];exact hse' _ pw) fun v2 s7 sk p7 r2=>ne (yN (mu.kp sk) lG.q (hf.dbg nr uR).1 (hf.dbg nr uR).2 fun v3 r3=> ?_)))))))
  have pR:=mu.kp sk
  have hx7:=hx6.kp G sk
  have kp8:KP C s7 { s7 with heap:=s7.heap.push (xo [.ref DB,v2,v3] 0) }:=KP.push (tk:=s7.toks) nL
  exact bU _ _ (kQ G (hx7.kp G kp8) (dG (by exact pR.pre.hP) (by exact pR.pre.lt) (by exact r2) (by exact r3)) qq)
 .rw[e1,e2,e3] at qq;rw[<-jX (vM.symm.trans h1)] at hb hs
  show gH S.S vM hm bs p2.gr p2.hP p2.hY p2.hYs room h2.hd.fr h2.hd.fl hb hs rs fun e t0 cl tb tk s3 F xc hns=> ?_
  show rb h2.fs h2.hd F hns fun s4 my F4 pn zC H4=> ?_
  have lM:cl=xD:=by have:=X.mR;rw[xc] at this;injection this with this;injection this
  show jAp (m:=("no ":Str)++z) hf X G h2 qE hu F4 pn xc (by simp[lM]) (.inl rfl) rfl (fun l9 s9 iJ mr eM ly Q9 q9=> ?_) hq bU qq
  show jRu (m9 (C:=C) (Y:=qQ []++(jB env++Y)) fun v1 lg ag r1=> ?_)
  have he10:lg.heap.get? e=_:=ag.heap (mr.pre.gr.ne eM (by intro h;cases h)) eM
  have ht10:lg.heap.get? t0=_:=ag.heap (mr.pre.gr.ne ly (by intro h;cases h)) ly
  show kG X (mr.kp ag) (by show(?_:A.units+3+2<cLine);(show jM7 ?_ (by assumption);simp+arith)) (tn "str" yS) iJ (by simp[lM]) he10 ht10 ?_
  have ba:=(mr.kp ag).pre
  have iR:("no ":Str).length+z.length<=lim:=by
   have:("no ":Str).length=3:=by decide
   lia
  show wV (a:= .str "no ") (b:= .str z) ba.hP ba.lt (by show(?_:(if (("no ":Str)).length+z.length<=lim then some (D.str (("no ":Str)++z)) else none)=_);exact jMt iR) r1 (.str z tk) fun v s11 k11 r11=> ?_
  obtain⟨tk11,rfl⟩:=r11.str_inv
  exact q9 _ _ (ag.trans k11)
 .rw[e1,e2,e3] at qq;rw[<-jX (vM.symm.trans h1)] at hb hs
  show gH S.S vM hm bs p2.gr p2.hP p2.hY p2.hYs room h2.hd.fr h2.hd.fl hb hs rs fun e t0 cl tb tk s3 F xc hns=> ?_
  show rb h2.fs h2.hd F hns fun s4 my F4 pn zC H4=> ?_
  have eO:cl=xH:=by have:=X.mP;rw[xc] at this;injection this with this;injection this
  show clause_miss (t:=t0) (hd:= .none) X zC (tn "error_reply" aS) kD X.mR F4.at.1 rfl (by simp[eO]) yS (by rw[eO];exact X.ne.symm) ?_
  show jAp (m:=z) hf X G h2 qE hu F4 pn xc (by simp[eO]) (.inr rfl) rfl (fun l9 s9 iJ mr eM ly Q9 q9=> ?_) hq bU qq
  exact kG X mr (by show(?_:A.units+3+2<cLine);(show jM7 ?_ (by assumption);simp+arith)) (tn "str" yS) iJ (by simp[eO]) eM ly (q9 _ _ (KP.refl _))
theorem jJh(S:gL C n r){l5:jN}{s5:Shared}{outer:List Env}{DB xD xH:Addr}{nr:Str}{wx:xQ}{q':List D}{p:Nat->Pos}(hf:kr fn nw nr ie se)(X:wb C xD xH)(G:HG C s outer env Y DB)(h5:HS C (n+1) A env outer Y s DB nw nr kvs w q t l5 s5)(qE:env.scope=fn.scope)
  (hu:A.units+10<cLine) (az:isStarred se=false) (xR:HStp C r fn nw ie se kvs w q t wx w' q') {Q:qN} {QF:wc} {E:qN} (bU:∀v s,Q v s->QF (.ret v) s) (qq:mG C s outer Y DB wx w' q' Q):
  wpAny C.M (A.deeper env) (execs (eS p nw nr::lP p nw nr::hX p nr ie se) env) QF E s5:=by
 have bs:=h5.fs.pre.bs
 have oV:=h5.hd.ef
 have fB:∀x∈([nw,nr,"book","state","reply","error","words","found"]:List Str),env.kindOf x=some .local:=fun x hx=>by
  show(?_:env.scope.names.lookup x=_)
  rw[qE];exact hf.loc x hx
 have tn:∀x∈(["str","parse257","parse229","error_reply","error_proto"]:List Str),env.kindOf x=some .globalImplicit:=fun x hx=>by
  show(?_:env.scope.names.lookup x=_)
  rw[qE];exact hf.glb x hx
 obtain⟨fp,vM⟩:∃fp,C.fns.lookup ("parse257":Str)=some fp:=by
  rcases xR with ⟨_,⟨fp,_,_,h1,_⟩,_⟩|⟨_,⟨fp,_,_,h1,_⟩,_⟩ <;> exact⟨fp,h1⟩
 show rH (bs.fn _ fp vM) fun a oa pm' code' doc' hm iZ ix fg=> ?_
 show jM0 (wpAny_Try_except (jM0 (jP5 (triple rfl rfl rfl (ne (pE h5.fs h5.hl.b kD kD ?_))))))
 show jRu (ne (yN h5.fs h5.hl.w (hf.dbg nw yS).1 (hf.dbg nw yS).2 fun v2 r2=>uq rfl ?_))
 show jOw rfl (ne (qh h5.fs.pre (tn "parse257" uR) hm kD ?_))
 show jOu (o:=oa) (fd:=docDef "parse257" fp.params fp.body fp.scope pm' code' doc') (jNg (jNf (ne (yN h5.fs h5.hl.t kD kD fun u ru=>jN3 ⟨⟨h5.fs.pre.gr.keep _ _ iZ,ix⟩,?_⟩))))
 have p5:=h5.fs.pre
 have room5:xv n (A.deeper env):=p5.a.room
 rcases xR with ⟨x,⟨eW,la,lb,h1,pK,lA⟩,hw1,e1,e2,e3⟩|⟨y,⟨eW,la,lb,h1,pK,lA⟩,wo⟩
 .rw[e1,e2,e3] at qq;rw[<-jX (vM.symm.trans h1)] at pK lA
  show zz S.S vM hm bs p5.gr p5.hP p5.hY p5.hYs room5 pK lA (.cons ru .nil) fun v6 s6 kp6 rv6=> ?_
  have h6:=h5.kp G kp6
  show ne (jHw h6.fs (RD.kp kp6 p5.hP r2) rv6 hw1 fun v7 s7 sk rv7=>ne (yN (h6.kp G sk).fs h5.hl.q (hf.dbg nr uR).1 (hf.dbg nr uR).2 fun v8 rv8=> ?_))
  have h7:=h6.kp G sk
  have kp9:KP C s7 { s7 with heap:=s7.heap.push (xo [.ref DB,v7,v8] 0) }:=KP.push (tk:=s7.toks) nL
  exact bU _ _ (kQ G (h7.hx.kp G kp9) (dG (by exact h7.fs.pre.hP) (by exact h7.fs.pre.lt) (by exact rv7) (by exact rv8)) qq)
 .rw[<-jX (vM.symm.trans h1)] at pK lA
  show gH S.S vM hm bs p5.gr p5.hP p5.hY p5.hYs room5 h5.hd.fr h5.hd.fl pK lA (.cons ru .nil) fun e t0 cl tb tk s6 F xc hns=> ?_
  show rb h5.fs h5.hd F hns fun s7 my F7 hns7 pR H7=> ?_
  have lM:cl=xD:=by have:=X.mR;rw[xc] at this;injection this with this;injection this
  show clause_hit (hd:= .none) X h5.fs h5.hd F7 hns7 (tn "error_reply" aS) kD xc (by simp[lM]) (fB "error" l8) fun s8 iO eV H8 hns8 he8 ht8=> ?_
  have kw8':KW C (fun b=>b∈yu outer\/b∈jB env) s5 s8:=iO.mono fun b hb=>by
   rcases hb with hb|hb
   .rw[yu,jNd,oV] at hb
    rcases j0.mp hb with hb|hb
    .exact .inr (hb▸jy)
    .exact .inl hb
   .exact .inr hb
  have hx8:=h5.hx.frames G kw8' hns8
  have le8:jA l5 "error" (.val (.opq (.ref e))) "error"=some (.val (.opq (.ref e))):=sQ
  show jM0 (jOt (kG X eV (by show(?_:A.units+3+2<cLine);(show jM7 ?_ (by assumption);simp+arith)) (tn "str" yS) le8 (by simp[lM]) he8 ht8 ?_) (by rfl))
  show eV.assign (d:= .str y) (.inl (fB "words" zm6)) (.str y tk) fun s9 iN mr=>jNj ?_
  have kw9':KW C (·∈jB env) s8 s9:=iN.mono fun b hb=>by exact hb
  show mr.goes (fB "error" l8) fun lg kw10 sI=> ?_
  have hx10:=(hx8.step G kw9').step G kw10
  have hl10:HL (fun z=>if z=("error":Str) then none else jA (jA l5 "error" (.val (.opq (.ref e)))) "words" (.val (.str y)) z) nw nr DB w q t:=((h5.hl.set (hf.ne1 "error" yS)).set (hf.ne1 "words" uR)).del (hf.ne1 "error" yS)
  have lw10:(fun z=>if z=("error":Str) then none else jA (jA l5 "error" (.val (.opq (.ref e)))) "words" (.val (.str y)) z) "words"=some (.val (.str y)):=by
   show(?_:(if ("words":Str)="error" then none else jA (jA l5 "error" (.val (.opq (.ref e)))) "words" (.val (.str y)) "words")=_)
   rw[jMv kD]
   unfold jA
   rw[jMt rfl]
  have hd10:Hd (A.deeper env) env outer (jB env++Y) lg.heap:=by
   show⟨h5.hd.fr,jM6.mpr ⟨?_,fun x hx=> ?_⟩,h5.hd.fY,oV⟩
   .obtain⟨m,hm⟩:=sI.pre.fm.ns
    exact⟨by rw[sI.pre.eo.kind];decide,_,m,oV,hm⟩
   .obtain⟨z1,L,m,z2,z3⟩:=G.hfl x hx
    exact⟨z1,L,m,z2,hx10.ns L m (fun e=>G.hDf (e▸jOo.mpr ⟨x,hx,z2⟩)) z3⟩
  exact jJg S hf X G ⟨sI,hx10,hd10,hl10⟩ qE hu lw10 az wo bU qq
theorem jGr(S:gL C n r){f:Str}{nr:Str}(hf:kr fn nw nr ie se){xD xH:Addr}(X:wb C xD xH)(bs:Base C){af:Addr}{o:Obj}{pm code doc:Value}(ho:C.g0.get? af=some o)(hd:o.data= .func (docDef f fn.params fn.body fn.scope pm code doc))(hc:C.g0.CodeRec code f)
  {outer:List Env} (g:Gr C s) (hP:C.P∈Y) (hY:∀a∈Y,C.g0.get? a=none) (hYs:∀a∈Y,∃o,s.heap.get? a=some o) (aQ:y0 (n+2) A) (uA:A.frames=some outer) (hfl:f9 s.heap outer) (hfY:∀b∈yu outer,b∈Y) {DB:Addr} (hDY:DB∈Y) (hDP:DB≠C.P) (hDf:DB∉yu outer)
  {va vd:Value} {kvs wx:xQ} {w q w' q':List D} (hv:RD C s.heap Y va (.tup [.opq (.ref DB),.list w,.list q])) (ht:RD C s.heap Y vd (.str t)) (iz:BK C s Y DB kvs) (xR:y6 C r fn nw ie se (kvs,w,q) t (wx,w',q')) {Q E:qN} (qq:mG C s outer Y DB wx w' q' Q):
  wpAny C.M A (call (.ref af) [va,vd]) Q E s:=by
 have ok:=wH hf.ok
 have room:xv (n+1) A:=aQ.room
 have pq:=room.depth
 have hun:=room.units
 have ub:fn.params.args.map (·.arg)=(["state","reply"]:List Str):=hf.names
 have hlen:fn.params.args.length=2:=by have:=jM8 List.length ub;simpa using this
 show jQd (jO4 (fd:=docDef f fn.params fn.body fn.scope pm code doc) (body:=fn.body) (by have:recursionLimit=1000:=rfl;lia) (g.keep _ _ ho) hd ok.co ok.gen rfl (hc.keeps g.keep) ?_)
 rw[qU ok.plain rfl (by show(?_:fn.params.args.length=2);exact hlen)]
 show jMr (ne ?_)
 obtain⟨l0,hb⟩:∃l0,xu fn.names [.tup [.opq (.ref DB),.list w,.list q],.str t]=some l0:=by rw[hf.names];exact⟨_,rfl⟩
 have vE:=xm hb
 rw[hf.names] at vE
 have aX:l0 "state"=some (.val (.tup [.opq (.ref DB),.list w,.list q])):=by rw[vE];rfl
 have lr0:l0 "reply"=some (.val (.str t)):=by rw[vE];rfl
 show zZ (k:=false) (n:=n+1) (A:=A) ok bs g hP hY hYs (fun env=>room.deeper) hb (.cons hv (.cons ht .nil)) (fun h=>by exact zf h) fun env s1 zU qF wd hcn qE oV=>⟨bs.nolimit.keeps (g.kp bs zU).keep,jQq ?_⟩
 show jE hf.shape fun p kn az=> ?_
 rw[kn]
 have fB:∀x∈([nw,nr,"book","state","reply","error","words","found"]:List Str),env.kindOf x=some .local:=fun x hx=>by
  show(?_:env.scope.names.lookup x=_)
  rw[qE];exact hf.loc x hx
 have tn:∀x∈(["str","parse257","parse229","error_reply","error_proto"]:List Str),env.kindOf x=some .globalImplicit:=fun x hx=>by
  show(?_:env.scope.names.lookup x=_)
  rw[qE];exact hf.glb x hx
 have G:HG C s outer env Y DB:=⟨wd,hcn,hP,hYs,hDY,hDP,hDf,hfY,hfl,g.tab⟩
 have hbk1:BK C s1 (jB env++Y) DB kvs:=by
  obtain⟨ob,ks,vs,ds,e1,e2,e3,e4,e5⟩:=iz
  exact⟨ob,ks,vs,ds,zU.heap hDP e1,e2,e3,qM.moreL zU hP wd (fun a ha=>jj.mp ha) e4,e5⟩
 have nH:HX C s outer env Y DB kvs s1:=⟨zU.kw,fun b m _ h=>lZ.kp g.tab zU b m h,hbk1⟩
 have bS:Hd (A.deeper env) env outer (jB env++Y) s1.heap:=by
  show⟨jR1 uA,fun x hx=> ?_,fun b hb=> ?_,oV⟩
  .rcases j0.mp hx with e0|hx
   .rw[e0];obtain⟨m,hm⟩:=qF.pre.fm.ns
    exact⟨by rw[qF.pre.eo.kind];decide,_,m,oV,hm⟩
   .exact(hfl.slots (lZ.kp g.tab zU)) x hx
  .rw[yu,jNd,oV] at hb
   rcases j0.mp hb with e0|hb
   .rw[e0];exact xP _ jy
   .exact ju _ (hfY b hb)
 show jM0 (wpAny_Assign_stores (ne (yN qF aX kD kD fun v rv=> ?_)) (by rfl) (by rfl))
 show ja rv.tup_inv ?_;rintro at' vs m rfl bq rs
 show yy rs.un3 ?_;rintro u1 u2 u3 rfl r1 r2 r3
 show ne ?_
 show(?_:wpAny C.M (A.deeper env) (assign (.Tuple [.Name "book" (p 0),.Name nw (p 1),.Name nr (p 2)] 0 (p 3)) env (.ref at')) _ NE s1)
 show jSb qF.pre.a.handled (jl bq) (by rfl) (by rfl) fun h' hk=> ?_
 have ae:KP C s1 { s1 with heap:=h' }:=KP.of nL fun b o e=>hk b o (fun e'=>jNp _ (e'▸jM1 e)) e
 have xd:=qF.kp ae
 have aL:=qF.pre.hP
 show jO2 (jNt (xd.assign (.inl (fB "book" b8)) (RD.kp ae aL r1) fun s3 wZ yM=> ?_))
 have w9:KW C (·∈jB env) { s1 with heap:=h' } s3:=wZ.mono fun b hb=>by exact hb
 have hZ:∀b,b∈jB env->b∈qQ []++(jB env++Y):=fun b hb=>by simp[hb]
 show jO2 (jNt (yM.assign (.inl (fB nw yS)) (RD.kw w9 aL hZ (RD.kp ae aL r2)) fun s4 zM zC=> ?_))
 have uU:KW C (·∈jB env) s3 s4:=zM.mono fun b hb=>by exact hb
 show jO2 (jNt (zC.assign (.inl (fB nr uR)) (RD.kw uU aL hZ (RD.kw w9 aL hZ (RD.kp ae aL r3))) fun s5 fV oG=>jSf ?_))
 have uE:KW C (·∈jB env) s4 s5:=fV.mono fun b hb=>by exact hb
 have e1:=_m.R.opq_inv r1
 subst e1
 have au:=(((nH.kp G ae).step G w9).step G uU).step G uE
 have hl5:HL (jA (jA (jA l0 "book" (.val (.opq (.ref DB)))) nw (.val (.list w))) nr (.val (.list q))) nw nr DB w q t:=by
  show rI hf.ne2 fun n1 n2 n3 n4 n5=> ?_
  show⟨?_,?_,?_,?_⟩ <;> unfold jA
  .rw[jMv (Ne.symm n3),jMv (Ne.symm n2),jMt rfl]
  .rw[jMv n1,jMt rfl]
  .rw[jMt rfl]
  .rw[jMv (Ne.symm n5),jMv (Ne.symm n4),jMv kD];exact lr0
 have hd5:Hd (A.deeper env) env outer (jB env++Y) s5.heap:=by
  show⟨bS.fr,fun x hx=> ?_,bS.fY,oV⟩
  rcases j0.mp hx with e0|hx
  .rw[e0];obtain⟨m,hm⟩:=oG.pre.fm.ns
   exact⟨by rw[oG.pre.eo.kind];decide,_,m,oV,hm⟩
  .obtain⟨z1,L,m,z2,z3⟩:=hfl x hx
   exact⟨z1,L,m,z2,au.ns L m (fun e=>hDf (e▸jOo.mpr ⟨x,hx,z2⟩)) z3⟩
 have h5:HS C (n+1) A env outer Y s DB nw nr kvs w q t _ s5:=⟨oG,au,hd5,hl5⟩
 generalize jA (jA (jA l0 "book" (.val (.opq (.ref DB)))) nw (.val (.list w))) nr (.val (.list q))=l5 at h5
 clear hl5 au hd5 oG
 have hu:A.units+10<cLine:=by show(?_:A.units+10<9900);lia
 exact jJh S hf X G h5 qE hu az xR (fun _ _ h=>h) qq
variable{s0:Shared}
noncomputable abbrev pU:=xQ×List D×List D
structure HI(C:Cx)(af DB:Addr)(fo:Obj)(outer:List Env)(st:Nat->pU)(s0:Shared)(Y:List Addr)(j:Nat)(v:Value)(s:Shared):Prop where
 v:RD C s.heap Y v (.tup [.opq (.ref DB),.list (st j).2.1,.list (st j).2.2])
 bk:BK C s Y DB (st j).1
 f:s.heap.get? af=some fo
 fY:∀b∈yu outer,b∈Y
 dY:DB∈Y
 ns:∀b∈yu outer,∀m,s0.heap.Ns b m->s.heap.Ns b m
 db:∃o,s.heap.get? DB=some o
theorem BK.weak{DB:Addr}(b:BK C s Y DB kvs)(hd:∀o,s.heap.get? DB=some o->s'.heap.get? DB=some o)(hr:∀vs ds,qM C s.heap Y vs ds->qM C s'.heap Y' vs ds):BK C s' Y' DB kvs:=by
 obtain⟨o,ks,vs,ds,e1,e2,e3,e4,e5⟩:=b
 exact⟨o,ks,vs,ds,hd o e1,e2,e3,hr _ _ e4,e5⟩
theorem jGq(S:gL C n r){f:Str}{nr:Str}(hf:kr fn nw nr ie se){xD xH:Addr}(X:wb C xD xH)(bs:Base C){af:Addr}{o:Obj}{pm code doc:Value}(ho:C.g0.get? af=some o)(hd:o.data= .func (docDef f fn.params fn.body fn.scope pm code doc))(hc:C.g0.CodeRec code f)
  {outer:List Env} (g0:Gr C s0) (hP0:C.P∈Y') (aQ:∀env,y0 (n+2) (A.deeper env)) (uA:A.frames=some outer) (hfl:f9 s0.heap outer) (hfY:∀b∈yu outer,b∈Y') {DB:Addr} (hDY:DB∈Y') (hDP:DB≠C.P) (hDf:DB∉yu outer) (eU:∃o,s0.heap.get? DB=some o) (lK:af≠C.P)
  {st:Nat->pU} {its:List D} (xR:∀j d,its[j]? =some d->∃t,d= .str t/\y6 C r fn nw ie se (st j) t (st (j+1))):
  fT C (n+2) A af (HI C af DB o outer st s0) its (fun b=>b=DB\/b∈yu outer) s0 Y' where
 zf:=fun b h=>h.elim (fun h=>h▸hDY) (hfY b)
 fobj:=fun Y j v s h=>⟨o,_,h.f,hd⟩
 call:=fun rF Y j va vd d s Q ha g hP hY hYs tV hI hj hrd hk hfe aC eF hns q=>by
  show jE (xR j d hj) ?_;rintro t rfl hs
  have e1:st j=((st j).1,(st j).2.1,(st j).2.2):=rfl
  have e2:st (j+1)=((st (j+1)).1,(st (j+1)).2.1,(st (j+1)).2.2):=rfl
  rw[e1,e2] at hs
  have lV:DB≠rF.locals:=fun e=>by obtain⟨oo,h⟩:=eU;rw[e,eF] at h;exact zn h
  have xx:∀b,b∈yu (rF::outer)↔b=rF.locals\/b∈yu outer:=fun b=>by rw[yu,jNd,hfe];exact jPy
  show jGr S hf X bs ho hd hc (outer:=rF::outer) g hP hY hYs ha (jR1 uA) (fun x hx=> ?_) (fun b hb=> ?_) hI.dY hDP (fun hm=> ?_) hI.v hrd hI.bk hs fun v' s' kw ns rv bk=> ?_
  .rcases j0.mp hx with e0|hx
   .rw[e0];obtain⟨m,hm⟩:=hns
    exact⟨by rw[hk];decide,_,m,hfe,hm⟩
   .obtain⟨z1,L,m,z2,z3⟩:=hfl x hx
    exact⟨z1,L,m,z2,hI.ns L (jOo.mpr ⟨x,hx,z2⟩) m z3⟩
  .rcases (xx b).mp hb with e0|hb
   .rw[e0];exact aC
   .exact hI.fY b hb
  .rcases (xx DB).mp hm with e|hm
   .exact lV e
   .exact hDf hm
  .have nf:¬(af=DB\/af∈yu (rF::outer)):=fun hz=>by
    have iu:∀m,¬s.heap.Ns af m:=fun m h=>by
     show ja h fun oo es ep h1 h2 _=> ?_;clear h
     rw[hI.f] at h1;replace h1:=jX h1;subst h1;rw[hd] at h2;cases h2
    rcases hz with hz|hz
    .obtain⟨ob,ks,vs,ds,b1,⟨es,ep,_,b2,_⟩,_⟩:=hI.bk
     rw[<-hz,hI.f] at b1;replace b1:=jX b1;subst b1;rw[hd] at b2;cases b2
    .rcases (xx af).mp hz with hz|hz
     .obtain⟨m,hm⟩:=hns
      exact iu m (hz▸hm)
     .obtain⟨m,hm⟩:=hfl.mem hz
      exact iu m (hI.ns af hz m hm)
   show q v' s' (kw.mono fun b hb=> ?_) (fun m hm=>ns _ m (Ne.symm lV) hm) ⟨rv,bk,kw.heap lK nf hI.f,hI.fY,hI.dY,fun b hb m hm=>ns b m (fun e=>hDf (e▸hb)) (hI.ns b hb m hm),kw.exs g.tab hI.db⟩
   rcases hb with hb|hb
   .exact .inl (.inl hb)
   .rcases (xx b).mp hb with hb|hb
    .exact .inr hb
    .exact .inl (.inr hb)
 kw:=fun Y j v s s' Z hI kw hZ hP t=>by
  have i7:∀b,(∃o,s0.heap.get? b=some o)->¬Z b:=fun b ⟨oo,h⟩ hz=>by rw[(hZ b hz).2] at h;exact zn h
  have lO:∀b,Z b->b∈Y:=fun b hz=>(hZ b hz).1
  show⟨RD.kw kw hP lO hI.v,hI.bk.kw kw hP lO hDP (i7 _ eU),kw.heap lK (i7 _ ⟨o,g0.keep _ _ ho⟩) hI.f,hI.fY,hI.dY,fun b hb m hm=> ?_,kw.exs t hI.db⟩
  have h1:=hI.ns b hb m hm
  show oO (id hm) fun oo es ep h2 _=> ?_
  exact h1.at fun o' e=>kw.heap (j8 t h1) (i7 b ⟨oo,h2⟩) e
 more:=fun Y Y2 J j v s s' hI kp hn he h1 h2 hP=>by
  show⟨?_,hI.bk.weak (fun o' e=>kp.heap hDP e) fun vs ds h=>qM.moreL kp hP hn h1 h,kp.heap lK hI.f,fun b hb=>h2 b (hI.fY b hb),h2 _ hI.dY,fun b hb m hm=> ?_,?_⟩
  .have:=qM.moreL kp hP hn h1 (.cons hI.v .nil)
   cases this with|cons h _=>exact h
  .have h1:=hI.ns b hb m hm
   show h1.at fun o' e=>kp.heap (fun e'=> ?_) e
   exact j8 g0.tab hm e'
  .obtain⟨oo,h⟩:=hI.db
   exact⟨oo,kp.heap hDP h⟩
 last:=fun Y J j v s s' hI kj hJ tV hP=>by
  have jx:∀a∈Y,a∈J++Y:=fun a ha=>ju _ ha
  have pA:∀a∈J,a∈J++Y:=fun a ha=>xP _ ha
  have eD:∀b,(∃o,s0.heap.get? b=some o)->b∉J:=fun b ⟨oo,h⟩ hz=>by rw[(hJ b hz).1] at h;exact zn h
  show⟨?_,hI.bk.weak (fun o' e=>kj.heap (eD _ eU) e) fun vs ds h=>qM.lastJ kj jx pA h,kj.heap (eD _ ⟨o,g0.keep _ _ ho⟩) hI.f,fun b hb=>tV b (hfY b hb),tV _ hDY,fun b hb m hm=> ?_,?_⟩
  .have:=qM.lastJ kj jx pA (.cons hI.v .nil)
   cases this with|cons h _=>exact h
  .have h1:=hI.ns b hb m hm
   show oO (id hm) fun oo es ep h2 _=> ?_
   exact h1.at fun o' e=>kj.heap (eD b ⟨oo,h2⟩) e
  .obtain⟨oo,h⟩:=hI.db
   exact⟨oo,kj.heap (eD _ eU) h⟩
 sub:=fun Y Y2 j v s hI h1 h2=>⟨_m.R.mono (j9 h1) hI.v,hI.bk.weak (fun _ e=>e) fun vs ds h=>Rs.mono (j9 h1) h,hI.f,fun b hb=>h2 b (hfY b hb),h2 _ hDY,hI.ns,hI.db⟩
variable{m:Nat}{r':Ev}
theorem jH7(S:gL C n r)(S':SE C m r'){f:Str}{nr:Str}{te:Expr}(hf:kr fn nw nr ie se){xD xH:Addr}(X:wb C xD xH){af:Addr}{o:Obj}{pm code doc:Value}(ho:C.g0.get? af=some o)(hd:o.data= .func (docDef f fn.params fn.body fn.scope pm code doc))(hc:C.g0.CodeRec code f)(hmf:C.mg f=some (.ref af))(nS:(f==("__debug__":Str))=false)
  (fs:FS C m k A env Y [] l s) (room:xv (n+2) A) (uA:A.frames=some [env]) (oV:env.frame=some env.locals) (hx:env.kindOf x=some .local\/env.kindOf x=some .cell) (ip:env.kindOf f=some .globalImplicit) (eH:env.kindOf "reduce"=some .globalImplicit)
  {its:List D} {st:Nat->pU} (ht:r'.E k env.scope (j3 l) te=some (.list its)) (sy:isStarred te=false) (h0:st 0=([],[],[]))
  (xR:∀j d,its[j]? =some d->∃t,d= .str t/\y6 C r fn nw ie se (st j) t (st (j+1))) {p0 p1 p2 p3 p4 p5 p6 p7 p8:Pos} {Q:wc} {E:qN}
  (q:∀s',KW C (ZO [] env) s s'->FS C m k A env Y [] (jA l x (.val (.tup [.dictS (st its.length).1,.list (st its.length).2.1,.list (st its.length).2.2]))) s'->Q .next s'):
  wpAny C.M A (exec (.Assign [.Name x p0] (.Call (.Name "reduce" p1) [.Name f p2,te,.Tuple [.Dict [] [] p3,.List [] p4,.List [] p5] 0 p6] [] p7) p8) env) Q E s:=by
 have bs:=fs.pre.bs
 show mJ bs fun fnr ar orr pmr coder docr dt ai fU nt oi rf hmr hor hdr fg _ _ _ _ _=> ?_
 have t0:=fs.pre.gr.tab
 show jOt ?_ (by rfl)
 show jOw rfl (ne (qh fs.pre eH hmr kD ?_))
 show jOu (o:=orr) (fd:={ docDef "reduce" fnr.params fnr.body fnr.scope pmr coder docr with defaults:= .ref dt }) (jNg (jNf (ne (qh fs.pre ip hmf nS ?_))))
 show jPk (ne (S'.at fs.pre ht fun sv s1 zU p1 rv=> ?_)) (jI sy)
 have qF:=fs.kp zU
 show jPk (triple rfl rfl rfl (wpAny_Dict_empty ?_))
 generalize gM:({ s1 with heap:=s1.heap.push { cls:= .type "dict",data:= .dict #[] } }:Shared)=s2
 generalize hDB:s1.heap.objs.size=DB
 have bV:s1.heap.get? DB=none:=hDB▸qy _
 have yb:KP C s1 s2:=by rw[<-gM];exact KP.push (tk:=s1.toks) nL
 have hD2:s2.heap.get? DB=some { cls:= .type "dict",data:= .dict #[] }:=by rw[<-gM,<-hDB];exact jMw _ rfl
 have hDY:DB∉Y:=fun hm=>by obtain⟨oo,e⟩:=qF.pre.hYs DB (by exact hm);rw[bV] at e;exact zn e
 have hDP:DB≠C.P:=fun e=>hDY (e▸fs.hP)
 have xd:FS C m k A env ([DB]++Y) [] l s2:=qF.moreJ yb (m1 bV) (m1 ⟨_,hD2⟩)
 show jRi (jQ8 ⟨by simp,?_⟩)
 generalize hs3:({ s2 with heap:=s2.heap.push { cls:= .type "list",data:= .seq ([]:List Value).toArray } }:Shared)=s3
 have rq:KP C s2 s3:=by rw[<-hs3];exact KP.push (tk:=s2.toks) nL
 have r3:RD C s3.heap ([DB]++Y) (.ref s2.heap.objs.size) (.list []):=by
  rw[<-hs3]
  exact .list (n:=0) (xN (tk:=s2.toks) (o:=j4 [] 0) (by exact xd.pre.lt) rfl) .nil
 have yM:=xd.kp rq
 show jRi (jQ8 ⟨by simp,?_⟩)
 generalize hs4:({ s3 with heap:=s3.heap.push { cls:= .type "list",data:= .seq ([]:List Value).toArray } }:Shared)=s4
 have mh:KP C s3 s4:=by rw[<-hs4];exact KP.push (tk:=s3.toks) nL
 have r4:RD C s4.heap ([DB]++Y) (.ref s3.heap.objs.size) (.list []):=by
  rw[<-hs4]
  exact .list (n:=0) (xN (tk:=s3.toks) (o:=j4 [] 0) (by exact yM.pre.lt) rfl) .nil
 have zC:=yM.kp mh
 have pF:KP C s4 { s4 with heap:=s4.heap.push (xo [.ref DB,.ref s2.heap.objs.size,.ref s3.heap.objs.size] 0) }:=KP.push (tk:=s4.toks) nL
 have r5:=dG (s3:=s4) (DB:=DB) (Yf:=[DB]++Y) (by exact zC.pre.hP) (by exact zC.pre.lt) (RD.kp mh (by exact yM.pre.hP) r3) r4
 have hv5:(s4.heap.push (xo [.ref DB,.ref s2.heap.objs.size,.ref s3.heap.objs.size] 0)).get? s4.heap.objs.size=some (xo [.ref DB,.ref s2.heap.objs.size,.ref s3.heap.objs.size] 0):=jMw _ rfl
 have oG:=zC.kp pF
 show jQ8 ⟨⟨oG.pre.gr.keep _ _ hor,hdr⟩,?_⟩
 show(?_:wpAny C.M A (call (.ref ar) [.ref af,sv,.ref s4.heap.objs.size]) _ E { s4 with heap:=s4.heap.push (xo [.ref DB,.ref s2.heap.objs.size,.ref s3.heap.objs.size] 0) })
 generalize hs5:({ s4 with heap:=s4.heap.push (xo [.ref DB,.ref s2.heap.objs.size,.ref s3.heap.objs.size] 0) }:Shared)=s5 at pF oG
 rw[show s4.heap.push (xo [.ref DB,.ref s2.heap.objs.size,.ref s3.heap.objs.size] 0)=s5.heap by rw[<-hs5]] at r5 hv5
 have nc:KP C s2 s5:=(rq.trans mh).trans pF
 have hD5:=nc.heap hDP hD2
 have nA:Pre C m k A env ([DB]++Y) (j3 l) s5:=by have:=oG.pre;exact this
 have lK:af≠C.P:=fun e=>by rw[e,bs.hP] at ho;exact zn ho
 have aC:env.locals∈Y:=fs.wY _ jy
 have lV:DB≠env.locals:=fun e=>hDY (e▸aC)
 have sC:yu [env]=[env.locals]:=by rw[yu,jNd,oV];rfl
 have hAl:∀b∈yu [env],b=env.locals:=fun b hb=>by rw[sC] at hb;exact jw.mp hb
 have hAY:∀b∈yu [env],b∈[DB]++Y:=fun b hb=>by rw[hAl b hb];exact ju _ aC
 have fc:=jGq (outer:=[env]) (A:=A) (s0:=s5) (Y':=[DB]++Y) S hf X bs ho hd hc nA.gr nA.hP (fun env=>room.deeper) uA (m1 (nA.fm.ns.elim fun mm hmm=>⟨by rw[fs.pre.eo.kind];decide,_,mm,oV,hmm⟩)) hAY (DB:=DB) (by simp) hDP (by rw[sC];simpa using lV) ⟨_,hD5⟩ lK xR
 have iz:BK C s5 ([DB]++Y) DB (st 0).1:=by
  show jE (jNz.mp (Heap.DictOf.new (knd:=strKind C.prog C.w) s1.heap)) fun od oD cx=> ?_
  have hod2:s2.heap.get? DB=some od:=by rw[<-gM,<-hDB];exact oD
  exact⟨od,[],[],[],nc.heap hDP hod2,cx,rfl,.nil,by rw[h0];rfl⟩
 have ay:RD C s5.heap ([DB]++Y) sv (.list its):=by
  have h2:qM C s2.heap ([DB]++Y) [sv] [.list its]:=qM.moreL (J:=[DB]) yb fs.hP (m1 bV) (fun a ha=>jj.mp ha) (.cons (by exact rv) .nil)
  show yz h2.un fun _ _ e h2 _=> ?_
  cases e
  exact RD.kp nc nA.hP h2
 show jAm (n:=n+2) (Y:=[DB]++Y) (its:=its) (ds:=its) (v0:= .ref s4.heap.objs.size) bs nA.gr nA.hP nA.hY nA.hYs hmr room fc ⟨by rw[h0];exact r5,iz,nA.gr.keep _ _ ho,hAY,by simp,fun _ _ _ h=>h,⟨_,hD5⟩⟩ ay (.inl ⟨rfl,rfl,.inl ⟨_,_,rfl,hv5,.inr rfl⟩⟩) fun v6 s6 lu hI6=> ?_
 have fs5':FS C m k A env ([DB]++Y) [] l s5:=oG
 have mu:FS C m k A env ([DB]++Y) [] l s6:=fs5'.out' lu (fun b hb=>by
  rcases hb with hb|hb
  .simp[hb]
  .exact hAY b hb) (fun _=>hI6.ns env.locals (by rw[sC];exact yS)) fun p hp hz=>by
  rcases hz with hz|hz
  .exact hDY (hz▸fs.cY p hp)
  .exact fs.pre.fm.ne hp (hAl _ hz)
 have pR:FS C m k A env Y [] l s6:=mu.lastJ (KJ.refl s6) (m1 hDY) fs.hP fs.cY fs.wY
 have jx:∀a∈Y,a∈[DB]++Y:=fun a ha=>ju _ ha
 have rt:RD C s6.heap Y v6 (.tup [.dictS (st its.length).1,.list (st its.length).2.1,.list (st its.length).2.2]):=by
  show ja hI6.v.tup_inv ?_;rintro at' vs mm rfl bq rs
  obtain⟨hov1,hov2⟩:=jG bq
  show yy rs.un3 ?_;rintro u1 u2 u3 rfl r1 r2 r3
  have e1:=_m.R.opq_inv r1
  subst e1
  obtain⟨od,ks,ws,ds,b1,b2,b3,b4,b5⟩:=hI6.bk
  rw[b5]
  show .tup (jT hov1 fun h=>hov2 (jx _ h)) (.cons (.dictS (jT b1 hDY) b2 b3 (Rs.mono (j9 jx) b4) fun e=> ?_) (.cons (_m.R.mono (j9 jx) r2) (.cons (_m.R.mono (j9 jx) r3) .nil)))
  obtain⟨oo,hoo⟩:=jM4.mp bs.sys
  have:=qF.pre.gr.keep _ oo hoo
  rw[<-e,bV] at this;exact zn this
 show ne (pR.assign hx (by exact rt) fun s8 iO eV=>q s8 ?_ eV)
 have sj:KW C (ZO [] env) s s6:=(KP.kw ((zU.trans yb).trans nc) (Z:=ZO [] env)).transNew lu fun b hb=>by
  rcases hb with hb|hb
  .exact .inr (hb▸xM zU.kw t0 bV (Z:=fun _=>False))
  .rw[hAl b hb];exact .inl (ju _ jy)
 exact sj.trans iO
end
section
variable{C:Cx}{n:Nat}{r:Ev}{k:Bool}{A:Around}{env:Env}{Y W:List Addr}{l:Loc}{s s' k7 s1:Shared}
abbrev RP(C:Cx)(vs:List Value)(ds:List D):Prop:=Rs C.prog C.w (fun _=>none) vs ds
theorem dT{H:HV}{vs:List Value}{ds:List D}(h:Rs C.prog C.w H vs ds):∀{xs:List Str},strs? ds=some xs->RP C vs ds:=
 h.ind (P:=fun vs ds=>∀{xs:List Str},strs? ds=some xs->RP C vs ds) (fun _=> .nil) fun v d vs ds r _ ih xs e=>by
  show jE (asStrB (show (d.asStr?.bind fun i=>(strs? ds).map (i::·))=some xs from e)) ?_;rintro x rfl e
  show mE e fun ys h1 h2=> ?_
  obtain⟨t,rfl⟩:=r.str_inv
  exact .cons (.str x t) (ih h1)
inductive LL (C:Cx) (h:Heap):List Addr->List D->Prop
 |nil:LL C h [] []
 |cons {a:Addr} {ws:List Value} {m:Nat} {ds:List D} {hs:List Addr} {a0:List D}:h.get? a=some (j4 ws m)->RP C ws ds->LL C h hs a0->LL C h (a::hs) (.list ds::a0)
theorem LL.keep{h h':Heap}{hs:List Addr}{a0:List D}(l:LL C h hs a0):(∀a∈hs,∀o,h.get? a=some o->h'.get? a=some o)->LL C h' hs a0:=by
 induction l with
 |nil=>exact fun _=> .nil
 |cons e r t ih=>exact fun k=> .cons (k _ jy _ e) r (ih fun a ha=>k a (qV _ ha))
theorem LL.snoc{h:Heap}{a:Addr}{ws:List Value}{m:Nat}{ds:List D}(e:h.get? a=some (j4 ws m))(r:RP C ws ds){hs:List Addr}{a0:List D}(l:LL C h hs a0):LL C h (hs++[a]) (a0++[.list ds]):=by
 induction l with
 |nil=>exact .cons e r .nil
 |cons e' r' t ih=>exact .cons e' r' ih
theorem LL.ex{h:Heap}{hs:List Addr}{a0:List D}(l:LL C h hs a0):∀a∈hs,∃o,h.get? a=some o:=by
 induction l with
 |nil=>exact fun a ha=>nomatch ha
 |cons e r t ih=>exact jM6.mpr ⟨⟨_,e⟩,ih⟩
theorem LL.append{h:Heap}{wD:List Addr}{b0:List D}(y:LL C h wD b0){hs:List Addr}{a0:List D}(l:LL C h hs a0):LL C h (hs++wD) (a0++b0):=by
 induction l with
 |nil=>exact y
 |cons e r t ih=>exact .cons e r ih
def mc(C:Cx)(DD:Addr)(Y:List Addr)(h:Heap)(a0:List D):Prop:=∃(hs:List Addr) (m:Nat),h.get? DD=some (j4 (hs.map .ref) m)/\LL C h hs a0/\hs.Pairwise (·<·)/\∀a∈hs,DD<a/\a∉Y
theorem accFr(DD:Addr):u4 DD (mc C DD) where
 frame:=fun Y h h' a0 x k1 k2=>by
  show uW x fun hs m e ll pw al=> ?_;clear x
  exact⟨hs,m,k1 _ e,ll.keep fun a ha o e=>k2 a o (al a ha).2 e,pw,al⟩
 more:=fun Y h h' a0 I x hI k=>by
  show uW x fun hs m e ll pw al=> ?_;clear x
  show⟨hs,m,k _ _ e,ll.keep fun a ha o e=>k a o e,pw,fun a ha=>⟨(al a ha).1,fun hm=> ?_⟩⟩
  rcases j0.mp hm with rfl|hm
  .obtain⟨o,e'⟩:=ll.ex _ ha
   rw[hI] at e';exact zn e'
  .exact(al a ha).2 hm
 sub:=fun Y Y' h a0 wD x=>by
  show uW x fun hs m e ll pw al=> ?_;clear x
  exact⟨hs,m,e,ll,pw,fun a ha=>⟨(al a ha).1,fun hm=>(al a ha).2 (wD a hm)⟩⟩
def gC(C:Cx)(n:Nat)(k:Bool)(A:Around)(ce:Env)(elt:Expr)(qK:Loc->Option D):Prop:=
 ∀Y l d s (Q:qN),qK l=some d->Pre C n k A ce Y l s->
  (∀a ws m ds s',KP C s s'->d= .list ds->(∀b,(∃o,s.heap.get? b=some o)->b<a)->s'.heap.get? a=some (j4 ws m)->RP C ws ds->Q (.ref a) s')->wpAny C.M A (eval elt ce) Q NE s
theorem emitFr{ce:Env}{DD:Addr}{elt:Expr}{qK:Loc->Option D}(F:gC C n k A ce elt qK):kB C n k A ce DD (mc C DD) qK (do let _<-call (.builtin "list.append") [.ref DD,<-eval elt ce]):=by
 intro Y l d s a0 Q hd p own hDY wz hlen q
 show jMq (F Y l d s _ hd p fun a ws m ds s1 kp vF jv ho hr=> ?_)
 subst vF
 show uW wz fun hs m0 h1 ll pw al=> ?_;clear wz
 have hDP:DD≠C.P:=own.ne DD yS
 have h1':=kp.heap hDP h1
 have hPY:=p.hP
 have nP:∀b,b∉Y->b≠C.P:=fun b hb e=>hb (e▸hPY)
 have sf:LL C s1.heap hs a0:=ll.keep fun b hb o e=>kp.heap (nP b (al b hb).2) e
 have hl:hs.length=a0.length:=by
  clear h1 h1' pw al sf hlen q
  induction ll with
  |nil=>rfl
  |cons _ _ _ ih=>simp[ih]
 have fw:=own.kw p.gr.tab (KP.kw kp (Z:=fun _=>False))
 show jMq (jQ6 (items:=(hs.map Value.ref).toArray) ⟨m0,h1'⟩ (fun h' hp ml=> ?_) (by
  have:lim=1000000:=rfl
  exact x8 (by simp;lia:(hs.map Value.ref).toArray.size<=1000000) kD))
 obtain⟨m',hp⟩:=hp
 have kw:KW C (·=DD) s1 { s1 with heap:=h' }:=KW.one nL rfl hDP (fw.code DD yS) (fun b o hb e=>by rw[ml.2 b hb];exact e) ⟨_,hp⟩
 have hDa:DD<a:=jv DD ⟨_,h1⟩
 show jMr (q _ ((KP.kw kp).trans kw) ⟨hs++[a],m',?_,?_,?_,fun b hb=> ?_⟩)
 .have:((hs.map Value.ref).toArray.push (.ref a))=((hs++[a]).map Value.ref).toArray:=by simp
  rw[this] at hp
  exact hp
 .show LL.snoc (m:=m) ?_ hr (sf.keep fun b hb o e=> ?_)
  .show(?_:h'.get? a=_)
   rw[ml.2 a (jPs hDa)];exact ho
  .show(?_:h'.get? b=_)
   rw[ml.2 b (jPs (al b hb).1)];exact e
 .show List.pairwise_append.mpr ⟨pw,jRd _ _,fun b hb c hc=> ?_⟩
  rw[jw.mp hc]
  exact jv b (ll.ex b hb)
 .rcases jj.mp hb with hb|hb
  .exact al b hb
  .rw[jw.mp hb]
   exact⟨hDa,fun hm=>jNp _ (jv _ (p.hYs _ hm))⟩
noncomputable def fu:D->Option D
 | .list ds=>if (strs? ds).isSome/\ds.length<=lim then some (.list ds) else none
 |_=>none
noncomputable def t6:D->Option D
 | .str x=>some (.list [.str x])
 |_=>none
variable{jM:Scope}{e:Expr}{g:Comprehension}{gs:List Comprehension}{yj:Sem Value}{qK:Loc->Option D}{its out:List D}{d dd:D}{o0:Obj}{gu:Addr->List Addr->Heap->List D->Prop}{emit:Addr->Env->Sem Unit}
theorem jGs(S:SE C n r){ce:Env}{p1 p2:Pos}(hk:ce.kindOf "list"=some .globalImplicit)(xR:isStarred e=false):gC C n k A ce (.Call (.Name "list" p1) [e] [] p2) (fun l'=>(r.E k ce.scope l' e).bind fu):=by
 intro Y l d s Q hd p q
 show bE hd fun x h1 h2=> ?_
 induction x using cD with
 |list ds=>
  have h2:(if (strs? ds).isSome/\ds.length<=lim then some (D.list ds) else none)=some d:=h2
  revert h2;show vS fun hc h2=> ?_
  .replace h2:=jX h2;subst h2
   obtain⟨xs,aq⟩:=jM4.mp hc.1
   show jOw rfl (qi (v:= .type "list") p hk kD jBx kD ?_)
   rw[jI xR]
   show jPm (by rfl) (jNg (jNf (S.at p h1 fun v s1 k1 p1 r1=>jN3 ?_)))
   show ja r1.list_inv ?_;rintro a vs m rfl ho rs
   show call_list_seq a (T:="list") (.inl rfl) (jG ho).1 rfl rfl (fun h' c' k8 hn=> ?_) (by simp only[List.size_toArray,rs.length];exact sz hc.2)
   have kk:KP C s1 { s1 with heap:=h' }:=KP.of nL k8
   show q _ vs c' ds _ (k1.trans kk) rfl (fun b ⟨o,hb⟩=> ?_) hn (dT rs aq)
   obtain⟨o',pL⟩:=k1.some p.gr.tab ⟨o,hb⟩
   exact jM1 pL
 |_=>cases h2
theorem fresh_one(S:SE C n r){ce:Env}{p1:Pos}(xR:isStarred e=false):gC C n k A ce (.List [e] p1) (fun l'=>(r.E k ce.scope l' e).bind t6):=by
 intro Y l d s Q hd p q
 show bE hd fun x h1 h2=> ?_
 induction x using cD with
 |str x=>
  replace h2:=jX h2;subst h2
  show uq xR (S.at p h1 fun v s1 k1 p1 r1=> ?_)
  obtain⟨t,rfl⟩:=r1.str_inv
  have kk:KP C s1 { s1 with heap:=s1.heap.push (j4 [.str x t] 0) }:=KP.push (tk:=s1.toks) nL
  show q _ [.str x t] 0 [.str x] _ (k1.trans kk) rfl (fun b ⟨o,hb⟩=> ?_) (jMw _ rfl) (.cons (.str x t) .nil)
  obtain⟨o',pL⟩:=k1.some p.gr.tab ⟨o,hb⟩
  exact jM1 pL
 |_=>cases h2
theorem jG1{pos:Pos}{use:Option (Value->Sem Unit)}{Q:qN}(S:SE C n r)(a1:y0 (n+1) A)(K:u7 C n k A env.scope jM e (g::gs) yj qK out dd o0 gu emit)(p:Pre C n k A env Y l s)
  (h1:r.E k env.scope l g.iter=some d) (h2:ji d=some its) (ok:jk env.scope jM (g::gs)=true) (h:comp r k (jO env.scope jM) qK (g::gs) (jF jM l) its=some out) (hlen:out.length<=lim)
  (q:∀DD L s',KP C s s'->s.heap.get? L=none->¬jq C s'.heap L->(∃m,s'.heap.Ns L m)->(∀a,DD<=a->s.heap.get? a=none)->DD∉L::Y->gu DD (L::Y) s'.heap out->compPost C.M A NE use Q (.ref DD) L (.ok .next) s'):
  wpAny C.M A (comprehension e jM env pos yj false (eval g.iter env) use) Q NE s:=by
 have oc:=bc ok
 show wpAny_comprehension_free (g:=g) (gs:=gs) K.cl (wR (oc.set g jy) env) (zT fun q hq hf=>p.eo.cells q.1 (oc.free q hq hf)) oc.kind (fun x hx hl=>xV oc.nodup (hl▸hx)) ?_
 show S.at p h1 fun v s1 zU p1 rv=> ?_
 show yr p1.a.handled p1.lt rv h2 fun h' hk it=> ?_
 show K.new _ _ ?_
 show jE it.obj fun oi oT _=> ?_
 have jv:s1.heap.objs.size<h'.objs.size:=jM1 oT
 have hn:s1.heap.get? s1.heap.objs.size=none:=qy _
 have cW:h'.get? h'.objs.size=none:=qy _
 have hD:s1.heap.get? h'.objs.size=none:=none_of fun⟨o,e⟩=>by rw[hk _ o e] at cW;cases cW
 have so:gm C A (h'.objs.size::s1.heap.objs.size::Y) s1.heap.objs.size its (h'.push o0):=it.more (Z:=[h'.objs.size]) (m1 cW) fun b o e=>vK _ e
 have oD:(h'.push o0).get? h'.objs.size=some o0:=jMw _ K.live
 show jEm (DD:=h'.objs.size) (I:=s1.heap.objs.size) (Acc:=gu h'.objs.size) S a1 oc (K.is h'.objs.size) (K.acc _) (fun ce qE=>K.em _ ce qE) p1 (fun b o e=>vK _ (hk b o e)) hn hD (jN5 jv) ⟨_,oD⟩ so (K.nil _ _ _ oD) h hlen fun L h4 tk s' Z ht k4 kl hZ hL fC hLD hns tq=> ?_
 have kp:KP C s s':=kpNew zU p.gr.tab ht k4 kl hn hZ hL fC (jSn ..)
 have hDY:h'.objs.size∉L::Y:=fun hm=>by
  rcases j0.mp hm with e|hm
  .exact hLD e.symm
  .obtain⟨o,e⟩:=p1.hYs _ hm;rw[hD] at e;exact zn e
 have hLs:s.heap.get? L=none:=none_of fun ho=>by
  obtain⟨o,e⟩:=zU.some p.gr.tab ho
  rw[hL] at e;exact zn e
 show q _ L s' kp hLs fC hns (fun a ha=>none_of fun ho=> ?_) hDY tq
 obtain⟨o,e⟩:=zU.some p.gr.tab ho
 exact absurd (jM1 (hk a o e)) (jN9.mpr ha)
theorem RP.rs{H:HV}{vs:List Value}{ds:List D}(h:RP C vs ds):Rs C.prog C.w H vs ds:=Rs.mono (fun a o e=>by exact zn e) h
theorem LL.rs{h:Heap}{hs:List Addr}{a0:List D}(l:LL C h hs a0):(∀a∈hs,a∉Y)->qM C h Y (hs.map .ref) a0:=by
 induction l with
 |nil=>exact fun _=> .nil
 |cons e r t ih=>exact fun k=> .cons (.list (jT e (k _ jy)) (RP.rs r)) (ih fun a ha=>k a (qV _ ha))
theorem jGt{elt:Expr}{pos:Pos}{Q:qN}(S:SE C n r)(a1:y0 (n+1) A)(F:∀ce,ce.scope=jO env.scope jM->gC C n k A ce elt qK)(p:Pre C n k A env Y l s)
  (h1:r.E k env.scope l g.iter=some d) (h2:ji d=some its) (ok:jk env.scope jM (g::gs)=true) (h:comp r k (jO env.scope jM) qK (g::gs) (jF jM l) its=some out) (hlen:out.length<=lim)
  (q:∀DD hs m s',KP C s s'->s'.heap.get? DD=some (j4 (hs.map .ref) m)->LL C s'.heap hs out->(∀a∈DD::hs,s.heap.get? a=none)->(DD::hs).Pairwise (·<·)->Q (.ref DD) s'):
  wpAny C.M A (eval (.ListComp elt (g::gs) jM pos) env) Q NE s:=by
 have oc:=bc ok
 have h0:g.is_async=0:=oc.sync g jy
 rw[arm_eval_ListComp]
 show(?_:wpAny C.M A (comprehension (.ListComp elt (g::gs) jM pos) jM env (firstIterPos (g::gs) pos) (newList []) (firstAsync (g::gs)) (firstIter (g::gs) env)) Q NE s)
 have nQ:firstAsync (g::gs)=false:=by cases g;simp only at h0;subst h0;rfl
 have nO:firstIter (g::gs) env=eval g.iter env:=by cases g;rfl
 rw[nQ,nO]
 have K:u7 C n k A env.scope jM (.ListComp elt (g::gs) jM pos) (g::gs) (newList []) qK out (.list out) (j4 [] 0) (mc C)
  (fun DD ce=>do let _<-call (.builtin "list.append") [.ref DD,<-eval elt ce]):=
  { cl:=rfl
    is:=fun DD=>jA6 fun g hg=>oc.sync g hg
    acc:=fun DD=>accFr DD
    em:=fun DD ce qE=>emitFr (F ce qE)
    new:=fun s Q h=>wpAny_newList h
    live:=rfl
    nil:=fun h Y DD ho=>⟨[],0,ho,.nil,.nil,fun a ha=>nomatch ha⟩
    fin:=fun h Y DD ⟨hs,m,ho,ll,pw,al⟩ hY _=> .list (jT ho hY) (ll.rs fun a ha=>(al a ha).2) }
 show jG1 (use:=none) S a1 K p h1 h2 ok h hlen fun DD L s' kp hL fC hns fe hDY tq=> ?_
 obtain⟨mm,hns⟩:=hns
 show uW tq fun hs m ho ll pw al=> ?_;clear tq
 show⟨mm,hns,fun h5 ml=> ?_⟩
 have hDL:DD≠L:=fun e=>hDY (e▸jy)
 show q DD hs m _ (kp.newOff p.gr.tab hL fC ml) ?_ (ll.keep fun a ha o e=> ?_) (fun a ha=> ?_) (jOa.mpr ⟨fun a ha=>(al a ha).1,pw⟩)
 .show(?_:h5.get? DD=_)
  rw[ml.2 DD hDL];exact ho
 .show(?_:h5.get? a=_)
  rw[ml.2 a fun e=>(al a ha).2 (e▸jy)];exact e
 .rcases j0.mp ha with e0|ha
  .rw[e0];exact fe _ nL
  .exact fe _ (jPt (al a ha).1)
end
section
variable{C:Cx}{n:Nat}{r:Ev}{k:Bool}{A:Around}{env:Env}{Y W:List Addr}{OL:yR}{l:jN}{s s' k7 s1:Shared}
theorem jL4{a:Addr}{c x:Str}{ds:List D}{vs:List Value}{m:Nat}{Q:wc}{p1 p2 p3 p4 p5 p6 p7 p8 p9 ba:Pos}(fs:FS C n k A env Y OL l s)(a1:y0 (n+1) A)(ng:l "seq"=some (.val (.opq (.ref a))))(mX:l "candidate"=some (.val (.str c)))
  (bT:a∈Y) (lN:env.locals≠a) (tq:∀p∈env.cells,p.2≠a) (fi:a≠C.P) (ho:s.heap.get? a=some (j4 vs m)) (hr:RP C vs (.str x::ds)) (hlen:ds.length+1<=lim)
  (q:∀s' vT m',KW C (·=a) s s'->FS C n k A env Y OL l s'->s'.heap.get? a=some (j4 vT m')->RP C vT (if x=c then ds else .str x::ds)->Q .next s'):
  wpAny C.M A (exec (.If (.Compare (.Subscript (.Name "seq" p1) (.Constant (.int 0) 0 p2) p3) [.Eq] [.Name "candidate" p4] p5) [.Delete [.Subscript (.Name "seq" p6) (.Constant (.int 0) 0 p7) p8] p9] [] ba) env) Q NE s:=by
 have bq:view s.heap [] a=some (j4 vs m):=jT ho (by simp)
 have hRD:RD C s.heap [] (.ref a) (.list (.str x::ds)):= .list bq (RP.rs hr)
 show wpAny_If (jRt (Subscript_ (yN fs ng kD kD fun v rv=>tQ (C:=C) (Y:=[]) fun i s1 k1 r1=> ?_)) (by rfl))
 have e1:=_m.R.opq_inv rv
 subst e1
 have tT:=k1.heap fi ho
 have hRD1:RD C s1.heap [] (.ref a) (.list (.str x::ds)):= .list (jT tT (by simp)) (RP.rs hr)
 show jBt (C:=C) (Y:=[]) (a:= .list (.str x::ds)) (b:= .int 0) (d:= .str x) (by
  show(?_:(if (D.str x::ds).length<=lim then (idx? 0 (D.str x::ds).length).bind ((D.str x::ds)[·]?) else none)=some (.str x))
  rw[jMt (by exact hlen)]
  have:idx? 0 (D.str x::ds).length=some 0:=by unfold idx?;simp
  rw[this];rfl) hRD1 r1 fun v2 s2 k2 r2=> ?_
 obtain⟨t2,rfl⟩:=r2.str_inv
 have xd:=(fs.kp k1).kp k2
 show yN xd mX kD kD fun v3 r3=> ?_
 obtain⟨t3,rfl⟩:=r3.str_inv
 show PyProof.Rows.eq_str (jOs ?_)
 have oE:=k2.heap fi tT
 have yb:=k1.trans k2
 by_cases hxc:x=c
 .rw[jMt hxc] at q
  rw[show (x==c)=true by simpa using hxc]
  simp only[if_true]
  show jM0 (wpAny_Delete (wpAny_deleteEach_cons (wpAny_delete_Subscript (yN xd ng kD kD fun v4 r4=>tQ (C:=C) (Y:=[]) fun i5 s5 k5 r5=> ?_))))
  have e4:=_m.R.opq_inv r4
  subst e4
  obtain⟨t5,rfl⟩:=r5.int_inv
  have ho5:=k5.heap fi oE
  have oG:=xd.kp k5
  match vs,hr with
  |v0::ws,.cons h0 eB=>
  have hwl:ws.length=ds.length:=eB.length
  have jh:lim=1000000:=rfl
  show wpAny_delItem_plain (items:=(v0::ws).toArray) (k:=0) ⟨m,ho5⟩ kD (by unfold seqIndex?;simp) (fun h' hp hs=> ?_) (x8 (by simp;lia:(v0::ws).toArray.size<=1000000) kD)
  obtain⟨m',hp⟩:=hp
  have ia:¬jq C s5.heap a:=fun hc=>by
   obtain⟨ps,h1,h2,h3⟩:=oG.pre.gr.tab
   show qA hc fun tf pos g1 g2=> ?_;clear hc
   rw[h1] at g1;cases g1
   show oN (h3 pos _ g2) fun cc oc wss t oj tm aF _=> ?_
   cases oj
   rw[ho5] at tm;replace tm:=jX tm;subst tm;cases aF
  have kw:KW C (·=a) s5 { s5 with heap:=h' }:=KW.one (tk:=s5.toks) nL rfl fi ia (fun b o hb e=>by rw[hs.2 b hb];exact e) ⟨_,hp⟩
  have mu:=oG.out kw (fun b hb=>hb▸bT) lN tq
  show wpAny_deleteEach_nil (jNj (q _ ws m' ((KP.kw (yb.trans k5)).trans kw) mu ?_ eB))
  have e6:(v0::ws).toArray.eraseIdxIfInBounds 0=ws.toArray:=by simp
  rw[e6] at hp
  exact hp
 .rw[jMv hxc] at q
  rw[show (x==c)=false by simpa using hxc]
  simp only[Bool.false_eq_true,if_false]
  exact jNj (q _ vs m yb.kw xd oE hr)
def CT(C:Cx)(H:List Addr)(h:Heap)(cur:Addr->List Str):Prop:=∀a∈H,∃vs m,h.get? a=some (j4 vs m)/\RP C vs ((cur a).map .str)
noncomputable def xr(c:Str)(l:List Addr)(cur:Addr->List Str):Addr->List Str:=fun a=>if a∈l/\(cur a).head? =some c then (cur a).tail else cur a
noncomputable abbrev xe(hs:List Addr):List D:=hs.map fun a=> .opq (.ref a)
variable{H:List Addr}
theorem CT.kw{Z:Addr->Prop}{cur:Addr->List Str}(x:CT C H s.heap cur)(kw:KW C Z s s')(hP:∀a∈H,a≠C.P)(hZ:∀a∈H,¬Z a):CT C H s'.heap cur:=fun a ha=>by
 show qA (x a ha) fun vs m e rr=> ?_
 exact dA vs m (kw.heap (hP a ha) (hZ a ha) e) rr
theorem jGw{c:Str}{hs:List Addr}{cur:Addr->List Str}{j:Nat}{a:Addr}(gk:hs.Nodup)(hj:hs[j]? =some a):
  xr c (hs.take (j+1)) cur=fun b=>if b=a then (if (cur a).head? =some c then (cur a).tail else cur a) else xr c (hs.take j) cur b:=by
 have jv:j<hs.length:=(jPw.mp hj).1
 have hga:hs[j]=a:=(jPw.mp hj).2
 have xx:∀b,b∈hs.take (j+1)↔b∈hs.take j\/b=a:=fun b=>by
  rw[List.take_succ,hj];simp
 funext b
 unfold xr
 by_cases hb:b=a
 .subst hb
  have:b∈hs.take (j+1):=(xx b).mpr (.inr rfl)
  simp[this]
 .rw[jMv hb]
  have:b∈hs.take (j+1)↔b∈hs.take j:=by rw[xx];simp[hb]
  simp only[this]
theorem jC2{c:Str}{hs:List Addr}{cur:Addr->List Str}{a:Addr}(h:a∉hs):xr c hs cur a=cur a:=by
 unfold xr;rw[if_neg];exact fun h'=>h h'.1
structure DInv(C:Cx)(n:Nat)(k:Bool)(A:Around)(env:Env)(Yl H:List Addr)(OL:yR)(I0:Addr)(l:jN)(c:Str)(hs:List Addr)(cur:Addr->List Str)(pe:Pos)(s:Shared)(m:Nat)(s1:Shared):Prop where
 ex:∃j l',j+m=hs.length/\FS C n k A env ([I0]++Yl) OL l' s1/\(∀x:Str,x≠"seq"->l' x=l x)/\CT C H s1.heap (xr c (hs.take j) cur)/\SrcR C A (.Name "seq" pe) (qQ OL++([I0]++Yl)) I0 [I0] (xe (hs.drop j)) s1.heap/\
  KW C (fun b=>b=I0\/ZO OL env b\/b∈H) s s1
theorem jL5{I0:Addr}{c:Str}{hs Yl:List Addr}{cur:Addr->List Str}{pe p1 p2 p3 p4 p5 p6 p7 p8 p9 ba:Pos}{R:Result->Shared->Prop}(fs:FS C n k A env ([I0]++Yl) OL l s)(a1:y0 (n+1) A)(hseqk:env.kindOf "seq"=some .local)(mX:l "candidate"=some (.val (.str c)))
  (hH:∀a∈hs,a∈H) (pP:∀a∈H,a∈Yl) (hHW:∀a∈H,a∉qQ OL++jB env) (hHc:∀p∈env.cells,p.2∉H) (fD:∀a∈H,a≠C.P) (gk:hs.Nodup) (hIn:I0∉Yl) (hP:C.P∈Yl) (hc:∀p∈env.cells,p.2∈Yl) (wY:∀a∈jB env,a∈Yl) (oI:Own C [I0] s.heap)
  (je:∀a∈hs,cur a≠[]) (hlen:∀a∈hs,(cur a).length<=lim) (ct:CT C H s.heap cur) (src:SrcR C A (.Name "seq" pe) (qQ OL++([I0]++Yl)) I0 [I0] (xe hs) s.heap)
  (q:∀s1 s2 l',KW C (fun b=>b=I0\/ZO OL env b\/b∈H) s s1->KJ C [I0] s1 s2->FS C n k A env Yl OL l' s2->(∀x:Str,x≠"seq"->l' x=l x)->CT C H s2.heap (xr c hs cur)->R (.ok .next) s2):
  codeAny C.M A (.forLoop (.Name "seq" pe) (.ref I0) [.If (.Compare (.Subscript (.Name "seq" p1) (.Constant (.int 0) 0 p2) p3) [.Eq] [.Name "candidate" p4] p5) [.Delete [.Subscript (.Name "seq" p6) (.Constant (.int 0) 0 p7) p8] p9] [] ba] [] env) R s:=by
 show jR3 (DInv C n k A env Yl H OL I0 l c hs cur pe s) ?_ hs.length ⟨0,l,by simp,fs,fun _ _=>rfl,fun a ha=>by rw[jC2 (by simp)];exact ct a ha,by exact src,KW.refl s⟩
 intro m s1 gO
 obtain⟨j,l1,hm,qF,oU,mx,uD,gj⟩:=gO
 have t0:=fs.pre.gr.tab
 have pO:I0≠C.P:=oI.ne I0 yS
 have tW:I0≠env.locals:=fun e=>hIn (e▸wY _ jy)
 have hIc:∀p∈env.cells,¬p.2=I0:=fun p hp e=>hIn (e▸hc p hp)
 have pA:∀b∈[I0],b∈qQ OL++([I0]++Yl):=fun b hb=>ju _ (xP _ hb)
 have pD:Own C [I0] s1.heap:=oI.kw t0 gj
 have hIO:¬ZO OL env I0:=fun hz=>by
  rcases jj.mp hz with h|h
  .show lE h fun p hp e=> ?_
   exact fs.nY p hp (by rw[e];simp)
  .exact hIn (wY _ h)
 have hIH:I0∉H:=fun h=>hIn (pP _ h)
 have nE:∀{α:Type} {t:Sem α} {Q:α->Shared->Prop} {s:Shared},wpAny C.M A t Q NE s->wpAny C.M A t Q (notedBy C.M A env fun e s'=>R (.error e) s') s:=fun h=>ne h
 generalize hd:hs.drop j=x0;induction x0 using cL with
 |nil=>
  rw[hd] at uD
  show nE (uD.done fun h' tk ht hk=> ?_)
  have kj:KJ C [I0] s1 { s1 with heap:=h',toks:=tk }:=KJ.of ht pD.ne pD.code hk
  have hj:hs.length<=j:=jRy.mp hd
  show jNj (q s1 _ l1 gj kj (qF.lastJ kj (m1 hIn) hP hc wY) oU fun a ha=> ?_)
  rw[jOi hj] at mx
  show qA (mx a ha) fun vs m' e rr=> ?_
  exact dA vs m' (kj.heap (fun hm=>by replace hm:=jw.mp hm;exact hIH (hm▸ha)) e) rr
 |cons a as=>
  rw[hd] at uD
  have jv:j<hs.length:=by
   rcases jSh j hs.length with h|h
   .exact h
   .rw[jPi h] at hd;cases hd
  have eI:hs[j]? =some a:=by
   have:=jQ1 jv
   rw[hd] at this
   injection this with h1 h2
   rw[h1];simp[jv]
  have vF:hs.drop (j+1)=as:=by
   have:=jQ1 jv
   rw[hd] at this
   injection this with h1 h2
   exact h2.symm
  have has:a∈hs:=jNw eI
  have cQ:=hH a has
  have src1':SrcR C A (.Name "seq" pe) (qQ OL++([I0]++Yl)) I0 [I0] (.opq (.ref a)::xe as) s1.heap:=uD
  show nE (jNh (src1'.next pA qF.pre.hYs (Q:=fun v s2=>wpAny C.M A (assign (.Name "seq" pe) env v) (fun _ s₂=>wpAny C.M A (execs [.If (.Compare (.Subscript (.Name "seq" p1) (.Constant (.int 0) 0 p2) p3) [.Eq] [.Name "candidate" p4] p5) [.Delete [.Subscript (.Name "seq" p6) (.Constant (.int 0) 0 p7) p8] p9] [] ba] env) (fun ff s₃=>match ff with
      | .next| .cont=>∃m',m'<m/\DInv C n k A env Yl H OL I0 l c hs cur pe s m' s₃
      | .brk=>R (.ok .next) s₃
      | .ret v=>R (.ok (.ret v)) s₃) (notedBy C.M A env fun e s'=>R (.error e) s') s₂) (notedBy C.M A env fun e s'=>R (.error e) s') s2) ?_) ?_ fun _ _ x=>x)
  .intro v h' tk ht hk lH pX hv
   have du:=_m.R.opq_inv hv
   subst du
   have vR:KW C (·=I0) s1 { s1 with heap:=h',toks:=tk }:=KW.one ht rfl pO (pD.code I0 yS) (fun b o hb e=>hk b o (by simpa using hb) e) (lH I0 yS)
   have xd:=qF.out vR (fun b hb=>by rw[hb];simp) (fun e=>tW e.symm) hIc
   show nE (jNt (xd.assign (.inl hseqk) (d:= .opq (.ref a)) (.opq _) fun s3 wZ yM=> ?_))
   have cZ:CT C H s3.heap (xr c (hs.take j) cur):=(mx.kw vR fD fun b hb e=>hIH (e▸hb)).kw wZ fD fun b hb hz=>hHW b hb hz
   have pW:SrcR C A (.Name "seq" pe) (qQ OL++([I0]++Yl)) I0 [I0] (xe as) s3.heap:=pX.more (Zs:=[]) (fun b hb=>by cases hb) (fun b hb=> .inr hb) fun b o hb e=>by
    show wZ.heap (fun e'=> ?_) (fun hz=> ?_) e
    .rcases hb with hb|hb
     .exact pD.ne b hb e'
     .exact hb (e'▸qF.pre.hP)
    .rcases hb with hb|hb
     .exact hIO (jw.mp hb▸hz)
     .exact hb (ZO.sub qF.wY hz)
   show qA (cZ a cQ) fun vs mm ho hr=> ?_
   have hcur:xr c (hs.take j) cur a=cur a:=jC2 fun hm=>by
    have hnd':(hs.take j++a::as).Nodup:=by rw[<-hd,List.take_append_drop];exact gk
    exact(jN1.mp hnd').2.2 a hm a jy rfl
   rw[hcur] at hr
   generalize eN:cur a=x0;induction x0 using cL with
   |nil=>exact absurd eN (je a has)
   |cons x xs=>
   rw[eN] at hr
   have hl3c:jA l1 "seq" (.val (.opq (.ref a))) "candidate"=some (.val (.str c)):=by
    unfold jA;rw[if_neg kD,oU _ kD];exact mX
   have hl3s:jA l1 "seq" (.val (.opq (.ref a))) "seq"=some (.val (.opq (.ref a))):=by
    unfold jA;rw[if_pos rfl]
   have bT:a∈[I0]++Yl:=ju _ (pP a cQ)
   show jM0 (nE (jL4 (ds:=xs.map .str) yM a1 hl3s hl3c bT (fun e=>hHW a cQ (e▸ju _ jy)) (fun p hp e=>hHc p hp (e▸cQ)) (fD a cQ) ho (by exact hr) (by have:=hlen a has;rw[eN] at this;simpa using this) fun s4 vT m' zM zC ho4 eA=> ?_))
   have hIa:I0≠a:=fun e=>hIH (e▸cQ)
   have c7:SrcR C A (.Name "seq" pe) (qQ OL++([I0]++Yl)) I0 [I0] (xe as) s4.heap:=pW.more (Zs:=[]) (fun b hb=>by cases hb) (fun b hb=> .inr hb) fun b o hb e=>by
    show zM.heap (fun e'=> ?_) (fun hz=> ?_) e
    .rcases hb with hb|hb
     .exact pD.ne b hb e'
     .exact hb (e'▸qF.pre.hP)
    .rcases hb with hb|hb
     .replace hb:=jw.mp hb;exact hIa (hb.symm.trans hz)
     .exact hb (ju _ (hz▸bT))
   show jNj ⟨m - 1,by lia,j+1,_,by lia,zC,fun y hy=> ?_,fun b hb=> ?_,by rw[vF];exact c7,?_⟩
   .unfold jA;rw[if_neg hy];exact oU y hy
   .rw[jGw gk eI]
    by_cases pK:b=a
    .subst pK
     show dA vT m' ho4 ?_
     dsimp only
     rw[jMt rfl,eN]
     by_cases hxc:x=c
     .rw[jMt hxc] at eA
      rw[jMt (by rw[hxc];rfl)]
      exact eA
     .rw[jMv hxc] at eA
      rw[jMv (by simpa using hxc)]
      exact eA
    .show qA (cZ b hb) fun ws m2 e2 r2=> ?_
     show dA ws m2 (zM.heap (fD b hb) pK e2) ?_
     dsimp only
     rw[jMv pK];exact r2
   .exact gj.trans ((vR.mono fun b hb=>jQt hb).trans ((wZ.mono fun b hb=>jQs (jQt hb)).trans (zM.mono fun b hb=>jQs (jQs (hb▸cQ)))))
  .intro rr s2 gO
   show jE gO ?_;clear gO;rintro v rfl hh
   exact nE hh
noncomputable abbrev qJ(hs:List Addr)(cur:Addr->List Str):List D:=hs.map fun a=> .lref a ((cur a).map .str)
noncomputable def uB(hs:List Addr)(cur:Addr->List Str)(xs:List Str):jN:=fun y=>if y="sequences" then some (.val (.list (qJ hs cur))) else if y="result" then some (.own (xs.map .str)) else none
noncomputable def tX(hs:List Addr)(xs:List Str):jN:=fun y=>if y="sequences" then some (.val (.list (xe hs))) else if y="result" then some (.own (xs.map .str)) else none
noncomputable def aP(hs:List Addr)(xs:List Str)(c:Str):jN:=fun y=>if y="candidate" then some (.val (.str c)) else tX hs xs y
theorem jKx{Hv:HV}{hs:List Addr}:∀{vs:List Value},Rs C.prog C.w Hv vs (xe hs)->vs=hs.map .ref:=by
 induction hs with
 |nil=>exact fun h=>h.un0
 |cons a hs ih=>
  intro vs h
  show yz h.un ?_;rintro x xs rfl h r
  rw[_m.R.opq_inv h,ih r];rfl
theorem jI1{Hv:HV}{cur:Addr->List Str}{hs:List Addr}:∀{vs:List Value},Rs C.prog C.w Hv vs (qJ hs cur)->vs=hs.map .ref:=by
 induction hs with
 |nil=>exact fun h=>h.un0
 |cons a hs ih=>
  intro vs h
  show yz h.un ?_;rintro x xs rfl h r
  show yz (_m.R.inv h) ?_;rintro _ _ rfl _ _
  rw[ih r];rfl
theorem jHn{Hv:HV}(hs:List Addr):Rs C.prog C.w Hv (hs.map .ref) (xe hs):=by
 induction hs with
 |nil=>exact .nil
 |cons a hs ih=>exact .cons (.opq _) ih
theorem strs_map(xs:List Str):strs? (xs.map D.str)=some xs:=by
 induction xs with
 |nil=>rfl
 |cons x xs ih=>show(?_:(strs? (xs.map D.str)).map (x::·)=_);rw[ih];rfl
theorem jLb{h:Heap}{Yv:List Addr}{cur:Addr->List Str}(ct:CT C H h cur)(hn:∀a∈H,a∉Yv)(hs:List Addr):(∀a∈hs,a∈H)->qM C h Yv (hs.map .ref) (qJ hs cur):=by
 induction hs with
 |nil=>exact fun _=> .nil
 |cons a hs ih=>
  intro hH
  show qA (ct a (hH a jy)) fun vs m e rr=> ?_
  exact .cons (.lref (jT e (hn a (hH a jy))) (RP.rs rr)) (ih fun b hb=>hH b (qV _ hb))
theorem show_fs{Yf hs:List Addr}{cur:Addr->List Str}{xs:List Str}(fs:FS C n k A env (H++Yf) OL (tX hs xs) s)(ct:CT C H s.heap cur)(hH:∀a∈hs,a∈H)(hn:∀a∈H,a∉qQ OL++Yf)(hP:C.P∈Yf)(cY:∀p∈env.cells,p.2∈Yf)(wY:∀a∈jB env,a∈Yf):FS C n k A env Yf OL (uB hs cur xs) s:=by
 have jx:∀a∈qQ OL++Yf,a∈qQ OL++(H++Yf):=fun a ha=>by
  simp only[List.mem_append] at ha ⊢
  rcases ha with h|h
  .exact .inl h
  .exact .inr (.inr h)
 show⟨⟨fs.pre.bs,fs.pre.a,fs.pre.eo,fs.pre.gr,ju _ hP,fun a ha=>fs.pre.hY a (jx a ha),fun a ha=>fs.pre.hYs a (jx a ha),fs.pre.fm,fun p hp=>ju _ (cY p hp),fun y d hy=> ?_⟩,hP,cY,fs.own,wY,fun p hp hm=>fs.nY p hp (ju _ hm),fs.ap,fs.cw,fun y ds hy=> ?_⟩
 .unfold j3 uB at hy
  by_cases e1:y="sequences"
  .subst e1
   simp at hy
   subst hy
   show jE (fs.pre.loc "sequences" (.list (xe hs)) (by unfold j3 tX;rw[if_pos rfl])) fun v hv rv=> ?_
   show ja rv.list_inv ?_;rintro S vs m rfl ho rs
   have aw:=jKx rs
   subst aw
   obtain⟨tT,oE⟩:=jG ho
   exact⟨_,hv,.list (jT tT fun hm=>oE (jx _ hm)) (jLb ct hn hs hH)⟩
  .rw[jMv e1] at hy
   by_cases e2:y="result"
   .rw[jMt e2] at hy;exact zn hy
   .rw[jMv e2] at hy;exact zn hy
 .unfold uB at hy
  by_cases e1:y="sequences"
  .rw[jMt e1] at hy;cases hy
  .rw[jMv e1] at hy
   show yy (fs.lst y ds (by unfold tX;rw[if_neg e1];exact hy)) fun a vs m g1 g2 g3 g4=> ?_
   exact vO a vs m g1 g2 g3 (Rs.mono (j9 jx) g4)
theorem hide_fs{Yf hs:List Addr}{cur cur':Addr->List Str}{xs:List Str}{c:Str}(fs:FS C n k A env Yf OL l s)(ct:CT C H s.heap cur)(h1:l "sequences"=some (.val (.list (qJ hs cur'))))(h2:l "result"=some (.own (xs.map .str)))(h3:l "candidate"=some (.val (.str c)))
  (je:hs≠[]) (hn:∀a∈H,a∉qQ OL++Yf) (hg:∀a∈H,C.g0.get? a=none):FS C n k A env (H++Yf) OL (aP hs xs c) s:=by
 have xx:∀a,a∈qQ OL++(H++Yf)↔a∈H\/a∈qQ OL++Yf:=fun a=>by
  simp only[List.mem_append]
  constructor
  .rintro (h|h|h)
   .exact .inr (.inl h)
   .exact .inl h
   .exact .inr (.inr h)
  .rintro (h|h|h)
   .exact .inr (.inl h)
   .exact .inl h
   .exact .inr (.inr h)
 show⟨⟨fs.pre.bs,fs.pre.a,fs.pre.eo,fs.pre.gr,(xx _).mpr (.inr fs.pre.hP),fun a ha=> ?_,fun a ha=> ?_,fs.pre.fm,fun p hp=>(xx _).mpr (.inr (fs.pre.hc p hp)),fun y d hy=> ?_⟩,ju _ fs.hP,fun p hp=>ju _ (fs.cY p hp),fs.own,fun a ha=>ju _ (fs.wY a ha),fun p hp hm=> ?_,fs.ap,fs.cw,fun y ds hy=> ?_⟩
 .exact((xx a).mp ha).elim (hg a) (fs.pre.hY a)
 .show((xx a).mp ha).elim (fun h=> ?_) (fs.pre.hYs a)
  show qA (ct a h) fun vs m e _=> ?_
  exact⟨_,e⟩
 .unfold j3 aP tX at hy
  by_cases e0:y="candidate"
  .subst e0
   simp at hy
   subst hy
   show jE (fs.pre.loc "candidate" (.str c) (by unfold j3;rw[h3])) fun v hv rv=> ?_
   obtain⟨t,rfl⟩:=rv.str_inv
   exact⟨_,hv,.str c t⟩
  .rw[jMv e0] at hy
   by_cases e1:y="sequences"
   .subst e1
    simp at hy
    subst hy
    show jE (fs.pre.loc "sequences" _ (by unfold j3;rw[h1])) fun v hv rv=> ?_
    show ja rv.list_inv ?_;rintro S vs m rfl ho rs
    have aw:=jI1 rs
    subst aw
    obtain⟨tT,oE⟩:=jG ho
    show⟨_,hv,.list (jT tT fun hm=> ?_) (jHn hs)⟩
    rcases (xx S).mp hm with hm|hm
    .show qA (ct S hm) fun ws m2 e rr=> ?_
     rw[tT] at e
     simp only[j4,Option.some.injEq,Obj.mk.injEq,Data.seq.injEq] at e
     have ew:hs.map Value.ref=ws:=by exact jM8 Array.toList e.2.2.1.1
     subst ew
     match hs,je,rr with
     |a::wD,_,rr=>
      match hc:(cur S),rr with
      |[],rr=>cases rr
      |x::_,.cons h _=>cases h
    .exact oE hm
   .rw[jMv e1] at hy
    by_cases e2:y="result"
    .rw[jMt e2] at hy;exact zn hy
    .rw[jMv e2] at hy;exact zn hy
 .rcases jj.mp hm with hm|hm
  .exact hn _ hm (xP _ (jMs (f:=(·.2)) hp))
  .exact fs.nY p hp hm
 .unfold aP tX at hy
  by_cases e0:y="candidate"
  .rw[jMt e0] at hy;cases hy
  .rw[jMv e0] at hy
   by_cases e1:y="sequences"
   .rw[jMt e1] at hy;cases hy
   .rw[jMv e1] at hy
    by_cases e2:y="result"
    .subst e2
     simp at hy
     subst hy
     show yy (fs.lst "result" _ h2) fun a vs m g1 g2 g3 g4=> ?_
     exact vO a vs m g1 g2 g3 (RP.rs (dT g4 (strs_map xs)))
    .rw[jMv e2] at hy;exact zn hy
variable{l':jN}
set_option tactic.hygienic true in
theorem uQ(S:SS C n r)(rest:List Stmt)(ss:List Stmt):∀(OL:yR) (l l':jN) (f:Fl) (s:Shared) (Q:wc) (E:qN),FS C n k A env Y OL l s->qd r k env.scope l ss=some (f,l')->
  y8 C n k A env Y OL f l' s (fun f s=>match f with| .next=>wpAny C.M A (execs rest env) Q E s|f=>Q f s) E->wpAny C.M A (execs (ss++rest) env) Q E s:=by
 induction ss with
 |nil=>
  intro OL l l' f s Q E fs h q
  replace h:some (Fl.next,l)=some (f,l'):=h
  cases (h)
  exact q s [] (fun p hp=>by cases (hp)) (KW.refl s) fs
 |cons st ss ih=>
  intro OL l l' f s Q E fs h q
  show bE (show (r.S k env.scope l st).bind _=some (f,l') from h) ?_;rintro ⟨f1,l1⟩ h1 h2
  show(?_:wpAny C.M A (execs (st::(ss++rest)) env) Q E s)
  show jM0 ?_
  have t:=fs.pre.gr.tab
  cases (f1) with
  |next=>
   show S k A env Y OL l st .next l1 s _ E fs h1 fun s1 N hN kw qF=> ?_
   exact ih (N++OL) l1 l' f s1 Q E qF h2 (q.step t hN kw)
  |brk=>cases (h2);exact S k A env Y OL l st .brk l' s _ E fs h1 q
  |ret d=>cases (h2);exact S k A env Y OL l st (.ret d) l' s _ E fs h1 q
  |exc c d=>cases (h2);exact S k A env Y OL l st (.exc c d) l' s _ E fs h1 q
set_option tactic.hygienic true in
theorem FS.weakL(fs:FS C n k A env Y OL l s)(h:∀y b,l' y=some b->l y=some b):FS C n k A env Y OL l' s:=
 ⟨fs.pre.weak (fun y d e=>by
  unfold j3 at e ⊢
  split at e
  .rename_i d' e';replace e:=jX e;subst e
   rw[h _ _ e']
  .exact zn e),fs.hP,fs.cY,fs.own,fs.wY,fs.nY,fs.ap,fs.cw,fun y ds e=>fs.lst y ds (h _ _ e)⟩
theorem src_list{t:Expr}{x:Str}{p:Pos}{its:List D}{Q E:qN}(fs:FS C n k A env Y OL l s)(hx:l x=some (.val (.list its)))(h1:(x==("__debug__":Str))=false)(h2:(x==("__classdict__":Str))=false)
  (q:∀I s',KP C s s'->s.heap.get? I=none->FS C n k A env ([I]++Y) OL l s'->Own C [I] s'.heap->SrcR C A t (qQ OL++([I]++Y)) I [I] its s'.heap->Q (.ref I) s'):
  wpAny C.M A (eval (.Name x p) env) (fun v s₁=>wpAny C.M A (pyIter v) Q E s₁) E s:=by
 show ne (yN fs hx h1 h2 fun v rv=>ne (yr (ds:=its) fs.pre.a.handled fs.pre.lt rv rfl fun h' hk it=> ?_))
 have wd:s.heap.get? s.heap.objs.size=none:=qy _
 show jE it.obj fun oi oT _=> ?_
 have yb:KP C s { s with heap:=h' }:=KP.of nL hk
 show q s.heap.objs.size _ yb wd (fs.moreJ (J:=[s.heap.objs.size]) yb (m1 wd) (m1 ⟨oi,oT⟩))
  (Own.fresh fs.pre.gr.tab (fun a ha e=> ?_) hk (m1 wd) (m1 ⟨oi,oT⟩)) (SrcR.ofIt (by simp) (it.perm fun b=> ?_))
 .rw[jw.mp ha] at e
  obtain⟨o,ho⟩:=fs.pre.hYs C.P fs.pre.hP
  rw[<-e,wd] at ho;exact zn ho
 .simp only[List.mem_append,List.mem_cons,jw,List.not_mem_nil,or_false]
  constructor
  .rintro (h|h|h)
   .exact .inr (.inl h)
   .exact .inl h
   .exact .inr (.inr h)
  .rintro (h|h|h)
   .exact .inr (.inl h)
   .exact .inl h
   .exact .inr (.inr h)
inductive gS (r:Ev) (sc:Scope) (mid:List Stmt):List Addr->(Addr->List Str)->List Str->List Str->Nat->Prop
 |ret {hs cur xs l'}:qd r false sc (uB hs cur xs) mid=some (.ret (.list (xs.map .str)),l')->(∀a,cur a=[])->gS r sc mid hs cur xs xs 0
 |turn {hs wD cur xs l' c out N}:qd r false sc (uB hs cur xs) mid=some (.next,l')->l' "sequences"=some (.val (.list (qJ wD cur)))->l' "result"=some (.own ((xs++[c]).map .str))->l' "candidate"=some (.val (.str c))->wD≠[]->(∀a∈wD,a∈hs)->wD.Nodup->
   (∀a∈wD,cur a≠[]/\(cur a).length<=lim)->gS r sc mid wD (xr c wD cur) (xs++[c]) out N->gS r sc mid hs cur xs out (N+1)
def C3Inv(C:Cx)(n:Nat)(r:Ev)(A:Around)(env:Env)(mid:List Stmt)(H Yf:List Addr)(OL0:yR)(out:List Str)(s:Shared)(m:Nat)(s1:Shared):Prop:=
 ∃hs cur xs N,gS r env.scope mid hs cur xs out m/\FS C n false A env (H++Yf) (N++OL0) (tX hs xs) s1/\CT C H s1.heap cur/\(∀a∈hs,a∈H)/\(∀p∈N,s.heap.get? p.2=none)/\KW C (fun b=>ZO OL0 env b\/b∈H) s s1
theorem jMb(S:gL C n r)(a1:y0 (n+1) A){mid:List Stmt}{Yf hs:List Addr}{cur:Addr->List Str}{xs out:List Str}{N0:Nat}{p3 p4 p5 pa pb pc pd pe pf pg ph pi pj pk pl:Pos}{Q:wc}{E:qN}
  (run:gS r env.scope mid hs cur xs out N0) (fs:FS C n false A env (H++Yf) OL (tX hs xs) s) (ct:CT C H s.heap cur) (hH:∀a∈hs,a∈H) (hn:∀a∈H,a∉qQ OL++Yf) (hg:∀a∈H,C.g0.get? a=none) (hP:C.P∈Yf) (cY:∀p∈env.cells,p.2∈Yf) (wY:∀a∈jB env,a∈Yf) (ng:env.kindOf "seq"=some .local)
  (q:∀v s1,KW C (fun b=>ZO OL env b\/b∈H) s s1->RD C s1.heap Yf v (.list (out.map .str))->CT C H s1.heap (fun _=>[])->Q (.ret v) s1):
  wpAny C.M A (exec (.While (.Constant (.bool true) 0 p3) (mid++[.For (.Name "seq" p4) (.Name "sequences" p5) [.If (.Compare (.Subscript (.Name "seq" pa) (.Constant (.int 0) 0 pb) pc) [.Eq] [.Name "candidate" pd] pe) [.Delete [.Subscript (.Name "seq" pf) (.Constant (.int 0) 0 pg) ph] pi] [] pj] [] pk]) [] pl) env) Q E s:=by
 have t0:=fs.pre.gr.tab
 have hex:∀a∈H,∃o,s.heap.get? a=some o:=fun a ha=>by
  show qA (ct a ha) fun vs m e _=> ?_
  exact⟨_,e⟩
 show wpAny_While (codeAny_whileLoop (C3Inv C n r A env mid H Yf OL out s) ?_ N0 ⟨hs,cur,xs,[],run,fs,ct,hH,fun p hp=>(by cases hp),KW.refl s⟩)
 intro m s1 gO
 obtain⟨kx,bD,xs1,N1,run1,qF,mx,hH1,cR,gj⟩:=gO
 have aB:∀N:yR,(∀p∈N,s.heap.get? p.2=none)->∀a∈H,a∉qQ (N++OL)++Yf:=fun N hN a ha hm=>by
  simp only[qQ,List.map_append,List.append_assoc,List.mem_append] at hm
  rcases hm with h|h|h
  .exact lE h fun p hp e'=>by
    obtain⟨o,e⟩:=hex _ ha
    rw[<-e',hN p hp] at e;exact zn e
  .exact hn a ha (xP _ h)
  .exact hn a ha (ju _ h)
 have fsv:=show_fs qF mx hH1 (aB N1 cR) hP cY wY
 have nE:∀{α:Type} {t:Sem α} {Q:α->Shared->Prop} {R:Result->Shared->Prop} {s:Shared},wpAny C.M A t Q NE s->wpAny C.M A t Q (notedBy C.M A env fun e s'=>R (.error e) s') s:=fun h=>ne h
 have fD:∀a∈H,a≠C.P:=fun a ha e=>hn a ha (ju _ (e▸hP))
 show ne (isTrue_plain (E_bool (C:=C) (Y:=Yf) fun v s2 k2 r2=> ?_))
 rw[r2.bool_inv]
 show jOs ?_
 simp only[if_true]
 have cq:KW C (fun b=>ZO OL env b\/b∈H) s s2:=gj.trans k2.kw
 have zo:∀b,ZO (N1++OL) env b->(ZO OL env b\/b∈H)\/s.heap.get? b=none:=fun b hb=>(vU cR b hb).imp .inl id
 cases run1 with
 |ret h hnil=>
  show uQ S.S _ mid (N1++OL) _ _ _ s2 _ _ (fsv.kp k2) h fun v s3 kw rd=>q v s3 (cq.transNew kw zo) rd ?_
  have e:bD=fun _=>[]:=funext hnil
  rw[<-e]
  show(mx.kw (KP.kw k2 (Z:=fun _=>False)) fD fun _ _ h=>h).kw kw fD fun a ha hz=> ?_
  rcases jj.mp hz with hz|hz
  .exact aB N1 cR a ha (xP _ hz)
  .exact aB N1 cR a ha (ju _ (wY a hz))
 | @turn _ wD _ _ l' c _ N h e1 e2 e3 je jx gk hlen run'=>
   show uQ S.S _ mid (N1++OL) _ _ _ s2 _ _ (fsv.kp k2) h fun s3 N2 tw wZ yM=> ?_
   have oy:KW C (fun b=>ZO OL env b\/b∈H) s s3:=cq.transNew wZ zo
   have sH:∀p∈N2++N1,s.heap.get? p.2=none:=fun p hp=>by
    rcases jj.mp hp with hp|hp
    .exact xM cq t0 (tw p hp)
    .exact cR p hp
   have nk:=aB (N2++N1) sH
   rw[jNl] at nk
   have hHz:∀a∈H,¬ZO (N1++OL) env a:=fun a ha hz=>by
    rcases jj.mp hz with hz|hz
    .exact aB N1 cR a ha (xP _ hz)
    .exact aB N1 cR a ha (ju _ (wY a hz))
   have cZ:CT C H s3.heap bD:=(mx.kw (KP.kw k2 (Z:=fun _=>False)) fD fun _ _ h=>h).kw wZ fD hHz
   have fsh:=hide_fs yM cZ e1 e2 e3 je nk hg
   show jM0 (wpAny_For (src_list fsh (t:= .Name "seq" p4) (its:=xe wD) (x:="sequences") (by unfold aP tX;rw[if_neg kD,if_pos rfl]) kD kD fun I s4 mh aM zC oI4 c7=> ?_) (by intro _;rfl))
   have ct4:CT C H s4.heap bD:=cZ.kw (KP.kw mh (Z:=fun _=>False)) fD fun _ _ h=>h
   have hIY:I∉H++Yf:=fun hm=>by
    obtain⟨o,e⟩:=fsh.pre.hYs I (ju _ hm)
    rw[aM] at e;exact zn e
   show jL5 zC a1 ng (by unfold aP;rw[if_pos rfl]) (fun a ha=>hH1 a (jx a ha)) (fun a ha=>xP _ ha) (fun a ha hm=> ?_) (fun p hp hm=>hn _ hm (ju _ (cY p hp))) fD gk hIY (ju _ hP) (fun p hp=>ju _ (cY p hp)) (fun a ha=>ju _ (wY a ha)) oI4 (fun a ha=>(hlen a ha).1) (fun a ha=>(hlen a ha).2) ct4 c7 fun s5 s6 l6 fV kj mu hl6 ct6=> ?_
   .rcases jj.mp hm with hm|hm
    .exact nk a ha (xP _ hm)
    .exact nk a ha (ju _ (wY a hm))
   .have nU:s.heap.get? I=none:=xM oy t0 aM
    have pR:FS C n false A env (H++Yf) (N2++(N1++OL)) (tX wD (xs1++[c])) s6:=mu.weakL (fun y b hy=>by
     have hys:y="sequences"\/y="result":=by
      unfold tX at hy
      by_cases h1:y="sequences"
      .exact .inl h1
      .rw[jMv h1] at hy
       by_cases h2:y="result"
       .exact .inr h2
       .rw[jMv h2] at hy;exact zn hy
     have hq:y≠"seq"/\y≠"candidate":=by rcases hys with rfl|rfl <;> exact⟨by decide,by decide⟩
     rw[hl6 y hq.1]
     unfold aP
     rw[jMv hq.2]
     exact hy)
    show jNj ⟨N,jRc N,wD,xr c wD bD,xs1++[c],N2++N1,run',by rw[jNl];exact pR,ct6,fun a ha=>hH1 a (jx a ha),sH,?_⟩
    .have hZ:∀b,(b=I\/ZO (N2++(N1++OL)) env b\/b∈H)->((ZO OL env b\/b∈H)\/b∈[I])\/s.heap.get? b=none:=fun b hb=>by
      rcases hb with hb|hb|hb
      .exact .inl (.inr (by simp[hb]))
      .rw[<-jNl] at hb
       exact(vU sH b hb).imp (fun h=> .inl (.inl h)) id
      .exact .inl (.inl (.inr hb))
     have kw15:KW C (fun b=>(ZO OL env b\/b∈H)\/b∈[I]) s s5:=((oy.mono fun b hb=>jQt hb).trans mh.kw).transNew fV hZ
     exact kw15.lastJ (m1 nU) kj fun b hb=>hb
structure bK(fn:Fn)(first:Stmt)(mid:List Stmt):Prop where
 ok:oL fn=true
 names:fn.names=(["sequences"]:List Str)
 seq:fn.scope.names.lookup ("seq":Str)=some .local
 shape:∃p:Nat->Pos,fn.body=[first]++[.While (.Constant (.bool true) 0 (p 0)) (mid++[.For (.Name "seq" (p 1)) (.Name "sequences" (p 2)) [.If (.Compare (.Subscript (.Name "seq" (p 3)) (.Constant (.int 0) 0 (p 4)) (p 5)) [.Eq] [.Name "candidate" (p 6)] (p 7)) [.Delete [.Subscript (.Name "seq" (p 8)) (.Constant (.int 0) 0 (p 9)) (p 10)] (p 11)] [] (p 12)] [] (p 13)]) [] (p 14)]
variable{Y':List Addr}
theorem FS.perm(fs:FS C n k A env Y OL l s)(h:∀a,a∈Y'↔a∈Y):FS C n k A env Y' OL l s:=by
 have h1:∀a,a∈qQ OL++Y'↔a∈qQ OL++Y:=fun a=>by simp only[List.mem_append,h]
 exact⟨⟨fs.pre.bs,fs.pre.a,fs.pre.eo,fs.pre.gr,(h1 _).mpr fs.pre.hP,fun a ha=>fs.pre.hY a ((h1 a).mp ha),fun a ha=>fs.pre.hYs a ((h1 a).mp ha),fs.pre.fm,fun p hp=>(h1 _).mpr (fs.pre.hc p hp),fun y d e=>by
  show jE (fs.pre.loc y d e) fun v a rv=> ?_
  exact⟨v,a,_m.R.mono (j9 fun a ha=>(h1 a).mp ha) rv⟩⟩,(h _).mpr fs.hP,fun p hp=>(h _).mpr (fs.cY p hp),fs.own,fun a ha=>(h a).mpr (fs.wY a ha),fun p hp hm=>fs.nY p hp ((h _).mp hm),fs.ap,fs.cw,fun y ds e=>by
  show yy (fs.lst y ds e) fun a vs m g1 g2 g3 g4=> ?_
  exact vO a vs m g1 g2 g3 (Rs.mono (j9 fun a ha=>(h1 a).mp ha) g4)⟩
theorem c3_call(S:gL C n r){f:Str}{fn:Fn}{first:Stmt}{mid:List Stmt}(hf:bK fn first mid)(bs:Base C){af:Addr}{o:Obj}{pm code doc:Value}(ho:C.g0.get? af=some o)(hd:o.data= .func (docDef f fn.params fn.body fn.scope pm code doc))(hc:C.g0.CodeRec code f)
  (g:Gr C s) (hP:C.P∈Y) (hY:∀a∈Y,C.g0.get? a=none) (hYs:∀a∈Y,∃o,s.heap.get? a=some o) (room:xv (n+1) A) {hs:List Addr} {va:Value} {cur:Addr->List Str} {out:List Str} {N0:Nat}
  (rU:∀l:jN,∃l1,qd r false fn.scope l [first]=some (.next,l1)/\l1 "result"=some (.own [])/\∀y:Str,y≠"result"->l1 y=l y)
  (hv:RD C s.heap Y va (.list (xe hs))) (ct:CT C hs s.heap cur) (pP:∀a∈hs,a∈Y) (fD:∀a∈hs,a≠C.P) (gq:out≠[]\/hs=[]) (run:gS r fn.scope mid hs cur [] out N0) {Q E:qN}
  (q:∀v s',KW C (·∈hs) s s'->RD C s'.heap Y v (.list (out.map .str))->Q v s'):wpAny C.M A (call (.ref af) [va]) Q E s:=by
 have ok:=wH hf.ok
 have pq:=room.depth
 have ub:fn.params.args.map (·.arg)=(["sequences"]:List Str):=hf.names
 have hlen:fn.params.args.length=1:=by have:=jM8 List.length ub;simpa using this
 show jQd (jO4 (fd:=docDef f fn.params fn.body fn.scope pm code doc) (body:=fn.body) (by have:recursionLimit=1000:=rfl;lia) (g.keep _ _ ho) hd ok.co ok.gen rfl (hc.keeps g.keep) ?_)
 rw[qU ok.plain rfl (by show(?_:fn.params.args.length=1);exact hlen)]
 show jMr (ne ?_)
 obtain⟨l0,hb⟩:∃l0,xu fn.names [.list (xe hs)]=some l0:=by rw[hf.names];exact⟨_,rfl⟩
 have vE:=xm hb
 rw[hf.names] at vE
 have aX:l0 "sequences"=some (.val (.list (xe hs))):=by rw[vE];rfl
 show zZ (k:=false) (n:=n+1) (A:=A) ok bs g hP hY hYs (fun env=>room.deeper) hb (.cons hv .nil) (fun h=>by exact zf h) fun env s1 zU qF wd hcn qE oV=>⟨bs.nolimit.keeps (g.kp bs zU).keep,jQq ?_⟩
 obtain⟨p,kn⟩:=hf.shape
 rw[kn]
 have a1:y0 (n+1) (A.deeper env):=qF.pre.a
 show qk (rU l0) fun l1 h1 h2 h3=> ?_
 have mx:CT C hs s1.heap cur:=ct.kw (KP.kw zU (Z:=fun _=>False)) fD fun _ _ h=>h
 show uQ S.S _ [first] [] l0 l1 .next s1 _ _ (qF.lo (jM5 n)) (by rw[qE];exact h1) fun s2 N hN vR xd=> ?_
 have hex:∀a∈hs,∃o,s.heap.get? a=some o:=fun a ha=>hYs a (pP a ha)
 have hW:∀a∈hs,a∉jB env:=fun a ha hm=>by
  obtain⟨oo,e⟩:=hex a ha
  rw[wd a hm] at e;exact zn e
 have ct2:CT C hs s2.heap cur:=mx.kw vR fD fun a ha hz=>hW a ha (by exact hz)
 have kh:∀a,a∈hs++(jB env++Y.filter fun a=>decide (a∉hs))↔a∈jB env++Y:=fun a=>by
  simp only[List.mem_append,List.mem_filter,decide_eq_true_eq]
  constructor
  .rintro (h|h|h)
   .exact .inr (pP a h)
   .exact .inl h
   .exact .inr h.1
  .rintro (h|h)
   .exact .inr (.inl h)
   .by_cases ha:a∈hs
    .exact .inl ha
    .exact .inr (.inr ⟨h,ha⟩)
 have fs2':FS C n false (A.deeper env) env (hs++(jB env++Y.filter fun a=>decide (a∉hs))) (N++[]) (tX hs []) s2:=(xd.perm kh).weakL fun y b hy=>by
  unfold tX at hy
  by_cases e1:y="sequences"
  .subst e1
   rw[jMt rfl] at hy
   rw[h3 _ kD,aX];exact hy
  .rw[jMv e1] at hy
   by_cases e2:y="result"
   .subst e2
    rw[jMt rfl] at hy
    rw[h2];exact hy
   .rw[jMv e2] at hy;exact zn hy
 have hn:∀a∈hs,a∉qQ (N++[])++(jB env++Y.filter fun a=>decide (a∉hs)):=fun a ha hm=>by
  simp only[List.append_nil,List.mem_append,List.mem_filter,decide_eq_true_eq] at hm
  rcases hm with h|h|h
  .show lE h ?_;rintro pp hp rfl
   show qA (mx _ ha) fun vs m e _=> ?_
   rw[hN pp hp] at e;exact zn e
  .exact hW a ha h
  .exact h.2 ha
 have t0:=g.tab
 show jM0 (jMb S a1 (by rw[qE];exact run) fs2' ct2 (fun a ha=>ha) hn (fun a ha=>hY a (pP a ha)) (ju _ (qX.mpr ⟨hP,jMx fun h=>fD _ h rfl⟩)) (fun pp hp=>xP _ (hcn pp hp)) (fun a ha=>xP _ ha)
  (by show(?_:env.scope.names.lookup ("seq":Str)=_);rw[qE];exact hf.seq) fun v s3 wZ rd cZ=> ?_)
 show q v s3 (((KP.kw zU (Z:=(·∈hs))).transNew vR fun b hb=> .inr (wd b (by exact hb))).transNew wZ fun b hb=> ?_) ?_
 .rcases hb with hb|hb
  .simp only[ZO,List.append_nil,List.mem_append] at hb
   rcases hb with hb|hb
   .show lE hb ?_;rintro pp hp rfl
    exact .inr (xM zU.kw t0 (hN pp hp) (Z:=fun _=>False))
   .exact .inr (wd b hb)
  .exact .inl hb
 .show ja rd.list_inv ?_;rintro S' vs m rfl bq rs
  obtain⟨h4,h5⟩:=jG bq
  have hSH:S'∉hs:=fun hm=>by
   rcases gq with ho'|ho'
   .show qA (cZ S' hm) fun ws m2 e rr=> ?_
    rw[h4] at e
    simp only[j4,Option.some.injEq,Obj.mk.injEq,Data.seq.injEq] at e
    have ew:vs=ws:=by exact jM8 Array.toList e.2.2.1.1
    subst ew
    cases rr
    have:=rs.length
    simp at this
    exact ho' (jOe.mp this.symm)
   .rw[ho'] at hm;cases hm
  show .list (jT h4 fun hm=>h5 (ju _ (qX.mpr ⟨hm,jMx hSH⟩))) (RP.rs (dT rs (strs_map out)))
noncomputable def xt(hs:List Addr)(wX:List (List Str))(a:Addr):List Str:=((hs.zip wX).lookup a).getD []
noncomputable abbrev qf(wX:List (List Str)):List D:=wX.map fun xs=> .list (xs.map .str)
variable{m:Nat}{r':Ev}
theorem LL.append_inv{h:Heap}{hs:List Addr}{a0:List D}(l:LL C h hs a0):hs.length=a0.length:=by
 induction l with
 |nil=>rfl
 |cons _ _ _ ih=>exact jM8 (·+1) ih
theorem LL.ct{h:Heap}{hs:List Addr}:∀{wX:List (List Str)},LL C h hs (qf wX)->hs.Nodup->CT C hs h (xt hs wX):=by
 induction hs with
 |nil=>exact fun _ _ a ha=>nomatch ha
 |cons b hs ih=>
  intro wX t gk
  induction wX using List.casesOn with
  |nil=>cases t
  |cons xs wX=>
  cases t with
  |cons e rr t=>
  obtain⟨n1,n2⟩:=xw.mp gk
  have ih:=ih t n2
  intro a ha
  by_cases fh:a=b
  .subst fh
   show dA _ _ e ?_
   have:xt (a::hs) (xs::wX) a=xs:=by unfold xt;simp
   rw[this];exact rr
  .rcases j0.mp ha with h|ha
   .exact absurd h fh
   .show qA (ih a ha) fun vs m e' r'=> ?_
    show dA vs m e' ?_
    have:xt (b::hs) (xs::wX) a=xt hs wX a:=by
     unfold xt
     rw[jNy,jMz]
     have:(a==b)=false:=by simpa using fh
     rw[this]
    rw[this];exact r'
theorem jGf(S:gL C n r){f:Str}{fn:Fn}{first:Stmt}{mid:List Stmt}(hf:bK fn first mid){af:Addr}{o:Obj}{pm code doc:Value}(ho:C.g0.get? af=some o)(hd:o.data= .func (docDef f fn.params fn.body fn.scope pm code doc))(hc:C.g0.CodeRec code f)
  (room:xv (n+1) A) {hs:List Addr} {wX:List (List Str)} {va:Value} {out:List Str} {N0:Nat} (fs:FS C m k A env (hs++Y) OL l s) (rU:∀l:jN,∃l1,qd r false fn.scope l [first]=some (.next,l1)/\l1 "result"=some (.own [])/\∀y:Str,y≠"result"->l1 y=l y)
  (hv:RD C s.heap (qQ OL++(hs++Y)) va (.list (xe hs))) (gk:hs.Nodup) (ll:LL C s.heap hs (qf wX)) (pP:∀a∈hs,a∉Y) (hP:C.P∈Y) (cY:∀p∈env.cells,p.2∈Y) (wY:∀a∈jB env,a∈Y) (gq:out≠[]\/hs=[]) (run:gS r fn.scope mid hs (xt hs wX) [] out N0) {Q E:qN}
  (q:∀v s',KW C (·∈hs) s s'->FS C m k A env Y OL l s'->RD C s'.heap (qQ OL++Y) v (.list (out.map .str))->Q v s'):wpAny C.M A (call (.ref af) [va]) Q E s:=by
 have p:=fs.pre
 have fD:∀a∈hs,a≠C.P:=fun a ha e=>pP a ha (e▸hP)
 show c3_call S hf p.bs ho hd hc p.gr p.hP p.hY p.hYs room rU hv (ll.ct gk) (fun a ha=>ju _ (xP _ ha)) fD gq run fun v s' kw rd=> ?_
 have cX:FS C m k A env (hs++Y) OL l s':=fs.out kw (fun b hb=>xP _ hb) (fun hm=>pP _ hm (wY _ jy)) fun pp hp hm=>pP _ hm (cY pp hp)
 show q v s' kw (cX.lastJ (KJ.refl s') pP hP cY wY) (_m.R.mono (j9 fun a ha=> ?_) rd)
 simp only[List.mem_append] at ha ⊢
 rcases ha with h|h
 .exact .inl h
 .exact .inr (.inr h)
theorem jAq{elt:Expr}{g:Comprehension}{gs:List Comprehension}{jM:Scope}{qK:Loc->Option D}{its:List D}{d:D}{wX:List (List Str)}{pos:Pos}{Q:qN}(S:SE C m r')(a1:y0 (m+1) A)(F:∀ce,ce.scope=jO env.scope jM->gC C m k A ce elt qK)(fs:FS C m k A env Y OL l s)
  (h1:r'.E k env.scope (j3 l) g.iter=some d) (h2:ji d=some its) (ok:jk env.scope jM (g::gs)=true) (h:comp r' k (jO env.scope jM) qK (g::gs) (jF jM (j3 l)) its=some (qf wX)) (hlen:wX.length<=lim)
  (q:∀v hs s',KP C s s'->FS C m k A env (hs++Y) OL l s'->RD C s'.heap (qQ OL++(hs++Y)) v (.list (xe hs))->LL C s'.heap hs (qf wX)->(∀a∈hs,s.heap.get? a=none)->hs.Nodup->Q v s'):
  wpAny C.M A (eval (.ListComp elt (g::gs) jM pos) env) Q NE s:=by
 show jGt S a1 F fs.pre h1 h2 ok h (by simpa using hlen) fun DD hs mm s' kp ho ll zN pw=> ?_
 obtain⟨pw1,pw2⟩:=jOa.mp pw
 have cX:FS C m k A env (hs++Y) OL l s':=(fs.moreJ kp (fun a ha=>zN a (qV _ ha)) fun a ha=>ll.ex a ha)
 show q _ hs s' kp cX (.list (jT ho fun hm=> ?_) (jHn hs)) ll (fun a ha=>zN a (qV _ ha)) (pw2.imp fun h=>jN5 h)
 simp only[List.mem_append] at hm
 have bV:s.heap.get? DD=none:=zN DD jy
 rcases hm with h|h|h
 .obtain⟨o,e⟩:=fs.pre.hYs DD (xP _ h);rw[bV] at e;exact zn e
 .exact jNp _ (pw1 DD h)
 .obtain⟨o,e⟩:=fs.pre.hYs DD (ju _ h);rw[bV] at e;exact zn e
structure C3At(C:Cx)(r:Ev)(f:Str)(fn:Fn)(first:Stmt)(mid:List Stmt)(af:Addr)(o:Obj)(pm code doc:Value):Prop where
 hf:bK fn first mid
 ho:C.g0.get? af=some o
 hd:o.data= .func (docDef f fn.params fn.body fn.scope pm code doc)
 hc:C.g0.CodeRec code f
 hm:C.mg f=some (.ref af)
 db:(f==("__debug__":Str))=false
 start:∀l:jN,∃l1,qd r false fn.scope l [first]=some (.next,l1)/\l1 "result"=some (.own [])/\∀y:Str,y≠"result"->l1 y=l y
theorem FS.swap{a b:List Addr}(fs:FS C n k A env (a++(b++Y)) OL l s):FS C n k A env ((b++a)++Y) OL l s:=fs.perm fun x=>by
 simp only[List.mem_append]
 constructor
 .rintro ((h|h)|h)
  .exact .inr (.inl h)
  .exact .inl h
  .exact .inr (.inr h)
 .rintro (h|h|h)
  .exact .inl (.inr h)
  .exact .inl (.inl h)
  .exact .inr h
theorem jFi(S:gL C n r)(S':SE C m r')(a1:y0 (m+1) A){f x:Str}{fn:Fn}{first:Stmt}{mid:List Stmt}{af:Addr}{o:Obj}{pm code doc:Value}(c3:C3At C r f fn first mid af o pm code doc)(room:xv (n+1) A)(fs:FS C m k A env Y OL l s)
  {e1 e2:Expr} {g1 g2:Comprehension} {gs1 gs2:List Comprehension} {aU xG:Scope} {em1 em2:Loc->Option D} {i1 i2:List D} {d1 d2:D} {xs1 xs2:List (List Str)} {out:List Str}
  (F1:∀ce,ce.scope=jO env.scope aU->gC C m k A ce e1 em1) (h11:r'.E k env.scope (j3 l) g1.iter=some d1) (h12:ji d1=some i1) (ok1:jk env.scope aU (g1::gs1)=true) (iy:comp r' k (jO env.scope aU) em1 (g1::gs1) (jF aU (j3 l)) i1=some (qf xs1)) (oU:xs1.length<=1000)
  (F2:∀ce,ce.scope=jO env.scope xG->gC C m k A ce e2 em2) (h21:r'.E k env.scope (j3 l) g2.iter=some d2) (h22:ji d2=some i2) (ok2:jk env.scope xG (g2::gs2)=true) (cK:comp r' k (jO env.scope xG) em2 (g2::gs2) (jF xG (j3 l)) i2=some (qf xs2)) (hl2:xs2.length<=1000)
  (gq:out≠[]\/xs1++xs2=[]) (run:∀hs:List Addr,hs.Nodup->hs.length=(xs1++xs2).length->∃N,gS r fn.scope mid hs (xt hs (xs1++xs2)) [] out N)
  (hx:env.kindOf x=some .local\/env.kindOf x=some .cell) (ip:env.kindOf f=some .globalImplicit) {p0 p1 p2 p3 p4 q1 q2:Pos} {Q:wc} {E:qN}
  (q:∀s',KW C (ZO OL env) s s'->FS C m k A env Y OL (jA l x (.val (.list (out.map .str)))) s'->Q .next s'):
  wpAny C.M A (exec (.Assign [.Name x p0] (.Call (.Name f p1) [.BinOp (.ListComp e1 (g1::gs1) aU q1) .Add (.ListComp e2 (g2::gs2) xG q2) p2] [] p3) p4) env) Q E s:=by
 have t0:=fs.pre.gr.tab
 have jh:lim=1000000:=rfl
 show jOt ?_ (by rfl)
 show jOw rfl (ne (qh fs.pre ip c3.hm c3.db ?_))
 show jOu (o:=o) (fd:=docDef f fn.params fn.body fn.scope pm code doc) (jNg (jNf (jRu (ne (jAq S' a1 F1 fs h11 h12 ok1 iy j6 fun v1 kx s1 zU qF rv1 sf wd nd1=>ne (jAq S' a1 F2 qF h21 h22 ok2 cK j6 fun v2 gM s2 yb xd eu ll2 rx nd2=> ?_))))))
 have hP1:=qF.pre.hP
 have rv1':RD C s2.heap (qQ OL++(gM++(kx++Y))) v1 (.list (xe kx)):=by
  have h:qM C s2.heap (qQ OL++(gM++(kx++Y))) [v1] [.list (xe kx)]:=qM.moreL (J:=gM) yb hP1 rx (fun a ha=>by
   simp only[List.mem_append] at ha ⊢
   rcases ha with h|h|h|h
   .exact .inr (.inl h)
   .exact .inl h
   .exact .inr (.inr (.inl h))
   .exact .inr (.inr (.inr h))) (.cons rv1 .nil)
  cases h with|cons h _=>exact h
 have l1e:(xe kx).length=xs1.length:=by rw[jMu,sf.append_inv,jMu]
 have l2e:(xe gM).length=xs2.length:=by rw[jMu,ll2.append_inv,jMu]
 show ne (wV (a:= .list (xe kx)) (b:= .list (xe gM)) (d:= .list (xe kx++xe gM)) xd.pre.hP xd.pre.lt (by
  show(?_:(if (xe kx).length+(xe gM).length<=lim then some (D.list (xe kx++xe gM)) else none)=_)
  rw[jMt (by lia)]) rv1' eu fun v3 s3 rq rv3=>jN3 ⟨⟨(xd.kp rq).pre.gr.keep _ _ c3.ho,c3.hd⟩,?_⟩)
 have yM:=(xd.kp rq).swap
 have hex1:=sf.ex
 have hdis:∀a∈kx,∀b∈gM,a≠b:=fun a ha b hb e=>by
  obtain⟨oo,h⟩:=hex1 a ha
  rw[e,rx b hb] at h;exact zn h
 have hnY1:∀a∈kx,a∉Y:=fun a ha hm=>by
  obtain⟨oo,h⟩:=fs.pre.hYs a (ju _ hm)
  rw[wd a ha] at h;exact zn h
 have hnY2:∀a∈gM,a∉Y:=fun a ha hm=>by
  obtain⟨oo,h⟩:=qF.pre.hYs a (ju _ (ju _ hm))
  rw[rx a ha] at h;exact zn h
 have nP1:∀a∈kx,a≠C.P:=fun a ha e=>hnY1 a ha (e▸fs.hP)
 have nP2:∀a∈gM,a≠C.P:=fun a ha e=>hnY2 a ha (e▸fs.hP)
 have gk:(kx++gM).Nodup:=jN1.mpr ⟨nd1,nd2,fun a ha b hb=>hdis a ha b hb⟩
 have ll:LL C s3.heap (kx++gM) (qf (xs1++xs2)):=by
  rw[qf,jNr]
  exact LL.append (ll2.keep fun a ha o e=>rq.heap (nP2 a ha) e) (sf.keep fun a ha o e=>rq.heap (nP1 a ha) (yb.heap (nP1 a ha) e))
 have hlen:(kx++gM).length=(xs1++xs2).length:=by
  have:=ll.append_inv
  rw[this,jMu]
 obtain⟨N,hrun⟩:=run (kx++gM) gk hlen
 have rv3':RD C s3.heap (qQ OL++((kx++gM)++Y)) v3 (.list (xe (kx++gM))):=by
  rw[xe,jNr]
  show _m.R.mono (j9 fun a ha=> ?_) rv3
  simp only[List.mem_append] at ha ⊢
  rcases ha with h|(h|h)|h
  .exact .inl h
  .exact .inr (.inr (.inl h))
  .exact .inr (.inl h)
  .exact .inr (.inr (.inr h))
 show jGf S c3.hf c3.ho c3.hd c3.hc room yM c3.start rv3' gk ll (fun a ha=>(jj.mp ha).elim (hnY1 a) (hnY2 a)) fs.hP fs.cY fs.wY (gq.imp id fun h=> ?_) hrun fun v4 s4 zM zC rv4=> ?_
 .have:=hlen
  rw[h] at this
  exact jOe.mp this
 .show ne (zC.assign hx rv4 fun s5 fV oG=>q s5 ?_ oG)
  have kwa:KW C (ZO OL env) s s4:=(KP.kw ((zU.trans yb).trans rq) (Z:=ZO OL env)).transNew zM fun b hb=> .inr ?_
  .exact kwa.trans fV
  .rcases jj.mp hb with hb|hb
   .exact wd b hb
   .exact xM zU.kw t0 (rx b hb) (Z:=fun _=>False)
noncomputable def gJ(K:Frag)(a:Addr):Obj:=(K.lookup a).getD default
noncomputable def lX(o:Obj):FuncData:=match o.data with| .func fd=>fd|_=>default
noncomputable def fl?(d:Data):Option (Array Value):=by
 cases d with
 |fields vs=>exact some vs
 |_=>exact none
noncomputable def sq?(d:Data):Option (Array Value×Nat):=by
 cases d with
 |seq vs n=>exact some (vs,n)
 |_=>exact none
noncomputable def de?(d:Data):Option (Array DictEntry):=by
 cases d with
 |dict es _=>exact some es
 |_=>exact none
noncomputable def sv?(v:Value):Option Str:=by
 cases v with
 |str x _=>exact some x
 |_=>exact none
noncomputable def tv?(v:Value):Option String:=by
 cases v with
 |type x=>exact some x
 |_=>exact none
noncomputable def iA(v:Value)(k:Addr->Option D):Option D:=by
 cases v with
 |int i _=>exact some (.int i)
 |str x _=>exact some (.str x)
 |ref a=>exact k a
 |_=>exact none
theorem fl_is{d:Data}{vs:Array Value}(h:fl? d=some vs):d= .fields vs:=by
 induction d using cDa with
 |fields us=>exact jM8 _ (jX h)
 |_=>exact zn h
theorem sq_is{d:Data}{q:Array Value×Nat}(h:sq? d=some q):d= .seq q.1 q.2:=by
 induction d using cDa with
 |seq us n=>rw[<-jX h]
 |_=>exact zn h
theorem de_is{d:Data}{es:Array DictEntry}(h:de? d=some es):∃ep,d= .dict es ep:=by
 induction d using cDa with
 |dict us n=>exact⟨n,by rw[jX h]⟩
 |_=>exact zn h
theorem sv_is{v:Value}{x:Str}(h:sv? v=some x):∃t,v= .str x t:=by
 induction v using cV with
 |str y t=>exact⟨t,by rw[jX h]⟩
 |_=>exact zn h
theorem tv_is{v:Value}{x:String}(h:tv? v=some x):v= .type x:=by
 induction v using cV with
 |type y=>exact jM8 _ (jX h)
 |_=>exact zn h
theorem rdV_is{v:Value}{k:Addr->Option D}{d:D}(h:iA v k=some d):(∃i t,v= .int i t/\d= .int i)\/(∃x t,v= .str x t/\d= .str x)\/∃a,v= .ref a/\k a=some d:=by
 induction v using cV with
 |int i t=>exact .inl ⟨i,t,rfl,(jX h).symm⟩
 |str x t=>exact .inr (.inl ⟨x,t,rfl,(jX h).symm⟩)
 |ref a=>exact .inr (.inr ⟨a,rfl,h⟩)
 |_=>exact zn h
noncomputable def iH(o:Obj):Option Str:=(fl? o.data).bind fun vs=>(vs[1]? :Option Value).bind sv?
structure FnAt(K:Frag)(x:Str)(f:Fn)(a c:Addr):Prop where
 mg:nsIn K mainGlobals x=some (some (.ref a))
 at1:K.lookup a=some (gJ K a)
 dat:(gJ K a).data= .func (docDef x f.params f.body f.scope (lX (gJ K a)).pyModule (.ref c) (lX (gJ K a)).doc)
 at2:K.lookup c=some (gJ K c)
 nm:iH (gJ K c)=some x
variable{K:Frag}{h:Heap}{mg mb:Str->Option Value}
theorem codeRec_of{c:Addr}{x:Str}(X:K.In h)(h1:K.lookup c=some (gJ K c))(h2:iH (gJ K c)=some x):h.CodeRec (.ref c) x:=by
 show bE h2 fun vs e h3=> ?_
 show bE h3 fun q e2 h4=> ?_
 obtain⟨t,rfl⟩:=sv_is h4
 exact ta c _ vs t rfl (X _ _ h1) (fl_is e) e2
theorem FnAt.is{x:Str}{f:Fn}{a c:Addr}(F:FnAt K x f a c)(X:K.In h)(G:h.Ns mainGlobals mg):mg x=some (.ref a)/\h.get? a=some (gJ K a)/\h.CodeRec (.ref c) x:=
 ⟨mg_of X G F.mg,X _ _ F.at1,codeRec_of X F.at2 F.nm⟩
noncomputable def mM(f:Value->Option D):List Value->Option (List D)
 |[]=>some []
 |v::vs=>(f v).bind fun d=>(mM f vs).map (d::·)
noncomputable def tp?(o:Obj):Option (List Value):=(tv? o.cls).bind fun c=>(sq? o.data).bind fun q=>if c="tuple"/\o.dict.isNone=true/\o.slots.isEmpty=true/\q.2=0 then some q.1.toList else none
theorem tp_is{o:Obj}{vs:List Value}(h:tp? o=some vs):o=xo vs 0:=by
 show bE h fun c h1 h2=> ?_
 show bE h2 fun q h3 h4=> ?_
 revert h4;show yT (fun hc h4=> ?_) (fun _ h4=>zn h4)
 show uF hc fun c1 c2 c3 c4=> ?_
 have h5:=tv_is h1
 have h6:=sq_is h3
 have h7:=Option.isNone_iff_eq_none.mp c2
 have h8:=Array.isEmpty_iff.mp c3
 obtain⟨a,b,c',d⟩:=o
 rw[show a=_ from h5,show b=_ from h7,show c'=_ from h6,show d=_ from h8,c1,c4,<-jX h4]
 rfl
noncomputable def iB(K:Frag):Nat->Value->Option D
 |0,_=>none
 |n+1,v=>iA v fun a=>(K.lookup a).bind fun o=>(tp? o).bind fun vs=>(mM (iB K n) vs).map .tup
theorem jA2{prog:Program}{w:World}{f:Value->Option D}(ih:∀v d,f v=some d->R prog w h.get? v d):∀(vs:List Value) (ds:List D),mM f vs=some ds->Rs prog w h.get? vs ds
 |[],ds,e=>by
  replace e:=jX e;subst e;exact .nil
 |v::vs,ds,e=>by
  show bE (show (f v).bind _=some ds from e) fun d h1 h2=> ?_
  show mE h2 ?_;rintro fE h3 rfl
  exact .cons (ih _ _ h1) (jA2 ih vs fE h3)
theorem jIp{prog:Program}{w:World}(X:K.In h)(n:Nat):∀(v:Value) (d:D),iB K n v=some d->R prog w h.get? v d:=by
 induction n with
 |zero=>exact fun v d e=>zn e
 |succ n ih=>
  intro v d e
  rcases rdV_is (show iA v _=some d from e) with h1|h1|h1
  .obtain⟨i,t,rfl,rfl⟩:=h1
   exact .int _ _
  .obtain⟨i,t,rfl,rfl⟩:=h1
   exact .str _ _
  .obtain⟨a,rfl,h2⟩:=h1
   show bE h2 fun o g1 g2=> ?_
   show bE g2 fun vs g3 g4=> ?_
   show mE g4 ?_;rintro ds g5 rfl
   exact .tup (n:=0) (tp_is g3▸X _ _ g1) (jA2 ih _ _ g5)
noncomputable def jKf(es:Array DictEntry):Bool:=es.toList.all fun e=>(sv? e.key).isSome
noncomputable def eX(o:Obj):Array DictEntry:=(de? o.data).getD #[]
noncomputable def uM(o:Obj):Bool:=(de? o.data).any jKf
theorem ns_of{a:Addr}(X:K.In h)(h1:K.lookup a=some (gJ K a))(h2:uM (gJ K a)=true):h.Ns a (nsFind (eX (gJ K a))):=by
 unfold uM at h2
 unfold eX
 generalize hd:de? (gJ K a).data=z at h2
 induction z using cO with
 |none=>exact zf h2
 |some es=>
  obtain⟨ep,e⟩:=de_is hd
  show vO _ es ep (X _ _ h1) e (fun en hen=> ?_) (fun name=>rfl)
  obtain⟨q,h3⟩:=jM4.mp (jNe.mp (show (es.toList.all fun e=>(sv? e.key).isSome)=true from h2) en (Array.mem_toList_iff.mpr hen))
  obtain⟨t,h4⟩:=sv_is h3
  exact⟨q,t,h4⟩
structure ExcAt(K:Frag)(x:Str)(cl uI N NE:Addr):Prop where
 mg:nsIn K mainGlobals x=some (some (.ref cl))
 at1:∃(nm q:Str) (bs:List Value) (hdct:Bool) (sn:List Str) (sub:List Value) (ab:Bool) (col:Option Bool) (dd:Option Addr) (k0 k1 k2 k3 k5:Option Value),K.lookup cl=some (excClassObj nm q cl N bs (.ref uI::u6) hdct sn sub ab col dd k0 k1 k2 k3 k5 "Exception.__new__")
 atN:K.lookup N=some (gJ K N)
 dN:uM (gJ K N)=true
 nN:∀x∈zy,nsFind (eX (gJ K N)) x=none
 atE:∃(c0:Value) (aO:Option Addr) (cd:ClassData) (sl:Array (Option Value)),K.lookup uI=some { cls:=c0,dict:=aO,data:= .cls cd,slots:=sl }/\cd.ns=NE
 atM:K.lookup NE=some (gJ K NE)
 dM:uM (gJ K NE)=true
 nM:∀x∈zy,nsFind (eX (gJ K NE)) x=none
theorem ExcAt.exc{x:Str}{cl uI N NE:Addr}(E:ExcAt K x cl uI N NE)(X:K.In h):bI h cl uI:=by
 obtain⟨nm,q,bs,hdct,sn,sub,ab,col,dd,k0,k1,k2,k3,k5,e1⟩:=E.at1
 show uV E.atE fun c0 aO cd sl e2 e3=> ?_
 show⟨nm,q,N,bs,hdct,sn,sub,ab,col,dd,k0,k1,k2,k3,k5,"Exception.__new__","Exception","Exception.__init__",[.type "Exception",.type "BaseException",.type "object"],c0,aO,cd,sl,_,_,F.excBase_Exception,by decide+kernel,X _ _ e1,ns_of X E.atN E.dN,E.nN,X _ _ e2,?_,E.nM⟩
 rw[e3]
 exact ns_of X E.atM E.dM
structure RedAt(K:Frag)(f:Fn)(a c dt ai:Addr):Prop where
 ok:o8 f
 mg:nsIn K mainGlobals "reduce"=some (some (.ref a))
 at1:K.lookup a=some (gJ K a)
 dat:(gJ K a).data= .func { docDef "reduce" f.params f.body f.scope (lX (gJ K a)).pyModule (.ref c) (lX (gJ K a)).doc with defaults:= .ref dt }
 at2:K.lookup c=some (gJ K c)
 nm:iH (gJ K c)=some "reduce"
 at3:K.lookup dt=some (gJ K dt)
 d3:(gJ K dt).data= .seq #[.ref ai] 0
 mgi:nsIn K mainGlobals "_initial_missing"=some (some (.ref ai))
 at4:K.lookup ai=some (gJ K ai)
 d4:(gJ K ai).cls= .type "object"
structure AllK(K:Frag)(fns:List (Str×Fn))(tab:D)(c P:Addr):Prop where
 noT:noTabs K=true
 fn:∀q∈fns,∃a c,FnAt K q.1 q.2 a c
 okf:∀q∈fns,oL q.2=true
 tab:∃v,nsIn K mainGlobals "_filemode_table"=some (some v)/\iB K 5 v=some tab
 bi:∀x∈y9,nsIn K mainGlobals x=some none
 red:∃f a c dt ai,RedAt K f a c dt ai
 hd:codeHdIn K c P=true
 exc:∃xD xH uI NR NP NE,ExcAt K "error_reply" xD uI NR NE/\ExcAt K "error_proto" xH uI NP NE/\xD≠xH/\xD≠uI/\xH≠uI
noncomputable abbrev cxOf(prog:Program)(w:World)(h:Heap)(P:Addr)(mg mb:Str->Option Value)(fns:List (Str×Fn))(tab:D)(c:Addr)(lq:Str):Cx:=
 ⟨prog,w,h,P,mg,mb,fns,[("_filemode_table",tab)],c,lq⟩
theorem gG{α:Type}{l:List (Str×α)}:∀{x:Str} {f:α},l.lookup x=some f->(x,f)∈l:=by
 induction l with
 |nil=>
  intro _ _ e
  cases e
 |cons q0 r ih=>
  obtain⟨b,y⟩:=q0
  intro x f e
  rw[jMz] at e
  generalize hb:(x==b)=x0;induction x0 using cT with
  |true=>rw[hb] at e;replace e:=jX e;subst e;rw[eq_of_beq hb];exact .head _
  |false=>rw[hb] at e;exact .tail _ (ih e)
set_option maxHeartbeats 4000000 in
theorem base_of{prog p:Program}{w:World}{h1:Heap}{c P:Addr}{loose:List Str}{cj:ExcName->Option Value}{fns:List (Str×Fn)}{tab:D}{lq:Str}(hT:TabsAt [(c,P)] h1)(X1:K.In h1)(T:Top p loose cj mg mb h1)(imp:importsNone p=true)(A:AllK K fns tab c P):
  Base (cxOf prog w (ghostOf h1 [(c,P)]) P mg mb fns tab c lq):=by
 have X:K.In (ghostOf h1 [(c,P)]):=ghost_K hT X1 A.noT
 have T':=ghost_top hT T
 have G:=T'.g
 show
  { g:=G
    b:=T'.b
    nolimit:=T'.nolimit
    hP:=hideAll_none _ (by simp)
    fn:=fun x f e=> ?_
    okf:=fun x f e=>A.okf _ (gG e)
    gl:=fun x d e=> ?_
    bi:=fun x hx=>⟨mg_none_of X G (A.bi x hx),T'.builtins x ?_⟩
    sys:= ?_
    red:= ?_
    hd:=codeHd_of_K X A.hd
    bat:= ?_
    exc:= ?_ }
 .show oP (A.fn _ (gG e)) fun a c' F=> ?_
  show uX (F.is X G) fun e1 e2 e3=> ?_
  exact⟨a,_,_,_,_,e1,e2,F.dat,e3⟩
 .have e':=gG e
  replace e':=jw.mp e'
  obtain⟨rfl,rfl⟩:=e'
  show jE A.tab fun v e1 e2=> ?_
  exact⟨v,mg_of X G e1,jIp X 5 v _ e2⟩
 .rintro rfl
  exact absurd hx kD
 .have:=(T.seer imp)
  obtain⟨_,⟨m,hm,_⟩,_⟩:=this
  show oO (ghost_ns hT hm) fun o es ep ho _=> ?_
  show(?_:((ghostOf h1 [(c,P)]).get? sysModules).isSome=true)
  rw[ho];rfl
 .obtain⟨f,a,c',dt,ai,r⟩:=A.red
  exact⟨f,a,_,_,_,_,dt,ai,_,_,_,r.ok,mg_of X G r.mg,X _ _ r.at1,r.dat,codeRec_of X r.at2 r.nm,X _ _ r.at3,r.d3,mg_of X G r.mgi,X _ _ r.at4,r.d4⟩
 .obtain⟨bm,ob,b1,b2,b3,b4,b5,b6⟩:=T'.bmain
  show⟨bm,ob,b1,b2,fun e=> ?_,b3,b4,b5,b6⟩
  show ja G fun o es ep ho hd _=> ?_;clear G
  rw[<-e,b3] at ho
  replace ho:=jX ho;subst ho
  rw[b6] at hd;cases hd
 .obtain⟨xD,xH,uI,NR,NP,NE,r1,r2,r3⟩:=A.exc
  exact⟨xD,xH,uI,mg_of X G r1.mg,mg_of X G r2.mg,r1.exc X,r2.exc X,r3⟩
structure ExcKAt(K:Frag)(xD xH:Addr):Prop where
 mR:nsIn K mainGlobals "error_reply"=some (some (.ref xD))
 mP:nsIn K mainGlobals "error_proto"=some (some (.ref xH))
 ne:xD≠xH
 ex:∀c∈[xD,xH],∀c'∈[xD,xH],exmOne K (.ref c) (.ref c')=some (decide (c=c'))
 base:∀c∈[xD,xH],subIn K (.ref c) (.type "BaseException")=some true
 str:∀c∈[xD,xH],findIn K (.ref c) "__str__"=some (some (.builtin "BaseException.__str__"))
theorem ExcKAt.is{xD xH:Addr}(E:ExcKAt K xD xH)(X:K.In C.g0)(G:C.g0.Ns mainGlobals C.mg):wb C xD xH where
 mR:=mg_of X G E.mR
 mP:=mg_of X G E.mP
 ne:=E.ne
 ty:=fun M c hc=>⟨exm_ty X (E.ex c hc c hc),(exm_cls X (E.ex c hc c hc)).1⟩
 sub:=fun M c hc c' hc'=>(exm_cls X (E.ex c hc c' hc')).2
 base:=fun M c hc=>looks_subIn X (E.base c hc)
 str:=fun M c hc=>looks_findIn X (E.str c hc)
noncomputable abbrev Cx.bare(C:Cx):Cx:={ C with fns:=[] }
variable{J:List Addr}{N:yR}{s₁ s2:Shared}{Z Z':Addr->Prop}
theorem Base.bare(b:Base C):Base C.bare where
 g:=b.g
 b:=b.b
 nolimit:=b.nolimit
 hP:=b.hP
 fn:=fun x f e=>by cases e
 okf:=fun x f e=>by cases e
 gl:=b.gl
 bi:=b.bi
 sys:=b.sys
 red:=b.red
 hd:=b.hd
 bat:=b.bat
 exc:=b.exc
theorem jd.full(t:jd C.bare h):jd C h:=let ⟨a,b,c,d⟩:=t;⟨a,b,c,d⟩
theorem Gr.full(g:Gr C.bare s)(h:0<s.toks):Gr C s:=⟨g.keep,g.tab.full,fun _=>h⟩
theorem FS.full(bs:Base C)(fs:FS C.bare n k A env Y OL l s)(h:0<s.toks):FS C n k A env Y OL l s where
 pre:=⟨bs,fs.pre.a,⟨fs.pre.eo.kind,fs.pre.eo.glob,fs.pre.eo.bi,fs.pre.eo.cells,fs.pre.eo.lam⟩,fs.pre.gr.full h,fs.pre.hP,fs.pre.hY,fs.pre.hYs,fs.pre.fm,fs.pre.hc,fs.pre.loc⟩
 hP:=fs.hP
 cY:=fs.cY
 own:=⟨fs.own.ne,fs.own.code,fs.own.ex⟩
 wY:=fs.wY
 nY:=fs.nY
 ap:=fs.ap
 cw:=fs.cw
 lst:=fs.lst
theorem jJc{prog:Program}{w:World}{P:Params}{ns:List Int}:∀{vs:List Value},WellAll P h vs (ofPys (ns.map .int))->∀H:HV,Rs prog w H vs (ns.map .int):=by
 induction ns with
 |nil=>intro vs w _;cases w;exact .nil
 |cons i ns ih=>
  intro vs w H
  have w:WellAll P h _ (.cons (.int i) (ofPys (ns.map .int))):=w
  cases w with
  |cons a b=>
   cases a
   exact .cons (.int i _) (ih b H)
theorem script_of{prog:Program}{w:World}{P:Params}{la:Addr}{ns:List Int}(w1:Well P h (.ref la) (ofPy (.list (ns.map .int)))):∃vs,h.get? la=some (j4 vs 0)/\∀H:HV,Rs prog w H vs (ns.map .int):=by
 cases w1 with
 |list e a=>exact⟨_,e,jJc a⟩
abbrev EndQ1(C:Cx)(s₁:Shared)(f:Flow)(s':Shared):Prop:=f= .ret (.bool true)/\Gr C.bare s'/\∃h tk,s'={ s₁ with heap:=h,toks:=tk }
theorem law_enter{fn:Fn}{fa la:Addr}{o:Obj}{pm doc:Value}{vs:List Value}{ns:List Int}{c:ClaimW}{cl:Str->Option Addr}{cj:ExcName->Option Value}{args:List WData}(bs:Base C)(h0:C.g0=ghostOf s₁.heap [(C.c,C.P)])(hP:s₁.heap.get? C.P=some (tabObj #[]))(hg:s₁.gens= #[])
  (okf:oL fn=true) (hn:fn.names=(["script"]:List Str)) (ho:s₁.heap.get? fa=some o) (hd:o.data= .func (docDef "law" fn.params fn.body fn.scope pm (.ref C.c) doc)) (hcd:s₁.heap.CodeRec (.ref C.c) "law") (hlq:("law":Str)++(".<locals>.":Str)++("<lambda>":Str)=C.lq)
  (hL:s₁.heap.get? la=some (j4 vs 0)) (hI:∀H:HV,Rs C.prog C.w H vs (ns.map .int)) (hpost:c.post args (.bool true) args=true) (hr:∀x,c.raises args x=false) (room:n<=190)
  (body:∀env s,KP C.bare s₁ s->FS C.bare n true (callerA.deeper env) env (jB env++[C.P]) [] (jA (fun _=>none) "script" (.val (.list (ns.map .int)))) s->env.scope=fn.scope->env.frame=some env.locals->(∀p∈env.cells,p.2∈jB env)->
   wpAny C.M (callerA.deeper env) (execs fn.body env) (EndQ1 C s₁) NE s):
  codeAny C.M callerA (.call (.ref fa) ⟨[.ref la],[]⟩) (fun r s'=>GoodW c cl cj args { s₁ with heap:=ghostOf s₁.heap [(C.c,C.P)] } r s'/\GrownAll [(C.c,C.P)] s'.heap) s₁:=by
 have ok:=wH okf
 have gr:Gr C.bare s₁:=⟨fun b o e=>by
  have e:C.g0.get? b=some o:=e
  rw[h0] at e;exact of_hideAll _ e,⟨#[],hP,trivial,fun pos cv e=>by cases e⟩,fun e=>by cases e⟩
 have vE:xu fn.names [.list (ns.map .int)]=some (jA (fun _=>none) "script" (.val (.list (ns.map .int)))):=by rw[hn];rfl
 have lL:claimMargin=300:=by decide+kernel
 have vJ:xv n callerA:=⟨rfl,by show(?_:1+claimMargin+1+3 * n<900);rw[lL];lia,by show(?_:4+4+40 * n<9000);lia⟩
 have hlP:la≠C.P:=fun e=>by rw[e,hP] at hL;cases hL
 have rd:qM C.bare s₁.heap [C.P] [.ref la] [.list (ns.map .int)]:= .cons (.list (n:=0) (jT hL (by simpa using hlP)) (hI _)) .nil
 show jO4 (fd:=docDef "law" fn.params fn.body fn.scope pm (.ref C.c) doc) (body:=fn.body) (by show(?_:1+claimMargin<recursionLimit);rw[lL];decide) ho hd ok.co ok.gen rfl hcd ?_
 have hlen:fn.names.length=[Value.ref la].length:=by rw[hn];rfl
 rw[qU ok.plain rfl (by show(?_:fn.params.args.length=_);simpa [Fn.names] using hlen)]
 show jMr (ne ?_)
 show zZ (C:=C.bare) (k:=true) (n:=n) (A:=callerA) (Y:=[C.P]) ok bs.bare gr yS (m1 bs.hP) (m1 ⟨_,hP⟩) (fun env=>vJ.deeper) vE rd (fun _=>⟨rfl,hlq⟩)
  fun env s1 kp fs oF hc qE uA=>⟨bs.nolimit.keeps (gr.kp bs.bare kp).keep,jQq ?_⟩
 show jNh (body env s1 kp fs qE uA hc) (fun f s' hq=> ?_) fun _ _ x=>x.elim
 obtain⟨rfl,g',h',tk,rfl⟩:=hq
 show⟨⟨.inl ⟨.bool true,.bool true,[],rfl,hr,.bool true,hpost,fun _=>⟨jO3,fun a ha=>nomatch ha⟩⟩,fun b o e=>g'.keep b o (by rw[<-h0] at e;exact e),rfl,hg⟩,?_,trivial⟩
 obtain⟨ps,e,_⟩:=g'.tab
 exact⟨ps,e⟩
noncomputable def fZ:Expr:= .Constant .none 0 ⟨0,0,0,0⟩
noncomputable def qI(b:List Stmt)(i:Nat):Stmt:=b.getD i (.Pass ⟨0,0,0,0⟩)
noncomputable def rE(b:List Expr)(i:Nat):Expr:=b.getD i (.Constant .none 0 ⟨0,0,0,0⟩)
noncomputable def sJ(e:Stmt):Expr:=by
 induction e using cS with
 |For t _ _ _ _=>exact t
 |_=>exact fZ
noncomputable def itE(e:Stmt):Expr:=by
 induction e using cS with
 |For _ i _ _ _=>exact i
 |_=>exact fZ
noncomputable def yx(e:Stmt):List Stmt:=by
 induction e using cS with
 |For _ _ b _ _=>exact b
 |_=>exact[]
noncomputable def forO(e:Stmt):List Stmt:=by
 induction e using cS with
 |For _ _ _ b _=>exact b
 |_=>exact[]
noncomputable def ak(e:Stmt):Expr:=by
 induction e using cS with
 |If t _ _ _=>exact t
 |_=>exact fZ
noncomputable def ao(e:Stmt):List Stmt:=by
 induction e using cS with
 |If _ b _ _=>exact b
 |_=>exact[]
noncomputable def ifO(e:Stmt):List Stmt:=by
 induction e using cS with
 |If _ _ b _=>exact b
 |_=>exact[]
noncomputable def whB(e:Stmt):List Stmt:=by
 induction e using cS with
 |While _ b _ _=>exact b
 |_=>exact[]
noncomputable def bZ(e:Stmt):Expr:=by
 induction e using cS with
 |Assign _ v _=>exact v
 |_=>exact fZ
noncomputable def asT(e:Stmt):Expr:=by
 induction e using cS with
 |Assign ts _ _=>exact rE ts 0
 |_=>exact fZ
noncomputable def retE(e:Stmt):Expr:=by
 induction e using cS with
 |Return v _=>exact v.getD fZ
 |_=>exact fZ
noncomputable def tryH(e:Stmt):List ExceptHandler:=by
 induction e using cS with
 |Try _ hs _ _ _=>exact hs
 |_=>exact[]
noncomputable def tupE(e:Expr):List Expr:=by
 induction e using cE with
 |Tuple es _ _=>exact es
 |_=>exact[]
noncomputable def slcE(e:Expr):Expr:=by
 induction e using cE with
 |Subscript _ i _=>exact i
 |_=>exact fZ
noncomputable def bG(e:Expr):List Expr:=by
 induction e using cE with
 |Call _ as _ _=>exact as
 |_=>exact[]
noncomputable def binL?(e:Expr):Option Expr:=by
 induction e using cE with
 |BinOp a _ _ _=>exact some a
 |_=>exact none
noncomputable def lr(e:Expr):Expr:=by
 induction e using cE with
 |ListComp e _ _ _=>exact e
 |_=>exact fZ
noncomputable def isSlice(e:Expr):Bool:=by
 induction e using cE with
 |Slice _ _ _ _=>exact true
 |_=>exact false
noncomputable def fnS(e:Stmt):Option (Str×Fn):=by
 induction e using cS with
 |FunctionDef name args body _ _ _ scope _ _ _=>exact some (name,⟨args,body,scope⟩)
 |_=>exact none
noncomputable def fnsAll(p:Program):List (Str×Fn):=p.main.body.filterMap fnS
noncomputable def fn0:Fn:=⟨⟨[],[],none,[],[],none,[]⟩,[],⟨.function,[],false,false,[]⟩⟩
noncomputable def fnAt(p:Program)(f:Str):Fn:=((fnsAll p).lookup f).getD fn0
noncomputable def jCx(b:List Stmt):Expr:=slcE (asT (qI b 3))
noncomputable def jC0(b:List Stmt):Expr:=rE (tupE (retE (qI b 4))) 1
noncomputable def dk(b:List Stmt):Stmt:=qI b 0
noncomputable def m4(b:List Stmt):List Stmt:=(whB (qI b 1)).take 5
noncomputable def posH2:List Pos:=[⟨132,4,132,8⟩,⟨132,10,132,15⟩,⟨132,17,132,24⟩,⟨132,4,132,24⟩,⟨132,27,132,32⟩,⟨132,4,132,32⟩,⟨134,16,134,20⟩,⟨134,22,134,27⟩,⟨134,31,134,39⟩,⟨134,40,134,45⟩,⟨134,31,134,46⟩,⟨134,30,134,47⟩,⟨134,22,134,47⟩,⟨134,49,134,56⟩,⟨134,15,134,57⟩,⟨134,8,134,57⟩,⟨135,11,135,22⟩,⟨136,8,136,13⟩,⟨136,16,136,19⟩,⟨136,20,136,25⟩,⟨136,16,136,26⟩,⟨136,8,136,26⟩,⟨135,4,136,26⟩,⟨133,4,136,26⟩,⟨138,8,138,13⟩,⟨138,16,138,24⟩,⟨138,25,138,30⟩,⟨138,33,138,39⟩,⟨138,41,138,43⟩,⟨138,32,138,44⟩,⟨138,16,138,45⟩,⟨138,8,138,45⟩,⟨139,11,139,22⟩,⟨140,16,140,20⟩,⟨140,22,140,27⟩,⟨140,29,140,36⟩,⟨140,40,140,45⟩,⟨140,48,140,51⟩,⟨140,52,140,57⟩,⟨140,48,140,58⟩,⟨140,40,140,58⟩,⟨140,39,140,59⟩,⟨140,29,140,59⟩,⟨140,15,140,60⟩,⟨140,8,140,60⟩,⟨139,4,140,60⟩,⟨141,11,141,22⟩,⟨142,16,142,20⟩,⟨142,22,142,27⟩,⟨142,29,142,36⟩,⟨142,40,142,43⟩,⟨142,44,142,49⟩,⟨142,40,142,50⟩,⟨142,39,142,51⟩,⟨142,29,142,51⟩,⟨142,15,142,52⟩,⟨142,8,142,52⟩,⟨141,4,142,52⟩,⟨137,4,142,52⟩,⟨143,4,143,8⟩,⟨143,4,143,19⟩,⟨143,22,143,27⟩,⟨143,4,143,27⟩,⟨144,12,144,16⟩,⟨144,30,144,37⟩,⟨144,11,144,38⟩,⟨144,4,144,38⟩]
noncomputable def zQ:Fn:=fnAt Challenge.pw_oy0159_02 "_law_heard"
theorem hrd2:kr zQ "heard" "spoiled" (jCx zQ.body) (jC0 zQ.body) where
 ok:=kR
 names:=kR
 loc:=by decide+kernel
 glb:=by decide+kernel
 ne1:=by decide+kernel
 ne2:=by decide+kernel
 dbg:=by decide+kernel
 shape:=⟨fun k=>posH2.getD k ⟨0,0,0,0⟩,kR,kR⟩
noncomputable def posC2:List Pos:=[⟨17,10,17,14⟩,⟨32,12,32,15⟩,⟨32,19,32,28⟩,⟨33,15,33,18⟩,⟨33,19,33,20⟩,⟨33,15,33,21⟩,⟨33,25,33,34⟩,⟨33,15,33,34⟩,⟨34,20,34,23⟩,⟨34,24,34,25⟩,⟨34,20,34,26⟩,⟨34,16,34,26⟩,⟨33,12,34,26⟩,⟨32,8,34,26⟩,⟨17,4,34,26⟩]
noncomputable def yl:Fn:=fnAt Challenge.pw_oy0159_02 "_c3_merge"
theorem c3f2:bK yl (dk yl.body) (m4 yl.body) where
 ok:=kR
 names:=kR
 seq:=kR
 shape:=⟨fun k=>posC2.getD k ⟨0,0,0,0⟩,kR⟩
theorem jMa(fns:List (Str×Fn))(glob:xQ)(n:Nat):∀l:jN,∃l1,qd (ev fns glob (n+2)) false yl.scope l [dk yl.body]=some (.next,l1)/\l1 "result"=some (.own [])/\∀y:Str,y≠"result"->l1 y=l y:=by
 intro l
 show wy (jA l "result" (.own [])) (by rfl) (by unfold jA;rw[if_pos rfl]) (fun y hy=>by unfold jA;rw[if_neg hy])
end
section
variable{r:Ev}{k:Bool}{sc:Scope}{l:Loc}{g:Comprehension}{deep:Loc->Option (List D)}
theorem vC{α:Type}(f:α->D)(t:α->Bool)(e:α->List D)(xs:List α)(h:∀x∈xs,∃l',wq l g.target (f x)=some l'/\qx r k sc l' g.ifs=some (t x)/\(t x=true->deep l'=some (e x))):
  compLoop r k sc l g deep (xs.map f)=some (xs.flatMap fun x=>if t x then e x else []):=by
 induction xs with
 |nil=>rfl
 |cons x xs ih=>
  show qk (h x jy) fun l' h1 h2 h3=> ?_
  have ih:=ih fun y hy=>h y (qV _ hy)
  show(?_:(do
   let l'<-wq l g.target (f x)
   let ok<-qx r k sc l' g.ifs
   let here<-if ok then deep l' else some []
   let more<-compLoop r k sc l g deep (xs.map f)
   some (here++more))=_)
  rw[h1,ih]
  generalize ht:t x=x0;induction x0 using cT with
  |true=>
   rw[ht] at h2
   simp[h2,h3 ht,ht]
  |false=>
   rw[ht] at h2
   simp[h2,ht]
variable{fns:List (Str×Fn)}{glob:xQ}{jM:Scope}{gs:List Comprehension}{elt:Expr}{pos:Pos}{n:Nat}
theorem evComp{α:Type}(f:α->D)(t:α->Bool)(e:α->D)(xs:List α)(hit:(ev fns glob n).E k sc l g.iter=some (.list (xs.map f)))(ok:jk sc jM [g]=true)
  (h:∀x∈xs,∃l',wq (jF jM l) g.target (f x)=some l'/\qx (ev fns glob n) k (jO sc jM) l' g.ifs=some (t x)/\(t x=true->(ev fns glob n).E k (jO sc jM) l' elt=some (e x))) (hl:xs.length<=lim):
  (ev fns glob (n+1)).E k sc l (.ListComp elt [g] jM pos)=some (.list ((xs.filter t).map e)):=by
 have h1:compLoop (ev fns glob n) k (jO sc jM) (jF jM l) g (fun l'=>((ev fns glob n).E k (jO sc jM) l' elt).map fun x=>[x]) (xs.map f)=some (xs.flatMap fun x=>if t x then [e x] else []):=by
  show vC f t (fun x=>[e x]) xs fun x hx=> ?_
  show qk (h x hx) fun l' a b c=> ?_
  exact wy l' a b (fun ht=>by rw[c ht];rfl)
 have h2:(xs.flatMap fun x=>if t x then [e x] else [])=(xs.filter t).map e:=by
  clear h h1 hit hl
  induction xs with
  |nil=>rfl
  |cons x xs ih=>
   rw[jSk,ih]
   generalize ht:t x=x0;induction x0 using cT with
   |true=>simp[List.filter_cons,ht]
   |false=>simp[List.filter_cons,ht]
 rw[h2] at h1
 have hlen:((xs.filter t).map e).length<=lim:=by
  rw[jMu]
  exact x8 (jNq _ _) hl
 show(?_:(do
   let its<-((ev fns glob n).E k sc l g.iter).bind ji
   if jk sc jM [g]=true then
    let ds<-comp (ev fns glob n) k (jO sc jM) (fun l'=>(ev fns glob n).E k (jO sc jM) l' elt) [g] (jF jM l) its
    if ds.length<=lim then some (D.list ds) else none
   else none)=_)
 rw[hit]
 show(?_:(if jk sc jM [g]=true then (do
    let ds<-compLoop (ev fns glob n) k (jO sc jM) (jF jM l) g (fun l'=>((ev fns glob n).E k (jO sc jM) l' elt).map fun x=>[x]) (xs.map f)
    if ds.length<=lim then some (D.list ds) else none) else none)=_)
 rw[jMt ok,h1]
 show(?_:(if ((xs.filter t).map e).length<=lim then some (D.list ((xs.filter t).map e)) else none)=_)
 rw[jMt hlen]
noncomputable def td:Scope:={ kind:= .function,names:=[(".0",.local),("s",.local)],isGenerator:=false,isCoroutine:=false,more:=[] }
noncomputable def t8(p:Nat->Pos):List Stmt:=[
 .Assign [.Name "sequences" (p 0)] (.ListComp (.Name "s" (p 1)) [⟨.Name "s" (p 2),.Name "sequences" (p 3),[.Name "s" (p 4)],0⟩] td (p 5)) (p 6),
 .If (.UnaryOp .Not (.Name "sequences" (p 7)) (p 8)) [.Return (some (.Name "result" (p 9))) (p 10)] [] (p 11),
 .For (.Name "s1" (p 12)) (.Name "sequences" (p 13)) [
  .Assign [.Name "candidate" (p 14)] (.Subscript (.Name "s1" (p 15)) (.Constant (.int 0) 0 (p 16)) (p 17)) (p 18),
  .For (.Name "s2" (p 19)) (.Name "sequences" (p 20)) [
   .If (.Compare (.Name "candidate" (p 21)) [.In] [.Subscript (.Name "s2" (p 22)) (.Slice (some (.Constant (.int 1) 0 (p 23))) none none (p 24)) (p 25)] (p 26))
    [.Assign [.Name "candidate" (p 27)] (.Constant .none 0 (p 28)) (p 29),.Break (p 30)] [] (p 31)] [.Break (p 32)] (p 33)] [] (p 34),
 .If (.Compare (.Name "candidate" (p 35)) [.Is] [.Constant .none 0 (p 36)] (p 37)) [.Raise (some (.Call (.Name "RuntimeError" (p 38)) [.Constant (.str "Inconsistent hierarchy") 0 (p 39)] [] (p 40))) none (p 41)] [] (p 42),
 .Expr (.Call (.Attribute (.Name "result" (p 43)) "append" (p 44)) [.Name "candidate" (p 45)] [] (p 46)) (p 47)]
noncomputable def posM2:List Pos:=[⟨18,8,18,17⟩,⟨18,21,18,22⟩,⟨18,27,18,28⟩,⟨18,32,18,41⟩,⟨18,45,18,46⟩,⟨18,20,18,47⟩,⟨18,8,18,47⟩,⟨19,15,19,24⟩,⟨19,11,19,24⟩,⟨20,19,20,25⟩,⟨20,12,20,25⟩,⟨19,8,20,25⟩,⟨21,12,21,14⟩,⟨21,18,21,27⟩,⟨22,12,22,21⟩,⟨22,24,22,26⟩,⟨22,27,22,28⟩,⟨22,24,22,29⟩,⟨22,12,22,29⟩,⟨23,16,23,18⟩,⟨23,22,23,31⟩,⟨24,19,24,28⟩,⟨24,32,24,34⟩,⟨24,35,24,36⟩,⟨24,35,24,37⟩,⟨24,32,24,38⟩,⟨24,19,24,38⟩,⟨25,20,25,29⟩,⟨25,32,25,36⟩,⟨25,20,25,36⟩,⟨26,20,26,25⟩,⟨24,16,26,25⟩,⟨28,16,28,21⟩,⟨23,12,28,21⟩,⟨21,8,28,21⟩,⟨29,11,29,20⟩,⟨29,24,29,28⟩,⟨29,11,29,28⟩,⟨30,18,30,30⟩,⟨30,31,30,55⟩,⟨30,18,30,56⟩,⟨30,12,30,56⟩,⟨29,8,30,56⟩,⟨31,8,31,14⟩,⟨31,8,31,21⟩,⟨31,22,31,31⟩,⟨31,8,31,32⟩,⟨31,8,31,32⟩]
theorem mid2:m4 yl.body=t8 (fun k=>posM2.getD k ⟨0,0,0,0⟩):=kR
end
section
variable{fns:List (Str×Fn)}{glob:xQ}{k:Bool}{sc:Scope}{l:jN}{n:Nat}
theorem ud{x:Str}{p:Pos}{l:Loc}(h1:(x==("__debug__":Str)||x==("__classdict__":Str))=false)(hk:sc.names.lookup x=some .local\/sc.names.lookup x=some .cell\/sc.names.lookup x=some .free):(ev fns glob (n+1)).E k sc l (.Name x p)=l x:=by
 show(?_:(if (x==("__debug__":Str)||x==("__classdict__":Str))=true then none else (sc.names.lookup x).bind fun kd=>iG kd (l x) (if (fns.lookup x).isSome then none else glob.lookup x))=l x)
 rw[h1]
 rcases hk with hk|hk|hk <;> rw[hk] <;> rfl
theorem jEc{hs:List Addr}{cur:Addr->List Str}{p1 p2 p3 p4 p5 p6:Pos}(hk:sc.names.lookup ("sequences":Str)=some .local)(ok:jk sc td [⟨.Name "s" p2,.Name "sequences" p3,[.Name "s" p4],0⟩]=true)
  (hl:l "sequences"=some (.val (.list (qJ hs cur)))) (hlen:hs.length<=lim) (xc:∀a∈hs,(cur a).length<=lim):
  (ev fns glob (n+3)).E false sc (j3 l) (.ListComp (.Name "s" p1) [⟨.Name "s" p2,.Name "sequences" p3,[.Name "s" p4],0⟩] td p5)=some (.list (qJ (hs.filter fun a=> !(cur a).isEmpty) cur)):=by
 have tj:(jO sc td).names.lookup ("s":Str)=some .local:=by rfl
 show evComp (fun a=>D.lref a ((cur a).map .str)) (fun a=> !(cur a).isEmpty) (fun a=>D.lref a ((cur a).map .str)) hs ?_ ok (fun a ha=> ?_) hlen
 .show(?_:(ev fns glob (n+2)).E false sc (j3 l) (.Name "sequences" p3)=_)
  rw[ud kD (.inl hk)]
  unfold j3;rw[hl]
 .show wy (jA (jF td (j3 l)) "s" (.lref a ((cur a).map .str))) ?_ ?_ (fun _=> ?_)
  .show(?_:(if (jF td (j3 l) "s").isSome=true then none else some (jA (jF td (j3 l)) "s" (D.lref a ((cur a).map .str))))=_)
   rw[jMv]
   unfold jF
   rw[jMv kD]
   simp
  .show(?_:((ev fns glob (n+2)).E false (jO sc td) (jA (jF td (j3 l)) "s" (.lref a ((cur a).map .str))) (.Name "s" p4)).bind uC=_)
   rw[ud kD (.inl tj)]
   unfold jA
   rw[jMt rfl]
   show(?_:(if ((cur a).map D.str).length<=lim then some (!((cur a).map D.str).isEmpty) else none)=_)
   rw[jMt (by simpa using xc a ha)]
   simp
  .rw[ud kD (.inl tj)]
   unfold jA
   rw[jMt rfl]
noncomputable def xX(seqs:List (List Str))(c:Str):Bool:=seqs.all fun s=> !(s.drop 1).contains c
noncomputable def ym(seqs:List (List Str)):List (List Str)->Option Str
 |[]=>none
 |s::rest=>s.head?.bind fun c=>if xX seqs c then some c else ym seqs rest
noncomputable def vc:Nat->List (List Str)->Option (List Str)
 |0,_=>none
 |n+1,seqs=>
  let live:=seqs.filter fun s=> !s.isEmpty
  if live.isEmpty then some [] else (ym live live).bind fun c=>(vc n (live.map fun s=>if s.head? =some c then s.tail else s)).map (c::·)
theorem jEd(n:Nat)(seqs:List (List Str)):vc (n+1) seqs=if (seqs.filter fun s=> !s.isEmpty).isEmpty then some [] else (ym (seqs.filter fun s=> !s.isEmpty) (seqs.filter fun s=> !s.isEmpty)).bind fun c=>(vc n ((seqs.filter fun s=> !s.isEmpty).map fun s=>if s.head? =some c then s.tail else s)).map (c::·):=rfl
theorem jGb{α:Type}(ds:List α)(n:Nat):∀(a:Nat),a+n<=ds.length->((List.range n).map fun k=>a+k).filterMap (ds[·]?)=(ds.drop a).take n:=by
 induction n with
 |zero=>
  intro a _
  simp
 |succ n ih=>
  intro a h
  rw[jRs,jNr,List.filterMap_append,ih a (by show x8 ?_ (by assumption);simp+arith),List.take_add_one,List.getElem?_drop]
  have:a+n<ds.length:=by lia
  simp[this]
theorem srange(a n:Nat):sliceRange (a:Int) ((a+n:Nat):Int) 1=(List.range n).map fun k=>a+k:=by
 unfold sliceRange
 rw[jMt kD]
 have e:(if (a:Int)<((a+n:Nat):Int) then (((a+n:Nat):Int) - (a:Int)+1 - 1) / 1 else 0)=(n:Int):=by
  induction n using cN with
  |zero=>rw[jMv (show¬(a:Int)<((a+0:Nat):Int) from Int.lt_irrefl _)];rfl
  |succ n=>
   rw[jMt (Int.ofNat_lt.mpr (Nat.lt_add_of_pos_right (jRk n))),Int.add_sub_cancel,Int.ediv_one,Int.natCast_add,Int.add_comm,Int.add_sub_cancel]
 show(?_:(List.range (if (a:Int)<((a+n:Nat):Int) then (((a+n:Nat):Int) - (a:Int)+1 - 1) / 1 else 0).toNat).map (fun k:Nat=>((a:Int)+1 * (k:Int)).toNat)=_)
 rw[e]
 show jPx fun k _=> ?_
 rw[Int.one_mul]
 rfl
theorem jHl(ds:List D){lo hi:Option Int}{a:Nat}(h:sliceBounds lo hi none ds.length=((a:Int),((a+n:Nat):Int),1))(hl:a+n<=ds.length):pick ds lo hi none=(ds.drop a).take n:=by
 unfold pick
 rw[h]
 exact(jM8 (List.filterMap (ds[·]?)) (srange a n)).trans (jGb ds n a hl)
theorem pick_from(ds:List D)(a:Nat):pick ds (some (a:Int)) none none=ds.drop a:=by
 have e:min a ds.length+(ds.length - min a ds.length)=ds.length:=jR4 (Nat.min_le_right _ _)
 have h1:(sliceBounds (some (a:Int)) none none ds.length)=(((min a ds.length:Nat):Int),((min a ds.length+(ds.length - min a ds.length):Nat):Int),1):=by
  rw[e,<-clipAt_nat ds.length a]
  exact sliceBounds_plain _ _ _
 rw[jHl ds h1 (Nat.le_of_eq e),jOi (by rw[List.length_drop];exact jNi _)]
 by_cases h:a<=ds.length
 .rw[Nat.min_eq_left h]
 .rw[Nat.min_eq_right (Nat.le_of_not_le h),jPi nL,jPi (Nat.le_of_not_le h)]
theorem pick_to(ds:List D)(b:Nat):pick ds none (some (b:Int)) none=ds.take b:=by
 have h1:(sliceBounds none (some (b:Int)) none ds.length)=(((0:Nat):Int),((0+min b ds.length:Nat):Int),1):=by
  rw[jPr,<-clipAt_nat ds.length b]
  exact sliceBounds_plain _ _ _
 rw[jHl ds h1 (by rw[jPr];exact Nat.min_le_right _ _),List.drop_zero]
 exact List.take_eq_take_min.symm
theorem jLo(c:Str)(xs:List Str):inD (.str c) (.list (xs.map .str))=some (xs.contains c):=by
 have h1:(xs.map D.str).all (fun y=>D.like y (.str c)&&decide (D.dep y<=20))=true:=by
  rw[jNe]
  intro y hy
  show lE hy ?_;rintro x _ rfl
  rfl
 have h2:(xs.map D.str).any (fun y=>D.beq y (.str c))=xs.contains c:=by
  induction xs with
  |nil=>rfl
  |cons x xs ih=>
   rw[jNv,jR7,List.contains_cons,ih (by
    rw[jNv,jQj,Bool.and_eq_true] at h1
    exact h1.2)]
   congr 1
   show(?_:(x==c)=(c==x))
   exact BEq.comm
 show(?_:(if (xs.map D.str).all (fun y=>D.like y (.str c)&&decide (D.dep y<=20))=true then some ((xs.map D.str).any (fun y=>D.beq y (.str c))) else none)=_)
 rw[jMt h1,h2]
theorem jJn{x:Str}{a:Addr}{xs:List Str}{p1 p2 p3 p4:Pos}{l:Loc}(h1:(x==("__debug__":Str)||x==("__classdict__":Str))=false)(hk:sc.names.lookup x=some .local)(hl:l x=some (.lref a (xs.map .str)))(hlen:xs.length<=lim):
  (ev fns glob (n+2)).E k sc l (.Subscript (.Name x p1) (.Slice (some (.Constant (.int 1) 0 p2)) none none p3) p4)=some (.list (xs.tail.map .str)):=by
 show(?_:(((ev fns glob (n+1)).E k sc l (.Name x p1)).bind fun d=>(zF (ev fns glob (n+1)) k sc l (some (.Constant (.int 1) 0 p2))).bind fun lo=>(zF (ev fns glob (n+1)) k sc l none).bind fun hi=>(zF (ev fns glob (n+1)) k sc l none).bind fun st=>match d.flat with
   | .list ds=>if st≠some 0/\ds.length<=lim then some (D.list (pick ds lo hi st)) else none
   | .str x=>if st=none/\x.length<=lim then some (D.str (Txt.slice x lo hi)) else none
   |_=>none)=_)
 rw[ud h1 (.inl hk),hl]
 show(?_:(if (none:Option Int)≠some 0/\(xs.map D.str).length<=lim then some (D.list (pick (xs.map D.str) (some 1) none none)) else none)=_)
 rw[jMt ⟨by simp,by simpa using hlen⟩]
 have:=pick_from (xs.map D.str) 1
 rw[show ((1:Nat):Int)=1 from rfl] at this
 rw[this]
 cases xs <;> rfl
end
section
variable{fns:List (Str×Fn)}{glob:xQ}{r:Ev}{k:Bool}{sc jM:Scope}{l l1 l':jN}{s:Stmt}{ss:List Stmt}{f:Fl}{n:Nat}
theorem jV:qd r k sc l []=some (.next,l):=rfl
theorem jQ(h:r.S k sc l s=some (.next,l1)):qd r k sc l (s::ss)=qd r k sc l1 ss:=by
 show(?_:(r.S k sc l s).bind _=_)
 rw[h];rfl
theorem uP{d:D}(h:r.S k sc l s=some (.ret d,l1)):qd r k sc l (s::ss)=some (.ret d,l1):=by
 show(?_:(r.S k sc l s).bind _=_)
 rw[h];rfl
theorem yJ(h:r.S k sc l s=some (.brk,l1)):qd r k sc l (s::ss)=some (.brk,l1):=by
 show(?_:(r.S k sc l s).bind _=_)
 rw[h];rfl
theorem jHy{c:Str}{d:D}(h:r.S k sc l s=some (.exc c d,l1)):qd r k sc l (s::ss)=some (.exc c d,l1):=by
 show(?_:(r.S k sc l s).bind _=_)
 rw[h];rfl
theorem qC{d:D}(h:r.S k sc l s=some (.next,l1))(h2:(qd r k sc l1 ss).bind qB=some d):(qd r k sc l (s::ss)).bind qB=some d:=by rw[jQ h];exact h2
theorem o9{d:D}(h:r.S k sc l s=some (.ret d,l1)):(qd r k sc l (s::ss)).bind qB=some d:=by rw[uP h];rfl
theorem jS{x:Str}{p q:Pos}{e:Expr}{d:D}(hE:(ev fns glob n).E k sc (j3 l) e=some d)(h1:oR sc (.Name x p)=true)(h2:gZ.contains x=false):
  (ev fns glob (n+1)).S k sc l (.Assign [.Name x p] e q)=some (.next,jA l x (.val d)):=by
 show(vA (ev fns glob n) k n sc l x p q e).trans ?_
 rw[h1,h2,hE]
 rfl
theorem wB{x:Str}{p q:Pos}{e:Expr}{ds:List D}(hE:(ev fns glob n).E k sc (j3 l) e=some (.list ds))(h1:oR sc (.Name x p)=true)(h2:gZ.contains x=true)(h3:ze e=true):
  (ev fns glob (n+1)).S k sc l (.Assign [.Name x p] e q)=some (.next,jA l x (.own ds)):=by
 show(vA (ev fns glob n) k n sc l x p q e).trans ?_
 rw[h1,h2,hE,h3]
 rfl
theorem xy{t:Expr}{a b:List Stmt}{p:Pos}{c:Bool}(h:Bt (ev fns glob n) k sc (xW l) 4 t=some c):(ev fns glob (n+1)).S k sc l (.If t a b p)=qd (ev fns glob n) k sc l (if c then a else b):=by
 show(?_:(Bt (ev fns glob n) k sc (xW l) 4 t).bind (fun c=>if c=true then qd (ev fns glob n) k sc l a else qd (ev fns glob n) k sc l b)=_)
 rw[h]
 cases c <;> rfl
theorem kq{e:Expr}{p:Pos}{d:D}(h:(ev fns glob n).E k sc (xW l) e=some d):(ev fns glob (n+1)).S k sc l (.Return (some e) p)=some (.ret d,l):=by
 show(?_:((ev fns glob n).E k sc (xW l) e).map (fun d=>(Fl.ret d,l))=_)
 rw[h];rfl
theorem yQ{x:Str}{p q1 q2 q3:Pos}{a:Expr}{ds:List D}{d:D}(hl:l x=some (.own ds))(hE:(ev fns glob n).E k sc (j3 l) a=some d)(h1:(q1.endLine==q2.line)=true)(h2:PySem.W.isStarred a=false)(h3:(x==("__debug__":Str))=false)(h4:(x==("__classdict__":Str))=false)(hlen:ds.length<=lim):
  (ev fns glob (n+1)).S k sc l (.Expr (.Call (.Attribute (.Name x p) "append" q1) [a] [] q2) q3)=some (.next,jA l x (.own (ds++[d]))):=by
 show(?_:fJ (ev fns glob n) k sc l x "append" q1 a q2=_)
 unfold fJ
 rw[h1,h2,h3,h4,hl,hE]
 show(?_:(if ds.length<=lim then some (Fl.next,jA l x (.own (ds++[d]))) else none)=_)
 rw[jMt hlen]
theorem jMm{x:Str}{p q1 q2 q3:Pos}{a:Expr}{ds es:List D}(hl:l x=some (.own ds))(hE:(ev fns glob n).E k sc (j3 l) a=some (.list es))(h1:(q1.endLine==q2.line)=true)(h2:PySem.W.isStarred a=false)(h3:(x==("__debug__":Str))=false)(h4:(x==("__classdict__":Str))=false)(hlen:ds.length+es.length<=lim):
  (ev fns glob (n+1)).S k sc l (.Expr (.Call (.Attribute (.Name x p) "extend" q1) [a] [] q2) q3)=some (.next,jA l x (.own (ds++es))):=by
 show(?_:fJ (ev fns glob n) k sc l x "extend" q1 a q2=_)
 unfold fJ
 rw[h1,h2,h3,h4,hl,hE]
 show(?_:(if ds.length+es.length<=lim then some (Fl.next,jA l x (.own (ds++es))) else none)=_)
 rw[jMt hlen]
theorem m7{t i:Expr}{body orelse:List Stmt}{p:Pos}{its:List D}{res:Option (Fl×jN)}(h1:(oR sc t&& !qH i&&(vg t|| !xh i))=true)(hi:zR (ev fns glob n) k sc (j3 l) i=some its)
  (h:(match forL (ev fns glob n) k sc t body l its with
   |some (.next,l')=>(qd (ev fns glob n) k sc l' orelse).bind tH
   |some (.brk,l')=>some (.next,l')
   |x=>x)=res):
  (ev fns glob (n+1)).S k sc l (.For t i body orelse p)=res:=by
 show(?_:mB (ev fns glob n) k sc l t i body orelse=_)
 unfold mB
 rw[h1,hi,<-h]
 show(?_:(forL (ev fns glob n) k sc t body l its).bind _=_)
 cases forL (ev fns glob n) k sc t body l its with
 |none=>rfl
 |some x=>
  obtain⟨f,l'⟩:=x
  cases f <;> rfl
theorem dI{t i:Expr}{body:List Stmt}{p:Pos}{its:List D}(h1:(oR sc t&& !qH i&&(vg t|| !xh i))=true)(hi:zR (ev fns glob n) k sc (j3 l) i=some its)(h:forL (ev fns glob n) k sc t body l its=some (.next,l')):
  (ev fns glob (n+1)).S k sc l (.For t i body [] p)=some (.next,l'):=m7 h1 hi (by rw[h];show(?_:(qd (ev fns glob n) k sc l' []).bind tH=_);rw[jV];rfl)
theorem rj{t i:Expr}{body orelse:List Stmt}{p:Pos}{its:List D}(h1:(oR sc t&& !qH i&&(vg t|| !xh i))=true)(hi:zR (ev fns glob n) k sc (j3 l) i=some its)(h:forL (ev fns glob n) k sc t body l its=some (.brk,l')):
  (ev fns glob (n+1)).S k sc l (.For t i body orelse p)=some (.next,l'):=m7 h1 hi (by rw[h])
theorem rh{t i:Expr}{body orelse:List Stmt}{p:Pos}{its:List D}{l2:jN}(h1:(oR sc t&& !qH i&&(vg t|| !xh i))=true)(hi:zR (ev fns glob n) k sc (j3 l) i=some its)(h:forL (ev fns glob n) k sc t body l its=some (.next,l')){f:Fl}(hf:f= .next\/f= .brk)(he:qd (ev fns glob n) k sc l' orelse=some (f,l2)):
  (ev fns glob (n+1)).S k sc l (.For t i body orelse p)=some (f,l2):=m7 h1 hi (by
   rw[h]
   show(?_:(qd (ev fns glob n) k sc l' orelse).bind tH=_)
   rw[he]
   rcases hf with rfl|rfl <;> rfl)
theorem z6{t:Expr}{body:List Stmt}:forL r k sc t body l []=some (.next,l):=rfl
theorem qT{t:Expr}{body:List Stmt}{d:D}{ds:List D}{l2:jN}(h1:gB l t d=some l1)(h2:qd r k sc l1 body=some (.next,l2)):forL r k sc t body l (d::ds)=forL r k sc t body l2 ds:=by
 show(?_:(gB l t d).bind _=_)
 rw[h1]
 show(?_:(qd r k sc l1 body).bind _=_)
 rw[h2];rfl
theorem uw{t:Expr}{body:List Stmt}{d:D}{ds:List D}{l2:jN}(h1:gB l t d=some l1)(h2:qd r k sc l1 body=some (.brk,l2)):forL r k sc t body l (d::ds)=some (.brk,l2):=by
 show(?_:(gB l t d).bind _=_)
 rw[h1]
 show(?_:(qd r k sc l1 body).bind _=_)
 rw[h2];rfl
variable{lp:Loc}{a b:Expr}{x y d:D}{p:Pos}
theorem rK(hs:PySem.W.isStarred a=false)(ha:(ev fns glob n).E k sc lp a=some x):zh (ev fns glob n) k sc lp [a]=some [x]:=by
 show(jMv (by rw[hs];exact jMy)).trans ?_
 show(?_:(((ev fns glob n).E k sc lp a).bind fun d=>(zh (ev fns glob n) k sc lp []).bind fun ds=>some (d::ds))=_)
 rw[ha];rfl
theorem gh{es:List Expr}{ds:List D}(hs:PySem.W.isStarred a=false)(ha:(ev fns glob n).E k sc lp a=some x)(h:zh (ev fns glob n) k sc lp es=some ds):zh (ev fns glob n) k sc lp (a::es)=some (x::ds):=by
 show(jMv (by rw[hs];exact jMy)).trans ?_
 show(?_:(((ev fns glob n).E k sc lp a).bind fun d=>(zh (ev fns glob n) k sc lp es).bind fun ds=>some (d::ds))=_)
 rw[ha,h];rfl
theorem jKg{g:Str}{pg:Pos}{args:List Expr}{as:List D}(hk:sc.names.lookup g=some .globalImplicit)(h0:(g==("__debug__":Str))=false)(h1:g≠"reduce")(h2:g≠"isinstance")(h3:(fns.lookup g).isSome=false)(he:zh (ev fns glob n) k sc lp args=some as)(hb:jr g as=some d):
  (ev fns glob (n+1)).E k sc lp (.Call (.Name g pg) args [] p)=some d:=by
 show(xZ fns glob (ev fns glob n) k sc lp g pg p args).trans ?_
 rw[jMv (jP2.mpr ⟨jQg hk,by rw[h0];exact jMy⟩),jMv h1,jMv h2,jMv (by rw[h3];exact jMy),he]
 show(?_:nC (jr g as) _=_)
 rw[hb];rfl
theorem jJ6{gp sp cp:Pos}{ns:List Int}(hk:sc.names.lookup ("sorted":Str)=some .globalImplicit)(aD:sc.names.lookup ("set":Str)=some .globalImplicit)(h3:(fns.lookup ("sorted":Str)).isSome=false)(h4:(fns.lookup ("set":Str)).isSome=false)(hs:PySem.W.isStarred a=false)(ha:(ev fns glob n).E k sc lp a=some (.list (ns.map .int)))(hi:ints? (ns.map .int)=some ns)(aN:(wu ns).length<=18)(hb:∀x∈wu ns,0<=x/\x<4096)
  (tL:(zh (ev fns glob n) k sc lp [.Call (.Name "set" sp) [a] [] cp]).bind (fun as=>jr "sorted" as)=none):(ev fns glob (n+1)).E k sc lp (.Call (.Name "sorted" gp) [.Call (.Name "set" sp) [a] [] cp] [] p)=some (.list ((sortI (wu ns)).map .int)):=by
 show(xZ fns glob (ev fns glob n) k sc lp "sorted" gp p _).trans ?_
 rw[jMv (jP2.mpr ⟨jQg hk,by decide⟩),jMv kD,jMv kD,jMv (by rw[h3];exact jMy)]
 rw[tL]
 show(jMt ⟨rfl,aD⟩).trans ?_
 show(?_:(if PySem.W.isStarred a=true then none else ((ev fns glob n).E k sc lp a).bind jD1)=_)
 rw[jMv (by rw[hs];exact jMy),ha]
 show(?_:(ints? (ns.map .int)).bind _=_)
 rw[hi]
 exact jMt ⟨aN,jNe.mpr fun x hx=>jMx (hb x hx)⟩
theorem uj{g:Str}{pg:Pos}{args:List Expr}{as:List D}(hk:sc.names.lookup g=some .globalImplicit)(h0:(g==("__debug__":Str))=false)(h1:g≠"reduce")(h2:g≠"isinstance")(h3:(fns.lookup g).isSome=true)(he:zh (ev fns glob n) k sc lp args=some as)(hb:(zH fns (ev fns glob n) g as).bind qB=some d):
  (ev fns glob (n+1)).E k sc lp (.Call (.Name g pg) args [] p)=some d:=by
 show(xZ fns glob (ev fns glob n) k sc lp g pg p args).trans ?_
 rw[jMv (jP2.mpr ⟨jQg hk,by rw[h0];exact jMy⟩),jMv h1,jMv h2,jMt h3,he]
 exact hb
theorem ui{o:Expr}{m:Str}{ap cp:Pos}{args:List Expr}{as:List D}(h1:zt o=false)(h2:(ap.endLine==cp.line)=true)(h3:m≠"replace")(h4:args.length<20)(h5:args.length≠0)(ho:(ev fns glob n).E k sc lp o=some x)(he:zh (ev fns glob n) k sc lp args=some as)(hb:gR x m as=some d):
  (ev fns glob (n+1)).E k sc lp (.Call (.Attribute o m ap) args [] cp)=some d:=by
 show(?_:oA fns (ev fns glob n) k sc lp o m ap args cp=_)
 unfold oA
 rw[jMv (jP2.mpr ⟨by rw[h1];exact jMy,jP2.mpr ⟨by rw[h2];exact Bool.noConfusion,jP2.mpr ⟨jRm.mpr h4,h5⟩⟩⟩),jMv h3,ho,he]
 exact hb
theorem yD{e:Expr}{i:Int}(h:(ev fns glob n).E k sc lp e=some (.int i)):zF (ev fns glob n) k sc lp (some e)=some (some i):=by
 show(?_:((ev fns glob n).E k sc lp e).bind (fun d=>d.asInt?.map some)=_)
 rw[h];rfl
theorem wM{lo hi st:Option Expr}{lo' hi' st':Option Int}{p1:Pos}(h:(ev fns glob n).E k sc lp a=some x)(h1:zF (ev fns glob n) k sc lp lo=some lo')(h2:zF (ev fns glob n) k sc lp hi=some hi')(h3:zF (ev fns glob n) k sc lp st=some st'):(ev fns glob (n+1)).E k sc lp (.Subscript a (.Slice lo hi st p1) p)=rO x.flat lo' hi' st':=by
 show(?_:rP (ev fns glob n) k sc lp a lo hi st=_)
 unfold rP
 rw[h,h1,h2,h3];rfl
theorem jW{op:Operator}(h1:(ev fns glob n).E k sc lp a=some x)(h2:(ev fns glob n).E k sc lp b=some y)(h3:vQ op x y=some d):(ev fns glob (n+1)).E k sc lp (.BinOp a op b p)=some d:=by
 show(?_:(((ev fns glob n).E k sc lp a).bind fun x=>((ev fns glob n).E k sc lp b).bind fun y=>vQ op x y)=_)
 rw[h1,h2]
 exact h3
theorem jm{g:Str}{pg:Pos}(hk:sc.names.lookup g=some .globalImplicit)(h0:(g==("__debug__":Str))=false)(h1:g≠"reduce")(h2:g≠"isinstance")(h3:(fns.lookup g).isSome=false)(hs:PySem.W.isStarred a=false)(ha:(ev fns glob n).E k sc lp a=some x)(hb:jr g [x]=some d):
  (ev fns glob (n+1)).E k sc lp (.Call (.Name g pg) [a] [] p)=some d:=jKg hk h0 h1 h2 h3 (rK hs ha) hb
theorem jH0{t:Expr}{c:Bool}(h:Bt (ev fns glob n) k sc lp 4 t=some c)(hr:(ev fns glob n).E k sc lp (if c then a else b)=some d):(ev fns glob (n+1)).E k sc lp (.IfExp t a b p)=some d:=by
 show(?_:((Bt (ev fns glob n) k sc lp 4 t).bind fun c=>if c=true then (ev fns glob n).E k sc lp a else (ev fns glob n).E k sc lp b)=_)
 rw[h]
 cases c <;> exact hr
theorem ma{op:CmpOp}{c:Bool}(hs:qH b=false)(h1:(ev fns glob n).E k sc lp a=some x)(h2:(ev fns glob n).E k sc lp b=some y)(h3:gA op x y=some c):(ev fns glob (n+1)).E k sc lp (.Compare a [op] [b] p)=some (.bool c):=by
 show(?_:(if qH b=true then none else ((ev fns glob n).E k sc lp a).bind fun x=>((ev fns glob n).E k sc lp b).bind fun y=>(gA op x y).map D.bool)=_)
 rw[hs,h1,h2]
 show(?_:(gA op x y).map D.bool=_)
 rw[h3];rfl
theorem j7{m:Nat}{op:CmpOp}{c:Bool}(hs:qH b=false)(h1:(ev fns glob n).E k sc lp a=some x)(h2:(ev fns glob n).E k sc lp b=some y)(h3:gA op x y=some c):Bt (ev fns glob n) k sc lp (m+1) (.Compare a [op] [b] p)=some c:=by
 show(?_:(if qH b=true then none else ((ev fns glob n).E k sc lp a).bind fun a=>((ev fns glob n).E k sc lp b).bind fun b=>gA op a b)=_)
 rw[hs,h1,h2];exact h3
theorem rn{m:Nat}{c:Bool}(h:Bt (ev fns glob n) k sc lp m a=some c):Bt (ev fns glob n) k sc lp (m+1) (.UnaryOp .Not a p)=some (!c):=by
 show(?_:(Bt (ev fns glob n) k sc lp m a).map (!·)=_)
 rw[h];rfl
theorem Bt_and{m:Nat}{c e:Bool}(h1:Bt (ev fns glob n) k sc lp m a=some c)(h2:Bt (ev fns glob n) k sc lp m b=some e):Bt (ev fns glob n) k sc lp (m+1) (.BoolOp .And [a,b] p)=some (c&&e):=by
 show(?_:(Bt (ev fns glob n) k sc lp m a).bind (fun b'=>if b' then Bt (ev fns glob n) k sc lp m b else some false)=_)
 rw[h1,h2];cases c <;> rfl
theorem Bt_or{m:Nat}{c e:Bool}(h1:Bt (ev fns glob n) k sc lp m a=some c)(h2:Bt (ev fns glob n) k sc lp m b=some e):Bt (ev fns glob n) k sc lp (m+1) (.BoolOp .Or [a,b] p)=some (c||e):=by
 show(?_:(Bt (ev fns glob n) k sc lp m a).bind (fun b'=>if b' then some true else Bt (ev fns glob n) k sc lp m b)=_)
 rw[h1,h2];cases c <;> rfl
theorem ints_map(xs:List Int):ints? (xs.map .int)=some xs:=by
 induction xs with
 |nil=>rfl
 |cons x xs ih=>
  show(?_:(ints? (xs.map .int)).map (x::·)=_)
  rw[ih];rfl
end
noncomputable def zP(l:List (Int×Str)):D:= .tup (l.map fun q=> .tup [.int q.1,.str q.2])
noncomputable def tabD:D:= .tup [zP [(40960,"l"),(49152,"s"),(32768,"-"),(24576,"b"),(16384,"d"),(8192,"c"),(4096,"p")],zP [(256,"r")],zP [(128,"w")],zP [(2112,"s"),(2048,"S"),(64,"x")],zP [(32,"r")],zP [(16,"w")],zP [(1032,"s"),(1024,"S"),(8,"x")],zP [(4,"r")],zP [(2,"w")],zP [(513,"t"),(512,"T"),(1,"x")]]
noncomputable def jH:List (Str×Fn):=[("_c3_merge",fnAt Challenge.pw_oy0159_02 "_c3_merge"),("parse229",fnAt Challenge.pw_oy0159_02 "parse229"),("parse257",fnAt Challenge.pw_oy0159_02 "parse257"),("S_IMODE",fnAt Challenge.pw_oy0159_02 "S_IMODE"),("S_IFMT",fnAt Challenge.pw_oy0159_02 "S_IFMT"),("filemode",fnAt Challenge.pw_oy0159_02 "filemode"),("_law_said",fnAt Challenge.pw_oy0159_02 "_law_said"),("_law_talk",fnAt Challenge.pw_oy0159_02 "_law_talk"),("_law_heard",fnAt Challenge.pw_oy0159_02 "_law_heard"),("_law_listing",fnAt Challenge.pw_oy0159_02 "_law_listing"),("_law_below",fnAt Challenge.pw_oy0159_02 "_law_below"),("_law_made",fnAt Challenge.pw_oy0159_02 "_law_made")]
noncomputable def red2:Fn:=fnAt Challenge.pw_oy0159_02 "reduce"
noncomputable def posR2:List Pos:=[⟨4,4,4,6⟩,⟨4,9,4,13⟩,⟨4,14,4,22⟩,⟨4,9,4,23⟩,⟨4,4,4,23⟩,⟨5,7,5,14⟩,⟨5,18,5,34⟩,⟨5,7,5,34⟩,⟨7,12,7,17⟩,⟨7,20,7,24⟩,⟨7,25,7,27⟩,⟨7,20,7,28⟩,⟨7,12,7,28⟩,⟨6,8,9,89⟩,⟨11,8,11,13⟩,⟨11,16,11,23⟩,⟨11,8,11,23⟩,⟨5,4,11,23⟩,⟨12,8,12,15⟩,⟨12,19,12,21⟩,⟨13,8,13,13⟩,⟨13,16,13,24⟩,⟨13,25,13,30⟩,⟨13,32,13,39⟩,⟨13,16,13,40⟩,⟨13,8,13,40⟩,⟨12,4,13,40⟩,⟨14,11,14,16⟩,⟨14,4,14,16⟩]
noncomputable def jHs:List ExceptHandler:=tryH (qI (ao (qI red2.body 1)) 0)
theorem redf2:o8 red2 where
 ok:=kR
 names:=kR
 params:=⟨_,_,_,_,rfl⟩
 loc:=by decide+kernel
 glb:=by decide+kernel
 shape:=⟨fun k=>posR2.getD k ⟨0,0,0,0⟩,jHs.headD (.ExceptHandler none none [] ⟨0,0,0,0⟩),jHs.tail,kR⟩
theorem okf2:∀q∈jH,oL q.2=true:=by decide+kernel
section
variable{fns:List (Str×Fn)}{glob:xQ}{k:Bool}{sc jM:Scope}{l:Loc}{it og elt ke ve:Expr}{ifs oz:List Expr}{x y z:Str}{tp bM pos:Pos}{n:Nat}
theorem flatIf{α β:Type}(t:α->Bool)(e:α->β)(xs:List α):(xs.flatMap fun x=>if t x then [e x] else [])=(xs.filter t).map e:=by
 induction xs with
 |nil=>rfl
 |cons x xs ih=>
  rw[jSk,ih]
  cases ht:t x <;> simp[List.filter_cons,ht]
theorem gI{d:D}{lp:Loc}(h:(lp x).isSome=false):wq lp (.Name x tp) d=some (jA lp x d):=by
 show(?_:(if (lp x).isSome=true then none else some (jA lp x d))=_)
 rw[h];rfl
theorem fN{r:Ev}{α:Type}(f:α->D)(t:α->Bool)(e:α->D)(emit:Loc->Option D)(xs:List α)(a:Int)(hx:(l x).isSome=false)
  (ht:∀q∈xs,qx r k sc (jA l x (f q)) ifs=some (t q)) (he:∀q∈xs,t q=true->emit (jA l x (f q))=some (e q)):
  compLoop r k sc l ⟨.Name x tp,it,ifs,a⟩ (fun l'=>(emit l').map fun x=>[x]) (xs.map f)=some ((xs.filter t).map e):=by
 rw[vC f t (fun q=>[e q]) xs fun q hq=>⟨_,gI hx,ht q hq,fun hh=>by rw[he q hq hh];rfl⟩,flatIf]
theorem vZ{α:Type}(f:α->D)(t:α->Bool)(e:α->D)(xs:List α){a:Int}(hit:((ev fns glob n).E k sc l it).bind ji=some (xs.map f))(ok:jk sc jM [⟨.Name x tp,it,ifs,a⟩]=true)(hx:(jF jM l x).isSome=false)
  (ht:∀q∈xs,qx (ev fns glob n) k (jO sc jM) (jA (jF jM l) x (f q)) ifs=some (t q)) (he:∀q∈xs,t q=true->(ev fns glob n).E k (jO sc jM) (jA (jF jM l) x (f q)) elt=some (e q)) (hl:xs.length<=lim):
  (ev fns glob (n+1)).E k sc l (.ListComp elt [⟨.Name x tp,it,ifs,a⟩] jM pos)=some (.list ((xs.filter t).map e)):=by
 have h1:=fN (it:=it) (tp:=tp) (k:=k) f t e (fun l'=>(ev fns glob n).E k (jO sc jM) l' elt) xs a hx ht he
 show(?_:(((ev fns glob n).E k sc l it).bind ji).bind (fun its=>if jk sc jM [⟨.Name x tp,it,ifs,a⟩]=true then (compLoop (ev fns glob n) k (jO sc jM) (jF jM l) ⟨.Name x tp,it,ifs,a⟩ (fun l'=>((ev fns glob n).E k (jO sc jM) l' elt).map fun x=>[x]) its).bind (fun ds=>if ds.length<=lim then some (D.list ds) else none) else none)=_)
 rw[hit]
 show(?_:(if jk sc jM [⟨.Name x tp,it,ifs,a⟩]=true then (compLoop (ev fns glob n) k (jO sc jM) (jF jM l) ⟨.Name x tp,it,ifs,a⟩ (fun l'=>((ev fns glob n).E k (jO sc jM) l' elt).map fun x=>[x]) (xs.map f)).bind (fun ds=>if ds.length<=lim then some (D.list ds) else none) else none)=_)
 rw[jMt ok,h1]
 show(?_:(if ((xs.filter t).map e).length<=lim then some (D.list ((xs.filter t).map e)) else none)=_)
 rw[jMt (by rw[jMu];exact x8 (jNq _ _) hl)]
theorem yi{α:Type}(f:α->D)(e:α->D)(xs:List α){a:Int}(hit:((ev fns glob n).E k sc l it).bind ji=some (xs.map f))(ok:jk sc jM [⟨.Name x tp,it,[],a⟩]=true)(hx:(jF jM l x).isSome=false)
  (he:∀q∈xs,(ev fns glob n).E k (jO sc jM) (jA (jF jM l) x (f q)) elt=some (e q)) (hl:xs.length<=lim):
  (ev fns glob (n+1)).E k sc l (.ListComp elt [⟨.Name x tp,it,[],a⟩] jM pos)=some (.list (xs.map e)):=by
 rw[vZ f (fun _=>true) e xs hit ok hx (fun q hq=>rfl) (fun q hq _=>he q hq) hl]
 rw[jQp.mpr fun _ _=>rfl]
theorem comp2{α β:Type}(f:α->D)(t1:α->Bool)(ys:α->List β)(g:β->D)(t:α->β->Bool)(e:α->β->D)(xs:List α){a b:Int}(hit:((ev fns glob n).E k sc l it).bind ji=some (xs.map f))(ok:jk sc jM [⟨.Name x tp,it,ifs,a⟩,⟨.Name y bM,og,oz,b⟩]=true)
  (hx:(jF jM l x).isSome=false) (hy:∀q∈xs,(jA (jF jM l) x (f q) y).isSome=false) (lz:∀q∈xs,qx (ev fns glob n) k (jO sc jM) (jA (jF jM l) x (f q)) ifs=some (t1 q))
  (nq:∀q∈xs,t1 q=true->((ev fns glob n).E k (jO sc jM) (jA (jF jM l) x (f q)) og).bind ji=some ((ys q).map g))
  (ht:∀q∈xs,t1 q=true->∀p∈ys q,qx (ev fns glob n) k (jO sc jM) (jA (jA (jF jM l) x (f q)) y (g p)) oz=some (t q p)) (he:∀q∈xs,t1 q=true->∀p∈ys q,t q p=true->(ev fns glob n).E k (jO sc jM) (jA (jA (jF jM l) x (f q)) y (g p)) elt=some (e q p))
  (hl:(xs.flatMap fun q=>if t1 q then ((ys q).filter (t q)).map (e q) else []).length<=lim):
  (ev fns glob (n+1)).E k sc l (.ListComp elt [⟨.Name x tp,it,ifs,a⟩,⟨.Name y bM,og,oz,b⟩] jM pos)=some (.list (xs.flatMap fun q=>if t1 q then ((ys q).filter (t q)).map (e q) else [])):=by
 have h1:compLoop (ev fns glob n) k (jO sc jM) (jF jM l) ⟨.Name x tp,it,ifs,a⟩ (fun l'=>(((ev fns glob n).E k (jO sc jM) l' og).bind ji).bind fun yw=>compLoop (ev fns glob n) k (jO sc jM) l' ⟨.Name y bM,og,oz,b⟩ (fun l'=>((ev fns glob n).E k (jO sc jM) l' elt).map fun x=>[x]) yw) (xs.map f)=some (xs.flatMap fun q=>if t1 q then ((ys q).filter (t q)).map (e q) else []):=by
  show vC f t1 (fun q=>((ys q).filter (t q)).map (e q)) xs fun q hq=>⟨_,gI hx,lz q hq,fun hh=> ?_⟩
  rw[nq q hq hh]
  exact fN g (t q) (e q) _ (ys q) b (hy q hq) (ht q hq hh) (he q hq hh)
 show(?_:(((ev fns glob n).E k sc l it).bind ji).bind (fun its=>if jk sc jM [⟨.Name x tp,it,ifs,a⟩,⟨.Name y bM,og,oz,b⟩]=true then (compLoop (ev fns glob n) k (jO sc jM) (jF jM l) ⟨.Name x tp,it,ifs,a⟩ (fun l'=>(((ev fns glob n).E k (jO sc jM) l' og).bind ji).bind fun yw=>compLoop (ev fns glob n) k (jO sc jM) l' ⟨.Name y bM,og,oz,b⟩ (fun l'=>((ev fns glob n).E k (jO sc jM) l' elt).map fun x=>[x]) yw) its).bind (fun ds=>if ds.length<=lim then some (D.list ds) else none) else none)=_)
 rw[hit]
 show(?_:(if jk sc jM [⟨.Name x tp,it,ifs,a⟩,⟨.Name y bM,og,oz,b⟩]=true then (compLoop (ev fns glob n) k (jO sc jM) (jF jM l) ⟨.Name x tp,it,ifs,a⟩ (fun l'=>(((ev fns glob n).E k (jO sc jM) l' og).bind ji).bind fun yw=>compLoop (ev fns glob n) k (jO sc jM) l' ⟨.Name y bM,og,oz,b⟩ (fun l'=>((ev fns glob n).E k (jO sc jM) l' elt).map fun x=>[x]) yw) (xs.map f)).bind (fun ds=>if ds.length<=lim then some (D.list ds) else none) else none)=_)
 rw[jMt ok,h1]
 exact jMt hl
theorem rngIts{i:Nat}(h:i<=1000):ji (.rng 0 (i:Int))=some ((List.range i).map fun k:Nat=> .int (k:Int)):=by
 show(?_:(if (small 0&&small (i:Int)&&decide ((i:Int) - 0<=1000))=true then some ((List.range ((i:Int) - 0).toNat).map fun(k:Nat)=>D.int (0+(k:Int))) else none)=_)
 have h1:small (i:Int)=true:=by
  unfold small
  show jMx ?_
  have:(1000:Nat)<2 ^ 60:=by decide
  lia
 rw[h1,jMt (by
  have:decide ((i:Int) - 0<=1000)=true:=jMx (by lia)
  rw[this];decide)]
 rw[show ((i:Int) - 0).toNat=i by lia]
 simp
theorem qg{ds:List D}{i:Nat}{d:D}(h:ds[i]? =some d)(hl:ds.length<=lim):vY (.list ds) (.int (i:Int))=some d:=by
 have hi:i<ds.length:=(jPw.mp h).1
 show(?_:(if ds.length<=lim then (idx? (i:Int) ds.length).bind (ds[·]?) else none)=_)
 rw[jMt hl]
 unfold idx?
 rw[jMt (by lia),jMt (by lia)]
 exact h
theorem lt4{P:Nat->Prop}(h0:P 0)(h1:P 1)(h2:P 2)(h3:P 3)(k:Nat)(h:k<4):P k:=by
 induction k using Nat.casesOn with
 |zero=>exact h0
 |succ k=>induction k using Nat.casesOn with
  |zero=>exact h1
  |succ k=>induction k using Nat.casesOn with
   |zero=>exact h2
   |succ k=>induction k using Nat.casesOn with
    |zero=>exact h3
    |succ k=>exact absurd h (jN9.mpr (Nat.le_add_left 4 k))
structure jZ{α:Type}[DecidableEq α](f:α->D)(m:Nat):Prop where
 like:∀a b,D.like (f a) (f b)=true
 beq:∀a b,D.beq (f a) (f b)=decide (a=b)
 dep:∀a,D.dep (f a)<=m
end
section
variable{α:Type}[DecidableEq α]{f:α->D}{m:Nat}
theorem sr{c:Prop}[Decidable c]{x:Int}:Option.map D.int (if c then some x else none)=if c then some (D.int x) else none:=by split <;> rfl
theorem jZ.str:jZ D.str 0 where
 like:=fun a b=>rfl
 beq:=fun a b=>by
  show(?_:(a==b)=decide (a=b))
  rw[jN0];simp
 dep:=fun a=>jNi _
theorem jZ.int:jZ D.int 0 where
 like:=fun a b=>rfl
 beq:=fun a b=>by
  show(?_:(a==b)=decide (a=b))
  rw[jN0];simp
 dep:=fun a=>jNi _
theorem jZ.likes(h:jZ f m)(xs:List α):∀ys:List α,D.likes (xs.map f) (ys.map f)=true:=by
 induction xs with
 |nil=>exact fun _=>rfl
 |cons x xs ih=>
  intro ys
  induction ys using List.casesOn with
  |nil=>rfl
  |cons y ys=>exact jM2.mpr ⟨h.like x y,ih ys⟩
theorem jZ.beqs(h:jZ f m)(xs:List α):∀ys:List α,D.beqs (xs.map f) (ys.map f)=decide (xs=ys):=by
 induction xs with
 |nil=>
  intro ys
  induction ys using List.casesOn with
  |nil=>rfl
  |cons y ys=>rfl
 |cons x xs ih=>
  intro ys
  induction ys using List.casesOn with
  |nil=>rfl
  |cons y ys=>
   show(?_:(D.beq (f x) (f y)&&D.beqs (xs.map f) (ys.map f))=_)
   rw[h.beq,ih ys,jN0];simp
theorem jZ.deps(h:jZ f m)(xs:List α):D.deps (xs.map f)<=m:=by
 induction xs with
 |nil=>exact jQk _
 |cons x xs ih=>exact Nat.max_le.mpr ⟨h.dep x,ih⟩
theorem jZ.list(h:jZ f m):jZ (fun xs:List α=>D.list (xs.map f)) (m+1) where
 like:=fun a b=>h.likes a b
 beq:=fun a b=>h.beqs a b
 dep:=fun a=>jRb (h.deps a)
theorem jZ.eq(h:jZ f m)(hm:m<=20)(a b:α):gA .Eq (f a) (f b)=some (decide (a=b)):=by
 show(?_:(if (D.like (f a) (f b)&&decide (D.dep (f a)<=20))=true then some (D.beq (f a) (f b)) else none)=_)
 rw[h.like,h.beq,jMt]
 rw[jMx (x8 (h.dep a) hm)];rfl
theorem jZ.ne(h:jZ f m)(hm:m<=20)(a b:α):gA .NotEq (f a) (f b)=some (!decide (a=b)):=by
 show(?_:(if (D.like (f a) (f b)&&decide (D.dep (f a)<=20))=true then some (!D.beq (f a) (f b)) else u9 (f a) (f b))=_)
 rw[h.like,h.beq,jMt]
 rw[jMx (x8 (h.dep a) hm)];rfl
theorem jZ.mem(h:jZ f m)(hm:m<=20)(a:α)(xs:List α)[Decidable (a∈xs)]:inD (f a) (.list (xs.map f))=some (decide (a∈xs)):=by
 show(?_:(if (xs.map f).all (fun y=>D.like y (f a)&&decide (D.dep y<=20))=true then some ((xs.map f).any fun y=>D.beq y (f a)) else none)=_)
 rw[jMt]
 .congr 1
  rw[jN0,jOp,jNk]
  constructor
  .intro gO
   show jE gO fun y hy e=> ?_;clear gO
   show lE hy ?_;rintro x hx rfl
   rw[h.beq,jNk] at e
   exact e▸hx
  .exact fun hx=>⟨f a,jMs hx,by rw[h.beq];simp⟩
 .rw[jNe]
  intro y hy
  show lE hy ?_;rintro x hx rfl
  rw[h.like,jMx (x8 (h.dep x) hm)];rfl
theorem jZ.isIn(h:jZ f m)(hm:m<=20)(a:α)(xs:List α)[Decidable (a∈xs)]:gA .In (f a) (.list (xs.map f))=some (decide (a∈xs)):=h.mem hm a xs
theorem jZ.notIn(h:jZ f m)(hm:m<=20)(a:α)(xs:List α)[Decidable (a∈xs)]:gA .NotIn (f a) (.list (xs.map f))=some (!decide (a∈xs)):=by
 show(?_:(inD (f a) (.list (xs.map f))).map (!·)=_)
 rw[h.mem hm];rfl
end
noncomputable def gn(q:Str×Str):D:= .list [.str q.1,.str q.2]
noncomputable def jJ(l:List Str):D:= .list (l.map .str)
noncomputable def kc(ls:List (List Str)):D:= .list (ls.map jJ)
noncomputable def vX(q:nG):D:= .list (q.map gn)
theorem jZ.strs:jZ jJ 1:=jZ.str.list
theorem jZ.row:jZ gn 1 where
 like:=fun a b=>rfl
 beq:=fun a b=>by
  obtain⟨a1,a2⟩:=a
  obtain⟨b1,b2⟩:=b
  show(?_:(a1==b1&&(a2==b2&&true))=_)
  rw[Bool.and_true]
  rw[jN0];simp
 dep:=fun a=>jNi _
noncomputable def waysD(q:List nG):D:= .list (q.map vX)
theorem jZ.rows:jZ vX 2:=jZ.row.list
theorem jL{α:Type}{l:Str->Option α}{x:Str}{a:α}:jA l x a x=some a:=by unfold jA;rw[if_pos rfl]
theorem qO{α:Type}{l:Str->Option α}{x y:Str}{a:α}(h:y≠x):jA l x a y=l y:=by unfold jA;rw[if_neg h]
theorem sN{α:Type}{l:Str->Option α}{x y:Str}{a:α}(h:y≠x:=by decide):jA l x a y=l y:=qO h
theorem jD{l:jN}{x:Str}{d:D}(h:l x=some (.val d)):j3 l x=some d:=by unfold j3;rw[h]
theorem jP{l:jN}{x:Str}{d:D}(h:l x=some (.val d)):xW l x=some d:=by unfold xW;rw[h]
theorem gf{l:jN}{x:Str}{ds:List D}(h:l x=some (.own ds)):xW l x=some (.list ds):=by unfold xW;rw[h]
theorem jAk{xs:List Str}(h:xs.length<64):jr "sorted" [jJ xs]=some (jJ (vW xs)):=by
 show(?_:zI (xs.map D.str)=_)
 unfold zI
 rw[jMt (by simpa using h)]
 rw[strs_map]
 cases xs with
 |nil=>show(?_:some (D.list ((sortI []).map .int))=some (jJ (vW [])));simp[sortI,vW,jJ]
 |cons x xs=>rfl
theorem len_list{ds:List D}(h:ds.length<=lim):jr "len" [.list ds]=some (.int ds.length):=by
 show(?_:(if ds.length<=lim then some (D.int ds.length) else none)=_)
 rw[jMt h]
theorem add_lists{a b:List D}(h:a.length+b.length<=lim):vQ .Add (.list a) (.list b)=some (.list (a++b)):=by
 show(?_:(if a.length+b.length<=lim then some (D.list (a++b)) else none)=_)
 rw[jMt h]
theorem sum_ints(xs:List Int):jr "sum" [.list (xs.map .int)]=some (.int xs.sum):=by
 show(?_:(ints? (xs.map .int)).map (fun ns=>D.int ns.sum)=_)
 rw[ints_map];rfl
theorem jJ8{ds:List D}(h:ds.length<=lim):uC (.list ds)=some (!ds.isEmpty):=by
 show(?_:(if ds.length<=lim then some (!ds.isEmpty) else none)=_)
 rw[jMt h]
section
variable{fns:List (Str×Fn)}{glob:xQ}{k:Bool}{sc:Scope}{l:Loc}{a b:Expr}{p p1 p2:Pos}{n:Nat}{x d:D}{ds:List D}
theorem j5(hs:isSlice b=false){y:D}(h1:(ev fns glob n).E k sc l a=some x)(h2:(ev fns glob n).E k sc l b=some y)(h3:vY x y=some d):(ev fns glob (n+1)).E k sc l (.Subscript a b p)=some d:=by
 have key:(((ev fns glob n).E k sc l a).bind fun x=>((ev fns glob n).E k sc l b).bind fun y=>vY x y)=some d:=by rw[h1,h2];exact h3
 clear h1 h2 h3
 induction b using cE with
 |Slice lo hi st q=>exact Bool.noConfusion hs
 |_=>exact key
theorem E_to{e:Expr}{i:Nat}(h1:(ev fns glob n).E k sc l a=some (.list ds))(h2:(ev fns glob n).E k sc l e=some (.int (i:Int)))(h3:ds.length<=lim):(ev fns glob (n+1)).E k sc l (.Subscript a (.Slice none (some e) none p1) p)=some (.list (ds.take i)):=by
 show(wM h1 rfl (yD h2) rfl).trans ?_
 show(?_:(if (none:Option Int)≠some 0/\ds.length<=lim then some (D.list (pick ds none (some (i:Int)) none)) else none)=_)
 rw[jMt ⟨by simp,h3⟩,pick_to]
theorem oC{e:Expr}(h:(ev fns glob n).E k sc l e=some (.list ds)):((ev fns glob n).E k sc l e).bind ji=some ds:=by rw[h];rfl
theorem getD_map{α:Type}{xs:List α}{f:α->D}{i:Nat}{d:α}(h:i<xs.length):(xs.map f)[i]? =some (f (xs.getD i d)):=by
 rw[jN2,jNa,jM9 h];rfl
noncomputable def isV(k:NameKind):Bool:=by
 cases k with
 |«local»=>exact true
 |cell=>exact true
 |free=>exact true
 |_=>exact false
noncomputable def isVar(o:Option NameKind):Bool:=o.any isV
theorem jLm{k:Option NameKind}(h:isVar k=true):k=some .local\/k=some .cell\/k=some .free:=by
 cases k with
 |none=>exact zf h
 |some k=>cases k <;> first|exact zf h|exact .inl rfl|exact .inr (.inl rfl)|exact .inr (.inr rfl)
theorem jC{x:Str}(h1:(x==("__debug__":Str)||x==("__classdict__":Str))=false)(hk:isVar (sc.names.lookup x)=true)(h:l x=some d):(ev fns glob (n+1)).E k sc l (.Name x p)=some d:=(ud h1 (jLm hk)).trans h
theorem zW{t:Expr}{c:Bool}(h:Bt (ev fns glob n) k sc l 4 t=some c):qx (ev fns glob n) k sc l [t]=some c:=h
theorem vr{i:Nat}{pg:Pos}(hk:sc.names.lookup ("range":Str)=some .globalImplicit)(h3:(fns.lookup ("range":Str)).isSome=false)(hs:PySem.W.isStarred a=false)(ha:(ev fns glob n).E k sc l a=some (.int (i:Int)))(h:i<=1000):
  ((ev fns glob (n+1)).E k sc l (.Call (.Name "range" pg) [a] [] p)).bind ji=some ((List.range i).map fun k:Nat=> .int (k:Int)):=by
 rw[jm (d:= .rng 0 (i:Int)) hk kD kD kD h3 hs ha kR]
 exact rngIts h
end
section
variable{fns:List (Str×Fn)}{glob:xQ}{k:Bool}{sc jM:Scope}{l:Loc}{it og elt ke ve:Expr}{ifs oz:List Expr}{x y z:Str}{tp bM pos:Pos}{n:Nat}
theorem dc_eq{its:List D}{a:Int}(hit:((ev fns glob n).E k sc l it).bind ji=some its)(ok:jk sc jM [⟨.Name x tp,it,ifs,a⟩]=true):(ev fns glob (n+1)).E k sc l (.DictComp ke ve [⟨.Name x tp,it,ifs,a⟩] jM pos)=nC (bX (ev fns glob n) k D.asStr? .dictS sc l ke ve ⟨.Name x tp,it,ifs,a⟩ jM its) (bX (ev fns glob n) k D.asInt? .dictI sc l ke ve ⟨.Name x tp,it,ifs,a⟩ jM its):=by
 show(?_:(((ev fns glob n).E k sc l it).bind ji).bind _=_)
 rw[hit]
 exact jMt ok
section
variable{K:Type}[BEq K][LawfulBEq K][DecidableEq K]{f:D->Option K}{mk:List (K×D)->D}
theorem jJq{α:Type}{kd:α->D}{ek:α->K}(e:α->D)(hf:∀q,f (kd q)=some (ek q))(xs:List α):∀(acc:List (K×D)),(xs.map ek).Nodup->(∀q∈xs,(acc.lookup (ek q)).isSome=false)->dictK? f acc (xs.map fun q=> .tup [kd q,e q])=some (acc++xs.map fun q=>(ek q,e q)):=by
 induction xs with
 |nil=>
  intro acc _ _
  rw[List.map_nil,List.map_nil,jOj];rfl
 |cons q xs ih=>
  intro acc hn ha
  rw[jNv]
  show(?_:((f (kd q)).map fun k=>(k,e q)).bind (fun p=>dictK? f (qj acc p.1 p.2) (xs.map fun q=> .tup [kd q,e q]))=_)
  rw[hf]
  show(?_:dictK? f (qj acc (ek q) (e q)) (xs.map fun q=> .tup [kd q,e q])=_)
  have hs:qj acc (ek q) (e q)=acc++[(ek q,e q)]:=jMv (by rw[ha q jy];exact jMy)
  rw[hs,ih (acc++[(ek q,e q)]) (xw.mp hn).2,jNl]
  .rfl
  .intro p hp
   rw[jSd,show acc.lookup (ek p)=none from Option.not_isSome_iff_eq_none.mp (by rw[ha p (qV _ hp)];exact jMy)]
   have je:(ek p==ek q)=false:=jNn.mpr fun e'=>(xw.mp hn).1 (e'▸jMs hp)
   show(?_:(List.lookup (ek p) [(ek q,e q)]).isSome=false)
   rw[jMz,je];rfl
omit [DecidableEq K] in
theorem lookupK{α:Type}{ek:α->K}{e:α->D}{xs:List α}(hn:(xs.map ek).Nodup):∀q∈xs,(xs.map fun q=>(ek q,e q)).lookup (ek q)=some (e q):=by
 induction xs with
 |nil=>exact fun _ h=>nomatch h
 |cons p xs ih=>
  intro q hq
  rw[jNv,jMz]
  rcases j0.mp hq with e0|hq
  .rw[e0];rw[jPq]
  .rw[jNn.mpr fun e':ek q=ek p=>(xw.mp hn).1 (e'▸jMs hq)]
   exact ih (xw.mp hn).2 q hq
theorem jHu{α:Type}{fd:α->D}{kd:α->D}{ek:α->K}{e:α->D}{xs:List α}{a:Int}(hf:∀q,f (kd q)=some (ek q))(hn:(xs.map ek).Nodup)(hx:(jF jM l x).isSome=false)
  (hk:∀q∈xs,(ev fns glob n).E k (jO sc jM) (jA (jF jM l) x (fd q)) ke=some (kd q)) (he:∀q∈xs,(ev fns glob n).E k (jO sc jM) (jA (jF jM l) x (fd q)) ve=some (e q)) (hl:xs.length<=lim):
  bX (ev fns glob n) k f mk sc l ke ve ⟨.Name x tp,it,[],a⟩ jM (xs.map fd)=some (mk (xs.map fun q=>(ek q,e q))):=by
 have h1:=fN (r:=ev fns glob n) (it:=it) (tp:=tp) (k:=k) (sc:=jO sc jM) (ifs:=[]) fd (fun _=>true) (fun q=> .tup [kd q,e q]) (o7 (ev fns glob n) k f (jO sc jM) ke ve) xs a hx (fun q hq=>rfl) fun q hq _=>by
  unfold o7
  rw[hk q hq,he q hq]
  show(?_:(f (kd q)).map _=_)
  rw[hf];rfl
 rw[jQp.mpr fun _ _=>rfl] at h1
 show(?_:Option.bind (compLoop _ _ _ _ _ _ _) _=_)
 rw[h1]
 show(jMt (by rw[jMu];exact hl)).trans ?_
 rw[jJq e hf xs [] hn fun _ _=>rfl];rfl
omit [LawfulBEq K] in
theorem jL6{fd:D}{kd e:D}{xs:List D}{a:Int}(hf:f kd=none)(hx:(jF jM l x).isSome=false)
  (hk:(ev fns glob n).E k (jO sc jM) (jA (jF jM l) x fd) ke=some kd) (he:(ev fns glob n).E k (jO sc jM) (jA (jF jM l) x fd) ve=some e):
  bX (ev fns glob n) k f mk sc l ke ve ⟨.Name x tp,it,[],a⟩ jM (fd::xs)=none:=by
 show(?_:Option.bind ((wq (jF jM l) (.Name x tp) fd).bind _) _=_)
 rw[gI hx]
 show(?_:Option.bind (Option.bind ((((ev fns glob n).E k (jO sc jM) (jA (jF jM l) x fd) ke).bind fun a=>((ev fns glob n).E k (jO sc jM) (jA (jF jM l) x fd) ve).bind fun b=>(f a).map fun _=>D.tup [a,b]).map fun x=>[x]) _) _=_)
 rw[hk,he]
 show(?_:Option.bind (Option.bind (((f kd).map fun _=>D.tup [kd,e]).map fun x=>[x]) _) _=_)
 rw[hf];rfl
end
end
theorem lookup_map2{way:nG}{x:Str}:(way.map fun q=>(q.1,D.str q.2)).lookup x=(way.lookup x).map .str:=by
 induction way with
 |nil=>rfl
 |cons q way ih=>
  obtain⟨a,b⟩:=q
  rw[jNv,jMz,jMz]
  generalize h:(x==a)=x0;induction x0 using cT with
  |true=>rfl
  |false=>exact ih
noncomputable def vP(x:Int)(k:Nat):Bool:=decide (x / 2 ^ k % 2=1)
section
variable{fns:List (Str×Fn)}{glob:xQ}{k:Bool}{sc jM:Scope}{l:Loc}{a b:Expr}{n m:Nat}{p1 p2 p3 p4 p5 p6 p7 p8:Pos}
theorem uo{i:Nat}(h:i<=29):vQ .Pow (.int 2) (.int (i:Int))=some (.int (2 ^ i)):=by
 show(?_:Option.map D.int (if ((2:Int)=2\/(2:Int)=8)/\0<=(i:Int)/\(i:Int)<=64 then some ((2 ^ (i:Int).toNat)) else none)=_)
 rw[sr]
 rw[jMt ⟨.inl rfl,by lia,by lia⟩]
 rfl
theorem pow2_lt{i:Nat}(h:i<=29):((2:Int) ^ i)≠0/\((2:Int) ^ i).natAbs<1073741824/\0<=(2:Int) ^ i:=by
 have h1:((2:Int) ^ i)=((2 ^ i:Nat):Int):=by simp
 have h2:2 ^ i<=2 ^ 29:=jOq kD h
 have h3:0<2 ^ i:=Nat.pow_pos kD
 rw[h1]
 generalize 2 ^ i=z at h2 h3
 exact⟨fun e=>jPs h3 (Int.ofNat_eq_zero.mp e),jM7 h2 kD,jOb _⟩
theorem jEk{x:Int}{i:Nat}(h:i<=29):vQ .FloorDiv (.int x) (.int (2 ^ i))=some (.int (x / 2 ^ i)):=by
 show uX (pow2_lt h) fun h1 h2 h3=> ?_
 show(?_:Option.map D.int (if (2:Int) ^ i≠0/\((2:Int) ^ i).natAbs<1073741824 then some ((x.fdiv (2 ^ i))) else none)=_)
 rw[sr]
 rw[jMt ⟨h1,h2⟩,Int.fdiv_eq_ediv_of_nonneg _ h3]
theorem mod_val{x y:Int}(h:0<y):vQ .Mod (.int x) (.int y)=some (.int (x % y)):=by
 show(?_:Option.map D.int (if y≠0 then some ((x.fmod y)) else none)=_)
 rw[sr]
 rw[jMt (by lia),Int.fmod_eq_emod_of_nonneg _ (by lia)]
theorem div_val{x y:Int}(h:0<y)(h2:y<1000000):vQ .FloorDiv (.int x) (.int y)=some (.int (x / y)):=by
 show(?_:Option.map D.int (if y≠0/\y.natAbs<1073741824 then some ((x.fdiv y)) else none)=_)
 rw[sr]
 rw[jMt ⟨by lia,by lia⟩,Int.fdiv_eq_ediv_of_nonneg _ (by lia)]
theorem m6{x:Int}{i:Nat}(ha:(ev fns glob (n+2)).E k sc l a=some (.int x))(hb:(ev fns glob (n+1)).E k sc l b=some (.int (i:Int)))(h:i<=29):
  Bt (ev fns glob (n+4)) k sc l (m+1) (.Compare (.BinOp (.BinOp a .FloorDiv (.BinOp (.Constant (.int 2) 0 p1) .Pow b p2) p3) .Mod (.Constant (.int 2) 0 p4) p5) [.Eq] [.Constant (.int 1) 0 p6] p7)=some (vP x i):=by
 show j7 (by rfl) (x:= .int (x / 2 ^ i % 2)) (y:= .int 1) (jW (x:= .int (x / 2 ^ i)) (y:= .int 2) (jW ha (jW (x:= .int 2) (by rfl) hb (uo h)) (jEk h)) (by rfl) (mod_val kD)) (by rfl) ?_
 exact jZ.int.eq kD _ _
theorem jK2:jZ (fun k:Nat=>D.int (k:Int)) 0 where
 like:=fun a b=>rfl
 beq:=fun a b=>by
  show(?_:((a:Int)==(b:Int))=decide (a=b))
  rw[jN0,jNs,jNk]
  lia
 dep:=fun a=>jNi _
theorem d7{lp:Loc}{ds:List D}{p pg:Pos}(hk:sc.names.lookup ("len":Str)=some .globalImplicit)(h3:(fns.lookup ("len":Str)).isSome=false)(hs:PySem.W.isStarred a=false)(ha:(ev fns glob n).E k sc lp a=some (.list ds))(hl:ds.length<=lim):
  (ev fns glob (n+1)).E k sc lp (.Call (.Name "len" pg) [a] [] p)=some (.int (ds.length:Int)):=
 jm hk kD kD kD h3 hs ha (len_list hl)
variable{c:Expr}{p pg:Pos}{f:Str}{x y z d:D}
theorem wN(hk:sc.names.lookup f=some .globalImplicit)(h0:(f==("__debug__":Str))=false)(h1:f≠"reduce")(h2:f≠"isinstance")(h3:(fns.lookup f).isSome=true)(hs:PySem.W.isStarred a=false)(ha:(ev fns glob n).E k sc l a=some x)(hb:(zH fns (ev fns glob n) f [x]).bind qB=some d):
  (ev fns glob (n+1)).E k sc l (.Call (.Name f pg) [a] [] p)=some d:=uj hk h0 h1 h2 h3 (rK hs ha) hb
theorem jH1(hk:sc.names.lookup f=some .globalImplicit)(h0:(f==("__debug__":Str))=false)(h1:f≠"reduce")(h2:f≠"isinstance")(h3:(fns.lookup f).isSome=true)(hs:PySem.W.isStarred a=false)(wD:PySem.W.isStarred b=false)(ha:(ev fns glob n).E k sc l a=some x)(fW:(ev fns glob n).E k sc l b=some y)(hb:(zH fns (ev fns glob n) f [x,y]).bind qB=some d):
  (ev fns glob (n+1)).E k sc l (.Call (.Name f pg) [a,b] [] p)=some d:=uj hk h0 h1 h2 h3 (gh hs ha (rK wD fW)) hb
theorem E_call3(hk:sc.names.lookup f=some .globalImplicit)(h0:(f==("__debug__":Str))=false)(h1:f≠"reduce")(h2:f≠"isinstance")(h3:(fns.lookup f).isSome=true)(hs:PySem.W.isStarred a=false)(wD:PySem.W.isStarred b=false)(fy:PySem.W.isStarred c=false)(ha:(ev fns glob n).E k sc l a=some x)(fW:(ev fns glob n).E k sc l b=some y)(ha'':(ev fns glob n).E k sc l c=some z)(hb:(zH fns (ev fns glob n) f [x,y,z]).bind qB=some d):
  (ev fns glob (n+1)).E k sc l (.Call (.Name f pg) [a,b,c] [] p)=some d:=uj hk h0 h1 h2 h3 (gh hs ha (gh wD fW (rK fy ha''))) hb
noncomputable abbrev jK:xQ:=[("_filemode_table",tabD)]
noncomputable def tA(idx:Nat)(m b:Int):Bool:=if idx=0 then decide (Builtin.bitAnd m 61440=b) else decide (Builtin.bitAnd m b=b)
noncomputable def xn(idx:Nat)(m:Int)(rows:List (Int×Str)):Str:=match rows.find? (fun q=>tA idx m q.1) with
 |some q=>q.2
 |none=>if idx=0 then "?" else "-"
noncomputable def xf:Fn:=fnAt Challenge.pw_oy0159_02 "filemode"
structure uZ(idx:Nat)(m:Int)(l:jN)(ps:List Str):Prop where
 perm:l "perm"=some (.own (ps.map .str))
 index:l "index"=some (.val (.int (idx:Int)))
 mode:l "mode"=some (.val (.int m))
theorem uZ.set{idx:Nat}{m:Int}{l:jN}{ps:List Str}(h:uZ idx m l ps){x:Str}{b:B}(h1:x∈(["bit","char","table"]:List Str)):uZ idx m (jA l x b) ps:=by
 have je:∀y∈(["perm","index","mode"]:List Str),y≠x:=by
  intro y hy
  simp only[List.mem_cons,List.not_mem_nil,or_false] at h1 hy
  rcases h1 with rfl|rfl|rfl <;> rcases hy with rfl|rfl|rfl <;> decide
 exact⟨(qO (je _ yS)).trans h.perm,(qO (je _ uR)).trans h.index,(qO (je _ b8)).trans h.mode⟩
noncomputable def wi:Stmt:=qI (yx (qI xf.body 1)) 0
noncomputable def rG(q:Int×Str):D:= .tup [.int q.1,.str q.2]
theorem fm_turn{idx:Nat}{m:Int}{l:jN}{ps:List Str}{q:Int×Str}(h:uZ idx m l ps)(hb:l "bit"=some (.val (.int q.1)))(hc:l "char"=some (.val (.str q.2)))(hl:ps.length<=1000):
  ∃l',qd (ev jH jK (n+15)) false xf.scope l (yx wi)=some (if tA idx m q.1 then .brk else .next,l')/\uZ idx m l' (if tA idx m q.1 then ps++[q.2] else ps):=by
 have jh:lim=1000000:=rfl
 have happ:(ev jH jK (n+13)).S false xf.scope l (qI (ao (qI (ao (qI (yx wi) 0)) 0)) 0)=some (.next,jA l "perm" (.own (ps.map .str++[.str q.2]))):=
  yQ h.perm (jC kR kR (jD hc)) kR kR kR kR (by simp;exact j6)
 have happ2:(ev jH jK (n+13)).S false xf.scope l (qI (ao (qI (ifO (qI (yx wi) 0)) 0)) 0)=some (.next,jA l "perm" (.own (ps.map .str++[.str q.2]))):=
  yQ h.perm (jC kR kR (jD hc)) kR kR kR kR (by simp;exact j6)
 have eK:uZ idx m (jA l "perm" (.own (ps.map .str++[.str q.2]))) (ps++[q.2]):=⟨jL.trans (by simp),(sN).trans h.index,(sN).trans h.mode⟩
 show(?_:∃l',qd (ev jH jK (n+15)) false xf.scope l [.If _ [.If _ [_,.Break _] [] _] [.If _ [_,.Break _] [] _] _]=_/\_)
 have h0:Bt (ev jH jK (n+14)) false xf.scope (xW l) 4 (ak (qI (yx wi) 0))=some (decide ((idx:Int)=0)):=
  j7 kR (x:= .int (idx:Int)) (y:= .int 0) (jC kR kR (jP h.index)) kR (jZ.int.eq kD _ _)
 by_cases e0:idx=0
 .have h1:Bt (ev jH jK (n+13)) false xf.scope (xW l) 4 (ak (qI (ao (qI (yx wi) 0)) 0))=some (decide (Builtin.bitAnd m 61440=q.1)):=
   j7 kR (x:= .int (Builtin.bitAnd m 61440)) (y:= .int q.1) (wN kR kR kD kD kR kR (jC kR kR (jP h.mode)) kR) (jC kR kR (jP hb)) (jZ.int.eq kD _ _)
  have ht:tA idx m q.1=decide (Builtin.bitAnd m 61440=q.1):=by unfold tA;rw[if_pos e0]
  rw[ht]
  by_cases e1:Builtin.bitAnd m 61440=q.1
  .rw[jMx e1]
   show⟨_,yJ ((xy h0).trans ?_),eK⟩
   rw[jMx (by lia)]
   show yJ ((xy h1).trans ?_)
   rw[jMx e1]
   exact(jQ happ).trans (yJ rfl)
  .rw[jNb e1]
   show⟨l,(jQ ((xy h0).trans ?_)).trans jV,h⟩
   rw[jMx (by lia)]
   show(jQ ((xy h1).trans ?_)).trans jV
   rw[jNb e1]
   exact jV
 .have h1:Bt (ev jH jK (n+13)) false xf.scope (xW l) 4 (ak (qI (ifO (qI (yx wi) 0)) 0))=some (decide (Builtin.bitAnd m q.1=q.1)):=
   j7 kR (x:= .int (Builtin.bitAnd m q.1)) (y:= .int q.1) (jW (jC kR kR (jP h.mode)) (jC kR kR (jP hb)) kR) (jC kR kR (jP hb)) (jZ.int.eq kD _ _)
  have ht:tA idx m q.1=decide (Builtin.bitAnd m q.1=q.1):=by unfold tA;rw[if_neg e0]
  rw[ht]
  by_cases e1:Builtin.bitAnd m q.1=q.1
  .rw[jMx e1]
   show⟨_,yJ ((xy h0).trans ?_),eK⟩
   rw[jNb (by lia)]
   show yJ ((xy h1).trans ?_)
   rw[jMx e1]
   exact(jQ happ2).trans (yJ rfl)
  .rw[jNb e1]
   show⟨l,(jQ ((xy h0).trans ?_)).trans jV,h⟩
   rw[jNb (by lia)]
   show(jQ ((xy h1).trans ?_)).trans jV
   rw[jNb e1]
   exact jV
theorem jLw{idx:Nat}{m:Int}(rows:List (Int×Str)):∀(l:jN) (ps:List Str),uZ idx m l ps->ps.length<=1000->
  ∃l',forL (ev jH jK (n+15)) false xf.scope (sJ wi) (yx wi) l (rows.map rG)=some (if (rows.find? fun q=>tA idx m q.1).isSome then .brk else .next,l')/\uZ idx m l' (ps++((rows.find? fun q=>tA idx m q.1).map (·.2)).toList):=by
 induction rows with
 |nil=>
  intro l ps h _
  exact⟨l,z6,by simpa using h⟩
 |cons q rows ih=>
  intro l ps h hl
  show jE (fm_turn (n:=n) (q:=q) (l:=jA (jA l "bit" (.val (.int q.1))) "char" (.val (.str q.2))) ((h.set yS).set uR) ((sN).trans jL) jL hl) fun l2 e2 h2=> ?_
  generalize ht:tA idx m q.1=x0;induction x0 using cT with
  |true=>
   rw[ht] at e2 h2
   show⟨l2,?_,?_⟩
   .rw[List.find?_cons_of_pos (by exact ht)]
    exact uw rfl e2
   .rw[List.find?_cons_of_pos (by exact ht)]
    exact h2
  |false=>
   rw[ht] at e2 h2
   obtain⟨l',e',h'⟩:=ih l2 ps h2 hl
   show⟨l',?_,?_⟩
   .rw[jRn (by simp[ht])]
    exact(qT rfl e2).trans e'
   .rw[jRn (by simp[ht])]
    exact h'
noncomputable def dX:Stmt:=qI xf.body 1
noncomputable def tabEnt(q:Nat×List (Int×Str)):D:= .tup [.int (q.1:Int),.tup (q.2.map rG)]
theorem jLv{m:Int}(tabs:List (Nat×List (Int×Str))):∀(l:jN) (ps:List Str),l "perm"=some (.own (ps.map .str))->l "mode"=some (.val (.int m))->ps.length+tabs.length<=900->
  ∃l',forL (ev jH jK (n+16)) false xf.scope (sJ dX) (yx dX) l (tabs.map tabEnt)=some (.next,l')/\l' "perm"=some (.own ((ps++tabs.map fun q=>xn q.1 m q.2).map .str)):=by
 induction tabs with
 |nil=>
  intro l ps h1 h2 _
  exact⟨l,z6,by simpa using h1⟩
 |cons q0 tabs ih=>
  obtain⟨idx,rows⟩:=q0
  intro l ps h1 h2 hl
  have jh:lim=1000000:=rfl
  simp only[List.length_cons] at hl
  have h0:uZ idx m (jA (jA l "index" (.val (.int (idx:Int)))) "table" (.val (.tup (rows.map rG)))) ps:=⟨(sN).trans ((sN).trans h1),(sN).trans jL,(sN).trans ((sN).trans h2)⟩
  have ht:jA (jA l "index" (.val (.int (idx:Int)))) "table" (.val (.tup (rows.map rG))) "table"=some (.val (.tup (rows.map rG))):=jL
  generalize oU:jA (jA l "index" (.val (.int (idx:Int)))) "table" (.val (.tup (rows.map rG)))=l1 at h0 ht
  show jE (jLw (n:=n) rows l1 ps h0 (by lia)) fun l2 e2 i2=> ?_
  have hits:zR (ev jH jK (n+15)) false xf.scope (j3 l1) (itE wi)=some (rows.map rG):=by
   show(?_:(((ev jH jK (n+15)).E false xf.scope (j3 l1) (.Name "table" _)).bind ji)=_)
   rw[jC kR kR (jD ht)];rfl
  have kn:∃l3,qd (ev jH jK (n+16)) false xf.scope l1 (yx dX)=some (.next,l3)/\uZ idx m l3 (ps++[xn idx m rows]):=by
   show(?_:∃l3,qd (ev jH jK (n+16)) false xf.scope l1 [.For _ (.Name _ _) _ [.If _ _ _ _] _]=_/\_)
   generalize hf:(rows.find? (fun q=>tA idx m q.1))=x0;induction x0 using cO with
   |some q=>
    rw[hf] at e2 i2
    have:xn idx m rows=q.2:=by unfold xn;rw[hf]
    rw[this]
    exact⟨l2,(jQ (rj kR hits e2)).trans jV,i2⟩
   |none=>
    rw[hf] at e2 i2
    have i2:uZ idx m l2 ps:=by simpa using i2
    have hc:xn idx m rows=if idx=0 then ("?":Str) else ("-":Str):=by unfold xn;rw[hf]
    have h0:Bt (ev jH jK (n+14)) false xf.scope (xW l2) 4 (ak (qI (forO wi) 0))=some (decide ((idx:Int)=0)):=
     j7 kR (x:= .int (idx:Int)) (y:= .int 0) (jC kR kR (jP i2.index)) kR (jZ.int.eq kD _ _)
    by_cases e0:idx=0
    .have hc:xn idx m rows="?":=by rw[hc,jMt e0]
     rw[hc]
     show⟨jA l2 "perm" (.own (ps.map .str++[.str "?"])),(jQ (rh kR hits e2 (.inl rfl) ((jQ ((xy h0).trans ?_)).trans jV))).trans jV,⟨jL.trans (by simp),(sN).trans i2.index,(sN).trans i2.mode⟩⟩
     rw[jMx (by lia)]
     exact(jQ (yQ i2.perm kR kR kR kR kR (by simp;lia))).trans jV
    .have hc:xn idx m rows="-":=by rw[hc,jMv e0]
     rw[hc]
     show⟨jA l2 "perm" (.own (ps.map .str++[.str "-"])),(jQ (rh kR hits e2 (.inl rfl) ((jQ ((xy h0).trans ?_)).trans jV))).trans jV,⟨jL.trans (by simp),(sN).trans i2.index,(sN).trans i2.mode⟩⟩
     rw[jNb (by lia)]
     exact(jQ (yQ i2.perm kR kR kR kR kR (by simp;lia))).trans jV
  show jE kn fun l3 e3 i3=> ?_;clear kn
  show jE (ih l3 (ps++[xn idx m rows]) i3.perm i3.mode (by simp;(show x8 ?_ (by assumption);simp+arith))) fun l' e' h'=> ?_
  show⟨l',(qT (by rw[<-oU];rfl) e3).trans e',?_⟩
  rw[h'];simp
noncomputable def oK:List (Nat×List (Int×Str)):=[(0,[(40960,"l"),(49152,"s"),(32768,"-"),(24576,"b"),(16384,"d"),(8192,"c"),(4096,"p")]),(1,[(256,"r")]),(2,[(128,"w")]),(3,[(2112,"s"),(2048,"S"),(64,"x")]),(4,[(32,"r")]),(5,[(16,"w")]),(6,[(1032,"s"),(1024,"S"),(8,"x")]),(7,[(4,"r")]),(8,[(2,"w")]),(9,[(513,"t"),(512,"T"),(1,"x")])]
noncomputable def fM(m:Int):Str:=Txt.join "" (oK.map fun q=>xn q.1 m q.2)
set_option tactic.hygienic true in
theorem fmC_len{idx:Nat}{m:Int}{rows:List (Int×Str)}(h:∀q∈rows,q.2.length<=1000):(xn idx m rows).length<=1000:=by
 unfold xn
 split
 .rename_i q hq
  exact h _ (List.mem_of_find?_eq_some hq)
 .split <;> decide
variable{o:Expr}{ap cp:Pos}
theorem rl(h1:zt o=false)(h2:(ap.endLine==cp.line)=true)(h3:f≠"replace")(hs:PySem.W.isStarred a=false)(ho:(ev fns glob n).E k sc l o=some x)(ha:(ev fns glob n).E k sc l a=some y)(hb:gR x f [y]=some d):
  (ev fns glob (n+1)).E k sc l (.Call (.Attribute o f ap) [a] [] cp)=some d:=ui h1 h2 h3 (jOl rfl) (Nat.succ_ne_zero _) ho (rK hs ha) hb
theorem jF0:∀q∈oK,∀p∈q.2,p.2.length<=1000:=by decide
theorem jEb(m:Int):(zH jH (ev jH jK (n+20)) "filemode" [.int m]).bind qB=some (.str (fM m)):=by
 show(?_:(qd (ev jH jK (n+20)) false xf.scope (jA (fun _=>none) "mode" (.val (.int m))) xf.body).bind qB=_)
 show(?_:(qd (ev jH jK (n+20)) false xf.scope _ [_,.For _ (.Call (.Name _ _) [_] [] _) _ [] _,.Return (some (.Call (.Attribute _ _ _) [_] [] _)) _]).bind qB=_)
 show qC (wB (ds:=[]) kR kR kR kR) ?_
 show jE (jLv (n:=n+3) (m:=m) oK (jA (jA (fun _=>none) "mode" (.val (.int m))) "perm" (.own [])) [] kR kR kD) fun l' e' h'=> ?_
 show qC (dI (its:=oK.map tabEnt) kR kR e') (o9 (kq (rl (x:= .str "") (y:= .list ((oK.map fun q=>xn q.1 m q.2).map .str)) kR kR kD kR kR (jC kR kR ?_) ?_)))
 .show(gf h').trans ?_
  simp
 .show(?_:(if (("":Str)).length=0/\((oK.map fun q=>xn q.1 m q.2).map D.str).length<=1000 then (strs? ((oK.map fun q=>xn q.1 m q.2).map D.str)).bind fun ss=>if (ss.all fun s=>decide (s.length<=1000))=true then some (D.str (Txt.join "" ss)) else none else none)=_)
  rw[jMt ⟨by decide,by simp[oK]⟩,strs_map]
  show(?_:(if ((oK.map fun q=>xn q.1 m q.2).all fun s=>decide (s.length<=1000))=true then some (D.str (Txt.join "" (oK.map fun q=>xn q.1 m q.2))) else none)=_)
  rw[jMt]
  .rfl
  .rw[jNe]
   intro s hs
   show lE hs ?_;rintro q hq rfl
   show jMx (fmC_len ?_)
   exact jF0 q hq
noncomputable def chr(s:Str)(i:Int):Str:=⟨#[s.cps.getD i.toNat 0]⟩
theorem wK{s:Str}{i:Int}(h0:0<=i)(h1:i<(s.length:Int))(h2:s.length<=1000):vY (.str s) (.int i)=some (.str (chr s i)):=by
 have jh:lim=1000000:=rfl
 show(?_:(if s.length<=lim then (idx? i s.length).bind fun k=>(s.cps[k]?).map fun c=>D.str ⟨#[c]⟩ else none)=_)
 rw[jMt j6]
 unfold idx?
 rw[jMt h0,jMt h1]
 have hi:i.toNat<s.cps.size:=by
  have:s.length=s.cps.size:=rfl
  lia
 show(?_:(s.cps[i.toNat]?).map (fun c=>D.str ⟨#[c]⟩)=_)
 unfold chr
 rw[Array.getD_eq_getD_getElem?,jOk hi]
 rfl
theorem zu(s:Str)(i:Int):(chr s i).length=1:=rfl
theorem yp{a b:Str}(h:a.length+b.length<=lim):vQ .Add (.str a) (.str b)=some (.str (a++b)):=by
 show(?_:(if a.length+b.length<=lim then some (D.str (a++b)) else none)=_)
 rw[jMt h]
theorem StrLen.append(a b:Str):(a++b).length=a.length+b.length:=Str.length_append a b
noncomputable def yZ(m:Int)(k:Nat):Int:=m / 8 ^ k % 8
noncomputable def y4(m:Int)(k:Nat)(sg:Str):Str:=sg++chr "-r" (yZ m k / 4)++chr "-w" (yZ m k / 2 % 2)++chr (if k=0 then "-xTt" else "-xSs") (yZ m k % 2+m / 512 / 2 ^ k % 2 * 2)
noncomputable def vI(m:Int):Str:=y4 m 0 (y4 m 1 (y4 m 2 (chr "?pc?d?b?-?l?s???" (m / 4096 % 16))))
noncomputable def list1:Fn:=fnAt Challenge.pw_oy0159_02 "_law_listing"
theorem jKo{i:Nat}(h:i<=2):vQ .Pow (.int 8) (.int (i:Int))=some (.int (8 ^ i)):=by
 show(?_:Option.map D.int (if ((8:Int)=2\/(8:Int)=8)/\0<=(i:Int)/\(i:Int)<=64 then some ((8 ^ (i:Int).toNat)) else none)=_)
 rw[sr]
 rw[jMt ⟨.inr rfl,by lia,by lia⟩]
 rfl
theorem pow8_lt{i:Nat}(h:i<=2):0<(8:Int) ^ i/\(8:Int) ^ i<1000000:=by
 match i,h with
 |0,_=>decide
 |1,_=>decide
 |2,_=>decide
theorem kM{k:Nat}{m:Int}{l:jN}{sg:Str}(hk:k<=2)(h1:l "signs"=some (.val (.str sg)))(h2:l "mode"=some (.val (.int m)))(h3:l "k"=some (.val (.int (k:Int))))(hl:sg.length<=100):
  ∃l',qd (ev jH glob (n+15)) false list1.scope l (yx (qI list1.body 1))=some (.next,l')/\l' "signs"=some (.val (.str (y4 m k sg)))/\l' "mode"=some (.val (.int m)):=by
 have jh:lim=1000000:=rfl
 obtain⟨p1,p2⟩:=pow8_lt hk
 have hd0:0<=yZ m k/\yZ m k<8:=by unfold yZ;lia
 show(?_:∃l',qd (ev jH glob (n+15)) false list1.scope l [.Assign [_] (.BinOp (.BinOp _ _ (.BinOp _ _ _ _) _) _ _ _) _,.Assign [_] (.BinOp (.BinOp (.BinOp _ .Add (.Subscript _ (.BinOp _ _ _ _) _) _) .Add (.Subscript _ (.BinOp (.BinOp _ _ _ _) _ _ _) _) _) .Add (.Subscript (.IfExp _ _ _ _) (.BinOp (.BinOp _ _ _ _) _ (.BinOp (.BinOp (.BinOp (.BinOp _ _ _ _) _ (.BinOp _ _ _ _) _) _ _ _) _ _ _) _) _) _) _]=_/\_)
 have e1:(ev jH glob (n+15)).S false list1.scope l (qI (yx (qI list1.body 1)) 0)=some (.next,jA l "digit" (.val (.int (yZ m k)))):=by
  show jS (jW (x:= .int (m / 8 ^ k)) (y:= .int 8) (jW (x:= .int m) (y:= .int (8 ^ k)) (jC kR kR (jD h2)) (jW (x:= .int 8) (y:= .int (k:Int)) kR (jC kR kR (jD h3)) (jKo hk)) (div_val p1 p2)) kR (mod_val kD)) kR kR
 have g1:jA l "digit" (.val (.int (yZ m k))) "signs"=some (.val (.str sg)):=(sN).trans h1
 have g2:jA l "digit" (.val (.int (yZ m k))) "mode"=some (.val (.int m)):=(sN).trans h2
 have g3:jA l "digit" (.val (.int (yZ m k))) "k"=some (.val (.int (k:Int))):=(sN).trans h3
 have g4:jA l "digit" (.val (.int (yZ m k))) "digit"=some (.val (.int (yZ m k))):=jL
 generalize jA l "digit" (.val (.int (yZ m k)))=l2 at e1 g1 g2 g3 g4
 have sE:∀{p:Pos} {j:Nat},(ev jH glob (j+1)).E false list1.scope (j3 l2) (.Name "digit" p)=some (.int (yZ m k)):=fun {p j}=>jC kR kR (jD g4)
 have e2:(ev jH glob (n+15)).S false list1.scope l2 (qI (yx (qI list1.body 1)) 1)=some (.next,jA l2 "signs" (.val (.str (y4 m k sg)))):=by
  show jS (jW (x:= .str (sg++chr "-r" (yZ m k / 4)++chr "-w" (yZ m k / 2 % 2))) (y:= .str (chr (if k=0 then "-xTt" else "-xSs") (yZ m k % 2+m / 512 / 2 ^ k % 2 * 2))) (jW (x:= .str (sg++chr "-r" (yZ m k / 4))) (y:= .str (chr "-w" (yZ m k / 2 % 2))) (jW (x:= .str sg) (y:= .str (chr "-r" (yZ m k / 4))) (jC kR kR (jD g1)) (j5 kR (x:= .str "-r") (y:= .int (yZ m k / 4)) kR (jW sE kR (div_val (by omega+splitMinMax) (by omega+splitMinMax))) (wK ?_ ?_ kD)) (yp ?_)) (j5 kR (x:= .str "-w") (y:= .int (yZ m k / 2 % 2)) kR (jW (jW sE kR (div_val (by omega+splitMinMax) (by omega+splitMinMax))) kR (mod_val (by omega+splitMinMax))) (wK ?_ ?_ kD)) (yp ?_)) (j5 kR (x:= .str (if k=0 then "-xTt" else "-xSs")) (y:= .int (yZ m k % 2+m / 512 / 2 ^ k % 2 * 2)) (jH0 (c:=decide ((k:Int)=0)) (j7 kR (x:= .int (k:Int)) (y:= .int 0) (jC kR kR (jD g3)) kR (jZ.int.eq (by omega+splitMinMax) _ _)) ?_) (jW (x:= .int (yZ m k % 2)) (y:= .int (m / 512 / 2 ^ k % 2 * 2)) (jW sE kR (mod_val (by omega+splitMinMax))) (jW (x:= .int (m / 512 / 2 ^ k % 2)) (y:= .int 2) (jW (x:= .int (m / 512 / 2 ^ k)) (y:= .int 2) (jW (x:= .int (m / 512)) (y:= .int (2 ^ k)) (jW (jC kR kR (jD g2)) kR (div_val (by omega+splitMinMax) (by omega+splitMinMax))) (jW (x:= .int 2) (y:= .int (k:Int)) kR (jC kR kR (jD g3)) (uo (by omega+splitMinMax))) (jEk (by omega+splitMinMax))) kR (mod_val (by omega+splitMinMax))) kR ?_) kR) (wK ?_ ?_ ?_)) (yp ?_)) kR kR
  .omega+splitMinMax
  .rw[show ((("-r":Str).length:Nat):Int)=2 by decide];omega+splitMinMax
  .rw[zu];omega+splitMinMax
  .omega+splitMinMax
  .rw[show ((("-w":Str).length:Nat):Int)=2 by decide];omega+splitMinMax
  .rw[StrLen.append,zu,zu];omega+splitMinMax
  .by_cases e:k=0
   .rw[jMt e,jMx (by omega+splitMinMax)];kernel_rfl
   .rw[jMv e,jNb (by omega+splitMinMax)];kernel_rfl
  .show(?_:Option.map D.int (if (small (m / 512 / 2 ^ k % 2)||small 2)=true then some ((m / 512 / 2 ^ k % 2 * 2)) else none)=_)
   rw[sr]
   rw[show small 2=true by decide,Bool.or_true];rfl
  .omega+splitMinMax
  .have:(if k=0 then ("-xTt":Str) else "-xSs").length=4:=by split <;> decide
   rw[show ((if k=0 then ("-xTt":Str) else ("-xSs":Str)).length:Int)=4 by rw[this];rfl]
   omega+splitMinMax
  .split <;> decide
  .rw[StrLen.append,StrLen.append,zu,zu,zu];omega+splitMinMax
 exact wy _ ((jQ e1).trans ((jQ e2).trans jV)) jL ((sN).trans g2)
theorem uu(m:Int)(k:Nat)(sg:Str):(y4 m k sg).length=sg.length+3:=by
 unfold y4
 rw[StrLen.append,StrLen.append,StrLen.append]
 simp only[zu]
theorem jLc(m:Int):(zH jH (ev jH glob (n+20)) "_law_listing" [.int m]).bind qB=some (.str (vI m)):=by
 have h0:(chr "?pc?d?b?-?l?s???" (m / 4096 % 16)).length=1:=rfl
 show(?_:(qd (ev jH glob (n+20)) false list1.scope (jA (fun _=>none) "mode" (.val (.int m))) list1.body).bind qB=_)
 show(?_:(qd (ev jH glob (n+20)) false list1.scope _ [.Assign [_] (.Subscript _ (.BinOp (.BinOp _ _ _ _) _ _ _) _) _,.For _ (.Tuple _ _ _) _ [] _,_]).bind qB=_)
 show qC (jS (d:= .str (chr "?pc?d?b?-?l?s???" (m / 4096 % 16))) (j5 kR (x:= .str "?pc?d?b?-?l?s???") (y:= .int (m / 4096 % 16)) kR (jW (jW (x:= .int m) kR kR (div_val kD kD)) kR (mod_val kD)) (wK (by lia) ?_ kD)) kR kR) ?_
 .rw[show ((("?pc?d?b?-?l?s???":Str).length:Nat):Int)=16 by decide];lia
 generalize hc:chr "?pc?d?b?-?l?s???" (m / 4096 % 16)=c at h0
 have hl:vI m=y4 m 0 (y4 m 1 (y4 m 2 c)):=by unfold vI;rw[hc]
 rw[hl]
 have wa:∀{l:jN} {k:Nat} {x:Str} {b:B},x≠"k"->l x=some b->jA l "k" (.val (.int (k:Int))) x=some b:=fun h h'=>(qO h).trans h'
 show qk (kM (glob:=glob) (n:=n+4) (k:=2) (m:=m) (sg:=c) (l:=jA (jA (jA (fun _=>none) "mode" (.val (.int m))) "signs" (.val (.str c))) "k" (.val (.int ((2:Nat):Int)))) kD kR kR jL (by lia)) fun l1 e1 s1 m1=> ?_
 show qk (kM (glob:=glob) (n:=n+4) (k:=1) (m:=m) (sg:=y4 m 2 c) (l:=jA l1 "k" (.val (.int ((1:Nat):Int)))) kD (wa kD s1) (wa kD m1) jL (by rw[uu];lia)) fun l2 e2 s2 m2=> ?_
 show qk (kM (glob:=glob) (n:=n+4) (k:=0) (m:=m) (sg:=y4 m 1 (y4 m 2 c)) (l:=jA l2 "k" (.val (.int ((0:Nat):Int)))) kD (wa kD s2) (wa kD m2) jL (by rw[uu,uu];lia)) fun l3 e3 s3 m3=> ?_
 show qC (dI (its:=[.int 2,.int 1,.int 0]) kR kR (l':=l3) ?_) (o9 (kq (jC kR kR (jP s3))))
 exact(qT rfl e1).trans ((qT rfl e2).trans ((qT rfl e3).trans z6))
theorem jLr{p q y:Nat}(h:p / 2+q / 2=y / 2)(k:p % 2+q % 2=y % 2):p+q=y:=by
 rw[<-jP0 p 2,<-jP0 q 2,<-jP0 y 2,<-h,<-k,Nat.mul_add]
 exact Nat.add_add_add_comm _ _ _ _
theorem par2:∀a b y z w:Fin 2,(a.val=1↔y.val=1/\z.val=1)->(b.val=1↔y.val=1/\w.val=1)->w.val=1 - z.val->a.val+b.val=y.val:=by decide
theorem sub_one{p z:Nat}(h:z<2 * p):2 * p - 1 - z=2 * (p - 1 - z / 2)+(1 - z % 2):=by
 obtain⟨r,e⟩:∃r,p=z / 2+1+r:=⟨_,(jR4 (Nat.succ_le_of_lt (jPn h))).symm⟩
 rw[Nat.sub_sub]
 show Nat.sub_eq_of_eq_add ?_
 have e2:p - 1 - z / 2=r:=by
  rw[e,Nat.sub_sub,jO9 1 (z / 2)]
  exact Nat.add_sub_cancel_left _ _
 have e3:1 - z % 2+z % 2=1:=Nat.sub_add_cancel (jSi (jP3 z Nat.two_pos))
 rw[e2]
 have e4:2 * p=2 * (z / 2)+2+2 * r:=by rw[e,Nat.mul_add,Nat.mul_add]
 have e5:=jP0 z 2
 generalize z / 2=q at *
 generalize z % 2=b at *
 generalize 1 - b=c at *
 rw[e4,<-e5,show 2=c+b+1 by rw[e3]]
 simp+arith
theorem odd_sub{p z:Nat}(h:z<2 * p):(2 * p - 1 - z) % 2=1 - z % 2:=by
 rw[sub_one h,Nat.mul_add_mod]
 exact Nat.mod_eq_of_lt (jM7 (Nat.sub_le _ _) kD)
theorem jLs{p z:Nat}(h:z<2 * p):(2 * p - 1 - z) / 2=p - 1 - z / 2:=by
 rw[sub_one h,Nat.mul_add_div Nat.two_pos,Nat.div_eq_of_lt (jM7 (Nat.sub_le _ _) kD),Nat.add_zero]
theorem jJ3(n:Nat):∀(y z:Nat),y<2 ^ n->z<2 ^ n->(y&&& z)+(y&&& (2 ^ n - 1 - z))=y:=by
 induction n with
 |zero=>
  intro y z hy hz
  rw[Nat.lt_one_iff.mp hy,Nat.zero_and,Nat.zero_and]
 |succ n ih=>
  intro y z hy hz
  rw[jRl,Nat.mul_comm] at hy hz
  have ih:=ih (y / 2) (z / 2) (jPn hy) (jPn hz)
  rw[<-jLs hz,<-Nat.and_div_two,<-Nat.and_div_two] at ih
  rw[jRl,Nat.mul_comm]
  have l2:∀(a:Nat),a % 2<2:=fun a=>jP3 a Nat.two_pos
  exact jLr ih (par2 ⟨_,l2 _⟩ ⟨_,l2 _⟩ ⟨_,l2 y⟩ ⟨_,l2 z⟩ ⟨_,l2 _⟩ Nat.and_mod_two_eq_one Nat.and_mod_two_eq_one (odd_sub hz))
theorem jHx(x y n:Nat)(hy:y<2 ^ n):x&&& y=(x % 2 ^ n)&&& y:=by
 show jOd fun i=> ?_
 rw[jPj,jPj,jQ9]
 by_cases h:i<n
 .simp[h]
 .have:y.testBit i=false:=jOg (jNc hy (jOq kD (by lia)))
  simp[this]
theorem arA{x:Int}(h:¬0<=x):x= -((-x - 1).toNat:Int) - 1:=by omega
theorem arB{z p r t:Int}(e:z=t+r): -z - 1=p - 1 - r+(-t - p * 1):=by omega
theorem arC{r p:Nat}(h:r<p):0<=(p:Int) - 1 - (r:Int)/\(p:Int) - 1 - (r:Int)<p:=by omega
theorem arV{a:Int}{p r:Nat}(e:a=p - 1 - r)(h:r<p):a.toNat=p - 1 - r:=by omega
theorem arW{a b y:Nat}(h:a+b=y):(y:Int) - (a:Int)=(b:Int):=by omega
theorem jBz(x:Int)(y n:Nat)(hy:y<2 ^ n):Builtin.bitAnd x (y:Int)=(((x % ((2 ^ n:Nat):Int)).toNat&&& y:Nat):Int):=by
 have h0:0<2 ^ n:=Nat.pow_pos kD
 by_cases hx:0<=x
 .obtain⟨a,rfl⟩:=Int.eq_ofNat_of_zero_le hx
  have h1:Builtin.bitAnd (a:Int) (y:Int)=((a&&& y:Nat):Int):=by
   unfold Builtin.bitAnd
   rw[jMx hx,jMx (jOb y)]
   rfl
  rw[h1,jHx a y n hy]
  congr 2
 .have hz:∃z:Nat,x= -(z:Int) - 1:=⟨(-x - 1).toNat,arA hx⟩
  obtain⟨z,rfl⟩:=hz
  have h1:Builtin.bitAnd (-(z:Int) - 1) (y:Int)=(y:Int) - ((y&&& z:Nat):Int):=by
   unfold Builtin.bitAnd
   rw[jNb hx,jMx (jOb y)]
   show(?_:(y:Int) - (((y:Int).toNat&&& (Builtin.bitNot (-(z:Int) - 1)).toNat:Nat):Int)=_)
   rw[show (Builtin.bitNot (-(z:Int) - 1)).toNat=z by unfold Builtin.bitNot;lia]
   rfl
  have hm:((-(z:Int) - 1) % ((2 ^ n:Nat):Int)).toNat=2 ^ n - 1 - z % 2 ^ n:=by
   generalize 2 ^ n=p at h0
   have h2:z % p<p:=jP3 _ h0
   have h3:(-(z:Int) - 1) % (p:Int)=(p:Int) - 1 - ((z % p:Nat):Int):=by
    have e:=jP0 z p
    have e2:(z:Int)=(p:Int) * ((z / p:Nat):Int)+((z % p:Nat):Int):=by exact_mod_cast e.symm
    have e3: -(z:Int) - 1=((p:Int) - 1 - ((z % p:Nat):Int))+(p:Int) * (-((z / p:Nat):Int) - 1):=by
     rw[Int.mul_sub,Int.mul_neg]
     exact arB e2
    rw[e3,jQz,jSm (arC h2).1 (arC h2).2]
   exact arV h3 h2
  have hs:=jJ3 n y (z % 2 ^ n) hy (jP3 _ h0)
  rw[h1,hm,jSj y z,jHx z y n hy,jSj _ y,jSj _ y]
  exact arW hs
theorem kP(m:Int):Builtin.bitAnd m 4095=m % 4096:=by
 have h:=jBz m 4095 12 kD
 have e:(m % ((2 ^ 12:Nat):Int)).toNat&&& 4095=(m % ((2 ^ 12:Nat):Int)).toNat:=Nat.and_two_pow_sub_one_of_lt_two_pow (n:=12) (by
  have:(2 ^ 12:Nat)=4096:=by decide
  lia)
 rw[e] at h
 have:((2 ^ 12:Nat):Int)=4096:=by decide
 rw[this] at h
 rw[show ((4095:Nat):Int)=4095 from rfl] at h
 rw[h]
 lia
theorem dr(n i:Nat):n&&& 2 ^ i=if n.testBit i then 2 ^ i else 0:=by
 show jOd fun j=> ?_
 rw[jPj,Nat.testBit_two_pow]
 by_cases e:i=j
 .subst e
  cases h:n.testBit i <;> simp
 .cases h:n.testBit i <;> simp[e]
theorem rT(x:Int){d c:Int}(hd:0<d)(hc:0<c):x % (d * c) / d=x / d % c:=by
 have e:x=x % (d * c)+d * (c * (x / (d * c))):=by
  rw[<-jR8]
  exact(Int.emod_add_mul_ediv x (d * c)).symm
 have h0:0<=x % (d * c):=Int.emod_nonneg x (Int.ne_of_gt (Int.mul_pos hd hc))
 have h1:x % (d * c)<c * d:=by
  rw[Int.mul_comm c d]
  exact Int.emod_lt_of_pos x (Int.mul_pos hd hc)
 generalize x % (d * c)=r at *
 generalize x / (d * c)=a at e
 rw[e,Int.add_mul_ediv_left _ _ (Int.ne_of_gt hd),jQz,jSm (Int.ediv_nonneg h0 (Int.le_of_lt hd)) (Int.ediv_lt_of_lt_mul hd h1)]
end
section
variable{m:Int}{u:Nat}(hu:(m % 65536).toNat=u)
include hu
theorem mO(y:Nat)(hy:y<65536):Builtin.bitAnd m (y:Int)=((u&&& y:Nat):Int):=by
 have h:=jBz m y 16 (by
    have:(2 ^ 16:Nat)=65536:=by decide
    assumption)
 rw[show ((2 ^ 16:Nat):Int)=65536 by decide,hu] at h
 exact h
theorem dZ(i:Nat)(hi:i<16):decide (Builtin.bitAnd m ((2 ^ i:Nat):Int)=((2 ^ i:Nat):Int))=u.testBit i:=by
 have h1:2 ^ i<65536:=by
  have:=jRw (a:=2) kD hi
  have e:(2 ^ 16:Nat)=65536:=by decide
  assumption
 rw[mO hu _ h1,dr]
 have h0:0<2 ^ i:=Nat.pow_pos kD
 generalize 2 ^ i=p at h0
 cases u.testBit i
 .show jNb ?_
  simp;lia
 .show jMx ?_
  simp
theorem two_bit(i j:Nat)(hi:i<16)(hj:j<16)(y:Nat)(hy:y=2 ^ i|||2 ^ j)(je:¬(2 ^ i=y)/\¬(2 ^ j=y)/\y≠0):decide (Builtin.bitAnd m (y:Int)=(y:Int))=(u.testBit i&&u.testBit j):=by
 have h1:y<2 ^ 16:=by
  rw[hy]
  exact Nat.or_lt_two_pow (jRw kD hi) (jRw kD hj)
 rw[mO hu y (by exact h1)]
 conv=>lhs;rw[hy]
 rw[Nat.and_or_distrib_left,dr,dr,<-hy]
 cases u.testBit i <;> cases u.testBit j <;> simp only[Bool.false_eq_true,if_false,if_true,Nat.zero_or,Nat.or_zero,Bool.and_true,Bool.and_false,Bool.and_self]
 .exact jNb fun h=>je.2.2 (by lia)
 .exact jNb fun h=>je.2.1 (by lia)
 .exact jNb fun h=>je.1 (by lia)
 .exact jMx (by rw[hy])
theorem jLi:Builtin.bitAnd m 61440=((u / 4096 * 4096:Nat):Int):=by
 have jv:u<65536:=by lia
 have h:=mO hu 61440 kD
 have e:u&&& 61440=u / 4096 * 4096:=by
  have h1:=Nat.and_div_two_pow (a:=u) (b:=61440) (n:=12)
  have h2:=Nat.and_mod_two_pow (a:=u) (b:=61440) (n:=12)
  have e1:(61440 / 2 ^ 12:Nat)=2 ^ 4 - 1:=by decide
  have e2:(61440 % 2 ^ 12:Nat)=0:=by decide
  rw[e1,Nat.and_two_pow_sub_one_of_lt_two_pow (by
     have:(2 ^ 12:Nat)=4096:=by decide
     have:(2 ^ 4:Nat)=16:=by decide
     lia)] at h1
  rw[e2,Nat.and_zero] at h2
  have:(2 ^ 12:Nat)=4096:=by decide
  rw[this] at h1 h2
  lia
 rw[e] at h
 exact h
omit hu in
theorem dE(i d:Nat)(hd:d=2 ^ i):u.testBit i=decide (u / d % 2=1):=by
 rw[jOh,hd]
theorem xU(d c:Nat)(h0:(d:Int)≠0)(hd:(65536:Int)=d * (2 * c)):m / d % 2=((u / d % 2:Nat):Int):=by
 have e:m=(u:Int)+d * (2 * (c * (m / 65536))):=by
  rw[<-hu,Int.toNat_of_nonneg (Int.emod_nonneg _ kD),<-jR8,<-jR8,jR8 (d:Int) 2 c,<-hd]
  exact(Int.emod_add_mul_ediv m 65536).symm
 rw[e,Int.add_mul_ediv_left _ _ h0,jQz]
 rfl
end
noncomputable def gU:List (Int×Str):=[(40960,"l"),(49152,"s"),(32768,"-"),(24576,"b"),(16384,"d"),(8192,"c"),(4096,"p")]
theorem jLj:∀t:Fin 16,(match gU.find? (fun q=>decide (((t.val * 4096:Nat):Int)=q.1)) with|some q=>q.2|none=>("?":Str))=chr "?pc?d?b?-?l?s???" ((t.val:Nat):Int):=by decide+kernel
theorem kind_c{m:Int}{u:Nat}(hu:(m % 65536).toNat=u):xn 0 m gU=chr "?pc?d?b?-?l?s???" (m / 4096 % 16):=by
 have jv:u<65536:=by lia
 have h:=jLj ⟨u / 4096,jPn jv⟩
 have e:m / 4096 % 16=((u / 4096:Nat):Int):=by
  have h0:0<=m % 65536:=Int.emod_nonneg m kD
  rw[Int.natCast_ediv,<-hu,Int.toNat_of_nonneg h0]
  exact(rT m (d:=4096) (c:=16) kD kD).symm
 rw[e,<-h]
 unfold xn tA
 rw[jLi hu]
 simp only[if_true]
 first|done|rfl
theorem one_c{m:Int}{u:Nat}(hu:(m % 65536).toNat=u){idx:Nat}(h0:idx≠0)(i:Nat)(hi:i<16)(y:Int)(hy:y=((2 ^ i:Nat):Int))(c:Str):xn idx m [(y,c)]=if u.testBit i then c else "-":=by
 unfold xn tA
 rw[jMv h0]
 simp only[h0,if_false]
 rw[hy]
 have h:=dZ hu i hi
 cases hb:u.testBit i <;> rw[hb] at h <;> simp only[List.find?,h] <;> rfl
theorem jHe{m:Int}{u:Nat}(hu:(m % 65536).toNat=u){idx:Nat}(h0:idx≠0)(i j:Nat)(hi:i<16)(hj:j<16)(y1 y2 y3:Int)(h2:y2=((2 ^ i:Nat):Int))(h3:y3=((2 ^ j:Nat):Int))(y:Nat)(hy:y=2 ^ i|||2 ^ j)(h1:y1=(y:Int))(je:¬(2 ^ i=y)/\¬(2 ^ j=y)/\y≠0)(c1 c2 c3:Str):
  xn idx m [(y1,c1),(y2,c2),(y3,c3)]=if u.testBit i then (if u.testBit j then c1 else c2) else (if u.testBit j then c3 else "-"):=by
 unfold xn tA
 rw[jMv h0]
 simp only[h0,if_false]
 rw[h1,h2,h3]
 have e1:=two_bit hu i j hi hj y hy je
 have e2:=dZ hu i hi
 have e3:=dZ hu j hj
 cases hb:u.testBit i <;> cases hc:u.testBit j <;> rw[hb] at e1 e2 <;> rw[hc] at e1 e3 <;> simp only[List.find?,e1,e2,e3] <;> rfl
theorem jHv(a b:Nat)(i:Int)(p:Bool)(h:i=if p then 1 else 0):chr ⟨#[a,b]⟩ i=if p then ⟨#[b]⟩ else ⟨#[a]⟩:=by
 subst h
 cases p <;> rfl
theorem jEp(a b c d:Nat)(i:Int)(p q:Bool)(h:i=(if p then 2 else 0)+(if q then 1 else 0)):chr ⟨#[a,b,c,d]⟩ i=if p then (if q then ⟨#[d]⟩ else ⟨#[c]⟩) else (if q then ⟨#[b]⟩ else ⟨#[a]⟩):=by
 subst h
 cases p <;> cases q <;> rfl
theorem rS:("-r":Str)=⟨#[45,114]⟩:=by decide+kernel
theorem wS:("-w":Str)=⟨#[45,119]⟩:=by decide+kernel
theorem xS:("-xSs":Str)=⟨#[45,120,83,115]⟩:=by decide+kernel
theorem xT:("-xTt":Str)=⟨#[45,120,84,116]⟩:=by decide+kernel
theorem pB:("-":Str)=⟨#[45]⟩/\("r":Str)=⟨#[114]⟩/\("w":Str)=⟨#[119]⟩/\("x":Str)=⟨#[120]⟩/\("s":Str)=⟨#[115]⟩/\("S":Str)=⟨#[83]⟩/\("t":Str)=⟨#[116]⟩/\("T":Str)=⟨#[84]⟩:=by decide+kernel
theorem qZ(x:Str)(xs:List Str)(h:xs≠[]):Str.join "" (x::xs)=x++Str.join "" xs:=by
 induction xs using cL with
 |nil=>exact absurd rfl h
 |cons y ys=>
  show(?_:x++("":Str)++Str.join "" (y::ys)=_)
  rw[show ("":Str)=Str.empty by decide+kernel,Str.append_empty]
theorem e84(x:Int):x % 8 / 4=x / 4 % 2:=rT x (d:=4) (c:=2) kD kD
theorem e82(x:Int):x % 8 / 2 % 2=x / 2 % 2:=by
 rw[show x % 8 / 2=x / 2 % 4 from rT x (d:=2) (c:=4) kD kD]
 exact Int.emod_emod_of_dvd _ kD
theorem e81(x:Int):x % 8 % 2=x % 2:=Int.emod_emod_of_dvd _ kD
section
variable{m:Int}{u:Nat}(hu:(m % 65536).toNat=u)
include hu
omit hu in
theorem bitDec(n:Nat):((n % 2:Nat):Int)=if decide (n % 2=1) then 1 else 0:=by
 rcases jQv n with h|h <;> rw[h] <;> rfl
theorem iC{idx:Nat}(h0:idx≠0)(i:Nat)(hi:i<16)(d:Nat)(hd:d=2 ^ i)(j:Int)(h:j=((u / d % 2:Nat):Int)):xn idx m [((d:Int),"r")]=chr "-r" j:=by
 rw[one_c hu h0 i hi _ (by rw[hd]),rS,jHv 45 114 j (u.testBit i) (by rw[dE i d hd,h];exact bitDec _),pB.1,pB.2.1]
theorem eg{idx:Nat}(h0:idx≠0)(i:Nat)(hi:i<16)(d:Nat)(hd:d=2 ^ i)(j:Int)(h:j=((u / d % 2:Nat):Int)):xn idx m [((d:Int),"w")]=chr "-w" j:=by
 rw[one_c hu h0 i hi _ (by rw[hd]),wS,jHv 45 119 j (u.testBit i) (by rw[dE i d hd,h];exact bitDec _),pB.1,pB.2.2.1]
theorem ed{idx:Nat}(h0:idx≠0)(i k:Nat)(hi:i<16)(hk:k<16)(d e:Nat)(hd:d=2 ^ i)(he:e=2 ^ k)(y:Nat)(hy:y=2 ^ i|||2 ^ k)(je:¬(2 ^ i=y)/\¬(2 ^ k=y)/\y≠0)(j j':Int)(h:j=((u / d % 2:Nat):Int))(h':j'=((u / e % 2:Nat):Int)):
  xn idx m [((y:Int),"s"),((d:Int),"S"),((e:Int),"x")]=chr "-xSs" (j'+j * 2)/\xn idx m [((y:Int),"t"),((d:Int),"T"),((e:Int),"x")]=chr "-xTt" (j'+j * 2):=by
 have e0:j'+j * 2=(if u.testBit i then 2 else 0)+(if u.testBit k then 1 else 0):=by
  rw[dE i d hd,dE k e he,h,h']
  rcases jQv (u / d) with g|g <;> rcases jQv (u / e) with g'|g' <;> rw[g,g'] <;> rfl
 constructor
 .rw[jHe hu h0 i k hi hk _ _ _ (by rw[hd]) (by rw[he]) y hy rfl je,xS,jEp 45 120 83 115 _ (u.testBit i) (u.testBit k) e0,pB.1,pB.2.2.2.1,pB.2.2.2.2.1,pB.2.2.2.2.2.1]
 .rw[jHe hu h0 i k hi hk _ _ _ (by rw[hd]) (by rw[he]) y hy rfl je,xT,jEp 45 120 84 116 _ (u.testBit i) (u.testBit k) e0,pB.1,pB.2.2.2.1,pB.2.2.2.2.2.2.1,pB.2.2.2.2.2.2.2]
end
theorem jAo(m:Int):fM m=vI m:=by
 generalize hu:(m % 65536).toNat=u
 have d2:yZ m 2=m / 64 % 8:=by unfold yZ;rfl
 have d1:yZ m 1=m / 8 % 8:=by unfold yZ;rfl
 have d0:yZ m 0=m % 8:=by unfold yZ;rw[Int.pow_zero,Int.ediv_one]
 have hm:∀a b:Int,0<=a->m / a / b=m / (a * b):=fun a b h=>Int.ediv_ediv_of_nonneg h
 have r1:=iC hu (idx:=1) kD 8 kD 256 kD (yZ m 2 / 4) (by rw[d2,e84,hm 64 4 kD];exact(xU hu 256 128 kD kD))
 have r2:=eg hu (idx:=2) kD 7 kD 128 kD (yZ m 2 / 2 % 2) (by rw[d2,e82,hm 64 2 kD];exact(xU hu 128 256 kD kD))
 have r3:=(ed hu (idx:=3) kD 11 6 kD kD 2048 64 kD kD 2112 kD kD (m / 512 / 2 ^ 2 % 2) (yZ m 2 % 2) (by rw[hm 512 (2 ^ 2) kD];exact(xU hu 2048 16 kD kD)) (by rw[d2,e81];exact(xU hu 64 512 kD kD))).1
 have r4:=iC hu (idx:=4) kD 5 kD 32 kD (yZ m 1 / 4) (by rw[d1,e84,hm 8 4 kD];exact(xU hu 32 1024 kD kD))
 have r5:=eg hu (idx:=5) kD 4 kD 16 kD (yZ m 1 / 2 % 2) (by rw[d1,e82,hm 8 2 kD];exact(xU hu 16 2048 kD kD))
 have r6:=(ed hu (idx:=6) kD 10 3 kD kD 1024 8 kD kD 1032 kD kD (m / 512 / 2 ^ 1 % 2) (yZ m 1 % 2) (by rw[hm 512 (2 ^ 1) kD];exact(xU hu 1024 32 kD kD)) (by rw[d1,e81];exact(xU hu 8 4096 kD kD))).1
 have r7:=iC hu (idx:=7) kD 2 kD 4 kD (yZ m 0 / 4) (by rw[d0,e84];exact(xU hu 4 8192 kD kD))
 have r8:=eg hu (idx:=8) kD 1 kD 2 kD (yZ m 0 / 2 % 2) (by rw[d0,e82];exact(xU hu 2 16384 kD kD))
 have r9:=(ed hu (idx:=9) kD 9 0 kD kD 512 1 kD kD 513 kD kD (m / 512 / 2 ^ 0 % 2) (yZ m 0 % 2) (by rw[hm 512 (2 ^ 0) kD];exact(xU hu 512 64 kD kD)) (by rw[d0,e81,<-Int.ediv_one m];exact(xU hu 1 32768 kD kD))).2
 have hj:fM m=xn 0 m gU++(xn 1 m [(256,"r")]++(xn 2 m [(128,"w")]++(xn 3 m [(2112,"s"),(2048,"S"),(64,"x")]++(xn 4 m [(32,"r")]++(xn 5 m [(16,"w")]++(xn 6 m [(1032,"s"),(1024,"S"),(8,"x")]++(xn 7 m [(4,"r")]++(xn 8 m [(2,"w")]++xn 9 m [(513,"t"),(512,"T"),(1,"x")])))))))):=by
  show(?_:Builtin.Str.glued "" [xn 0 m gU,xn 1 m [(256,"r")],xn 2 m [(128,"w")],xn 3 m [(2112,"s"),(2048,"S"),(64,"x")],xn 4 m [(32,"r")],xn 5 m [(16,"w")],xn 6 m [(1032,"s"),(1024,"S"),(8,"x")],xn 7 m [(4,"r")],xn 8 m [(2,"w")],xn 9 m [(513,"t"),(512,"T"),(1,"x")]]=_)
  generalize xn 0 m gU=a0
  generalize xn 1 m [(256,"r")]=a1
  generalize xn 2 m [(128,"w")]=a2
  generalize xn 3 m [(2112,"s"),(2048,"S"),(64,"x")]=a3
  generalize xn 4 m [(32,"r")]=a4
  generalize xn 5 m [(16,"w")]=a5
  generalize xn 6 m [(1032,"s"),(1024,"S"),(8,"x")]=a6
  generalize xn 7 m [(4,"r")]=a7
  generalize xn 8 m [(2,"w")]=a8
  generalize xn 9 m [(513,"t"),(512,"T"),(1,"x")]=a9
  rw[StrLaws.glued_eq_join,qZ _ _ (by simp),qZ _ _ (by simp),qZ _ _ (by simp),qZ _ _ (by simp),qZ _ _ (by simp),qZ _ _ (by simp),qZ _ _ (by simp),qZ _ _ (by simp),qZ _ _ (by simp)]
  rfl
 rw[hj,kind_c hu]
 have hl:vI m=chr "?pc?d?b?-?l?s???" (m / 4096 % 16)++(chr "-r" (yZ m 2 / 4)++(chr "-w" (yZ m 2 / 2 % 2)++(chr "-xSs" (yZ m 2 % 2+m / 512 / 2 ^ 2 % 2 * 2)++(chr "-r" (yZ m 1 / 4)++(chr "-w" (yZ m 1 / 2 % 2)++(chr "-xSs" (yZ m 1 % 2+m / 512 / 2 ^ 1 % 2 * 2)++(chr "-r" (yZ m 0 / 4)++(chr "-w" (yZ m 0 / 2 % 2)++chr "-xTt" (yZ m 0 % 2+m / 512 / 2 ^ 0 % 2 * 2))))))))):=by
  unfold vI y4
  rw[jMv (show¬(2:Nat)=0 by decide),jMv (show¬(1:Nat)=0 by decide),jMt rfl]
  simp only[Str.append_assoc]
 rw[hl,<-r1,<-r2,<-r3,<-r4,<-r5,<-r6,<-r7,<-r8,<-r9]
 rfl
noncomputable def idxs(c:Nat):Nat->List Nat->List Nat
 |_,[]=>[]
 |k,a::l=>if a=c then k::idxs c (k+1) l else idxs c (k+1) l
theorem xb(c:Nat)(l1:List Nat):∀(l2:List Nat) (k:Nat),idxs c k (l1++l2)=idxs c k l1++idxs c (k+l1.length) l2:=by
 induction l1 with
 |nil=>
  intro l2 k
  exact rfl
 |cons a l1 ih=>
  intro l2 k
  have ih:=ih l2 (k+1)
  have e:k+1+l1.length=k+(a::l1).length:=by rw[jNo];simp+arith only
  rw[e] at ih
  have u:∀l,idxs c k (a::l)=if a=c then k::idxs c (k+1) l else idxs c (k+1) l:=fun l=>rfl
  rw[List.cons_append,u,u,ih]
  split <;> rfl
theorem wU(c:Nat)(l:List Nat):∀(k:Nat),c∉l->idxs c k l=[]:=by
 induction l with
 |nil=>
  intro _ _
  exact rfl
 |cons a l ih=>
  intro k h
  show(jMv (fun e:a=c=>h (by rw[e];exact jy))).trans (ih (k+1) fun hm=>h (qV _ hm))
theorem jKz(x:Str)(c limit:Nat)(l:List Nat):∀(k free:Nat) (fd:Array Nat),x.cps.toList.drop k=l->free<=k->
  (forIn (List.range' k (x.length+1 - k)) (fd,free) (StrLaws.occBody x ⟨#[c]⟩ x.length limit)).run.fst.toList=fd.toList++(idxs c k l).take (limit - fd.size):=by
 induction l with
 |nil=>
  intro k free fd hd hf
  have hk:x.length<=k:=by
   have:=jRy.mp hd
   simpa [Str.length] using this
  have hn:∀(l:List Nat) (fr:Nat),(∀i∈l,x.length<=i)->(forIn l (fd,fr) (StrLaws.occBody x ⟨#[c]⟩ x.length limit)).run.fst=fd:=by
   intro l
   induction l with
   |nil=>intro fr _;rfl
   |cons i l ih=>
    intro fr h
    rw[jQn]
    unfold StrLaws.occBody
    have hi:=h i jy
    rw[jMv (fun hh=>by
     have:=hh.1.2
     have e:(⟨#[c]⟩:Str).length=1:=rfl
     rw[e] at this;lia)]
    exact ih fr fun j hj=>h j (qV _ hj)
  rw[hn _ _ fun i hi=>by have:=List.mem_range'_1.mp hi;lia]
  show(?_:_=fd.toList++List.take _ [])
  rw[List.take_nil,jOj]
 |cons a l ih=>
  intro k free fd hd hf
  have hk:k<x.cps.toList.length:=by
   show Nat.lt_of_not_le fun h=> ?_
   rw[jPi h] at hd;cases hd
  have hlen:x.length=x.cps.toList.length:=by simp[Str.length]
  have hget:x.cps.toList[k]? =some a:=by
   have:=jM8 (·[0]?) hd
   simpa using this
  have hd2:x.cps.toList.drop (k+1)=l:=by
   have:=jM8 List.tail hd
   simpa using this
  rw[show x.length+1 - k=(x.length+1 - (k+1))+1 by lia,List.range'_succ,jQn]
  have hone:(k+(⟨#[c]⟩:Str).length<=x.length/\Builtin.Str.subAt x ⟨#[c]⟩ k=true)↔a=c:=by
   rw[StrLaws.subAt_one,hget];simp
  rw[show idxs c k (a::l)=if a=c then k::idxs c (k+1) l else idxs c (k+1) l from rfl]
  unfold StrLaws.occBody
  by_cases e:a=c
  .rw[jMt e]
   have h1:=hone.mpr e
   by_cases hs:fd.size<limit
   .rw[jMt ⟨⟨⟨hs,hf⟩,h1.1⟩,h1.2⟩]
    show(ih (k+1) _ (fd.push k) hd2 (by show(?_:k+1<=k+1);exact jNi _)).trans ?_
    rw[jSp,Array.size_push,show limit - fd.size=(limit - (fd.size+1))+1 by lia,List.take_succ_cons,jNl]
    rfl
   .rw[jMv (fun hh=>hs hh.1.1.1)]
    show(ih (k+1) _ fd hd2 (ec zA)).trans ?_
    rw[show limit - fd.size=0 by lia]
    simp
  .rw[jMv e]
   rw[jMv (fun hh=>e (hone.mp ⟨hh.1.2,hh.2⟩))]
   exact ih (k+1) _ fd hd2 (ec zA)
theorem d5(x:Str)(c lo limit:Nat):Builtin.Str.occurrences x ⟨#[c]⟩ lo x.length limit=(idxs c lo (x.cps.toList.drop lo)).take limit:=by
 rw[StrLaws.occ_eq,jKz x c limit _ lo lo #[] rfl nL]
 simp
noncomputable def codes:Nat->Nat->List Nat
 |0,n=>[48+n % 10]
 |f+1,n=>if n<10 then [48+n] else codes f (n / 10)++[48+n % 10]
theorem vo(f:Nat):∀(n:Nat),n<10 ^ (f+1)->NumText.AllDigits (codes f n)/\NumText.digitsVal (codes f n)=n/\(codes f n).length<=f+1/\(codes f n≠[])/\((codes f n).length=1\/∃c r,codes f n=c::r/\49<=c)/\(0<n->∃c r,codes f n=c::r/\49<=c):=by
 induction f with
 |zero=>
  intro n h
  have h:n<10:=by exact h
  show⟨?_,?_,jNi 1,List.cons_ne_nil _ _,.inl rfl,fun h0=>⟨_,_,rfl,by lia⟩⟩
  .intro c hc;(replace hc:=jw.mp hc);lia
  .show(?_:0 * 10+(48+n % 10 - 48)=n);lia
 |succ f ih=>
  intro n h
  rw[show codes (f+1) n=if n<10 then [48+n] else codes f (n / 10)++[48+n % 10] from rfl]
  by_cases e:n<10
  .rw[jMt e]
   show⟨?_,?_,by first|with_reducible rfl|simp,by first|with_reducible rfl|simp,.inl rfl,fun h0=>⟨_,_,rfl,by lia⟩⟩
   .intro c hc;(replace hc:=jw.mp hc);lia
   .show(?_:0 * 10+(48+n - 48)=n);lia
  .rw[jMv e]
   have hp:10 ^ (f+1+1)=10 * 10 ^ (f+1):=by rw[jRl];simp+arith only
   show bC (ih (n / 10) (by lia)) fun h1 h2 h3 h4 h5 h6=> ?_
   show qA (h6 (by lia)) fun c r e6 g6=> ?_
   show⟨?_,?_,by first|with_reducible rfl|simp;assumption,by simp,.inr ⟨c,r++[48+n % 10],by rw[e6];rfl,g6⟩,fun _=>⟨c,r++[48+n % 10],by rw[e6];rfl,g6⟩⟩
   .intro c hc
    rcases jj.mp hc with hc|hc
    .exact h1 c hc
    .replace hc:=jw.mp hc;lia
   .rw[NumText.digitsVal_snoc,h2];lia
theorem jAc(f n:Nat)(h:n<10 ^ (f+1)):Nat.toDigits 10 n=(codes f n).map Char.ofNat:=by
 show bC (vo f n h) fun h1 h2 h3 h4 h5 h6=> ?_
 have hl:(codes f n).length=((codes f n).length - 1)+1:=by
  have:=List.length_pos_iff.mpr h4
  lia
 have:=NumText.toDigits_digitsVal ((codes f n).length - 1) (codes f n) hl h1 (h5.imp (fun e=>by lia) id)
 rw[h2] at this
 exact this
theorem toNat_ofNat{cs:List Nat}(h:NumText.AllDigits cs):(cs.map Char.ofNat).map Char.toNat=cs:=by
 rw[jOz]
 show(jPx fun c hc=> ?_).trans (List.map_id _)
 have:=h c hc
 have hv:c.isValidChar:= .inl (by lia)
 show(?_:(Char.ofNat c).toNat=c)
 simp[Char.ofNat,hv,Char.ofNatAux]
noncomputable def tx(m:Int):Str:=Str.ofString (toString m)
theorem tx_nat(n:Nat)(h:n<10 ^ 10):(tx (n:Int)).cps.toList=codes 9 n:=by
 obtain⟨h1,_⟩:=vo 9 n h
 unfold tx
 rw[Str.ofString_eq_toList]
 show(?_:(((toString (n:Int)).toList.map Char.toNat).toArray).toList=_)
 rw[List.toList_toArray]
 have:toString (n:Int)=String.ofList (Nat.toDigits 10 n):=rfl
 rw[this,String.toList_ofList,jAc 9 n h,toNat_ofNat h1]
theorem tx_neg(n:Nat)(h:n+1<10 ^ 10):(tx (Int.negSucc n)).cps.toList=45::codes 9 (n+1):=by
 obtain⟨h1,_⟩:=vo 9 (n+1) h
 unfold tx
 rw[Str.ofString_eq_toList]
 show(?_:(((toString (Int.negSucc n)).toList.map Char.toNat).toArray).toList=_)
 rw[List.toList_toArray]
 have:toString (Int.negSucc n)="-"++String.ofList (Nat.toDigits 10 (n+1)):=rfl
 rw[this,String.toList_append,jNr,jAc 9 (n+1) h,String.toList_ofList (l:=(codes 9 (n+1)).map Char.ofNat),toNat_ofNat h1]
 rfl
theorem mH{m:Int}(h:m.natAbs<10 ^ 9):(∀c∈(tx m).cps.toList,c=45\/(48<=c/\c<=57))/\(tx m).length<=11/\1<=(tx m).length/\PySem.intText? (tx m)=some m:=by
 have hp:10 ^ 9<10 ^ 10:=by decide
 have hlen:∀x:Str,x.length=x.cps.toList.length:=fun x=>by simp[Str.length]
 induction m using cI with
 |ofNat n=>
  have h:n<10 ^ 9:=h
  have e:=tx_nat n (pV zA zA)
  show bC (vo 9 n (pV zA zA)) fun h1 h2 h3 h4 h5 h6=> ?_
  have dB:=List.length_pos_iff.mpr h4
  have e':(tx (Int.ofNat n)).cps.toList=codes 9 n:=e
  have hl:=hlen (tx (Int.ofNat n))
  rw[e'] at hl
  show⟨fun c hc=> .inr (h1 c (e'▸hc)),by (first|assumption|lia),by lia,?_⟩
  rw[PySem.intText_digits (by rw[e'];exact h1) (by rw[e'];exact h4) (by lia),e',h2];rfl
 |negSucc n=>
  have h:n+1<10 ^ 9:=h
  have e:=tx_neg n (pV zA zA)
  show bC (vo 9 (n+1) (pV zA zA)) fun h1 h2 h3 h4 h5 h6=> ?_
  have hl:=hlen (tx (Int.negSucc n))
  rw[e] at hl
  simp only[List.length_cons] at hl
  show⟨fun c hc=> ?_,by (first|assumption|lia),by lia,?_⟩
  .rw[e] at hc
   rcases j0.mp hc with e0|hc
   .rw[e0];exact .inl rfl
   .exact .inr (h1 c hc)
  .rw[PySem.intText_neg e h1 h4 (by lia),h2];rfl
noncomputable def fI:List Nat:=[50,50,57,32,105,116,32,108,105,101,115,32,97,116,32,40]
noncomputable def oq:List Nat:=[41,32,40,124,124,124,55,124,41]
theorem preS:("229 it lies at (":Str)=⟨fI.toArray⟩:=by decide+kernel
theorem sufS:(") (|||7|)":Str)=⟨oq.toArray⟩:=by decide+kernel
noncomputable def ou(c:Nat)(ds:List Nat):List Nat:=fI++([c,c,c]++(ds++([c]++oq)))
noncomputable def yv(c:Nat)(ds:List Nat):Str:=⟨(ou c ds).toArray⟩
structure Mk(c:Nat)(ds:List Nat):Prop where
 c40:c<128
 c41:c≠41
 dg:∀d∈ds,d=45\/(48<=d/\d<=57)
 cd:c∉ds
 len:ds.length<=11
section
variable{c:Nat}{ds:List Nat}(h:Mk c ds)
include h
theorem Mk.n41:41∉ds:=fun hm=>by have:=h.dg _ hm;lia
end
theorem yC(c:Nat)(ds:List Nat):(yv c ds).cps.toList=ou c ds:=by unfold yv;(first|with_reducible rfl|simp)
theorem gX(c:Nat)(ds:List Nat):(yv c ds).length=ds.length+29:=by
 show(?_:(ou c ds).toArray.size=_)
 unfold ou fI oq
 simp
theorem jKm{c:Nat}{ds:List Nat}:Txt.find (yv c ds) "("=15:=by
 unfold Txt.find
 have e:("(":Str)=⟨#[40]⟩:=by decide+kernel
 rw[e,d5,yC,List.drop_zero]
 unfold ou
 rw[xb]
 rfl
theorem jIo{c:Nat}{ds:List Nat}(h:Mk c ds):Builtin.Str.occurrences (yv c ds) ")" 16 (yv c ds).length 1=[20+ds.length]:=by
 have e:(")":Str)=⟨#[41]⟩:=by decide+kernel
 rw[e,d5,yC]
 have e2:(ou c ds).drop 16=[c,c,c]++(ds++([c]++oq)):=rfl
 have hc:=h.c41
 rw[e2,xb,wU 41 [c,c,c] _ (by simp;lia),xb,wU 41 ds _ h.n41,xb,wU 41 [c] _ (by simp;lia)]
 show(?_:(idxs 41 (16+3+ds.length+1) oq).take 1=_)
 rw[show 16+3+ds.length+1=20+ds.length by simp+arith only]
 unfold oq idxs
 rw[jMt rfl]
 rfl
theorem jIn{c:Nat}{ds:List Nat}:(yv c ds).cps[16]? =some c:=by
 rw[<-jN8,yC];rfl
theorem jIm{c:Nat}{ds:List Nat}:(yv c ds).cps[19+ds.length]? =some c:=by
 rw[<-jN8,yC]
 unfold ou
 rw[jQx (by unfold fI;simp;simp+arith only),jQx (by unfold fI;simp;lia),jQx (by unfold fI;simp;lia)]
 have:19+ds.length - fI.length - [c,c,c].length - ds.length=0:=by unfold fI;simp;lia
 rw[this];rfl
noncomputable def xJ(c:Nat)(ds:List Nat):List Nat:=[c,c,c]++(ds++[c])
theorem jIl{c:Nat}{ds:List Nat}:Txt.slice (yv c ds) (some 16) (some ((20+ds.length:Nat):Int))=⟨(xJ c ds).toArray⟩:=by
 have hl:=gX c ds
 have h:=slice_closesL (x:=yv c ds) (i:=16) (j:=((20+ds.length:Nat):Int)) kD (by lia) (by lia)
 rw[eq_of_beq h,yC]
 congr 2
 rw[show (16:Int).toNat=16 from rfl,show (((20+ds.length:Nat):Int) - 16).toNat=ds.length+4 by lia]
 have e2:(ou c ds).drop 16=[c,c,c]++(ds++([c]++oq)):=rfl
 rw[e2]
 unfold xJ
 have e3:[c,c,c]++(ds++([c]++oq))=([c,c,c]++(ds++[c]))++oq:=by simp
 rw[e3,List.take_append_of_le_length (by simp),jOi (by simp)]
theorem jD4{c:Nat}{ds:List Nat}:Txt.slice (yv c ds) none (some 3)="229":=by
 have hl:=gX c ds
 have h:=slice_closes_toL (x:=yv c ds) (j:=3) kD (by lia)
 rw[eq_of_beq h,yC]
 have:("229":Str)=⟨#[50,50,57]⟩:=by decide+kernel
 rw[this]
 rfl
theorem mid_occ{c:Nat}{ds:List Nat}(h:Mk c ds):Builtin.Str.occurrences ⟨(xJ c ds).toArray⟩ ⟨#[c]⟩ 0 (⟨(xJ c ds).toArray⟩:Str).length ((⟨(xJ c ds).toArray⟩:Str).length+1)=[0,1,2,3+ds.length]:=by
 rw[d5]
 have e:(xJ c ds).toArray.toList=[c,c,c]++(ds++[c]):=by simp[xJ]
 show(?_:(idxs c 0 ((xJ c ds).toArray.toList.drop 0)).take _=_)
 rw[e,List.drop_zero,xb,xb,wU c ds _ h.cd]
 show(?_:((idxs c 0 [c,c,c])++([]++idxs c (0+3+ds.length) [c])).take _=_)
 have e1:idxs c 0 [c,c,c]=[0,1,2]:=by
  show(jMt rfl).trans (jM8 _ ((jMt rfl).trans (jM8 _ (jMt rfl))))
 have e2:idxs c (0+3+ds.length) [c]=[3+ds.length]:=(jMt rfl).trans (by rw[jPr];rfl)
 rw[e1,e2]
 show jOi ?_
 show(?_:4<=(xJ c ds).toArray.size+1)
 simp[xJ]
theorem jIx{c:Nat}{ds:List Nat}(h:Mk c ds):Builtin.Str.partsBetween ⟨(xJ c ds).toArray⟩ [0,1,2,3+ds.length] 1=[⟨#[]⟩,⟨#[]⟩,⟨#[]⟩,⟨ds.toArray⟩,⟨#[]⟩]:=by
 have hl:(⟨(xJ c ds).toArray⟩:Str).length=4+ds.length:=by
  show(?_:(xJ c ds).toArray.size=_)
  simp[xJ];simp+arith only
 unfold Builtin.Str.partsBetween
 rw[hl]
 show(?_:[Builtin.Str.strSub ⟨(xJ c ds).toArray⟩ 0 0,Builtin.Str.strSub ⟨(xJ c ds).toArray⟩ 1 1,Builtin.Str.strSub ⟨(xJ c ds).toArray⟩ 2 2,Builtin.Str.strSub ⟨(xJ c ds).toArray⟩ 3 (3+ds.length),Builtin.Str.strSub ⟨(xJ c ds).toArray⟩ (3+ds.length+1) (4+ds.length)]=_)
 have ext:∀{a:Str} {l:List Nat},a.cps.toList=l->a=⟨l.toArray⟩:=fun {a l} e=>by
  cases a;subst e;(first|with_reducible rfl|simp)
 have jx:∀i j,(Builtin.Str.strSub ⟨(xJ c ds).toArray⟩ i j).cps.toList=((xJ c ds).drop i).take (j - i):=fun i j=>by
  rw[StrLaws.strSub_toList]
 rw[ext (jx 0 0),ext (jx 1 1),ext (jx 2 2),ext (jx 3 (3+ds.length)),ext (jx (3+ds.length+1) (4+ds.length))]
 have e3:((xJ c ds).drop 3).take (3+ds.length - 3)=ds:=by
  show(?_:(ds++[c]).take _=_)
  rw[List.take_append_of_le_length (by lia),jOi (by lia)]
 have e4:((xJ c ds).drop (3+ds.length+1)).take (4+ds.length - (3+ds.length+1))=[]:=by
  rw[show 4+ds.length - (3+ds.length+1)=0 by lia];rfl
 rw[e3,e4]
 simp
theorem jK4{c:Nat}{ds:List Nat}(h:Mk c ds):Builtin.Str.strKind ⟨(xJ c ds).toArray⟩=1/\Builtin.Str.strKind ⟨#[c]⟩=1:=by
 have hc:=h.c40
 constructor
 .unfold Builtin.Str.strKind
  rw[jMt]
  show(?_:(xJ c ds).toArray.all (fun x=>decide (x<256))=true)
  rw[Array.all_eq_true_iff_forall_mem]
  intro x hx
  have hx:x∈xJ c ds:=by simpa using hx
  unfold xJ at hx
  simp only[List.mem_append,List.mem_cons,List.not_mem_nil,or_false] at hx
  show jMx ?_
  rcases hx with hx|hx|hx
  .lia
  .have:=h.dg x hx;lia
  .lia
 .unfold Builtin.Str.strKind
  rw[jMt]
  show(?_:(#[c]).all (fun x=>decide (x<256))=true)
  simp;exact(c6 zA zD)
section
variable{fns:List (Str×Fn)}{glob:xQ}{k:Bool}{sc jM:Scope}{l:jN}{lp:Loc}{a b e1 e2:Expr}{n m:Nat}{p p1 p2 pg ap cp:Pos}{x y d z:D}
theorem jHz{e:Expr}{s:Str}{i:Int}(h1:(ev fns glob n).E k sc lp a=some (.str s))(h2:(ev fns glob n).E k sc lp e=some (.int i))(h3:s.length<=lim):(ev fns glob (n+1)).E k sc lp (.Subscript a (.Slice none (some e) none p1) p)=some (.str (Txt.slice s none (some i))):=by
 show(wM h1 rfl (yD h2) rfl).trans ?_
 show(?_:(if (none:Option Int)=none/\s.length<=lim then some (D.str (Txt.slice s none (some i))) else none)=_)
 rw[jMt ⟨rfl,h3⟩]
theorem jMn{e e':Expr}{s:Str}{i j:Int}(h1:(ev fns glob n).E k sc lp a=some (.str s))(h2:(ev fns glob n).E k sc lp e=some (.int i))(h2':(ev fns glob n).E k sc lp e'=some (.int j))(h3:s.length<=lim):(ev fns glob (n+1)).E k sc lp (.Subscript a (.Slice (some e) (some e') none p1) p)=some (.str (Txt.slice s (some i) (some j))):=by
 show(wM h1 (yD h2) (yD h2') rfl).trans ?_
 show(?_:(if (none:Option Int)=none/\s.length<=lim then some (D.str (Txt.slice s (some i) (some j))) else none)=_)
 rw[jMt ⟨rfl,h3⟩]
theorem S_raise{c:Str}(h1:c="error_reply"\/c="error_proto")(h2:sc.names.lookup c=some .globalImplicit)(h3:PySem.W.isStarred a=false)(h:(ev fns glob n).E k sc (j3 l) a=some d):(ev fns glob (n+1)).S k sc l (.Raise (some (.Call (.Name c p1) [a] [] p2)) none p)=some (.exc c d,l):=by
 show(?_:(if (c≠"error_reply"/\c≠"error_proto")\/sc.names.lookup c≠some .globalImplicit\/PySem.W.isStarred a=true then none else ((ev fns glob n).E k sc (j3 l) a).map fun d=>(Fl.exc c d,l))=_)
 rw[jMv,h]
 .rfl
 .rw[h2,h3]
  rintro (⟨g1,g2⟩|h|h)
  .rcases h1 with e|e
   .exact g1 e
   .exact g2 e
  .exact h rfl
  .exact zf h
theorem E_meth2{f:Str}(h1:zt a=false)(h2:(ap.endLine==cp.line)=true)(h3:f≠"replace")(hs:PySem.W.isStarred e1=false)(wD:PySem.W.isStarred e2=false)(ho:(ev fns glob n).E k sc lp a=some x)(ha:(ev fns glob n).E k sc lp e1=some y)(fW:(ev fns glob n).E k sc lp e2=some z)(hb:gR x f [y,z]=some d):
  (ev fns glob (n+1)).E k sc lp (.Call (.Attribute a f ap) [e1,e2] [] cp)=some d:=ui h1 h2 h3 (jOl rfl) (Nat.succ_ne_zero _) ho (gh hs ha (rK wD fW)) hb
theorem jD3{o:Option (Fl×jN)}(h:o.bind qB=some d):∃l',o=some (.ret d,l'):=by
 show bE h ?_;rintro ⟨f,l'⟩ h1 h2
 induction f using cF with
 |ret d'=>
  have h2:some d'=some d:=h2
  replace h2:=jX h2;subst h2
  exact⟨l',h1⟩
 |next=>cases h2
 |brk=>cases h2
 |exc c d=>cases h2
noncomputable def ow:Fn:=fnAt Challenge.pw_oy0159_02 "parse257"
noncomputable def wt:Fn:=fnAt Challenge.pw_oy0159_02 "parse229"
theorem jKv{x:Str}(h:Txt.slice x none (some 3)≠"257")(hl:x.length<=1000):
  qd (ev jH glob (n+20)) false ow.scope (jA (fun _=>none) "resp" (B.val (.str x))) ow.body=some (.exc "error_reply" (.str x),jA (fun _=>none) "resp" (B.val (.str x))):=by
 have jh:lim=1000000:=rfl
 show(?_:qd (ev jH glob (n+20)) false ow.scope _ (.If (.Compare (.Subscript (.Name _ _) _ _) [_] [_] _) [.Raise (some (.Call (.Name _ _) [_] [] _)) none _] [] _::_)=_)
 show jHy ((xy (c:=true) ?_).trans (jHy (S_raise (.inl rfl) kR kR kR)))
 show(j7 kR (x:= .str (Txt.slice x none (some 3))) (y:= .str "257") (jHz kR kR j6) kR (jZ.str.ne kD _ _)).trans ?_
 rw[jNb h];rfl
theorem p229_ok{c:Nat}{m:Int}(h:Mk c (tx m).cps.toList)(hm:m.natAbs<10 ^ 9):∃l',
  qd (ev jH glob (n+20)) false wt.scope (jA (jA (fun _=>none) "peer" (B.val xE)) "resp" (B.val (.str (yv c (tx m).cps.toList)))) wt.body=some (.ret (.tup [.str "peer",.int m]),l'):=by
 have jh:lim=1000000:=rfl
 show uF (mH hm) fun t1 t2 t3 t4=> ?_
 have vF:(tx m).cps.toList.length=(tx m).length:=by simp[Str.length]
 have hlen:=gX c (tx m).cps.toList
 have htx:tx m=⟨(tx m).cps.toList.toArray⟩:=by first|with_reducible rfl|simp
 generalize hd:(tx m).cps.toList=ds at h vF hlen htx
 have f1:=jKm (c:=c) (ds:=ds)
 have f2:=jIo h
 have f3:=jIn (c:=c) (ds:=ds)
 have f4:=jIm (c:=c) (ds:=ds)
 have f5:=jIl (c:=c) (ds:=ds)
 have f6:=jD4 (c:=c) (ds:=ds)
 generalize hx:yv c ds=x at f1 f2 f3 f4 f5 f6 hlen
 have vE:jA (jA (fun _=>none) "peer" (B.val xE)) "resp" (B.val (.str x)) "resp"=some (B.val (.str x)):=jL
 have hp0:jA (jA (fun _=>none) "peer" (B.val xE)) "resp" (B.val (.str x)) "peer"=some (B.val xE):=(sN).trans jL
 generalize hl:jA (jA (fun _=>none) "peer" (B.val xE)) "resp" (B.val (.str x))=l at vE hp0
 show jD3 ?_
 show(?_:(qd (ev jH glob (n+20)) false wt.scope l [.If (.Compare (.Subscript (.Name _ _) _ _) [_] [_] _) _ [] _,.Assign [_] _ _,.If _ _ [] _,.Assign [_] _ _,.If _ _ [] _,.If (.Compare (.Subscript _ (.BinOp _ _ _ _) _) [_] [.Subscript _ (.BinOp _ _ _ _) _] _) _ [] _,.Assign [_] (.Call (.Attribute (.Subscript _ _ _) _ _) [.Subscript _ (.BinOp _ _ _ _) _] [] _) _,.If (.Compare (.Call (.Name _ _) [_] [] _) [_] [_] _) _ [] _,.Assign [_] (.Subscript _ _ _) _,.Assign [_] (.Call (.Name _ _) [.Subscript _ _ _] [] _) _,.Return (some (.Tuple _ _ _)) _]).bind qB=_)
 have tK:∀{l':jN} {q:Pos} {j:Nat},l' "resp"=some (B.val (.str x))->(ev jH glob (j+1)).E false wt.scope (j3 l') (.Name "resp" q)=some (.str x):=fun h=>jC kR kR (jD h)
 have rW:∀{l':jN} {q:Pos} {j:Nat},l' "resp"=some (B.val (.str x))->(ev jH glob (j+1)).E false wt.scope (xW l') (.Name "resp" q)=some (.str x):=fun h=>jC kR kR (jP h)
 show qC ((xy (c:=false) ((j7 kR (x:= .str "229") (y:= .str "229") ((jHz (rW vE) kR (by lia)).trans (by rw[f6])) kR (jZ.str.ne kD _ _)).trans ?_)).trans jV) ?_
 .simp
 show qC (jS (d:= .int 15) (rl (x:= .str x) (y:= .str "(") kR kR kD kR (tK vE) kR ?_) kR kR) ?_
 .show(?_:some (D.int (Txt.find x "("))=_)
  rw[f1]
 have oU:jA l "left" (B.val (.int 15)) "resp"=some (B.val (.str x)):=(sN).trans vE
 have hp1:jA l "left" (B.val (.int 15)) "peer"=some (B.val xE):=(sN).trans hp0
 have eL:jA l "left" (B.val (.int 15)) "left"=some (B.val (.int 15)):=jL
 generalize jA l "left" (B.val (.int 15))=l1 at oU hp1 eL
 have mU:∀{l':jN} {q:Pos} {j:Nat},l' "left"=some (B.val (.int 15))->(ev jH glob (j+1)).E false wt.scope (j3 l') (.Name "left" q)=some (.int 15):=fun h=>jC kR kR (jD h)
 have hleftA:∀{l':jN} {q:Pos} {j:Nat},l' "left"=some (B.val (.int 15))->(ev jH glob (j+1)).E false wt.scope (xW l') (.Name "left" q)=some (.int 15):=fun h=>jC kR kR (jP h)
 show qC ((xy (c:=false) (j7 kR (x:= .int 15) (y:= .int 0) (hleftA eL) kR kR)).trans jV) ?_
 show qC (jS (d:= .int ((20+ds.length:Nat):Int)) (E_meth2 (x:= .str x) (y:= .str ")") (z:= .int 16) kR kR kD kR kR (tK oU) kR (jW (x:= .int 15) (y:= .int 1) (mU eL) kR kR) ?_) kR kR) ?_
 .show(?_:some (D.int (match Builtin.Str.occurrences x ")" (fromIndex x.length 16) x.length 1 with|k::_=>(k:Int)|[]=> -1))=_)
  rw[show fromIndex x.length 16=16 from rfl,f2]
 have hl2:jA l1 "right" (B.val (.int ((20+ds.length:Nat):Int))) "resp"=some (B.val (.str x)):=(sN).trans oU
 have aA:jA l1 "right" (B.val (.int ((20+ds.length:Nat):Int))) "peer"=some (B.val xE):=(sN).trans hp1
 have cH:jA l1 "right" (B.val (.int ((20+ds.length:Nat):Int))) "left"=some (B.val (.int 15)):=(sN).trans eL
 have bR:jA l1 "right" (B.val (.int ((20+ds.length:Nat):Int))) "right"=some (B.val (.int ((20+ds.length:Nat):Int))):=jL
 generalize jA l1 "right" (B.val (.int ((20+ds.length:Nat):Int)))=l2 at hl2 aA cH bR
 show qC ((xy (c:=false) (j7 kR (x:= .int ((20+ds.length:Nat):Int)) (y:= .int 0) (jC kR kR (jP bR)) kR ?_)).trans jV) ?_
 .show(?_:some (decide (((20+ds.length:Nat):Int)<0))=_)
  rw[jNb (by lia)]
 show qC ((xy (c:=false) ((j7 kR (x:= .str ⟨#[c]⟩) (y:= .str ⟨#[c]⟩) (j5 kR (x:= .str x) (y:= .int 16) (rW hl2) (jW (x:= .int 15) (y:= .int 1) (hleftA cH) kR kR) ?_) (j5 kR (x:= .str x) (y:= .int ((19+ds.length:Nat):Int)) (rW hl2) (jW (x:= .int ((20+ds.length:Nat):Int)) (y:= .int 1) (jC kR kR (jP bR)) kR ?_) ?_) (jZ.str.ne kD _ _)).trans ?_)).trans jV) ?_
 .show(?_:(if x.length<=lim then (idx? 16 x.length).bind fun k=>(x.cps[k]?).map fun c=>D.str ⟨#[c]⟩ else none)=_)
  rw[jMt (by lia)]
  unfold idx?
  rw[jMt kD,jMt (by lia)]
  show(?_:(x.cps[16]?).map (fun c=>D.str ⟨#[c]⟩)=_)
  rw[f3];rfl
 .show(?_:some (D.int (((20+ds.length:Nat):Int) - 1))=_)
  congr 2;lia
 .show(?_:(if x.length<=lim then (idx? ((19+ds.length:Nat):Int) x.length).bind fun k=>(x.cps[k]?).map fun c=>D.str ⟨#[c]⟩ else none)=_)
  rw[jMt (by lia)]
  unfold idx?
  rw[jMt (by lia),jMt (by lia)]
  show(?_:(x.cps[19+ds.length]?).map (fun c=>D.str ⟨#[c]⟩)=_)
  rw[f4];rfl
 .simp
 show qC (jS (d:=jJ [⟨#[]⟩,⟨#[]⟩,⟨#[]⟩,⟨ds.toArray⟩,⟨#[]⟩]) (rl (x:= .str ⟨(xJ c ds).toArray⟩) (y:= .str ⟨#[c]⟩) kR kR kD kR ((jMn (i:=16) (j:=((20+ds.length:Nat):Int)) (tK hl2) (jW (x:= .int 15) (y:= .int 1) (mU cH) kR kR) (jC kR kR (jD bR)) (by lia)).trans (by rw[f5])) (j5 kR (x:= .str x) (y:= .int 16) (tK hl2) (jW (x:= .int 15) (y:= .int 1) (mU cH) kR kR) ?_) ?_) kR kR) ?_
 .show(?_:(if x.length<=lim then (idx? 16 x.length).bind fun k=>(x.cps[k]?).map fun c=>D.str ⟨#[c]⟩ else none)=_)
  rw[jMt (by lia)]
  unfold idx?
  rw[jMt kD,jMt (by lia)]
  show(?_:(x.cps[16]?).map (fun c=>D.str ⟨#[c]⟩)=_)
  rw[f3];rfl
 .have hml:(⟨(xJ c ds).toArray⟩:Str).length=4+ds.length:=by
   show(?_:(xJ c ds).toArray.size=_)
   simp[xJ];simp+arith only
  obtain⟨k1,k2⟩:=jK4 h
  have ho:=mid_occ h
  have hpq:=jIx h
  generalize (⟨(xJ c ds).toArray⟩:Str)=y at hml k1 ho hpq
  have iy:(⟨#[c]⟩:Str).length=1:=rfl
  show(?_:(if (⟨#[c]⟩:Str).length=1/\y.length<=1000/\(decide (y.length<(⟨#[c]⟩:Str).length)||decide (Builtin.Str.strKind y<Builtin.Str.strKind ⟨#[c]⟩))=false/\(Builtin.Str.occurrences y ⟨#[c]⟩ 0 y.length (y.length+1)).isEmpty=false/\(Builtin.Str.partsBetween y (Builtin.Str.occurrences y ⟨#[c]⟩ 0 y.length (y.length+1)) (⟨#[c]⟩:Str).length).length<=1000 then some (D.list ((Builtin.Str.partsBetween y (Builtin.Str.occurrences y ⟨#[c]⟩ 0 y.length (y.length+1)) (⟨#[c]⟩:Str).length).map .str)) else none)=_)
  have hle:=h.len
  rw[ho,iy,hpq,jMt ⟨rfl,by lia,by rw[k1,k2];simp;lia,rfl,by simp⟩]
  rfl
 have eC:jA l2 "parts" (B.val (jJ [⟨#[]⟩,⟨#[]⟩,⟨#[]⟩,⟨ds.toArray⟩,⟨#[]⟩])) "peer"=some (B.val xE):=(sN).trans aA
 have iY:jA l2 "parts" (B.val (jJ [⟨#[]⟩,⟨#[]⟩,⟨#[]⟩,⟨ds.toArray⟩,⟨#[]⟩])) "parts"=some (B.val (jJ [⟨#[]⟩,⟨#[]⟩,⟨#[]⟩,⟨ds.toArray⟩,⟨#[]⟩])):=jL
 generalize jA l2 "parts" (B.val (jJ [⟨#[]⟩,⟨#[]⟩,⟨#[]⟩,⟨ds.toArray⟩,⟨#[]⟩]))=l3 at eC iY
 show qC ((xy (c:=false) (j7 kR (x:= .int 5) (y:= .int 5) (jm (x:=jJ [⟨#[]⟩,⟨#[]⟩,⟨#[]⟩,⟨ds.toArray⟩,⟨#[]⟩]) kR kR kD kD kR kR (jC kR kR (jP iY)) kR) kR kR)).trans jV) ?_
 show qC (jS (d:= .str "peer") (j5 kR (x:=xE) (y:= .int 0) (jC kR kR (jD eC)) kR kR) kR kR) ?_
 show qC (jS (d:= .int m) (jm (x:= .str ⟨ds.toArray⟩) kR kR kD kD kR kR (j5 kR (x:=jJ [⟨#[]⟩,⟨#[]⟩,⟨#[]⟩,⟨ds.toArray⟩,⟨#[]⟩]) (y:= .int 3) (jC kR kR (jD ((sN).trans iY))) kR kR) ?_) kR kR) ?_
 .rw[<-htx]
  show(?_:(if (tx m).length<=640 then (PySem.intText? (tx m)).map D.int else none)=_)
  rw[jMt j6,t4];rfl
 show o9 (kq ?_)
 kernel_rfl
theorem rep_str{c:Nat}(x:Str):((("229 it lies at (":Str)++Txt.mul ⟨#[c]⟩ 3)++x++⟨#[c]⟩++(") (|||7|)":Str))=yv c x.cps.toList:=by
 have hm:Txt.mul ⟨#[c]⟩ 3=⟨#[c,c,c]⟩:=rfl
 rw[hm,preS,sufS]
 have ext:∀{a b:Str},a.cps.toList=b.cps.toList->a=b:=fun {a b} e=>by
  cases a;cases b;congr 1;exact Array.toList_inj.mp e
 show ext ?_
 rw[yC]
 unfold ou
 have app:∀a b:Str,(a++b).cps.toList=a.cps.toList++b.cps.toList:=fun a b=>by
  show(?_:(a.cps++b.cps).toList=_)
  simp
 rw[app,app,app,app]
 simp
theorem lens{P M x C S:Str}(hp:P.length=16)(hm:M.length=3)(hc:C.length=1)(hs:S.length=9)(hx:x.length<=11):P.length+M.length<=lim/\(P++M).length+x.length<=lim/\(P++M++x).length+C.length<=lim/\(P++M++x++C).length+S.length<=lim:=by
 have jh:lim=1000000:=rfl
 simp only[StrLen.append]
 lia
noncomputable def xq:Fn:=fnAt Challenge.pw_oy0159_02 "_law_talk"
structure uG(rp:List Str)(ms:List Int)(ro:List (List Str))(l:jN)(ts:List Str):Prop where
 talk:l "talk"=some (.own (ts.map .str))
 names:l "names"=some (.val (jJ rp))
 modes:l "modes"=some (.val (.list (ms.map .int)))
 sp:l "spoiled"=some (.val (.list (ro.map jJ)))
theorem uG.set{rp:List Str}{ms:List Int}{ro:List (List Str)}{ts:List Str}(h:uG rp ms ro l ts){x:Str}(hx:x="mark"\/x="place"):uG rp ms ro (jA l x (.val d)) ts:=by
 rcases hx with rfl|rfl
 .exact⟨(sN).trans h.talk,(sN).trans h.names,(sN).trans h.modes,(sN).trans h.sp⟩
 .exact⟨(sN).trans h.talk,(sN).trans h.names,(sN).trans h.modes,(sN).trans h.sp⟩
theorem uG.grow{rp:List Str}{ms:List Int}{ro:List (List Str)}{ts:List Str}(h:uG rp ms ro l ts)(us:List Str):uG rp ms ro (jA l "talk" (.own (ts.map .str++us.map .str))) (ts++us):=
 ⟨jL.trans (by rw[jNr]),(sN).trans h.names,(sN).trans h.modes,(sN).trans h.sp⟩
theorem kF{k c:Nat}{rp:List Str}{ms:List Int}{ro:List (List Str)}{ts sp:List Str}{m:Int}{nm sd:Str}(h:uG rp ms ro l ts)(hk:l "place"=some (.val (.int (k:Int))))(hc:vY (.str "|x(") (.int (k:Int))=some (.str ⟨#[c]⟩))(hm:ms[k]? =some m)(hs:ro[k]? =some sp)(i8:rp[k]? =some nm)(hsd:(zH jH (ev jH glob (n+18)) "_law_said" [.str nm,.int (k:Int)]).bind qB=some (.str sd))(hms:ms.length<=100)(mj:ro.length<=100)(i9:rp.length<=100)(iV:ts.length<=1000)(hsp:sp.length<=1000)(ha:m.natAbs<10 ^ 9):
  ∃l',qd (ev jH glob (n+20)) false xq.scope l (yx (qI xq.body 1))=some (.next,l')/\uG rp ms ro l' (ts++sp++[sd]++[yv c (tx m).cps.toList]):=by
 have jh:lim=1000000:=rfl
 show uF (mH ha) fun t1 t2 t3 t4=> ?_
 show(?_:∃l',qd (ev jH glob (n+20)) false xq.scope l [.Assign [_] (.Subscript _ _ _) _,.Expr (.Call (.Attribute _ _ _) [.Subscript _ _ _] [] _) _,.Expr (.Call (.Attribute _ _ _) [.Call (.Name _ _) [.Subscript _ _ _,_] [] _] [] _) _,.Expr (.Call (.Attribute _ _ _) [.BinOp (.BinOp (.BinOp (.BinOp _ _ (.BinOp _ _ _ _) _) _ (.Call (.Name _ _) [.Subscript _ _ _] [] _) _) _ _ _) _ _ _] [] _) _]=_/\_)
 have e1:(ev jH glob (n+20)).S false xq.scope l (qI (yx (qI xq.body 1)) 0)=some (.next,jA l "mark" (.val (.str ⟨#[c]⟩))):=
  jS (j5 kR (x:= .str "|x(") (y:= .int (k:Int)) kR (jC kR kR (jD hk)) hc) kR kR
 have g1:uG rp ms ro (jA l "mark" (.val (.str ⟨#[c]⟩))) ts:=h.set (.inl rfl)
 have g2:jA l "mark" (B.val (.str ⟨#[c]⟩)) "mark"=some (.val (.str ⟨#[c]⟩)):=jL
 have g3:jA l "mark" (B.val (.str ⟨#[c]⟩)) "place"=some (.val (.int (k:Int))):=(sN).trans hk
 generalize jA l "mark" (B.val (.str ⟨#[c]⟩))=l1 at e1 g1 g2 g3
 have e2:(ev jH glob (n+20)).S false xq.scope l1 (qI (yx (qI xq.body 1)) 1)=some (.next,jA l1 "talk" (.own (ts.map .str++sp.map .str))):=
  jMm g1.talk (j5 kR (x:= .list (ro.map jJ)) (y:= .int (k:Int)) (jC kR kR (jD g1.sp)) (jC kR kR (jD g3)) (qg (d:=jJ sp) (by rw[jN2,hs];rfl) (by simp;exact j6))) kR kR kR kR (by simp;lia)
 have i2:=g1.grow sp
 have k2:jA l1 "talk" (B.own (ts.map .str++sp.map .str)) "mark"=some (.val (.str ⟨#[c]⟩)):=(sN).trans g2
 have k3:jA l1 "talk" (B.own (ts.map .str++sp.map .str)) "place"=some (.val (.int (k:Int))):=(sN).trans g3
 generalize jA l1 "talk" (B.own (ts.map .str++sp.map .str))=l2 at e2 i2 k2 k3
 have hl2:(ts++sp).length<=2000:=by rw[jNm];lia
 generalize ts++sp=sX at i2 hl2
 have e3:(ev jH glob (n+20)).S false xq.scope l2 (qI (yx (qI xq.body 1)) 2)=some (.next,jA l2 "talk" (.own (sX.map .str++[sd].map .str))):=by
  show yQ i2.talk ?_ kR kR kR kR (by simp;exact j6)
  show jH1 (x:= .str nm) (y:= .int (k:Int)) kR kR kD kD kR kR kR ?_ (jC kR kR (jD k3)) hsd
  exact j5 kR (x:=jJ rp) (y:= .int (k:Int)) (jC kR kR (jD i2.names)) (jC kR kR (jD k3)) (qg (by rw[jN2,i8];rfl) (by simp;exact j6))
 have i3:=i2.grow [sd]
 have k4:jA l2 "talk" (B.own (sX.map .str++[sd].map .str)) "mark"=some (.val (.str ⟨#[c]⟩)):=(sN).trans k2
 have k5:jA l2 "talk" (B.own (sX.map .str++[sd].map .str)) "place"=some (.val (.int (k:Int))):=(sN).trans k3
 generalize jA l2 "talk" (B.own (sX.map .str++[sd].map .str))=l3 at e3 i3 k4 k5
 have hl3:(sX++[sd]).length<=2001:=by rw[jNm];simp;assumption
 generalize sX++[sd]=ts3 at i3 hl3
 have mT:∀{q:Pos} {j:Nat},(ev jH glob (j+1)).E false xq.scope (j3 l3) (.Name "mark" q)=some (.str ⟨#[c]⟩):=jC kR kR (jD k4)
 have hp16:(("229 it lies at (":Str)).length=16:=by decide
 have hs9:((") (|||7|)":Str)).length=9:=by decide
 have e4:(ev jH glob (n+20)).S false xq.scope l3 (qI (yx (qI xq.body 1)) 3)=some (.next,jA l3 "talk" (.own (ts3.map .str++[yv c (tx m).cps.toList].map .str))):=by
  show yQ i3.talk ?_ kR kR kR kR (by simp;exact j6)
  rw[<-rep_str]
  have hm3:(Txt.mul (⟨#[c]⟩:Str) 3).length=3:=rfl
  have hm1:(⟨#[c]⟩:Str).length=1:=rfl
  have hP:∀{q:Pos} {j:Nat},(ev jH glob (j+1)).E false xq.scope (j3 l3) (.Constant (.str "229 it lies at (") 0 q)=some (.str "229 it lies at ("):=rfl
  have hS:∀{q:Pos} {j:Nat},(ev jH glob (j+1)).E false xq.scope (j3 l3) (.Constant (.str ") (|||7|)") 0 q)=some (.str ") (|||7|)"):=rfl
  have hM:∀{q q2 q3:Pos} {j:Nat},(ev jH glob (j+2)).E false xq.scope (j3 l3) (.BinOp (.Name "mark" q) .Mult (.Constant (.int 3) 0 q2) q3)=some (.str (Txt.mul ⟨#[c]⟩ 3)):=jW (x:= .str ⟨#[c]⟩) (y:= .int 3) mT (by rfl) kR
  generalize ("229 it lies at (":Str)=P at hp16 hP ⊢
  generalize (") (|||7|)":Str)=S at hs9 hS ⊢
  generalize Txt.mul (⟨#[c]⟩:Str) 3=M at hm3 hM ⊢
  generalize (⟨#[c]⟩:Str)=C at hm1 mT hM ⊢
  show uF (lens hp16 hm3 hm1 hs9 t2) fun b1 b2 b3 b4=> ?_
  show jW (x:= .str (P++M++tx m++C)) (y:= .str S) ?_ hS (yp b4)
  show jW (x:= .str (P++M++tx m)) (y:= .str C) ?_ mT (yp b3)
  show jW (x:= .str (P++M)) (y:= .str (tx m)) (jW (x:= .str P) (y:= .str M) hP hM (yp b1)) ?_ (yp b2)
  show jm (x:= .int m) kR kR kD kD kR kR (j5 kR (x:= .list (ms.map .int)) (y:= .int (k:Int)) (jC kR kR (jD i3.modes)) (jC kR kR (jD k5)) (qg (by rw[jN2,hm];rfl) (by simp;exact j6))) ?_
  show(?_:(if small m=true then some (D.str (Str.ofString (toString m))) else none)=_)
  rw[jMt]
  .rfl
  .unfold small
   show jMx ?_
   have:(10:Nat) ^ 9<2 ^ 60:=by decide
   exact pV zA zA
 exact⟨_,(jQ e1).trans ((jQ e2).trans ((jQ e3).trans ((jQ e4).trans jV))),i3.grow _⟩
noncomputable def uT:List Str:=["\"a\"","","z\""]
noncomputable def et:Str:="257 \"\"\"a\"\"\""
noncomputable def er:Str:="257 made"
noncomputable def el:Str:="257 \"z\"\"\" \"new\""
noncomputable def tE(m0 m1 m2:Int)(s0 s1 s2 s3:List Str):List Str:=
 [("226 all told":Str)]++s3++s0++[et]++[yv 124 (tx m0).cps.toList]++s1++[er]++[yv 120 (tx m1).cps.toList]++s2++[el]++[yv 40 (tx m2).cps.toList]
theorem jKc{m0 m1 m2:Int}{s0 s1 s2 s3:List Str}(h0:m0.natAbs<10 ^ 9)(h1:m1.natAbs<10 ^ 9)(h2:m2.natAbs<10 ^ 9)(g0:s0.length<=100)(g1:s1.length<=100)(g2:s2.length<=100)(g3:s3.length<=100):
  (zH jH (ev jH glob (n+25)) "_law_talk" [jJ uT,.list ([m0,m1,m2].map .int),.list ([s0,s1,s2,s3].map jJ)]).bind qB=some (jJ (tE m0 m1 m2 s0 s1 s2 s3)):=by
 have jh:lim=1000000:=rfl
 show(?_:(qd (ev jH glob (n+25)) false xq.scope (jA (jA (jA (fun _=>none) "spoiled" (.val (.list ([s0,s1,s2,s3].map jJ)))) "modes" (.val (.list ([m0,m1,m2].map .int)))) "names" (.val (jJ uT))) xq.body).bind qB=_)
 show(?_:(qd (ev jH glob (n+25)) false xq.scope _ [.Assign [_] (.BinOp _ _ (.Subscript _ _ _) _) _,.For _ (.Call (.Name _ _) [_] [] _) _ [] _,_]).bind qB=_)
 generalize vE:jA (jA (jA (fun _=>none) "spoiled" (B.val (.list ([s0,s1,s2,s3].map jJ)))) "modes" (.val (.list ([m0,m1,m2].map .int)))) "names" (.val (jJ uT))=l0
 have a1:l0 "spoiled"=some (.val (.list ([s0,s1,s2,s3].map jJ))):=by rw[<-vE];kernel_rfl
 have a2:l0 "modes"=some (.val (.list ([m0,m1,m2].map .int))):=by rw[<-vE];kernel_rfl
 have a3:l0 "names"=some (.val (jJ uT)):=by rw[<-vE];kernel_rfl
 clear vE
 show qC (wB (ds:=([("226 all told":Str)]++s3).map .str) (jW (x:=jJ [("226 all told":Str)]) (y:=jJ s3) kR (j5 kR (x:= .list ([s0,s1,s2,s3].map jJ)) (y:= .int ((3:Nat):Int)) (jC kR kR (jD a1)) kR (qg (d:=jJ s3) rfl (by simp;decide))) ((add_lists (by simp;lia)).trans (by rw[jNr]))) kR kR kR) ?_
 generalize hl:jA l0 "talk" (B.own (([("226 all told":Str)]++s3).map .str))=l
 have i0:uG uT [m0,m1,m2] [s0,s1,s2,s3] l ([("226 all told":Str)]++s3):=by
  rw[<-hl]
  exact⟨jL,(sN).trans a3,(sN).trans a2,(sN).trans a1⟩
 clear hl
 have wa:∀{l:jN} {ts:List Str} {k:Int},uG uT [m0,m1,m2] [s0,s1,s2,s3] l ts->uG uT [m0,m1,m2] [s0,s1,s2,s3] (jA l "place" (.val (.int k))) ts:=fun h=>h.set (.inr rfl)
 show jE (kF (glob:=glob) (n:=n+4) (k:=0) (c:=124) (m:=m0) (sp:=s0) (nm:="\"a\"") (sd:=et) (wa i0) jL kR rfl rfl rfl kR (by simp) (by simp) kD (by simp only[List.length_append,List.length_cons,List.length_nil];lia) j6 h0) fun l1 e1 i1=> ?_
 show jE (kF (glob:=glob) (n:=n+4) (k:=1) (c:=120) (m:=m1) (sp:=s1) (nm:="") (sd:=er) (wa i1) jL kR rfl rfl rfl kR (by simp) (by simp) kD (by simp only[List.length_append,List.length_cons,List.length_nil];lia) j6 h1) fun l2 e2 i2=> ?_
 show jE (kF (glob:=glob) (n:=n+4) (k:=2) (c:=40) (m:=m2) (sp:=s2) (nm:="z\"") (sd:=el) (wa i2) jL kR rfl rfl rfl kR (by simp) (by simp) kD (by simp only[List.length_append,List.length_cons,List.length_nil];lia) j6 h2) fun l3 e3 i3=> ?_
 show qC (dI (its:=[.int 0,.int 1,.int 2]) kR kR (l':=l3) ?_) (o9 (kq (jC kR kR ((gf i3.talk).trans ?_))))
 .exact(qT rfl e1).trans ((qT rfl e2).trans ((qT rfl e3).trans z6))
 .rfl
inductive uH (C:Cx) (r:Ev) (fn:Fn) (nw:Str) (ie se:Expr):pU->List Str->pU->Prop
 |nil (a:pU):uH C r fn nw ie se a [] a
 |cons {a b c:pU} {t:Str} {ts:List Str}:y6 C r fn nw ie se a t b->uH C r fn nw ie se b ts c->uH C r fn nw ie se a (t::ts) c
variable{C:Cx}{r:Ev}{fn:Fn}{nw:Str}{ie se:Expr}
theorem uH.append{a b c:pU}{ts us:List Str}(h:uH C r fn nw ie se a ts b)(g:uH C r fn nw ie se b us c):uH C r fn nw ie se a (ts++us) c:=by
 induction h with
 |nil _=>exact g
 |cons s _ ih=>exact .cons s (ih g)
theorem uH.one{a b:pU}{t:Str}(h:y6 C r fn nw ie se a t b):uH C r fn nw ie se a [t] b:= .cons h (.nil _)
theorem uH.fun{a c:pU}{ts:List Str}(h:uH C r fn nw ie se a ts c):∃st:Nat->pU,st 0=a/\st ts.length=c/\∀(j:Nat) (d:D),(ts.map D.str)[j]? =some d->∃t,d= .str t/\y6 C r fn nw ie se (st j) t (st (j+1)):=by
 induction h with
 |nil a=>exact wy (fun _=>a) rfl rfl (fun j d e=>by simp at e)
 | @cons a b c t ts s _ ih=>
   show qk ih fun st h0 h1 h2=> ?_;clear ih
   show wy (fun j=>match j with|0=>a|j+1=>st j) rfl h1 (fun j d e=> ?_)
   induction j using cN with
   |zero=>
    simp at e
    subst e
    show⟨t,rfl,?_⟩
    show(?_:y6 C r fn nw ie se a t (st 0))
    rw[h0];exact s
   |succ j=>
    rw[jNv,List.getElem?_cons_succ] at e
    exact h2 j d e
noncomputable def excOf:Fl×jN->Option (Str×D)
 |(.exc c d,_)=>some (c,d)
 |_=>none
theorem jLz{o:Option (Fl×jN)}{c:Str}(h:o.bind excOf=some (c,d)):∃l',o=some (.exc c d,l'):=by
 show bE h ?_;rintro ⟨f,l'⟩ h1 h2
 induction f using cF with
 |exc c' d'=>
  have h2:some (c',d')=some (c,d):=h2
  obtain⟨hA,hB⟩:=Prod.mk.inj (jX h2);clear h2;subst hA;subst hB
  exact⟨l',h1⟩
 |next=>cases h2
 |brk=>cases h2
 |ret d=>cases h2
end
section
variable{C:Cx}(hf:C.fns=jH){glob:xQ}{n:Nat}
include hf
theorem pret257{t x:Str}(h:(qd (ev jH glob (n+25)) false ow.scope (jA (fun _=>none) "resp" (.val (.str t))) ow.body).bind qB=some (.str x)):rJ C (ev jH glob (n+25)) "parse257" [.str t] (.str x):=by
 obtain⟨l',e⟩:=jD3 h
 exact⟨ow,_,l',by rw[hf];rfl,rfl,e⟩
theorem dW{t:Str}(h:Txt.slice t none (some 3)≠"257")(hl:t.length<=1000):uY C (ev jH glob (n+25)) "parse257" [.str t] "error_reply" t:=
 ⟨ow,_,_,by rw[hf];rfl,rfl,jKv (n:=n+5) h hl⟩
theorem jHm{t c x:Str}(h:(qd (ev jH glob (n+25)) false wt.scope (jA (jA (fun _=>none) "peer" (.val xE)) "resp" (.val (.str t))) wt.body).bind excOf=some (c,.str x)):uY C (ev jH glob (n+25)) "parse229" [.str t,xE] c x:=by
 obtain⟨l',e⟩:=jLz h
 exact⟨wt,_,l',by rw[hf];rfl,rfl,e⟩
theorem pret229{c:Nat}{m:Int}(h:Mk c (tx m).cps.toList)(hm:m.natAbs<10 ^ 9):rJ C (ev jH glob (n+25)) "parse229" [.str (yv c (tx m).cps.toList),xE] (.tup [.str "peer",.int m]):=by
 obtain⟨l',e⟩:=p229_ok (glob:=glob) (n:=n+5) h hm
 exact⟨wt,_,l',by rw[hf];rfl,rfl,e⟩
end
theorem mkOf{c:Nat}{m:Int}(hc:c<128)(h41:c≠41)(h45:c≠45)(hd:¬(48<=c/\c<=57))(hm:m.natAbs<10 ^ 9):Mk c (tx m).cps.toList:=by
 show uF (mH hm) fun t1 t2 t3 t4=> ?_
 show⟨hc,h41,t1,fun hh=> ?_,?_⟩
 .rcases t1 c hh with h|h
  .exact h45 h
  .exact hd h
 .have:(tx m).cps.toList.length=(tx m).length:=by simp[Str.length]
  lia
noncomputable abbrev ie1:Expr:=jCx zQ.body
noncomputable abbrev se1:Expr:=jC0 zQ.body
noncomputable abbrev R1(C:Cx)(glob:xQ)(n:Nat):=uH C (ev jH glob (n+25)) zQ "heard" ie1 se1
noncomputable abbrev e9(C:Cx)(glob:xQ)(n:Nat):=y6 C (ev jH glob (n+25)) zQ "heard" ie1 se1
section
variable{C:Cx}(hf:C.fns=jH){glob:xQ}{n:Nat}
include hf
theorem dP{kvs:xQ}{w q:List D}{t x:Str}(h:(qd (ev jH glob (n+25)) false ow.scope (jA (fun _=>none) "resp" (.val (.str t))) ow.body).bind qB=some (.str x))(hw:w.length<=100):e9 C glob n (kvs,w,q) t (kvs,w++[.str x],q):=
 .name (pret257 hf h) (by
       have jh:lim=1000000:=rfl
       lia)
theorem vm{kvs:xQ}{w q:List D}{t:Str}(h1:Txt.slice t none (some 3)≠"257")(hl:t.length<=1000)(h:(qd (ev jH glob (n+25)) false wt.scope (jA (jA (fun _=>none) "peer" (.val xE)) "resp" (.val (.str t))) wt.body).bind excOf=some (("error_proto":Str),D.str t))(hq:q.length<=100):e9 C glob n (kvs,w,q) t (kvs,w,q++[.str t]):=
 .proto (dW hf h1 hl) (jHm hf h) (by
    have jh:lim=1000000:=rfl
    lia)
theorem jKh{kvs:xQ}{w q:List D}{t:Str}(h1:Txt.slice t none (some 3)≠"257")(hl:t.length<=1000)(h:(qd (ev jH glob (n+25)) false wt.scope (jA (jA (fun _=>none) "peer" (.val xE)) "resp" (.val (.str t))) wt.body).bind excOf=some (("error_reply":Str),D.str t))(hq:q.length<=100):e9 C glob n (kvs,w,q) t (kvs,w,q++[.str (("no ":Str)++t)]):=
 .reply (dW hf h1 hl) (jHm hf h) (by
    have jh:lim=1000000:=rfl
    lia) (by
    have jh:lim=1000000:=rfl
    lia)
theorem uk{kvs:xQ}{q:List D}{key:Str}{c:Nat}{m:Int}(h:Mk c (tx m).cps.toList)(hm:m.natAbs<10 ^ 9)(hk:kvs.length<=1000):e9 C glob n (kvs,[.str key],q) (yv c (tx m).cps.toList) (qj kvs key (.tup [.str "peer",.int m]),[],q):=by
 have jh:lim=1000000:=rfl
 show .found (dW hf (by rw[jD4];decide) (by rw[gX];have:=h.len;lia)) (pret229 hf h hm) (fun l hl=> ?_) (fun l hl=> ?_) hk
 .show(?_:(ev jH glob (n+25)).E false zQ.scope l (.Subscript (.Name "heard" _) (.UnaryOp .USub (.Constant (.int 1) 0 _) _) _)=_)
  exact j5 kR (x:= .list [.str key]) (y:= .int (-1)) (jC kR kR hl) kR kR
 .show(?_:(ev jH glob (n+25)).E false zQ.scope l (.Subscript (.Name "heard" _) (.Slice none (some (.UnaryOp .USub (.Constant (.int 1) 0 _) _)) none _) _)=_)
  exact(wM (x:= .list [.str key]) (lo':=none) (hi':=some (-1)) (st':=none) (jC kR kR hl) rfl (yD kR) rfl).trans kR
end
noncomputable def t7:List (List Str):=[["229 at 272)"],["229 at (|||7|x"],["229 at (||7|)","229 at (|||7||)"],["229 at (|||7|!)"]]
noncomputable def zi(k:Nat)(b:Bool):List Str:=if b then t7.getD k [] else []
section
variable{C:Cx}(hf:C.fns=jH){glob:xQ}{n:Nat}
include hf
theorem uL{kvs:xQ}{w q:List D}(k:Nat)(b:Bool)(hk:k<4)(hq:q.length<=50):R1 C glob n (kvs,w,q) (zi k b) (kvs,w,q++(zi k b).map .str):=by
 induction b using cT with
 |false=>
  show(?_:R1 C glob n (kvs,w,q) [] (kvs,w,q++[]))
  rw[jOj]
  exact .nil _
 |true=>
  revert kvs w q;revert k
  show lt4 ?_ ?_ ?_ ?_
  .intro kvs w q hq;exact .one (vm hf (by decide+kernel) (by decide+kernel) kR j6)
  .intro kvs w q hq;exact .one (vm hf (by decide+kernel) (by decide+kernel) kR j6)
  .intro kvs w q hq
   show(?_:R1 C glob n (kvs,w,q) ["229 at (||7|)","229 at (|||7||)"] (kvs,w,q++([.str "229 at (||7|)"]++[.str "229 at (|||7||)"])))
   rw[<-jNl]
   exact .cons (vm hf (by decide+kernel) (by decide+kernel) kR j6) (.one (vm hf (by decide+kernel) (by decide+kernel) kR (by simp;exact j6)))
  .intro kvs w q hq;exact .one (vm hf (by decide+kernel) (by decide+kernel) kR j6)
noncomputable abbrev pm(m:Int):D:= .tup [.str "peer",.int m]
noncomputable def nX(b0 b1 b2 b3:Bool):List Str:=[("no 226 all told":Str)]++(zi 3 b3++zi 0 b0++zi 1 b1++zi 2 b2)
noncomputable def fS(m0 m1 m2:Int):xQ:=[("\"a\"",pm m0),("",pm m1),("z\"",pm m2)]
omit hf in
theorem zY(k:Nat)(b:Bool)(hk:k<4):(zi k b).length<=2:=(by decide:∀k,k<4->∀b,(zi k b).length<=2) k hk b
theorem jKa{m0 m1 m2:Int}{b0 b1 b2 b3:Bool}(h0:m0.natAbs<10 ^ 9)(h1:m1.natAbs<10 ^ 9)(h2:m2.natAbs<10 ^ 9):
  R1 C glob n ([],[],[]) (tE m0 m1 m2 (zi 0 b0) (zi 1 b1) (zi 2 b2) (zi 3 b3)) (fS m0 m1 m2,[],(nX b0 b1 b2 b3).map .str):=by
 have o0:=zY 0 b0 kD
 have o1:=zY 1 b1 kD
 have o2:=zY 2 b2 kD
 have o3:=zY 3 b3 kD
 unfold tE
 have s0:R1 C glob n ([],[],[]) [("226 all told":Str)] ([],[],[.str "no 226 all told"]):=by
  have:=jKh (C:=C) hf (glob:=glob) (n:=n) (kvs:=[]) (w:=[]) (q:=[]) (t:="226 all told") (by decide+kernel) (by decide+kernel) kR (by simp)
  rw[show (("no ":Str)++("226 all told":Str))="no 226 all told" by decide+kernel] at this
  exact .one this
 have mk:∀{c:Nat} {m:Int},c<128->c≠41->c≠45->¬(48<=c/\c<=57)->m.natAbs<10 ^ 9->Mk c (tx m).cps.toList:=fun a b c d h=>mkOf a b c d h
 have f0:=(((s0.append (uL hf 3 b3 kD (by simp))).append (uL hf 0 b0 kD (by simp;exact j6))).append (.one (dP (t:=et) (x:="\"a\"") hf kR kD))).append (.one (uk (kvs:=[]) (key:="\"a\"") hf (mk (c:=124) kD kD kD kD h0) h0 (by simp)))
 have f1:=((f0.append (uL hf 1 b1 kD (by simp;lia))).append (.one (dP (t:=er) (x:="") hf kR kD))).append (.one (uk (kvs:=[("\"a\"",pm m0)]) (key:="") hf (mk (c:=120) kD kD kD kD h1) h1 (by simp)))
 have f2:=((f1.append (uL hf 2 b2 kD (by simp;lia))).append (.one (dP (t:=el) (x:="z\"") hf kR kD))).append (.one (uk (kvs:=[("\"a\"",pm m0),("",pm m1)]) (key:="z\"") hf (mk (c:=40) kD kD kD kD h2) h2 (by simp)))
 have e:(nX b0 b1 b2 b3).map D.str=[.str "no 226 all told"]++(zi 3 b3).map .str++(zi 0 b0).map .str++(zi 1 b1).map .str++(zi 2 b2).map .str:=by
  simp[nX]
 rw[e]
 exact f2
end
structure MSc(sc:Scope):Prop where
 nm:∀x∈(["sequences","candidate","s1","s2","result"]:List Str),sc.names.lookup x=some .local
 ok:∀p2 p3 p4:Pos,jk sc td [⟨.Name "s" p2,.Name "sequences" p3,[.Name "s" p4],0⟩]=true
section
variable{fns:List (Str×Fn)}{glob:xQ}{sc:Scope}(M:MSc sc){n:Nat}{p:Nat->Pos}
include M
theorem mvar{x:Str}{q:Pos}{l:Loc}{d:D}{j:Nat}(hx:x∈(["sequences","candidate","s1","s2","result"]:List Str))(h:l x=some d):(ev fns glob (j+1)).E false sc l (.Name x q)=some d:=by
 show jC ?_ (by rw[M.nm x hx];rfl) h
 simp only[List.mem_cons,List.not_mem_nil,or_false] at hx
 rcases hx with rfl|rfl|rfl|rfl|rfl <;> decide
theorem oZ{x:Str}{q:Pos}(hx:x∈(["sequences","candidate","s1","s2","result"]:List Str)):oR sc (.Name x q)=true:=by
 show(?_:decide (sc.names.lookup x=some .local\/sc.names.lookup x=some .cell)=true)
 rw[M.nm x hx];decide
def MK(l l':jN):Prop:=∀x∈(["sequences","result"]:List Str),l' x=l x
noncomputable abbrev iP(p:Nat->Pos):List Stmt:=[.If (.Compare (.Name "candidate" (p 21)) [.In] [.Subscript (.Name "s2" (p 22)) (.Slice (some (.Constant (.int 1) 0 (p 23))) none none (p 24)) (p 25)] (p 26)) [.Assign [.Name "candidate" (p 27)] (.Constant .none 0 (p 28)) (p 29),.Break (p 30)] [] (p 31)]
theorem m_if{l:jN}{a:Addr}{c:Str}{xs:List Str}(h1:l "candidate"=some (.val (.str c)))(h2:l "s2"=some (.val (.lref a (xs.map .str))))(hlen:xs.length<=lim):
  qd (ev fns glob (n+4)) false sc l (iP p)=if xs.tail.contains c then some (.brk,jA l "candidate" (.val .none)) else some (.next,l):=by
 have ht:Bt (ev fns glob (n+3)) false sc (xW l) 4 (.Compare (.Name "candidate" (p 21)) [.In] [.Subscript (.Name "s2" (p 22)) (.Slice (some (.Constant (.int 1) 0 (p 23))) none none (p 24)) (p 25)] (p 26))=some (xs.tail.contains c):=by
  show j7 (by rfl) (x:= .str c) (y:= .list (xs.tail.map .str)) (mvar M uR (jP h1)) (jJn kD (M.nm _ aS) (jP h2) hlen) ?_
  exact jLo c xs.tail
 generalize hc:xs.tail.contains c=x0;induction x0 using cT with
 |true=>
  rw[hc] at ht
  show yJ ((xy ht).trans ?_)
  exact(jQ (jS (d:= .none) (by rfl) (oZ M uR) kD)).trans (yJ rfl)
 |false=>
  rw[hc] at ht
  exact(jQ ((xy ht).trans jV)).trans jV
theorem m_inner{cur:Addr->List Str}{c:Str}(hs:List Addr):∀(l:jN),l "candidate"=some (.val (.str c))->(∀a∈hs,(cur a).length<=lim)->
  ∃l',forL (ev fns glob (n+4)) false sc (.Name "s2" (p 19)) (iP p) l (qJ hs cur)=some (if xX (hs.map cur) c then .next else .brk,l')/\MK l l'/\(xX (hs.map cur) c=true->l' "candidate"=some (.val (.str c))):=by
 induction hs with
 |nil=>
  intro l h _
  exact⟨l,z6,fun _ _=>rfl,fun _=>h⟩
 |cons a hs ih=>
  intro l h hl
  have h1:jA l "s2" (B.val (.lref a ((cur a).map .str))) "candidate"=some (.val (.str c)):=(sN).trans h
  have hb:=m_if (fns:=fns) (glob:=glob) (n:=n) (p:=p) M h1 jL (hl a jy)
  generalize hc:(cur a).tail.contains c=x0;induction x0 using cT with
  |true=>
   rw[hc] at hb
   have hk:xX ((a::hs).map cur) c=false:=by
    unfold xX
    rw[jNv,jQj,List.drop_one,hc];rfl
   rw[hk]
   show wy _ (uw rfl hb) (fun x hx=> ?_) (fun e=>by exact zf e)
   simp only[List.mem_cons,List.not_mem_nil,or_false] at hx
   rcases hx with rfl|rfl <;> exact(sN).trans (sN)
  |false=>
   rw[hc] at hb
   have hk:xX ((a::hs).map cur) c=xX (hs.map cur) c:=by
    unfold xX
    rw[jNv,jQj,List.drop_one,hc];rfl
   rw[hk]
   show qk (ih _ h1 fun b pL=>hl b (qV _ pL)) fun l' e' k' g'=> ?_
   show wy l' ((qT rfl hb).trans e') (fun x hx=>(k' x hx).trans ?_) g'
   simp only[List.mem_cons,List.not_mem_nil,or_false] at hx
   rcases hx with rfl|rfl <;> exact qO kD
noncomputable abbrev cf(p:Nat->Pos):List Stmt:=[
  .Assign [.Name "candidate" (p 14)] (.Subscript (.Name "s1" (p 15)) (.Constant (.int 0) 0 (p 16)) (p 17)) (p 18),
  .For (.Name "s2" (p 19)) (.Name "sequences" (p 20)) (iP p) [.Break (p 32)] (p 33)]
theorem m_outer{live:List Addr}{cur:Addr->List Str}{c:Str}(hl:∀a∈live,(cur a).length<=lim)(hs:List Addr):∀(l:jN),l "sequences"=some (.val (.list (qJ live cur)))->ym (live.map cur) (hs.map cur)=some c->(∀a∈hs,(cur a).length<=lim)->
  ∃l',forL (ev fns glob (n+6)) false sc (.Name "s1" (p 12)) (cf p) l (qJ hs cur)=some (.brk,l')/\MK l l'/\l' "candidate"=some (.val (.str c)):=by
 induction hs with
 |nil=>
  intro l h hp _
  cases hp
 |cons a hs ih=>
  intro l h hp hlen
  have ha:=hlen a jy
  rw[jNv] at hp
  show bE (show (cur a).head?.bind _=_ from hp) fun c' hh hp=> ?_
  .have h1:jA l "s1" (B.val (.lref a ((cur a).map .str))) "sequences"=some (.val (.list (qJ live cur))):=(sN).trans h
   have h2:jA l "s1" (B.val (.lref a ((cur a).map .str))) "s1"=some (.val (.lref a ((cur a).map .str))):=jL
   have h3:jA l "s1" (B.val (.lref a ((cur a).map .str))) "result"=l "result":=qO kD
   have h4:jA l "s1" (B.val (.lref a ((cur a).map .str))) "sequences"=l "sequences":=qO kD
   generalize oU:jA l "s1" (B.val (.lref a ((cur a).map .str)))=l1 at h1 h2 h3 h4
   have e1:(ev fns glob (n+6)).S false sc l1 (.Assign [.Name "candidate" (p 14)] (.Subscript (.Name "s1" (p 15)) (.Constant (.int 0) 0 (p 16)) (p 17)) (p 18))=some (.next,jA l1 "candidate" (.val (.str c'))):=by
    show jS (j5 (by rfl) (x:= .lref a ((cur a).map .str)) (y:= .int ((0:Nat):Int)) (mvar M b8 (jD h2)) (by rfl) ?_) (oZ M uR) kD
    show(?_:vY (.list ((cur a).map .str)) (.int ((0:Nat):Int))=_)
    show qg ?_ (by simpa using ha)
    rw[jN2,<-List.head?_eq_getElem?,hh];rfl
   show qk (m_inner (fns:=fns) (glob:=glob) (n:=n+1) (p:=p) M (cur:=cur) (c:=c') live (jA l1 "candidate" (.val (.str c'))) jL hl) fun l2 e2 k2 g2=> ?_
   have hmk:MK l l2:=fun x hx=>by
    show(k2 x hx).trans ?_
    simp only[List.mem_cons,List.not_mem_nil,or_false] at hx
    rcases hx with e0|rfl
    .rw[e0];exact(sN).trans h4
    .exact(sN).trans h3
   have hits:zR (ev fns glob (n+5)) false sc (j3 (jA l1 "candidate" (.val (.str c')))) (.Name "sequences" (p 20))=some (qJ live cur):=by
    show(?_:((ev fns glob (n+5)).E false sc _ (.Name "sequences" (p 20))).bind ji=_)
    rw[mvar M yS (jD ((sN).trans h1))];rfl
   have mn:(oR sc (.Name "s2" (p 19))&& !qH (.Name "sequences" (p 20))&&(vg (.Name "s2" (p 19))|| !xh (.Name "sequences" (p 20))))=true:=by
    rw[oZ M aS];rfl
   generalize hk:xX (live.map cur) c'=x0;induction x0 using cT with
   |true=>
    rw[hk] at e2 hp
    have hp:some c'=some c:=hp
    replace hp:=jX hp;subst hp
    have hb:qd (ev fns glob (n+6)) false sc l1 (cf p)=some (.brk,l2):=
     (jQ e1).trans (yJ (rh mn hits e2 (.inr rfl) (yJ rfl)))
    exact wy l2 (uw (by rw[<-oU];rfl) hb) hmk (g2 hk)
   |false=>
    rw[hk] at e2 hp
    have hb:qd (ev fns glob (n+6)) false sc l1 (cf p)=some (.next,l2):=
     (jQ e1).trans ((jQ (rj mn hits e2)).trans jV)
    have gM:l2 "sequences"=some (.val (.list (qJ live cur))):=(hmk _ yS).trans h
    show qk (ih l2 gM hp fun b pL=>hlen b (qV _ pL)) fun l' e' k' g'=> ?_
    exact wy l' ((qT (by rw[<-oU];rfl) hb).trans e') (fun x hx=>(k' x hx).trans (hmk x hx)) g'
end
section
variable{fns:List (Str×Fn)}{glob:xQ}{sc:Scope}(M:MSc sc){n:Nat}{p:Nat->Pos}
include M
theorem m_round{hs:List Addr}{cur:Addr->List Str}{xs:List Str}{c:Str}(hlen:hs.length<=1000)(xc:∀a∈hs,(cur a).length<=1000)(hx:xs.length<=1000)
  (dB:((p 44).endLine==(p 46).line)=true) (je:hs.filter (fun a=> !(cur a).isEmpty)≠[]) (hp:ym ((hs.filter fun a=> !(cur a).isEmpty).map cur) ((hs.filter fun a=> !(cur a).isEmpty).map cur)=some c):
  ∃l',qd (ev fns glob (n+10)) false sc (uB hs cur xs) (t8 p)=some (.next,l')/\l' "sequences"=some (.val (.list (qJ (hs.filter fun a=> !(cur a).isEmpty) cur)))/\l' "result"=some (.own ((xs++[c]).map .str))/\l' "candidate"=some (.val (.str c)):=by
 have jh:lim=1000000:=rfl
 have h0:uB hs cur xs "sequences"=some (.val (.list (qJ hs cur))):=by unfold uB;rw[if_pos rfl]
 have h0r:uB hs cur xs "result"=some (.own (xs.map .str)):=by unfold uB;rw[if_neg kD,if_pos rfl]
 have wj:∀a∈hs.filter (fun a=> !(cur a).isEmpty),(cur a).length<=lim:=fun a ha=>by have:=xc a (qX.mp ha).1;exact j6
 have ik:(hs.filter fun a=> !(cur a).isEmpty).length<=hs.length:=jNq _ _
 have e0:(ev fns glob (n+10)).S false sc (uB hs cur xs) (.Assign [.Name "sequences" (p 0)] (.ListComp (.Name "s" (p 1)) [⟨.Name "s" (p 2),.Name "sequences" (p 3),[.Name "s" (p 4)],0⟩] td (p 5)) (p 6))=some (.next,jA (uB hs cur xs) "sequences" (.val (.list (qJ (hs.filter fun a=> !(cur a).isEmpty) cur)))):=
  jS (jEc (p6:=p 0) (n:=n+6) (M.nm _ yS) (M.ok _ _ _) h0 j6 fun a ha=>by have:=xc a ha;exact j6) (oZ M yS) kD
 generalize (hs.filter fun a=> !(cur a).isEmpty)=live at je hp wj ik e0
 have h1:jA (uB hs cur xs) "sequences" (B.val (.list (qJ live cur))) "sequences"=some (.val (.list (qJ live cur))):=jL
 have lW:jA (uB hs cur xs) "sequences" (B.val (.list (qJ live cur))) "result"=some (.own (xs.map .str)):=(sN).trans h0r
 generalize jA (uB hs cur xs) "sequences" (B.val (.list (qJ live cur)))=l1 at e0 h1 lW
 have hb:Bt (ev fns glob (n+9)) false sc (xW l1) 4 (.UnaryOp .Not (.Name "sequences" (p 7)) (p 8))=some false:=by
  have ht:Bt (ev fns glob (n+9)) false sc (xW l1) 3 (.Name "sequences" (p 7))=some true:=by
   show(?_:((ev fns glob (n+9)).E false sc (xW l1) (.Name "sequences" (p 7))).bind uC=_)
   rw[mvar M yS (jP h1)]
   show(?_:uC (.list (qJ live cur))=_)
   rw[jJ8 (by simp[qJ];lia)]
   induction live using cL with
   |nil=>exact absurd rfl je
   |cons a r=>rfl
  exact rn ht
 show qk (m_outer (fns:=fns) (glob:=glob) (n:=n+3) (p:=p) M wj live l1 h1 hp wj) fun l2 e2 k2 g2=> ?_
 have hits:zR (ev fns glob (n+9)) false sc (j3 l1) (.Name "sequences" (p 13))=some (qJ live cur):=by
  show(?_:((ev fns glob (n+9)).E false sc _ (.Name "sequences" (p 13))).bind ji=_)
  rw[mvar M yS (jD h1)];rfl
 have mn:(oR sc (.Name "s1" (p 12))&& !qH (.Name "sequences" (p 13))&&(vg (.Name "s1" (p 12))|| !xh (.Name "sequences" (p 13))))=true:=by
  rw[oZ M b8];rfl
 have hc:Bt (ev fns glob (n+9)) false sc (xW l2) 4 (.Compare (.Name "candidate" (p 35)) [.Is] [.Constant .none 0 (p 36)] (p 37))=some false:=
  j7 (by rfl) (x:= .str c) (y:= .none) (mvar M uR (jP g2)) (by rfl) (by rfl)
 have bR:l2 "result"=some (.own (xs.map .str)):=(k2 _ uR).trans lW
 show⟨jA l2 "result" (.own (xs.map .str++[.str c])),?_,(sN).trans ((k2 _ yS).trans h1),jL.trans (by simp),(sN).trans g2⟩
 unfold t8
 show(jQ e0).trans ?_
 show(jQ ((xy hb).trans jV)).trans ?_
 show(jQ (rj mn hits e2)).trans ?_
 show(jQ ((xy hc).trans jV)).trans ?_
 exact(jQ (yQ bR (mvar M uR (jD g2)) dB (by rfl) kD kD (by simp;exact j6))).trans jV
theorem m_end{hs:List Addr}{cur:Addr->List Str}{xs:List Str}(hlen:hs.length<=1000)(xc:∀a∈hs,(cur a).length<=1000)(he:hs.filter (fun a=> !(cur a).isEmpty)=[]):
  ∃l',qd (ev fns glob (n+10)) false sc (uB hs cur xs) (t8 p)=some (.ret (.list (xs.map .str)),l'):=by
 have jh:lim=1000000:=rfl
 have h0:uB hs cur xs "sequences"=some (.val (.list (qJ hs cur))):=by unfold uB;rw[if_pos rfl]
 have h0r:uB hs cur xs "result"=some (.own (xs.map .str)):=by unfold uB;rw[if_neg kD,if_pos rfl]
 have e0:(ev fns glob (n+10)).S false sc (uB hs cur xs) (.Assign [.Name "sequences" (p 0)] (.ListComp (.Name "s" (p 1)) [⟨.Name "s" (p 2),.Name "sequences" (p 3),[.Name "s" (p 4)],0⟩] td (p 5)) (p 6))=some (.next,jA (uB hs cur xs) "sequences" (.val (.list (qJ (hs.filter fun a=> !(cur a).isEmpty) cur)))):=
  jS (jEc (p6:=p 0) (n:=n+6) (M.nm _ yS) (M.ok _ _ _) h0 j6 fun a ha=>by have:=xc a ha;exact j6) (oZ M yS) kD
 rw[he] at e0
 have h1:jA (uB hs cur xs) "sequences" (B.val (.list (qJ [] cur))) "sequences"=some (.val (.list (qJ [] cur))):=jL
 have lW:jA (uB hs cur xs) "sequences" (B.val (.list (qJ [] cur))) "result"=some (.own (xs.map .str)):=(sN).trans h0r
 generalize jA (uB hs cur xs) "sequences" (B.val (.list (qJ [] cur)))=l1 at e0 h1 lW
 have hb:Bt (ev fns glob (n+9)) false sc (xW l1) 4 (.UnaryOp .Not (.Name "sequences" (p 7)) (p 8))=some true:=by
  have ht:Bt (ev fns glob (n+9)) false sc (xW l1) 3 (.Name "sequences" (p 7))=some false:=by
   show(?_:((ev fns glob (n+9)).E false sc (xW l1) (.Name "sequences" (p 7))).bind uC=_)
   rw[mvar M yS (jP h1)];rfl
  exact rn ht
 show⟨l1,?_⟩
 unfold t8
 show(jQ e0).trans ?_
 exact uP ((xy hb).trans (uP (kq (mvar M zm4 (gf lW)))))
omit M in
theorem jB7(hs:List Addr)(cur:Addr->List Str):(hs.map cur).filter (fun s=> !s.isEmpty)=(hs.filter fun a=> !(cur a).isEmpty).map cur:=by
 rw[List.filter_map];rfl
theorem jI0(dB:((p 44).endLine==(p 46).line)=true)(m:Nat):∀(hs:List Addr) (cur:Addr->List Str) (xs out:List Str),vc m (hs.map cur)=some out->hs.Nodup->(∀a,a∉hs->cur a=[])->hs.length<=1000->(∀a∈hs,(cur a).length<=1000)->xs.length+m<=1000->
  ∃N,gS (ev fns glob (n+10)) sc (t8 p) hs cur xs (xs++out) N:=by
 induction m with
 |zero=>
  intro hs cur xs out h _ _ _ _ _
  cases h
 |succ m ih=>
  intro hs cur xs out h hn hz hlen xc hx
  have jh:lim=1000000:=rfl
  rw[jEd,jB7] at h
  by_cases he:hs.filter (fun a=> !(cur a).isEmpty)=[]
  .rw[he] at h
   replace h:=jX h;subst h
   obtain⟨l',e⟩:=m_end (fns:=fns) (glob:=glob) (n:=n) (p:=p) (xs:=xs) M hlen xc he
   show⟨0,?_⟩
   rw[jOj]
   show .ret e fun a=> ?_
   by_cases ha:a∈hs
   .generalize hc:cur a=x0;induction x0 using cL with
    |nil=>rfl
    |cons x r=>
     have:a∈hs.filter (fun a=> !(cur a).isEmpty):=qX.mpr ⟨ha,by rw[hc];rfl⟩
     rw[he] at this;cases this
   .exact hz a ha
  .have sD:((hs.filter fun a=> !(cur a).isEmpty).map cur).isEmpty=false:=by
    generalize hq:(hs.filter (fun a=> !(cur a).isEmpty))=x0;induction x0 using cL with
    |nil=>exact absurd hq he
    |cons a r=>rfl
   rw[sD] at h
   simp only[Bool.false_eq_true,if_false] at h
   show bE h fun c hp h=> ?_
   .show mE h ?_;rintro out' h1 rfl
    obtain⟨l',e,e1,e2,e3⟩:=m_round (fns:=fns) (glob:=glob) (n:=n) (p:=p) (xs:=xs) M hlen xc (by show x8 ?_ (by assumption);simp+arith) dB he hp
    have i9:(hs.filter fun a=> !(cur a).isEmpty).Nodup:=hn.filter _
    have xx:∀a∈hs.filter (fun a=> !(cur a).isEmpty),a∈hs/\cur a≠[]:=fun a ha=>by
     obtain⟨g1,g2⟩:=qX.mp ha
     show⟨g1,fun e=> ?_⟩
     rw[e] at g2;cases g2
    have gq:∀a,a∉hs.filter (fun a=> !(cur a).isEmpty)->cur a=[]:=fun a ha=>by
     by_cases hm:a∈hs
     .generalize hc:cur a=x0;induction x0 using cL with
      |nil=>rfl
      |cons x r=>exact absurd (qX.mpr ⟨hm,by rw[hc];rfl⟩) ha
     .exact hz a hm
    have hle:(hs.filter fun a=> !(cur a).isEmpty).length<=hs.length:=jNq _ _
    generalize hlv:hs.filter (fun a=> !(cur a).isEmpty)=live at *
    have hmap:live.map (xr c live cur)=(live.map cur).map fun s=>if s.head? =some c then s.tail else s:=by
     rw[jOz]
     show jPx fun a ha=> ?_
     show(?_:xr c live cur a=_)
     unfold xr
     by_cases g:(cur a).head? =some c
     .rw[jMt ⟨ha,g⟩];simp[g]
     .rw[jMv fun h=>g h.2];simp[g]
    rw[<-hmap] at h1
    have hdrop:∀a,(xr c live cur a).length<=(cur a).length:=fun a=>by
     unfold xr
     split
     .rw[List.length_tail];lia
     .exact jNi _
    obtain⟨N,run⟩:=ih live (xr c live cur) (xs++[c]) out' h1 i9 (fun a ha=>by
     unfold xr
     rw[jMv fun h=>ha h.1]
     exact gq a ha) (zo13 zA zA) (fun a ha=>x8 (hdrop a) (xc a (xx a ha).1)) (by simp;(show x8 ?_ (by assumption);simp+arith))
    show⟨N+1,.turn e e1 e2 e3 he (fun a ha=>(xx a ha).1) i9 (fun a ha=>⟨(xx a ha).2,by have:=xc a (xx a ha).1;exact j6⟩) ?_⟩
    rw[jNl] at run
    exact run
end
theorem jC3(hs:List Addr)(wX:List (List Str))(hn:hs.Nodup)(hl:hs.length=wX.length):hs.map (xt hs wX)=wX:=by
 revert hn;revert wX
 show fun wX hl=>two (P:=fun hs wX=>hs.Nodup->hs.map (xt hs wX)=wX) (fun _=>rfl) (fun a x hs wX hl ih hn=> ?_) hs wX hl
 .obtain⟨h1,h2⟩:=xw.mp hn
  have ih:=ih h2
  rw[jNv]
  congr 1
  .unfold xt
   simp
  .show Eq.trans (jPx fun b hb=> ?_) ih
   have je:(b==a)=false:=by
    rw[jNn]
    rintro rfl
    exact h1 hb
   unfold xt
   rw[jNy,jMz,je]
theorem jJr{hs:List Addr}{wX:List (List Str)}{a:Addr}(h:a∉hs):xt hs wX a=[]:=by
 unfold xt
 have:(hs.zip wX).lookup a=none:=by
  rw[List.lookup_eq_none_iff]
  intro p hp
  have:=(jQm hp).1
  simp only[bne_iff_ne,ne_eq]
  rintro rfl
  exact h this
 rw[this];rfl
noncomputable def rg:Fn:=fnAt Challenge.pw_oy0159_02 "_law_below"
noncomputable def y5:nG:=[("-","-"),("r","-r"),("w","-w"),("x","-x"),("S","-S"),("T","-T"),("s","-xSs"),("t","-xTt")]
noncomputable def yO(c:Str):Str:=(y5.lookup c).getD ""
noncomputable def n9(one other:Str)(k:Nat):Bool:= !Txt.contains (yO (chr other (1+(k:Int)))) (chr one (1+(k:Int)))
noncomputable def yY(one other:Str):Bool:=decide ((List.range 9).filter (n9 one other)=[])
theorem jR{jM:Scope}{lp:Loc}{x y:Str}{d:D}(h:jM.names.lookup x=some .free)(je:x≠y):jA (jF jM lp) y d x=lp x:=by
 rw[qO je]
 unfold jF
 rw[jMt h]
theorem faith1:jZ (fun k:Nat=>D.int (1+(k:Int))) 0 where
 like:=fun a b=>rfl
 beq:=fun a b=>by
  show(?_:((1+(a:Int))==(1+(b:Int)))=decide (a=b))
  rw[jN0];simp;lia
 dep:=fun a=>jNi _
theorem jJ2{glob:xQ}{n:Nat}{one other:Str}(h1:one.length=10)(h2:other.length=10)(h3:∀k:Nat,k<9->(y5.lookup (chr other (1+(k:Int)))).isSome=true):
  (zH jH (ev jH glob (n+20)) "_law_below" [.str one,.str other]).bind qB=some (.bool (yY one other)):=by
 have jh:lim=1000000:=rfl
 show(?_:(qd (ev jH glob (n+20)) false rg.scope (jA (jA (fun _=>none) "other" (.val (.str other))) "one" (.val (.str one))) rg.body).bind qB=_)
 show(?_:(qd (ev jH glob (n+20)) false rg.scope _ [_,.Return (some (.Compare (.ListComp _ _ _ _) [_] [_] _)) _]).bind qB=_)
 generalize vE:jA (jA (fun _=>none) "other" (B.val (.str other))) "one" (.val (.str one))=l0
 have a1:l0 "one"=some (.val (.str one)):=by rw[<-vE];kernel_rfl
 have a2:l0 "other"=some (.val (.str other)):=by rw[<-vE];kernel_rfl
 clear vE
 show qC (jS (d:= .dictS (y5.map fun q=>(q.1,D.str q.2))) kR kR kR) ?_
 have b1:jA l0 "held" (B.val (.dictS (y5.map fun q=>(q.1,D.str q.2)))) "one"=some (.val (.str one)):=(sN).trans a1
 have b2:jA l0 "held" (B.val (.dictS (y5.map fun q=>(q.1,D.str q.2)))) "other"=some (.val (.str other)):=(sN).trans a2
 have b3:jA l0 "held" (B.val (.dictS (y5.map fun q=>(q.1,D.str q.2)))) "held"=some (.val (.dictS (y5.map fun q=>(q.1,D.str q.2)))):=jL
 generalize jA l0 "held" (B.val (.dictS (y5.map fun q=>(q.1,D.str q.2))))=l at b1 b2 b3
 show o9 (kq (ma kR (x:= .list (((List.range 9).filter (n9 one other)).map fun k:Nat=> .int (1+(k:Int)))) (y:= .list (([]:List Nat).map fun k:Nat=> .int (1+(k:Int)))) ?_ kR (faith1.list.eq kD _ _)))
 show vZ (fun k:Nat=> .int (1+(k:Int))) (n9 one other) (fun k:Nat=> .int (1+(k:Int))) (List.range 9) kR kR kR (fun k hk=> ?_) (fun k hk _=>by kernel_rfl) (by simp;decide)
 have hk:=yU.mp hk
 obtain⟨h,hh⟩:=jM4.mp (h3 k hk)
 have e1:yO (chr other (1+(k:Int)))=h:=by unfold yO;rw[hh];rfl
 unfold n9
 rw[e1]
 show zW (j7 kR (x:= .str (chr one (1+(k:Int)))) (y:= .str h) (j5 kR (x:= .str one) (y:= .int (1+(k:Int))) (jC kR kR ?_) kR (wK (by lia) (by lia) (by lia))) (j5 kR (x:= .dictS (y5.map fun q=>(q.1,D.str q.2))) (y:= .str (chr other (1+(k:Int)))) (jC kR kR ?_) (j5 kR (x:= .str other) (y:= .int (1+(k:Int))) (jC kR kR ?_) kR (wK (by lia) (by lia) (by lia))) ?_) rfl)
 .exact(jR kR kD).trans (jP b1)
 .exact(jR kR kD).trans (jP b3)
 .exact(jR kR kD).trans (jP b2)
 .show(?_:(y5.map fun q=>(q.1,D.str q.2)).lookup _=_)
  rw[lookup_map2,hh];rfl
def Sub(x y:Nat):Prop:=x|||y=y
noncomputable def qR(m:Nat)(l:List Nat):Nat:=l.foldl (·|||·) m
theorem ug(x:Nat):Sub x x:=Nat.or_self x
theorem yd{x y z:Nat}(h:Sub x y)(g:Sub y z):Sub x z:=by
 unfold Sub at *
 rw[<-g,<-Nat.or_assoc,h]
theorem vk{x y:Nat}(h:Sub x y)(g:Sub y x):x=y:=by
 unfold Sub at *
 rw[<-h];rw[Nat.or_comm] at g;exact g.symm
theorem jA0(x y:Nat):Sub x (x|||y):=by
 unfold Sub
 rw[<-Nat.or_assoc,Nat.or_self]
theorem jDd(x y:Nat):Sub y (x|||y):=by
 rw[Nat.or_comm];exact jA0 y x
theorem or_sub{x y z:Nat}(h:Sub x z)(g:Sub y z):Sub (x|||y) z:=by
 unfold Sub at *
 rw[Nat.or_assoc,g,h]
theorem jAt(x y:Nat):Sub (x&&& y) x:=by
 unfold Sub
 apply jOd
 intro i
 rw[jQu,jPj]
 cases x.testBit i <;> cases y.testBit i <;> rfl
theorem jAj(x y:Nat):Sub (x&&& y) y:=by
 rw[jSj];exact jAt y x
theorem sub_and{x y:Nat}(h:Sub x y):x&&& y=x:=by
 apply jOd
 intro i
 have:=jM8 (·.testBit i) (show x|||y=y from h)
 simp only[Nat.testBit_or] at this
 rw[jPj]
 cases hx:x.testBit i <;> cases hy:y.testBit i <;> simp_all
theorem and_or(x y z:Nat):x&&& (y|||z)=(x&&& y)|||(x&&& z):=by
 apply jOd
 intro i
 simp only[Nat.testBit_or,Nat.testBit_and]
 cases x.testBit i <;> cases y.testBit i <;> cases z.testBit i <;> rfl
theorem sub_le{x y:Nat}(h:Sub x y):x<=y:=by
 have:x<=x|||y:=Nat.left_le_or
 rw[show x|||y=y from h] at this
 exact this
theorem qw(m:Nat)(l:List Nat):Sub m (qR m l):=by
 induction l generalizing m with
 |nil=>exact ug m
 |cons a l ih=>exact yd (jA0 m a) (ih (m|||a))
theorem x9{m:Nat}{l:List Nat}{x:Nat}(h:x∈l):Sub x (qR m l):=by
 induction l generalizing m with
 |nil=>cases h
 |cons a l ih=>
  rcases j0.mp h with rfl|h
  .exact yd (jDd m x) (qw (m|||x) l)
  .exact ih h
theorem yn{m y:Nat}{l:List Nat}(hm:Sub m y)(h:∀x∈l,Sub x y):Sub (qR m l) y:=by
 induction l generalizing m with
 |nil=>exact hm
 |cons a l ih=>exact ih (or_sub hm (h a jy)) fun x hx=>h x (qV _ hx)
structure Ring(F:List Nat)(m:Nat):Prop where
 mm:m∈F
 or:∀x∈F,∀y∈F,x|||y∈F
 and:∀x∈F,∀y∈F,x&&& y∈F
 least:∀x∈F,Sub m x
noncomputable def xg(F:List Nat)(x:Nat):List Nat:=F.filter fun y=>decide (y≠x)&&(y|||x==x)
theorem zw{F:List Nat}{x y:Nat}:y∈xg F x↔y∈F/\y≠x/\Sub y x:=by
 unfold xg Sub
 simp[List.mem_filter]
def zq(F:List Nat)(m x:Nat):Prop:=x∈F/\x≠m/\qR m (xg F x)≠x
section
variable{F:List Nat}{m:Nat}(R:Ring F m)
include R
theorem jI9{l:List Nat}{a:Nat}(ha:a∈F)(h:∀x∈l,x∈F):qR a l∈F:=by
 induction l generalizing a with
 |nil=>exact ha
 |cons b l ih=>exact ih (R.or a ha b (h b jy)) fun x hx=>h x (qV _ hx)
theorem jJ5{k a:Nat}{l:List Nat}:k&&& qR a l=qR (k&&& a) (l.map (k&&& ·)):=by
 induction l generalizing a with
 |nil=>rfl
 |cons b l ih=>
  show(?_:k&&& qR (a|||b) l=qR ((k&&& a)|||(k&&& b)) (l.map (k&&& ·)))
  rw[ih,and_or]
theorem prime{k:Nat}{C:List Nat}(hk:zq F m k)(hC:∀c∈C,c∈F)(h:Sub k (qR m C)):∃c∈C,Sub k c:=by
 show Classical.byContradiction fun hn=> ?_
 have oF:∀c∈C,¬Sub k c:=fun c hc g=>hn ⟨c,hc,g⟩
 show hk.2.2 (vk (yn (R.least k hk.1) fun x hx=>(zw.mp hx).2.2) ?_)
 have e:k=qR (k&&& m) (C.map (k&&& ·)):=by rw[<-jJ5 R,sub_and h]
 rw[e]
 show yn (yd (jAj k m) (qw m _)) fun x hx=> ?_
 show jE (jo.mp hx) ?_;rintro c hc rfl
 rw[<-e]
 show x9 (zw.mpr ⟨R.and k hk.1 c (hC c hc),fun g=>oF c hc ?_,jAt k c⟩)
 rw[<-g];exact jAj k c
def Down(F:List Nat)(m:Nat)(C:List Nat):Prop:=∀k∈C,∀j,zq F m j->Sub j k->j∈C
theorem jEg{C C':List Nat}(h1:∀c∈C,zq F m c)(h2:∀c∈C',zq F m c)(d2:Down F m C')(e:qR m C=qR m C'):∀k∈C,k∈C':=by
 intro k hk
 show jE (prime R (h1 k hk) (fun c hc=>(h2 c hc).1) (e▸x9 hk)) fun c hc g=> ?_
 exact d2 c hc k (h1 k hk) g
theorem jGn{S:List Nat}(hS:∀j,zq F m j↔j∈S):∀y,y∈F->qR m (S.filter fun j=>j|||y==y)=y:=by
 intro y
 induction y using Nat.strongRecOn with
 |ind y ih=>
  intro hy
  have hle:Sub (qR m (S.filter fun j=>j|||y==y)) y:=yn (R.least y hy) fun x hx=>by
   have:=(qX.mp hx).2
   exact jNs.mp this
  show vk hle ?_
  by_cases h0:y=m
  .exact h0.symm▸qw m _
  .by_cases h1:qR m (xg F y)=y
   .have h2:Sub (qR m (xg F y)) (qR m (S.filter fun j=>j|||y==y)):=by
     show yn (qw m _) fun z hz=> ?_
     show uX (zw.mp hz) fun z1 z2 z3=> ?_
     have jv:z<y:=jQw (sub_le z3) z2
     rw[<-ih z jv z1]
     show yn (qw m _) fun j hj=> ?_
     obtain⟨j1,j2⟩:=qX.mp hj
     exact x9 (qX.mpr ⟨j1,jNs.mpr (yd (jNs.mp j2) z3)⟩)
    rw[h1] at h2;exact h2
   .have hs:zq F m y:=⟨hy,h0,h1⟩
    exact x9 (qX.mpr ⟨(hS y).mp hs,jNs.mpr (Nat.or_self y)⟩)
end
section
variable{α:Type}[DecidableEq α](lo:α->List α)
noncomputable def qt(made:List (List α))(s:α):List (List α):=made++(made.filter fun one=>(lo s).all fun a=>decide (a∈one)).map (·++[s])
noncomputable def dz(line:List α):List (List α):=line.foldl (qt lo) [[]]
theorem jEo(P:List α)(s:α):dz lo (P++[s])=qt lo (dz lo P) s:=by
 unfold dz;rw[List.foldl_append];rfl
def pT(line:List α):Prop:=∀P s Q,line=P++s::Q->∀a∈lo s,a∈P
theorem pT.pre{P:List α}{s:α}(h:pT lo (P++[s])):pT lo P:=fun P1 t Q e a ha=>h P1 t (Q++[s]) (by rw[e];simp) a ha
theorem jGh{made:List (List α)}{s:α}{C:List α}:C∈qt lo made s↔C∈made\/∃D∈made,(∀a∈lo s,a∈D)/\C=D++[s]:=by
 unfold qt
 simp only[List.mem_append,List.mem_map,List.mem_filter,List.all_eq_true,decide_eq_true_eq]
 constructor
 .rintro (h|⟨D,⟨h1,h2⟩,rfl⟩)
  .exact .inl h
  .exact .inr ⟨D,h1,h2,rfl⟩
 .rintro (h|⟨D,h1,h2,rfl⟩)
  .exact .inl h
  .exact .inr ⟨D,⟨h1,h2⟩,rfl⟩
theorem lin_mem{P:List α}(h:pT lo P){t:α}(ht:t∈P):∀a∈lo t,a∈P:=by
 show oP (List.append_of_mem ht) fun P1 Q e=> ?_
 intro a ha
 rw[e]
 exact xP _ (h P1 t Q e a ha)
theorem jHo:∀(n:Nat) (P:List α),P.length=n->P.Nodup->pT lo P->∀C,C∈dz lo P↔C.Sublist P/\∀s∈C,∀a∈lo s,a∈C:=by
 intro n
 induction n with
 |zero=>
  intro P hl _ _ C
  rw[jOe.mp hl]
  constructor
  .intro h
   rw[jw.mp h]
   exact⟨jP8 _,fun s hs=>nomatch hs⟩
  .intro h
   rw[List.sublist_nil.mp h.1]
   exact jw.mpr rfl
 |succ n ih=>
  intro P hl hn hL C
  obtain⟨P0,s,rfl⟩:∃P0 s,P=P0++[s]:=by
   have je:P≠[]:=fun e=>by rw[e] at hl;cases hl
   exact⟨P.dropLast,P.getLast je,(List.dropLast_concat_getLast je).symm⟩
  have vE:P0.length=n:=by rw[jNm] at hl;exact Nat.succ.inj hl
  have bt:P0.Nodup:=(jN1.mp hn).1
  have bo:s∉P0:=fun h=>(jN1.mp hn).2.2 s h s (jw.mpr rfl) rfl
  have rz:pT lo P0:=pT.pre lo hL
  have hls:∀a∈lo s,a∈P0:=hL P0 s [] rfl
  rw[jEo,jGh]
  constructor
  .rintro (h|⟨D,h1,h2,rfl⟩)
   .obtain⟨g1,g2⟩:=(ih P0 vE bt rz C).mp h
    exact⟨g1.trans (List.sublist_append_left _ _),g2⟩
   .obtain⟨g1,g2⟩:=(ih P0 vE bt rz D).mp h1
    show⟨g1.append (jP8 _),fun t ht a ha=> ?_⟩
    rcases jj.mp ht with ht|ht
    .exact xP _ (g2 t ht a ha)
    .rw[jw.mp ht] at ha
     exact xP _ (h2 a ha)
  .rintro ⟨h1,h2⟩
   show yz (List.sublist_append_iff.mp h1) ?_;rintro C1 C2 rfl k1 k2
   have hns:s∉C1:=fun h=>bo (k1.subset h)
   have hC:C2=[]\/C2=[s]:=by
    induction C2 using cL with
    |nil=>exact .inl rfl
    |cons c r=>
     right
     have hlen:=k2.length_le
     simp at hlen
     subst hlen
     rw[jw.mp (k2.subset jy)]
   rcases hC with rfl|rfl
   .left
    rw[jOj] at h2 ⊢
    exact(ih P0 vE bt rz C1).mpr ⟨k1,h2⟩
   .right
    show⟨C1,(ih P0 vE bt rz C1).mpr ⟨k1,fun t ht a ha=> ?_⟩,fun a ha=> ?_,rfl⟩
    .rcases jj.mp (h2 t (xP _ ht) a ha) with h|h
     .exact h
     .rw[jw.mp h] at ha
      exact absurd (lin_mem lo rz (k1.subset ht) s ha) bo
    .rcases jj.mp (h2 s (ju _ (jw.mpr rfl)) a ha) with h|h
     .exact h
     .rw[jw.mp h] at ha
      exact absurd (hls s ha) bo
theorem jJv:∀(n:Nat) (P:List α),P.length=n->P.Nodup->pT lo P->(dz lo P).Nodup:=by
 intro n
 induction n with
 |zero=>
  intro P hl _ _
  rw[jOe.mp hl]
  show(?_:([[]]:List (List α)).Nodup)
  exact xw.mpr ⟨jRe,jO3⟩
 |succ n ih=>
  intro P hl hn hL
  obtain⟨P0,s,rfl⟩:∃P0 s,P=P0++[s]:=by
   have je:P≠[]:=fun e=>by rw[e] at hl;cases hl
   exact⟨P.dropLast,P.getLast je,(List.dropLast_concat_getLast je).symm⟩
  have vE:P0.length=n:=by rw[jNm] at hl;exact Nat.succ.inj hl
  have bt:P0.Nodup:=(jN1.mp hn).1
  have bo:s∉P0:=fun h=>(jN1.mp hn).2.2 s h s (jw.mpr rfl) rfl
  have rz:pT lo P0:=pT.pre lo hL
  rw[jEo]
  have i0:=ih P0 vE bt rz
  unfold qt
  show jN1.mpr ⟨i0,?_,fun C hC D hD e=> ?_⟩
  .show jPa.mpr ((i0.filter _).imp ?_)
   intro a b fh e
   exact fh (List.append_cancel_right e)
  .show jE (jo.mp hD) ?_;rintro D0 _ rfl
   have:=((jHo lo n P0 vE bt rz C).mp hC).1
   exact bo (this.subset (e▸ju _ (jw.mpr rfl)))
end
theorem jAf{α:Type}[DecidableEq α]{C l:List α}(h:C.Sublist l):l.Nodup->C=l.filter fun a=>decide (a∈C):=by
 induction h with
 |slnil=>intro _;rfl
 |cons a h ih=>
  intro hn
  obtain⟨h1,h2⟩:=xw.mp hn
  rw[jPe (by simpa using fun g=>h1 (h.subset g))]
  exact ih h2
 |cons_cons a h ih=>
  intro hn
  obtain⟨h1,h2⟩:=xw.mp hn
  rw[jPd (by simp)]
  show jM8 _ ((ih h2).trans (jSl fun x hx=> ?_))
  have:x≠a:=fun e=>h1 (e▸hx)
  simp[this]
theorem jMd{α:Type}[DecidableEq α]{lo:α->List α}{val:α->Nat}{line:List α}{F:List Nat}{m:Nat}(R:Ring F m)(hF:F.Nodup)(hn:line.Nodup)(hL:pT lo line)
  (hS:∀x,zq F m x↔∃a∈line,val a=x) (hv:∀a∈line,∀b∈line,val a=val b->a=b) (hlo:∀a∈line,∀b,b∈lo a↔b∈line/\b≠a/\Sub (val b) (val a)):
  ((dz lo line).map fun C=>qR m (C.map val)).Perm F:=by
 have xx:=jHo lo line.length line rfl hn hL
 have key:∀C∈dz lo line,C.Sublist line/\(∀c∈C.map val,zq F m c)/\Down F m (C.map val):=fun C hC=>by
  obtain⟨h1,h2⟩:=(xx C).mp hC
  show⟨h1,fun c hc=> ?_,fun k hk j hj hjk=> ?_⟩
  .show jE (jo.mp hc) ?_;rintro a ha rfl
   exact(hS _).mpr ⟨a,h1.subset ha,rfl⟩
  .show jE (jo.mp hk) ?_;rintro a ha rfl
   show jE ((hS _).mp hj) ?_;rintro b hb rfl
   by_cases e:b=a
   .exact e▸jMs ha
   .exact jMs (h2 a ha b ((hlo a (h1.subset ha) b).mpr ⟨hb,e,hjk⟩))
 have inj:∀C∈dz lo line,∀D∈dz lo line,qR m (C.map val)=qR m (D.map val)->C=D:=fun C hC D hD e=>by
  show uX (key C hC) fun a1 a2 a3=> ?_
  show uX (key D hD) fun b1 b2 b3=> ?_
  rw[jAf a1 hn,jAf b1 hn]
  show jSl fun x hx=> ?_
  have f:∀{C D:List α},C.Sublist line->D.Sublist line->(∀k∈C.map val,k∈D.map val)->x∈C->x∈D:=fun s1 s2 g h=>by
   show jE (jo.mp (g _ (jMs h))) fun y hy e=> ?_
   rw[<-hv y (s2.subset hy) x (s1.subset h) e];exact hy
  rw[decide_eq_decide]
  exact⟨f a1 b1 (jEg R a2 b2 b3 e),f b1 a1 (jEg R b2 a2 a3 e.symm)⟩
 show(jPo ?_ hF).mpr fun y=> ?_
 .show jPa.mpr ((jJv lo line.length line rfl hn hL).imp_of_mem ?_)
  intro a b ha hb fh e
  exact fh (inj a ha b hb e)
 .constructor
  .intro hy
   show jE (jo.mp hy) ?_;rintro C hC rfl
   exact jI9 R R.mm fun x hx=>((key C hC).2.1 x hx).1
  .intro hy
   show jo.mpr ⟨line.filter fun a=>val a|||y==y,(xx _).mpr ⟨List.filter_sublist,fun s hs a ha=> ?_⟩,?_⟩
   .obtain⟨h1,h2⟩:=qX.mp hs
    show uX ((hlo s h1 a).mp ha) fun g1 _ g3=> ?_
    exact qX.mpr ⟨g1,jNs.mpr (yd g3 (jNs.mp h2))⟩
   .have:=jGn R (S:=line.map val) (fun j=>(hS j).trans ⟨fun⟨a,h1,h2⟩=>h2▸jMs h1,fun h=>jo.mp h⟩) y hy
    rw[List.filter_map] at this
    exact this
noncomputable def uniq{α:Type}[DecidableEq α]:List α->List α
 |[]=>[]
 |a::l=>if a∈l then uniq l else a::uniq l
theorem z5{α:Type}[DecidableEq α]{x:α}(l:List α):x∈uniq l↔x∈l:=by
 induction l with
 |nil=>exact Iff.rfl
 |cons a l ih=>
  show(?_:x∈(if a∈l then uniq l else a::uniq l)↔_)
  by_cases h:a∈l
  .rw[jMt h,ih]
   exact⟨qV _,fun g=>(j0.mp g).elim (fun e=>e▸h) id⟩
  .rw[jMv h,jPy,jPy,ih]
theorem jBo{α:Type}[DecidableEq α](l:List α):(uniq l).Nodup:=by
 induction l with
 |nil=>exact jO3
 |cons a l ih=>
  show(?_:(if a∈l then uniq l else a::uniq l).Nodup)
  by_cases h:a∈l
  .rw[jMt h];exact ih
  .rw[jMv h];exact xw.mpr ⟨fun g=>h ((z5 l).mp g),ih⟩
noncomputable def wg(l:List Nat):List Nat:=l.mergeSort fun a b=>decide (a<=b)
theorem x7(l:List Nat):(wg l).Perm l:=jOy l _
theorem ya(l:List Nat):(wg l).Pairwise (·<=·):=
 (jPc (le:=fun a b=>decide (a<=b)) (fun a b c h g=>by simp at *;exact zo13 zA zA) (fun a b=>by simp;lia) l).imp fun h=>by simpa using h
noncomputable def ka(l:List Nat):List Nat:=wg (uniq l)
theorem zc{x:Nat}{l:List Nat}:x∈ka l↔x∈l:=((x7 _).mem_iff).trans (z5 l)
theorem jA3(l:List Nat):(ka l).Nodup:=(x7 _).nodup_iff.mpr (jBo l)
theorem jIe{l l':List Nat}(h:l.Perm l')(h1:l.Pairwise (·<=·))(h2:l'.Pairwise (·<=·)):l=l':=
 jPz (le:=(·<=·)) (fun a b _ _ h g=>Nat.le_antisymm h g) h1 h2 h
theorem jAg{l l':List Nat}(h:l.Perm l')(h2:l'.Pairwise (·<=·)):wg l=l':=jIe ((x7 l).trans h) (ya l) h2
def Rep(srt:Nat->Nat)(x w:Nat):Prop:=∀p,x.testBit p=w.testBit (srt p)
section
variable{srt:Nat->Nat}
theorem Rep.and{x y w v:Nat}(h:Rep srt x w)(g:Rep srt y v):Rep srt (x&&& y) (w&&& v):=fun p=>by
 rw[jPj,jPj,h p,g p]
theorem Rep.or{x y w v:Nat}(h:Rep srt x w)(g:Rep srt y v):Rep srt (x|||y) (w|||v):=fun p=>by
 rw[jQu,jQu,h p,g p]
theorem Rep.one{x y w:Nat}(h:Rep srt x w)(g:Rep srt y w):x=y:=jOd fun p=>(h p).trans (g p).symm
def tD(srt:Nat->Nat)(F W:List Nat):Prop:=(∀x∈F,∃w∈W,Rep srt x w)/\∀w∈W,∃x∈F,Rep srt x w
theorem tD.nil:tD srt [] []:=⟨fun _ h=>(nomatch h),fun _ h=>(nomatch h)⟩
noncomputable def xi(made:List Nat)(r:Nat):List Nat:=ka (made++[r]++made.map (r|||·))
noncomputable def bA(made:List Nat)(r:Nat):List Nat:=made++[r]++made.map (r|||·)
theorem tD.step{F W:List Nat}{r w:Nat}(h:tD srt F W)(g:Rep srt r w):tD srt (xi F r) (bA W w):=by
 constructor
 .intro x hx
  have hx:=zc.mp hx
  rcases jj.mp hx with hx|hx
  .rcases jj.mp hx with hx|hx
   .show jE (h.1 x hx) fun v h1 h2=> ?_
    exact⟨v,xP _ (xP _ h1),h2⟩
   .rw[jw.mp hx]
    exact⟨w,xP _ (ju _ (jw.mpr rfl)),g⟩
  .show jE (jo.mp hx) ?_;rintro y hy rfl
   show jE (h.1 y hy) fun v h1 h2=> ?_
   exact⟨w|||v,ju _ (jMs h1),g.or h2⟩
 .intro v hv
  rcases jj.mp hv with hv|hv
  .rcases jj.mp hv with hv|hv
   .show jE (h.2 v hv) fun x h1 h2=> ?_
    exact⟨x,zc.mpr (xP _ (xP _ h1)),h2⟩
   .rw[jw.mp hv]
    exact⟨r,zc.mpr (xP _ (ju _ (jw.mpr rfl))),g⟩
  .show jE (jo.mp hv) ?_;rintro u hu rfl
   show jE (h.2 u hu) fun x h1 h2=> ?_
   exact⟨r|||x,zc.mpr (ju _ (jMs h1)),g.or h2⟩
inductive zB (srt:Nat->Nat):List Nat->List Nat->Prop
 |nil:zB srt [] []
 |cons {x w xs ws}:Rep srt x w->zB srt xs ws->zB srt (x::xs) (w::ws)
theorem tD.fold{rs ws:List Nat}(g:zB srt rs ws):∀{F W:List Nat},tD srt F W->tD srt (rs.foldl xi F) (ws.foldl bA W):=by
 induction g with
 |nil=>exact fun h=>h
 |cons h _ ih=>exact fun f=>ih (f.step h)
noncomputable def qP(made:List Nat)(r:Nat):List Nat:=made++[r]++made.map (r&&& ·)
theorem zB.append{a b c d:List Nat}(h:zB srt a b)(g:zB srt c d):zB srt (a++c) (b++d):=by
 induction h with
 |nil=>exact g
 |cons r _ ih=>exact .cons r ih
theorem zB.andMap{a b:List Nat}{r w:Nat}(h:zB srt a b)(g:Rep srt r w):zB srt (a.map (r&&& ·)) (b.map (w&&& ·)):=by
 induction h with
 |nil=>exact .nil
 |cons k _ ih=>exact .cons (g.and k) ih
theorem zB.ands{rs ws:List Nat}(g:zB srt rs ws):∀{a b:List Nat},zB srt a b->zB srt (rs.foldl qP a) (ws.foldl qP b):=by
 induction g with
 |nil=>exact fun h=>h
 |cons h _ ih=>exact fun f=>ih ((f.append (.cons h .nil)).append (f.andMap h))
noncomputable def xI(a b c p:Nat):Nat:=(a.testBit p).toNat+2 * (b.testBit p).toNat+4 * (c.testBit p).toNat
theorem rep0(a b c:Nat):Rep (xI a b c) a 170:=fun p=>by
 unfold xI
 cases a.testBit p <;> cases b.testBit p <;> cases c.testBit p <;> rfl
theorem rep1(a b c:Nat):Rep (xI a b c) b 204:=fun p=>by
 unfold xI
 cases a.testBit p <;> cases b.testBit p <;> cases c.testBit p <;> rfl
theorem rep2(a b c:Nat):Rep (xI a b c) c 240:=fun p=>by
 unfold xI
 cases a.testBit p <;> cases b.testBit p <;> cases c.testBit p <;> rfl
noncomputable def y7(a b c:Nat):List Nat:=(([a,b,c].foldl qP []).foldl xi [])
noncomputable def W18:List Nat:=uniq (([170,204,240].foldl qP []).foldl bA [])
theorem xk(a b c:Nat):tD (xI a b c) (y7 a b c) W18:=by
 have r:zB (xI a b c) [a,b,c] [170,204,240]:= .cons (rep0 a b c) (.cons (rep1 a b c) (.cons (rep2 a b c) .nil))
 have f:=tD.fold (r.ands .nil) tD.nil
 exact⟨fun x hx=>(f.1 x hx).imp fun w h=>⟨(z5 _).mpr h.1,h.2⟩,fun w hw=>f.2 w ((z5 _).mp hw)⟩
theorem W18_or:∀w∈W18,∀v∈W18,w|||v∈W18:=by decide+kernel
theorem W18_and:∀w∈W18,∀v∈W18,w&&& v∈W18:=by decide+kernel
theorem jDb:128∈W18/\∀w∈W18,128|||w=w:=by decide+kernel
noncomputable def qo(a b c:Nat):Nat:=a&&& b&&& c
theorem jCw(a b c:Nat):Rep (xI a b c) (qo a b c) 128:=((rep0 a b c).and (rep1 a b c)).and (rep2 a b c)
theorem kT(a b c:Nat):Ring (y7 a b c) (qo a b c) where
 mm:=by
  show jE ((xk a b c).2 128 jDb.1) fun x h1 h2=> ?_
  exact(jCw a b c).one h2▸h1
 or:=fun x hx y hy=>by
  show jE ((xk a b c).1 x hx) fun w h1 h2=> ?_
  show jE ((xk a b c).1 y hy) fun v g1 g2=> ?_
  show jE ((xk a b c).2 _ (W18_or w h1 v g1)) fun z k1 k2=> ?_
  exact(h2.or g2).one k2▸k1
 and:=fun x hx y hy=>by
  show jE ((xk a b c).1 x hx) fun w h1 h2=> ?_
  show jE ((xk a b c).1 y hy) fun v g1 g2=> ?_
  show jE ((xk a b c).2 _ (W18_and w h1 v g1)) fun z k1 k2=> ?_
  exact(h2.and g2).one k2▸k1
 least:=fun x hx=>by
  show jE ((xk a b c).1 x hx) fun w h1 h2=> ?_
  have:=(jCw a b c).or h2
  rw[jDb.2 w h1] at this
  exact this.one h2
theorem zx(a b c:Nat):(y7 a b c).Nodup:=by
 show(?_:(xi _ _).Nodup)
 exact jA3 _
theorem jA8(a b c:Nat):(y7 a b c).Pairwise (·<=·):=by
 show(?_:(xi _ _).Pairwise _)
 exact ya _
noncomputable def yg(c:Nat->Bool)(n:Nat):Nat:=(((List.range n).filter c).map (2 ^ ·)).sum
theorem z8(c:Nat->Bool)(n:Nat):yg c (n+1)=yg c n+if c n=true then 2 ^ n else 0:=by
 unfold yg
 rw[jRs,List.filter_append,jNr,List.sum_append]
 by_cases h:c n=true
 .rw[jMt h,jPd h];simp
 .rw[jMv h,jPe h];simp
theorem sumP_lt(c:Nat->Bool)(n:Nat):yg c n<2 ^ n:=by
 induction n with
 |zero=>exact Nat.zero_lt_one
 |succ n ih=>
  rw[z8,jRl]
  split <;> lia
theorem jKd(c:Nat->Bool)(n p:Nat):(yg c n).testBit p=(decide (p<n)&&c p):=by
 induction n with
 |zero=>
  show(?_:(0:Nat).testBit p=_)
  rw[Nat.zero_testBit];simp
 |succ n ih=>
  have jv:=sumP_lt c n
  rw[z8]
  by_cases hp:p=n
  .subst hp
   by_cases h:c p=true
   .rw[jMt h,jO9,Nat.testBit_two_pow_add_eq,jOg jv]
    simp[h]
   .rw[jMv h,Nat.add_zero,jOg jv]
    simp[h]
  .by_cases h:c n=true
   .rw[jMt h]
    by_cases g:p<n
    .rw[jO9,Nat.testBit_two_pow_add_gt g,ih]
     simp[g,Nat.lt_succ_of_lt g]
    .have g2:¬p<n+1:=by lia
     have:yg c n+2 ^ n<2 ^ p:=by
      have h1:2 ^ (n+1)<=2 ^ p:=jOq kD (by lia)
      rw[jRl] at h1
      lia
     rw[jOg this]
     simp[g2]
   .rw[jMv h,Nat.add_zero,ih]
    by_cases g:p<n
    .simp[g,Nat.lt_succ_of_lt g]
    .have g2:¬p<n+1:=by lia
     simp[g,g2]
theorem jHf{c d:Nat->Bool}(h:∀p,¬(c p=true/\d p=true))(n:Nat):yg c n+yg d n=yg (fun p=>c p||d p) n:=by
 induction n with
 |zero=>rfl
 |succ n ih=>
  rw[z8,z8,z8,<-ih]
  have:=h n
  cases hc:c n <;> cases hd:d n <;> simp_all <;> lia
theorem gD{c d:Nat->Bool}{n:Nat}(h:∀p,p<n->c p=d p):yg c n=yg d n:=by
 unfold yg
 rw[jSl fun p hp=>h p (yU.mp hp)]
theorem jF1(srt:Nat->Nat)(n:Nat)(ss:List Nat):ss.Nodup->(ss.map fun s=>yg (fun p=>srt p==s) n).sum=yg (fun p=>decide (srt p∈ss)) n:=by
 induction ss with
 |nil=>
  intro _
  have:yg (fun p=>decide (srt p∈([]:List Nat))) n=0:=by
   unfold yg
   rw[jRo.mpr (by simp)];rfl
  rw[this];rfl
 |cons s ss ih=>
  intro hn
  obtain⟨h1,h2⟩:=xw.mp hn
  rw[jNv,jQi,ih h2,jHf]
  .show gD fun p _=> ?_
   rw[jN0];simp
  .rintro p ⟨g1,g2⟩
   have e:srt p=s:=by simpa using g1
   have:srt p∈ss:=by simpa using g2
   exact h1 (e▸this)
noncomputable def jn(srt:Nat->Nat):List Nat:=[1,2,3,4,5,6].filter fun s=>decide (s∈(List.range 12).map srt)
noncomputable def qm(srt:Nat->Nat)(s:Nat):Nat:=yg (fun p=>srt p==s) 12
noncomputable def qG(S:List Nat)(s:Nat):Nat:=yg (fun k=>(S.getD k 0|||s)==S.getD k 0) S.length
noncomputable def jc(S:List Nat)(ch:Nat):List Nat:=(List.range S.length).filter fun k=>ch / 2 ^ k % 2==1
noncomputable def me(S:List Nat)(ch:Nat):Bool:=((jc S ch).filter fun k=> !((ch&&& qG S (S.getD k 0))==qG S (S.getD k 0))).isEmpty
noncomputable def yW(srt:Nat->Nat)(S:List Nat)(ch:Nat):Nat:=((jc S ch).map fun k=>qm srt (S.getD k 0)).sum+qm srt 7
noncomputable def wh(srt:Nat->Nat):List Nat:=((List.range (2 ^ (jn srt).length)).filter (me (jn srt))).map (yW srt (jn srt))
noncomputable def goodS(S:List Nat):Bool:=
 ((List.range (2 ^ S.length)).all fun ch=> !me S ch||W18.any fun w=>(List.range S.length).all fun k=>w.testBit (S.getD k 0)==(ch / 2 ^ k % 2==1))&&
 (W18.all fun w=>(List.range (2 ^ S.length)).any fun ch=>me S ch&&(List.range S.length).all fun k=>w.testBit (S.getD k 0)==(ch / 2 ^ k % 2==1))
noncomputable def subs:List Nat->List (List Nat)
 |[]=>[[]]
 |a::l=>subs l++(subs l).map (a::·)
theorem jK7(f:Nat->Bool)(l:List Nat):l.filter f∈subs l:=by
 induction l with
 |nil=>
  exact jw.mpr rfl
 |cons a l ih=>
  show(?_:_∈subs l++(subs l).map (a::·))
  by_cases h:f a=true
  .rw[jPd h]
   exact ju _ (jMs (ih))
  .rw[jPe h]
   exact xP _ (ih)
theorem jMl:((subs [1,2,3,4,5,6]).all goodS)=true:=by decide+kernel
theorem zK(srt:Nat->Nat):(jn srt).Nodup:=(show ([1,2,3,4,5,6]:List Nat).Nodup by decide).filter _
theorem kL{s:Nat}:s∈jn srt↔s∈[1,2,3,4,5,6]/\∃p,p<12/\srt p=s:=by
 unfold jn
 rw[List.mem_filter,jNk,List.mem_map]
 simp only[List.mem_range]
theorem vy{s:Nat}(h:s∈jn srt):1<=s/\s<=6:=by
 have:=(kL.mp h).1
 simp at this;lia
theorem getD_mem'{S:List Nat}{k:Nat}(h:k<S.length):S.getD k 0∈S:=by
 rw[jNa,jM9 h];exact jPv h
theorem getD_inj{S:List Nat}(hn:S.Nodup){i j:Nat}(hi:i<S.length)(hj:j<S.length)(e:S.getD i 0=S.getD j 0):i=j:=by
 rw[jNa,jM9 hi,jNa,jM9 hj] at e
 rcases Nat.lt_trichotomy i j with h|h|h
 .exact absurd e (jQ0.mp hn i j hi hj h)
 .exact h
 .exact absurd e.symm (jQ0.mp hn j i hj hi h)
theorem qu{S:List Nat}{ch k:Nat}:k∈jc S ch↔k<S.length/\ch.testBit k=true:=by
 unfold jc
 rw[List.mem_filter,List.mem_range,jOh]
 simp
theorem jDq(S:List Nat)(ch:Nat)(hn:S.Nodup):((jc S ch).map (S.getD · 0)).Nodup:=by
 show jPa.mpr (((jRf (n:=S.length)).filter _).imp_of_mem ?_)
 intro i j hi hj je e
 exact je (getD_inj hn (qu.mp hi).1 (qu.mp hj).1 e)
theorem jEf{S:List Nat}(hn:S.Nodup)(h7:7∉S)(ch p:Nat):(yW srt S ch).testBit p=(decide (p<12)&&(decide (srt p∈(jc S ch).map (S.getD · 0))||srt p==7)):=by
 have e:yW srt S ch=yg (fun p=>decide (srt p∈(jc S ch).map (S.getD · 0))||srt p==7) 12:=by
  unfold yW
  have h1:((jc S ch).map fun k=>qm srt (S.getD k 0))=((jc S ch).map (S.getD · 0)).map fun s=>yg (fun p=>srt p==s) 12:=by
   rw[jOz];rfl
  rw[h1,jF1 srt 12 _ (jDq S ch hn)]
  show jHf ?_ 12
  rintro p ⟨g1,g2⟩
  have g2:srt p=7:=by simpa using g2
  have g1:srt p∈(jc S ch).map (S.getD · 0):=by simpa using g1
  show jE (jo.mp g1) fun k hk e=> ?_
  exact h7 (g2▸e▸getD_mem' (qu.mp hk).1)
 rw[e,jKd]
theorem jEy:∀w∈W18,w.testBit 0=false/\w.testBit 7=true:=by decide+kernel
structure eb(srt:Nat->Nat):Prop where
 le:∀p,srt p<=7
 out:∀p,12<=p->srt p=0
theorem jEe(hs:eb srt){ch w:Nat}(hw:w∈W18)(h:∀k,k<(jn srt).length->w.testBit ((jn srt).getD k 0)=ch.testBit k):Rep srt (yW srt (jn srt) ch) w:=by
 intro p
 have h7:7∉jn srt:=fun h=>by have:=vy h;lia
 rw[jEf (zK srt) h7]
 obtain⟨w0,w7⟩:=jEy w hw
 by_cases hp:p<12
 .by_cases e7:srt p=7
  .rw[e7,w7];simp[hp]
  .by_cases e0:srt p=0
   .have:0∉(jc (jn srt) ch).map ((jn srt).getD · 0):=fun h=>by
     show jE (jo.mp h) fun k hk e=> ?_
     have:=vy (getD_mem' (qu.mp hk).1)
     lia
    rw[e0,w0,jNb this];simp
   .have hm:srt p∈jn srt:=kL.mpr ⟨by have:=hs.le p;simp;lia,p,hp,rfl⟩
    obtain⟨k,hk,e⟩:=jQo hm
    have e':(jn srt).getD k 0=srt p:=by rw[jNa,jM9 hk];exact e
    have h1:=h k hk
    rw[e'] at h1
    rw[h1]
    have:(srt p∈(jc (jn srt) ch).map ((jn srt).getD · 0))↔ch.testBit k=true:=by
     constructor
     .intro g
      show jE (jo.mp g) fun j hj ej=> ?_
      obtain⟨j1,j2⟩:=qu.mp hj
      rw[<-getD_inj (zK srt) j1 hk (ej.trans e'.symm)];exact j2
     .intro g
      exact jo.mpr ⟨k,qu.mpr ⟨hk,g⟩,e'⟩
    simp only[hp,decide_true,Bool.true_and,this]
    simp[e7]
 .rw[hs.out p (Nat.le_of_not_lt hp),w0];simp[hp]
theorem bit_eq(ch k:Nat):(ch / 2 ^ k % 2==1)=ch.testBit k:=by
 rw[jOh];rfl
theorem jIh(srt:Nat->Nat):goodS (jn srt)=true:=jNe.mp jMl _ (jK7 _ _)
theorem jK8(hs:eb srt){F:List Nat}(f:tD srt F W18)(x:Nat):x∈wh srt↔x∈F:=by
 obtain⟨g1,g2⟩:=jM2.mp (jIh srt)
 unfold wh
 constructor
 .intro h
  show jE (jo.mp h) ?_;rintro ch hc rfl
  obtain⟨c1,c2⟩:=qX.mp hc
  have:=jNe.mp g1 ch c1
  rw[c2,Bool.not_true,Bool.false_or] at this
  show jE (jOp.mp this) fun w hw h1=> ?_
  have r:Rep srt (yW srt (jn srt) ch) w:=jEe hs hw fun k hk=>by
   have:=jNe.mp h1 k (yU.mpr hk)
   rw[bit_eq] at this
   exact jNs.mp this
  show jE (f.2 w hw) fun z hz r2=> ?_
  exact r.one r2▸hz
 .intro h
  show jE (f.1 x h) fun w hw r=> ?_
  show jE (jOp.mp (jNe.mp g2 w hw)) fun ch hc h1=> ?_
  obtain⟨h2,h3⟩:=jM2.mp h1
  show jo.mpr ⟨ch,qX.mpr ⟨hc,h2⟩,?_⟩
  show(jEe hs hw fun k hk=> ?_:Rep srt _ w).one r
  have:=jNe.mp h3 k (yU.mpr hk)
  rw[bit_eq] at this
  exact jNs.mp this
theorem jGj:(wh srt).Nodup:=by
 unfold wh
 show jPa.mpr (((jRf (n:=2 ^ (jn srt).length)).filter _).imp_of_mem ?_)
 intro a b ha hb je e
 have h7:7∉jn srt:=fun h=>by have:=vy h;lia
 show je (jOd fun k=> ?_)
 have la:=yU.mp (qX.mp ha).1
 have lb:=yU.mp (qX.mp hb).1
 by_cases hk:k<(jn srt).length
 .show jE ((kL.mp (getD_mem' hk)).2) fun p hp e2=> ?_
  have key:∀ch,(yW srt (jn srt) ch).testBit p=ch.testBit k:=fun ch=>by
   rw[jEf (zK srt) h7,e2]
   have n7:(jn srt).getD k 0≠7:=fun g=>h7 (g▸getD_mem' hk)
   have:((jn srt).getD k 0∈(jc (jn srt) ch).map ((jn srt).getD · 0))↔ch.testBit k=true:=by
    constructor
    .intro g
     show jE (jo.mp g) fun j hj ej=> ?_
     obtain⟨j1,j2⟩:=qu.mp hj
     rw[<-getD_inj (zK srt) j1 hk ej];exact j2
    .intro g
     exact jo.mpr ⟨k,qu.mpr ⟨hk,g⟩,rfl⟩
   rw[jMx hp,Bool.true_and,show ((jn srt).getD k 0==7)=false from jNn.mpr n7,Bool.or_false]
   rw[jN0,jNk];exact this
  rw[<-key a,<-key b,e]
 .have hpow:∀c,c<2 ^ (jn srt).length->c.testBit k=false:=fun c hc=>jOg (jNc hc (jOq kD (Nat.le_of_not_lt hk)))
  rw[hpow a la,hpow b lb]
theorem jHi{a b c:Nat}(ha:a<4096)(hb:b<4096)(hc:c<4096):eb (xI a b c) where
 le:=fun p=>by
  unfold xI
  cases a.testBit p <;> cases b.testBit p <;> cases c.testBit p <;> decide
 out:=fun p hp=>by
  have h:∀x,x<4096->x.testBit p=false:=fun x hx=>jOg (jNc hx (jOq (by decide:2 > 0) hp:2 ^ 12<=2 ^ p))
  unfold xI
  rw[h a ha,h b hb,h c hc];rfl
theorem jA7{a b c:Nat}(ha:a<4096)(hb:b<4096)(hc:c<4096):wg (wh (xI a b c))=y7 a b c:=
 jAg ((jPo jGj (zx a b c)).mpr (jK8 (jHi ha hb hc) (xk a b c))) (jA8 a b c)
theorem jBs{m h:Nat}{t:List Nat}(hm:m∈h::t):qR m (h::t)=qR h t:=by
 show vk (yn ?_ fun x hx=> ?_) (yn (x9 jy) fun x hx=>x9 (qV _ hx))
 .rcases j0.mp hm with e0|g
  .rw[e0];exact qw _ _
  .exact x9 g
 .rcases j0.mp hx with e0|g
  .rw[e0];exact qw _ _
  .exact x9 g
noncomputable def mQ:List Nat->Nat
 |[]=>0
 |h::t=>qR h t
noncomputable def jb(F:List Nat)(m:Nat):List Nat:=F.reverse.filter fun x=>decide (x≠m)&&decide (mQ (xg F x)≠x)
end
section
variable{F:List Nat}{m:Nat}(R:Ring F m)
include R
theorem uv{x:Nat}(hx:x∈F)(hm:x≠m):m∈xg F x:=zw.mpr ⟨R.mm,fun e=>hm e.symm,R.least x hx⟩
theorem jGg{x:Nat}:x∈jb F m↔zq F m x:=by
 unfold jb
 rw[List.mem_filter,List.mem_reverse,jM2,jNk,jNk]
 constructor
 .rintro ⟨h1,h2,h3⟩
  show⟨h1,h2,?_⟩
  have:=uv R h1 h2
  generalize xg F x=l at this h3
  induction l using cL with
  |nil=>cases this
  |cons a t=>rw[jBs this];exact h3
 .rintro ⟨h1,h2,h3⟩
  show⟨h1,h2,?_⟩
  have:=uv R h1 h2
  generalize xg F x=l at this h3
  induction l using cL with
  |nil=>cases this
  |cons a t=>rw[jBs this] at h3;exact h3
end
theorem jDg{F:List Nat}(m:Nat)(h:F.Nodup):(jb F m).Nodup:=((List.reverse_perm F).nodup_iff.mpr h).filter _
theorem jFf{α:Type}{t s:α}{line:List α}(hn:line.Nodup)(h:[t,s].Sublist line):∀P Q,line=P++s::Q->t∈P:=by
 intro P Q e
 rw[e] at h hn
 show yz (List.sublist_append_iff.mp h) fun l1 l2 e1 k1 k2=> ?_
 have hs:s∉P:=fun g=>(jN1.mp hn).2.2 s g s jy rfl
 have hsQ:s∉Q:=(xw.mp (jN1.mp hn).2.1).1
 induction l1 using cL with
 |cons a r=>
  have:t=a:=(List.cons.inj e1).1
  exact this▸k1.subset jy
 |nil=>
  have e1:[t,s]=l2:=e1
  rw[<-e1] at k2
  exfalso
  cases k2 with
  |cons _ k=>exact hsQ (k.subset (qV _ jy))
  |cons_cons _ k=>exact hsQ (k.subset jy)
theorem jDl{α:Type}[DecidableEq α]{F:List Nat}{m:Nat}(R:Ring F m)(hF:F.Nodup){fm:Nat->α}{val:α->Nat}{lo:α->List α}{line:List α}
  (hv:∀x∈jb F m,val (fm x)=x) (eF:line.Nodup) (bu:∀z,z∈line↔z∈(jb F m).map fm)
  (jx:∀x∈jb F m,∀y∈jb F m,x≠y->Sub x y->[fm x,fm y].Sublist line)
  (hlo:∀a b,b∈lo a↔∃x∈jb F m,∃y∈jb F m,x≠y/\Sub x y/\fm x=b/\fm y=a):
  ((dz lo line).map fun C=>qR m (C.map val)).Perm F:=by
 have inj:∀x∈jb F m,∀y∈jb F m,fm x=fm y->x=y:=fun x hx y hy e=>by rw[<-hv x hx,<-hv y hy,e]
 show jMd R hF eF (fun P s Q e a ha=> ?_) (fun x=> ?_) (fun a ha b hb e=> ?_) fun a ha b=> ?_
 .obtain⟨x,hx,y,hy,je,hs,rfl,rfl⟩:=(hlo s a).mp ha
  exact jFf eF (jx x hx y hy je hs) P Q e
 .rw[<-jGg R]
  constructor
  .intro h
   exact⟨fm x,(bu _).mpr (jMs h),hv x h⟩
  .rintro ⟨a,ha,rfl⟩
   show jE (jo.mp ((bu a).mp ha)) ?_;rintro y hy rfl
   rw[hv y hy];exact hy
 .show jE (jo.mp ((bu a).mp ha)) ?_;rintro x hx rfl
  show jE (jo.mp ((bu b).mp hb)) ?_;rintro y hy rfl
  rw[hv x hx,hv y hy] at e
  rw[e]
 .rw[hlo]
  constructor
  .rintro ⟨x,hx,y,hy,je,hs,rfl,rfl⟩
   show⟨(bu _).mpr (jMs hx),fun e=>je (inj x hx y hy e),?_⟩
   rw[hv x hx,hv y hy];exact hs
  .rintro ⟨h1,h2,h3⟩
   show jE (jo.mp ((bu b).mp h1)) ?_;rintro x hx rfl
   show jE (jo.mp ((bu a).mp ha)) ?_;rintro y hy rfl
   rw[hv x hx,hv y hy] at h3
   exact⟨x,hx,y,hy,fun e=>h2 (e▸rfl),h3,rfl,rfl⟩
theorem jI6{F L:List Nat}(h:L.Perm F)(hs:F.Pairwise (·<=·)):wg L=F/\L.sum=F.sum:=⟨jAg h hs,h.sum_nat⟩
noncomputable def rC(b:Bool):Nat:=if b then 114 else 45
noncomputable def wC(b:Bool):Nat:=if b then 119 else 45
noncomputable def xC(s e:Bool):Nat:=if s then (if e then 115 else 83) else if e then 120 else 45
noncomputable def tC(s e:Bool):Nat:=if s then (if e then 116 else 84) else if e then 120 else 45
noncomputable def sY(b:Nat->Bool):Str:=⟨#[63,rC (b 8),wC (b 7),xC (b 11) (b 6),rC (b 5),wC (b 4),xC (b 10) (b 3),rC (b 2),wC (b 1),tC (b 9) (b 0)]⟩
noncomputable def fm(x:Nat):Str:=sY x.testBit
theorem dgs:∀d,d<8->∀s,s<2->chr "-r" ((d / 4:Nat):Int)=⟨#[rC (d.testBit 2)]⟩/\chr "-w" ((d / 2 % 2:Nat):Int)=⟨#[wC (d.testBit 1)]⟩/\chr "-xSs" ((d % 2+s * 2:Nat):Int)=⟨#[xC (s.testBit 0) (d.testBit 0)]⟩/\chr "-xTt" ((d % 2+s * 2:Nat):Int)=⟨#[tC (s.testBit 0) (d.testBit 0)]⟩:=by decide+kernel
noncomputable def bB(x i:Nat):Bool:=if i<9 then (x / 8 ^ (i / 3) % 2 ^ 3).testBit (i % 3) else if i<12 then (x / 512 / 2 ^ (i - 9) % 2 ^ 1).testBit 0 else x.testBit i
theorem bB_eq(x i:Nat):bB x i=x.testBit i:=by
 unfold bB
 by_cases h:i<9
 .rw[jMt h,jQ9,jMx (jP3 i kD),Bool.true_and,show (8:Nat)=2 ^ 3 from rfl,<-Nat.pow_mul,jRa,jO9,jP0]
 .rw[jMv h]
  by_cases h2:i<12
  .rw[jMt h2,jQ9,show (512:Nat)=2 ^ 9 from rfl,jRa,jRa,jPr,Nat.sub_add_cancel (jN9.mp h)]
   rfl
  .rw[jMv h2]
theorem lst(x k:Nat)(sg:Str):y4 (x:Int) k sg=sg++⟨#[rC ((x / 8 ^ k % 2 ^ 3).testBit 2)]⟩++⟨#[wC ((x / 8 ^ k % 2 ^ 3).testBit 1)]⟩++⟨#[if k=0 then tC ((x / 512 / 2 ^ k % 2 ^ 1).testBit 0) ((x / 8 ^ k % 2 ^ 3).testBit 0) else xC ((x / 512 / 2 ^ k % 2 ^ 1).testBit 0) ((x / 8 ^ k % 2 ^ 3).testBit 0)]⟩:=by
 have e1:yZ (x:Int) k=((x / 8 ^ k % 8:Nat):Int):=by unfold yZ;simp
 have e2:(x:Int) / 512 / 2 ^ k % 2=((x / 512 / 2 ^ k % 2:Nat):Int):=by simp
 unfold y4
 rw[e1,e2]
 have h:=dgs (x / 8 ^ k % 8) (jP3 _ kD) (x / 512 / 2 ^ k % 2) (jP3 _ kD)
 generalize x / 8 ^ k % 2 ^ 3=d at h ⊢
 generalize x / 512 / 2 ^ k % 2 ^ 1=t at h ⊢
 show(?_:sg++chr "-r" ((d / 4:Nat):Int)++chr "-w" ((d / 2 % 2:Nat):Int)++chr (if k=0 then "-xTt" else "-xSs") ((d % 2+t * 2:Nat):Int)=_)
 rw[h.1,h.2.1]
 by_cases h0:k=0
 .rw[jMt h0,jMt h0,h.2.2.2]
 .rw[jMv h0,jMv h0,h.2.2.1]
theorem jLd{x:Nat}(h:x<4096):vI (x:Int)=fm x:=by
 have h0:chr "?pc?d?b?-?l?s???" ((x:Int) / 4096 % 16)=⟨#[63]⟩:=by
  rw[show (x:Int) / 4096 % 16=((x / 4096 % 16:Nat):Int) from rfl,Nat.div_eq_of_lt h];decide+kernel
 unfold vI
 rw[h0,lst,lst,lst]
 exact jM8 sY (funext (bB_eq x))
theorem fm_len(x:Nat):(fm x).length=10:=rfl
theorem rY:∀b:Bool,(y5.lookup (⟨#[rC b]⟩:Str)).isSome=true:=by decide+kernel
theorem rX:∀b:Bool,(y5.lookup (⟨#[wC b]⟩:Str)).isSome=true:=by decide+kernel
theorem held_x:∀s e:Bool,(y5.lookup (⟨#[xC s e]⟩:Str)).isSome=true:=by decide+kernel
theorem held_t:∀s e:Bool,(y5.lookup (⟨#[tC s e]⟩:Str)).isSome=true:=by decide+kernel
theorem fm_held(x:Nat)(k:Nat)(hk:k<9):(y5.lookup (chr (fm x) (1+(k:Int)))).isSome=true:=by
 have h:∀k∈List.range 9,(y5.lookup (chr (fm x) (1+(k:Int)))).isSome=true:=jM6.mpr ⟨rY _,jM6.mpr ⟨rX _,jM6.mpr ⟨held_x _ _,jM6.mpr ⟨rY _,jM6.mpr ⟨rX _,jM6.mpr ⟨held_x _ _,jM6.mpr ⟨rY _,jM6.mpr ⟨rX _,jM6.mpr ⟨held_t _ _,fun _ h=>nomatch h⟩⟩⟩⟩⟩⟩⟩⟩⟩
 exact h k (yU.mpr hk)
noncomputable def imp(a c:Bool):Bool:= !a||c
theorem in_r:∀a c:Bool,Txt.contains (yO ⟨#[rC c]⟩) ⟨#[rC a]⟩=imp a c:=by decide+kernel
theorem in_w:∀a c:Bool,Txt.contains (yO ⟨#[wC c]⟩) ⟨#[wC a]⟩=imp a c:=by decide+kernel
theorem in_x:∀s e u f:Bool,Txt.contains (yO ⟨#[xC u f]⟩) ⟨#[xC s e]⟩=(imp s u&&imp e f):=by decide+kernel
theorem in_t:∀s e u f:Bool,Txt.contains (yO ⟨#[tC u f]⟩) ⟨#[tC s e]⟩=(imp s u&&imp e f):=by decide+kernel
theorem all_not{α:Type}{p:α->Bool}:∀l:List α,decide (l.filter (fun a=> !p a)=[])=l.all p:=by
 intro l
 induction l with
 |nil=>rfl
 |cons a l ih=>
  rw[List.filter_cons,jQj]
  cases p a with
  |true=>exact ih
  |false=>rfl
noncomputable abbrev bL:List Nat:=[8,7,11,6,5,4,10,3,2,1,9,0]
theorem jG7(b c:Nat->Bool):yY (sY b) (sY c)=bL.all fun i=>imp (b i) (c i):=by
 show(all_not (p:=fun k:Nat=>Txt.contains (yO (chr (sY c) (1+(k:Int)))) (chr (sY b) (1+(k:Int)))) (List.range 9)).trans ?_
 show(?_:(Txt.contains (yO ⟨#[rC (c 8)]⟩) ⟨#[rC (b 8)]⟩&&(Txt.contains (yO ⟨#[wC (c 7)]⟩) ⟨#[wC (b 7)]⟩&&(Txt.contains (yO ⟨#[xC (c 11) (c 6)]⟩) ⟨#[xC (b 11) (b 6)]⟩&&(Txt.contains (yO ⟨#[rC (c 5)]⟩) ⟨#[rC (b 5)]⟩&&(Txt.contains (yO ⟨#[wC (c 4)]⟩) ⟨#[wC (b 4)]⟩&&(Txt.contains (yO ⟨#[xC (c 10) (c 3)]⟩) ⟨#[xC (b 10) (b 3)]⟩&&(Txt.contains (yO ⟨#[rC (c 2)]⟩) ⟨#[rC (b 2)]⟩&&(Txt.contains (yO ⟨#[wC (c 1)]⟩) ⟨#[wC (b 1)]⟩&&(Txt.contains (yO ⟨#[tC (c 9) (c 0)]⟩) ⟨#[tC (b 9) (b 0)]⟩&&true)))))))))=_)
 simp only[in_r,in_w,in_x,in_t,Bool.and_assoc]
 rfl
theorem jHp{a c:Bool}:imp a c=true↔(a=true->c=true):=by cases a <;> cases c <;> decide
theorem in_bL:∀i,i<12->i∈bL:=by decide
theorem jKe{x y:Nat}(hx:x<4096):Sub x y↔∀i∈bL,imp (x.testBit i) (y.testBit i)=true:=by
 constructor
 .intro h i _
  rw[jHp,<-show x|||y=y from h,jQu]
  exact fun g=>by rw[g];rfl
 .intro h
  show jOd fun i=> ?_
  rw[jQu]
  by_cases hi:i<12
  .have:=jHp.mp (h i (in_bL i hi))
   cases g:x.testBit i with
   |false=>rfl
   |true=>rw[this g];rfl
  .rw[jOg (jNc hx (jOq (by decide:2 > 0) (jN9.mp hi):2 ^ 12<=2 ^ i)),Bool.false_or]
theorem ye{x y:Nat}(hx:x<4096):yY (fm x) (fm y)=true↔Sub x y:=by
 unfold fm
 rw[jG7,jNe,jKe hx]
theorem uc{x y:Nat}(hx:x<4096)(hy:y<4096)(e:fm x=fm y):x=y:=
 vk ((ye hx).mp (by rw[e];exact(ye hy).mpr (ug y))) ((ye hy).mp (by rw[<-e];exact(ye hx).mpr (ug x)))
theorem jMg{glob:xQ}{n:Nat}(x y:Nat):(zH jH (ev jH glob (n+20)) "_law_below" [.str (fm x),.str (fm y)]).bind qB=some (.bool (yY (fm x) (fm y))):=
 jJ2 (fm_len x) (fm_len y) (fm_held y)
noncomputable def nD(k:Nat):D:= .int (k:Int)
noncomputable def jf(l:List Nat):D:= .list (l.map nD)
noncomputable def zs(l:List Nat):List Int:=l.map fun k:Nat=>(k:Int)
theorem fL(l:List Nat):l.map nD=(zs l).map .int:=by unfold zs;rw[List.map_map];rfl
theorem yk:jZ nD 0:=jK2
theorem d6:jZ jf 1:=yk.list
theorem ints_ns(l:List Nat):ints? (l.map nD)=some (zs l):=by rw[fL,ints_map]
theorem zs_sum(l:List Nat):(zs l).sum=((l.sum:Nat):Int):=by
 induction l with
 |nil=>rfl
 |cons a l ih=>
  show(?_:(a:Int)+(zs l).sum=_)
  rw[ih,jQi];simp
theorem rN(l:List Nat):jr "sum" [jf l]=some (nD l.sum):=by
 show(?_:jr "sum" [.list (l.map nD)]=_)
 rw[fL,sum_ints,zs_sum];rfl
theorem jHa{l m:List Nat}(h:l.Perm m):(zs l).Perm (zs m):=h.map _
theorem zs_rise{l:List Nat}(h:l.Pairwise (·<=·)):(zs l).Pairwise (·<=·):=jPa.mpr (h.imp fun g=>by lia)
theorem jD2{l m:List Nat}(h:(zs l).Perm (zs m))(hr:l.Pairwise (·<=·)):sortI (zs m)=zs l:=(um h (zs_rise hr)).symm
theorem jCu{l:List Nat}(h:l.length<64):jr "sorted" [jf l]=some (jf (wg l)):=by
 show(?_:zI (l.map nD)=_)
 unfold zI
 rw[jMt (by rw[jMu];exact h),ints_ns]
 show(?_:some (D.list ((sortI (zs l)).map .int))=_)
 rw[jD2 (jHa (x7 l)) (ya l),<-fL]
 rfl
theorem jIz(σ:List Nat)(k:Nat):t9 (zs σ) (k:Int)=zs (if k∈σ then σ else σ++[k]):=by
 unfold t9
 by_cases h:k∈σ
 .rw[jMt h,jMt]
  exact jOp.mpr ⟨(k:Int),jMs (f:=fun k:Nat=>(k:Int)) h,by simp⟩
 .rw[jMv h,jMv]
  .unfold zs;rw[List.map_append];rfl
  .intro g
   show jE (jOp.mp g) fun x hx e=> ?_
   show jE (jo.mp hx) ?_;rintro j hj rfl
   have:j=k:=Int.ofNat.inj (jNs.mp e)
   exact h (this▸hj)
noncomputable def cg(l:List Nat):List Nat:=l.foldl (fun σ k=>if k∈σ then σ else σ++[k]) []
theorem kK(l:List Nat):wu (zs l)=zs (cg l):=by
 unfold wu cg
 have:∀(l σ:List Nat),(zs l).foldl t9 (zs σ)=zs (l.foldl (fun σ k=>if k∈σ then σ else σ++[k]) σ):=by
  intro l
  induction l with
  |nil=>intro σ;rfl
  |cons a l ih=>
   intro σ
   show(?_:(zs l).foldl t9 (t9 (zs σ) (a:Int))=_)
   rw[jIz,ih];rfl
 exact this l []
theorem metN_go(l:List Nat):∀σ:List Nat,σ.Nodup->(l.foldl (fun σ k=>if k∈σ then σ else σ++[k]) σ).Nodup/\∀x,x∈l.foldl (fun σ k=>if k∈σ then σ else σ++[k]) σ↔x∈σ\/x∈l:=by
 induction l with
 |nil=>intro σ h;exact⟨h,fun x=>by simp⟩
 |cons a l ih=>
  intro σ h
  rw[List.foldl_cons]
  by_cases c:a∈σ
  .rw[jMt c]
   show⟨(ih σ h).1,fun x=>((ih σ h).2 x).trans ?_⟩
   rw[jPy]
   exact⟨fun g=>g.elim .inl fun g=> .inr (.inr g),fun g=>g.elim .inl fun g=>g.elim (fun e=> .inl (e▸c)) .inr⟩
  .rw[jMv c]
   have h2:(σ++[a]).Nodup:=jN1.mpr ⟨h,xw.mpr ⟨jRe,jO3⟩,fun x hx y hy e=>c (by rw[jw.mp hy] at e;exact e▸hx)⟩
   show⟨(ih _ h2).1,fun x=>((ih _ h2).2 x).trans ?_⟩
   rw[List.mem_append,jw,jPy,or_assoc]
theorem kJ(l:List Nat):(cg l).Perm (uniq l):=by
 obtain⟨h1,h2⟩:=metN_go l [] jO3
 show(jPo h1 (jBo l)).mpr fun x=>(h2 x).trans ?_
 rw[z5];simp
theorem jIg(l:List Nat):sortI (wu (zs l))=zs (ka l):=by
 rw[kK]
 exact jD2 (jHa ((x7 _).trans (kJ l).symm)) (ya _)
theorem jK6(l:List Nat):(wu (zs l)).length=(ka l).length:=by
 rw[kK,zs,jMu,(kJ l).length_eq]
 exact(x7 _).length_eq.symm
theorem jK5{l:List Nat}{x:Int}(h:x∈wu (zs l)):∃k∈l,x=(k:Int):=by
 rw[kK] at h
 show jE (jo.mp h) ?_;rintro k hk rfl
 exact⟨k,(z5 l).mp ((kJ l).mem_iff.mp hk),rfl⟩
theorem or_nat{x y:Int}(hx:0<=x)(hy:0<=y):Builtin.bitOr x y=((x.toNat|||y.toNat:Nat):Int):=by
 have h1:decide (0<=Builtin.bitNot x)=false:=by unfold Builtin.bitNot;rw[jQ7];lia
 have h2:decide (0<=Builtin.bitNot y)=false:=by unfold Builtin.bitNot;rw[jQ7];lia
 unfold Builtin.bitOr Builtin.bitAnd
 rw[h1,h2]
 show(?_:Builtin.bitNot (Builtin.bitNot ((Builtin.bitNot (Builtin.bitNot x)).toNat|||(Builtin.bitNot (Builtin.bitNot y)).toNat:Nat))=_)
 have e:∀z:Int,Builtin.bitNot (Builtin.bitNot z)=z:=fun z=>by unfold Builtin.bitNot;simp+arith only
 rw[e,e,e]
theorem gV(a b:Nat):vQ .BitOr (nD a) (nD b)=some (nD (a|||b)):=by
 show(?_:some (D.int (Builtin.bitOr (a:Int) (b:Int)))=_)
 rw[or_nat (jOb a) (jOb b)];rfl
theorem uz(a b:Nat):vQ .BitAnd (nD a) (nD b)=some (nD (a&&& b)):=by
 show(?_:some (D.int (Builtin.bitAnd (a:Int) (b:Int)))=_)
 have h1:Builtin.bitAnd (a:Int) (b:Int)=((a&&& b:Nat):Int):=by
  unfold Builtin.bitAnd
  rw[jMx (jOb a),jMx (jOb b)]
  rfl
 rw[h1];rfl
theorem jEr(x i:Nat):vP (x:Int) i=x.testBit i:=by
 unfold vP
 rw[jOh]
 have e:(x:Int) / 2 ^ i % 2=((x / 2 ^ i % 2:Nat):Int):=by simp
 rw[e,jN0,jNk,jNk]
 lia
theorem jKp(i:Nat):((2:Int) ^ i)=((2 ^ i:Nat):Int):=by simp
theorem dU{i:Nat}(h:i<=29):vQ .Pow (.int 2) (nD i)=some (nD (2 ^ i)):=by
 show(uo h).trans ?_
 rw[jKp];rfl
theorem ue(a b:List Nat)(h:a.length+b.length<=1000):vQ .Add (jf a) (jf b)=some (jf (a++b)):=by
 have jh:lim=1000000:=rfl
 show(add_lists (by simp;exact j6)).trans ?_
 unfold jf;rw[List.map_append]
theorem wI{l:List Nat}{i:Nat}(h:i<l.length)(hl:l.length<=1000):vY (jf l) (nD i)=some (nD (l.getD i 0)):=by
 have jh:lim=1000000:=rfl
 exact qg (getD_map h) (by simp;exact j6)
noncomputable def fx:Fn:=fnAt Challenge.pw_oy0159_02 "law"
noncomputable abbrev xG:Scope:=fx.scope
noncomputable abbrev qc(i:Nat):Stmt:=qI fx.body i
noncomputable def compOf(s:Stmt):Expr:=(binL? (rE (bG (bZ s)) 0)).getD (bZ s)
noncomputable def sP(e:Expr):Expr:=rE (bG (lr e)) 0
noncomputable def mD(e:Expr):Comprehension:=by
 induction e using cE with
 |ListComp _ g _ _=>exact g.headD ⟨fZ,fZ,[],0⟩
 |_=>exact⟨fZ,fZ,[],0⟩
noncomputable def fF(e:Expr):Scope:=by
 induction e using cE with
 |ListComp _ _ sc _=>exact sc
 |_=>exact⟨.function,[],false,false,[]⟩
noncomputable def oX(xs:List Int)(lo hi st:Option Int):List Int:=(sliceRange (sliceBounds lo hi st xs.length).1 (sliceBounds lo hi st xs.length).2.1 (sliceBounds lo hi st xs.length).2.2).filterMap (xs[·]?)
theorem jKs(xs:List Int)(lo hi st:Option Int):pick (xs.map .int) lo hi st=(oX xs lo hi st).map .int:=by
 unfold pick oX
 rw[jMu,List.map_filterMap]
 congr 1
 funext i
 rw[jN2]
noncomputable def tY:List Int:=[100292,84724,43100,15]
noncomputable def numP(ns:List Int)(k:Nat):Int:=((oX (ns.take 60) (some (k:Int)) none (some 4)).sum+tY.getD k 0) % 2097152
noncomputable def oY(ns:List Int):List Int:=(List.range 4).map (numP ns)
noncomputable def gK(xs:List Int)(k:Nat):Int:=xs.getD k 0 % 131072 - 65536
noncomputable abbrev vN(xs:List Int):List Int:=(List.range 3).map (gK xs)
noncomputable abbrev uS(xs:List Int)(k:Nat):List Str:=zi k (vP (xs.getD 3 0) k)
noncomputable abbrev fH(xs:List Int):List (List Str):=[uS xs 0,uS xs 1,uS xs 2,uS xs 3]
section
variable{fns:List (Str×Fn)}{glob:xQ}{n:Nat}{l:jN}
theorem jMo{k:Bool}{sc:Scope}{lp:Loc}{a e1 e3:Expr}{p p1:Pos}{ds:List D}{i j:Int}(h1:(ev fns glob n).E k sc lp a=some (.list ds))(h2:(ev fns glob n).E k sc lp e1=some (.int i))(h3:(ev fns glob n).E k sc lp e3=some (.int j))(hj:j≠0)(hl:ds.length<=lim):
  (ev fns glob (n+1)).E k sc lp (.Subscript a (.Slice (some e1) none (some e3) p1) p)=some (.list (pick ds (some i) none (some j))):=by
 show(wM h1 (yD h2) rfl (yD h3)).trans ?_
 show(?_:(if (some j:Option Int)≠some 0/\ds.length<=lim then some (D.list (pick ds (some i) none (some j))) else none)=_)
 rw[jMt ⟨by simpa using hj,hl⟩]
theorem stm0{ns:List Int}(h:l "script"=some (.val (.list (ns.map .int))))(hl:ns.length<=1000):(ev [] glob (n+20)).S true xG l (qc 0)=some (.next,jA l "taken" (.val (.list ((ns.take 60).map .int)))):=by
 have jh:lim=1000000:=rfl
 show jS ?_ kR kR
 show(E_to (i:=60) (ds:=ns.map .int) (jC kR kR (jD h)) kR (by simp;exact j6)).trans ?_
 rw[List.map_take]
theorem vL:(ev [] glob (n+20)).S true xG l (qc 1)=some (.next,jA l "own" (.val (.list (tY.map .int)))):=
 jS kR kR kR
theorem ei{ns:List Int}(h:l "taken"=some (.val (.list ((ns.take 60).map .int))))(h2:l "own"=some (.val (.list (tY.map .int)))):(ev [] glob (n+20)).S true xG l (qc 2)=some (.next,jA l "numbers" (.val (.list ((oY ns).map .int)))):=by
 have jh:lim=1000000:=rfl
 have ht:(ns.take 60).length<=60:=by rw[List.length_take];lia
 show(?_:(ev [] glob (n+20)).S true xG l (.Assign [_] (.ListComp (.BinOp (.BinOp (.Call (.Name _ _) [.Subscript _ _ _] [] _) _ (.Subscript _ _ _) _) _ _ _) _ _ _) _)=_)
 show jS ((yi (fun k:Nat=> .int (k:Int)) (fun k=> .int (numP ns k)) (List.range 4) kR kR kR ?_ (by simp;decide)).trans ?_) kR kR
 .intro k hk
  have hk:=yU.mp hk
  show jW (x:= .int ((oX (ns.take 60) (some (k:Int)) none (some 4)).sum+tY.getD k 0)) (y:= .int 2097152) (jW (x:= .int (oX (ns.take 60) (some (k:Int)) none (some 4)).sum) (y:= .int (tY.getD k 0)) (jm (x:= .list ((oX (ns.take 60) (some (k:Int)) none (some 4)).map .int)) kR kR kD kD kR kR ((jMo (i:=(k:Int)) (j:=4) (ds:=(ns.take 60).map .int) (jC kR kR ?_) kR kR kD (by simp;lia)).trans ?_) (sum_ints _)) (j5 kR (x:= .list (tY.map .int)) (y:= .int (k:Int)) (jC kR kR ?_) kR (qg ?_ kD)) kR) kR (mod_val kD)
  .exact(jR kR kD).trans (jD h)
  .rw[jKs]
  .exact(jR kR kD).trans (jD h2)
  .exact getD_map (f:=D.int) (d:=0) hk
 .unfold oY
  rw[jOz];rfl
theorem jIu(ns:List Int):(oY ns).length=4:=by simp[oY]
theorem gv(xs:List Int)(k:Nat):(gK xs k).natAbs<10 ^ 9:=by
 have:(10:Nat) ^ 9=1000000000:=by decide
 unfold gK;lia
variable{xs:List Int}
theorem take3(hx:xs.length=4):xs.take 3=(List.range 3).map fun k=>xs.getD k 0:=by
 show List.ext_getElem (by rw[List.length_take,hx,jMu,jP7];rfl) fun i h1 h2=> ?_
 rw[List.getElem_take,List.getElem_map,List.getElem_range,jNa,jM9];rfl
theorem st4(hx:xs.length=4)(h2:l "numbers"=some (.val (.list (xs.map .int)))):(ev jH jK (n+30)).S true xG l (qc 4)=some (.next,jA l "modes" (.val (.list ((vN xs).map .int)))):=by
 have jh:lim=1000000:=rfl
 show(?_:(ev jH jK (n+30)).S true xG l (.Assign [_] (.ListComp (.BinOp (.BinOp _ _ _ _) _ _ _) _ _ _) _)=_)
 have hit:((ev jH jK (n+28)).E true xG (j3 l) (mD (bZ (qc 4))).iter).bind ji=some ((xs.take 3).map .int):=by
  show oC ((E_to (i:=3) (ds:=xs.map .int) (jC kR kR (jD h2)) kR (by simp;lia)).trans ?_)
  rw[List.map_take]
 show jS ((yi .int (fun x:Int=> .int (x % 131072 - 65536)) (xs.take 3) hit kR kR ?_ (by simp;lia)).trans ?_) kR kR
 .intro k hk
  exact jW (x:= .int (k % 131072)) (y:= .int 65536) (jW (x:= .int k) (y:= .int 131072) kR kR (mod_val kD)) kR kR
 .unfold vN
  rw[take3 hx,jOz]
  rfl
theorem st5:(ev jH jK (n+30)).S true xG l (qc 5)=some (.next,jA l "odd" (.val (.list (t7.map jJ)))):=
 jS kR kR kR
theorem E_num{m k:Nat}{lp:Loc}{sc:Scope}{a b:Expr}{p:Pos}{kk:Bool}(hb:isSlice b=false)(hn:(ev jH jK m).E kk sc lp a=some (.list (xs.map .int)))(hk:(ev jH jK m).E kk sc lp b=some (.int (k:Int)))(hx:xs.length=4)(hk6:k<4):(ev jH jK (m+1)).E kk sc lp (.Subscript a b p)=some (.int (xs.getD k 0)):=by
 have jh:lim=1000000:=rfl
 exact j5 hb hn hk (qg (getD_map (f:=D.int) (d:=0) (by lia)) (by simp;lia))
theorem st6(hx:xs.length=4)(h2:l "numbers"=some (.val (.list (xs.map .int))))(h3:l "odd"=some (.val (.list (t7.map jJ)))):(ev jH jK (n+30)).S true xG l (qc 6)=some (.next,jA l "spoiled" (.val (.list ((fH xs).map jJ)))):=by
 have jh:lim=1000000:=rfl
 show(?_:(ev jH jK (n+30)).S true xG l (.Assign [_] (.ListComp (.IfExp _ _ _ _) _ _ _) _)=_)
 show jS ((yi (fun k:Nat=> .int (k:Int)) (fun k=>jJ (uS xs k)) (List.range 4) kR kR kR ?_ (by simp;decide)).trans ?_) kR kR
 .intro k hk
  have hk:=yU.mp hk
  show jH0 (c:=vP (xs.getD 3 0) k) (m6 (E_num (k:=3) kR (jC kR kR ((jR kR kD).trans (jD h2))) kR hx kD) kR (c5 zA zD)) ?_
  unfold uS zi
  cases vP (xs.getD 3 0) k with
  |false=>kernel_rfl
  |true=>exact j5 kR (x:= .list (t7.map jJ)) (y:= .int (k:Int)) (jC kR kR ((jR kR kD).trans (jD h3))) kR (qg (getD_map hk) kD)
 .rfl
noncomputable abbrev c8(xs:List Int):List Str:=nX (vP (xs.getD 3 0) 0) (vP (xs.getD 3 0) 1) (vP (xs.getD 3 0) 2) (vP (xs.getD 3 0) 3)
noncomputable abbrev vG(xs:List Int):D:= .tup [.dictS (fS (gK xs 0) (gK xs 1) (gK xs 2)),.list [],.list ((c8 xs).map .str)]
noncomputable abbrev tF(xs:List Int):List Str:=tE (gK xs 0) (gK xs 1) (gK xs 2) (uS xs 0) (uS xs 1) (uS xs 2) (uS xs 3)
noncomputable def talkE(s:Stmt):Expr:=rE (bG (bZ s)) 1
theorem st7e(h1:l "names"=some (.val (jJ uT)))(h2:l "modes"=some (.val (.list ((vN xs).map .int))))(h3:l "spoiled"=some (.val (.list ((fH xs).map jJ)))):(ev jH jK (n+30)).E true xG (j3 l) (talkE (qc 7))=some (jJ (tF xs)):=by
 have o:∀k b,k<4->(zi k b).length<=100:=fun k b h=>by have:=zY k b h;exact j6
 show E_call3 (x:=jJ uT) (y:= .list ((vN xs).map .int)) (z:= .list ((fH xs).map jJ)) kR kR kD kD kR kR kR kR (jC kR kR (jD h1)) (jC kR kR (jD h2)) (jC kR kR (jD h3)) ?_
 exact jKc (n:=n+4) (gv xs 0) (gv xs 1) (gv xs 2) (o _ _ kD) (o _ _ kD) (o _ _ kD) (o _ _ kD)
theorem st8(h3:l "spoiled"=some (.val (.list ((fH xs).map jJ)))):(ev jH jK (n+30)).S true xG l (qc 8)=some (.next,jA l "refused" (.val (jJ (c8 xs)))):=by
 have jh:lim=1000000:=rfl
 have o:∀k,k<4->(uS xs k).length<=2:=fun k hk=>zY k (vP (xs.getD 3 0) k) hk
 have o0:=o 0 kD
 have o1:=o 1 kD
 have o2:=o 2 kD
 have o3:=o 3 kD
 show(?_:(ev jH jK (n+30)).S true xG l (.Assign [_] (.BinOp _ _ (.ListComp _ _ _ _) _) _)=_)
 have e:([3,0,1,2].flatMap fun q:Nat=>if true then ((uS xs q).filter fun _=>true).map D.str else [])=(uS xs 3++uS xs 0++uS xs 1++uS xs 2).map .str:=by
  simp[List.filter_eq_self.mpr]
 show jS (jW (x:=jJ ["no 226 all told"]) (y:=jJ (uS xs 3++uS xs 0++uS xs 1++uS xs 2)) kR ((comp2 (fun k:Nat=> .int (k:Int)) (fun _=>true) (fun k=>uS xs k) .str (fun _ _=>true) (fun _ p=> .str p) [3,0,1,2] kR kR kR (fun q hq=>by kernel_rfl) (fun q hq=>by kernel_rfl) (fun q hq _=> ?_) (fun q hq _ p hp=>by kernel_rfl) (fun q hq _ p hp _=>by kernel_rfl) ?_).trans ?_) ?_) kR kR
 .have hq4:q<4:=by
   simp only[List.mem_cons,List.not_mem_nil,or_false] at hq
   lia
  show oC (j5 kR (x:= .list ((fH xs).map jJ)) (y:= .int (q:Int)) (jC kR kR ((jR kR kD).trans (jD h3))) kR (qg (d:=jJ (uS xs q)) ?_ (by simp;decide)))
  exact lt4 (P:=fun q=>((fH xs).map jJ)[q]? =some (jJ (uS xs q))) rfl rfl rfl rfl q hq4
 .rw[e];simp;lia
 .rw[e];rfl
 .show(add_lists (by simp;lia)).trans ?_
  rw[<-jNr]
  show(?_:some (jJ _)=_)
  congr 2
theorem jZ.pm:jZ pm 1 where
 like:=fun a b=>by simp only[lkT,lkC,lkI,lkS,lkN,Bool.and_true]
 beq:=fun a b=>by
  simp only[bqT,bqC,bqI,bqS,bqN,Bool.and_true]
  rw[jN0];simp
 dep:=fun a=>by simp[lY,dpC,dpI,dpS,dpN]
theorem jH8{a:xQ}{ms:List Int}{xs:List Str}(h:a.map (·.2)=ms.map _m.pm):gA .NotEq (.tup [.dictS a,.list [],.list (xs.map .str)]) (.tup [.dictS a,.list [],.list (xs.map .str)])=some false:=by
 show(?_:(if (D.like (.tup [.dictS a,.list [],.list (xs.map .str)]) (.tup [.dictS a,.list [],.list (xs.map .str)])&&decide (D.dep (.tup [.dictS a,.list [],.list (xs.map .str)])<=20))=true then some (!D.beq (.tup [.dictS a,.list [],.list (xs.map .str)]) (.tup [.dictS a,.list [],.list (xs.map .str)])) else u9 (.tup [.dictS a,.list [],.list (xs.map .str)]) (.tup [.dictS a,.list [],.list (xs.map .str)]))=_)
 have e:D.like (.tup [.dictS a,.list [],.list (xs.map .str)]) (.tup [.dictS a,.list [],.list (xs.map .str)])=false:=rfl
 rw[e]
 show(?_:(if a.map (·.1)=a.map (·.1)/\D.likes (a.map (·.2)) (a.map (·.2))=true/\D.like (.list []) (.list [])=true/\D.like (.list (xs.map .str)) (.list (xs.map .str))=true/\D.deps (a.map (·.2))<=20/\D.dep (.list [])<=20/\D.dep (.list (xs.map .str))<=20/\D.beqs (a.map (·.2)) (a.map (·.2))=true/\D.beq (.list []) (.list [])=true/\D.beq (.list (xs.map .str)) (.list (xs.map .str))=true then some false else none)=_)
 rw[jMt]
 have f:=jZ.pm
 have g:=jZ.strs
 rw[h]
 show⟨rfl,f.likes _ _,rfl,g.like xs xs,x8 (f.deps _) kD,jOl rfl,x8 (g.dep xs) kD,by rw[f.beqs];simp,rfl,?_⟩
 exact(g.beq xs xs).trans (by simp)
variable{k:Bool}{sc:Scope}{lp:Loc}{a b c:Expr}{x y z:D}{m kd:Nat}{p:Pos}
theorem E_tup3(hs:PySem.W.isStarred a=false)(wD:PySem.W.isStarred b=false)(fy:PySem.W.isStarred c=false)(h:(ev fns glob m).E k sc lp a=some x)(h':(ev fns glob m).E k sc lp b=some y)(pQ:(ev fns glob m).E k sc lp c=some z):(ev fns glob (m+1)).E k sc lp (.Tuple [a,b,c] kd p)=some (.tup [x,y,z]):=by
 show(?_:(zh (ev fns glob m) k sc lp [a,b,c]).bind (fun ds=>if ds.length<=lim then some (D.tup ds) else none)=_)
 rw[tc hs,tc wD,tc fy]
 show(?_:(((ev fns glob m).E k sc lp a).bind fun d=>(((ev fns glob m).E k sc lp b).bind fun d=>(((ev fns glob m).E k sc lp c).bind fun d=>(zh (ev fns glob m) k sc lp []).bind fun ds=>some (d::ds)).bind fun ds=>some (d::ds)).bind fun ds=>some (d::ds)).bind (fun ds=>if ds.length<=lim then some (D.tup ds) else none)=_)
 rw[h,h',pQ];rfl
theorem E_tup2(hs:PySem.W.isStarred a=false)(wD:PySem.W.isStarred b=false)(h:(ev fns glob m).E k sc lp a=some x)(h':(ev fns glob m).E k sc lp b=some y):(ev fns glob (m+1)).E k sc lp (.Tuple [a,b] kd p)=some (.tup [x,y]):=by
 show(?_:(zh (ev fns glob m) k sc lp [a,b]).bind (fun ds=>if ds.length<=lim then some (D.tup ds) else none)=_)
 rw[tc hs,tc wD]
 show(?_:(((ev fns glob m).E k sc lp a).bind fun d=>(((ev fns glob m).E k sc lp b).bind fun d=>(zh (ev fns glob m) k sc lp []).bind fun ds=>some (d::ds)).bind fun ds=>some (d::ds)).bind (fun ds=>if ds.length<=lim then some (D.tup ds) else none)=_)
 rw[h,h'];rfl
noncomputable def yt(xs:List Int)(k:Nat):Nat:=(gK xs k % 4096).toNat
theorem wG(xs:List Int)(k:Nat):(yt xs k:Int)=gK xs k % 4096:=by unfold yt;lia
theorem yV(xs:List Int)(k:Nat):yt xs k<4096:=by unfold yt;lia
theorem book_ms(xs:List Int):(fS (gK xs 0) (gK xs 1) (gK xs 2)).map (·.2)=(vN xs).map _m.pm:=rfl
theorem st9(h1:l "names"=some (.val (jJ uT)))(h2:l "modes"=some (.val (.list ((vN xs).map .int))))(h3:l "refused"=some (.val (jJ (c8 xs))))(h4:l "told"=some (.val (vG xs))):(ev jH jK (n+30)).S true xG l (qc 9)=some (.next,l):=by
 have jh:lim=1000000:=rfl
 show(?_:(ev jH jK (n+30)).S true xG l (.If (.Compare _ [_] [.Tuple [.DictComp _ (.Tuple [_,.Subscript _ _ _] _ _) _ _ _,_,_] _ _] _) _ [] _)=_)
 show(xy (c:=false) (j7 kR (x:=vG xs) (y:=vG xs) (jC kR kR (jP h4)) (E_tup3 kR kR kR ((dc_eq (its:=(List.range 3).map fun k:Nat=> .int (k:Int)) kR kR).trans (jM8 (fun o=>nC o _) (jHu (f:=D.asStr?) (kd:=fun k:Nat=> .str (uT.getD k "")) (ek:=fun k=>uT.getD k "") (e:=fun k=>_m.pm (gK xs k)) (xs:=List.range 3) (fun _=>rfl) kD kR ?_ ?_ (by simp;decide)))) kR (jC kR kR (jP h3))) (jH8 (book_ms xs)))).trans jV
 .intro k hk
  have hk:=yU.mp hk
  exact j5 kR (x:=jJ uT) (y:= .int (k:Int)) (jC kR kR ((jR kR kD).trans (jP h1))) kR (qg (getD_map hk) kD)
 .intro k hk
  have hk:=yU.mp hk
  show E_tup2 kR kR kR (j5 kR (x:= .list ((vN xs).map .int)) (y:= .int (k:Int)) (jC kR kR ((jR kR kD).trans (jP h2))) kR (qg ?_ (by simp[vN];decide)))
  rw[jOz,jN2,jR5 hk];rfl
noncomputable def zr(xs:List Int):List (Str×Int):=[("\"a\"",gK xs 0),("",gK xs 1),("z\"",gK xs 2)]
theorem jFt(xs:List Int):∀q∈zr xs,(fS (gK xs 0) (gK xs 1) (gK xs 2)).lookup q.1=some (_m.pm q.2):=by
 intro q hq
 simp only[zr,List.mem_cons,List.not_mem_nil,or_false] at hq
 rcases hq with rfl|rfl|rfl <;> rfl
theorem E_mode{kk:Bool}{p1 p2 p3 p4 p5 p6 p7:Pos}{q:Str×Int}(hq:q∈zr xs)(v1:isVar (sc.names.lookup ("told":Str))=true)(v2:isVar (sc.names.lookup ("name":Str))=true)(h1:lp "told"=some (vG xs))(h2:lp "name"=some (.str q.1)):
  (ev jH jK (m+4)).E kk sc lp (.Subscript (.Subscript (.Subscript (.Name "told" p1) (.Constant (.int 0) 0 p2) p3) (.Name "name" p4) p5) (.Constant (.int 1) 0 p6) p7)=some (.int q.2):=by
 show j5 (by rfl) (x:=_m.pm q.2) (y:= .int 1) (j5 (by rfl) (x:= .dictS (fS (gK xs 0) (gK xs 1) (gK xs 2))) (y:= .str q.1) (j5 (by rfl) (x:=vG xs) (y:= .int 0) (jC kD v1 h1) (by rfl) (by rfl)) (jC kD v2 h2) ?_) (by rfl) (by rfl)
 exact jFt xs q hq
theorem st10(h1:l "names"=some (.val (jJ uT)))(h2:l "modes"=some (.val (.list ((vN xs).map .int))))(h4:l "told"=some (.val (vG xs))):(ev jH jK (n+30)).S true xG l (qc 10)=some (.next,l):=by
 have jh:lim=1000000:=rfl
 show(?_:(ev jH jK (n+30)).S true xG l (.If (.Compare (.ListComp (.Call (.Name _ _) [.Subscript (.Subscript (.Subscript _ _ _) _ _) _ _] [] _) _ _ _) [_] [.ListComp (.Call (.Name _ _) [_] [] _) _ _ _] _) _ [] _)=_)
 show(xy (c:=false) ((j7 kR (x:=jJ ((vN xs).map vI)) (y:=jJ ((vN xs).map vI)) ((yi (fun q:Str×Int=> .str q.1) (fun q=> .str (fM q.2)) (zr xs) (oC (jC kR kR (jP h1))) kR kR ?_ (by simp[zr];decide)).trans ?_) ((yi .int (fun m=> .str (vI m)) (vN xs) (oC (jC kR kR (jP h2))) kR kR ?_ (by simp[vN];decide)).trans ?_) (jZ.strs.ne kD _ _)).trans (by simp))).trans jV
 .intro q hq
  exact wN kR kR kD kD kR kR (E_mode hq kR kR ((jR kR kD).trans (jP h4)) kR) (jEb q.2)
 .rw[show (fun q:Str×Int=>D.str (fM q.2))=fun q=>D.str (vI q.2) from funext fun q=>by rw[jAo]]
  rfl
 .intro m hm
  exact wN kR kR kD kD kR kR kR (jLc m)
 .rw[jJ,jOz];rfl
theorem st11(h1:l "names"=some (.val (jJ uT)))(h4:l "told"=some (.val (vG xs))):(ev jH jK (n+30)).S true xG l (qc 11)=some (.next,jA l "rights" (.val (jf [yt xs 0,yt xs 1,yt xs 2]))):=by
 have jh:lim=1000000:=rfl
 show(?_:(ev jH jK (n+30)).S true xG l (.Assign [_] (.ListComp (.Call (.Name _ _) [.Subscript (.Subscript (.Subscript _ _ _) _ _) _ _] [] _) _ _ _) _)=_)
 show jS ((yi (fun q:Str×Int=> .str q.1) (fun q=> .int (Builtin.bitAnd q.2 4095)) (zr xs) (oC (jC kR kR (jD h1))) kR kR ?_ (by simp[zr];decide)).trans ?_) kR kR
 .intro q hq
  show wN (x:= .int q.2) kR kR kD kD kR kR ?_ kR
  show E_mode (xs:=xs) hq kR kR ?_ ?_
  .exact(jR kR kD).trans (jD h4)
  .kernel_rfl
 .show(?_:some (D.list [.int (Builtin.bitAnd (gK xs 0) 4095),.int (Builtin.bitAnd (gK xs 1) 4095),.int (Builtin.bitAnd (gK xs 2) 4095)])=_)
  rw[kP,kP,kP,<-wG,<-wG,<-wG]
  rfl
theorem fam_len{srt:Nat->Nat}(F:List Nat):∀(W:List Nat),F.Nodup->(∀x∈F,∃w∈W,Rep srt x w)->F.length<=W.length:=by
 induction F with
 |nil=>
  intro _ _ _
  exact jQk _
 |cons a F ih=>
  intro W hn h
  obtain⟨w,hw,hr⟩:=h a jy
  obtain⟨h1,h2⟩:=xw.mp hn
  have ih:=ih (W.erase w) h2 fun x hx=>by
   obtain⟨v,hv,hs⟩:=h x (qV _ hx)
   show⟨v,(List.mem_erase_of_ne fun e=> ?_).mpr hv,hs⟩
   rw[e] at hs
   exact h1 (hr.one hs▸hx)
  rw[List.length_erase_of_mem hw] at ih
  have:0<W.length:=List.length_pos_of_mem hw
  rw[jNo];lia
theorem rep_lt{srt:Nat->Nat}(hs:eb srt){x w:Nat}(hw:w∈W18)(h:Rep srt x w):x<4096:=by
 show Nat.lt_pow_two_of_testBit (n:=12) x fun i hi=> ?_
 rw[h i,hs.out i hi]
 exact(jEy w hw).1
theorem zB.take{srt:Nat->Nat}{rs ws:List Nat}(h:zB srt rs ws):∀n,zB srt (rs.take n) (ws.take n):=by
 induction h with
 |nil=>intro n;rw[List.take_nil];exact .nil
 |cons h1 h2 ih=>
  intro n
  induction n using cN with
  |zero=>exact .nil
  |succ n=>exact .cons h1 (ih n)
theorem jMj(a b c:Nat):([a,b,c].foldl qP []).length=7:=rfl
theorem jJ7:∀j,j<8->∀w∈(([170,204,240].foldl qP []).take j).foldl bA [],w∈W18:=by decide+kernel
theorem jJm(rs:List Nat):∀(F:List Nat),F.Nodup->(rs.foldl xi F).Nodup:=by
 induction rs with
 |nil=>
  intro F h
  exact h
 |cons r rs ih=>
  intro F h
  exact ih _ (jA3 _)
end
section
variable{a b c:Nat}(ha:a<4096)(hb:b<4096)(hc:c<4096)
include ha hb hc
theorem dh{P:List Nat}{Q:List Nat}(h:[a,b,c].foldl qP []=P++Q):(P.foldl xi []).length<=18/\∀x∈P.foldl xi [],x<4096:=by
 have hP:P=([a,b,c].foldl qP []).take P.length:=by rw[h,List.take_left]
 have hl:P.length<8:=by
  have:=jM8 List.length h
  rw[jMj,jNm] at this
  lia
 have r:zB (xI a b c) [a,b,c] [170,204,240]:= .cons (rep0 a b c) (.cons (rep1 a b c) (.cons (rep2 a b c) .nil))
 have f:=tD.fold (zB.take (zB.ands r .nil) P.length) (tD.nil (srt:=xI a b c))
 rw[<-hP] at f
 have hw:∀x∈P.foldl xi [],∃w∈W18,Rep (xI a b c) x w:=fun x hx=>by
  obtain⟨w,hw,hr⟩:=f.1 x hx
  exact⟨w,jJ7 _ hl w hw,hr⟩
 show⟨x8 (fam_len _ W18 (jJm P [] jO3) hw) (by decide+kernel),fun x hx=> ?_⟩
 obtain⟨w,hw,hr⟩:=hw x hx
 exact rep_lt (jHi ha hb hc) hw hr
theorem g9:(y7 a b c).length<=18/\∀x∈y7 a b c,x<4096:=by
 exact dh ha hb hc (P:=[a,b,c].foldl qP []) (Q:=[]) (by rw[jOj])
theorem jLa:(wh (xI a b c)).length<64:=by
 have h:=jA7 ha hb hc
 have h2:=(x7 (wh (xI a b c))).length_eq
 rw[h] at h2
 have:=(g9 ha hb hc).1
 lia
end
theorem jBl{F:List Nat}(m:Nat):(jb F m).length<=F.length:=by
 unfold jb
 exact x8 (jNq _ _) (by simp)
theorem jCv{F:List Nat}{m:Nat}(h:∀x∈F,x<4096):∀x∈jb F m,x<4096:=fun x hx=>h x (List.mem_reverse.mp (qX.mp hx).1)
noncomputable def xF:Fn:=fnAt Challenge.pw_oy0159_02 "_law_made"
theorem vb{α:Type}(f:α->Nat)(l:List α):l.map (fun x=>nD (f x))=(l.map f).map nD:=by rw[jOz];rfl
theorem dK{k:Bool}{sc jM:Scope}{lp:Loc}{x:Str}{ifs:List Expr}{tp pos p p1 p2 p3 pg:Pos}{it:Expr}{a:Int}{n i:Nat}{glob:xQ}{t:Nat->Bool}(hi:i<=29)(hk:sc.names.lookup ("sum":Str)=some .globalImplicit)(hv:isVar ((jO sc jM).names.lookup x)=true)(nH:(x==("__debug__":Str)||x==("__classdict__":Str))=false)
  (hit:((ev jH glob (n+3)).E k sc lp it).bind ji=some ((List.range i).map nD)) (ok:jk sc jM [⟨.Name x tp,it,ifs,a⟩]=true) (hx:(jF jM lp x).isSome=false)
  (ht:∀q,q<i->qx (ev jH glob (n+3)) k (jO sc jM) (jA (jF jM lp) x (nD q)) ifs=some (t q)):
  (ev jH glob (n+5)).E k sc lp (.Call (.Name "sum" pg) [.ListComp (.BinOp (.Constant (.int 2) 0 p1) .Pow (.Name x p2) p3) [⟨.Name x tp,it,ifs,a⟩] jM pos] [] p)=some (nD (yg t i)):=by
 have jh:lim=1000000:=rfl
 show jm (x:=jf (((List.range i).filter t).map (2 ^ ·))) hk kD kD kD kR rfl ?_ (rN _)
 show(vZ nD t (fun q=>nD (2 ^ q)) (List.range i) hit ok hx (fun q hq=>ht q (yU.mp hq)) (fun q hq _=> ?_) (by simp;exact j6)).trans ?_
 .exact jW (x:= .int 2) (y:=nD q) rfl (jC nH hv jL) (dU (x8 (jPt (yU.mp hq)) hi))
 .unfold jf;rw[<-vb]
theorem jJs{jM:Scope}{lp:Loc}{x:Str}(h:jM.names.lookup x=some .free):jF jM lp x=lp x:=by
 unfold jF
 rw[jMt h]
theorem jId(a b c p:Nat):yg (fun k=>vP (([a,b,c].getD k 0:Nat):Int) p) 3=xI a b c p:=by
 unfold xI
 have e:∀k,vP (([a,b,c].getD k 0:Nat):Int) p=([a,b,c].getD k 0).testBit p:=fun k=>jEr _ _
 rw[gD (d:=fun k=>([a,b,c].getD k 0).testBit p) fun k _=>e k]
 have h:∀u v w:Bool,yg (fun k=>[u,v,w].getD k false) 3=u.toNat+2 * v.toNat+4 * w.toNat:=by decide+kernel
 rw[<-h]
 show gD fun k hk=> ?_
 match k,hk with
 |0,_=>rfl
 |1,_=>rfl
 |2,_=>rfl
section
variable{glob:xQ}{n a b c:Nat}{l:jN}{srt:Nat->Nat}
theorem md0(h:l "rights"=some (.val (jf [a,b,c]))):(ev jH glob (n+20)).S false xF.scope l (qI xF.body 0)=some (.next,jA l "sorts" (.val (jf ((List.range 12).map (xI a b c))))):=by
 have jh:lim=1000000:=rfl
 show(?_:(ev jH glob (n+20)).S false xF.scope l (.Assign [_] (.ListComp (.Call (.Name _ _) [.ListComp (.BinOp _ _ _ _) _ _ _] [] _) _ _ _) _)=_)
 show jS ((yi nD (fun p=>nD (xI a b c p)) (List.range 12) kR kR kR (fun p hp=> ?_) (by simp;decide)).trans ?_) kR kR
 .rw[<-jId]
  show dK kD kR kR kR kR kR kR fun k hk=> ?_
  have hp:=yU.mp hp
  show zW (m6 (j5 kR (x:=jf [a,b,c]) (y:=nD k) (jC kR kR ?_) kR (wI (by simpa using hk) (by simp))) kR (c5 zA zD))
  exact(jR kR kD).trans ((jR kR kD).trans (jD h))
 .unfold jf;rw[<-vb]
theorem md1(h:l "sorts"=some (.val (jf ((List.range 12).map srt)))):(ev jH glob (n+20)).S false xF.scope l (qI xF.body 1)=some (.next,jA l "some" (.val (jf (jn srt)))):=by
 have jh:lim=1000000:=rfl
 show(?_:(ev jH glob (n+20)).S false xF.scope l (.Assign [_] (.ListComp _ _ _ _) _)=_)
 show jS (vZ nD (fun s=>decide (s∈(List.range 12).map srt)) nD [1,2,3,4,5,6] kR kR kR (fun p hp=> ?_) (fun p hp _=>by kernel_rfl) (by simp;decide)) kR kR
 show zW (j7 kR (x:=nD p) (y:=jf ((List.range 12).map srt)) kR (jC kR kR ?_) (yk.isIn kD _ _))
 exact(jR kR kD).trans (jD h)
theorem worth_E{k:Bool}{sc jM:Scope}{lp:Loc}{tp pos p p1 p2 p3 p4 p5 p6 p7 q1 q2 q3 pg:Pos}{e:Expr}{m s:Nat}(hk:sc.names.lookup ("sum":Str)=some .globalImplicit)(hr:sc.names.lookup ("range":Str)=some .globalImplicit)(hv:isVar ((jO sc jM).names.lookup ("place":Str))=true)(sx:isVar ((jO sc jM).names.lookup ("sorts":Str))=true)
  (ok:jk sc jM [⟨.Name "place" tp,.Call (.Name "range" q1) [.Constant (.int 12) 0 q2] [] q3,[.Compare (.Subscript (.Name "sorts" p4) (.Name "place" p5) p6) [.Eq] [e] p7],0⟩]=true) (hx:(jF jM lp "place").isSome=false) (hs:jF jM lp "sorts"=some (jf ((List.range 12).map srt))) (wa:qH e=false)
  (he:∀q,(ev jH glob (m+3)).E k (jO sc jM) (jA (jF jM lp) "place" (nD q)) e=some (nD s)):
  (ev jH glob (m+5)).E k sc lp (.Call (.Name "sum" pg) [.ListComp (.BinOp (.Constant (.int 2) 0 p1) .Pow (.Name "place" p2) p3) [⟨.Name "place" tp,.Call (.Name "range" q1) [.Constant (.int 12) 0 q2] [] q3,[.Compare (.Subscript (.Name "sorts" p4) (.Name "place" p5) p6) [.Eq] [e] p7],0⟩] jM pos] [] p)=some (nD (qm srt s)):=by
 show dK kD hk hv kD (vr hr kR rfl rfl kD) ok hx fun q hq=> ?_
 show zW (j7 wa (x:=nD (srt q)) (y:=nD s) (j5 (by rfl) (x:=jf ((List.range 12).map srt)) (y:=nD q) (jC kD sx ((sN).trans hs)) (jC kD hv jL) ?_) (he q) ((yk.eq kD _ _).trans ?_))
 .rw[wI (by simpa using hq) (by simp)]
  rw[jNa,jN2,jR5 hq];rfl
 .rfl
theorem md2(h:l "sorts"=some (.val (jf ((List.range 12).map srt)))){S:List Nat}(h2:l "some"=some (.val (jf S)))(hl:S.length<=6):(ev jH glob (n+20)).S false xF.scope l (qI xF.body 2)=some (.next,jA l "worth" (.val (jf (S.map (qm srt))))):=by
 have jh:lim=1000000:=rfl
 show(?_:(ev jH glob (n+20)).S false xF.scope l (.Assign [_] (.ListComp (.Call (.Name _ _) [.ListComp (.BinOp _ _ _ _) _ _ _] [] _) _ _ _) _)=_)
 show jS ((yi nD (fun s=>nD (qm srt s)) S (oC (jC kR kR (jD h2))) kR kR (fun s hs=> ?_) j6).trans ?_) kR kR
 .exact worth_E kR kR kR kR kR kR ((jJs kR).trans ((jR kR kD).trans (jD h))) kR fun q=>by kernel_rfl
 .unfold jf;rw[<-vb]
theorem md3{S:List Nat}(h2:l "some"=some (.val (jf S)))(hl:S.length<=6):(ev jH glob (n+20)).S false xF.scope l (qI xF.body 3)=some (.next,jA l "needs" (.val (jf (S.map (qG S))))):=by
 have jh:lim=1000000:=rfl
 show(?_:(ev jH glob (n+20)).S false xF.scope l (.Assign [_] (.ListComp (.Call (.Name _ _) [.ListComp (.BinOp _ _ _ _) _ _ _] [] _) _ _ _) _)=_)
 show jS ((yi nD (fun s=>nD (qG S s)) S (oC (jC kR kR (jD h2))) kR kR (fun s hs=> ?_) j6).trans ?_) kR kR
 .show dK (t:=fun k=>(S.getD k 0|||s)==S.getD k 0) j6 kR kR kR (vr kR kR kR ((d7 (ds:=S.map nD) kR kR kR (jC kR kR ((jR kR kD).trans (jD h2))) (by simp;exact j6)).trans (by rw[jMu])) j6) kR kR fun q hq=> ?_
  show zW (j7 kR (x:=nD (S.getD q 0|||s)) (y:=nD (S.getD q 0)) (jW (x:=nD (S.getD q 0)) (y:=nD s) (j5 kR (x:=jf S) (y:=nD q) (jC kR kR ((jR kR kD).trans ((jR kR kD).trans (jD h2)))) (jC kR kR jL) (wI hq j6)) kR (gV _ _)) (j5 kR (x:=jf S) (y:=nD q) (jC kR kR ((jR kR kD).trans ((jR kR kD).trans (jD h2)))) (jC kR kR jL) (wI hq j6)) (yk.eq kD _ _))
 .unfold jf;rw[<-vb]
structure gQ(srt:Nat->Nat)(S:List Nat)(l:jN)(ms:List Nat):Prop where
 sorts:l "sorts"=some (.val (jf ((List.range 12).map srt)))
 sm:l "some"=some (.val (jf S))
 worth:l "worth"=some (.val (jf (S.map (qm srt))))
 needs:l "needs"=some (.val (jf (S.map (qG S))))
 made:l "made"=some (.own (ms.map nD))
theorem gQ.set{S:List Nat}{ms:List Nat}(h:gQ srt S l ms){x:Str}{b:B}(hx:x="choice"\/x="chosen"):gQ srt S (jA l x b) ms:=by
 rcases hx with e0|rfl
 .rw[e0];exact⟨(sN).trans h.sorts,(sN).trans h.sm,(sN).trans h.worth,(sN).trans h.needs,(sN).trans h.made⟩
 .exact⟨(sN).trans h.sorts,(sN).trans h.sm,(sN).trans h.worth,(sN).trans h.needs,(sN).trans h.made⟩
theorem gQ.grow{S:List Nat}{ms:List Nat}(h:gQ srt S l ms)(k:Nat):gQ srt S (jA l "made" (.own (ms.map nD++[nD k]))) (ms++[k]):=
 ⟨(sN).trans h.sorts,(sN).trans h.sm,(sN).trans h.worth,(sN).trans h.needs,jL.trans (by rw[jNr];rfl)⟩
noncomputable def gT:Stmt:=qI xF.body 5
theorem jKj(srt:Nat->Nat):(jn srt).length<=6:=x8 (jNq _ _) kD
variable{S ms:List Nat}
theorem jMc(ch k:Nat):vP (ch:Int) k=(ch / 2 ^ k % 2==1):=by
 rw[jEr,jOh,jN0];simp
theorem mc0{ch:Nat}(h:gQ srt S l ms)(hc:l "choice"=some (.val (nD ch)))(hl:S.length<=6):(ev jH glob (n+20)).S false xF.scope l (qI (yx gT) 0)=some (.next,jA l "chosen" (.val (jf (jc S ch)))):=by
 have jh:lim=1000000:=rfl
 show(?_:(ev jH glob (n+20)).S false xF.scope l (.Assign [_] (.ListComp _ _ _ _) _)=_)
 show jS (vZ nD (fun k=>ch / 2 ^ k % 2==1) nD (List.range S.length) (vr kR kR kR ((d7 (ds:=S.map nD) kR kR kR (jC kR kR (jD h.sm)) (by simp;exact j6)).trans (by rw[jMu])) j6) kR kR (fun p hp=> ?_) (fun p hp _=>by kernel_rfl) (by simp;exact j6)) kR kR
 have hp:=yU.mp hp
 rw[<-jMc]
 show zW (m6 (x:=(ch:Int)) (jC kR kR ?_) kR (by lia))
 exact(jR kR kD).trans (jD hc)
theorem bJ{k:Bool}{sc:Scope}{lp:Loc}{x y:Str}{p1 p2 p3:Pos}{m q:Nat}{L:List Nat}(h1:(x==("__debug__":Str)||x==("__classdict__":Str))=false)(h2:(y==("__debug__":Str)||y==("__classdict__":Str))=false)(v1:isVar (sc.names.lookup x)=true)(v2:isVar (sc.names.lookup y)=true)(hx:lp x=some (jf L))(hy:lp y=some (nD q))(hq:q<L.length)(hl:L.length<=1000):
  (ev jH glob (m+2)).E k sc lp (.Subscript (.Name x p1) (.Name y p2) p3)=some (nD (L.getD q 0)):=
 j5 (by rfl) (x:=jf L) (y:=nD q) (jC h1 v1 hx) (jC h2 v2 hy) (wI hq hl)
theorem jC7{ch k:Nat}(h:k∈jc S ch):k<S.length:=yU.mp (qX.mp h).1
theorem jG2(S:List Nat)(ch:Nat):(jc S ch).length<=S.length:=x8 (jNq _ _) (by simp)
theorem jC1{f:Nat->Nat}{k:Nat}(h:k<S.length):(S.map f).getD k 0=f (S.getD k 0):=by
 rw[jNa,jNa,jN2,jM9 h];rfl
theorem mc1{ch:Nat}(h:gQ srt S l ms)(hc:l "choice"=some (.val (nD ch)))(hk:l "chosen"=some (.val (jf (jc S ch))))(hl:S.length<=6)(hm:ms.length<=1000):∃l',(ev jH glob (n+20)).S false xF.scope l (qI (yx gT) 1)=some (.next,l')/\gQ srt S l' (if me S ch=true then ms++[yW srt S ch] else ms):=by
 have jh:lim=1000000:=rfl
 have xc:=jG2 S ch
 show(?_:∃l',(ev jH glob (n+20)).S false xF.scope l (.If (.Compare (.ListComp _ _ _ _) [_] [_] _) [.Expr (.Call (.Attribute _ _ _) [.Call (.Name _ _) [.BinOp (.ListComp (.Subscript _ _ _) _ _ _) _ (.ListComp (.BinOp _ _ _ _) _ _ _) _] [] _] [] _) _] [] _)=_/\_)
 have t:Bt (ev jH glob (n+19)) false xF.scope (xW l) 4 (ak (qI (yx gT) 1))=some (me S ch):=by
  show(?_:Bt _ _ _ _ _ (.Compare (.ListComp _ _ _ _) [_] [_] _)=_)
  show(j7 kR (x:=jf ((jc S ch).filter fun k=> !((ch&&& qG S (S.getD k 0))==qG S (S.getD k 0)))) (y:=jf []) (vZ nD (fun k=> !((ch&&& qG S (S.getD k 0))==qG S (S.getD k 0))) nD (jc S ch) (oC (jC kR kR (jP hk))) kR kR (fun k k8=> ?_) (fun k k8 _=>by kernel_rfl) (by lia)) kR (d6.eq kD _ _)).trans ?_
  .have hq:=jC7 k8
   have hg:(S.map (qG S)).getD k 0=qG S (S.getD k 0):=jC1 hq
   rw[<-hg]
   show zW ((j7 kR (x:=nD (ch&&& (S.map (qG S)).getD k 0)) (y:=nD ((S.map (qG S)).getD k 0)) (jW (x:=nD ch) (y:=nD ((S.map (qG S)).getD k 0)) (jC kR kR ?_) (bJ kR kR kR kR ?_ kR (by simpa using hq) (by simp;exact j6)) (uz _ _)) (bJ kR kR kR kR ?_ kR (by simpa using hq) (by simp;exact j6)) (yk.ne kD _ _)).trans ?_)
   .exact(jR kR kD).trans (jP hc)
   .exact(jR kR kD).trans (jP h.needs)
   .exact(jR kR kD).trans (jP h.needs)
   .congr 1
  .unfold me
   generalize (jc S ch).filter (fun k=> !((ch&&& qG S (S.getD k 0))==qG S (S.getD k 0)))=z
   congr 1
   induction z using cL with
   |nil=>rfl
   |cons a z=>simp
 by_cases ho:me S ch=true
 .rw[jMt ho]
  show⟨_,(xy t).trans ?_,h.grow (yW srt S ch)⟩
  rw[ho]
  show(jQ (yQ h.made ?_ kR kR kR kR (by simp;exact j6))).trans jV
  show jm (x:=jf ((jc S ch).map (fun k=>qm srt (S.getD k 0))++((List.range 12).filter fun p=>srt p==7).map (2 ^ ·))) kR kR kD kD kR kR (jW (x:=jf ((jc S ch).map fun k=>qm srt (S.getD k 0))) (y:=jf (((List.range 12).filter fun p=>srt p==7).map (2 ^ ·))) ((yi nD (fun k=>nD (qm srt (S.getD k 0))) (jc S ch) (oC (jC kR kR (jD hk))) kR kR (fun k k8=> ?_) (by lia)).trans ?_) ((vZ nD (fun p=>srt p==7) (fun q=>nD (2 ^ q)) (List.range 12) (vr kR kR rfl rfl kD) kR kR (fun p hp=> ?_) (fun p hp _=> ?_) (by simp;decide)).trans ?_) (ue _ _ (by rw[jMu,jMu];have:=jNq (fun p=>srt p==7) (List.range 12);rw[jP7] at this;lia))) ((rN _).trans ?_)
  .have hq:=jC7 k8
   have hg:(S.map (qm srt)).getD k 0=qm srt (S.getD k 0):=jC1 hq
   rw[<-hg]
   exact bJ kR kR kR kR ((jR kR kD).trans (jD h.worth)) kR (by simpa using hq) (by simp;exact j6)
  .unfold jf;rw[<-vb]
  .have hp:=yU.mp hp
   show zW (j7 kR (x:=nD (srt p)) (y:=nD 7) ((bJ (L:=(List.range 12).map srt) kR kR kR kR ((jR kR kD).trans (jD h.sorts)) kR (by simpa using hp) (by simp)).trans ?_) kR ((yk.eq kD _ _).trans rfl))
   rw[jNa,jN2,jR5 hp];rfl
  .have hp:=yU.mp hp
   exact jW (x:= .int 2) (y:=nD p) kR kR (dU (c5 zA zD))
  .unfold jf;rw[<-vb]
  .rw[List.sum_append];rfl
 .rw[jMv ho]
  show⟨l,(xy t).trans ?_,h⟩
  rw[jOf] at ho
  rw[ho]
  exact jV
theorem mc_loop(hl:S.length<=6):∀(cs:List Nat) (l:jN) (ms:List Nat),gQ srt S l ms->ms.length+cs.length<=1000->∃l',forL (ev jH glob (n+20)) false xF.scope (sJ gT) (yx gT) l (cs.map nD)=some (.next,l')/\gQ srt S l' (ms++(cs.filter (me S)).map (yW srt S)):=by
 intro cs
 induction cs with
 |nil=>intro l ms h _;exact⟨l,z6,by simpa using h⟩
 |cons c cs ih=>
  intro l ms h hm
  rw[jNo] at hm
  have g:gQ srt S (jA l "choice" (.val (nD c))) ms:=h.set (.inl rfl)
  have e1:=mc0 (glob:=glob) (n:=n) g jL hl
  have g1:gQ srt S (jA (jA l "choice" (.val (nD c))) "chosen" (.val (jf (jc S c)))) ms:=g.set (.inr rfl)
  show jE (mc1 (glob:=glob) (n:=n) g1 ((sN).trans jL) jL hl (by show x8 ?_ (by assumption);simp+arith)) fun l2 e2 g2=> ?_
  show jE (ih l2 _ g2 (by
   have e:=jNm (as:=ms) (bs:=[yW srt S c])
   rw[List.length_singleton] at e
   split <;> (show x8 ?_ (by assumption);simp+arith))) fun l3 e3 g3=> ?_
  show⟨l3,(qT rfl ((jQ e1).trans ((jQ e2).trans jV))).trans e3,?_⟩
  by_cases ho:me S c=true
  .rw[jMt ho] at g3
   rw[jPd ho,jNv]
   simpa using g3
  .rw[jMv ho] at g3
   rw[jPe ho]
   exact g3
theorem two_six{k:Nat}(h:k<=6):2 ^ k<=64:=jOq (by decide:2 > 0) h
theorem jK9(hl:(wh (xI a b c)).length<64):(zH jH (ev jH glob (n+25)) "_law_made" [jf [a,b,c]]).bind qB=some (jf (wg (wh (xI a b c)))):=by
 have jh:lim=1000000:=rfl
 show(?_:(qd (ev jH glob (n+25)) false xF.scope (jA (fun _=>none) "rights" (.val (jf [a,b,c]))) xF.body).bind qB=_)
 show(?_:(qd (ev jH glob (n+25)) false xF.scope _ [_,_,_,_,.Assign [_] _ _,.For _ (.Call (.Name _ _) [.BinOp _ _ (.Call (.Name _ _) [_] [] _) _] [] _) _ [] _,.Return (some (.Call (.Name _ _) [_] [] _)) _]).bind qB=_)
 generalize vE:jA (fun _=>none) "rights" (B.val (jf [a,b,c]))=l0
 have a0:l0 "rights"=some (.val (jf [a,b,c])):=by rw[<-vE];kernel_rfl
 clear vE
 show qC (md0 (n:=n+5) a0) ?_
 have s1:jA l0 "sorts" (B.val (jf ((List.range 12).map (xI a b c)))) "sorts"=some (.val (jf ((List.range 12).map (xI a b c)))):=jL
 generalize jA l0 "sorts" (B.val (jf ((List.range 12).map (xI a b c))))=l1 at s1 ⊢
 show qC (md1 (n:=n+5) s1) ?_
 have hS:=jKj (xI a b c)
 have s2:=(qO (a:=B.val (jf (jn (xI a b c)))) (show ("sorts":Str)≠"some" by decide)).trans s1
 have o2:jA l1 "some" (B.val (jf (jn (xI a b c)))) "some"=some (.val (jf (jn (xI a b c)))):=jL
 unfold wh at hl ⊢
 generalize xI a b c=srt at *
 generalize jA l1 "some" (B.val (jf (jn srt)))=l2 at s2 o2 ⊢
 generalize hSS:jn srt=S at *
 show qC (md2 (n:=n+5) s2 o2 hS) ?_
 have s3:=(qO (a:=B.val (jf (S.map (qm srt)))) (show ("sorts":Str)≠"worth" by decide)).trans s2
 have o3:=(qO (a:=B.val (jf (S.map (qm srt)))) (show ("some":Str)≠"worth" by decide)).trans o2
 have w3:jA l2 "worth" (B.val (jf (S.map (qm srt)))) "worth"=some (.val (jf (S.map (qm srt)))):=jL
 generalize jA l2 "worth" (B.val (jf (S.map (qm srt))))=l3 at s3 o3 w3 ⊢
 show qC (md3 (n:=n+5) o3 hS) ?_
 have s4:=(qO (a:=B.val (jf (S.map (qG S)))) (show ("sorts":Str)≠"needs" by decide)).trans s3
 have o4:=(qO (a:=B.val (jf (S.map (qG S)))) (show ("some":Str)≠"needs" by decide)).trans o3
 have w4:=(qO (a:=B.val (jf (S.map (qG S)))) (show ("worth":Str)≠"needs" by decide)).trans w3
 have n4:jA l3 "needs" (B.val (jf (S.map (qG S)))) "needs"=some (.val (jf (S.map (qG S)))):=jL
 generalize jA l3 "needs" (B.val (jf (S.map (qG S))))=l4 at s4 o4 w4 n4 ⊢
 show qC (wB (ds:=[]) kR kR kR kR) ?_
 have i5:gQ srt S (jA l4 "made" (.own [])) []:=⟨(sN).trans s4,(sN).trans o4,(sN).trans w4,(sN).trans n4,jL⟩
 generalize jA l4 "made" (B.own [])=l5 at i5 ⊢
 have h64:=two_six hS
 show jE (mc_loop (glob:=glob) (n:=n+4) hS (List.range (2 ^ S.length)) l5 [] i5 (by simp;exact j6)) fun l6 e6 i6=> ?_
 show qC (dI (its:=(List.range (2 ^ S.length)).map nD) kR ?_ e6) ?_
 .exact vr (i:=2 ^ S.length) kR kR kR (jW (x:= .int 2) (y:=nD S.length) kR ((d7 (ds:=S.map nD) kR kR kR (jC kR kR (jD i5.sm)) (by simp;exact j6)).trans (by rw[jMu];rfl)) (dU j6)) j6
 .rw[List.nil_append] at i6
  show o9 (kq (jm (x:=jf (((List.range (2 ^ S.length)).filter (me S)).map (yW srt S))) kR kR kD kD kR kR (jC kR kR ?_) (jCu hl)))
  exact gf i6.made
variable{fns:List (Str×Fn)}{sc:Scope}{lp:Loc}{g s i:Expr}{m:Nat}{pr p:Pos}{k:Bool}
theorem kH{r:Ev}{args:List Expr}(hk:sc.names.lookup ("reduce":Str)=some .globalImplicit):xK fns glob r k sc lp (.Call (.Name "reduce" pr) args [] p)=n8 r k sc lp args:=by
 rw[xZ,jMv (jP2.mpr ⟨jQg hk,by decide⟩),jMt rfl]
theorem kY{ds as:List D}{d:D}(hk:sc.names.lookup ("reduce":Str)=some .globalImplicit)(hg:vH k sc g=true)(hs:PySem.W.isStarred s=false)(hi:PySem.W.isStarred i=false)(h1:(ev fns glob m).E k sc lp s=some (.list ds))(h2:(ev fns glob m).E k sc lp i=some (.list as))(h:zV (ev fns glob m) lp g (.list as) ds=some d):
  (ev fns glob (m+1)).E k sc lp (.Call (.Name "reduce" pr) [g,s,i] [] p)=some d:=by
 show(kH (glob:=glob) (pr:=pr) (p:=p) hk).trans ?_
 show(?_:u5 (ev fns glob m) k sc lp g s i=_)
 unfold u5
 rw[jMv (by rw[hg,hs,hi];decide),h1,h2]
 exact h
theorem jG9{ds:List D}{a:Int}{d:D}(hk:sc.names.lookup ("reduce":Str)=some .globalImplicit)(hg:vH k sc g=true)(hs:PySem.W.isStarred s=false)(hi:PySem.W.isStarred i=false)(h1:(ev fns glob m).E k sc lp s=some (.list ds))(h2:(ev fns glob m).E k sc lp i=some (.int a))(h:zV (ev fns glob m) lp g (.int a) ds=some d):
  (ev fns glob (m+1)).E k sc lp (.Call (.Name "reduce" pr) [g,s,i] [] p)=some d:=by
 show(kH (glob:=glob) (pr:=pr) (p:=p) hk).trans ?_
 show(?_:u5 (ev fns glob m) k sc lp g s i=_)
 unfold u5
 rw[jMv (by rw[hg,hs,hi];decide),h1,h2]
 exact h
theorem kZ{ds:List D}{a d:D}(hk:sc.names.lookup ("reduce":Str)=some .globalImplicit)(hg:vH k sc g=true)(hs:PySem.W.isStarred s=false)(h1:(ev fns glob m).E k sc lp s=some (.list (a::ds)))(h:zV (ev fns glob m) lp g a ds=some d):
  (ev fns glob (m+1)).E k sc lp (.Call (.Name "reduce" pr) [g,s] [] p)=some d:=by
 show(kH (glob:=glob) (pr:=pr) (p:=p) hk).trans ?_
 show(?_:(if vH k sc g=false\/PySem.W.isStarred s=true then none else ((ev fns glob m).E k sc lp s).bind fun d=>d.asList?.bind (mK (ev fns glob m) lp g))=_)
 rw[jMv (by rw[hg,hs];decide),h1]
 exact h
theorem yG{r:Ev}{ps:Arguments}{body:Expr}{qa:Scope}{q:Pos}{as:List D}{l':Loc}(h:yX (jF qa lp) (ps.args.map (·.arg)) as=some l'):zp r lp (.Lambda ps body qa q) as=r.E false qa l' body:=by
 show(?_:(yX (jF qa lp) (ps.args.map (·.arg)) as).bind (fun l'=>r.E false qa l' body)=_)
 rw[h];rfl
theorem yo{r:Ev}{α β:Type}(ea:β->D)(ex:α->D)(step:β->α->β)(xs:List α):∀(b:β),(∀P x Q,xs=P++x::Q->zp r lp g [ea (P.foldl step b),ex x]=some (ea (step (P.foldl step b) x)))->zV r lp g (ea b) (xs.map ex)=some (ea (xs.foldl step b)):=by
 induction xs with
 |nil=>
  intro _ _
  exact rfl
 |cons x xs ih=>
  intro b h
  show(?_:(zp r lp g [ea b,ex x]).bind (fun a'=>zV r lp g a' (xs.map ex))=_)
  rw[show zp r lp g [ea b,ex x]=some (ea (step b x)) from h [] x xs rfl]
  exact ih (step b x) fun P y Q e=>h (x::P) y Q (by rw[e];rfl)
theorem Ess_set{a:Expr}{sp cp:Pos}(hk:sc.names.lookup ("set":Str)=some .globalImplicit)(h3:(fns.lookup ("set":Str)).isSome=false):zh (ev fns glob (m+1)) k sc lp [.Call (.Name "set" sp) [a] [] cp]=none:=by
 have h:(ev fns glob (m+1)).E k sc lp (.Call (.Name "set" sp) [a] [] cp)=none:=by
  show(xZ fns glob (ev fns glob m) k sc lp "set" sp cp _).trans ?_
  rw[jMv (jP2.mpr ⟨jQg hk,by decide⟩),jMv kD,jMv kD,jMv (by rw[h3];exact jMy)]
  have e:(zh (ev fns glob m) k sc lp [a]).bind (fun as=>jr "set" as)=none:=by
   cases zh (ev fns glob m) k sc lp [a] with
   |none=>rfl
   |some as=>rfl
  rw[e]
  rfl
 rw[tc rfl,h]
 rfl
theorem E_sortU{a:Expr}{L:List Nat}{gp sp cp:Pos}(hk:sc.names.lookup ("sorted":Str)=some .globalImplicit)(aD:sc.names.lookup ("set":Str)=some .globalImplicit)(h3:(fns.lookup ("sorted":Str)).isSome=false)(h4:(fns.lookup ("set":Str)).isSome=false)(hs:PySem.W.isStarred a=false)(ha:(ev fns glob (m+1)).E k sc lp a=some (jf L))(aN:(ka L).length<=18)(hb:∀x∈ka L,x<4096):
  (ev fns glob (m+2)).E k sc lp (.Call (.Name "sorted" gp) [.Call (.Name "set" sp) [a] [] cp] [] p)=some (jf (ka L)):=by
 show(jJ6 (n:=m+1) (ns:=zs L) hk aD h3 h4 hs (by rw[ha];unfold jf;rw[fL]) (ints_map _) (by rw[jK6];exact aN) (fun x hx=> ?_) ?_).trans ?_
 .show jE (jK5 hx) ?_;rintro k hk rfl
  have:=hb k (zc.mpr hk)
  lia
 .rw[Ess_set aD h4];rfl
 .rw[jIg];unfold jf;rw[<-fL]
theorem jH3{a b:Expr}{j:Nat}{c e:Bool}(h1:Bt (ev fns glob m) k sc lp j a=some c)(h2:c=true->Bt (ev fns glob m) k sc lp j b=some e):Bt (ev fns glob m) k sc lp (j+1) (.BoolOp .And [a,b] p)=some (c&&e):=by
 show(?_:(Bt (ev fns glob m) k sc lp j a).bind (fun b'=>if b' then Bt (ev fns glob m) k sc lp j b else some false)=_)
 rw[h1]
 induction c using cT with
 |false=>rfl
 |true=>exact h2 rfl
theorem E_and{a b:Expr}{c e:Bool}(h1:(ev fns glob m).E k sc lp a=some (.bool c))(h2:(ev fns glob m).E k sc lp b=some (.bool e)):(ev fns glob (m+1)).E k sc lp (.BoolOp .And [a,b] p)=some (.bool (c&&e)):=by
 show(?_:((ev fns glob m).E k sc lp a).bind (fun d=>sR d ((ev fns glob m).E k sc lp b))=_)
 rw[h1,h2]
 cases c <;> rfl
theorem st12(h:l "rights"=some (.val (jf [a,b,c]))):(ev jH jK (n+30)).S true xG l (qc 12)=some (.next,jA l "ands" (.val (jf ([a,b,c].foldl qP [])))):=by
 have jh:lim=1000000:=rfl
 show(?_:(ev jH jK (n+30)).S true xG l (.Assign [_] (.Call (.Name _ _) [.Lambda _ (.BinOp (.BinOp _ _ (.List [_] _) _) _ (.ListComp (.BinOp _ _ _ _) _ _ _) _) _ _,_,_] [] _) _)=_)
 show jS (kY (ds:=[a,b,c].map nD) (as:=[]) kR kR kR kR (jC kR kR (jD h)) kR ?_) kR kR
 show yo (ea:=jf) (ex:=nD) (step:=qP) [a,b,c] [] fun P x Q e=> ?_
 have hm:(P.foldl qP []).length<=7:=by
  match P,e with
  |[],_=>decide
  |[_],_=>exact jOl rfl
  |[_,_],_=>exact jOl rfl
  |_::_::_::_::_,e=>simp at e
  |[_,_,_],e=>simp at e
 generalize P.foldl qP []=made at hm
 show(yG (l':=jA (jA (jF _ (j3 l)) "right" (nD x)) "made" (jf made)) rfl).trans ?_
 show jW (x:=jf (made++[x])) (y:=jf (made.map (x&&& ·))) (jW (x:=jf made) (y:=jf [x]) (jC kR kR jL) kR (ue _ _ (by simp;exact j6))) ((yi nD (fun y=>nD (x&&& y)) made (oC (jC kR kR jL)) kR kR (fun y hy=> ?_) j6).trans ?_) (ue _ _ (by simp;lia))
 .exact jW (x:=nD x) (y:=nD y) kR kR (uz _ _)
 .unfold jf;rw[<-vb]
theorem st13(ha:a<4096)(hb:b<4096)(hc:c<4096)(h:l "ands"=some (.val (jf ([a,b,c].foldl qP [])))):(ev jH jK (n+30)).S true xG l (qc 13)=some (.next,jA l "family" (.val (jf (y7 a b c)))):=by
 have jh:lim=1000000:=rfl
 show(?_:(ev jH jK (n+30)).S true xG l (.Assign [_] (.Call (.Name _ _) [.Lambda _ (.Call (.Name "sorted" _) [.Call (.Name "set" _) [.BinOp (.BinOp _ _ (.List [_] _) _) _ (.ListComp (.BinOp _ _ _ _) _ _ _) _] [] _] [] _) _ _,_,_] [] _) _)=_)
 show jS (kY (ds:=([a,b,c].foldl qP []).map nD) (as:=[]) kR kR kR kR (jC kR kR (jD h)) kR ?_) kR kR
 show yo (ea:=jf) (ex:=nD) (step:=xi) ([a,b,c].foldl qP []) [] fun P x Q e=> ?_
 have h1:=dh ha hb hc e
 have h2:=dh ha hb hc (P:=P++[x]) (Q:=Q) (by rw[e];simp)
 rw[List.foldl_append] at h2
 generalize P.foldl xi []=made at h1 h2
 show(yG (l':=jA (jA (jF _ (j3 l)) "right" (nD x)) "made" (jf made)) rfl).trans ?_
 show E_sortU (m:=n+26) kR kR kR kR kR (jW (x:=jf (made++[x])) (y:=jf (made.map (x|||·))) (jW (x:=jf made) (y:=jf [x]) (jC kR kR jL) kR (ue _ _ (by simp;lia))) ((yi nD (fun y=>nD (x|||y)) made (oC (jC kR kR jL)) kR kR (fun y hy=> ?_) (by lia)).trans ?_) (ue _ _ (by simp;lia))) h2.1 h2.2
 .exact jW (x:=nD x) (y:=nD y) kR kR (gV _ _)
 .unfold jf;rw[<-vb]
theorem st15(h:l "rights"=some (.val (jf [a,b,c]))):(ev jH jK (n+30)).S true xG l (qc 15)=some (.next,jA l "least" (.val (nD (qo a b c)))):=by
 show(?_:(ev jH jK (n+30)).S true xG l (.Assign [_] (.Call (.Name _ _) [.Lambda _ (.BinOp _ _ _ _) _ _,_] [] _) _)=_)
 show jS (kZ (a:=nD a) (ds:=[b,c].map nD) kR kR kR (jC kR kR (jD h)) ?_) kR kR
 show yo (ea:=nD) (ex:=nD) (step:=fun x y=>x&&& y) [b,c] a fun P x Q e=> ?_
 generalize P.foldl (fun x y=>x&&& y) a=made
 show(yG (l':=jA (jA (jF _ (j3 l)) "other" (nD x)) "one" (nD made)) rfl).trans ?_
 exact jW (x:=nD made) (y:=nD x) kR kR (uz _ _)
theorem jKr(ds:List D):pick ds none none (some (-1))=ds.reverse:=by
 unfold pick
 have hb:sliceBounds none none (some (-1)) ds.length=((ds.length:Int) - 1,-1,-1):=by
  simp[sliceBounds]
 rw[hb]
 have hr:sliceRange ((ds.length:Int) - 1) (-1) (-1)=(List.range ds.length).map fun k=>ds.length - 1 - k:=by
  unfold sliceRange
  by_cases h0:ds.length=0
  .rw[h0];rfl
  .simp only[show¬((-1:Int) > 0) by decide,if_false,show ((ds.length:Int) - 1) > -1 by lia,if_true]
   rw[show (((ds.length:Int) - 1 - -1 - -1 - 1) / (- -1)).toNat=ds.length by lia]
   show jPx fun k hk=> ?_
   have:=yU.mp hk
   lia
 rw[hr,List.filterMap_map]
 show List.ext_getElem? fun i=> ?_
 have e:∀n,n<=ds.length->(List.range n).filterMap ((ds[·]?) ∘ fun k=>ds.length - 1 - k)=(ds.reverse).take n:=by
  intro n
  induction n with
  |zero=>intro _;rfl
  |succ n ih=>
   intro hn
   rw[jRs,List.filterMap_append,ih (by lia),List.take_add_one]
   congr 1
   rw[List.getElem?_reverse (by lia)]
   show(?_:List.filterMap _ [n]=_)
   have e2:((ds[·]?) ∘ fun k=>ds.length - 1 - k) n=some (ds[ds.length - 1 - n]'(by lia)):=jM9 (by lia)
   rw[List.filterMap_cons_some e2,jM9 (by lia)]
   rfl
 rw[e _ nL,jOi (by simp)]
theorem orO2{a b:Option D}{d:D}(h1:a=none)(h2:b=some d):nC a b=some d:=by rw[h1,h2];rfl
noncomputable def dcSc(e:Expr):Scope:=by
 induction e using cE with
 |DictComp _ _ _ sc _=>exact sc
 |_=>exact⟨.function,[],false,false,[]⟩
noncomputable def dcV(e:Expr):Expr:=by
 induction e using cE with
 |DictComp _ v _ _ _=>exact v
 |_=>exact fZ
noncomputable def fO(F:List Nat):D:= .dictI (F.map fun x:Nat=>((x:Int),jf (xg F x)))
theorem jEq{F:List Nat}(h:F.Nodup):(F.map fun x:Nat=>(x:Int)).Nodup:=jPa.mpr (h.imp fun g e=>g (Int.ofNat.inj e))
variable{xs:List Int}{F:List Nat}
theorem st14(h1:l "family"=some (.val (jf (y7 (yt xs 0) (yt xs 1) (yt xs 2)))))(h2:l "modes"=some (.val (.list ((vN xs).map .int)))):(ev jH jK (n+30)).S true xG l (qc 14)=some (.next,l):=by
 have jh:lim=1000000:=rfl
 have ha:=yV xs 0
 have hb:=yV xs 1
 have hc:=yV xs 2
 show(?_:(ev jH jK (n+30)).S true xG l (.If (.Compare _ [_] [.Call (.Name _ _) [.ListComp (.BinOp _ _ _ _) _ _ _] [] _] _) _ [] _)=_)
 show(xy (c:=false) ((j7 kR (x:=jf (y7 (yt xs 0) (yt xs 1) (yt xs 2))) (y:=jf (y7 (yt xs 0) (yt xs 1) (yt xs 2))) (jC kR kR (jP h1)) (wN (x:=jf [yt xs 0,yt xs 1,yt xs 2]) kR kR kD kD kR kR ((yi .int (fun m:Int=> .int (m % 4096)) (vN xs) (oC (jC kR kR (jP h2))) kR kR (fun m hm=>jW (x:= .int m) (y:= .int 4096) kR kR (mod_val kD)) (by simp[vN];decide)).trans ?_) ((jK9 (n:=n+3) (jLa ha hb hc)).trans ?_)) (d6.ne kD _ _)).trans (by simp))).trans jV
 .show(?_:some (D.list [.int (gK xs 0 % 4096),.int (gK xs 1 % 4096),.int (gK xs 2 % 4096)])=_)
  rw[<-wG,<-wG,<-wG]
  rfl
 .rw[jA7 ha hb hc]
theorem st16(h:l "family"=some (.val (jf F)))(je:F≠[])(hn:F.Nodup)(hl:F.length<=100):(ev jH jK (n+30)).S true xG l (qc 16)=some (.next,jA l "lesser" (.val (fO F))):=by
 have jh:lim=1000000:=rfl
 show(?_:(ev jH jK (n+30)).S true xG l (.Assign [_] (.DictComp _ (.ListComp _ _ _ _) _ _ _) _)=_)
 obtain⟨x0,F0,e0⟩:∃x0 F0,F=x0::F0:=by
  induction F using cL with
  |nil=>exact absurd rfl je
  |cons a r=>exact⟨a,r,rfl⟩
 have hk:∀q:Nat,(nD q).asInt? =some (q:Int):=fun q=>rfl
 show jS ((dc_eq (oC (jC kR kR (jD h))) kR).trans ?_) kR kR
 have inner:∀q∈F,(ev jH jK (n+28)).E true (jO xG (dcSc (bZ (qc 16)))) (jA (jF (dcSc (bZ (qc 16))) (j3 l)) "one" (nD q)) (dcV (bZ (qc 16)))=some (jf (xg F q)):=fun q hq=>by
  show(?_:_=some (D.list (List.map nD _)))
  show vZ nD (fun y=>decide (y≠q)&&(y|||q==q)) nD F (oC (jC kR kR ?_)) kR kR (fun y hy=> ?_) (fun y hy _=>by kernel_rfl) j6
  .exact(jR kR kD).trans (jD h)
  .exact zW (Bt_and ((j7 kR (x:=nD y) (y:=nD q) kR kR (yk.ne kD _ _)).trans (by simp)) ((j7 kR (x:=nD (y|||q)) (y:=nD q) (jW (x:=nD y) (y:=nD q) kR kR (gV _ _)) kR (yk.eq kD _ _)).trans rfl))
 induction F using cL with
 |nil=>exact absurd rfl je
 |cons x0 F0=>
  exact(orO2 (jL6 (f:=D.asStr?) (kd:=nD x0) rfl kR kR (inner x0 jy)) (jHu (f:=D.asInt?) (fd:=nD) (kd:=nD) hk (jEq hn) kR (fun q hq=>by kernel_rfl) inner j6))
theorem st17(R:Ring F m)(h1:l "family"=some (.val (jf F)))(h2:l "least"=some (.val (nD m)))(h3:l "lesser"=some (.val (fO F)))(hn:F.Nodup)(hl:F.length<=100):(ev jH jK (n+30)).S true xG l (qc 17)=some (.next,jA l "single" (.val (jf (jb F m)))):=by
 have jh:lim=1000000:=rfl
 show(?_:(ev jH jK (n+30)).S true xG l (.Assign [_] (.ListComp _ _ _ _) _)=_)
 show jS (vZ nD (fun x=>decide (x≠m)&&decide (mQ (xg F x)≠x)) nD F.reverse ?_ kR kR (fun x hx=> ?_) (fun x hx _=>by kernel_rfl) (by simp;exact j6)) kR kR
 .show oC ((wM (x:=jf F) (lo':=none) (hi':=none) (st':=some (-1)) (jC kR kR (jD h1)) rfl rfl kR).trans ?_)
  show(?_:(if (some (-1):Option Int)≠some 0/\(F.map nD).length<=lim then some (D.list (pick (F.map nD) none none (some (-1)))) else none)=_)
  rw[jMt ⟨by decide,by simp;exact j6⟩,jKr,List.map_reverse]
 .have hx:=List.mem_reverse.mp hx
  show zW (jH3 ((j7 kR (x:=nD x) (y:=nD m) kR (jC kR kR ?_) (yk.ne kD _ _)).trans (by simp)) fun je=> ?_)
  .exact(jR kR kD).trans (jD h2)
  .have hm:=uv R hx (by simpa using je)
   have bw:=lookupK (e:=fun x=>jf (xg F x)) (jEq hn) x hx
   show(?_:Bt _ _ _ _ _ (.Compare (.Call (.Name _ _) [.Lambda _ (.BinOp _ _ _ _) _ _,_] [] _) [_] [_] _)=_)
   generalize hq:xg F x=x0;induction x0 using cL with
   |nil=>rw[hq] at hm;cases hm
   |cons a t=>
    rw[hq] at bw
    show(j7 kR (x:=nD (mQ (a::t))) (y:=nD x) (kZ (a:=nD a) (ds:=t.map nD) kR kR kR (j5 kR (x:=fO F) (y:=nD x) (jC kR kR ?_) kR bw) ?_) kR (yk.ne kD _ _)).trans (by simp)
    .exact(jR kR kD).trans (jD h3)
    .show yo (ea:=nD) (ex:=nD) (step:=fun x y=>x|||y) t a fun P y Q e=> ?_
     generalize P.foldl (fun x y=>x|||y) a=made
     show(yG (l':=jA (jA (jF _ _) "other" (nD y)) "made" (nD made)) rfl).trans ?_
     exact jW (x:=nD made) (y:=nD y) kR kR (gV _ _)
noncomputable def ql(S:List Nat):nG:=S.flatMap fun x=>(S.filter fun y=> !decide (fm x=fm y)&&yY (fm x) (fm y)).map fun y=>(fm x,fm y)
theorem jLx{α β:Type}(f:α->List β)(c:Nat)(xs:List α):(∀x∈xs,(f x).length<=c)->(xs.flatMap f).length<=xs.length * c:=by
 induction xs with
 |nil=>
  intro _
  exact jQk _
 |cons x xs ih=>
  intro h
  rw[jSk,jNm,jNo,Nat.add_mul,Nat.one_mul,jO9]
  exact Nat.add_le_add (ih fun y hy=>h y (qV _ hy)) (h x jy)
theorem wQ(h:S.length<=18):(ql S).length<=324:=by
 have:=jLx (fun x=>(S.filter fun y=> !decide (fm x=fm y)&&yY (fm x) (fm y)).map fun y=>(fm x,fm y)) 18 S fun x hx=>by
  rw[jMu]
  exact x8 (jNq _ _) h
 exact x8 this (Nat.mul_le_mul_right 18 h)
noncomputable def oS(rows:nG)(s:Str):List Str:=(rows.filter fun q=>decide (q.2=s)).map (·.1)
theorem lo_test(rows:nG)(s:Str)(one:List Str):decide (rows.filter (fun q=>decide (q.2=s)&& !decide (q.1∈one))=[])=(oS rows s).all fun a=>decide (a∈one):=by
 rw[jN0,jNk,jRo,jNe]
 unfold oS
 constructor
 .intro h a ha
  show jE (jo.mp ha) ?_;rintro q hq rfl
  obtain⟨h1,h2⟩:=qX.mp hq
  have:=h q h1
  rw[h2] at this
  simpa using this
 .intro h q hq
  by_cases e:q.2=s
  .have:=h q.1 (jMs (qX.mpr ⟨hq,jMx e⟩))
   simp only[decide_eq_true_eq] at this
   simp[this]
  .simp[e]
theorem jL8{α:Type}[DecidableEq α](lo:α->List α)(P:List α):∀(made:List (List α)),made.length<=(P.foldl (qt lo) made).length:=by
 induction P with
 |nil=>
  intro _
  exact jNi _
 |cons x P ih=>
  intro made
  show x8 ?_ (ih (qt lo made x))
  unfold qt
  rw[jNm]
  exact jOn _ _
theorem jL9{α:Type}[DecidableEq α](lo:α->List α)(P:List α):∀(made:List (List α)) (k:Nat),(∀C∈made,C.length<=k)->∀C∈P.foldl (qt lo) made,C.length<=k+P.length:=by
 induction P with
 |nil=>
  intro _ _ h
  exact h
 |cons x P ih=>
  intro made k h
  exact fun C hC=>by
   have:=ih (qt lo made x) (k+1) (fun D hD=>by
    unfold qt at hD
    rcases jj.mp hD with hD|hD
    .exact Nat.le_succ_of_le (h D hD)
    .show jE (jo.mp hD) ?_;rintro D0 h0 rfl
     rw[jNm]
     exact jRb (h D0 (qX.mp h0).1)) C hC
   rw[jNo];(show x8 (by assumption) ?_;simp+arith)
theorem jEi{xs:List Str}{s:Str}(h:s∈xs):∃k,xs.findIdx? (fun y=>decide (y=s))=some k/\k<xs.length:=by
 generalize e:(xs.findIdx? (fun y=>decide (y=s)))=x0;induction x0 using cO with
 |none=>
  have:=List.findIdx?_eq_none_iff.mp e s h
  simp at this
 |some k=>
  obtain⟨h1,_⟩:=jO6.mp e
  exact⟨k,rfl,h1⟩
noncomputable def valS(S:List Nat)(s:Str):Nat:=S.getD (((S.map fm).findIdx? fun y=>decide (y=s)).getD 0) 0
theorem valS_fm(jv:∀x∈S,x<4096){x:Nat}(hx:x∈S):valS S (fm x)=x:=by
 show jE (jEi (jMs (f:=fm) hx)) fun k hk hl=> ?_
 obtain⟨h1,h2,_⟩:=jO6.mp hk
 unfold valS
 rw[hk]
 show(?_:S.getD k 0=x)
 rw[jMu] at hl
 rw[jNa,jM9 hl]
 have h2:fm (S[k]'hl)=fm x:=by simpa using h2
 exact uc (jv _ (jPv hl)) (jv x hx) h2
theorem jJf{xs:List Str}{s:Str}{k:Nat}(h:xs.findIdx? (fun y=>decide (y=s))=some k)(hl:xs.length<=1000):gR (jJ xs) "index" [.str s]=some (nD k):=by
 show(?_:gy (xs.map D.str) (.str s)=_)
 have ha:(xs.map D.str).all (fun y=>D.like y (.str s)&&decide (D.dep y<=20))=true:=by
  rw[jNe]
  intro y hy
  show jE (jo.mp hy) ?_;rintro x hx rfl
  rfl
 unfold gy
 rw[jMt ⟨by rw[jMu];exact hl,ha⟩,List.findIdx?_map,show ((fun y=>D.beq y (.str s)) ∘ D.str)=fun y=>decide (y=s) from funext fun y=>jZ.str.beq y s,h]
 rfl
theorem jMp{a:Expr}{pi pl:Pos}{ds:List D}(hk:sc.names.lookup ("isinstance":Str)=some .globalImplicit)(hb:sc.names.lookup ("list":Str)=some .globalImplicit)(hs:PySem.W.isStarred a=false)(h1:(ev fns glob m).E k sc lp a=some (.list ds)):
  (ev fns glob (m+1)).E k sc lp (.Call (.Name "isinstance" pi) [a,.Name "list" pl] [] p)=some (.bool true):=by
 show(xZ fns glob (ev fns glob m) k sc lp "isinstance" pi p [a,.Name "list" pl]).trans ?_
 rw[jMv (jP2.mpr ⟨jQg hk,by decide⟩),jMv kD,jMt rfl]
 show(?_:(if ("list":Str)="list"/\sc.names.lookup ("list":Str)=some .globalImplicit/\PySem.W.isStarred a=false then ((ev fns glob m).E k sc lp a).bind (fun d=>d.asList?.map fun _=>D.bool true) else none)=_)
 rw[jMt ⟨rfl,hb,hs⟩,h1]
 rfl
variable{line:List Str}{rows:nG}
theorem st18(h:l "single"=some (.val (jf S)))(jv:∀x∈S,x<4096)(hl:S.length<=100):(ev jH jK (n+30)).S true xG l (qc 18)=some (.next,jA l "signs" (.val (jJ (S.map fm)))):=by
 have jh:lim=1000000:=rfl
 show(?_:(ev jH jK (n+30)).S true xG l (.Assign [_] (.ListComp (.Call (.Name _ _) [_] [] _) _ _ _) _)=_)
 show jS ((yi nD (fun x=> .str (fm x)) S (oC (jC kR kR (jD h))) kR kR (fun x hx=> ?_) j6).trans ?_) kR kR
 .show wN (x:=nD x) kR kR kD kD kR kR kR ((jEb (x:Int)).trans ?_)
  rw[jAo,jLd (jv x hx)]
 .unfold jJ;rw[List.map_map];rfl
theorem st19(h:l "signs"=some (.val (jJ (S.map fm))))(hl:S.length<=18):(ev jH jK (n+30)).S true xG l (qc 19)=some (.next,jA l "rows" (.val (vX (ql S)))):=by
 have jh:lim=1000000:=rfl
 show(?_:(ev jH jK (n+30)).S true xG l (.Assign [_] (.ListComp (.List [_,_] _) _ _ _) _)=_)
 have e:(S.flatMap fun x=>if true then (S.filter fun y=> !decide (fm x=fm y)&&yY (fm x) (fm y)).map (fun y=>gn (fm x,fm y)) else [])=(ql S).map gn:=by
  unfold ql
  rw[List.map_flatMap]
  simp only[if_true,List.map_map]
  rfl
 have hit:(S.map fm).map D.str=S.map fun x=>D.str (fm x):=by rw[jOz];rfl
 show jS ((comp2 (fun x:Nat=> .str (fm x)) (fun _=>true) (fun _=>S) (fun y=> .str (fm y)) (fun x y=> !decide (fm x=fm y)&&yY (fm x) (fm y)) (fun x y=>gn (fm x,fm y)) S ((oC (jC kR kR (jD h))).trans (by rw[hit])) kR kR (fun q hq=>by kernel_rfl) (fun q hq=>by kernel_rfl) (fun q hq _=> ?_) (fun q hq _ p hp=> ?_) (fun q hq _ p hp _=>by kernel_rfl) ?_).trans ?_) kR kR
 .show(oC (ds:=(S.map fm).map D.str) (jC kR kR ?_)).trans (by rw[hit])
  exact(jR kR kD).trans (jD h)
 .show(?_:qx _ _ _ _ [.BoolOp _ [.Compare _ [_] [_] _,.Call (.Name _ _) [_,_] [] _] _]=_)
  show zW (jH3 (j7 kR (x:= .str (fm q)) (y:= .str (fm p)) kR kR (jZ.str.ne kD _ _)) fun _=> ?_)
  show(?_:((ev jH jK (n+28)).E true _ _ _).bind uC=_)
  rw[jH1 (x:= .str (fm q)) (y:= .str (fm p)) kR kR kD kD kR kR kR kR kR (jMg (n:=n+7) q p)]
  rfl
 .rw[e,jMu]
  have:=wQ hl
  exact j6
 .rw[e];rfl
theorem st21{sg:List Str}(h1:l "signs"=some (.val (jJ sg)))(h6:l "line"=some (.val (jJ line)))(hl:line.length<64)(hl2:sg.length<64)(hs:vW line=vW sg):(ev jH jK (n+30)).S true xG l (qc 21)=some (.next,l):=by
 have jh:lim=1000000:=rfl
 show(?_:(ev jH jK (n+30)).S true xG l (.If (.BoolOp _ [.UnaryOp .Not (.Call (.Name "isinstance" _) [_,.Name "list" _] [] _) _,.Compare (.Call (.Name _ _) [_] [] _) [_] [.Call (.Name _ _) [_] [] _] _] _) _ [] _)=_)
 show(xy (c:=false) (Bt_or (c:=false) (e:=false) (rn (c:=true) ?_) ((j7 kR (x:=jJ (vW line)) (y:=jJ (vW sg)) (jm (x:=jJ line) kR kR kD kD kR kR (jC kR kR (jP h6)) (jAk hl)) (jm (x:=jJ sg) kR kR kD kD kR kR (jC kR kR (jP h1)) (jAk hl2)) (jZ.strs.ne kD _ _)).trans (by rw[hs];simp)))).trans jV
 show(?_:((ev jH jK (n+29)).E true xG (xW l) _).bind uC=_)
 rw[jMp kR kR kR (jC kR kR (jP h6))]
 rfl
theorem st22(h1:l "rows"=some (.val (vX rows)))(h2:l "line"=some (.val (jJ line)))(hr:rows.length<=1000)(hl:line.length<=1000)(hc:(dz (oS rows) line).length<=1000):(ev jH jK (n+30)).S true xG l (qc 22)=some (.next,jA l "choices" (.val (kc (dz (oS rows) line)))):=by
 have jh:lim=1000000:=rfl
 show(?_:(ev jH jK (n+30)).S true xG l (.Assign [_] (.Call (.Name _ _) [.Lambda _ (.BinOp _ _ (.ListComp (.BinOp _ _ (.List [_] _) _) _ _ _) _) _ _,_,_] [] _) _)=_)
 show jS (kY (ds:=line.map .str) (as:=[.list []]) kR kR kR kR (jC kR kR (jD h2)) kR ?_) kR kR
 show yo (ea:=kc) (ex:= .str) (step:=qt (oS rows)) line [[]] fun P x Q e=> ?_
 have hg:=jL8 (oS rows) (x::Q) (P.foldl (qt (oS rows)) [[]])
 rw[<-List.foldl_append,<-e] at hg
 have hg:=x8 hg hc
 have hP:P.length<=line.length:=by rw[e,jNm];exact jOn _ _
 have he:=jL9 (oS rows) P [[]] 0 (fun C hC=>by rw[jw.mp hC];exact jNi 0)
 generalize P.foldl (qt (oS rows)) [[]]=made at hg he
 show(yG (l':=jA (jA (jF _ (j3 l)) "sign" (.str x)) "made" (kc made)) rfl).trans ?_
 have hf:=jNq (fun one=>(oS rows x).all fun a=>decide (a∈one)) made
 show jW (x:=kc made) (y:=kc ((made.filter fun one=>(oS rows x).all fun a=>decide (a∈one)).map (·++[x]))) (jC kR kR jL) ((vZ jJ (fun one=>(oS rows x).all fun a=>decide (a∈one)) (fun one=>jJ (one++[x])) made (oC (jC kR kR jL)) kR kR (fun one ho=> ?_) (fun one ho _=> ?_) j6).trans ?_) ((add_lists (by rw[jMu,jMu,jMu];lia)).trans ?_)
 .rw[<-lo_test]
  show(?_:qx _ _ _ _ [.Compare (.ListComp _ _ _ _) [_] [_] _]=_)
  show zW (j7 kR (x:=vX (rows.filter fun q=>decide (q.2=x)&& !decide (q.1∈one))) (y:=vX []) (vZ gn (fun q=>decide (q.2=x)&& !decide (q.1∈one)) gn rows (oC (jC kR kR ?_)) kR kR (fun q hq=> ?_) (fun q hq _=>by kernel_rfl) j6) kR (jZ.rows.eq kD _ _))
  .exact(jR kR kD).trans ((sN).trans ((jR kR kD).trans (jD h1)))
  .show zW (Bt_and (j7 kR (x:= .str q.2) (y:= .str x) kR kR (jZ.str.eq kD _ _)) (j7 kR (x:= .str q.1) (y:=jJ one) kR kR (jZ.str.notIn kD _ _)))
 .show jW (x:=jJ one) (y:=jJ [x]) kR kR ((add_lists ?_).trans ?_)
  .rw[jMu,jMu]
   have:=he one ho
   simp;lia
  .rw[<-jNr];rfl
 .unfold kc;rw[List.map_map];rfl
 .rw[<-jNr];rfl
noncomputable def fq(S:List Nat)(m:Nat)(C:List Str):Nat:=qR m (C.map (valS S))
theorem st23{cs:List (List Str)}(h1:l "choices"=some (.val (kc cs)))(h2:l "single"=some (.val (jf S)))(h3:l "signs"=some (.val (jJ (S.map fm))))(h4:l "least"=some (.val (nD m)))(hl:cs.length<=1000)(hS:S.length<=1000)(hm:∀C∈cs,∀s∈C,s∈S.map fm):(ev jH jK (n+30)).S true xG l (qc 23)=some (.next,jA l "sums" (.val (jf (cs.map (fq S m))))):=by
 have jh:lim=1000000:=rfl
 show(?_:(ev jH jK (n+30)).S true xG l (.Assign [_] (.ListComp (.Call (.Name _ _) [.Lambda _ (.BinOp _ _ (.Subscript _ (.Call (.Attribute _ _ _) [_] [] _) _) _) _ _,_,_] [] _) _ _ _) _)=_)
 show jS ((yi jJ (fun C=>nD (fq S m C)) cs (oC (jC kR kR (jD h1))) kR kR (fun C hC=> ?_) j6).trans ?_) kR kR
 .have hsum:fq S m C=C.foldl (fun made s=>made|||valS S s) m:=by
   unfold fq qR
   rw[List.foldl_map]
  rw[hsum]
  show jG9 (a:=(m:Int)) (ds:=C.map .str) kR kR kR kR kR (jC kR kR ?_) ?_
  .exact(jR kR kD).trans (jD h4)
  .show yo (ea:=nD) (ex:= .str) (step:=fun made s=>made|||valS S s) C m fun P x Q e=> ?_
   have hx:=hm C hC x (by rw[e];exact ju _ jy)
   show jE (jEi hx) fun k hk fB=> ?_
   have hv:valS S x=S.getD k 0:=by unfold valS;rw[hk];rfl
   rw[hv]
   rw[jMu] at fB
   generalize P.foldl (fun made s=>made|||valS S s) m=made
   show(yG (l':=jA (jA (jF _ _) "sign" (.str x)) "made" (nD made)) rfl).trans ?_
   show jW (x:=nD made) (y:=nD (S.getD k 0)) kR (j5 kR (x:=jf S) (y:=nD k) (jC kR kR ?_) (ui (x:=jJ (S.map fm)) kR kR kD kD kD (jC kR kR ?_) (rK (x:= .str x) kR kR) (jJf hk (by rw[jMu];assumption))) (wI fB hS)) (gV _ _)
   .exact(sN).trans ((jR kR kD).trans ((jR kR kD).trans (jD h2)))
   .exact(sN).trans ((jR kR kD).trans ((jR kR kD).trans (jD h3)))
 .unfold jf;rw[List.map_map];rfl
theorem jLt(t:List Nat):∀a,t.foldl (fun x y=>x+y) a=a+t.sum:=by
 induction t with
 |nil=>intro a;rfl
 |cons b t ih=>intro a;rw[List.foldl_cons,ih,jQi,jQh]
theorem st24{L:List Nat}(h1:l "sums"=some (.val (jf L)))(h2:l "family"=some (.val (jf F)))(hL:L≠[])(hl:L.length<64)(e1:wg L=F)(e2:L.sum=F.sum):(ev jH jK (n+30)).S true xG l (qc 24)=some (.ret (.bool true),l):=by
 have jh:lim=1000000:=rfl
 show(?_:(ev jH jK (n+30)).S true xG l (.Return (some (.BoolOp _ [.Compare (.Call (.Name _ _) [_] [] _) [_] [_] _,.Compare (.Call (.Name _ _) [.Lambda _ (.BinOp _ _ _ _) _ _,_] [] _) [_] [.Call (.Name _ _) [_] [] _] _] _)) _)=_)
 show kq ((E_and (ma kR (x:=jf (wg L)) (y:=jf F) (jm (x:=jf L) kR kR kD kD kR kR (jC kR kR (jP h1)) (jCu hl)) (jC kR kR (jP h2)) (d6.eq kD _ _)) (ma kR (x:=nD L.sum) (y:=nD F.sum) ?_ (jm (x:=jf F) kR kR kD kD kR kR (jC kR kR (jP h2)) (rN _)) (yk.eq kD _ _))).trans ?_)
 .induction L using cL with
  |nil=>exact absurd rfl hL
  |cons a t=>
   rw[jQi,<-jLt]
   show kZ (a:=nD a) (ds:=t.map nD) kR kR kR (jC kR kR (jP h1)) ?_
   show yo (ea:=nD) (ex:=nD) (step:=fun x y=>x+y) t a fun P x Q e=> ?_
   generalize P.foldl (fun x y=>x+y) a=made
   show(yG (l':=jA (jA (jF _ _) "other" (nD x)) "one" (nD made)) rfl).trans ?_
   exact jW (x:=nD made) (y:=nD x) kR kR (by show(?_:some (D.int ((made:Int)+(x:Int)))=some (D.int ((made+x:Nat):Int)));rw[Int.natCast_add])
 .rw[e1,e2];simp
structure Ord(R:Str->Str->Prop):Prop where
 irr:∀x,¬R x x
 tr:∀x y z,R x y->R y z->R x z
theorem Ord.min{R:Str->Str->Prop}(O:Ord R)(l:List Str)(h:l≠[]):∃m∈l,∀x∈l,¬R x m:=by
 induction l with
 |nil=>exact absurd rfl h
 |cons a l ih=>
  by_cases hl:l=[]
  .subst hl
   exact⟨a,jy,fun x hx=>by rw[jw.mp hx];exact O.irr _⟩
  .show jE (ih hl) fun m hm h=> ?_
   by_cases e:R a m
   .show⟨a,jy,fun x hx hxa=> ?_⟩
    rcases j0.mp hx with rfl|hx
    .exact O.irr _ hxa
    .exact h x hx (O.tr _ _ _ hxa e)
   .show⟨m,qV _ hm,fun x hx=> ?_⟩
    rcases j0.mp hx with e0|hx
    .rw[e0];exact e
    .exact h x hx
theorem jIr{seqs:List (List Str)}(rest:List (List Str)):(∀s∈rest,s≠[])->(∃s∈rest,∃c,s.head? =some c/\xX seqs c=true)->∃c,ym seqs rest=some c/\xX seqs c=true/\∃s∈rest,s.head? =some c:=by
 induction rest with
 |nil=>
  rintro _ ⟨s,hs,_⟩
  cases hs
 |cons s rest ih=>
  rintro je ⟨t,ht,c,h1,h2⟩
  have hs:=je s jy
  obtain⟨d,ds,rfl⟩:∃d ds,s=d::ds:=by
   induction s using cL with
   |nil=>exact absurd rfl hs
   |cons d ds=>exact⟨d,ds,rfl⟩
  show(?_:∃c,(if xX seqs d=true then some d else ym seqs rest)=some c/\_)
  by_cases e:xX seqs d=true
  .rw[jMt e]
   exact⟨d,rfl,e,_,jy,rfl⟩
  .rw[jMv e]
   rcases j0.mp ht with rfl|ht
   .have h1:some d=some c:=h1
    replace h1:=jX h1;subst h1
    exact absurd h2 e
   .obtain⟨c',g1,g2,u,hu,g3⟩:=ih (fun s hs=>je s (qV _ hs)) ⟨t,ht,c,h1,h2⟩
    exact⟨c',g1,g2,u,qV _ hu,g3⟩
noncomputable def total(seqs:List (List Str)):Nat:=(seqs.map List.length).sum
theorem jDc(seqs:List (List Str)):total (seqs.filter fun s=> !s.isEmpty)=total seqs:=by
 induction seqs with
 |nil=>
  exact rfl
 |cons s seqs ih=>
  have ih:=ih
  unfold total at ih ⊢
  induction s using cL with
  |nil=>rw[jPe (by simp)];simpa using ih
  |cons a s=>rw[jPd (by simp),jNv,jNv,jQi,jQi,ih]
theorem jFy(c:Str)(seqs:List (List Str)):total (seqs.map fun s=>if s.head? =some c then s.tail else s)<=total seqs/\((∃s∈seqs,s.head? =some c)->total (seqs.map fun s=>if s.head? =some c then s.tail else s)<total seqs):=by
 induction seqs with
 |nil=>
  exact⟨jNi _,fun⟨s,hs,_⟩=>by cases hs⟩
 |cons s seqs ih=>
  obtain⟨i1,i2⟩:=ih
  unfold total at *
  simp only[List.map_cons,List.sum_cons]
  by_cases e:s.head? =some c
  .rw[jMt e]
   have:s.tail.length+1=s.length:=by
    induction s using cL with
    |nil=>cases e
    |cons a s=>rfl
   exact⟨by lia,fun _=>by lia⟩
  .rw[jMv e]
   show⟨by lia,fun⟨t,ht,h⟩=> ?_⟩
   rcases j0.mp ht with rfl|ht
   .exact absurd h e
   .have:=i2 ⟨t,ht,h⟩;lia
theorem jGe{R:Str->Str->Prop}(O:Ord R)(m:Nat):∀(seqs:List (List Str)),total seqs<m->(∀s∈seqs,s.Pairwise R)->
  ∃out,vc m seqs=some out/\out.Nodup/\(∀z,z∈out↔∃s∈seqs,z∈s)/\∀s∈seqs,s.Sublist out:=by
 induction m with
 |zero=>
  intro _ h _
  exact absurd h (jOx _)
 |succ m ih=>
  intro seqs h hR
  rw[jEd]
  have ht:=jDc seqs
  have wj:∀s∈seqs.filter (fun s=> !s.isEmpty),s∈seqs/\s≠[]:=fun s hs=>by
   obtain⟨h1,h2⟩:=qX.mp hs
   exact⟨h1,fun e=>by rw[e] at h2;cases h2⟩
  have gq:∀s∈seqs,s∉seqs.filter (fun s=> !s.isEmpty)->s=[]:=fun s hs hn=>by
   induction s using cL with
   |nil=>rfl
   |cons a s=>exact absurd (qX.mpr ⟨hs,rfl⟩) hn
  generalize hl:seqs.filter (fun s=> !s.isEmpty)=live at *
  by_cases he:live=[]
  .subst he
   have nu:∀s∈seqs,s=[]:=fun s hs=>gq s hs (by simp)
   show⟨[],rfl,jO3,fun z=> ?_,fun s hs=>by rw[nu s hs];exact jP8 _⟩
   constructor
   .intro hz;cases hz
   .intro gO
    show jE gO fun s hs hz=> ?_;clear gO
    rw[nu s hs] at hz;cases hz
  .have sD:live.isEmpty=false:=by
    induction live using cL with
    |nil=>exact absurd rfl he
    |cons a r=>rfl
   rw[sD]
   simp only[Bool.false_eq_true,if_false]
   have hheads:live.filterMap List.head? ≠[]:=by
    induction live using cL with
    |nil=>exact absurd rfl he
    |cons a r=>
     induction a using cL with
     |nil=>exact absurd rfl (wj [] jy).2
     |cons x a=>simp
   show jE (O.min _ hheads) fun c0 hc0 hmin=> ?_
   show jE (jOo.mp hc0) fun s0 bo hh0=> ?_
   have hok0:xX live c0=true:=by
    unfold xX
    rw[jNe]
    intro t pH
    induction t using cL with
    |nil=>rfl
    |cons d t=>
     simp only[List.drop_succ_cons,List.drop_zero,Bool.not_eq_true',List.contains_eq_mem,decide_eq_false_iff_not]
     intro hm
     have hp:=List.rel_of_pairwise_cons (hR _ (wj _ pH).1) hm
     exact hmin d (jOo.mpr ⟨d::t,pH,rfl⟩) hp
   obtain⟨c,g1,g2,s1,kx,g3⟩:=jIr (seqs:=live) live (fun s hs=>(wj s hs).2) ⟨s0,bo,c0,hh0,hok0⟩
   rw[g1]
   have br:∀s∈live,c∉s.tail:=fun s hs hm=>by
    have:=jNe.mp g2 s hs
    rw[List.drop_one] at this
    simp at this
    exact this hm
   have jv:=(jFy c live).2 ⟨s1,kx,g3⟩
   have hR':∀s∈live.map (fun s=>if s.head? =some c then s.tail else s),s.Pairwise R:=fun s hs=>by
    show lE hs ?_;rintro t pH rfl
    have hp:=hR t (wj t pH).1
    split
    .induction t using cL with
     |nil=>exact hp
     |cons d t=>exact(jOa.mp hp).2
    .exact hp
   obtain⟨out,k1,k2,k3,k4⟩:=ih (live.map fun s:List Str=>if s.head? =some c then s.tail else s) (by lia) hR'
   have hcn:c∉out:=fun hm=>by
    show jE ((k3 c).mp hm) fun s hs hz=> ?_
    show lE hs ?_;rintro t pH rfl
    split at hz
    .exact br t pH hz
    .rename_i je
     induction t using cL with
     |nil=>cases hz
     |cons d t=>
      rcases j0.mp hz with rfl|hz
      .exact je rfl
      .exact br _ pH hz
   show⟨c::out,by show(?_:(vc m _).map (c::·)=_);rw[k1];rfl,xw.mpr ⟨hcn,k2⟩,fun z=> ?_,fun s hs=> ?_⟩
   .constructor
    .intro hz
     rcases j0.mp hz with rfl|hz
     .show⟨s1,(wj s1 kx).1,?_⟩
      induction s1 using cL with
      |nil=>cases g3
      |cons d t=>
       have:some d=some z:=g3
       replace this:=jX this;subst this
       exact jy
     .show jE ((k3 z).mp hz) fun s hs hz=> ?_
      show lE hs ?_;rintro t pH rfl
      show⟨t,(wj t pH).1,?_⟩
      split at hz
      .exact List.mem_of_mem_tail hz
      .exact hz
    .intro gO
     show jE gO fun s hs hz=> ?_;clear gO
     have mj:s∈live:=Classical.byContradiction fun hn=>by rw[gq s hs hn] at hz;cases hz
     by_cases e:z=c
     .rw[e];exact jy
     .show qV _ ((k3 z).mpr ⟨_,jMs mj,?_⟩)
      split
      .induction s using cL with
       |nil=>cases hz
       |cons d t=>
        rename_i h
        have:some d=some c:=h
        replace this:=jX this;subst this
        rcases j0.mp hz with rfl|hz
        .exact absurd rfl e
        .exact hz
      .exact hz
   .by_cases mj:s∈live
    .have:=k4 _ (jMs (f:=fun s:List Str=>if s.head? =some c then s.tail else s) mj)
     split at this
     .induction s using cL with
      |nil=>exact List.nil_sublist _
      |cons d t=>
       rename_i h
       have h:some d=some c:=h
       replace h:=jX h;subst h
       exact List.Sublist.cons_cons _ this
     .exact List.Sublist.cons _ this
    .rw[gq s hs mj]
     exact List.nil_sublist _
theorem jIf{a b:List Str}:vW a=vW b↔a.Perm b:=by
 constructor
 .intro h
  have h1:=jOy a strLe
  have h2:=jOy b strLe
  have h:a.mergeSort strLe=b.mergeSort strLe:=h
  exact h1.symm.trans (h▸h2)
 .intro h
  exact jPz (le:=fun a b=>strLe a b=true) (fun a b _ _ h g=>jAd a b h g) (jPc zJ vw a) (jPc zJ vw b) ((jOy a strLe).trans (h.trans (jOy b strLe).symm))
def RR(s t:Str):Prop:=∃x y,x<4096/\y<4096/\x≠y/\Sub x y/\s=fm x/\t=fm y
theorem RR_ord:Ord RR where
 irr:=fun s ⟨x,y,hx,hy,je,_,h1,h2⟩=>je (uc hx hy (h1.symm.trans h2))
 tr:=fun s t u ⟨x,y,hx,hy,je,hs,h1,h2⟩ ⟨x',y',th,iS,hne',wD,h1',h2'⟩=>by
  have e:y=x':=uc hy th (h2.symm.trans h1')
  subst e
  exact⟨x,y',hx,iS,fun e=>je (by subst e;exact vk hs wD),yd hs wD,h1,h2'⟩
noncomputable def zE(S:List Nat):List (List Str):=(S.map fm).map (fun s=>[s])++(ql S).map fun q=>[q.1,q.2]
end
section
variable{S:List Nat}(jv:∀x∈S,x<4096)
include jv
theorem zd{q:Str×Str}:q∈ql S↔∃x∈S,∃y∈S,x≠y/\Sub x y/\q=(fm x,fm y):=by
 unfold ql
 rw[List.mem_flatMap]
 constructor
 .rintro ⟨x,hx,h⟩
  show jE (jo.mp h) ?_;rintro y hy rfl
  obtain⟨hy,h2⟩:=qX.mp hy
  have h2:(!decide (fm x=fm y)&&yY (fm x) (fm y))=true:=h2
  generalize hb:yY (fm x) (fm y)=bb at h2
  obtain⟨h3,h4⟩:=jM2.mp h2
  have h5:yY (fm x) (fm y)=true:=hb.trans h4
  have h6:Sub x y:=(ye (y:=y) (jv x hx)).mp h5
  show⟨x,hx,y,hy,fun e=> ?_,h6,rfl⟩
  have e2:fm x=fm y:=jM8 fm e
  rw[jMx e2] at h3
  cases h3
 .rintro ⟨x,hx,y,hy,je,hs,rfl⟩
  have h3:fm x≠fm y:=fun e=>je (uc (jv x hx) (jv y hy) e)
  have h4:=(ye (y:=y) (jv x hx)).mpr hs
  show⟨x,hx,jo.mpr ⟨y,qX.mpr ⟨hy,?_⟩,rfl⟩⟩
  show(?_:(!decide (fm x=fm y)&&yY (fm x) (fm y))=true)
  rw[h4,jNb h3];rfl
theorem mem_loR(a b:Str):b∈oS (ql S) a↔∃x∈S,∃y∈S,x≠y/\Sub x y/\fm x=b/\fm y=a:=by
 unfold oS
 rw[List.mem_map]
 constructor
 .rintro ⟨q,hq,rfl⟩
  obtain⟨h1,h2⟩:=qX.mp hq
  obtain⟨x,hx,y,hy,je,hs,rfl⟩:=(zd jv).mp h1
  exact⟨x,hx,y,hy,je,hs,rfl,by simpa using h2⟩
 .rintro ⟨x,hx,y,hy,je,hs,rfl,rfl⟩
  exact⟨(fm x,fm y),qX.mpr ⟨(zd jv).mpr ⟨x,hx,y,hy,je,hs,rfl⟩,by simp⟩,rfl⟩
theorem seqs_RR:∀s∈zE S,s.Pairwise RR:=by
 intro s hs
 rcases jj.mp hs with h|h
 .show jE (jo.mp h) ?_;rintro t _ rfl
  exact jRd _ _
 .show jE (jo.mp h) ?_;rintro q hq rfl
  obtain⟨x,hx,y,hy,je,jx,rfl⟩:=(zd jv).mp hq
  exact List.pairwise_pair.mpr ⟨x,y,jv x hx,jv y hy,je,jx,rfl,rfl⟩
omit jv in
theorem jBj(k:Nat)(l:List (List Str)):(∀s∈l,s.length=k)->total l=l.length * k:=by
 induction l with
 |nil=>
  intro _
  simp[total]
 |cons s l ih=>
  intro h
  have ih:=ih fun t ht=>h t (qV _ ht)
  have e:total (s::l)=s.length+total l:=by unfold total;rw[List.map_cons,List.sum_cons]
  rw[e,ih,h s jy,jNo,Nat.add_mul,Nat.one_mul,jO9]
omit jv in
theorem jF8(hl:S.length<=18):total (zE S)<900:=by
 have e:total (zE S)=total ((S.map fm).map fun s=>[s])+total ((ql S).map fun q=>[q.1,q.2]):=by
  unfold total zE
  rw[jNr,List.sum_append]
 have h1:=jBj 1 ((S.map fm).map fun s=>[s]) fun s hs=>by
  show jE (jo.mp hs) ?_;rintro t _ rfl;rfl
 have h2:=jBj 2 ((ql S).map fun q=>[q.1,q.2]) fun s hs=>by
  show jE (jo.mp hs) ?_;rintro t _ rfl;rfl
 have h3:=wQ hl
 rw[jMu,jMu] at h1
 rw[jMu] at h2
 lia
theorem jI4(hn:S.Nodup)(hl:S.length<=18):∃out,vc 900 (zE S)=some out/\out.Nodup/\out.Perm (S.map fm)/\∀x∈S,∀y∈S,x≠y->Sub x y->[fm x,fm y].Sublist out:=by
 obtain⟨out,h1,h2,h3,h4⟩:=jGe RR_ord 900 (zE S) (jF8 hl) (seqs_RR jv)
 have gk:(S.map fm).Nodup:=jPa.mpr (hn.imp_of_mem fun hx hy je e=>je (uc (jv _ hx) (jv _ hy) e))
 show⟨out,h1,h2,(jPo h2 gk).mpr fun z=>(h3 z).trans ?_,fun x hx y hy je hs=>h4 _ (ju _ (jo.mpr ⟨(fm x,fm y),(zd jv).mpr ⟨x,hx,y,hy,je,hs,rfl⟩,rfl⟩))⟩
 constructor
 .rintro ⟨s,hs,hz⟩
  rcases jj.mp hs with h|h
  .show jE (jo.mp h) ?_;rintro t ht rfl
   rw[jw.mp hz];exact ht
  .show jE (jo.mp h) ?_;rintro q hq rfl
   obtain⟨x,hx,y,hy,je,hs,rfl⟩:=(zd jv).mp hq
   simp only[List.mem_cons,List.not_mem_nil,or_false] at hz
   rcases hz with e0|rfl
   .rw[e0];exact jMs hx
   .exact jMs hy
 .intro hz
  exact⟨[z],xP _ (jo.mpr ⟨z,hz,rfl⟩),jw.mpr rfl⟩
end
structure Plain2(a b c:Nat)(out:List Str):Prop where
 mg:vc 900 (zE (jb (y7 a b c) (qo a b c)))=some out
 pm:out.Perm ((jb (y7 a b c) (qo a b c)).map fm)
 sums:((dz (oS (ql (jb (y7 a b c) (qo a b c)))) out).map (fq (jb (y7 a b c) (qo a b c)) (qo a b c))).Perm (y7 a b c)
 lt:∀x∈jb (y7 a b c) (qo a b c),x<4096
 len:(jb (y7 a b c) (qo a b c)).length<=18
 sub:∀C∈dz (oS (ql (jb (y7 a b c) (qo a b c)))) out,∀s∈C,s∈(jb (y7 a b c) (qo a b c)).map fm
theorem chs_sub{α:Type}[DecidableEq α](lo:α->List α)(P:List α):∀(made:List (List α)) (q:α->Prop),(∀s∈P,q s)->(∀C∈made,∀s∈C,q s)->∀C∈P.foldl (qt lo) made,∀s∈C,q s:=by
 induction P with
 |nil=>
  intro _ _ _ h
  exact h
 |cons x P ih=>
  intro made q hp h
  exact ih (qt lo made x) q (fun s hs=>hp s (qV _ hs)) fun D hD=>by
    unfold qt at hD
    rcases jj.mp hD with hD|hD
    .exact h D hD
    .show jE (jo.mp hD) ?_;rintro D0 h0 rfl
     intro s hs
     rcases jj.mp hs with hs|hs
     .exact h D0 (qX.mp h0).1 s hs
     .rw[jw.mp hs];exact hp x jy
theorem plain2{a b c:Nat}(ha:a<4096)(hb:b<4096)(hc:c<4096):∃out,Plain2 a b c out:=by
 have hF:=g9 ha hb hc
 have jv:=jCv (m:=qo a b c) hF.2
 have hl:=x8 (jBl (F:=y7 a b c) (qo a b c)) hF.1
 have hn:=jDg (qo a b c) (zx a b c)
 obtain⟨out,h1,h2,h3,h4⟩:=jI4 jv hn hl
 exact⟨out,{
  mg:=h1
  pm:=h3
  sums:=jDl (kT a b c) (zx a b c) (fm:=fm) (fun x hx=>valS_fm jv hx) h2 (fun z=>h3.mem_iff) h4 (mem_loR jv)
  lt:=jv
  len:=hl
  sub:=chs_sub _ out [[]] (·∈(jb (y7 a b c) (qo a b c)).map fm) (fun s hs=>h3.mem_iff.mp hs) fun C hC s hs=>by
   rw[jw.mp hC] at hs;cases hs }⟩
section
variable{C:Cx}{n:Nat}{r:Ev}{k:Bool}{A:Around}{env:Env}{Y Y':List Addr}{OL N:yR}{l l':jN}{s s' s1 s2 s₁:Shared}
theorem FS.drop(fs:FS C n k A env Y OL l s)(h:∀x ds,l x≠some (.own ds)):FS C n k A env (qQ OL++Y) [] l s where
 pre:=fs.pre
 hP:=ju _ fs.hP
 cY:=fun p hp=>ju _ (fs.cY p hp)
 own:=⟨fun a ha=>fs.own.ne a (ju _ (by simpa using ha)),fun a ha=>fs.own.code a (ju _ (by simpa using ha)),fun a ha=>fs.own.ex a (ju _ (by simpa using ha))⟩
 wY:=fun a ha=>ju _ (fs.wY a ha)
 nY:=fun p hp=>by cases hp
 ap:=jOv
 cw:=fs.cw
 lst:=fun x ds e=>absurd e (h x ds)
def LA(C:Cx)(n:Nat)(A:Around)(env:Env)(s₁:Shared)(l:jN)(s:Shared):Prop:=(∃Y,FS C n true A env Y [] l s)/\∃h tk,s={ s₁ with heap:=h,toks:=tk }
theorem LA.kw{Z:Addr->Prop}{s₁:Shared}(x:∃h tk,s={ s₁ with heap:=h,toks:=tk })(k:KW C Z s s'):∃h tk,s'={ s₁ with heap:=h,toks:=tk }:=by
 show oP x ?_;clear x;rintro h tk rfl
 obtain⟨h1,t1,rfl,_⟩:=k
 exact⟨h1,t1,rfl⟩
def noOwn(l:jN):Prop:=∀x ds,l x≠some (.own ds)
theorem noOwn.set(h:noOwn l){x:Str}{d:D}:noOwn (jA l x (.val d)):=fun y ds e=>by
 unfold jA at e
 split at e
 .cases e
 .exact h y ds e
theorem dS(S:gL C n r){ss rest:List Stmt}{Q:wc}{E:qN}(h:LA C n A env s₁ l s)(hs:qd r true env.scope l ss=some (.next,l'))(hn:noOwn l')(q:∀s',LA C n A env s₁ l' s'->wpAny C.M A (execs rest env) Q E s'):wpAny C.M A (execs (ss++rest) env) Q E s:=by
 obtain⟨⟨Y,fs⟩,hh⟩:=h
 exact uQ S.S rest ss [] l l' .next s Q E fs hs fun s' N hN kw cX=>q s' ⟨⟨_,cX.drop hn⟩,LA.kw hh kw⟩
theorem seg_end(S:gL C n r){ss:List Stmt}{Q:wc}{E:qN}{d:D}(h:LA C n A env s₁ l s)(hs:qd r true env.scope l ss=some (.ret d,l'))(q:∀v s' (Y:List Addr),(∃h tk,s'={ s₁ with heap:=h,toks:=tk })->RD C s'.heap Y v d->Gr C s'->Q (.ret v) s'):wpAny C.M A (execs ss env) Q E s:=by
 obtain⟨⟨Y,fs⟩,hh⟩:=h
 show xa S.S ss [] l l' (.ret d) s Q E fs hs fun v s' kw rd=>q v s' Y (LA.kw hh kw) rd ?_
 show fs.pre.gr.kw fs.pre.bs kw fun b hb=> ?_
 have:b∈jB env:=by simpa using hb
 exact fs.pre.hY b (ju _ (fs.wY b this))
theorem uh{x:Str}{p:Pos}{Q E:qN}(q:Q (.str x s.toks) { s with toks:=s.toks+1 }):wpAny C.M A (eval (.Constant (.str x) 0 p) env) Q E s:=by
 rw[jQ5]
 exact jRh q
theorem jGc{x:Str}{x1 x2 x3:Str}{p0 p1 p2 p3 p4 p5:Pos}{Q:wc}{E:qN}(h:LA C n A env s₁ l s)(hx:env.kindOf x=some .local\/env.kindOf x=some .cell)
  (q:∀s',0<s'.toks->LA C n A env s₁ (jA l x (.val (jJ [x1,x2,x3]))) s'->Q .next s'):
  wpAny C.M A (exec (.Assign [.Name x p0] (.List [.Constant (.str x1) 0 p1,.Constant (.str x2) 0 p2,.Constant (.str x3) 0 p3] p4) p5) env) Q E s:=by
 obtain⟨⟨Y,fs⟩,hh⟩:=h
 show jOt ?_ (by rfl)
 show jRi ?_
 have pl:∀(x:Str) (p:Pos),isStarred (.Constant (.str x) 0 p)=false:=fun _ _=>rfl
 show jPk (jNh (uh (jPk (jNh (uh (jPk (jNh (uh (jQ8 ⟨by simp;decide,?_⟩)) (fun _ _ x=>x) fun _ _ x=>x) (jI (pl _ _)))) (fun _ _ x=>x) fun _ _ x=>x) (jI (pl _ _)))) (fun _ _ x=>x) fun _ _ x=>x) (jI (pl _ _))
 show(?_:wpAny C.M A (storeName env x (.ref s.heap.objs.size)) (fun _=>Q .next) E { s with heap:=s.heap.push (j4 [.str x1 s.toks,.str x2 (s.toks+1),.str x3 (s.toks+1+1)] 0),toks:=s.toks+1+1+1 })
 have kp:KP C s ({ s with heap:=s.heap.push (j4 [.str x1 s.toks,.str x2 (s.toks+1),.str x3 (s.toks+1+1)] 0),toks:=s.toks+1+1+1 }:Shared):=KP.push (by simp+arith only)
 have rd:RD C ({ s with heap:=s.heap.push (j4 [.str x1 s.toks,.str x2 (s.toks+1),.str x3 (s.toks+1+1)] 0),toks:=s.toks+1+1+1 }:Shared).heap (qQ []++Y) (.ref s.heap.objs.size) (jJ [x1,x2,x3]):=
  .list (n:=0) (xN (tk:=s.toks) (by simpa using fs.pre.lt) rfl) (.cons (.str _ _) (.cons (.str _ _) (.cons (.str _ _) .nil)))
 have dB:0<({ s with heap:=s.heap.push (j4 [.str x1 s.toks,.str x2 (s.toks+1),.str x3 (s.toks+1+1)] 0),toks:=s.toks+1+1+1 }:Shared).toks:=by show(?_:0<s.toks+1+1+1);exact jRk _
 generalize ({ s with heap:=s.heap.push (j4 [.str x1 s.toks,.str x2 (s.toks+1),.str x3 (s.toks+1+1)] 0),toks:=s.toks+1+1+1 }:Shared)=s2 at kp rd dB ⊢
 have xd:=fs.kp kp
 exact ne (xd.assign hx rd fun s3 wZ yM=>q s3 (jNc dB wZ.toks) ⟨⟨Y,yM⟩,LA.kw (LA.kw hh (KP.kw kp (Z:=fun _=>False))) wZ⟩)
theorem LA.full(bs:Base C)(h:LA C.bare n A env s₁ l s)(ht:0<s.toks):LA C n A env s₁ l s:=by
 obtain⟨⟨Y,fs⟩,hh⟩:=h
 exact⟨⟨Y,fs.full bs ht⟩,hh⟩
def LV(l:jN)(kv:xQ):Prop:=∀y d,kv.lookup y=some d->l y=some (.val d)
theorem LV.set{kv:xQ}(h:LV l kv){x:Str}{d:D}:LV (jA l x (.val d)) ((x,d)::kv):=by
 intro y e hy
 rw[jMz] at hy
 by_cases hx:y=x
 .subst hx
  rw[jPq] at hy
  replace hy:=jX hy;subst hy
  exact jL
 .rw[jNn.mpr hx] at hy
  exact(qO hx).trans (h y e hy)
theorem jFk{kv:xQ}{y:Str}{d:D}:∀{n:Nat},(kv.take n).lookup y=some d->kv.lookup y=some d:=by
 induction kv with
 |nil=>intro n e;rw[List.take_nil] at e;exact e
 |cons p kv ih=>
  intro n e
  induction n using cN with
  |zero=>cases e
  |succ n=>
   rw[List.take_succ_cons,jMz] at e
   rw[jMz]
   generalize hb:(y==p.1)=x0;induction x0 using cT with
   |true=>rw[hb] at e;exact e
   |false=>rw[hb] at e;exact ih e
theorem LV.take{kv:xQ}(h:LV l kv)(n:Nat):LV l (kv.take n):=fun y d e=>h y d (jFk e)
def v9(r:Ev)(sc:Scope)(l:jN)(ss:List Stmt)(P:jN->Prop):Prop:=∃L,qd r true sc l ss=some (.next,L)/\P L/\noOwn L
end
section
variable{r:Ev}{sc:Scope}{l:jN}{s:Stmt}{ss:List Stmt}{kv:xQ}{P:jN->Prop}
theorem v9.nil(hl:P l)(hn:noOwn l):v9 r sc l [] P:=⟨l,jV,hl,hn⟩
theorem v9.cons{x:Str}{d:D}(hl:LV l kv)(hn:noOwn l)(h:r.S true sc l s=some (.next,jA l x (.val d)))(next:∀l',LV l' ((x,d)::kv)->noOwn l'->v9 r sc l' ss P):v9 r sc l (s::ss) P:=by
 show jE (next _ hl.set hn.set) fun L e g=> ?_
 exact⟨L,(jQ h).trans e,g⟩
theorem v9.same(h:r.S true sc l s=some (.next,l))(next:v9 r sc l ss P):v9 r sc l (s::ss) P:=by
 show jE next fun L e g=> ?_;clear next
 exact⟨L,(jQ h).trans e,g⟩
noncomputable def rbin(e:Expr):Expr:=by
 induction e using cE with
 |BinOp _ _ b _=>exact b
 |_=>exact fZ
noncomputable def mL:Expr:=compOf (qc 20)
noncomputable def mR:Expr:=rbin (rE (bG (bZ (qc 20))) 0)
noncomputable def ck(e:Expr):Expr:=by
 induction e using cE with
 |List es _=>exact rE es 0
 |_=>exact fZ
variable{n:Nat}{rows:nG}{sg:List Str}
theorem st20a(h1:l "signs"=some (.val (jJ sg))):
  comp (ev jH jK (n+30)) true (jO xG (fF mL)) (fun l'=>((ev jH jK (n+30)).E true (jO xG (fF mL)) l' (ck (lr mL))).bind t6) [mD mL] (jF (fF mL) (j3 l)) (sg.map .str)=some (qf (sg.map fun s=>[s])):=by
 show(?_:compLoop (ev jH jK (n+30)) true _ _ ⟨.Name _ _,_,[],_⟩ (fun l'=>(((ev jH jK (n+30)).E true (jO xG (fF mL)) l' (.Name "sign" _)).bind t6).map fun x=>[x]) (sg.map .str)=_)
 show(fN (emit:=fun l'=>((ev jH jK (n+30)).E true (jO xG (fF mL)) l' (.Name "sign" _)).bind t6) D.str (fun _=>true) (fun s=>jJ [s]) sg _ kR (fun _ _=>rfl) ?_).trans ?_
 .intro q hq _
  show(?_:((ev jH jK (n+30)).E true _ (jA _ "sign" (.str q)) (.Name "sign" _)).bind t6=_)
  rw[jC kR kR jL]
  rfl
 .rw[jQp.mpr fun _ _=>rfl]
  unfold qf
  rw[jOz];rfl
theorem jIc{xs:List Str}(h:xs.length<=lim):fu (jJ xs)=some (jJ xs):=by
 show(?_:(if (strs? (xs.map D.str)).isSome/\(xs.map D.str).length<=lim then some (D.list (xs.map D.str)) else none)=_)
 rw[strs_map,jMt ⟨rfl,by simpa using h⟩];rfl
theorem st20b(h1:l "rows"=some (.val (vX rows))):
  comp (ev jH jK (n+30)) true (jO xG (fF mR)) (fun l'=>((ev jH jK (n+30)).E true (jO xG (fF mR)) l' (sP mR)).bind fu) [mD mR] (jF (fF mR) (j3 l)) (rows.map gn)=some (qf (rows.map fun q=>[q.1,q.2])):=by
 have jh:lim=1000000:=rfl
 show(?_:compLoop (ev jH jK (n+30)) true _ _ ⟨.Name _ _,_,[],_⟩ (fun l'=>(((ev jH jK (n+30)).E true (jO xG (fF mR)) l' (.Name "row" _)).bind fu).map fun x=>[x]) (rows.map gn)=_)
 show(fN (emit:=fun l'=>((ev jH jK (n+30)).E true (jO xG (fF mR)) l' (.Name "row" _)).bind fu) gn (fun _=>true) gn rows _ kR (fun _ _=>rfl) ?_).trans ?_
 .intro q hq _
  show(?_:((ev jH jK (n+30)).E true _ (jA _ "row" (gn q)) (.Name "row" _)).bind fu=_)
  rw[jC kR kR jL]
  exact jIc (xs:=[q.1,q.2]) (by simp;decide)
 .rw[jQp.mpr fun _ _=>rfl]
  unfold qf
  rw[jOz];rfl
theorem msc2:MSc yl.scope where
 nm:=by decide+kernel
 ok:=fun p2 p3 p4=>by kernel_rfl
theorem jGm:fx.body=[qc 0,qc 1,qc 2]++(qc 3::([qc 4,qc 5,qc 6]++(qc 7::([qc 8,qc 9,qc 10,qc 11,qc 12,qc 13,qc 14,qc 15,qc 16,qc 17,qc 18,qc 19]++(qc 20::[qc 21,qc 22,qc 23,qc 24]))))):=kR
noncomputable abbrev oM(xs:List Int):List Nat:=y7 (yt xs 0) (yt xs 1) (yt xs 2)
noncomputable abbrev zm(xs:List Int):Nat:=qo (yt xs 0) (yt xs 1) (yt xs 2)
noncomputable abbrev jY(xs:List Int):List Nat:=jb (oM xs) (zm xs)
theorem segB{xs:List Int}(hx:xs.length=4)(h:LV l [("names",jJ uT),("numbers",.list (xs.map .int))])(hn:noOwn l):
  v9 (ev jH jK 60) xG l [qc 4,qc 5,qc 6] (fun L=>LV L [("spoiled",.list ((fH xs).map jJ)),("odd",.list (t7.map jJ)),("modes",.list ((vN xs).map .int)),("names",jJ uT),("numbers",.list (xs.map .int))]):=by
 show .cons h hn (st4 (n:=30) hx (h _ _ kR)) fun l h hn=> ?_
 show .cons h hn (st5 (n:=30)) fun l h hn=> ?_
 show .cons h hn (st6 (n:=30) hx (h _ _ kR) (h _ _ kR)) fun l h hn=> ?_
 exact .nil h hn
theorem fam_ne(xs:List Int):oM xs≠[]:=fun e=>by
 have:=(kT (yt xs 0) (yt xs 1) (yt xs 2)).mm
 rw[show y7 (yt xs 0) (yt xs 1) (yt xs 2)=[] from e] at this
 cases this
theorem segC{xs:List Int}(h:LV l [("told",vG xs),("spoiled",.list ((fH xs).map jJ)),("odd",.list (t7.map jJ)),("modes",.list ((vN xs).map .int)),("names",jJ uT),("numbers",.list (xs.map .int))])(hn:noOwn l):
  v9 (ev jH jK 60) xG l [qc 8,qc 9,qc 10,qc 11,qc 12,qc 13,qc 14,qc 15,qc 16,qc 17,qc 18,qc 19] (fun L=>LV L [("rows",vX (ql (jY xs))),("signs",jJ ((jY xs).map fm)),("single",jf (jY xs)),("lesser",fO (oM xs)),("least",nD (zm xs)),("family",jf (oM xs))]):=by
 have ha:=yV xs 0
 have hb:=yV xs 1
 have hc:=yV xs 2
 have hF:=g9 ha hb hc
 have hN:=zx (yt xs 0) (yt xs 1) (yt xs 2)
 have hR:=kT (yt xs 0) (yt xs 1) (yt xs 2)
 have jv:=jCv (m:=zm xs) hF.2
 have hl:=x8 (jBl (F:=oM xs) (zm xs)) hF.1
 show .cons h hn (st8 (n:=30) (xs:=xs) (h _ _ kR)) fun l h hn=> ?_
 show .same (st9 (n:=30) (xs:=xs) (h _ _ kR) (h _ _ kR) (h _ _ kR) (h _ _ kR)) ?_
 show .same (st10 (n:=30) (xs:=xs) (h _ _ kR) (h _ _ kR) (h _ _ kR)) ?_
 show .cons h hn (st11 (n:=30) (xs:=xs) (h _ _ kR) (h _ _ kR)) fun l h hn=> ?_
 show .cons h hn (st12 (n:=30) (a:=yt xs 0) (b:=yt xs 1) (c:=yt xs 2) (h _ _ kR)) fun l h hn=> ?_
 show .cons h hn (st13 (n:=30) ha hb hc (h _ _ kR)) fun l h hn=> ?_
 show .same (st14 (n:=30) (xs:=xs) (h _ _ kR) (h _ _ kR)) ?_
 show .cons h hn (st15 (n:=30) (a:=yt xs 0) (b:=yt xs 1) (c:=yt xs 2) (h _ _ kR)) fun l h hn=> ?_
 show .cons h hn (st16 (n:=30) (F:=oM xs) (h _ _ kR) (fam_ne xs) hN (by have:=hF.1;lia)) fun l h hn=> ?_
 show .cons h hn (st17 (n:=30) (F:=oM xs) (m:=zm xs) hR (h _ _ kR) (h _ _ kR) (h _ _ kR) hN (by have:=hF.1;lia)) fun l h hn=> ?_
 show .cons h hn (st18 (n:=30) (S:=jY xs) (h _ _ kR) jv (by lia)) fun l h hn=> ?_
 show .cons h hn (st19 (n:=30) (S:=jY xs) (h _ _ kR) hl) fun l h hn=> ?_
 exact .nil (h.take 6) hn
theorem segD{xs:List Int}{out:List Str}(h:LV l [("line",jJ out),("rows",vX (ql (jY xs))),("signs",jJ ((jY xs).map fm)),("single",jf (jY xs)),("lesser",fO (oM xs)),("least",nD (zm xs)),("family",jf (oM xs))])(P:Plain2 (yt xs 0) (yt xs 1) (yt xs 2) out):
  ∃L,qd (ev jH jK 60) true xG l [qc 21,qc 22,qc 23,qc 24]=some (.ret (.bool true),L):=by
 have hF:=g9 (yV xs 0) (yV xs 1) (yV xs 2)
 have hlen:=P.sums.length_eq
 rw[jMu] at hlen
 have gq:=P.pm.length_eq
 rw[jMu] at gq
 have hl:=P.len
 have hr:=wQ hl
 have hfs:=jI6 P.sums (jA8 _ _ _)
 have a21:=st21 (n:=30) (l:=l) (sg:=(jY xs).map fm) (line:=out) (h "signs" _ kR) (h "line" _ kR) (by lia) (by rw[List.length_map];lia) (jIf.mpr P.pm)
 have a22:=st22 (n:=30) (l:=l) (rows:=ql (jY xs)) (line:=out) (h "rows" _ kR) (h "line" _ kR) (by lia) (by lia) (by lia)
 have h2:=h.set (x:="choices") (d:=kc (dz (oS (ql (jY xs))) out))
 have a23:=st23 (n:=30) (S:=jY xs) (m:=zm xs) (cs:=dz (oS (ql (jY xs))) out) (h2 "choices" _ kR) (h2 "single" _ kR) (h2 "signs" _ kR) (h2 "least" _ kR) (by lia) (by lia) P.sub
 have h3:=h2.set (x:="sums") (d:=jf ((dz (oS (ql (jY xs))) out).map (fq (jY xs) (zm xs))))
 have a24:=st24 (n:=30) (F:=oM xs) (L:=(dz (oS (ql (jY xs))) out).map (fq (jY xs) (zm xs))) (h3 "sums" _ kR) (h3 "family" _ kR) (fun e=>by
  have:=P.sums.length_eq
  rw[e] at this
  exact fam_ne xs (jOe.mp this.symm)) (by rw[jMu];lia) hfs.1 hfs.2
 exact⟨_,(jQ a21).trans ((jQ a22).trans ((jQ a23).trans (uP a24)))⟩
variable{C:Cx}{xD xH:Addr}{s₁:Shared}{ns:List Int}
theorem law2_body(bs:Base C)(hf:C.fns=jH)(hg:C.glob=jK)(X:wb C xD xH)(hns:ns.length<=1000):
  ∀env s,KP C.bare s₁ s->FS C.bare 60 true (callerA.deeper env) env (jB env++[C.P]) [] (jA (fun _=>none) "script" (.val (.list (ns.map .int)))) s->env.scope=fx.scope->env.frame=some env.locals->(∀p∈env.cells,p.2∈jB env)->
   wpAny C.M (callerA.deeper env) (execs fx.body env) (EndQ1 C s₁) NE s:=by
 intro env s kp fs qE oV xY
 have S0:gL C.bare 60 (ev [] jK 60):=by
  have:=dQ bs.bare 60 60 nL
  rw[show C.bare.glob=jK from hg] at this
  exact this
 have S:gL C 60 (ev jH jK 60):=by
  have:=dQ bs 60 60 nL
  rw[hf,hg] at this
  exact this
 have aq:=jIu ns
 generalize rz:jA (fun _=>none) "script" (B.val (.list (ns.map .int)))=L0 at fs
 have n0:noOwn L0:=by
  rw[<-rz]
  intro x ds e
  unfold jA at e
  split at e <;> cases e
 have la0:LA C.bare 60 (callerA.deeper env) env s₁ L0 s:=by
  obtain⟨h',tk,rfl,_⟩:=kp
  exact⟨⟨_,fs⟩,h',tk,rfl⟩
 have v0:L0 "script"=some (.val (.list (ns.map .int))):=by rw[<-rz];exact jL
 have w0:LV L0 [("script",.list (ns.map .int))]:=fun y d e=>by
  rw[jMz] at e
  by_cases hy:y="script"
  .rw[hy,jPq] at e
   replace e:=jX e;subst e
   rw[hy];exact v0
  .rw[jNn.mpr hy] at e
   cases e
 clear rz fs kp
 rw[jGm]
 have segA:v9 (ev [] jK 60) xG L0 [qc 0,qc 1,qc 2] (fun L=>LV L [("numbers",.list ((oY ns).map .int))]):=by
  show .cons w0 n0 (stm0 (n:=40) v0 hns) fun l h hn=> ?_
  show .cons h hn (vL (n:=40)) fun l h hn=> ?_
  show .cons h hn (ei (n:=40) (ns:=ns) (h _ _ kR) (h _ _ kR)) fun l h hn=> ?_
  show .nil (fun y d e=>h y d ?_) hn
  rw[jMz] at e ⊢
  by_cases hy:y="numbers"
  .rw[hy,jPq] at e ⊢
   exact e
  .rw[jNn.mpr hy] at e
   cases e
 show qk segA fun L1 rA w1 n1=> ?_;clear segA
 show dS (C:=C.bare) (l':=L1) S0 la0 (by rw[qE];exact rA) n1 fun s1 la1=> ?_
 generalize oY ns=xs at *
 clear rA v0 w0 n0 la0
 have yh:∀x:Str,(env.scope.names.lookup x=some .local\/env.scope.names.lookup x=some .cell)->env.kindOf x=some .local\/env.kindOf x=some .cell:=fun x h=>h
 show jM0 ?_
 show(?_:wpAny C.M _ (exec (.Assign [.Name "names" _] (.List [.Constant (.str _) 0 _,.Constant (.str _) 0 _,.Constant (.str _) 0 _] _) _) env) _ _ _)
 show jGc (C:=C.bare) la1 (yh _ (by rw[qE];decide+kernel)) fun s2 ax bf=> ?_
 have bf:=bf.full bs ax
 have w2:LV (jA L1 "names" (B.val (jJ uT))) [("names",jJ uT),("numbers",.list (xs.map .int))]:=w1.set
 have n2:noOwn (jA L1 "names" (B.val (jJ uT))):=n1.set
 have bf:LA C 60 (callerA.deeper env) env s₁ (jA L1 "names" (B.val (jJ uT))) s2:=bf
 generalize jA L1 "names" (B.val (jJ uT))=L2 at bf w2 n2
 clear la1 w1 n1
 show qk (segB aq w2 n2) fun L5 rB w5 n5=> ?_
 show dS (l':=L5) S bf (by rw[qE];exact rB) n5 fun s3 la3=> ?_
 clear rB bf w2 n2
 show jM0 ?_
 show rH (bs.fn "_law_heard" zQ (by rw[hf];rfl)) fun afh oh pmh codeh doch hmh hoh hdh hch=> ?_
 obtain⟨⟨Y3,yM⟩,hh3⟩:=la3
 have run:=jKa (C:=C) hf (glob:=jK) (n:=35) (b0:=vP (xs.getD 3 0) 0) (b1:=vP (xs.getD 3 0) 1) (b2:=vP (xs.getD 3 0) 2) (b3:=vP (xs.getD 3 0) 3) (gv xs 0) (gv xs 1) (gv xs 2)
 show qk run.fun fun st g0 g1 g2=> ?_
 have lL:claimMargin=300:=by decide+kernel
 have vJ:∀j,j<=150->xv j (callerA.deeper env):=fun j hj=>⟨rfl,by show(?_:1+claimMargin+1+1+3 * j<900);rw[lL];lia,by show(?_:4+3+4+40 * j<9000);lia⟩
 show(?_:wpAny C.M _ (exec (.Assign [.Name "told" _] (.Call (.Name "reduce" _) [.Name "_law_heard" _,talkE (qc 7),.Tuple [.Dict [] [] _,.List [] _,.List [] _] 0 _] [] _) _) env) _ _ _)
 show jH7 S S.E hrd2 X hoh hdh hch hmh kD yM (vJ _ (by lia)) rfl oV (yh _ (by rw[qE];decide+kernel)) (by show(?_:env.scope.names.lookup _=_);rw[qE];decide+kernel) (by show(?_:env.scope.names.lookup _=_);rw[qE];decide+kernel) (its:=(tF xs).map .str) (st:=st) (by rw[qE];exact st7e (n:=30) (w5 _ _ kR) (w5 _ _ kR) (w5 _ _ kR)) kR g0 g2 fun s4 zM zC=> ?_
 have iL:LA C 60 (callerA.deeper env) env s₁ (jA L5 "told" (.val (vG xs))) s4:=by
  show⟨⟨Y3,?_⟩,LA.kw hh3 zM⟩
  have e:((tF xs).map D.str).length=(tF xs).length:=jMu _
  rw[e,g1] at zC
  exact zC
 clear yM zC g0 g1 g2 run
 have w6:=w5.set (x:="told") (d:=vG xs)
 have n6:noOwn (jA L5 "told" (B.val (vG xs))):=n5.set
 generalize jA L5 "told" (B.val (vG xs))=L6 at iL w6 n6
 show qk (segC w6 n6) fun L7 rC w7 n7=> ?_
 obtain⟨out,P⟩:=plain2 (yV xs 0) (yV xs 1) (yV xs 2)
 show dS (l':=L7) S iL (by rw[qE];exact rC) n7 fun s5 la5=> ?_
 clear rC iL w6 n6
 show jM0 ?_
 obtain⟨⟨Y7,pR⟩,hh7⟩:=la5
 have aQ:y0 61 (callerA.deeper env):=⟨rfl,by show(?_:1+claimMargin+1+3 * 61<900);rw[lL];lia,by show(?_:4+3+40 * 61<9000);lia⟩
 have fB:∀ce:Env,ce.scope=jO env.scope (fF mR)->ce.kindOf "list"=some .globalImplicit:=fun ce h=>by
  show(?_:ce.scope.names.lookup _=_)
  rw[h,qE];decide+kernel
 show rH (bs.fn "_c3_merge" yl (by rw[hf];rfl)) fun afc oc pmc codec docc hmc tm aF nT=> ?_
 have c3:C3At C (ev jH jK 60) "_c3_merge" yl (dk yl.body) (m4 yl.body) afc oc pmc codec docc:=⟨c3f2,tm,aF,nT,hmc,by decide,jMa jH jK 58⟩
 have x1:L7 "signs"=some (.val (jJ ((jY xs).map fm))):=w7 _ _ kR
 have x2:L7 "rows"=some (.val (vX (ql (jY xs)))):=w7 _ _ kR
 have k1:=st20a (n:=30) x1
 have k2:=st20b (n:=30) x2
 have hl:=P.len
 have hr:=wQ hl
 show(?_:wpAny C.M _ (exec (.Assign [.Name "line" _] (.Call (.Name "_c3_merge" _) [.BinOp (.ListComp (.List [ck (lr mL)] _) (mD mL::[]) (fF mL) _) .Add (.ListComp (.Call (.Name "list" _) [sP mR] [] _) (mD mR::[]) (fF mR) _) _] [] _) _) env) _ _ _)
 show jFi (xs1:=((jY xs).map fm).map fun s=>[s]) (xs2:=(ql (jY xs)).map fun q=>[q.1,q.2]) (i1:=((jY xs).map fm).map .str) (i2:=(ql (jY xs)).map gn) (d1:=jJ ((jY xs).map fm)) (d2:=vX (ql (jY xs))) (out:=out) (em1:=fun l'=>((ev jH jK 60).E true (jO xG (fF mL)) l' (ck (lr mL))).bind t6) (em2:=fun l'=>((ev jH jK 60).E true (jO xG (fF mR)) l' (sP mR)).bind fu) S S.E aQ c3 (vJ _ (by lia)) pR (fun ce cJ=> ?_) (by rw[qE];exact jC (n:=59) kR kR (jD x1)) rfl (by rw[qE];kernel_rfl) (by rw[qE];exact k1) (by rw[jMu,jMu];lia) (fun ce cJ=> ?_) (by rw[qE];exact jC (n:=59) kR kR (jD x2)) rfl (by rw[qE];kernel_rfl) (by rw[qE];exact k2) (by rw[jMu];lia) ?_ (fun hs gk hlen=> ?_) (yh _ (by rw[qE];decide+kernel)) (by show(?_:env.scope.names.lookup _=_);rw[qE];decide+kernel) fun s9 iN mr=> ?_
 .have sF:ce.scope=jO xG (fF mL):=by rw[cJ,qE]
  rw[<-sF]
  exact fresh_one S.E kR
 .have sF:ce.scope=jO xG (fF mR):=by rw[cJ,qE]
  rw[<-sF]
  exact jGs S.E (fB ce cJ) kR
 .by_cases he:jY xs=[]
  .right
   rw[he];rfl
  .left
   intro e
   have:=P.pm.length_eq
   rw[e,jMu] at this
   exact he (jOe.mp this.symm)
 .have hm:=jI0 (fns:=jH) (glob:=jK) (n:=50) (p:=fun k=>posM2.getD k ⟨0,0,0,0⟩) msc2 (by decide+kernel) 900 hs (xt hs (zE (jY xs))) [] out (by rw[jC3 hs (zE (jY xs)) gk hlen];exact P.mg) gk (fun a ha=>jJr ha) (by rw[hlen,jNm,jMu,jMu,jMu];lia) (fun a ha=> ?_) (by simp)
  .rw[mid2]
   exact hm
  .have xx:xt hs (zE (jY xs)) a∈zE (jY xs):=by
    have e:=jC3 hs (zE (jY xs)) gk hlen
    have h2:xt hs (zE (jY xs)) a∈hs.map (xt hs (zE (jY xs))):=jMs ha
    rw[e] at h2
    exact h2
   rcases jj.mp xx with h|h
   .show jE (jo.mp h) fun t _ e=> ?_
    rw[<-e];exact jOl rfl
   .show jE (jo.mp h) fun t _ e=> ?_
    rw[<-e];exact jOl rfl
 have la9:LA C 60 (callerA.deeper env) env s₁ (jA L7 "line" (.val (jJ out))) s9:=⟨⟨Y7,mr⟩,LA.kw hh7 iN⟩
 have w8:=w7.set (x:="line") (d:=jJ out)
 obtain⟨L9,rD⟩:=segD w8 P
 show seg_end (d:= .bool true) S la9 (by rw[qE];exact rD) fun v s' Y hsh rd gr=> ?_
 have hv:=rd.bool_inv
 subst hv
 exact⟨rfl,⟨gr.keep,(let ⟨a,b,c,d⟩:=gr.tab;⟨a,b,c,d⟩),fun e=>by cases e⟩,hsh⟩
theorem lqLaw:("law":Str)++(".<locals>.":Str)++("<lambda>":Str)=("law.<locals>.<lambda>":Str):=by decide+kernel
theorem law2_ok:oL fx=true:=by decide+kernel
theorem law2_names:fx.names=(["script"]:List Str):=kR
noncomputable def adK(K:Frag)(x:Str):Addr:=match nsIn K mainGlobals x with
 |some (some (.ref a))=>a
 |_=>0
noncomputable def cdK(K:Frag)(x:Str):Addr:=match (lX (gJ K (adK K x))).code with
 | .ref c=>c
 |_=>0
theorem fnCons{K:Frag}{q:Str×Fn}{l:List (Str×Fn)}(h:FnAt K q.1 q.2 (adK K q.1) (cdK K q.1))(t:∀p∈l,∃a c,FnAt K p.1 p.2 a c):∀p∈q::l,∃a c,FnAt K p.1 p.2 a c:=
 jM6.mpr ⟨⟨_,_,h⟩,t⟩
noncomputable def vq:Program:=PySem.W.view PySem.Challenge.pw_oy0159_02 [41]
noncomputable def lse:List Str:=(PySem.Challenge.pw_oy0159_02.main.body.take 41).flatMap bindsAtTop
@[reducible] def md:OpenRow:=OpenLaw.row PySem.Challenge.rw_oy0159_02
theorem hh{d:DefRec}{iM:List (Str×Expr)}(H:Hook)(k1:md.wellSaid=true)(h1:defOf vq md.name=some (d,iM))(h2:md.prog.theDef md.name=some (d.params,d.body,d.scope))(h3:kwWritten? d.params.kwonlyargs d.params.kw_defaults=some iM)
  (hl:LeftO md.prog vq lse (fun s=>xlAt vq [] s&&recOk (RowW.records (OpenRow.toRowW md)) s) H.obs H.val 3112) (hw:md.toRowW.promised) (hc:WalkO vq lse (XL vq []) H.says md.toRowW d iM fun f vs=>PySem.call f vs):md.Holds:=
 holds_open (Xt:=fun s=>xlAt vq [] s&&recOk (RowW.records (OpenRow.toRowW md)) s) (XP:=XL vq []) (Yf:=H.obs) (Ya:=H.val) (YP:=H.says) (N:=3112) hl H.of H.keeps (fun s e=>xl_of s (jM2.mp e).1) XL.keeps h1 h2 h3 (fun s e=>recFacts_of (jM2.mp e).2) (by rfl) k1 (by decide+kernel) ⟨rfl,rfl,rfl,rfl,rfl,by decide+kernel⟩ hw hc
end
end _m
open PySem PySem.W PyProof.Rows
set_option Elab.async false
local macro_rules
  | `(tactic| o_head $H) => `(tactic| refine _m.hh $H ‹_› rfl rfl rfl ?_ ?_ ?_)
set_option maxRecDepth 100000 in
set_option maxHeartbeats 8000000 in
set_option tactic.hygienic true in
theorem PySem.Challenge.cw_oy0159_02_holds : PySem.Challenge.rw_oy0159_02.Holds := by
  w_on; refine holds_law (by decide +kernel) fun said => ?_; km_head
  · intro w; kernel_rfl
  · w_witness2
  k_fill
  intro w s₀ s₁ mg mb G Y fa o pm cd doc dV kV ho hd hcd hD hmg hg args vals as hpre hlay hrd hwl hlo
  have KX := km_in_of Y
  km_tabs Y
  have X := (Ground.X G).1
  have V := (Ground.X G).2
  refine Ground.open G ?_
  intro T B D TE TW
  try (refine guard_noD D (by decide +kernel) ?_; clear D)
  km_lay T hmg ho hd cd
  have hdV : dV = .none := by
    rcases hD.pos with ⟨_, e⟩ | ⟨h, _⟩
    · exact e
    · exact absurd rfl h
  have hkV : kV = .none := by
    rcases hD.kw with ⟨_, e⟩ | ⟨h, _⟩
    · exact e
    · exact absurd rfl h
  subst hdV hkV
  clear hD Y V TE TW B
  wrow_args hpre hlay hrd hwl hlo
  rename_i ns hs hlay0 hL1 hr1 hl2 as1 as2 la vs as3 hL ra w1 r0 hI hrW hlen htr
  obtain ⟨vs, e1, e2⟩ := _m.script_of (prog := Challenge.pw_oy0159_02) (w := w) w1
  refine enter_call ?_
  refine kn_post hT9 (fun _ _ => rfl) ?_
  have kf : ∀ q ∈ _m.jH, ∃ a c, _m.FnAt (cw_oy0159_02_holds.heap_1 w.params) q.1 q.2 a c := by
    unfold _m.jH
    iterate 12 refine _m.fnCons ⟨by kernel_rfl, by kernel_rfl, by kernel_rfl, by kernel_rfl, by kernel_rfl⟩ ?_
    exact fun _ h => nomatch h
  have x51 : _m.ExcAt (cw_oy0159_02_holds.heap_1 w.params) "error_reply" 51 38 50 37 := ⟨by kernel_rfl, ⟨_, _, _, _, _, _, _, _, _, _, _, _, _, _, rfl⟩, by kernel_rfl, by kernel_rfl, by simp only [_m.zy, List.forall_mem_cons]; exact ⟨by kernel_rfl, by kernel_rfl, by kernel_rfl, by kernel_rfl, by kernel_rfl, fun _ h => nomatch h⟩, ⟨_, _, _, _, rfl, rfl⟩, by kernel_rfl, by kernel_rfl, by simp only [_m.zy, List.forall_mem_cons]; exact ⟨by kernel_rfl, by kernel_rfl, by kernel_rfl, by kernel_rfl, by kernel_rfl, fun _ h => nomatch h⟩⟩
  have x63 : _m.ExcAt (cw_oy0159_02_holds.heap_1 w.params) "error_proto" 63 38 62 37 := ⟨by kernel_rfl, ⟨_, _, _, _, _, _, _, _, _, _, _, _, _, _, rfl⟩, by kernel_rfl, by kernel_rfl, by simp only [_m.zy, List.forall_mem_cons]; exact ⟨by kernel_rfl, by kernel_rfl, by kernel_rfl, by kernel_rfl, by kernel_rfl, fun _ h => nomatch h⟩, ⟨_, _, _, _, rfl, rfl⟩, by kernel_rfl, by kernel_rfl, by simp only [_m.zy, List.forall_mem_cons]; exact ⟨by kernel_rfl, by kernel_rfl, by kernel_rfl, by kernel_rfl, by kernel_rfl, fun _ h => nomatch h⟩⟩
  have EK : _m.ExcKAt (cw_oy0159_02_holds.heap_1 w.params) 51 63 := by
    refine ⟨by kernel_rfl, by kernel_rfl, by decide, ?_, ?_, ?_⟩
    · intro c hc c' hc'
      simp only [List.mem_cons, List.not_mem_nil, or_false] at hc hc'
      rcases hc with rfl | rfl <;> rcases hc' with rfl | rfl <;> kernel_rfl
    · intro c hc
      simp only [List.mem_cons, List.not_mem_nil, or_false] at hc
      rcases hc with rfl | rfl <;> kernel_rfl
    · intro c hc
      simp only [List.mem_cons, List.not_mem_nil, or_false] at hc
      rcases hc with rfl | rfl <;> kernel_rfl
  have kb : ∀ x ∈ _m.y9, nsIn (cw_oy0159_02_holds.heap_1 w.params) mainGlobals x = some none := by
    simp only [_m.y9, List.forall_mem_cons]
    exact ⟨by kernel_rfl, by kernel_rfl, by kernel_rfl, by kernel_rfl, by kernel_rfl, by kernel_rfl, by kernel_rfl, by kernel_rfl, by kernel_rfl, by kernel_rfl, by kernel_rfl, by kernel_rfl, by kernel_rfl, fun _ h => nomatch h⟩
  have AK : _m.AllK (cw_oy0159_02_holds.heap_1 w.params) _m.jH _m.tabD 175 173 := {
    noT := by kernel_rfl
    fn := kf
    okf := _m.okf2
    tab := ⟨.ref 126, by kernel_rfl, by kernel_rfl⟩
    bi := kb
    red := ⟨_m.red2, 23, 22, 16, 15, _m.redf2, by kernel_rfl, by kernel_rfl, by kernel_rfl, by kernel_rfl, by kernel_rfl, by kernel_rfl, by kernel_rfl, by kernel_rfl, by kernel_rfl, by kernel_rfl⟩
    hd := by kernel_rfl
    exc := ⟨51, 63, 38, 50, 62, 37, x51, x63, by decide, by decide, by decide⟩ }
  have BS := _m.base_of (prog := Challenge.pw_oy0159_02) (w := w) (lq := "law.<locals>.<lambda>") hT9 KX T (by kernel_rfl) AK
  have XK := EK.is (C := _m.cxOf Challenge.pw_oy0159_02 w (ghostOf s₁.heap [(175, 173)]) 173 mg mb _m.jH _m.tabD 175 "law.<locals>.<lambda>") (ghost_K hT9 KX AK.noT) BS.g
  have hns : ns.length ≤ 1000 := by
    have h63 : ¬ ((63 : Int) < (ns.length : Int)) := hlen
    lia
  exact _m.law_enter (fn := _m.fx) (n := 60) BS rfl (hT9 _ (List.mem_singleton.mpr rfl)).2 hg _m.law2_ok _m.law2_names ho hd hcd _m.lqLaw e1 e2 (by kernel_rfl) (fun _ => rfl) (by decide) (_m.law2_body BS rfl rfl XK hns )
