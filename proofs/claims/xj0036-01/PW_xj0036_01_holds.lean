import PyProof.Rows.All
import Wide.All
import OpenK.AllK
import Wide.FinOn
import Open.Fast
import Lean
import PySem.Challenge.RW_xj0036_01
set_option Elab.async false
set_option maxRecDepth 100000
set_option linter.unusedVariables false
set_option linter.unusedSimpArgs false
set_option genSizeOf false
set_option genInjectivity false
set_option backward.match.sparseCases false
set_option maxHeartbeats 4000000
set_option bootstrap.genMatcherCode false
open PySem PySem.W PyProof.Rows PySem.Calls PySem.Spec
noncomputable section
namespace Mine
abbrev ab:=@wpAny_bind
abbrev ad:=@Nat.le_refl
abbrev ae:=@Nat.le_trans
abbrev af:=@wpAny_pure
abbrev ah:=@Bool.false_ne_true
abbrev ak:=@Option.some.inj
abbrev am:=@Heap.get?_push_of_some
abbrev aq:=@List.length_map
abbrev au:=@List.getElem?_eq_getElem
abbrev av:=@Nat.lt_of_lt_of_le
abbrev aw:=@Heap.get?_push_size
abbrev az:=@List.length_append
abbrev aA:=@List.all_eq_true
abbrev aB:=@congrArg
abbrev aC:=@Nat.le_succ
abbrev aD:=@Nat.lt_succ_self
abbrev aE:=@List.length_set
abbrev aF:=@if_neg
abbrev aG:=@List.getElem?_eq_some_iff
abbrev aH:=@List.mem_cons
abbrev aI:=@if_pos
abbrev aJ:=@Nat.lt_of_le_of_lt
abbrev aK:=@Nat.le_add_right
abbrev aL:=@Nat.le_of_eq
abbrev aM:=@List.map_cons
abbrev aN:=@wpAny_holding
abbrev aO:=@Nat.ne_of_lt
abbrev aP:=@List.getElem?_map
abbrev aQ:=@List.mem_of_getElem?
abbrev aR:=@decide_eq_true_eq
abbrev aS:=@decide_eq_true
abbrev aT:=@List.mem_range
abbrev aU:=@List.append_nil
abbrev aV:=@List.map_map
abbrev aW:=@Nat.le_of_succ_le_succ
abbrev aX:=@Bool.false_eq_true
abbrev aY:=@Nat.zero_add
abbrev aZ:=@List.append_assoc
abbrev a0:=@List.length_cons
abbrev a7:=@Nat.le_of_lt
abbrev a8:=@wpAny_standAt
abbrev a9:=@Nat.ble_eq_true_of_le
abbrev ba:=@Heap.get?_update_self
abbrev bc:=@Nat.lt_succ_of_lt
abbrev be:=@Array.length_toList
abbrev bf:=@Nat.add_assoc
abbrev bg:=@List.getD_eq_getElem?_getD
abbrev bh:=@List.map_append
abbrev bj:=@Nat.zero_le
abbrev bk:=@Heap.lt_size
abbrev bl:=@Nat.ne_of_gt
abbrev bn:=@Option.map_eq_some_iff
abbrev bo:=@Nat.le_of_not_lt
abbrev bp:=@List.isEmpty_iff
abbrev bq:=@wpAny_mono
abbrev br:=@List.mem_singleton
abbrev bt:=@Nat.lt_add_of_pos_right
abbrev bu:=@List.nodup_cons
abbrev bv:=@Int.toNat_natCast
abbrev bw:=@Nat.add_comm
abbrev bx:=@List.mem_map
abbrev bz:=@Array.getElem?_toList
abbrev bA:=@builtinLookup_eq_fast
abbrev bB:=@wpAny_loadPart'
abbrev bC:=@beq_eq_false_iff_ne
abbrev bD:=@Heap.SameBut.update
abbrev bE:=@Nat.succ_le_succ
abbrev bF:=@Bool.and_eq_true
abbrev bG:=@wpAny_setState_of
abbrev bH:=@Nat.not_succ_le_zero
abbrev bI:=@Nat.succ_pos
abbrev bJ:=@Nat.not_lt
abbrev bK:=@List.getElem?_eq_none
abbrev bL:=@List.forIn_cons
abbrev bM:=@decide_eq_false
abbrev bN:=@Obj.data_mapFields
abbrev bO:=@Nat.add_le_add_left
abbrev bP:=@List.map_congr_left
abbrev bQ:=@bne_self_eq_false
abbrev bR:=@Nat.eq_of_beq_eq_true
abbrev bS:=@List.mem_append
abbrev bT:=@Bool.eq_iff_iff
abbrev bU:=@Nat.le_add_left
abbrev bV:=@Nat.add_right_comm
abbrev bW:=@eq_of_beq
abbrev bX:=@Int.natCast_nonneg
abbrev bY:=@Int.eq_ofNat_of_zero_le
abbrev bZ:=@beq_iff_eq
abbrev b0:=@Around.under_plainId
abbrev b7:=@Nat.xor_assoc
abbrev b8:=@List.take_of_length_le
abbrev b9:=@Heap.get?_update_other
abbrev ca:=@Int.fmod_nonneg_of_pos
abbrev cb:=@List.getElem?_append_left
abbrev ce:=@strKind_is
abbrev cf:=@typeLookup_type
abbrev cg:=@wpAny_call_entry
abbrev ch:=@wpAny_askSetting
abbrev ci:=@List.getElem_mem
abbrev cj:=@wpAny_of_eq
abbrev ck:=@Option.bind_eq_some_iff
abbrev cm:=@if_false
abbrev cp:=@List.length_range
abbrev cq:=@wpAny_newObj_type
abbrev cr:=@codeAny_builtin
abbrev ct:=@Nat.mul_le_mul_left
abbrev cu:=@Nat.lt_trans
abbrev cw:=@Array.getElem?_eq_none
abbrev cy:=@Prod.mk.inj
abbrev cz:=@List.getElem?_append_right
abbrev cA:=@call_meets
abbrev cB:=@typeIs_str
abbrev cC:=@List.getElem?_eq_none_iff
abbrev cD:=@List.drop_eq_getElem_cons
abbrev cE:=@Nat.add_le_add_right
abbrev cF:=@Int.ofNat_lt
abbrev cG:=@List.length_nil
abbrev cH:=@Option.isSome_iff_exists
abbrev cI:=@wpAny_with_toks
abbrev cJ:=@Nat.zero_lt_one
abbrev cK:=@List.reverse_cons
abbrev cL:=@Ne.symm
abbrev cM:=@Bool.not_eq_true'
abbrev cO:=@Nat.lt_irrefl
abbrev cP:=@List.eq_nil_of_length_eq_zero
abbrev cQ:=@Nat.add_sub_cancel_left
abbrev cR:=@wpAny_callSpecial?_slot
abbrev cS:=@F.slot_str_getattribute
abbrev cU:=@List.filterMap_cons
abbrev cV:=@Nat.add_sub_cancel'
abbrev cW:=@List.length_reverse
abbrev cX:=@List.forIn_nil
abbrev cY:=@isSubtype_type
abbrev cZ:=@Nat.lt_of_le_of_ne
abbrev c6:=@codeAny_of_tree
abbrev c7:=@wpAny_ite_split
abbrev c8:=@Nat.mod_two_eq_zero_or_one
abbrev c9:=@List.perm_ext_iff_of_nodup
abbrev de:=@of_decide_eq_true
abbrev dh:=@Nat.le_of_lt_succ
abbrev di:=@List.any_eq_false
abbrev dj:=@Array.toList_push
abbrev dk:=@Nat.le_succ_of_le
abbrev dl:=@List.reverse_perm
section
set_option genSizeOf true
set_option genInjectivity true
set_option backward.match.sparseCases true
theorem sF{A0 A1:Prop}{P:Prop}(h:A0/\A1)(f:A0->A1->P):P:=by
 obtain⟨h0,h1⟩:=h;exact f h0 h1
theorem kL{A0 A1 A2:Prop}{P:Prop}(h:A0/\A1/\A2)(f:A0->A1->A2->P):P:=by
 obtain⟨h0,h1,h2⟩:=h;exact f h0 h1 h2
theorem KP{A0 A1 A2 A3:Prop}{P:Prop}(h:A0/\A1/\A2/\A3)(f:A0->A1->A2->A3->P):P:=by
 obtain⟨h0,h1,h2,h3⟩:=h;exact f h0 h1 h2 h3
theorem mU{A0 A1 A2 A3 A4:Prop}{P:Prop}(h:A0/\A1/\A2/\A3/\A4)(f:A0->A1->A2->A3->A4->P):P:=by
 obtain⟨h0,h1,h2,h3,h4⟩:=h;exact f h0 h1 h2 h3 h4
theorem mN{t0:Sort _}{A0:t0->Prop}{P:Prop}(h:∃x0,A0 x0)(f:∀x0,A0 x0->P):P:=by
 obtain⟨x0,h0⟩:=h;exact f x0 h0
theorem dm{t0:Sort _}{A0 A1:t0->Prop}{P:Prop}(h:∃x0,A0 x0/\A1 x0)(f:∀x0,A0 x0->A1 x0->P):P:=by
 obtain⟨x0,h0,h1⟩:=h;exact f x0 h0 h1
theorem dz{t0:Sort _}{A0 A1 A2:t0->Prop}{P:Prop}(h:∃x0,A0 x0/\A1 x0/\A2 x0)(f:∀x0,A0 x0->A1 x0->A2 x0->P):P:=by
 obtain⟨x0,h0,h1,h2⟩:=h;exact f x0 h0 h1 h2
theorem tH{t0:Sort _}{A0 A1 A2 A3:t0->Prop}{P:Prop}(h:∃x0,A0 x0/\A1 x0/\A2 x0/\A3 x0)(f:∀x0,A0 x0->A1 x0->A2 x0->A3 x0->P):P:=by
 obtain⟨x0,h0,h1,h2,h3⟩:=h;exact f x0 h0 h1 h2 h3
theorem nW{t0:Sort _}{A0 A1 A2 A3 A4 A5:t0->Prop}{P:Prop}(h:∃x0,A0 x0/\A1 x0/\A2 x0/\A3 x0/\A4 x0/\A5 x0)(f:∀x0,A0 x0->A1 x0->A2 x0->A3 x0->A4 x0->A5 x0->P):P:=by
 obtain⟨x0,h0,h1,h2,h3,h4,h5⟩:=h;exact f x0 h0 h1 h2 h3 h4 h5
theorem fA{t0 t1:Sort _}{A0:t0->t1->Prop}{P:Prop}(h:∃x0 x1,A0 x0 x1)(f:∀x0 x1,A0 x0 x1->P):P:=by
 obtain⟨x0,x1,h0⟩:=h;exact f x0 x1 h0
theorem kK{t0 t1:Sort _}{A0 A1:t0->t1->Prop}{P:Prop}(h:∃x0 x1,A0 x0 x1/\A1 x0 x1)(f:∀x0 x1,A0 x0 x1->A1 x0 x1->P):P:=by
 obtain⟨x0,x1,h0,h1⟩:=h;exact f x0 x1 h0 h1
theorem dx{t0 t1:Sort _}{A0 A1 A2:t0->t1->Prop}{P:Prop}(h:∃x0 x1,A0 x0 x1/\A1 x0 x1/\A2 x0 x1)(f:∀x0 x1,A0 x0 x1->A1 x0 x1->A2 x0 x1->P):P:=by
 obtain⟨x0,x1,h0,h1,h2⟩:=h;exact f x0 x1 h0 h1 h2
theorem fR{t0 t1:Sort _}{A0 A1 A2 A3:t0->t1->Prop}{P:Prop}(h:∃x0 x1,A0 x0 x1/\A1 x0 x1/\A2 x0 x1/\A3 x0 x1)(f:∀x0 x1,A0 x0 x1->A1 x0 x1->A2 x0 x1->A3 x0 x1->P):P:=by
 obtain⟨x0,x1,h0,h1,h2,h3⟩:=h;exact f x0 x1 h0 h1 h2 h3
theorem AG{t0 t1:Sort _}{A0 A1 A2 A3 A4:t0->t1->Prop}{P:Prop}(h:∃x0 x1,A0 x0 x1/\A1 x0 x1/\A2 x0 x1/\A3 x0 x1/\A4 x0 x1)(f:∀x0 x1,A0 x0 x1->A1 x0 x1->A2 x0 x1->A3 x0 x1->A4 x0 x1->P):P:=by
 obtain⟨x0,x1,h0,h1,h2,h3,h4⟩:=h;exact f x0 x1 h0 h1 h2 h3 h4
theorem wq{t0 t1:Sort _}{A0 A1 A2 A3 A4 A5:t0->t1->Prop}{P:Prop}(h:∃x0 x1,A0 x0 x1/\A1 x0 x1/\A2 x0 x1/\A3 x0 x1/\A4 x0 x1/\A5 x0 x1)(f:∀x0 x1,A0 x0 x1->A1 x0 x1->A2 x0 x1->A3 x0 x1->A4 x0 x1->A5 x0 x1->P):P:=by
 obtain⟨x0,x1,h0,h1,h2,h3,h4,h5⟩:=h;exact f x0 x1 h0 h1 h2 h3 h4 h5
theorem GM{t0 t1:Sort _}{A0 A1 A2 A3 A4 A5 A6 A7 A8:t0->t1->Prop}{P:Prop}(h:∃x0 x1,A0 x0 x1/\A1 x0 x1/\A2 x0 x1/\A3 x0 x1/\A4 x0 x1/\A5 x0 x1/\A6 x0 x1/\A7 x0 x1/\A8 x0 x1)(f:∀x0 x1,A0 x0 x1->A1 x0 x1->A2 x0 x1->A3 x0 x1->A4 x0 x1->A5 x0 x1->A6 x0 x1->A7 x0 x1->A8 x0 x1->P):P:=by
 obtain⟨x0,x1,h0,h1,h2,h3,h4,h5,h6,h7,h8⟩:=h;exact f x0 x1 h0 h1 h2 h3 h4 h5 h6 h7 h8
theorem sM{t0 t1 t2:Sort _}{A0:t0->t1->t2->Prop}{P:Prop}(h:∃x0 x1 x2,A0 x0 x1 x2)(f:∀x0 x1 x2,A0 x0 x1 x2->P):P:=by
 obtain⟨x0,x1,x2,h0⟩:=h;exact f x0 x1 x2 h0
theorem gv{t0 t1 t2:Sort _}{A0 A1:t0->t1->t2->Prop}{P:Prop}(h:∃x0 x1 x2,A0 x0 x1 x2/\A1 x0 x1 x2)(f:∀x0 x1 x2,A0 x0 x1 x2->A1 x0 x1 x2->P):P:=by
 obtain⟨x0,x1,x2,h0,h1⟩:=h;exact f x0 x1 x2 h0 h1
theorem gw{t0 t1 t2:Sort _}{A0 A1 A2:t0->t1->t2->Prop}{P:Prop}(h:∃x0 x1 x2,A0 x0 x1 x2/\A1 x0 x1 x2/\A2 x0 x1 x2)(f:∀x0 x1 x2,A0 x0 x1 x2->A1 x0 x1 x2->A2 x0 x1 x2->P):P:=by
 obtain⟨x0,x1,x2,h0,h1,h2⟩:=h;exact f x0 x1 x2 h0 h1 h2
theorem nM{t0 t1 t2:Sort _}{A0 A1 A2 A3:t0->t1->t2->Prop}{P:Prop}(h:∃x0 x1 x2,A0 x0 x1 x2/\A1 x0 x1 x2/\A2 x0 x1 x2/\A3 x0 x1 x2)(f:∀x0 x1 x2,A0 x0 x1 x2->A1 x0 x1 x2->A2 x0 x1 x2->A3 x0 x1 x2->P):P:=by
 obtain⟨x0,x1,x2,h0,h1,h2,h3⟩:=h;exact f x0 x1 x2 h0 h1 h2 h3
theorem tZ{t0 t1 t2:Sort _}{A0 A1 A2 A3 A4:t0->t1->t2->Prop}{P:Prop}(h:∃x0 x1 x2,A0 x0 x1 x2/\A1 x0 x1 x2/\A2 x0 x1 x2/\A3 x0 x1 x2/\A4 x0 x1 x2)(f:∀x0 x1 x2,A0 x0 x1 x2->A1 x0 x1 x2->A2 x0 x1 x2->A3 x0 x1 x2->A4 x0 x1 x2->P):P:=by
 obtain⟨x0,x1,x2,h0,h1,h2,h3,h4⟩:=h;exact f x0 x1 x2 h0 h1 h2 h3 h4
theorem CT{t0 t1 t2:Sort _}{A0 A1 A2 A3 A4 A5:t0->t1->t2->Prop}{P:Prop}(h:∃x0 x1 x2,A0 x0 x1 x2/\A1 x0 x1 x2/\A2 x0 x1 x2/\A3 x0 x1 x2/\A4 x0 x1 x2/\A5 x0 x1 x2)(f:∀x0 x1 x2,A0 x0 x1 x2->A1 x0 x1 x2->A2 x0 x1 x2->A3 x0 x1 x2->A4 x0 x1 x2->A5 x0 x1 x2->P):P:=by
 obtain⟨x0,x1,x2,h0,h1,h2,h3,h4,h5⟩:=h;exact f x0 x1 x2 h0 h1 h2 h3 h4 h5
theorem KK{t0 t1 t2 t3:Sort _}{A0:t0->t1->t2->t3->Prop}{P:Prop}(h:∃x0 x1 x2 x3,A0 x0 x1 x2 x3)(f:∀x0 x1 x2 x3,A0 x0 x1 x2 x3->P):P:=by
 obtain⟨x0,x1,x2,x3,h0⟩:=h;exact f x0 x1 x2 x3 h0
theorem jL{t0 t1 t2 t3:Sort _}{A0 A1:t0->t1->t2->t3->Prop}{P:Prop}(h:∃x0 x1 x2 x3,A0 x0 x1 x2 x3/\A1 x0 x1 x2 x3)(f:∀x0 x1 x2 x3,A0 x0 x1 x2 x3->A1 x0 x1 x2 x3->P):P:=by
 obtain⟨x0,x1,x2,x3,h0,h1⟩:=h;exact f x0 x1 x2 x3 h0 h1
theorem Lm{t0 t1 t2 t3:Sort _}{A0 A1 A2:t0->t1->t2->t3->Prop}{P:Prop}(h:∃x0 x1 x2 x3,A0 x0 x1 x2 x3/\A1 x0 x1 x2 x3/\A2 x0 x1 x2 x3)(f:∀x0 x1 x2 x3,A0 x0 x1 x2 x3->A1 x0 x1 x2 x3->A2 x0 x1 x2 x3->P):P:=by
 obtain⟨x0,x1,x2,x3,h0,h1,h2⟩:=h;exact f x0 x1 x2 x3 h0 h1 h2
theorem kO{t0 t1 t2 t3:Sort _}{A0 A1 A2 A3:t0->t1->t2->t3->Prop}{P:Prop}(h:∃x0 x1 x2 x3,A0 x0 x1 x2 x3/\A1 x0 x1 x2 x3/\A2 x0 x1 x2 x3/\A3 x0 x1 x2 x3)(f:∀x0 x1 x2 x3,A0 x0 x1 x2 x3->A1 x0 x1 x2 x3->A2 x0 x1 x2 x3->A3 x0 x1 x2 x3->P):P:=by
 obtain⟨x0,x1,x2,x3,h0,h1,h2,h3⟩:=h;exact f x0 x1 x2 x3 h0 h1 h2 h3
theorem Bz{t0 t1 t2 t3:Sort _}{A0 A1 A2 A3 A4 A5:t0->t1->t2->t3->Prop}{P:Prop}(h:∃x0 x1 x2 x3,A0 x0 x1 x2 x3/\A1 x0 x1 x2 x3/\A2 x0 x1 x2 x3/\A3 x0 x1 x2 x3/\A4 x0 x1 x2 x3/\A5 x0 x1 x2 x3)(f:∀x0 x1 x2 x3,A0 x0 x1 x2 x3->A1 x0 x1 x2 x3->A2 x0 x1 x2 x3->A3 x0 x1 x2 x3->A4 x0 x1 x2 x3->A5 x0 x1 x2 x3->P):P:=by
 obtain⟨x0,x1,x2,x3,h0,h1,h2,h3,h4,h5⟩:=h;exact f x0 x1 x2 x3 h0 h1 h2 h3 h4 h5
theorem Bb{t0 t1 t2 t3 t4:Sort _}{A0 A1:t0->t1->t2->t3->t4->Prop}{P:Prop}(h:∃x0 x1 x2 x3 x4,A0 x0 x1 x2 x3 x4/\A1 x0 x1 x2 x3 x4)(f:∀x0 x1 x2 x3 x4,A0 x0 x1 x2 x3 x4->A1 x0 x1 x2 x3 x4->P):P:=by
 obtain⟨x0,x1,x2,x3,x4,h0,h1⟩:=h;exact f x0 x1 x2 x3 x4 h0 h1
theorem KB{t0 t1 t2 t3 t4:Sort _}{A0 A1 A2:t0->t1->t2->t3->t4->Prop}{P:Prop}(h:∃x0 x1 x2 x3 x4,A0 x0 x1 x2 x3 x4/\A1 x0 x1 x2 x3 x4/\A2 x0 x1 x2 x3 x4)(f:∀x0 x1 x2 x3 x4,A0 x0 x1 x2 x3 x4->A1 x0 x1 x2 x3 x4->A2 x0 x1 x2 x3 x4->P):P:=by
 obtain⟨x0,x1,x2,x3,x4,h0,h1,h2⟩:=h;exact f x0 x1 x2 x3 x4 h0 h1 h2
theorem Ly{t0 t1 t2 t3 t4:Sort _}{A0 A1 A2 A3:t0->t1->t2->t3->t4->Prop}{P:Prop}(h:∃x0 x1 x2 x3 x4,A0 x0 x1 x2 x3 x4/\A1 x0 x1 x2 x3 x4/\A2 x0 x1 x2 x3 x4/\A3 x0 x1 x2 x3 x4)(f:∀x0 x1 x2 x3 x4,A0 x0 x1 x2 x3 x4->A1 x0 x1 x2 x3 x4->A2 x0 x1 x2 x3 x4->A3 x0 x1 x2 x3 x4->P):P:=by
 obtain⟨x0,x1,x2,x3,x4,h0,h1,h2,h3⟩:=h;exact f x0 x1 x2 x3 x4 h0 h1 h2 h3
theorem Mz{t0 t1 t2 t3 t4:Sort _}{A0 A1 A2 A3 A4 A5 A6:t0->t1->t2->t3->t4->Prop}{P:Prop}(h:∃x0 x1 x2 x3 x4,A0 x0 x1 x2 x3 x4/\A1 x0 x1 x2 x3 x4/\A2 x0 x1 x2 x3 x4/\A3 x0 x1 x2 x3 x4/\A4 x0 x1 x2 x3 x4/\A5 x0 x1 x2 x3 x4/\A6 x0 x1 x2 x3 x4)(f:∀x0 x1 x2 x3 x4,A0 x0 x1 x2 x3 x4->A1 x0 x1 x2 x3 x4->A2 x0 x1 x2 x3 x4->A3 x0 x1 x2 x3 x4->A4 x0 x1 x2 x3 x4->A5 x0 x1 x2 x3 x4->A6 x0 x1 x2 x3 x4->P):P:=by
 obtain⟨x0,x1,x2,x3,x4,h0,h1,h2,h3,h4,h5,h6⟩:=h;exact f x0 x1 x2 x3 x4 h0 h1 h2 h3 h4 h5 h6
theorem KU{t0 t1 t2 t3 t4:Sort _}{A0 A1 A2 A3 A4 A5 A6 A7:t0->t1->t2->t3->t4->Prop}{P:Prop}(h:∃x0 x1 x2 x3 x4,A0 x0 x1 x2 x3 x4/\A1 x0 x1 x2 x3 x4/\A2 x0 x1 x2 x3 x4/\A3 x0 x1 x2 x3 x4/\A4 x0 x1 x2 x3 x4/\A5 x0 x1 x2 x3 x4/\A6 x0 x1 x2 x3 x4/\A7 x0 x1 x2 x3 x4)(f:∀x0 x1 x2 x3 x4,A0 x0 x1 x2 x3 x4->A1 x0 x1 x2 x3 x4->A2 x0 x1 x2 x3 x4->A3 x0 x1 x2 x3 x4->A4 x0 x1 x2 x3 x4->A5 x0 x1 x2 x3 x4->A6 x0 x1 x2 x3 x4->A7 x0 x1 x2 x3 x4->P):P:=by
 obtain⟨x0,x1,x2,x3,x4,h0,h1,h2,h3,h4,h5,h6,h7⟩:=h;exact f x0 x1 x2 x3 x4 h0 h1 h2 h3 h4 h5 h6 h7
theorem BL{t0 t1 t2 t3 t4:Sort _}{A0 A1 A2 A3 A4 A5 A6 A7 A8:t0->t1->t2->t3->t4->Prop}{P:Prop}(h:∃x0 x1 x2 x3 x4,A0 x0 x1 x2 x3 x4/\A1 x0 x1 x2 x3 x4/\A2 x0 x1 x2 x3 x4/\A3 x0 x1 x2 x3 x4/\A4 x0 x1 x2 x3 x4/\A5 x0 x1 x2 x3 x4/\A6 x0 x1 x2 x3 x4/\A7 x0 x1 x2 x3 x4/\A8 x0 x1 x2 x3 x4)(f:∀x0 x1 x2 x3 x4,A0 x0 x1 x2 x3 x4->A1 x0 x1 x2 x3 x4->A2 x0 x1 x2 x3 x4->A3 x0 x1 x2 x3 x4->A4 x0 x1 x2 x3 x4->A5 x0 x1 x2 x3 x4->A6 x0 x1 x2 x3 x4->A7 x0 x1 x2 x3 x4->A8 x0 x1 x2 x3 x4->P):P:=by
 obtain⟨x0,x1,x2,x3,x4,h0,h1,h2,h3,h4,h5,h6,h7,h8⟩:=h;exact f x0 x1 x2 x3 x4 h0 h1 h2 h3 h4 h5 h6 h7 h8
theorem KZ{t0 t1 t2 t3 t4 t5:Sort _}{A0:t0->t1->t2->t3->t4->t5->Prop}{P:Prop}(h:∃x0 x1 x2 x3 x4 x5,A0 x0 x1 x2 x3 x4 x5)(f:∀x0 x1 x2 x3 x4 x5,A0 x0 x1 x2 x3 x4 x5->P):P:=by
 obtain⟨x0,x1,x2,x3,x4,x5,h0⟩:=h;exact f x0 x1 x2 x3 x4 x5 h0
theorem KV{t0 t1 t2 t3 t4 t5:Sort _}{A0 A1:t0->t1->t2->t3->t4->t5->Prop}{P:Prop}(h:∃x0 x1 x2 x3 x4 x5,A0 x0 x1 x2 x3 x4 x5/\A1 x0 x1 x2 x3 x4 x5)(f:∀x0 x1 x2 x3 x4 x5,A0 x0 x1 x2 x3 x4 x5->A1 x0 x1 x2 x3 x4 x5->P):P:=by
 obtain⟨x0,x1,x2,x3,x4,x5,h0,h1⟩:=h;exact f x0 x1 x2 x3 x4 x5 h0 h1
theorem Go{t0 t1 t2 t3 t4 t5 t6 t7 t8:Sort _}{A0 A1:t0->t1->t2->t3->t4->t5->t6->t7->t8->Prop}{P:Prop}(h:∃x0 x1 x2 x3 x4 x5 x6 x7 x8,A0 x0 x1 x2 x3 x4 x5 x6 x7 x8/\A1 x0 x1 x2 x3 x4 x5 x6 x7 x8)(f:∀x0 x1 x2 x3 x4 x5 x6 x7 x8,A0 x0 x1 x2 x3 x4 x5 x6 x7 x8->A1 x0 x1 x2 x3 x4 x5 x6 x7 x8->P):P:=by
 obtain⟨x0,x1,x2,x3,x4,x5,x6,x7,x8,h0,h1⟩:=h;exact f x0 x1 x2 x3 x4 x5 x6 x7 x8 h0 h1
theorem GK{t0 t1 t2 t3 t4 t5 t6 t7 t8:Sort _}{A0 A1 A2 A3 A4:t0->t1->t2->t3->t4->t5->t6->t7->t8->Prop}{P:Prop}(h:∃x0 x1 x2 x3 x4 x5 x6 x7 x8,A0 x0 x1 x2 x3 x4 x5 x6 x7 x8/\A1 x0 x1 x2 x3 x4 x5 x6 x7 x8/\A2 x0 x1 x2 x3 x4 x5 x6 x7 x8/\A3 x0 x1 x2 x3 x4 x5 x6 x7 x8/\A4 x0 x1 x2 x3 x4 x5 x6 x7 x8)(f:∀x0 x1 x2 x3 x4 x5 x6 x7 x8,A0 x0 x1 x2 x3 x4 x5 x6 x7 x8->A1 x0 x1 x2 x3 x4 x5 x6 x7 x8->A2 x0 x1 x2 x3 x4 x5 x6 x7 x8->A3 x0 x1 x2 x3 x4 x5 x6 x7 x8->A4 x0 x1 x2 x3 x4 x5 x6 x7 x8->P):P:=by
 obtain⟨x0,x1,x2,x3,x4,x5,x6,x7,x8,h0,h1,h2,h3,h4⟩:=h;exact f x0 x1 x2 x3 x4 x5 x6 x7 x8 h0 h1 h2 h3 h4
theorem L4{t0 t1 t2 t3 t4 t5 t6 t7 t8:Sort _}{A0 A1 A2 A3 A4 A5 A6:t0->t1->t2->t3->t4->t5->t6->t7->t8->Prop}{P:Prop}(h:∃x0 x1 x2 x3 x4 x5 x6 x7 x8,A0 x0 x1 x2 x3 x4 x5 x6 x7 x8/\A1 x0 x1 x2 x3 x4 x5 x6 x7 x8/\A2 x0 x1 x2 x3 x4 x5 x6 x7 x8/\A3 x0 x1 x2 x3 x4 x5 x6 x7 x8/\A4 x0 x1 x2 x3 x4 x5 x6 x7 x8/\A5 x0 x1 x2 x3 x4 x5 x6 x7 x8/\A6 x0 x1 x2 x3 x4 x5 x6 x7 x8)(f:∀x0 x1 x2 x3 x4 x5 x6 x7 x8,A0 x0 x1 x2 x3 x4 x5 x6 x7 x8->A1 x0 x1 x2 x3 x4 x5 x6 x7 x8->A2 x0 x1 x2 x3 x4 x5 x6 x7 x8->A3 x0 x1 x2 x3 x4 x5 x6 x7 x8->A4 x0 x1 x2 x3 x4 x5 x6 x7 x8->A5 x0 x1 x2 x3 x4 x5 x6 x7 x8->A6 x0 x1 x2 x3 x4 x5 x6 x7 x8->P):P:=by
 obtain⟨x0,x1,x2,x3,x4,x5,x6,x7,x8,h0,h1,h2,h3,h4,h5,h6⟩:=h;exact f x0 x1 x2 x3 x4 x5 x6 x7 x8 h0 h1 h2 h3 h4 h5 h6
end
section
set_option genSizeOf true
set_option genInjectivity true
set_option backward.match.sparseCases true
theorem gG{P:Prop}(h:∀G:Prop,(P->G)->G):P:=h P id
theorem fT{P:Prop}(h:false=true):P:=absurd h ah
theorem tF{P:Prop}(h:true=false):P:=absurd h.symm ah
theorem nS{α}{x:α}{P:Prop}(h:none=some x):P:=by cases h
theorem sN{α}{x:α}{P:Prop}(h:some x=none):P:=by cases h
end
noncomputable abbrev pw:Program:=PySem.Challenge.pw_xj0036_01
inductive PE where
 |n | c (h t:PE)
 |int (i:Int) | str (l:List Nat) | bool (b:Bool) | none | no
 |nm (x:Nat) | bin (op:Operator) (l r:PE) | not (x:PE) | neg (x:PE)
 |and (xs:PE) | or (xs:PE) | cmp (op:CmpOp) (l r:PE) | ifx (t a b:PE)
 |meth (o:PE) (n:Nat) (args:PE) | call (f args:PE) (ks:List Nat) (kvs:PE)
 |attr (o:PE) (n:Nat) | sub (o i:PE) | slc (o l u s:PE)
 |lst (xs:PE) | tupl (xs:PE) | set1 (x y:PE) | dict0
 |lc (e gs:PE) (names:List (Nat×NameKind)) | dc (k v gs:PE) (names:List (Nat×NameKind)) | gen (t it ifs:PE)
 |fstr (xs:PE) | fval (e:PE) | lam (k:Nat) (ps:List Nat) (names:List (Nat×NameKind)) (e:PE)
 |expr (e:PE) | ret (e:PE) | ret0 | set (ts e:PE) | setc (x:Nat) (e:PE) | swap (xs:List Nat) (vs:PE) | aug (x:Nat) (op:Operator) (e:PE)
 |if (t a b:PE) | for (t it b:PE) | def (x k:Nat) (ps:List Nat) (names:List (Nat×NameKind)) (b:PE) | try (b:PE)
structure FT where
 ps:List Nat
 ks:List Nat
 names:List (Nat×NameKind)
 body:PE
section
variable {α β:Type} {r:β} {P:Prop}
theorem nn(h:(none:Option β)=some r):P:=by exact nS h
theorem sm{a c:α}{P:α->Prop}(h:some a=some c)(k:P a):P c:=by obtain rfl:=ak h;exact k
theorem sp{a c:α}{b d:β}{P:α->β->Prop}(h:some (a,b)=some (c,d))(k:P a b):P c d:=by cases h;exact k
theorem ob{x:Option α}{f:α->Option β}(h:x.bind f=some r)(k:∀a,x=some a->f a=some r->P):P:=by
 cases x with | none=>exact nS h | some a=>exact k a rfl h
theorem om{x:Option α}{f:α->β}(h:x.map f=some r)(k:∀a,x=some a->f a=r->P):P:=by
 cases x with | none=>exact nS h | some a=>exact k a rfl (ak h)
noncomputable def ifO(c:Bool)(x:Option β):Option β:=Bool.rec none x c
theorem ifE{c:Bool}{x:Option β}(h:ifO c x=some r)(k:c=true->x=some r->P):P:=by
 cases c with | false=>exact nS h | true=>exact k rfl h
noncomputable def opt(x:Option α)(k:α->Option β):Option β:=Option.rec none k x
theorem dq{x:Option α}{f:α->Option β}(h:opt x f=some r)(k:∀a,x=some a->f a=some r->P):P:=by
 cases x with | none=>exact nS h | some a=>exact k a rfl h
theorem ex{p:α->Prop}(h:∃a,p a)(k:∀a,p a->P):P:=let ⟨a,q⟩:=h;k a q
theorem dec{p:Prop}[Decidable p](h:decide p=true):p:=de h
theorem dd{p q:Prop}[Decidable p][Decidable q](h:(decide p&&decide q)=true):p/\q:=by simpa using h
theorem aa{p q:Bool}(h:(p&&q)=true):p=true/\q=true:=Bool.and_eq_true_iff.mp h
theorem leb{a b:Nat}(h:Nat.ble a b=true):a<=b:=Nat.le_of_ble_eq_true h
end
structure eO where
 a:Nat
 b:Nat
 c:Nat
 d:Nat
 ha:97<=a
 hab:a<b
 hbc:b<c
 hcd:c<d
 hb:b<=106
 hd:d<=116
noncomputable def ph(σ:eO)(c:Nat):Nat:=if c=1000 then σ.a else if c=1001 then σ.b else if c=1002 then σ.c else if c=1003 then σ.d else c
noncomputable def rs(σ:eO)(l:List Nat):Str:=⟨(l.map (ph σ)).toArray⟩
noncomputable def biN(k:Nat):String:=["len","sum","sorted","chr","hasattr","list.append","list.sort","list.index","dict.items","dict.get","set.add","str.join","str.replace","str.split","str.rsplit","int.bit_length"].getD k ""
noncomputable def tyN(k:Nat):String:=["range","set","list","reversed","zip","str"].getD k ""
inductive AV where
 |none
 |bool (b:Bool)
 |int (i:Int)
 |inu (i:Int)
 |oi (r j:Nat)
 |str (l:List Nat)
 |strb (l:List Nat)
 |rop (l:List Nat)
 |ref (i:Nat)
 |st (a:Nat)
 |bi (k:Nat)
 |ty (k:Nat)
 |tup (xs:List AV)
 |bm (f:AV) (self:AV)
 |clo (k:FT) (cells:List (Nat×Nat))
 |rng (a b s:Int)
 |itm (i:Nat)
 |sitm (a:Nat)
 |tok (lo:Bool) (x:List Nat ⊕ Int)
inductive IT where
 |list (i k:Nat)
 |rev (i k:Nat)
 |tup (xs:List AV) (k:Nat)
 |rng (a s:Int) (n:Nat)
 |str (l:List Nat) (k:Nat)
inductive AO where
 |dead
 |list (xs:List AV)
 |dict (es:List (List Nat×AV))
 |bag (es:List (List Nat×AV))
 |set (ks:List (List Nat))
 |setq (ks:List (List Nat))
 |ns (m:List (Nat×AV))
 |idn (m:List (Nat×AV))
 |cell (v:Option AV)
 |inst (c d:Nat)
 |iter (it:IT)
 |tab (k:Nat)
noncomputable def dN:AO->Bool
 | .dead=>false
 |_=>true
noncomputable def lk{α:Type}(x:Nat)(l:List (Nat×α)):Option α:=
 List.rec (motive:=λ_=>Option α) none (λp _ ih=>Bool.rec (motive:=λ_=>Option α) ih (some p.2) (Nat.beq x p.1)) l
structure Cx where
 w:World
 σ:eO
 hs:Heap
 os:OsState
 clo:FT->List (Nat×Nat)->(Nat->Addr)->Heap->Addr->Prop
 tab:Nat->Heap->Addr->Prop
 opq:Nat->List Nat
 tkN:Nat
noncomputable def pc(cx:Cx)(c:Nat):List Nat:=if c<2000 then [ph cx.σ c] else cx.opq (c - 2000)
noncomputable def rq(cx:Cx)(l:List Nat):Str:=⟨(l.flatMap (pc cx)).toArray⟩
noncomputable def mD(vs:Array Value):Bool:=match vs[1]? with
 |some (Value.str _ _)=>true
 |_=>false
noncomputable def ff(o:Obj):Bool:=match o.data with
 | .func _=>true
 | .seq ..=>o.cls == .type "tuple"
 | .fields vs=>mD vs || o.cls == .type "code" || o.cls == .type "method" || o.cls == .type "builtin_function_or_method" || o.cls == .type "zip" || o.cls == .type "range" || o.cls == .type "dict_items"
 |_=>false
noncomputable def j7(Vs:Array Value)(ep:Nat):Obj:={ cls:=.type "tuple",data:=.seq Vs ep}
noncomputable def EV(Vs:Array Value)(ep:Nat):Obj:={ cls:=.type "list",data:=.seq Vs ep}
noncomputable def Is0(cx:Cx)(h:Shared)(ρ:Nat->Addr)(n:Nat)(x:AV)(V:Value):Prop:=match x with
 | .none=>V = .none
 | .bool b=>V = .bool b
 | .int i=>∃t,V = .int i t/\t≠0/\t<h.toks
 | .inu i=>∃t,V = .int i t
 | .oi r j=>∃i t,V = .int i t/\(t≠0/\t<h.toks)/\i.fmod 6=(((r+j) % 6:Nat):Int)
 | .str l=>∃t,V = .str (rs cx.σ l) t
 | .strb l=>∃t,V = .str (rs cx.σ l) t/\t≠0/\t<h.toks
 | .rop l=>∃t,V = .str (rq cx l) t
 | .ref i=>V = .ref (ρ i)/\i<n
 | .st a=>V = .ref a
 | .bi k=>V = .builtin (biN k)
 | .ty k=>V = .type (tyN k)
 | .tup _=>False
 | .bm _ _=>False
 | .clo k cells=>∃a,V = .ref a/\cx.clo k cells ρ h.heap a/\∀p∈cells,p.2<n
 | .rng x y z=>∃a t u v,V = .ref a/\IsRange h.heap a x y z t u v
 | .itm i=>∃a,V = .ref a/\h.heap.get? a=some { cls:=.type "dict_items",data:=.fields #[.ref (ρ i)]}/\i<n
 | .sitm m=>∃a,V = .ref a/\h.heap.get? a=some { cls:=.type "dict_items",data:=.fields #[.ref m]}
 | .tok lo x=>∃t,V=Sum.rec (λl=>.str (rs cx.σ l) t) (λi=>.int i t) x/\(t≠0/\t<h.toks)/\(lo=true->t<cx.tkN)/\(lo=false->cx.tkN<=t)
noncomputable def L2(I:AV->Value->Prop)(xs:List AV):List Value->Prop:=
 List.rec (motive:=λ_=>List Value->Prop) (λVs=>Vs=[]) (λx _ r Vs=>∃V Ws,Vs=V::Ws/\I x V/\r Ws) xs
noncomputable def Op2(I:AV->Value->Prop)(v:Option AV)(y:Option Value):Prop:=Option.rec (motive:=λ_=>Prop) (y=none) (λv=>∃V,y=some V/\I v V) v
noncomputable def Is(cx:Cx)(h:Shared)(ρ:Nat->Addr)(n:Nat)(x:AV)(V:Value):Prop:=match x with
 | .tup xs=>∃a Vs ep,V = .ref a/\h.heap.get? a=some (j7 Vs ep)/\L2 (Is0 cx h ρ n) xs Vs.toList
 | .bm f s=>∃a F S o,V = .ref a/\(h.heap.get? a=some o/\ff o=true/\(o=methodObj F S\/o={ cls:=.type "builtin_function_or_method",data:=.fields #[F,S]}))/\Is0 cx h ρ n f F/\Is0 cx h ρ n s S
 |x=>Is0 cx h ρ n x V
noncomputable abbrev IsL(cx:Cx)(h:Shared)(ρ:Nat->Addr)(n:Nat):=L2 (Is cx h ρ n)
section
variable {I J:AV->Value->Prop} {x:AV} {V:Value} {xs ys:List AV} {Vs Ws:List Value} {P:Prop}
theorem L2.nil:L2 I [] []:=rfl
theorem L2.cons(hx:I x V)(hl:L2 I xs Vs):L2 I (x::xs) (V::Vs):=⟨V,Vs,rfl,hx,hl⟩
theorem L2.len(l:L2 I xs Vs):xs.length=Vs.length:=by
 induction xs generalizing Vs with
 |nil=>rw[show Vs=[] from l];rfl
 |cons x xs ih=>refine dx l λV Ws e _ r=>?_;exact by rw[e,a0,a0,ih r]
theorem L2.app(hx:L2 I xs Vs)(hy:L2 I ys Ws):L2 I (xs++ys) (Vs++Ws):=by
 induction xs generalizing Vs with
 |nil=>rw[show Vs=[] from hx];exact hy
 |cons x xs ih=>refine dx hx λV Vs' e h1 h2=>?_;exact⟨V,Vs'++Ws,by rw[e];rfl,h1,ih h2⟩
theorem L2.getE(hl:L2 I xs Vs){k:Nat}(e:xs[k]? = some x)(c:∀V,Vs[k]? = some V->I x V->P):P:=by
 induction xs generalizing Vs k with
 |nil=>exact nS e
 |cons y xs ih=>
  refine dx hl λV Ws OA h1 h2=>?_;subst OA;cases k with
  |zero=>obtain rfl:=ak e;exact c V rfl h1
  |succ k=>exact ih h2 e c
theorem L2.mono(hl:L2 I xs Vs)(h:∀x∈xs,∀V,I x V->J x V):L2 J xs Vs:=by
 induction xs generalizing Vs with
 |nil=>exact hl
 |cons x xs ih=>refine dx hl λV Ws e h1 h2=>?_;exact⟨V,Ws,e,h x (.head _) V h1,ih h2 λy hy=>h y (.tail _ hy)⟩
theorem Op2.mono{v:Option AV}{y:Option Value}(h:∀x,v=some x->∀V,I x V->J x V)(o:Op2 I v y):Op2 J v y:=by
 cases v with | none=>exact o | some v=>refine dm o λV e i=>?_;exact⟨V,e,h v rfl V i⟩
end
theorem Is0.is{cx h ρ n x V}(i:Is0 cx h ρ n x V):Is cx h ρ n x V:=by cases x<;>first | exact i | exact i.elim
noncomputable def AV.wf0(n:Nat)(x:AV):Prop:=match x with
 | .ref i=>i<n
 | .itm i=>i<n
 | .clo _ cells=>∀p∈cells,p.2<n
 |_=>True
noncomputable def AV.wf(n:Nat)(x:AV):Prop:=match x with
 | .tup xs=>∀x∈xs,x.wf0 n
 | .bm f s=>f.wf0 n/\s.wf0 n
 |x=>x.wf0 n
structure Vw (cx:Cx) (h:Shared) (ρ:Nat->Addr) (cx':Cx) (h':Shared) (ρ':Nat->Addr) (n':Nat):Prop where
 ag:∀i,i<n'->ρ' i=ρ i
 fz:∀a o,h.heap.get? a=some o->ff o=true->h'.heap.get? a=some o
 tk:h.toks<=h'.toks
 so:cx'.σ=cx.σ
 oo:cx'.opq=cx.opq
 nn:cx'.tkN=cx.tkN
 co:∀k cells a,(∀p∈cells,p.2<n')->cx.clo k cells ρ h.heap a->cx'.clo k cells ρ' h'.heap a
section
variable {cx cx':Cx} {h h':Shared} {ρ ρ':Nat->Addr} {n n':Nat} {x:AV} {V:Value}
theorem Is0.map(v:Vw cx h ρ cx' h' ρ' n')(i:Is0 cx h ρ n x V)(w:x.wf0 n'):Is0 cx' h' ρ' n' x V:=by
 cases x with
 |int _=>refine dz i λt e a b=>?_;exact⟨t,e,a,av b v.tk⟩
 |oi _ _=>refine dx i λj t e a b=>?_;exact⟨j,t,e,⟨a.1,av a.2 v.tk⟩,b⟩
 |str l=>obtain⟨t,e⟩:=i;exact⟨t,by rw[v.so];exact e⟩
 |strb l=>refine dz i λt e a b=>?_;exact⟨t,by rw[v.so];exact e,a,av b v.tk⟩
 |rop l=>obtain⟨t,e⟩:=i;exact⟨t,by rw[e];unfold rq pc;rw[v.so,v.oo]⟩
 |ref j=>exact⟨by rw[v.ag j w];exact i.1,w⟩
 |clo k c=>refine dz i λa e b _=>?_;exact⟨a,e,v.co k c a w b,w⟩
 |rng _ _ _=>refine jL i λa t p q e b=>?_;exact⟨a,t,p,q,e,v.fz _ _ b rfl⟩
 |itm j=>refine dz i λa e b _=>?_;exact⟨a,e,by rw[v.ag j w];exact v.fz _ _ b rfl,w⟩
 |sitm m=>refine dm i λa e b=>?_;exact⟨a,e,v.fz _ _ b rfl⟩
 |tok lo x=>refine dz i λt e a b=>?_;exact⟨t,by rw[v.so];exact e,⟨a.1,av a.2 v.tk⟩,by rw[v.nn];exact b⟩
 |_=>exact i
theorem AV.three{M:AV->Prop}(ht:∀xs,M (.tup xs))(hb:∀f s,M (.bm f s))(ho:∀x,(∀cx h ρ n,Is cx h ρ n x=Is0 cx h ρ n x)->(∀n,x.wf n=x.wf0 n)->M x)(x:AV):M x:=by
 cases x<;>first | exact ht _ | exact hb _ _ | exact ho _ (λ_ _ _ _=>rfl) (λ_=>rfl)
theorem Is.map(v:Vw cx h ρ cx' h' ρ' n')(i:Is cx h ρ n x V)(w:x.wf n'):Is cx' h' ρ' n' x V:=by
 revert i w;exact AV.three (M:=λx=>Is cx h ρ n x V->x.wf n'->Is cx' h' ρ' n' x V)
  (λxs i w=>by refine gw i λa Vs ep e b l=>?_;exact⟨a,Vs,ep,e,v.fz _ _ b rfl,l.mono λx hx V i=>i.map v (w x hx)⟩)
  (λf s i w=>by refine kO i λa F S o e b i1 i2=>?_;exact⟨a,F,S,o,e,⟨v.fz _ _ b.1 b.2.1,b.2⟩,i1.map v w.1,i2.map v w.2⟩)
  (λx h1 h2 i w=>by rw[h1]at i ⊢;rw[h2]at w;exact i.map v w) x
theorem Is0.wf(i:Is0 cx h ρ n x V):x.wf0 n:=by
 cases x with
 |ref j=>exact i.2
 |clo k c=>refine dz i λ_ _ _ w=>?_;exact w
 |itm j=>refine dz i λ_ _ _ w=>?_;exact w
 |_=>trivial
theorem L2.wf{xs:List AV}{Vs:List Value}(l:L2 (Is0 cx h ρ n) xs Vs):∀x∈xs,x.wf0 n:=by
 induction xs generalizing Vs with
 |nil=>intro x hx;cases hx
 |cons y xs ih=>refine dx l λV Ws e h1 h2=>?_;exact λx hx=>(aH.mp hx).elim (λq=>q▸h1.wf) (ih h2 x)
theorem Is.wf(i:Is cx h ρ n x V):x.wf n:=by
 revert i;exact AV.three (M:=λx=>Is cx h ρ n x V->x.wf n) (λxs i=>by refine gw i λ_ _ _ _ _ l=>?_;exact l.wf) (λf s i=>by refine kO i λ_ _ _ _ _ _ i1 i2=>?_;exact⟨i1.wf,i2.wf⟩)
  (λx h1 h2 i=>by rw[h1]at i;rw[h2];exact i.wf) x
theorem AV.wf0.le(w:x.wf0 n)(hn:n<=n'):x.wf0 n':=by
 cases x with
 |ref j=>exact av w hn
 |clo k c=>exact λp hp=>av (w p hp) hn
 |itm j=>exact av w hn
 |_=>trivial
theorem AV.wf.le(w:x.wf n)(hn:n<=n'):x.wf n':=by
 revert w;exact AV.three (M:=λx=>x.wf n->x.wf n') (λxs w x hx=>(w x hx).le hn) (λf s w=>⟨w.1.le hn,w.2.le hn⟩) (λx h1 h2 w=>by rw[h2]at w ⊢;exact w.le hn) x
end
noncomputable def nmL:List String:=["k","a","b","msg","hasattr","type","TypeError","__name__","count","i","c","n","x","L","R","mid","shift","upper","lower","a_digits","inner","len","bit_length","digits","text","self","write","with_comments","strip_text","rewrite_prefixes","qname_aware_tags","qname_aware_attrs","exclude_attrs","exclude_tags","set","list","_namespace_map","_write","_data","_with_comments","_strip_text","_exclude_attrs","_exclude_tags","_rewrite_prefixes","_qname_aware_tags","_find_qname_aware_attrs","intersection","_declared_ns_stack","_ns_stack","append","items","_prefix_map","_preserve_space","_pending_start","_root_seen","_root_done","_ignored_depth","ns_stack","_reversed","namespaces","prefixed_name","prefix","name","uri","p","ValueError","split","_iter_namespaces","qname","tag","prefixes_seen","u","rsplit","add","data","_join_text","args","qname_text","_looks_like_prefix_name","_escape_cdata_c14n","strip","_flush","attrs","new_namespaces","_start","v","qnames","resolved_names","qattrs","attr_name","value","parse_qname","parsed_qnames","attr_list","attr_qname","space_behaviour","sorted",".0","_resolve_prefix_name","_qname","key","sort","get","join","_escape_attrib_c14n","_wall","target","AttributeError","_raise_serialization_error","replace","script","starts","range","sum","number","letters","code","j","chr","figures","row","above","_int2digits","getitem","_digits2int","lshift","halves","concat","rows","taken","low","other","and_","xor","neg","place","numbers","traces","contains","countOf","marks","levels","reversed","pair","level","names","tower","uris","rewritten","pieces","writer","told","C14NWriterTarget","_law_walk","start_ns","start","_law_value","index","news","used","tails","prefixes","due","str","cells","there","pressed","one","two","ring","page","_law_cells","_law_letters","_law_row","_law_name","setitem","zip","lt","ge","_law_news","_law_page","_law_due","tail","cell","_law_shattered"]
noncomputable def nmF(x:Nat):Str:=Str.ofString (nmL.getD x "")
noncomputable def nmS:List Str:=nmL.map Str.ofString
noncomputable def byT(w:World):Bool:=w.params.followText "set-order"
noncomputable def pC(w:World)(p:Str×Tok):Int×Value:=(hashStr w p.1,.str p.1 p.2)
noncomputable def ud(w:World)(es:Array (Int×Value))(t:SetTable):Prop:=byT w=false->t.led=true/\(es.size<=1\/t.plain=false)
noncomputable def fB(w:World)(h:Heap)(a:Addr)(ks:List Str):Prop:=
 ∃(o:Obj) (es:Array (Int×Value)) (ep:Nat) (t:SetTable) (l:List (Str×Tok)),h.get? a=some o/\o.ExactSet/\o.data = .set es ep t/\es.toList=l.map (pC w)/\(l.map (·.1)).Perm ks/\ks.Nodup/\es.size<scanBound/\t.fits es.size=true/\ud w es t
noncomputable def OB(cx:Cx)(I:AV->Value->Prop)(h:Heap)(a:Addr)(o:AO):Prop:=match o with
 | .dead=>True
 | .list xs=>∃Vs:Array Value,PlainL h a Vs/\L2 I xs Vs.toList
 | .dict es=>∃kvs,h.DictOf (strKind pw cx.w) a kvs/\kvs.map (·.1)=es.map (λp=>rs cx.σ p.1)/\L2 I (es.map (·.2)) (kvs.map (·.2))
 | .bag es=>∃(kvs' kvs:List (Str×Value)),kvs'.Perm kvs/\h.DictOf (strKind pw cx.w) a kvs/\kvs'.map (·.1)=es.map (λp=>rs cx.σ p.1)/\L2 I (es.map (·.2)) (kvs'.map (·.2))
 | .set ks=>∃m,h.SetOf (strKind pw cx.w) a (λk=>decide (k∈ks.map (rs cx.σ))) m/\m<=ks.length
 | .setq ks=>fB cx.w h a (ks.map (rs cx.σ))
 | .ns m=>∃mm,h.Ns a mm/\∀x,x<185->Op2 I (lk x m) (mm (nmF x))
 | .idn m=>∃mm,h.Ns1 a mm/\Within mm nmS/\∀x,x<185->Op2 I (lk x m) (mm (nmF x))
 | .cell v=>∃W,h.IsCell a W/\Op2 I v W
 | .inst c d=>∃D,h.get? a=some { cls:=.ref c,dict:=some D,data:=.plain}/\I (.ref d) (.ref D)
 | .iter (.list i k)=>∃l,h.IsListIter a l k/\I (.ref i) (.ref l)
 | .iter (.rev i k)=>∃l,h.IsRevIter a l ((k:Int) - 1)/\I (.ref i) (.ref l)
 | .iter (.tup xs k)=>∃t,h.IsTupleIter a t k/\I (.tup xs) (.ref t)
 | .iter (.rng x s m)=>IsRangeIter h a x (m:Int) s
 | .iter (.str l k)=>∃t,h.IsStrIter a "str_ascii_iterator" (rs cx.σ l) t k
 | .tab k=>cx.tab k h a
noncomputable def AO.all(p:AV->Prop)(o:AO):Prop:=match o with
 | .list xs=>∀x∈xs,p x
 | .dict es=>∀x∈es.map (·.2),p x
 | .bag es=>∀x∈es.map (·.2),p x
 | .ns m=>∀y x,lk y m=some x->p x
 | .idn m=>∀y x,lk y m=some x->p x
 | .cell v=>∀x,v=some x->p x
 | .inst _ d=>p (.ref d)
 | .iter (.list i _)=>p (.ref i)
 | .iter (.rev i _)=>p (.ref i)
 | .iter (.tup xs _)=>p (.tup xs)
 |_=>True
structure MG (cx:Cx) (I:AV->Value->Prop) (h:Heap) (a:Addr) (o:AO) (ob:Obj):Prop where
 at_:h.get? a=some ob
 fr:ff ob=false
 re:∀{cx':Cx} {J:AV->Value->Prop} {h':Heap},cx'.w=cx.w->cx'.σ=cx.σ->(∀k,cx.tab k h a->cx'.tab k h' a)->o.all (λx=>∀V,I x V->J x V)->h'.get? a=some ob->OB cx' J h' a o
section
variable {cx:Cx} {I:AV->Value->Prop} {h:Heap} {a:Addr} {o:AO}
theorem frz{ob:Obj}{C D}(c:ob.cls=C)(d:ob.data=D)(f:ff { cls:=C,dict:=ob.dict,data:=D,slots:=ob.slots}=false):ff ob=false:=by
 obtain⟨_,_,_,_⟩:=ob;subst c;subst d;exact f
theorem OB.told(x:OB cx I h a o)(al:dN o=true)(gt:∀k,cx.tab k h a->∃ob,h.get? a=some ob/\ff ob=false):∃ob,MG cx I h a o ob:=by
 cases o with
 |dead=>exact fT al
 |list xs=>refine dm x λVs OA l=>?_;refine fR OA λo n e c q d=>?_;exact⟨o,e,frz c d rfl,λw s t m e'=>⟨Vs,⟨o,n,e',c,q,d⟩,l.mono m⟩⟩
 |dict es=>refine dz x λkvs OC k l=>?_;refine nM OC λo es ep e q d r=>?_;exact⟨o,e,frz rfl d rfl,λw s t m e'=>⟨kvs,by rw[w];exact⟨o,es,ep,e',q,d,r⟩,by rw[s];exact k,l.mono m⟩⟩
 |bag es=>refine fR x λkvs' kvs pm OD k l=>?_;refine nM OD λo es ep e q d r=>?_;exact⟨o,e,frz rfl d rfl,λw s t m e'=>⟨kvs',kvs,pm,by rw[w];exact⟨o,es,ep,e',q,d,r⟩,by rw[s];exact k,l.mono m⟩⟩
 |set ks=>refine dm x λn OF l=>?_;refine kO OF λo es ep tb e q d r=>?_;exact⟨o,e,frz rfl d rfl,λw s t m e'=>⟨n,by rw[w,s];exact⟨o,es,ep,tb,e',q,d,r⟩,l⟩⟩
 |setq ks=>refine Ly x λo es ep tb l e q d r=>?_;exact⟨o,e,frz rfl d rfl,λw s t m e'=>by show fB _ _ _ _;rw[w,s];exact⟨o,es,ep,tb,l,e',q,d,r⟩⟩
 |ns m=>refine dm x λmm OG l=>?_;refine gw OG λo es ep e d r=>?_;exact⟨o,e,frz rfl d rfl,λw s t m e'=>⟨mm,⟨o,es,ep,e',d,r⟩,λy hy=>(l y hy).mono (m y)⟩⟩
 |idn m=>refine dz x λmm OH wi l=>?_;refine gw OH λo es ep e d r=>?_;exact⟨o,e,frz rfl d rfl,λw s t m e'=>⟨mm,⟨o,es,ep,e',d,r⟩,wi,λy hy=>(l y hy).mono (m y)⟩⟩
 |cell v=>refine dm x λW OI l=>?_;refine dm OI λo e d=>?_;exact⟨o,e,frz rfl d rfl,λw s t m e'=>⟨W,⟨o,e',d⟩,l.mono m⟩⟩
 |inst c d=>refine dm x λD e i=>?_;exact⟨_,e,rfl,λw s t m e'=>⟨D,e',m _ i⟩⟩
 |iter it=>
  cases it with
  |list i k=>refine dm x λl OJ i=>?_;refine dz OJ λo e c d=>?_;exact⟨o,e,frz c d rfl,λw s t m e'=>⟨l,⟨o,e',c,d⟩,m _ i⟩⟩
  |rev i k=>refine dm x λl OK i=>?_;refine dz OK λo e c d=>?_;exact⟨o,e,frz c d rfl,λw s t m e'=>⟨l,⟨o,e',c,d⟩,m _ i⟩⟩
  |tup xs k=>refine dm x λl OM i=>?_;refine dz OM λo e c d=>?_;exact⟨o,e,frz c d rfl,λw s t m e'=>⟨l,⟨o,e',c,d⟩,m _ i⟩⟩
  |rng x' s m=>exact⟨_,x,rfl,λw s t m e'=>e'⟩
  |str l k=>refine dx x λt' o e c d=>?_;exact⟨o,e,frz c d rfl,λw s t m e'=>⟨t',o,e',c,by rw[s];exact d⟩⟩
 |tab k=>refine dm (gt k x) λob e f=>?_;exact⟨ob,e,f,λw s t m e'=>t k x⟩
end
section
set_option genSizeOf true
set_option genInjectivity true
structure Ext (ρ:Nat->Addr) (n:Nat) (h:Shared) (ρ':Nat->Addr) (h':Shared):Prop where
 ag:∀i,i<n->ρ' i=ρ i
 fz:∀a o,h.heap.get? a=some o->ff o=true->h'.heap.get? a=some o
 tk:h.toks<=h'.toks
theorem Ext.refl{ρ n h}:Ext ρ n h ρ h:=⟨λ_ _=>rfl,λ_ _ e _=>e,ad _⟩
theorem Ext.trans{ρ n h ρ' n' h' ρ'' h''}(x:Ext ρ n h ρ' h')(hn:n<=n')(y:Ext ρ' n' h' ρ'' h''):Ext ρ n h ρ'' h'':=
 ⟨λi hi=>(y.ag i (av hi hn)).trans (x.ag i hi),λa o e f=>y.fz a o (x.fz a o e f) f,ae x.tk y.tk⟩
theorem Ext.less{ρ n m h ρ' h'}(x:Ext ρ n h ρ' h')(hm:m<=n):Ext ρ m h ρ' h':=⟨λi hi=>x.ag i (av hi hm),x.fz,x.tk⟩
structure Cx.Good (cx:Cx):Prop where
 opl:∀k,(cx.opq k).length<=24
 clo:∀{k cells ρ n h ρ' h' a},Ext ρ n h ρ' h'->(∀p∈cells,p.2<n)->cx.clo k cells ρ h.heap a->cx.clo k cells ρ' h'.heap a
 tab:∀{k ρ n} {h:Shared} {ρ'} {h':Shared} {a},Ext ρ n h ρ' h'->(∀ob,h.heap.get? a=some ob->h'.heap.get? a=some ob)->cx.tab k h.heap a->cx.tab k h'.heap a
 tabO:∀k (h:Shared) a,cx.tab k h.heap a->∃ob,h.heap.get? a=some ob/\ff ob=false
noncomputable abbrev OR(cx:Cx)(h:Shared)(ρ:Nat->Addr)(n:Nat):=OB cx (Is cx h ρ n) h.heap
structure SR (cx:Cx) (ρ:Nat->Addr) (H:List AO) (s:Shared):Prop where
 keep:∀a o,cx.hs.get? a=some o->s.heap.get? a=some o
 own:∀i o,H[i]? = some o->OR cx s ρ H.length (ρ i) o
 inj:∀i j oi oj,H[i]? = some oi->H[j]? = some oj->dN oi=true->dN oj=true->ρ i=ρ j->i=j
 new:∀i o,H[i]? = some o->dN o=true->cx.hs.get? (ρ i)=none
 gens:s.gens=#[]
 os:s.os=cx.os
 tkn:cx.tkN<=s.toks/\0<s.toks
noncomputable def AO.wf(n:Nat)(o:AO):Prop:=o.all (AV.wf n)
theorem fM{H:List AO}{i:Nat}{o:AO}(h:H[i]? = some o):i<H.length:=(aG.mp h).1
theorem jO{H:List AO}{i j:Nat}{o p:AO}(e:(H.set i o)[j]? = some p):(i≠j/\H[j]? = some p)\/(i=j/\p=o/\j<H.length):=by
 by_cases h:i=j
 ·subst h
  have:=fM e;rw[aE]at this;rw[List.getElem?_set_self this]at e;exact .inr ⟨rfl,(ak e).symm,this⟩
 ·rw[List.getElem?_set_ne h]at e;exact .inl ⟨h,e⟩
theorem ou{H:List AO}{j:Nat}{o p:AO}(e:(H++[o])[j]? = some p):(j<H.length/\H[j]? = some p)\/(j=H.length/\p=o):=by
 by_cases h:j<H.length
 ·rw[cb h]at e;exact .inl ⟨h,e⟩
 ·have:=fM e
  rw[az]at this;have:j=H.length:=Nat.le_antisymm (dh this) (bo h);subst this;rw[cz (ad _),Nat.sub_self]at e;exact .inr ⟨rfl,(ak e).symm⟩
section
variable {cx:Cx} {ρ ρ':Nat->Addr} {n n':Nat} {s h h':Shared} {H:List AO} {i:Nat} {o o':AO} {a b:Addr} {x:AV} {V:Value} {xs:List AV} {Vs:List Value} {hp:Heap} {t:Nat}
theorem Ext.vw(g:cx.Good)(E:Ext ρ n h ρ' h'):Vw cx h ρ cx h' ρ' n:=⟨E.ag,E.fz,E.tk,rfl,rfl,rfl,λ_ _ _=>g.clo E⟩
theorem Is.ext(g:cx.Good)(E:Ext ρ n h ρ' h')(hn:n<=n')(i:Is cx h ρ n x V):Is cx h' ρ' n' x V:=
 (i.map (E.vw g) i.wf).map (⟨λ_ _=>rfl,λ_ _ e _=>e,ad _,rfl,rfl,rfl,λ_ _ _ _ c=>c⟩:Vw cx h' ρ' cx h' ρ' n') (i.wf.le hn)
theorem IsL.ext(g:cx.Good)(E:Ext ρ n h ρ' h')(hn:n<=n')(l:IsL cx h ρ n xs Vs):IsL cx h' ρ' n' xs Vs:=L2.mono l λ_ _ _ i=>i.ext g E hn
theorem Is.less(i:Is cx h ρ n x V)(w:x.wf n'):Is cx h ρ n' x V:=i.map ⟨λ_ _=>rfl,λ_ _ e _=>e,ad _,rfl,rfl,rfl,λ_ _ _ _ c=>c⟩ w
theorem IsL.less(l:IsL cx h ρ n xs Vs)(w:∀x∈xs,x.wf n'):IsL cx h ρ n' xs Vs:=L2.mono l λx hx _ i=>i.less (w x hx)
theorem AO.all_of{p:AV->Prop}(o:AO)(h:∀x,p x):o.all p:=by
 cases o with
 |iter it=>cases it<;>first | exact h _ | trivial
 |list xs=>exact λx _=>h x
 |dict xs=>exact λx _=>h x
 |bag xs=>exact λx _=>h x
 |ns m=>exact λ_ x _=>h x
 |idn m=>exact λ_ x _=>h x
 |cell v=>exact λx _=>h x
 |inst c d=>exact h _
 |_=>trivial
theorem AO.all_imp{p q:AV->Prop}{o:AO}(h:∀x,p x->q x)(w:o.all p):o.all q:=by
 cases o with
 |iter it=>cases it<;>first | exact h _ w | trivial
 |list xs=>exact λx hx=>h x (w x hx)
 |dict xs=>exact λx hx=>h x (w x hx)
 |bag xs=>exact λx hx=>h x (w x hx)
 |ns m=>exact λy x e=>h x (w y x e)
 |idn m=>exact λy x e=>h x (w y x e)
 |cell v=>exact λx e=>h x (w x e)
 |inst c d=>exact h _ w
 |_=>trivial
theorem OR.told(g:cx.Good)(x:OR cx h ρ n a o)(al:dN o=true):∃ob,MG cx (Is cx h ρ n) h.heap a o ob:=OB.told x al λk=>g.tabO k h a
theorem nG(ho:dN o=false):OR cx h ρ n a o:=by cases o<;>first | trivial | cases ho
theorem OR.ext(g:cx.Good)(E:Ext ρ n h ρ' h')(hn:n<=n')(hk:dN o=true->∀ob,h.heap.get? a=some ob->h'.heap.get? a=some ob)(x:OR cx h ρ n a o):OR cx h' ρ' n' a o:=by
 cases al:dN o with
 |false=>exact nG al
 |true=>exact(OR.told g x al).elim λob T=>T.re rfl rfl (λk=>g.tab E (hk al)) (o.all_of λx V i=>i.ext g E hn) (hk al ob T.at_)
theorem OR.less(g:cx.Good)(x:OR cx h ρ n a o)(w:o.wf n'):OR cx h ρ n' a o:=by
 cases al:dN o with
 |false=>exact nG al
 |true=>exact(OR.told g x al).elim λob T=>T.re rfl rfl (λk t=>t) (AO.all_imp (λx w V i=>Is.less i w) w) T.at_
theorem SR.ob(g:cx.Good)(S:SR cx ρ H s)(hi:H[i]? = some o)(al:dN o=true):∃ob,s.heap.get? (ρ i)=some ob/\ff ob=false:=
 (OR.told g (S.own i _ hi) al).elim λob T=>⟨ob,T.at_,T.fr⟩
theorem SR.lt(g:cx.Good)(S:SR cx ρ H s)(hi:H[i]? = some o)(al:dN o=true):ρ i<s.heap.objs.size:=(S.ob g hi al).elim λ_ e=>bk e.1
theorem SR.tk(S:SR cx ρ H s)(ht:s.toks<=t):cx.tkN<=t/\0<t:=⟨ae S.tkn.1 ht,av S.tkn.2 ht⟩
theorem SR.tk0(S:SR cx ρ H s):0<s.toks:=S.tkn.2
theorem SR.grow(g:cx.Good)(S:SR cx ρ H s)(hk:∀a o,s.heap.get? a=some o->hp.get? a=some o)(ht:s.toks<=t):
  SR cx ρ H { s with heap:=hp,toks:=t}/\Ext ρ H.length s ρ { s with heap:=hp,toks:=t}:=
 have E:Ext ρ H.length s ρ { s with heap:=hp,toks:=t}:=⟨λ_ _=>rfl,λa o e _=>hk a o e,ht⟩
 ⟨⟨λa o e=>hk a o (S.keep a o e),λi o e=>(S.own i o e).ext g E (ad _) λ_=>hk _,S.inj,S.new,S.gens,S.os,S.tk ht⟩,E⟩
theorem SR.toks(g:cx.Good)(S:SR cx ρ H s)(ht:s.toks<=t):SR cx ρ H { s with toks:=t}/\Ext ρ H.length s ρ { s with toks:=t}:=S.grow g (λ_ _ e=>e) ht
theorem SR.set(g:cx.Good)(S:SR cx ρ H s)(hi:H[i]? = some o)(al:dN o=true)(hk:∀a o,a≠ρ i->s.heap.get? a=some o->hp.get? a=some o)
  (ht:s.toks<=t) (ho:Ext ρ H.length s ρ { s with heap:=hp,toks:=t}->OR cx { s with heap:=hp,toks:=t} ρ H.length (ρ i) o') :
  SR cx ρ (H.set i o') { s with heap:=hp,toks:=t}/\Ext ρ H.length s ρ { s with heap:=hp,toks:=t}:=by
 refine dm (S.ob g hi al) λob eob fob=>?_;have E:Ext ρ H.length s ρ { s with heap:=hp,toks:=t}:=⟨λ_ _=>rfl,λa o e f=>hk a o (λq=>by rw[q,eob]at e;obtain rfl:=ak e;rw[fob]at f;exact fT f) e,ht⟩;have back:∀j p,(H.set i o')[j]? = some p->dN p=true->∃p',H[j]? = some p'/\dN p'=true:=λj p e a=>
  (jO e).elim (λq=>⟨p,q.2,a⟩) λq=>⟨o,q.1▸hi,al⟩
 refine⟨⟨λa o e=>hk a o (λq=>by rw[q,S.new i _ hi al]at e;exact nS e) (S.keep a o e),λj p e=>?_,λx y ox oy ex ey ax ay q=>?_,λx ox ex ax=>?_,S.gens,S.os,S.tk ht⟩,E⟩
 ·rw[aE]
  refine(jO e).elim (λq=>(S.own j p q.2).ext g E (ad _) λap=>λob eo=>hk _ _ (λz=>q.1 (S.inj i j _ _ hi q.2 al ap z.symm)) eo) λq=>?_;rw[<-q.1,q.2.1];exact ho E
 ·exact(back x ox ex ax).elim λpx h1=>(back y oy ey ay).elim λpy h2=>S.inj x y _ _ h1.1 h2.1 h1.2 h2.2 q
 ·exact(back x ox ex ax).elim λpx h1=>S.new x _ h1.1 h1.2
theorem SR.die(g:cx.Good)(S:SR cx ρ H s)(hi:H[i]? = some o)(al:dN o=true)(hk:∀a o,a≠ρ i->s.heap.get? a=some o->hp.get? a=some o)(ht:s.toks<=t):
  SR cx ρ (H.set i .dead) { s with heap:=hp,toks:=t}/\Ext ρ H.length s ρ { s with heap:=hp,toks:=t}:=S.set g hi al hk ht λ_=>trivial
noncomputable def up(ρ:Nat->Addr)(n:Nat)(a:Addr):Nat->Addr:=λi=>if i=n then a else ρ i
theorem gM{i:Nat}(h:i<n):up ρ n a i=ρ i:=aF (aO h)
theorem g9:up ρ n a n=a:=aI rfl
theorem SR.add(g:cx.Good)(S:SR cx ρ H s)(hn:cx.hs.get? a=none)(hw:∀i o,H[i]? = some o->dN o=true->ρ i≠a)(ht:s.toks<=t)
  (hk:∀b o,s.heap.get? b=some o->hp.get? b=some o) (ho:Ext ρ H.length s (up ρ H.length a) { s with heap:=hp,toks:=t}->OR cx { s with heap:=hp,toks:=t} (up ρ H.length a) (H.length+1) a o) :
  SR cx (up ρ H.length a) (H++[o]) { s with heap:=hp,toks:=t}/\Ext ρ H.length s (up ρ H.length a) { s with heap:=hp,toks:=t}:=by
 have E:Ext ρ H.length s (up ρ H.length a) { s with heap:=hp,toks:=t}:=⟨λi hi=>gM hi,λa o e _=>hk a o e,ht⟩;refine⟨⟨λa o e=>hk a o (S.keep a o e),λj p e=>?_,λi j oi oj ei ej ai aj q=>?_,λi oi ei ai=>?_,S.gens,S.os,S.tk ht⟩,E⟩
 ·rw[az]
  refine(ou e).elim (λq=>?_) λq=>?_
  ·rw[gM q.1];exact(S.own j p q.2).ext g E (aC _) λ_=>hk _
  ·rw[q.1,q.2,g9];exact ho E
 ·refine(ou ei).elim (λc1=>(ou ej).elim (λc2=>?_) λc2=>?_) λc1=>(ou ej).elim (λc2=>?_) λc2=>c1.1.trans c2.1.symm
  ·rw[gM c1.1,gM c2.1]at q;exact S.inj i j _ _ c1.2 c2.2 ai aj q
  ·rw[gM c1.1,c2.1,g9]at q;exact absurd q (hw i _ c1.2 ai)
  ·rw[c1.1,g9,gM c2.1]at q;exact absurd q.symm (hw j _ c2.2 aj)
 ·refine(ou ei).elim (λc=>?_) λc=>?_
  ·rw[gM c.1];exact S.new i _ c.2 ai
  ·rw[c.1,g9];exact hn
theorem SR.none_at(S:SR cx ρ H s)(ha:s.heap.objs.size<=a):cx.hs.get? a=none:=by
 cases q:cx.hs.get? a with
 |none=>rfl
 |some o=>exact absurd (bk (S.keep a o q)) (bJ.mpr ha)
theorem SR.fresh(g:cx.Good)(S:SR cx ρ H s){ob:Obj}(ht:s.toks<=t)
  (ho:Ext ρ H.length s (up ρ H.length s.heap.objs.size) { s with heap:=s.heap.push ob,toks:=t}->OR cx { s with heap:=s.heap.push ob,toks:=t} (up ρ H.length s.heap.objs.size) (H.length+1) s.heap.objs.size o) :
  SR cx (up ρ H.length s.heap.objs.size) (H++[o]) { s with heap:=s.heap.push ob,toks:=t}/\Ext ρ H.length s (up ρ H.length s.heap.objs.size) { s with heap:=s.heap.push ob,toks:=t}:=
 S.add g (S.none_at (ad _)) (λi p e al=>aO (S.lt g e al)) ht (λ_ _ e=>am _ e) ho
theorem SR.conv(S:SR cx ρ H s)(hi:H[i]? = some o)(al:dN o=true)(ho:OR cx s ρ H.length (ρ i) o->OR cx s ρ H.length (ρ i) o'):SR cx ρ (H.set i o') s:=by
 have back:∀j p,(H.set i o')[j]? = some p->dN p=true->∃p',H[j]? = some p'/\dN p'=true:=λj p e a=>
  (jO e).elim (λq=>⟨p,q.2,a⟩) λq=>⟨o,q.1▸hi,al⟩
 refine⟨S.keep,λj p e=>?_,λx y ox oy ex ey ax ay q=>?_,λx ox ex ax=>?_,S.gens,S.os,S.tkn⟩
 ·rw[aE]
  refine(jO e).elim (λq=>S.own j p q.2) λq=>?_;rw[<-q.1,q.2.1];exact ho (S.own i o hi)
 ·exact(back x ox ex ax).elim λpx h1=>(back y oy ey ay).elim λpy h2=>S.inj x y _ _ h1.1 h2.1 h1.2 h2.2 q
 ·exact(back x ox ex ax).elim λpx h1=>S.new x _ h1.1 h1.2
end
end
structure Ok (A:Around) (d:Nat):Prop where
 dp:A.depth+8 * d<recursionLimit
 un:A.units+32 * d<cLine
 hd:A.handled=none
theorem Ok.depth{A d}(o:Ok A d):A.depth<recursionLimit:=aJ (aK _ _) o.dp
theorem Ok.units{A d}(o:Ok A d):A.units<cLine:=aJ (aK _ _) o.un
theorem Ok.less{A d e}(o:Ok A d)(h:e<=d):Ok A e:=
 ⟨aJ (bO (ct 8 h) _) o.dp,aJ (bO (ct 32 h) _) o.un,o.hd⟩
theorem xT{a d L k c:Nat}(h:a+k * (d+1)<L)(hc:c<=k):a+c+k * d<L:=
 aJ (by rw[Nat.mul_succ,bf,bw (k * d)];exact bO (cE hc _) _) h
theorem Ok.in1{A d}(o:Ok A (d+1)):Ok A.in1 d:=⟨by show A.depth+0+8 * d<_;exact xT o.dp (by decide),by show A.units+1+32 * d<_;exact xT o.un (by decide),o.hd⟩
theorem Ok.deeper{A d env}(o:Ok A (d+1)):Ok (A.deeper env) d:=
 ⟨by show A.depth+1+8 * d<_;exact xT o.dp (by decide),by show A.units+3+32 * d<_;exact xT o.un (by decide),o.hd⟩
noncomputable def Ap(n:Nat):Option AV:=lk n [(36,.st 135),(104,.st 259),(122,.st 122),(124,.st 129),(123,.st 108),(125,.st 66),(127,.st 87),(132,.st 59),(133,.st 80),(134,.st 73),(138,.st 94),(139,.st 101),(177,.st 45),(178,.st 52),(175,.st 115),(152,.st 241),(153,.st 307),(156,.st 302),(171,.st 264),(172,.st 271),(173,.st 278),(174,.st 285),(179,.st 290),(180,.st 312),(181,.st 317),(184,.st 297),(21,.bi 0),(113,.bi 1),(96,.bi 2),(118,.bi 3),(4,.bi 4),(112,.ty 0),(34,.ty 1),(35,.ty 2),(142,.ty 3),(176,.ty 4),(163,.ty 5)]
theorem sw:(nmL.map Str.ofString).Nodup:=by decide +kernel
theorem kD:nmL.length=185:=by decide +kernel
theorem o9{x:Nat}(hx:x<185):(nmL.map Str.ofString)[x]? = some (nmF x):=by
 have:x<nmL.length:=by rw[kD];exact hx
 rw[aP,au this];unfold nmF;rw[bg,au this];rfl
theorem qD{x y:Nat}(hx:x<185)(hy:y<185)(h:nmF x=nmF y):x=y:=by
 have e1:=o9 hx;have e2:=o9 hy;rw[<-h]at e2;obtain⟨l1,g1⟩:=aG.mp e1;obtain⟨l2,g2⟩:=aG.mp e2;exact(List.getElem_inj sw).mp (g1.trans g2.symm)
theorem Du{x:Nat}(hx:185<=x):nmF x=Str.ofString "":=by
 unfold nmF;rw[bg,bK (by rw[kD];exact hx)];rfl
theorem zm(n:Str)(h1:((nmL.map Str.ofString).all λx=>!(x == n))=true)(h2:(Str.ofString "" == n)=false)(x:Nat):(nmF x == n)=false:=by
 by_cases hx:x<185
 ·have:=aA.mp h1 _ (aQ (o9 hx))
  simpa using this
 ·rw[Du (bo hx)];exact h2
theorem rd:∀x,(nmF x == ("__debug__" : Str))=false:=zm _ (by decide +kernel) (by decide +kernel)
theorem Dt:∀x,(nmF x == ("__classdict__" : Str))=false:=zm _ (by decide +kernel) (by decide +kernel)
structure Cok (cx:Cx):Prop extends Cx.Good cx where
 lim:cx.hs.NoLimit
 mods:cx.hs.get? sysModules≠none
 nb:NoneBooked cx.hs
 glob:∃mg mb,cx.hs.Ns mainGlobals mg/\cx.hs.Ns builtinsNs mb/\∀x a,Ap x=some a->∃V,(∀h ρ n,Is cx h ρ n a V)/\(mg (nmF x)=some V\/(mg (nmF x)=none/\mb (nmF x)=some V))
structure IE where
 kd:List (Nat×NameKind)
 L:Nat
 cells:List (Nat×Nat)
 cd:Value
noncomputable def ij:Value->Str
 | .ref a=>if a=216 then Str.ofString "C14NWriterTarget._start.<locals>." else if a=128 then Str.ofString "_digits2int.<locals>." else if a=121 then Str.ofString "_int2digits.<locals>." else Str.ofString ""
 |_=>Str.ofString ""
structure iZ (ρ:Nat->Addr) (n:Nat) (c:IE) (env:Env):Prop where
 fn:env.scope.kind = .function
 kd:∀x k,lk x c.kd=some k->env.kindOf (nmF x)=some k
 lt:c.L<n
 loc:env.locals=ρ c.L
 glob:env.globals=mainGlobals
 blt:env.builtins=builtinsNs
 code:c.cd = .none\/(env.code=c.cd/\env.qual=ij c.cd)
 cells:∀x i,lk x c.cells=some i->i<n/\env.cells.lookup (nmF x)=some (ρ i)
theorem iZ.ext{ρ n c env ρ' n' h h'}(e:iZ ρ n c env)(E:Ext ρ n h ρ' h')(hn:n<=n'):iZ ρ' n' c env:=
 ⟨e.fn,e.kd,av e.lt hn,by rw[E.ag _ e.lt];exact e.loc,e.glob,e.blt,e.code,
 λx i q=>⟨av (e.cells x i q).1 hn,by rw[E.ag _ (e.cells x i q).1];exact(e.cells x i q).2⟩⟩
structure At (cx:Cx) (d:Nat) (c:IE) (H:List AO) (A:Around) (s:Shared) (ρ:Nat->Addr) (env:Env):Prop where
 g:Cok cx
 ok:Ok A d
 sr:SR cx ρ H s
 en:iZ ρ H.length c env
noncomputable def Pst{α:Type}(cx:Cx)(ρ:Nat->Addr)(H:List AO)(s:Shared)(H':List AO)(J:Shared->(Nat->Addr)->α->Prop)(Q:α->Shared->Prop):Prop:=
 ∀a s' ρ',SR cx ρ' H' s'->J s' ρ' a->Ext ρ H.length s ρ' s'->Q a s'
noncomputable def Do{α:Type}(cx:Cx)(d:Nat)(c:IE)(H:List AO)(t:Env->Sem α)(H':List AO)(J:Shared->(Nat->Addr)->α->Prop):Prop:=
 H.length<=H'.length/\∀{A s ρ env} {Q:α->Shared->Prop} {E},At cx d c H A s ρ env->Pst cx ρ H s H' J Q->wpAny (model pw cx.w) A (t env) Q E s
noncomputable abbrev gy(cx:Cx)(ρ:Nat->Addr)(H:List AO)(s:Shared)(r:AV)(H':List AO)(Q:Value->Shared->Prop):Prop:=Pst cx ρ H s H' (λs' ρ' V=>Is cx s' ρ' H'.length r V) Q
noncomputable abbrev EvE(cx:Cx)(d:Nat)(e:Expr)(c:IE)(H:List AO)(r:AV)(H':List AO):Prop:=Do cx d c H (eval e) H' λs' ρ' V=>Is cx s' ρ' H'.length r V
section
variable {α:Type} {cx:Cx} {d:Nat} {c:IE} {A:Around} {s U4:Shared} {ρ V4:Nat->Addr} {env:Env} {H H' O7:List AO} {t:Env->Sem α} {J:Shared->(Nat->Addr)->α->Prop} {Q:α->Shared->Prop} {E:Value->Shared->Prop} {r a v:AV} {V:Value}
theorem At.next(z:At cx d c H A s ρ env)(S:SR cx V4 O7 U4)(E:Ext ρ H.length s V4 U4)(h:H.length<=O7.length):At cx d c O7 A U4 V4 env:=⟨z.g,z.ok,S,z.en.ext E h⟩
theorem Pst.on(W:Pst cx ρ H s H' J Q)(E:Ext ρ H.length s V4 U4)(h:H.length<=O7.length):Pst cx V4 O7 U4 H' J Q:=λa s' ρ' S i E'=>W a s' ρ' S i (E.trans h E')
theorem Do.run(h:Do cx d c H t H' J)(z:At cx d c H A s ρ env)(k:∀a s' ρ',At cx d c H' A s' ρ' env->J s' ρ' a->Ext ρ H.length s ρ' s'->Q a s'):wpAny (model pw cx.w) A (t env) Q E s:=
 h.2 z λa s' ρ' S i E=>k a s' ρ' (z.next S E h.1) i E
theorem Pst.now{Q:Value->Shared->Prop}{t:Nat}(W:gy cx ρ H s r H Q)(g:cx.Good)(S:SR cx ρ H s)(ht:s.toks<=t)(i:Is cx { s with toks:=t} ρ H.length r V):Q V { s with toks:=t}:=
 W V { s with toks:=t} ρ (S.toks g ht).1 i (S.toks g ht).2
theorem Pst.here{Q:Value->Shared->Prop}(W:gy cx ρ H s r H Q)(S:SR cx ρ H s)(i:Is cx s ρ H.length r V):Q V s:=W V s ρ S i .refl
theorem Pst.int{Q:Value->Shared->Prop}{i:Int}(W:gy cx ρ H s (.int i) H Q)(g:cx.Good)(S:SR cx ρ H s):Q (.int i s.toks) { s with toks:=s.toks+1}:=
 W.now g S (aC _) ⟨_,rfl,bl S.tk0,aD _⟩
theorem Pst.str{Q:Value->Shared->Prop}{l:List Nat}(W:gy cx ρ H s (.str l) H Q)(g:cx.Good)(S:SR cx ρ H s):Q (.str (rs cx.σ l) s.toks) { s with toks:=s.toks+1}:=
 W.now g S (aC _) ⟨_,rfl⟩
theorem oK{n m:Nat}{a:Addr}(hm:n<m):Is cx s (up ρ n a) m (.ref n) (.ref a):=⟨by rw[g9],hm⟩
theorem Pst.mk{Q:Value->Shared->Prop}{o:Obj}{ao:AO}{t:Nat}(W:gy cx ρ H s (.ref H.length) (H++[ao]) Q)(g:cx.Good)(S:SR cx ρ H s)(ht:s.toks<=t)
  (ho:Ext ρ H.length s (up ρ H.length s.heap.objs.size) { s with heap:=s.heap.push o,toks:=t}->OR cx { s with heap:=s.heap.push o,toks:=t} (up ρ H.length s.heap.objs.size) (H.length+1) s.heap.objs.size ao) :
  Q (.ref s.heap.objs.size) { s with heap:=s.heap.push o,toks:=t}:=
 W _ _ _ (S.fresh g ht ho).1 (oK (by rw[az];exact aD _)) (S.fresh g ht ho).2
theorem eQ(H:List AO)(o:AO):H.length<=(H++[o]).length:=by rw[az];exact aK _ _
theorem EvE.int{i k pos}:EvE cx d (.Constant (.int i) k pos) c H (.int i) H:=⟨ad _,λz W=>wpAny_Constant_int (W.int z.g.toGood z.sr)⟩
theorem EvE.str{x l k pos}(hx:x=rs cx.σ l):EvE cx d (.Constant (.str x) k pos) c H (.str l) H:=
 ⟨ad _,λz W=>by rw[eval_Constant];exact wpAny_mkText (hx▸W.str z.g.toGood z.sr)⟩
theorem EvE.bool{x k pos}:EvE cx d (.Constant (.bool x) k pos) c H (.bool x) H:=⟨ad _,λz W=>by rw[eval_Constant];exact af (W.here z.sr rfl)⟩
theorem EvE.none{k pos}:EvE cx d (.Constant .none k pos) c H .none H:=⟨ad _,λz W=>by rw[eval_Constant];exact af (W.here z.sr rfl)⟩
theorem SR.ns{a m}(S:SR cx ρ H s)(h:cx.hs.Ns a m):s.heap.Ns a m:=by
 refine gv h λo es ep e r=>?_;exact⟨o,es,ep,S.keep _ _ e,r⟩
theorem EvE.loc{x pos m}(hk:lk x c.kd=some .local)(hL:H[c.L]? = some (.ns m))(hx:x<185)(hv:lk x m=some v):EvE cx d (.Name (nmF x) pos) c H v H:=
 ⟨ad _,λz W=>by
  refine dm (z.sr.own _ _ hL) λmm N l=>?_;have:=l x hx;rw[hv]at this;refine dm this λV e1 e2=>?_;exact wpAny_Name (wpAny_loadName_local z.en.fn (z.en.kd x _ hk) (z.en.loc▸N) e1 (W.here z.sr e2)) (rd x)⟩
theorem EvE.cell{x pos i}(hk:lk x c.kd=some .cell\/lk x c.kd=some .free)(hc:lk x c.cells=some i)(hv:H[i]? = some (.cell (some v))):EvE cx d (.Name (nmF x) pos) c H v H:=
 ⟨ad _,λz W=>by
  refine dm (z.sr.own i _ hv) λU e1 OA=>?_;refine dm OA λV e3 e2=>?_;rw[e3]at e1;exact wpAny_Name (hk.elim (λhk=>wpAny_loadName_cell z.en.fn (z.en.kd x _ hk) (z.en.cells x i hc).2 e1 (W.here z.sr e2)) λhk=>wpAny_loadName_free z.en.fn (z.en.kd x _ hk) (z.en.cells x i hc).2 e1 (W.here z.sr e2) (Dt x)) (rd x)⟩
theorem EvE.glo{x pos}(hk:lk x c.kd=some .globalImplicit)(hv:Ap x=some v):EvE cx d (.Name (nmF x) pos) c H v H:=
 ⟨ad _,λz W=>by
  refine dx z.g.glob λmg mb N1 N2 hg=>?_;refine dm (hg x v hv) λV sv hV=>?_;refine Name_function_global z.en.fn (z.en.kd x _ hk) ?_ (rd x);exact hV.elim (λhV=>loadGlobal_global (z.en.glob▸z.sr.ns N1) hV (W.here z.sr (sv _ _ _))) λhV=>loadGlobal_builtin (z.en.glob▸z.sr.ns N1) hV.1 (z.en.blt▸z.sr.ns N2) hV.2 (W.here z.sr (sv _ _ _))⟩
end
noncomputable def ins(x:Nat)(v:AV)(m:List (Nat×AV)):List (Nat×AV):=
 List.rec (motive:=λ_=>List (Nat×AV)) [(x,v)] (λp r ih=>Bool.rec (motive:=λ_=>List (Nat×AV)) (p::ih) ((x,v)::r) (Nat.beq x p.1)) m
theorem jn{α:Type}(y x:Nat)(v:α)(r:List (Nat×α)):lk y ((x,v)::r)=if y=x then some v else lk y r:=by
 show(Bool.rec (motive:=λ_=>Option α) (lk y r) (some v) (Nat.beq y x))=_
 by_cases h:y=x
 ·rw[aI h,h,Nat.beq_refl]
 ·rw[aF h]
  cases q:Nat.beq y x with
  |false=>rfl
  |true=>exact absurd (bR q) h
theorem uX(x:Nat)(v:AV)(y:Nat):∀m:List (Nat×AV),lk y (ins x v m)=if y=x then some v else lk y m
 | []=>jn y x v []
 |(z,w)::r=>by
  show lk y (Bool.rec (motive:=λ_=>List (Nat×AV)) ((z,w)::ins x v r) ((x,v)::r) (Nat.beq x z))=_;cases q:Nat.beq x z with
  |true=>
   have e:=bR q;subst e;show lk y ((x,v)::r)=_;rw[jn,jn]
   by_cases h:y=x
   ·rw[aI h,aI h]
   ·rw[aF h,aF h,aF h]
  |false=>
   show lk y ((z,w)::ins x v r)=_;rw[jn,jn,uX x v y r]
   by_cases h:y=z
   ·rw[aI h,aI h,aF λe=>by rw[<-e,h,Nat.beq_refl]at q;exact tF q]
   ·rw[aF h,aF h]
noncomputable def rS(cx:Cx)(c:IE)(x:Nat)(v:AV)(H H':List AO):Prop:=
 H'.length=H.length/\∀{A:Around} {s ρ env V} {Q:Unit->Shared->Prop} {E},Cok cx->SR cx ρ H s->iZ ρ H.length c env->Is cx s ρ H.length v V->(∀s',SR cx ρ H' s'->Ext ρ H.length s ρ s'->Q () s')->wpAny (model pw cx.w) A (storeName env (nmF x) V) Q E s
noncomputable def ni(cx:Cx)(c:IE)(bs:List (Nat×AV)):List AO->List AO->Prop:=
 List.rec (motive:=λ_=>List AO->List AO->Prop) (λH H'=>H=H') (λp _ ih H H'=>∃O7,p.1<185/\rS cx c p.1 p.2 H O7/\ih O7 H') bs
inductive AF where
 |next | brk | cont
 |ret (v:AV)
noncomputable def IsF(cx:Cx)(n:Nat)(f:AF)(h:Shared)(ρ:Nat->Addr)(F:Flow):Prop:=match f with
 | .next=>F = .next
 | .brk=>F = .brk
 | .cont=>F = .cont
 | .ret v=>∃V,F = .ret V/\Is cx h ρ n v V
noncomputable abbrev ExS(cx:Cx)(d:Nat)(st:Stmt)(c:IE)(H:List AO)(r:AF)(H':List AO):Prop:=Do cx d c H (exec st) H' (IsF cx H'.length r)
noncomputable abbrev ExB(cx:Cx)(d:Nat)(st:List Stmt)(c:IE)(H:List AO)(r:AF)(H':List AO):Prop:=Do cx d c H (execs st) H' (IsF cx H'.length r)
section
variable {cx:Cx} {d:Nat} {c:IE} {H H' O7 H₂:List AO} {r a v:AV} {x:Nat} {bs:List (Nat×AV)}
theorem rS.loc{m}(hx:x<185)(hk:lk x c.kd=some .local)(hL:H[c.L]? = some (.ns m)):rS cx c x v H (H.set c.L (.ns (ins x v m))):=
 ⟨aE ..,λ{A s ρ env V Q E} g S R i P=>by
  refine dm (S.own _ _ hL) λmm N l=>?_;have hp:(env.scope.kind == .class || (env.scope.kind == .module&&env.locals != env.globals))=false:=by rw[R.fn];rfl
  refine wpAny_storeName_local (R.kd x _ hk) (R.loc▸N) (λh' hn hs=>?_) hp;rw[R.loc]at hn hs;have key:=S.set (hp:=h') (t:=s.toks+1) (o':=.ns (ins x v m)) g.toGood hL rfl (λa o ha e=>(hs.2 a ha).trans e) (aC _) λE=>⟨_,hn,λy hy=>by
   rw[uX]
   by_cases q:y=x
   ·rw[aI q,q];exact⟨V,aI rfl,i.ext g.toGood E (ad _)⟩
   ·rw[aF q]
    show Op2 _ _ (if nmF y=nmF x then _ else _);rw[aF λz=>q (qD hy hx z)];exact(l y hy).mono λ_ _ _ j=>j.ext g.toGood E (ad _)⟩
  exact P _ key.1 key.2⟩
theorem rS.cell{i w}(hk:lk x c.kd=some .cell)(hc:lk x c.cells=some i)(hj:H[i]? = some (.cell w)):rS cx c x v H (H.set i (.cell (some v))):=
 ⟨aE ..,λ{A s ρ env V Q E} g S R iV P=>by
  refine dm (S.own i _ hj) λW hcell _=>?_;refine wpAny_storeName_cell R.fn (R.kd x _ hk) (R.cells x i hc).2 hcell λh' hn hs=>?_;have key:=S.set (hp:=h') (t:=s.toks) (o':=.cell (some v)) g.toGood hj rfl (λa o ha e=>(hs.2 a ha).trans e) (ad _) λE=>⟨_,hn,V,rfl,iV.ext g.toGood E (ad _)⟩;exact P _ key.1 key.2⟩
theorem ni.len(h:ni cx c bs H H'):H'.length=H.length:=by
 induction bs generalizing H with
 |nil=>rw[show H=H' from h]
 |cons p r ih=>refine dz h λO7 _ h1 h2=>?_;rw[ih h2,h1.1]
theorem ni.lt(h:ni cx c bs H H'):∀p∈bs,p.1<185:=by
 induction bs generalizing H with
 |nil=>exact λp hp=>nomatch hp
 |cons p r ih=>refine dz h λO7 h0 _ h2=>?_;exact λq hq=>(aH.mp hq).elim (λe=>e▸h0) (ih h2 q)
theorem rW{A:Around}{env:Env}{E}(g:Cok cx)(f:Str×Value->PUnit->Sem (ForInStep PUnit))(hf:∀n v u,f (n,v) u=(do storeName env n v;pure (.yield ⟨⟩))):
  ∀{bs:List (Nat×AV)} {Vs:List Value} {H H':List AO} {s:Shared} {ρ:Nat->Addr} {Q:PUnit->Shared->Prop},SR cx ρ H s->iZ ρ H.length c env->
   IsL cx s ρ H.length (bs.map (·.2)) Vs->ni cx c bs H H'->(∀s',SR cx ρ H' s'->Ext ρ H.length s ρ s'->Q ⟨⟩ s')->
   wpAny (model pw cx.w) A (forIn ((bs.map λp=>nmF p.1).zip Vs) ⟨⟩ f) Q E s
 | [],Vs,H,H',s,ρ,Q,S,R,i,h,P=>by
  cases(show H=H' from h);rw[List.map_nil,List.zip_nil_left,cX];exact af (P s S .refl)
 |(x,v)::r,Vs,H,H',s,ρ,Q,S,R,i,h,P=>by
  refine dx i λV Ws e i1 i2=>?_;refine dz h λO7 _ h1 h2=>?_;rw[e,aM,List.zip_cons_cons,bL,hf];refine ab (ab (h1.2 g S R i1 λU4 P8 N0=>af ?_));have hl:=aL h1.1.symm;exact rW g f hf P8 (R.ext N0 hl) (IsL.ext g.toGood N0 hl i2) h2 λs' S' E'=>P s' S' (N0.trans hl E')
theorem ExB.nil:ExB cx d [] c H .next H:=⟨ad _,λz W=>wpAny_execs_nil (W _ _ _ z.sr rfl .refl)⟩
theorem ExB.cons{st rest}{f:AF}(h1:ExS cx d st c H .next O7)(h2:ExB cx d rest c O7 f H₂):ExB cx d (st::rest) c H f H₂:=
 ⟨ae h1.1 h2.1,λz W=>wpAny_execs_cons (h1.run z λF U4 V4 V0 T3 N0=>by cases(show F = .next from T3);exact h2.2 V0 (W.on N0 h1.1))⟩
theorem ExB.out{st rest}{f:AF}(hf:f≠.next)(h1:ExS cx d st c H f O7):ExB cx d (st::rest) c H f O7:=
 ⟨h1.1,λz W=>wpAny_execs_cons (h1.2 z λF U4 V4 P8 T3 N0=>by
  have key:=W F U4 V4 P8 T3 N0;cases F with
  |next=>cases f with
   |next=>exact absurd rfl hf
   |brk=>cases T3
   |cont=>cases T3
   |ret v=>refine dm T3 λV e _=>?_;cases e
  |_=>exact key)⟩
theorem ExS.ret{e pos}(h1:EvE cx d e c H v O7):ExS cx d (.Return (some e) pos) c H (.ret v) O7:=
 ⟨h1.1,λz W=>wpAny_Return_some (h1.2 z λV U4 V4 P8 T3 N0=>W _ U4 V4 P8 ⟨V,rfl,T3⟩ N0)⟩
theorem ExS.ret0{pos}:ExS cx d (.Return none pos) c H (.ret .none) H:=⟨ad _,λz W=>wpAny_Return_none (W _ _ _ z.sr ⟨_,rfl,rfl⟩ .refl)⟩
end
noncomputable def mz(n:Nat):List (Nat×NameKind)->List (Nat×Nat)
 | []=>[]
 |(x,k)::r=>if k == .cell then (x,n)::mz (n+1) r else mz n r
noncomputable def fp:List (Nat×NameKind)->List AO
 | []=>[]
 |(x,k)::r=>if k == .cell then .cell none::fp r else fp r
noncomputable def K5(around:Option Env)(code:Value):Value:=match around with | some e=>e.code | none=>code
theorem gW{α:Type}{x:Nat}{v:α}:∀{l:List (Nat×α)},lk x l=some v->(x,v)∈l
 | [],h=>nomatch h
 |(y,w)::r,h=>by
  rw[jn]at h
  by_cases q:x=y
  ·rw[aI q]at h;obtain rfl:=ak h;rw[q];exact .head _
  ·rw[aF q]at h;exact .tail _ (gW h)
theorem pg{α β:Type}(f:α->β){x:Nat}(hx:x<185):∀(l:List (Nat×α)),(∀p∈l,p.1<185)->(l.map λp=>(nmF p.1,f p.2)).lookup (nmF x)=(lk x l).map f
 | [],_=>rfl
 |(y,i)::r,h=>by
  rw[aM,List.lookup_cons,jn]
  by_cases q:x=y
  ·rw[q,aI rfl,beq_self_eq_true];rfl
  ·rw[aF q,bC.mpr λz=>q (qD hx (h _ (.head _)) z)]
   exact pg f hx r λp hp=>h p (.tail _ hp)
theorem rv:∀(names:List (Nat×NameKind)) (n:Nat),∀p∈mz n names,n<=p.2/\p.2<n+(fp names).length/\p.1∈names.map (·.1)
 | [],n,p,h=>nomatch h
 |(x,k)::r,n,p,h=>by
  unfold mz at h;unfold fp;cases e:(k == NameKind.cell) with
  |true=>
   rw[e,aI rfl]at h;rw[aI rfl,a0];refine(aH.mp h).elim (λq=>by rw[q];exact⟨ad _,bt (bI _),.head _⟩) λh=>?_;have:=rv r (n+1) p h;exact⟨Nat.le_of_succ_le this.1,by rw[bV]at this;exact this.2.1,.tail _ this.2.2⟩
  |false=>
   rw[e,aF ah]at h;rw[aF ah];have:=rv r n p h;exact⟨this.1,this.2.1,.tail _ this.2.2⟩
theorem CS{ρ:Nat->Addr}{n a}(l:List (Nat×Nat))(h:∀p∈l,p.2<n):l.map (λp=>(nmF p.1,ρ p.2))=l.map λp=>(nmF p.1,up ρ n a p.2):=
 bP λp hp=>by rw[gM (h p hp)]
section
variable {cx:Cx} {d:Nat} {H H' O7 H₂:List AO} {r a v:AV}
theorem ol{A:Around}{E}(g:Cok cx)(f:Str×NameKind->List (Str×Addr)->Sem (ForInStep (List (Str×Addr))))
  (hf:∀name kind cells,f (name,kind) cells=if kind == .cell then (do let a <-alloc { cls:=.type "cell",data:=.cell none};pure (.yield ((name,a)::cells))) else pure (.yield cells)) :
  ∀(names:List (Nat×NameKind)) (acc:List (Nat×Nat)) (H:List AO) (s:Shared) (ρ:Nat->Addr) (Q:List (Str×Addr)->Shared->Prop),SR cx ρ H s->(∀p∈acc,p.2<H.length)->
   (∀s' ρ',SR cx ρ' (H++fp names) s'->Ext ρ H.length s ρ' s'->Q (((mz H.length names).reverse++acc).map λp=>(nmF p.1,ρ' p.2)) s')->
   wpAny (model pw cx.w) A (forIn (names.map λp=>(nmF p.1,p.2)) (acc.map λp=>(nmF p.1,ρ p.2)) f) Q E s
 | [],acc,H,s,ρ,Q,S,_,P=>by
  rw[List.map_nil,cX];exact af (P s ρ (by unfold fp;rw[aU];exact S) .refl)
 |(x,k)::r,acc,H,s,ρ,Q,S,hacc,P=>by
  rw[aM,bL,hf];unfold fp mz at P;cases e:(k == NameKind.cell) with
  |true=>
   rw[e,aI rfl,aI rfl]at P;rw[aI rfl];refine ab (ab (wpAny_alloc (af ?_)));have key:=S.fresh (ob:={ cls:=.type "cell",data:=.cell Option.none}) (o:=.cell Option.none) (t:=s.toks) g.toGood (ad _) λE=>⟨Option.none,⟨_,aw _ rfl,rfl⟩,rfl⟩;have hm:(nmF x,s.heap.objs.size)::acc.map (λp=>(nmF p.1,ρ p.2))=((x,H.length)::acc).map λp=>(nmF p.1,up ρ H.length s.heap.objs.size p.2):=by
    rw[aM,g9,<-CS acc hacc]
   have len:(H++[AO.cell Option.none]).length=H.length+1:=az;show wpAny _ A (forIn _ ((nmF x,s.heap.objs.size)::acc.map (λp=>(nmF p.1,ρ p.2))) f) Q E _;rw[hm];refine ol g f hf r _ _ _ _ Q key.1 (λp hp=>?_) λs' ρ' S'' E''=>?_
   ·rw[len];exact(aH.mp hp).elim (λq=>by rw[q];exact aD _) λhp=>bc (hacc p hp)
   ·rw[len]at E'' ⊢
    have:=P s' ρ' (by rw[aZ]at S'';exact S'') (key.2.trans (aC _) E'');rw[cK,aZ]at this;exact this
  |false=>
   rw[e,aF ah,aF ah]at P;rw[aF ah];exact ab (af (ol g f hf r acc H s ρ Q S hacc P))
noncomputable def kG(names:List (Nat×NameKind))(n:Nat)(clo:List (Nat×Nat))(tag:Value):IE:={ kd:=names,L:=n,cells:=(mz (n+1) names).reverse++clo,cd:=tag}
noncomputable def o6(H:List AO)(names:List (Nat×NameKind)):List AO:=H++(.ns []::fp names)
theorem je{names}:H.length<(o6 H names).length:=by unfold o6;rw[az,a0];exact bt (bI _)
structure ScR (scope:Scope) (names:List (Nat×NameKind)):Prop where
 kind:scope.kind = .function
 nm:scope.names=names.map λp=>(nmF p.1,p.2)
 lt:∀p∈names,p.1<185
theorem iZ.new{ρ₂:Nat->Addr}{scope:Scope}{names clo qual func code}{around:Option Env}{tag:Value}(ht:tag = .none\/(tag=K5 around code/\qual=ij tag))(sc:ScR scope names)
  (hcl:∀p∈clo,p.1<185/\p.2<H.length) (ha:∀e,around=some e->e.builtins=builtinsNs) :
  iZ ρ₂ (o6 H names).length (kG names H.length clo tag) (newEnv scope (ρ₂ H.length) mainGlobals (((mz (H.length+1) names).reverse++clo).map λp=>(nmF p.1,ρ₂ p.2)) qual func code around builtinsNs):=by
 have hids:∀p∈(mz (H.length+1) names).reverse++clo,p.1<185/\p.2<(o6 H names).length:=λp hp=>by
  refine(bS.mp hp).elim (λhp=>?_) λhp=>⟨(hcl p hp).1,cu (hcl p hp).2 je⟩;have:=rv names (H.length+1) p (List.mem_reverse.mp hp);refine dm (bx.mp this.2.2) λq hq e=>?_;refine⟨e▸sc.lt q hq,?_⟩;unfold o6;rw[az,a0,bw (fp names).length 1,<-bf];exact this.2.1
 have hkd:∀x k,lk x names=some k->scope.names.lookup (nmF x)=some k:=λx k hx=>by rw[sc.nm];exact(pg (λk=>k) (sc.lt _ (gW hx)) names sc.lt).trans (by rw[hx];rfl)
 have hce:∀x j,lk x ((mz (H.length+1) names).reverse++clo)=some j->j<(o6 H names).length/\(((mz (H.length+1) names).reverse++clo).map λp=>(nmF p.1,ρ₂ p.2)).lookup (nmF x)=some (ρ₂ j):=λx j hx=>
  ⟨(hids _ (gW hx)).2,by rw[pg ρ₂ (hids _ (gW hx)).1 _ λp hp=>(hids p hp).1,hx];rfl⟩
 cases around with
 |none=>exact⟨sc.kind,hkd,je,rfl,rfl,rfl,ht.elim .inl λe=>.inr ⟨e.1.symm,e.2⟩,hce⟩
 |some e=>exact⟨sc.kind,hkd,je,rfl,rfl,ha e rfl,ht.elim .inl λe=>.inr ⟨e.1.symm,e.2⟩,hce⟩
theorem mx{A:Around}{E}{s ρ}{Q:Env->Shared->Prop}{scope:Scope}{names:List (Nat×NameKind)}{clo:List (Nat×Nat)}{bs:List (Nat×AV)}{Vs:List Value}{qual:Str}{func:Option Addr}{code:Value}{around:Option Env}{tag:Value}(ht:tag = .none\/(tag=K5 around code/\qual=ij tag))
  (g:Cok cx) (sc:ScR scope names) (hcl:∀p∈clo,p.1<185/\p.2<H.length)
  (ha:∀e,around=some e->e.builtins=builtinsNs)
  (S:SR cx ρ H s) (i:IsL cx s ρ H.length (bs.map (·.2)) Vs)
  (h:ni cx (kG names H.length clo tag) bs (o6 H names) H')
  (P:∀env s' ρ',env=newEnv scope (ρ' H.length) mainGlobals env.cells qual func code around builtinsNs->SR cx ρ' H' s'->
   iZ ρ' H'.length (kG names H.length clo tag) env->Ext ρ H.length s ρ' s'->Q env s') :
  wpAny (model pw cx.w) A (newFunctionEnv scope mainGlobals (clo.map λp=>(nmF p.1,ρ p.2)) ((bs.map λp=>nmF p.1).zip Vs) qual func code around builtinsNs) Q E s:=by
 have main:∀(cl:Value) (f:Str×NameKind->List (Str×Addr)->Sem (ForInStep (List (Str×Addr))))
   (hf:∀name kind cells,f (name,kind) cells=if kind == .cell then (do let a <-alloc { cls:=.type "cell",data:=.cell Option.none};pure (.yield ((name,a)::cells))) else pure (.yield cells)),
   wpAny (model pw cx.w) A (do
    let locals <-alloc { cls:=cl,data:=.dict #[]};let cells <-forIn scope.names (clo.map λp=>(nmF p.1,ρ p.2)) f;let _ <-forIn ((bs.map λp=>nmF p.1).zip Vs) PUnit.unit (λx u=>do storeName (newEnv scope locals mainGlobals cells qual func code around builtinsNs) x.1 x.2;pure (.yield ⟨⟩))
    return newEnv scope locals mainGlobals cells qual func code around builtinsNs) Q E s:=by
  intro cl f hf;refine ab (wpAny_alloc ?_);have key:=S.fresh (ob:={ cls:=cl,data:=.dict #[]}) (t:=s.toks) (o:=.ns []) g.toGood (ad _) λE=>⟨_,Heap.Ns.new _ _,λx _=>rfl⟩;have len:(H++[AO.ns []]).length=H.length+1:=az;rw[sc.nm,CS clo λp hp=>(hcl p hp).2];refine ab (ol g f hf names clo (H++[.ns []]) _ _ _ key.1 (λp hp=>by rw[len];exact bc (hcl p hp).2) λU6 ρ₂ P9 N7=>?_);rw[len]at N7 ⊢;rw[aZ]at P9;have hL:ρ₂ H.length=s.heap.objs.size:=(N7.ag _ (aD _)).trans g9;have N3:=key.2.trans (aC _) N7;have P3:=iZ.new (H:=H) (ρ₂:=ρ₂) (func:=func) ht sc hcl ha;rw[<-hL];have hl:=aL h.len.symm;refine ab (rW g _ (λ_ _ _=>rfl) P9 P3 (i.ext g.toGood N3 (a7 je)) h λU7 Q0 N9=>af ?_);refine P _ U7 ρ₂ ?_ Q0 (P3.ext N9 hl) (N3.trans (a7 je) N9);cases around<;>rfl
 have hif:∀name kind cells,(if (kind == NameKind.cell)=true then (do let a <-alloc { cls:=.type "cell",data:=.cell Option.none};pure (ForInStep.yield ((name,a)::cells))) else pure (ForInStep.yield cells):Sem (ForInStep (List (Str×Addr))))=if kind == .cell then (do let a <-alloc { cls:=.type "cell",data:=.cell Option.none};pure (.yield ((name,a)::cells))) else pure (.yield cells):=λ_ _ _=>rfl;cases around with
 |none=>
  simp only[newFunctionEnv,Option.isSome_none,aX,cm];refine main (.type "frame") _ ?_;intro name kind cells;cases hkc:kind == NameKind.cell<;>simp only[hkc,aX,cm,if_true,bind_assoc,pure_bind]
 |some e=>
  simp only[newFunctionEnv,Option.isSome_some,if_true];refine main (.type "dict") _ ?_;intro name kind cells;cases hkc:kind == NameKind.cell<;>simp only[hkc,aX,cm,if_true,bind_assoc,pure_bind]
structure Ho (h:Heap) (ρ:Nat->Addr) (n:Nat) (f:Addr) (fd:FuncData) (names:List (Nat×NameKind)) (body:List Stmt) (clo:List (Nat×Nat)):Prop where
 ob:∃o,h.get? f=some o/\o.data = .func fd
 body:fd.body = .stmts body
 co:fd.scope.isCoroutine=false
 gen:fd.scope.isGenerator=false
 glob:fd.globals=mainGlobals
 blt:fd.builtins=builtinsNs
 clos:fd.closure=clo.map λp=>(nmF p.1,ρ p.2)
 sc:ScR fd.scope names
 cN:∀p∈clo,p.1<185/\p.2<n
 crec:h.CodeRec fd.code fd.qualname
noncomputable def gp(f:AF):AV:=match f with
 | .ret v=>v
 |_=>.none
theorem mR{A:Around}{R:Result->Shared->Prop}{s ρ}{f:Addr}{fd:FuncData}{names:List (Nat×NameKind)}{body:List Stmt}{clo:List (Nat×Nat)}{bs:List (Nat×AV)}{Vs:List Value}{args:Args}{fl:AF}{tag:Value}(ht:tag = .none\/(tag=fd.code/\fd.qualname++".<locals>."=ij tag))
  (g:Cok cx) (O:Ok A (d+1)) (S:SR cx ρ H s) (F:Ho s.heap ρ H.length f fd names body clo) (hbind:BindsTo s fd args ((bs.map λp=>nmF p.1).zip Vs))
  (i:IsL cx s ρ H.length (bs.map (·.2)) Vs)
  (h:ni cx (kG names H.length clo tag) bs (o6 H names) O7)
  (hB:ExB cx d body (kG names H.length clo tag) O7 fl H₂)
  (P:gy cx ρ H s (gp fl) H₂ λV s'=>R (.ok (.ret V)) s'):codeAny (model pw cx.w) A (.call (.ref f) args) R s:=by
 refine dm F.ob λo ho hd=>?_;refine codeAny_call_function O.depth ho hd F.co F.gen F.body F.crec (hbind _ _ _ _ ?_);rw[F.glob,F.clos,F.blt];have hl':H.length<=O7.length:=by rw[h.len];exact a7 je
 refine mx ht g F.sc F.cN (λe q=>by exact nS q) S i h λenv U4 V4 _ P8 P0 N0=>⟨(g.lim.keeps P8.keep),codeAny_func ?_⟩;refine hB.2 ⟨g,O.deeper,P8,P0⟩ λV U6 ρ₂ P9 T5 N7=>?_;have key:∀W,Is cx U6 ρ₂ H₂.length (gp fl) W->R (.ok (.ret W)) U6:=λW iW=>P W U6 ρ₂ P9 iW (N0.trans hl' N7);cases fl with
 |ret v=>refine dm T5 λW e iW=>?_;rw[e];exact key W iW
 |_=>rw[show V=_ from T5];exact key _ rfl
end
section
set_option genSizeOf true
set_option genInjectivity true
set_option backward.match.sparseCases true
noncomputable def H9:FT:=⟨[1,2],[],[(1,.local),(2,.local)],(.c (.ret (.cmp .Lt (.nm 1) (.nm 2))) .n)⟩
noncomputable def Iu:FT:=⟨[1,2],[],[(1,.local),(2,.local)],(.c (.ret (.cmp .GtE (.nm 1) (.nm 2))) .n)⟩
noncomputable def vI:FT:=⟨[1,2],[],[(1,.local),(2,.local)],(.c (.ret (.bin .BitAnd (.nm 1) (.nm 2))) .n)⟩
noncomputable def oJ:FT:=⟨[1,2],[],[(1,.local),(2,.local)],(.c (.ret (.bin .LShift (.nm 1) (.nm 2))) .n)⟩
noncomputable def AC:FT:=⟨[1],[],[(1,.local)],(.c (.ret (.neg (.nm 1))) .n)⟩
noncomputable def zU:FT:=⟨[1,2],[],[(1,.local),(2,.local)],(.c (.ret (.bin .BitXor (.nm 1) (.nm 2))) .n)⟩
noncomputable def oP:FT:=⟨[1,2],[],[(1,.local),(2,.local),(3,.local),(4,.globalImplicit),(5,.globalImplicit),(6,.globalImplicit)],(.c (.if (.not (.call (.nm 4) (.c (.nm 1) (.c (.str [95,95,103,101,116,105,116,101,109,95,95]) .n)) [] .n)) (.c (.set (.c (.nm 3) .n) (.bin .Mod (.str [39,37,115,39,32,111,98,106,101,99,116,32,99,97,110,39,116,32,98,101,32,99,111,110,99,97,116,101,110,97,116,101,100]) (.attr (.call (.nm 5) (.c (.nm 1) .n) [] .n) 7))) (.c .no .n)) .n) (.c (.ret (.bin .Add (.nm 1) (.nm 2))) .n))⟩
noncomputable def k8:FT:=⟨[1,2],[],[(1,.local),(2,.local)],(.c (.ret (.cmp .In (.nm 2) (.nm 1))) .n)⟩
noncomputable def fj:FT:=⟨[1,2],[],[(1,.local),(2,.local),(8,.local),(9,.local)],(.c (.set (.c (.nm 8) .n) (.int 0)) (.c (.for (.nm 9) (.nm 1) (.c (.if (.or (.c (.cmp .Is (.nm 9) (.nm 2)) (.c (.cmp .Eq (.nm 9) (.nm 2)) .n))) (.c (.aug 8 .Add (.int 1)) .n) .n) .n)) (.c (.ret (.nm 8)) .n)))⟩
noncomputable def mB:FT:=⟨[1,2],[],[(1,.local),(2,.local)],(.c (.ret (.sub (.nm 1) (.nm 2))) .n)⟩
noncomputable def mn:FT:=⟨[1,2,10],[],[(1,.local),(2,.local),(10,.local)],(.c (.set (.c (.sub (.nm 1) (.nm 2)) .n) (.nm 10)) .n)⟩
noncomputable def ik:FT:=⟨[1,11],[],[(1,.local),(11,.cell),(19,.cell),(20,.cell),(21,.globalImplicit)],(.c (.set (.c (.nm 19) .n) (.bin .Mult (.lst (.c (.int 0) .n)) (.bin .FloorDiv (.bin .Sub (.bin .Add (.meth (.nm 1) 22 .n) (.nm 11)) (.int 1)) (.nm 11)))) (.c (.def 20 0 [12,13,14] [(12,.local),(13,.local),(14,.local),(15,.local),(16,.local),(17,.local),(18,.local),(19,.free),(20,.free),(11,.free)] (.c (.if (.cmp .Eq (.bin .Add (.nm 13) (.int 1)) (.nm 14)) (.c (.set (.c (.sub (.nm 19) (.nm 13)) .n) (.nm 12)) (.c .ret0 .n)) .n) (.c (.set (.c (.nm 15) .n) (.bin .RShift (.bin .Add (.nm 13) (.nm 14)) (.int 1))) (.c (.set (.c (.nm 16) .n) (.bin .Mult (.bin .Sub (.nm 15) (.nm 13)) (.nm 11))) (.c (.set (.c (.nm 17) .n) (.bin .RShift (.nm 12) (.nm 16))) (.c (.set (.c (.nm 18) .n) (.bin .BitXor (.nm 12) (.bin .LShift (.nm 17) (.nm 16)))) (.c (.expr (.call (.nm 20) (.c (.nm 18) (.c (.nm 13) (.c (.nm 15) .n))) [] .n)) (.c (.expr (.call (.nm 20) (.c (.nm 17) (.c (.nm 15) (.c (.nm 14) .n))) [] .n)) .n)))))))) (.c (.if (.nm 1) (.c (.expr (.call (.nm 20) (.c (.nm 1) (.c (.int 0) (.c (.call (.nm 21) (.c (.nm 19) .n) [] .n) .n))) [] .n)) .n) .n) (.c (.ret (.nm 19)) .n))))⟩
noncomputable def ip:FT:=⟨[23,11],[],[(23,.cell),(11,.cell),(20,.cell),(21,.globalImplicit)],(.c (.def 20 1 [13,14] [(13,.local),(14,.local),(15,.local),(16,.local),(23,.free),(20,.free),(11,.free)] (.c (.if (.cmp .Eq (.bin .Add (.nm 13) (.int 1)) (.nm 14)) (.c (.ret (.sub (.nm 23) (.nm 13))) .n) .n) (.c (.set (.c (.nm 15) .n) (.bin .RShift (.bin .Add (.nm 13) (.nm 14)) (.int 1))) (.c (.set (.c (.nm 16) .n) (.bin .Mult (.bin .Sub (.nm 15) (.nm 13)) (.nm 11))) (.c (.ret (.bin .Add (.bin .LShift (.call (.nm 20) (.c (.nm 15) (.c (.nm 14) .n)) [] .n) (.nm 16)) (.call (.nm 20) (.c (.nm 13) (.c (.nm 15) .n)) [] .n))) .n))))) (.c (.ret (.ifx (.nm 23) (.call (.nm 20) (.c (.int 0) (.c (.call (.nm 21) (.c (.nm 23) .n) [] .n) .n)) [] .n) (.int 0))) .n))⟩
noncomputable def mP:FT:=⟨[25,26],[27,28,29,30,31,32,33],[(25,.local),(26,.local),(27,.local),(28,.local),(29,.local),(30,.local),(31,.local),(32,.local),(33,.local),(34,.globalImplicit),(35,.globalImplicit),(36,.globalImplicit)],(.c (.set (.c (.attr (.nm 25) 37) .n) (.nm 26)) (.c (.set (.c (.attr (.nm 25) 38) .n) (.lst .n)) (.c (.set (.c (.attr (.nm 25) 39) .n) (.nm 27)) (.c (.set (.c (.attr (.nm 25) 40) .n) (.nm 28)) (.c (.set (.c (.attr (.nm 25) 41) .n) (.ifx (.nm 32) (.call (.nm 34) (.c (.nm 32) .n) [] .n) .none)) (.c (.set (.c (.attr (.nm 25) 42) .n) (.ifx (.nm 33) (.call (.nm 34) (.c (.nm 33) .n) [] .n) .none)) (.c (.set (.c (.attr (.nm 25) 43) .n) (.nm 29)) (.c (.if (.nm 30) (.c (.set (.c (.attr (.nm 25) 44) .n) (.call (.nm 34) (.c (.nm 30) .n) [] .n)) .n) (.c (.set (.c (.attr (.nm 25) 44) .n) .none) .n)) (.c (.if (.nm 31) (.c (.set (.c (.attr (.nm 25) 45) .n) (.attr (.call (.nm 34) (.c (.nm 31) .n) [] .n) 46)) .n) (.c (.set (.c (.attr (.nm 25) 45) .n) .none) .n)) (.c (.set (.c (.attr (.nm 25) 47) .n) (.lst (.c (.lst (.c (.tupl (.c (.str [104,116,116,112,58,47,47,119,119,119,46,119,51,46,111,114,103,47,88,77,76,47,49,57,57,56,47,110,97,109,101,115,112,97,99,101]) (.c (.str [120,109,108]) .n))) .n)) .n))) (.c (.set (.c (.attr (.nm 25) 48) .n) (.lst .n)) (.c (.if (.not (.nm 29)) (.c (.expr (.meth (.attr (.nm 25) 48) 49 (.c (.call (.nm 35) (.c (.meth (.nm 36) 50 .n) .n) [] .n) .n))) .n) .n) (.c (.expr (.meth (.attr (.nm 25) 48) 49 (.c (.lst .n) .n))) (.c (.set (.c (.attr (.nm 25) 51) .n) .dict0) (.c (.set (.c (.attr (.nm 25) 52) .n) (.lst (.c (.bool false) .n))) (.c (.set (.c (.attr (.nm 25) 53) .n) .none) (.c (.set (.c (.attr (.nm 25) 54) .n) (.bool false)) (.c (.set (.c (.attr (.nm 25) 55) .n) (.bool false)) (.c (.set (.c (.attr (.nm 25) 56) .n) (.int 0)) .n)))))))))))))))))))⟩
noncomputable def km:FT:=⟨[25,68,63],[],[(25,.local),(68,.local),(63,.local),(69,.local),(70,.local),(71,.local),(61,.local),(34,.globalImplicit),(21,.globalImplicit),(65,.globalImplicit)],(.c (.if (.cmp .Is (.nm 63) .none) (.c (.set (.c (.tupl (.c (.nm 63) (.c (.nm 69) .n))) .n) (.ifx (.cmp .Eq (.slc (.nm 68) .none (.int 1) .none) (.str [123])) (.meth (.slc (.nm 68) (.int 1) .none .none) 72 (.c (.str [125]) (.c (.int 1) .n))) (.tupl (.c (.str []) (.c (.nm 68) .n))))) .n) (.c (.set (.c (.nm 69) .n) (.nm 68)) .n)) (.c (.set (.c (.nm 70) .n) (.call (.nm 34) .n [] .n)) (.c (.for (.tupl (.c (.nm 71) (.c (.nm 61) .n))) (.meth (.nm 25) 67 (.c (.attr (.nm 25) 47) .n)) (.c (.if (.and (.c (.cmp .Eq (.nm 71) (.nm 63)) (.c (.cmp .NotIn (.nm 61) (.nm 70)) .n))) (.c (.ret (.tupl (.c (.ifx (.nm 61) (.fstr (.c (.fval (.nm 61)) (.c (.str [58]) (.c (.fval (.nm 69)) .n)))) (.nm 69)) (.c (.nm 69) (.c (.nm 63) .n))))) .n) .n) (.c (.expr (.meth (.nm 70) 73 (.c (.nm 61) .n))) .n))) (.c (.if (.attr (.nm 25) 43) (.c (.if (.cmp .In (.nm 63) (.attr (.nm 25) 51)) (.c (.set (.c (.nm 61) .n) (.sub (.attr (.nm 25) 51) (.nm 63))) .n) (.c (.set (.c (.nm 61) (.c (.sub (.attr (.nm 25) 51) (.nm 63)) .n)) (.fstr (.c (.str [110]) (.c (.fval (.call (.nm 21) (.c (.attr (.nm 25) 51) .n) [] .n)) .n)))) .n)) (.c (.expr (.meth (.sub (.attr (.nm 25) 47) (.neg (.int 1))) 49 (.c (.tupl (.c (.nm 63) (.c (.nm 61) .n))) .n))) (.c (.ret (.tupl (.c (.fstr (.c (.fval (.nm 61)) (.c (.str [58]) (.c (.fval (.nm 69)) .n)))) (.c (.nm 69) (.c (.nm 63) .n))))) .n))) .n) (.c (.if (.and (.c (.not (.nm 63)) (.c (.cmp .NotIn (.str []) (.nm 70)) .n))) (.c (.ret (.tupl (.c (.nm 69) (.c (.nm 69) (.c (.nm 63) .n))))) .n) .n) (.c (.for (.tupl (.c (.nm 71) (.c (.nm 61) .n))) (.meth (.nm 25) 67 (.c (.attr (.nm 25) 48) .n)) (.c (.if (.cmp .Eq (.nm 71) (.nm 63)) (.c (.expr (.meth (.sub (.attr (.nm 25) 47) (.neg (.int 1))) 49 (.c (.tupl (.c (.nm 63) (.c (.nm 61) .n))) .n))) (.c (.ret (.tupl (.c (.ifx (.nm 61) (.fstr (.c (.fval (.nm 61)) (.c (.str [58]) (.c (.fval (.nm 69)) .n)))) (.nm 69)) (.c (.nm 69) (.c (.nm 63) .n))))) .n)) .n) .n)) (.c (.if (.not (.nm 63)) (.c (.ret (.tupl (.c (.nm 69) (.c (.nm 69) (.c (.nm 63) .n))))) .n) .n) (.c .no .n))))))))⟩
noncomputable def jQ:FT:=⟨[25,61,63],[],[(25,.local),(61,.local),(63,.local)],(.c (.if (.attr (.nm 25) 56) (.c .ret0 .n) .n) (.c (.if (.attr (.nm 25) 38) (.c (.expr (.meth (.nm 25) 81 .n)) .n) .n) (.c (.expr (.meth (.sub (.attr (.nm 25) 48) (.neg (.int 1))) 49 (.c (.tupl (.c (.nm 63) (.c (.nm 61) .n))) .n))) .n)))⟩
noncomputable def ow:FT:=⟨[25,69,82],[],[(25,.local),(69,.local),(82,.local),(83,.local)],(.c (.if (.and (.c (.cmp .IsNot (.attr (.nm 25) 42) .none) (.c (.or (.c (.attr (.nm 25) 56) (.c (.cmp .In (.nm 69) (.attr (.nm 25) 42)) .n))) .n))) (.c .no (.c .ret0 .n)) .n) (.c (.if (.attr (.nm 25) 38) (.c (.expr (.meth (.nm 25) 81 .n)) .n) .n) (.c (.set (.c (.nm 83) .n) (.lst .n)) (.c (.expr (.meth (.attr (.nm 25) 47) 49 (.c (.nm 83) .n))) (.c (.if (.and (.c (.cmp .IsNot (.attr (.nm 25) 44) .none) (.c (.cmp .In (.nm 69) (.attr (.nm 25) 44)) .n))) (.c .no (.c .ret0 .n)) .n) (.c (.expr (.meth (.nm 25) 84 (.c (.nm 69) (.c (.nm 82) (.c (.nm 83) .n))))) .n))))))⟩
noncomputable def kB:FT:=⟨[25,69,82,83,77],[],[(25,.cell),(69,.local),(82,.local),(83,.local),(77,.local),(0,.local),(85,.local),(86,.local),(87,.local),(68,.local),(88,.local),(89,.local),(90,.local),(91,.cell),(92,.local),(63,.local),(93,.local),(94,.local),(95,.local),(26,.local),(78,.globalImplicit),(96,.globalImplicit),(79,.globalImplicit)],(.c (.if (.and (.c (.cmp .IsNot (.attr (.nm 25) 41) .none) (.c (.nm 82) .n))) (.c (.setc 82 (.dc (.nm 0) (.nm 85) (.c (.gen (.tupl (.c (.nm 0) (.c (.nm 85) .n))) (.meth (.nm 82) 50 .n) (.c (.cmp .NotIn (.nm 0) (.attr (.nm 25) 41)) .n)) .n) [(97,.local),(0,.local),(85,.local),(25,.free)])) .n) .n) (.c (.set (.c (.nm 86) .n) (.set1 (.nm 69) (.nm 82))) (.c (.set (.c (.nm 87) .n) .dict0) (.c (.if (.cmp .IsNot (.nm 77) .none) (.c (.set (.c (.nm 68) (.c (.sub (.nm 87) (.nm 77)) .n)) (.meth (.nm 25) 98 (.c (.nm 77) .n))) (.c (.expr (.meth (.nm 86) 73 (.c (.nm 68) .n))) .n)) .n) (.c (.if (.and (.c (.cmp .IsNot (.attr (.nm 25) 45) .none) (.c (.nm 82) .n))) (.c (.set (.c (.nm 88) .n) (.meth (.nm 25) 45 (.c (.nm 82) .n))) (.c (.if (.nm 88) (.c (.for (.nm 89) (.nm 88) (.c (.set (.c (.nm 90) .n) (.sub (.nm 82) (.nm 89))) (.c (.if (.call (.nm 78) (.c (.nm 90) .n) [] .n) (.c (.set (.c (.nm 68) (.c (.sub (.nm 87) (.nm 90)) .n)) (.meth (.nm 25) 98 (.c (.nm 90) .n))) (.c (.expr (.meth (.nm 86) 73 (.c (.nm 68) .n))) .n)) .n) .n))) .n) (.c (.set (.c (.nm 88) .n) .none) .n)) .n)) (.c (.set (.c (.nm 88) .n) .none) .n)) (.c (.set (.c (.nm 91) .n) (.attr (.nm 25) 99)) (.c (.setc 92 (.dc (.nm 11) (.call (.nm 91) (.c (.nm 11) .n) [] .n) (.c (.gen (.nm 11) (.call (.nm 96) (.c (.nm 86) .n) [100] (.c (.lam 2 [11] [(11,.local)] (.meth (.nm 11) 66 (.c (.str [125]) (.c (.int 1) .n)))) .n)) .n) .n) [(97,.local),(11,.local),(91,.free)])) (.c (.if (.nm 83) (.c (.setc 93 (.lc (.tupl (.c (.ifx (.nm 61) (.bin .Add (.str [120,109,108,110,115,58]) (.nm 61)) (.str [120,109,108,110,115])) (.c (.nm 63) .n))) (.c (.gen (.tupl (.c (.nm 63) (.c (.nm 61) .n))) (.nm 83) .n) .n) [(97,.local),(63,.local),(61,.local)])) (.c (.expr (.meth (.nm 93) 101 .n)) .n)) (.c (.set (.c (.nm 93) .n) (.lst .n)) .n)) (.c (.if (.nm 82) (.c (.for (.tupl (.c (.nm 0) (.c (.nm 85) .n))) (.call (.nm 96) (.c (.meth (.nm 82) 50 .n) .n) [] .n) (.c (.if (.and (.c (.cmp .IsNot (.nm 88) .none) (.c (.cmp .In (.nm 0) (.nm 88)) (.c (.cmp .In (.nm 85) (.nm 87)) .n)))) (.c (.set (.c (.nm 85) .n) (.sub (.sub (.nm 92) (.sub (.nm 87) (.nm 85))) (.int 0))) .n) .n) (.c (.set (.c (.tupl (.c (.nm 94) (.c (.nm 89) (.c (.nm 63) .n)))) .n) (.sub (.nm 92) (.nm 0))) (.c (.expr (.meth (.nm 93) 49 (.c (.tupl (.c (.ifx (.nm 63) (.nm 94) (.nm 89)) (.c (.nm 85) .n))) .n))) .n)))) .n) .n) (.c (.set (.c (.nm 95) .n) (.meth (.nm 82) 102 (.c (.str [123,104,116,116,112,58,47,47,119,119,119,46,119,51,46,111,114,103,47,88,77,76,47,49,57,57,56,47,110,97,109,101,115,112,97,99,101,125,115,112,97,99,101]) .n))) (.c (.expr (.meth (.attr (.nm 25) 52) 49 (.c (.ifx (.nm 95) (.cmp .Eq (.nm 95) (.str [112,114,101,115,101,114,118,101])) (.sub (.attr (.nm 25) 52) (.neg (.int 1)))) .n))) (.c (.set (.c (.nm 26) .n) (.attr (.nm 25) 37)) (.c (.expr (.call (.nm 26) (.c (.bin .Add (.str [60]) (.sub (.sub (.nm 92) (.nm 69)) (.int 0))) .n) [] .n)) (.c (.if (.nm 93) (.c (.expr (.call (.nm 26) (.c (.meth (.str []) 103 (.c (.lc (.fstr (.c (.str [32]) (.c (.fval (.nm 0)) (.c (.str [61,34]) (.c (.fval (.call (.nm 104) (.c (.nm 85) .n) [] .n)) (.c (.str [34]) .n)))))) (.c (.gen (.tupl (.c (.nm 0) (.c (.nm 85) .n))) (.nm 93) .n) .n) [(97,.local),(0,.local),(85,.local),(104,.globalImplicit)]) .n)) .n) [] .n)) .n) .n) (.c (.expr (.call (.nm 26) (.c (.str [62]) .n) [] .n)) (.c (.if (.cmp .IsNot (.nm 77) .none) (.c (.expr (.call (.nm 26) (.c (.call (.nm 79) (.c (.sub (.sub (.nm 92) (.sub (.nm 87) (.nm 77))) (.int 0)) .n) [] .n) .n) [] .n)) .n) .n) (.c (.set (.c (.attr (.nm 25) 54) .n) (.bool true)) (.c (.expr (.meth (.attr (.nm 25) 48) 49 (.c (.lst .n) .n))) .n))))))))))))))))))⟩
noncomputable def fo:FT:=⟨[24],[],[(24,.local),(6,.globalImplicit),(107,.globalImplicit),(108,.globalImplicit)],(.c (.try (.c (.if (.cmp .In (.str [38]) (.nm 24)) (.c (.set (.c (.nm 24) .n) (.meth (.nm 24) 109 (.c (.str [38]) (.c (.str [38,97,109,112,59]) .n)))) .n) .n) (.c (.if (.cmp .In (.str [60]) (.nm 24)) (.c (.set (.c (.nm 24) .n) (.meth (.nm 24) 109 (.c (.str [60]) (.c (.str [38,108,116,59]) .n)))) .n) .n) (.c (.if (.cmp .In (.str [34]) (.nm 24)) (.c (.set (.c (.nm 24) .n) (.meth (.nm 24) 109 (.c (.str [34]) (.c (.str [38,113,117,111,116,59]) .n)))) .n) .n) (.c (.if (.cmp .In (.str [9]) (.nm 24)) (.c (.set (.c (.nm 24) .n) (.meth (.nm 24) 109 (.c (.str [9]) (.c (.str [38,35,120,57,59]) .n)))) .n) .n) (.c (.if (.cmp .In (.str [10]) (.nm 24)) (.c (.set (.c (.nm 24) .n) (.meth (.nm 24) 109 (.c (.str [10]) (.c (.str [38,35,120,65,59]) .n)))) .n) .n) (.c (.if (.cmp .In (.str [13]) (.nm 24)) (.c (.set (.c (.nm 24) .n) (.meth (.nm 24) 109 (.c (.str [13]) (.c (.str [38,35,120,68,59]) .n)))) .n) .n) (.c (.ret (.nm 24)) .n)))))))) .n)⟩
noncomputable def gk:FT:=⟨[110],[],[(110,.cell),(111,.cell),(112,.globalImplicit)],(.c (.set (.c (.nm 111) .n) (.lst (.c (.int 155) (.c (.int 9) (.c (.int 6) (.c (.int 14) (.c (.int 3) (.c (.int 8) .n)))))))) (.c (.ret (.lc (.bin .Add (.sub (.nm 111) (.nm 0)) (.call (.nm 113) (.c (.slc (.nm 110) (.nm 0) .none (.int 6)) .n) [] .n)) (.c (.gen (.nm 0) (.call (.nm 112) (.c (.int 6) .n) [] .n) .n) .n) [(97,.local),(0,.local),(113,.globalImplicit),(110,.free),(111,.free)])) .n))⟩
noncomputable def eS:FT:=⟨[114],[],[(114,.local),(115,.local),(116,.local),(117,.local),(112,.globalImplicit),(118,.globalImplicit)],(.c (.swap [115,116] (.c (.lst .n) (.c (.int 96) .n))) (.c (.for (.nm 117) (.call (.nm 112) (.c (.int 4) .n) [] .n) (.c (.aug 116 .Add (.bin .Add (.int 1) (.bin .Mod (.nm 114) (.int 5)))) (.c (.set (.c (.nm 114) .n) (.bin .FloorDiv (.nm 114) (.int 5))) (.c (.expr (.meth (.nm 115) 49 (.c (.call (.nm 118) (.c (.nm 116) .n) [] .n) .n))) .n)))) (.c (.ret (.nm 115)) .n)))⟩
noncomputable def kY:FT:=⟨[114],[],[(114,.local),(119,.local),(120,.local),(117,.local),(121,.local),(122,.globalImplicit),(112,.globalImplicit),(21,.globalImplicit),(123,.globalImplicit),(124,.globalImplicit),(125,.globalImplicit)],(.c (.swap [119,120] (.c (.call (.nm 122) (.c (.nm 114) (.c (.int 1) .n)) [] .n) (.c (.int 1) .n))) (.c (.for (.nm 117) (.call (.nm 112) (.c (.int 4) .n) [] .n) (.c (.set (.c (.nm 121) .n) (.ifx (.and (.c (.cmp .Lt (.nm 117) (.call (.nm 21) (.c (.nm 119) .n) [] .n)) (.c (.cmp .Eq (.call (.nm 123) (.c (.nm 119) (.c (.nm 117) .n)) [] .n) (.int 1)) .n))) (.nm 120) (.int 0))) (.c (.set (.c (.nm 120) .n) (.call (.nm 124) (.c (.lst (.c (.nm 120) (.c (.nm 121) .n))) (.c (.call (.nm 125) (.c (.int 1) (.c (.nm 117) .n)) [] .n) .n)) [] .n)) .n))) (.c (.ret (.nm 120)) .n)))⟩
noncomputable def jz:FT:=⟨[120,115],[],[(120,.local),(115,.local),(62,.local),(117,.local),(126,.local),(122,.globalImplicit),(125,.globalImplicit),(21,.globalImplicit),(127,.globalImplicit)],(.c (.set (.c (.nm 62) .n) (.str [123])) (.c (.for (.nm 117) (.tupl (.c (.int 3) (.c (.int 2) (.c (.int 1) (.c (.int 0) .n))))) (.c (.set (.c (.nm 126) .n) (.call (.nm 122) (.c (.nm 120) (.c (.call (.nm 125) (.c (.int 1) (.c (.nm 117) .n)) [] .n) .n)) [] .n)) (.c (.if (.cmp .Eq (.call (.nm 21) (.c (.nm 126) .n) [] .n) (.int 2)) (.c (.set (.c (.nm 62) .n) (.call (.nm 127) (.c (.nm 62) (.c (.sub (.nm 115) (.nm 117)) .n)) [] .n)) .n) .n) (.c (.if (.cmp .Eq (.nm 117) (.int 2)) (.c (.set (.c (.nm 62) .n) (.call (.nm 127) (.c (.nm 62) (.c (.str [95,125]) .n)) [] .n)) .n) .n) (.c (.set (.c (.nm 120) .n) (.sub (.nm 126) (.int 0))) .n))))) (.c (.ret (.call (.nm 127) (.c (.nm 62) (.c (.str [95]) .n)) [] .n)) .n)))⟩
noncomputable def fC:FT:=⟨[128],[],[(128,.local),(129,.local),(120,.local),(130,.local),(131,.local),(132,.globalImplicit),(133,.globalImplicit),(134,.globalImplicit),(96,.globalImplicit)],(.c (.set (.c (.nm 129) .n) (.lst .n)) (.c (.for (.nm 120) (.nm 128) (.c (.for (.tupl (.c (.nm 130) (.c (.nm 131) .n))) (.nm 129) (.c (.if (.cmp .NotEq (.call (.nm 132) (.c (.nm 120) (.c (.nm 130) .n)) [] .n) (.int 0)) (.c (.set (.c (.nm 120) .n) (.call (.nm 133) (.c (.nm 120) (.c (.nm 131) .n)) [] .n)) .n) .n) .n)) (.c (.expr (.meth (.nm 129) 49 (.c (.tupl (.c (.call (.nm 132) (.c (.nm 120) (.c (.call (.nm 134) (.c (.nm 120) .n) [] .n) .n)) [] .n) (.c (.nm 120) .n))) .n))) .n))) (.c (.ret (.call (.nm 96) (.c (.lc (.bin .Sub (.meth (.nm 130) 22 .n) (.int 1)) (.c (.gen (.tupl (.c (.nm 130) (.c (.nm 120) .n))) (.nm 129) .n) .n) [(97,.local),(130,.local),(120,.local)]) .n) [] .n)) .n)))⟩
noncomputable def eE:FT:=⟨[135,136],[],[(135,.local),(136,.local),(137,.local),(119,.local),(114,.local),(122,.globalImplicit),(138,.globalImplicit),(132,.globalImplicit),(21,.globalImplicit),(125,.globalImplicit),(139,.globalImplicit)],(.c (.swap [137,119] (.c (.lst .n) (.c (.call (.nm 122) (.c (.nm 135) (.c (.int 1) .n)) [] .n) .n))) (.c (.for (.nm 114) (.nm 136) (.c (.if (.not (.call (.nm 138) (.c (.nm 137) (.c (.call (.nm 132) (.c (.nm 135) (.c (.nm 114) .n)) [] .n) .n)) [] .n)) (.c (.expr (.meth (.nm 137) 49 (.c (.call (.nm 132) (.c (.nm 135) (.c (.nm 114) .n)) [] .n) .n))) .n) .n) .n)) (.c (.ret (.and (.c (.cmp .Eq (.call (.nm 21) (.c (.nm 119) .n) [] .n) (.meth (.nm 135) 22 .n)) (.c (.cmp .Eq (.call (.nm 21) (.c (.nm 137) .n) [] .n) (.call (.nm 125) (.c (.int 1) (.c (.call (.nm 139) (.c (.nm 119) (.c (.int 1) .n)) [] .n) .n)) [] .n)) .n)))) .n)))⟩
noncomputable def jf:FT:=⟨[114,140],[],[(114,.cell),(140,.cell),(112,.globalImplicit)],(.c (.ret (.meth (.str []) 103 (.c (.lc (.sub (.nm 140) (.nm 117)) (.c (.gen (.nm 117) (.call (.nm 112) (.c (.int 4) .n) [] .n) (.c (.cmp .Eq (.bin .Mod (.bin .FloorDiv (.nm 114) (.bin .Pow (.int 2) (.nm 117))) (.int 2)) (.int 1)) .n)) .n) [(97,.local),(117,.local),(140,.free),(114,.free)]) .n))) .n)⟩
noncomputable def jY:FT:=⟨[141],[],[(141,.local),(142,.globalImplicit)],(.c (.ret (.lc (.nm 143) (.c (.gen (.nm 144) (.call (.nm 142) (.c (.nm 141) .n) [] .n) .n) (.c (.gen (.nm 143) (.nm 144) .n) .n)) [(97,.local),(144,.local),(143,.local)])) .n)⟩
noncomputable def gb:FT:=⟨[145,146,147,140,148],[],[(145,.local),(146,.cell),(147,.cell),(140,.cell),(148,.local),(149,.local),(150,.cell),(151,.local),(152,.globalImplicit),(153,.globalImplicit),(112,.globalImplicit)],(.c (.set (.c (.nm 149) .n) (.lst .n)) (.c (.set (.c (.nm 150) .n) (.call (.nm 152) (.c (.attr (.nm 149) 49) .n) [29] (.c (.nm 148) .n))) (.c (.set (.c (.attr (.nm 150) 67) .n) (.nm 153)) (.c (.setc 151 (.lc (.meth (.nm 150) 154 (.c (.sub (.str [115,114,113,112]) (.nm 0)) (.c (.sub (.nm 147) (.nm 0)) .n))) (.c (.gen (.nm 0) (.call (.nm 112) (.c (.int 4) .n) [] .n) .n) .n) [(97,.local),(0,.local),(147,.free),(150,.free)])) (.c (.expr (.meth (.nm 151) 49 (.c (.meth (.nm 150) 155 (.c (.str [123,95,125,114]) (.c (.dc (.nm 62) (.call (.nm 156) (.c (.meth (.nm 146) 157 (.c (.nm 62) .n)) (.c (.nm 140) .n)) [] .n) (.c (.gen (.nm 62) (.nm 145) .n) .n) [(97,.local),(62,.local),(156,.globalImplicit),(140,.free),(146,.free)]) .n))) .n))) (.c (.ret (.ifx (.cmp .Eq (.nm 151) (.lst (.c .none (.c .none (.c .none (.c .none (.c .none .n))))))) (.meth (.str []) 103 (.c (.nm 149) .n)) (.str []))) .n))))))⟩
noncomputable def lj:FT:=⟨[158,159,147,160,140,148],[],[(158,.local),(159,.cell),(147,.local),(160,.local),(140,.local),(148,.cell),(0,.local),(161,.cell),(162,.local),(61,.local),(135,.local),(112,.globalImplicit),(96,.globalImplicit),(156,.globalImplicit)],(.c (.setc 161 (.lc (.ifx (.and (.c (.nm 148) (.c (.cmp .In (.nm 0) (.nm 159)) .n))) (.bin .Add (.str [110]) (.call (.nm 163) (.c (.meth (.nm 159) 157 (.c (.nm 0) .n)) .n) [] .n)) (.sub (.str [115,114,113,112]) (.nm 0))) (.c (.gen (.nm 0) (.call (.nm 112) (.c (.int 4) .n) [] .n) .n) .n) [(97,.local),(0,.local),(163,.globalImplicit),(148,.free),(159,.free)])) (.c (.set (.c (.nm 162) .n) (.bin .Add (.bin .Add (.str [60]) (.sub (.nm 161) (.int 0))) (.str [58,114]))) (.c (.for (.tupl (.c (.nm 61) (.c (.nm 0) .n))) (.call (.nm 96) (.c (.lc (.tupl (.c (.sub (.nm 161) (.nm 0)) (.c (.nm 0) .n))) (.c (.gen (.nm 0) (.nm 159) .n) .n) [(97,.local),(0,.local),(161,.free)]) .n) [] .n) (.c (.aug 162 .Add (.bin .Add (.bin .Add (.bin .Add (.bin .Add (.str [32,120,109,108,110,115,58]) (.nm 61)) (.str [61,34])) (.sub (.nm 147) (.nm 0))) (.str [34]))) .n)) (.c (.for (.nm 135) (.nm 158) (.c (.aug 162 .Add (.bin .Add (.bin .Add (.bin .Add (.bin .Add (.bin .Add (.bin .Add (.str [32]) (.sub (.nm 161) (.bin .FloorDiv (.nm 135) (.int 4)))) (.str [58])) (.sub (.nm 160) (.bin .Mod (.nm 135) (.int 4)))) (.str [61,34])) (.call (.nm 156) (.c (.nm 135) (.c (.nm 140) .n)) [] .n)) (.str [34]))) .n)) (.c (.ret (.bin .Add (.nm 162) (.str [62]))) .n)))))⟩
noncomputable def dT:FT:=⟨[110],[],[(110,.local),(164,.cell),(115,.local),(148,.local),(160,.cell),(147,.cell),(146,.local),(145,.local),(128,.local),(136,.cell),(114,.local),(120,.local),(62,.local),(165,.local),(117,.local),(0,.local),(166,.local),(167,.local),(168,.local),(158,.cell),(159,.cell),(169,.local),(140,.local),(170,.cell),(171,.globalImplicit),(172,.globalImplicit),(173,.globalImplicit),(174,.globalImplicit),(138,.globalImplicit),(112,.globalImplicit),(21,.globalImplicit),(175,.globalImplicit),(176,.globalImplicit),(177,.globalImplicit),(178,.globalImplicit),(179,.globalImplicit),(180,.globalImplicit),(181,.globalImplicit),(139,.globalImplicit)],(.c (.set (.c (.nm 164) .n) (.call (.nm 171) (.c (.nm 110) .n) [] .n)) (.c (.swap [115,148] (.c (.call (.nm 172) (.c (.sub (.nm 164) (.int 0)) .n) [] .n) (.c (.cmp .Eq (.bin .Mod (.bin .FloorDiv (.sub (.nm 164) (.int 0)) (.int 625)) (.int 2)) (.int 1)) .n))) (.c (.set (.c (.nm 160) .n) (.lst (.c (.str [95]) (.c (.bin .Add (.sub (.nm 115) (.int 0)) (.str [95])) (.c (.bin .Add (.sub (.nm 115) (.int 1)) (.str [95])) (.c (.bin .Add (.bin .Add (.sub (.nm 115) (.int 1)) (.sub (.nm 115) (.int 0))) (.str [95])) .n)))))) (.c (.set (.c (.nm 147) .n) (.lst (.c (.str [95]) (.c (.bin .Add (.sub (.nm 115) (.int 2)) (.str [95])) (.c (.bin .Add (.sub (.nm 115) (.int 3)) (.str [95])) (.c (.bin .Add (.bin .Add (.sub (.nm 115) (.int 3)) (.sub (.nm 115) (.int 2))) (.str [95])) .n)))))) (.c (.setc 146 (.lc (.bin .Add (.bin .Add (.bin .Add (.str [123]) (.nm 63)) (.str [125])) (.nm 182)) (.c (.gen (.nm 63) (.nm 147) .n) (.c (.gen (.nm 182) (.nm 160) .n) .n)) [(97,.local),(63,.local),(182,.local),(160,.free)])) (.c (.swap [145,128,136] (.c (.lst .n) (.c (.lst .n) (.c (.lst .n) .n)))) (.c (.for (.nm 114) (.lc (.bin .Mod (.nm 183) (.int 16)) (.c (.gen (.nm 183) (.slc (.nm 164) (.int 1) .none .none) .n) .n) [(97,.local),(183,.local)]) (.c (.set (.c (.nm 120) .n) (.call (.nm 173) (.c (.nm 114) .n) [] .n)) (.c (.set (.c (.nm 62) .n) (.call (.nm 174) (.c (.nm 120) (.c (.nm 115) .n)) [] .n)) (.c (.set (.c (.nm 165) .n) (.call (.nm 138) (.c (.nm 145) (.c (.nm 62) .n)) [] .n)) (.c (.if (.or (.c (.cmp .NotEq (.nm 62) (.sub (.nm 146) (.nm 114))) (.c (.cmp .IsNot (.nm 165) (.cmp .In (.nm 114) (.nm 136))) .n))) (.c (.ret (.bool false)) .n) .n) (.c (.if (.not (.nm 165)) (.c (.expr (.meth (.nm 145) 49 (.c (.nm 62) .n))) (.c (.expr (.meth (.nm 128) 49 (.c (.nm 120) .n))) (.c (.expr (.meth (.nm 136) 49 (.c (.nm 114) .n))) .n))) .n) .n)))))) (.c (.for (.nm 117) (.tupl (.c (.int 3) (.c (.int 2) (.c (.int 1) (.c (.int 0) .n))))) (.c (.for (.nm 0) (.call (.nm 112) (.c (.call (.nm 21) (.c (.nm 145) .n) [] .n) .n) [] .n) (.c (.set (.c (.nm 166) .n) (.meth (.sub (.nm 145) (.nm 0)) 109 (.c (.sub (.nm 115) (.nm 117)) (.c (.str []) .n)))) (.c (.set (.c (.nm 165) .n) (.call (.nm 138) (.c (.nm 145) (.c (.nm 166) .n)) [] .n)) (.c (.if (.cmp .IsNot (.nm 165) (.cmp .In (.nm 166) (.nm 145))) (.c (.ret (.bool false)) .n) .n) (.c (.if (.and (.c (.not (.nm 165)) (.c (.cmp .IsNot (.call (.nm 175) (.c (.nm 145) (.c (.nm 0) (.c (.nm 166) .n))) [] .n) .none) .n))) (.c (.ret (.bool false)) .n) .n) .n))))) .n)) (.c (.for (.tupl (.c (.nm 167) (.c (.nm 168) .n))) (.call (.nm 176) (.c (.nm 146) (.c (.slc (.nm 146) (.int 1) .none .none) .n)) [] .n) (.c (.if (.or (.c (.cmp .IsNot (.call (.nm 177) (.c (.nm 167) (.c (.nm 168) .n)) [] .n) (.bool true)) (.c (.cmp .IsNot (.call (.nm 177) (.c (.nm 168) (.c (.nm 167) .n)) [] .n) (.bool false)) (.c (.cmp .IsNot (.call (.nm 177) (.c (.nm 167) (.c (.nm 167) .n)) [] .n) (.bool false)) .n)))) (.c (.ret (.bool false)) .n) .n) (.c (.if (.or (.c (.cmp .IsNot (.call (.nm 178) (.c (.nm 167) (.c (.nm 168) .n)) [] .n) (.bool false)) (.c (.cmp .IsNot (.call (.nm 178) (.c (.nm 168) (.c (.nm 167) .n)) [] .n) (.bool true)) (.c (.cmp .IsNot (.call (.nm 178) (.c (.nm 167) (.c (.nm 167) .n)) [] .n) (.bool true)) .n)))) (.c (.ret (.bool false)) .n) .n) .n))) (.c (.set (.c (.nm 158) .n) (.call (.nm 179) (.c (.nm 128) .n) [] .n)) (.c (.setc 159 (.lc (.nm 0) (.c (.gen (.nm 0) (.call (.nm 112) (.c (.int 4) .n) [] .n) (.c (.cmp .NotEq (.lc (.nm 135) (.c (.gen (.nm 135) (.nm 158) (.c (.cmp .Eq (.bin .FloorDiv (.nm 135) (.int 4)) (.nm 0)) .n)) .n) [(97,.local),(135,.local),(0,.free)]) (.lst .n)) .n)) .n) [(97,.local),(0,.cell),(158,.free)])) (.c (.setc 169 (.lc (.bin .Add (.bin .FloorDiv (.sub (.nm 164) (.int 0)) (.int 1250)) (.nm 117)) (.c (.gen (.nm 117) (.call (.nm 112) (.c (.int 4) .n) [] .n) .n) .n) [(97,.local),(117,.local),(164,.free)])) (.c (.setc 140 (.lc (.sub (.lst (.c (.str [38]) (.c (.str [60]) (.c (.str [34]) (.c (.str [9]) (.c (.str [10]) (.c (.str [13]) .n))))))) (.bin .Mod (.nm 0) (.int 6))) (.c (.gen (.nm 0) (.nm 169) .n) .n) [(97,.local),(0,.local)])) (.c (.set (.c (.nm 170) .n) (.call (.nm 180) (.c (.nm 145) (.c (.nm 146) (.c (.nm 147) (.c (.nm 140) (.c (.nm 148) .n))))) [] .n)) (.c (.setc 140 (.lc (.sub (.lst (.c (.str [38,97,109,112,59]) (.c (.str [38,108,116,59]) (.c (.str [38,113,117,111,116,59]) (.c (.str [38,35,120,57,59]) (.c (.str [38,35,120,65,59]) (.c (.str [38,35,120,68,59]) .n))))))) (.bin .Mod (.nm 0) (.int 6))) (.c (.gen (.nm 0) (.nm 169) .n) .n) [(97,.local),(0,.local)])) (.c (.if (.or (.c (.cmp .NotEq (.nm 158) (.call (.nm 179) (.c (.slc (.nm 128) .none .none (.neg (.int 1))) .n) [] .n)) (.c (.cmp .NotEq (.nm 170) (.call (.nm 181) (.c (.nm 158) (.c (.nm 159) (.c (.nm 147) (.c (.nm 160) (.c (.nm 140) (.c (.nm 148) .n)))))) [] .n)) .n))) (.c (.ret (.bool false)) .n) .n) (.c (.if (.cmp .NotEq (.lc (.nm 0) (.c (.gen (.nm 0) (.call (.nm 112) (.c (.int 4) .n) [] .n) (.c (.cmp .IsNot (.call (.nm 138) (.c (.nm 170) (.c (.bin .Add (.bin .Add (.str [61,34]) (.sub (.nm 147) (.nm 0))) (.str [34])) .n)) [] .n) (.cmp .In (.nm 0) (.nm 159))) .n)) .n) [(97,.local),(0,.local),(138,.globalImplicit),(170,.free),(147,.free),(159,.free)]) (.lst .n)) (.c (.ret (.bool false)) .n) .n) (.c (.ret (.and (.c (.cmp .Eq (.call (.nm 139) (.c (.nm 170) (.c (.str [61]) .n)) [] .n) (.bin .Add (.call (.nm 21) (.c (.nm 136) .n) [] .n) (.call (.nm 21) (.c (.nm 159) .n) [] .n))) (.c (.cmp .Eq (.lc (.nm 0) (.c (.gen (.nm 0) (.nm 158) (.c (.not (.call (.nm 184) (.c (.nm 0) (.c (.nm 136) .n)) [] .n)) .n)) .n) [(97,.local),(0,.local),(184,.globalImplicit),(136,.free)]) (.lst .n)) .n)))) .n))))))))))))))))))⟩
noncomputable def AB(a:Nat):Option FT:=lk a [(45,H9),(52,Iu),(59,vI),(66,oJ),(73,AC),(80,zU),(87,oP),(94,k8),(101,fj),(108,mB),(115,mn),(122,ik),(129,ip),(158,mP),(181,km),(204,jQ),(211,ow),(217,kB),(259,fo),(264,gk),(271,eS),(278,kY),(285,jz),(290,fC),(297,eE),(302,jf),(307,jY),(312,gb),(317,lj),(322,dT)]
end
section
variable {α β γ:Type} {z:β} {P:Prop}
noncomputable def jB(a:AV)(k:Option β):Option β:=@AV.casesOn (λ_=>Option β) a k (λ_=>none) (λ_=>none) (λ_=>none) (λ_ _=>none) (λ_=>none) (λ_=>none) (λ_=>none) (λ_=>none) (λ_=>none) (λ_=>none) (λ_=>none) (λ_=>none) (λ_ _=>none) (λ_ _=>none) (λ_ _ _=>none) (λ_=>none) (λ_=>none) (λ_ _=>none)
theorem io{a:AV}{k:Option β}(h:jB a k=some z)(c:a = .none->k=some z->P):P:=@AV.casesOn (λb=>jB b k=some z->a=b->P) a (λh e=>c e h) (λ_=>nn) (λ_=>nn) (λ_=>nn) (λ_ _=>nn) (λ_=>nn) (λ_=>nn) (λ_=>nn) (λ_=>nn) (λ_=>nn) (λ_=>nn) (λ_=>nn) (λ_=>nn) (λ_ _=>nn) (λ_ _=>nn) (λ_ _ _=>nn) (λ_=>nn) (λ_=>nn) (λ_ _=>nn) h rfl
noncomputable def m5(a:AV)(k:Bool->Option β):Option β:=@AV.casesOn (λ_=>Option β) a none k (λ_=>none) (λ_=>none) (λ_ _=>none) (λ_=>none) (λ_=>none) (λ_=>none) (λ_=>none) (λ_=>none) (λ_=>none) (λ_=>none) (λ_=>none) (λ_ _=>none) (λ_ _=>none) (λ_ _ _=>none) (λ_=>none) (λ_=>none) (λ_ _=>none)
theorem kX{a:AV}{k:Bool->Option β}(h:m5 a k=some z)(c:∀x,a = .bool x->k x=some z->P):P:=@AV.casesOn (λb=>m5 b k=some z->a=b->P) a nn (λx h e=>c x e h) (λ_=>nn) (λ_=>nn) (λ_ _=>nn) (λ_=>nn) (λ_=>nn) (λ_=>nn) (λ_=>nn) (λ_=>nn) (λ_=>nn) (λ_=>nn) (λ_=>nn) (λ_ _=>nn) (λ_ _=>nn) (λ_ _ _=>nn) (λ_=>nn) (λ_=>nn) (λ_ _=>nn) h rfl
noncomputable def eh(a:AV)(k:Int->Option β):Option β:=@AV.casesOn (λ_=>Option β) a none (λ_=>none) k (λ_=>none) (λ_ _=>none) (λ_=>none) (λ_=>none) (λ_=>none) (λ_=>none) (λ_=>none) (λ_=>none) (λ_=>none) (λ_=>none) (λ_ _=>none) (λ_ _=>none) (λ_ _ _=>none) (λ_=>none) (λ_=>none) (λ_ _=>none)
theorem dM{a:AV}{k:Int->Option β}(h:eh a k=some z)(c:∀x,a = .int x->k x=some z->P):P:=@AV.casesOn (λb=>eh b k=some z->a=b->P) a nn (λ_=>nn) (λx h e=>c x e h) (λ_=>nn) (λ_ _=>nn) (λ_=>nn) (λ_=>nn) (λ_=>nn) (λ_=>nn) (λ_=>nn) (λ_=>nn) (λ_=>nn) (λ_=>nn) (λ_ _=>nn) (λ_ _=>nn) (λ_ _ _=>nn) (λ_=>nn) (λ_=>nn) (λ_ _=>nn) h rfl
noncomputable def um(a:AV)(k:Int->Option β):Option β:=@AV.casesOn (λ_=>Option β) a none (λ_=>none) (λ_=>none) k (λ_ _=>none) (λ_=>none) (λ_=>none) (λ_=>none) (λ_=>none) (λ_=>none) (λ_=>none) (λ_=>none) (λ_=>none) (λ_ _=>none) (λ_ _=>none) (λ_ _ _=>none) (λ_=>none) (λ_=>none) (λ_ _=>none)
theorem GS{a:AV}{k:Int->Option β}(h:um a k=some z)(c:∀x,a = .inu x->k x=some z->P):P:=@AV.casesOn (λb=>um b k=some z->a=b->P) a nn (λ_=>nn) (λ_=>nn) (λx h e=>c x e h) (λ_ _=>nn) (λ_=>nn) (λ_=>nn) (λ_=>nn) (λ_=>nn) (λ_=>nn) (λ_=>nn) (λ_=>nn) (λ_=>nn) (λ_ _=>nn) (λ_ _=>nn) (λ_ _ _=>nn) (λ_=>nn) (λ_=>nn) (λ_ _=>nn) h rfl
noncomputable def sOi(a:AV)(k:Nat->Nat->Option β):Option β:=@AV.casesOn (λ_=>Option β) a none (λ_=>none) (λ_=>none) (λ_=>none) k (λ_=>none) (λ_=>none) (λ_=>none) (λ_=>none) (λ_=>none) (λ_=>none) (λ_=>none) (λ_=>none) (λ_ _=>none) (λ_ _=>none) (λ_ _ _=>none) (λ_=>none) (λ_=>none) (λ_ _=>none)
theorem MW{a:AV}{k:Nat->Nat->Option β}(h:sOi a k=some z)(c:∀x y,a = .oi x y->k x y=some z->P):P:=@AV.casesOn (λb=>sOi b k=some z->a=b->P) a nn (λ_=>nn) (λ_=>nn) (λ_=>nn) (λx y h e=>c x y e h) (λ_=>nn) (λ_=>nn) (λ_=>nn) (λ_=>nn) (λ_=>nn) (λ_=>nn) (λ_=>nn) (λ_=>nn) (λ_ _=>nn) (λ_ _=>nn) (λ_ _ _=>nn) (λ_=>nn) (λ_=>nn) (λ_ _=>nn) h rfl
noncomputable def dZ(a:AV)(k:List Nat->Option β):Option β:=@AV.casesOn (λ_=>Option β) a none (λ_=>none) (λ_=>none) (λ_=>none) (λ_ _=>none) k (λ_=>none) (λ_=>none) (λ_=>none) (λ_=>none) (λ_=>none) (λ_=>none) (λ_=>none) (λ_ _=>none) (λ_ _=>none) (λ_ _ _=>none) (λ_=>none) (λ_=>none) (λ_ _=>none)
theorem dL{a:AV}{k:List Nat->Option β}(h:dZ a k=some z)(c:∀x,a = .str x->k x=some z->P):P:=@AV.casesOn (λb=>dZ b k=some z->a=b->P) a nn (λ_=>nn) (λ_=>nn) (λ_=>nn) (λ_ _=>nn) (λx h e=>c x e h) (λ_=>nn) (λ_=>nn) (λ_=>nn) (λ_=>nn) (λ_=>nn) (λ_=>nn) (λ_=>nn) (λ_ _=>nn) (λ_ _=>nn) (λ_ _ _=>nn) (λ_=>nn) (λ_=>nn) (λ_ _=>nn) h rfl
noncomputable def vB(a:AV)(k:List Nat->Option β):Option β:=@AV.casesOn (λ_=>Option β) a none (λ_=>none) (λ_=>none) (λ_=>none) (λ_ _=>none) (λ_=>none) (λ_=>none) k (λ_=>none) (λ_=>none) (λ_=>none) (λ_=>none) (λ_=>none) (λ_ _=>none) (λ_ _=>none) (λ_ _ _=>none) (λ_=>none) (λ_=>none) (λ_ _=>none)
theorem tK{a:AV}{k:List Nat->Option β}(h:vB a k=some z)(c:∀x,a = .rop x->k x=some z->P):P:=@AV.casesOn (λb=>vB b k=some z->a=b->P) a nn (λ_=>nn) (λ_=>nn) (λ_=>nn) (λ_ _=>nn) (λ_=>nn) (λ_=>nn) (λx h e=>c x e h) (λ_=>nn) (λ_=>nn) (λ_=>nn) (λ_=>nn) (λ_=>nn) (λ_ _=>nn) (λ_ _=>nn) (λ_ _ _=>nn) (λ_=>nn) (λ_=>nn) (λ_ _=>nn) h rfl
noncomputable def tX(a:AV)(k:List Nat->Option β):Option β:=@AV.casesOn (λ_=>Option β) a none (λ_=>none) (λ_=>none) (λ_=>none) (λ_ _=>none) (λ_=>none) k (λ_=>none) (λ_=>none) (λ_=>none) (λ_=>none) (λ_=>none) (λ_=>none) (λ_ _=>none) (λ_ _=>none) (λ_ _ _=>none) (λ_=>none) (λ_=>none) (λ_ _=>none)
theorem C8{a:AV}{k:List Nat->Option β}(h:tX a k=some z)(c:∀x,a = .strb x->k x=some z->P):P:=@AV.casesOn (λb=>tX b k=some z->a=b->P) a nn (λ_=>nn) (λ_=>nn) (λ_=>nn) (λ_ _=>nn) (λ_=>nn) (λx h e=>c x e h) (λ_=>nn) (λ_=>nn) (λ_=>nn) (λ_=>nn) (λ_=>nn) (λ_=>nn) (λ_ _=>nn) (λ_ _=>nn) (λ_ _ _=>nn) (λ_=>nn) (λ_=>nn) (λ_ _=>nn) h rfl
noncomputable def eJ(a:AV)(k:Nat->Option β):Option β:=@AV.casesOn (λ_=>Option β) a none (λ_=>none) (λ_=>none) (λ_=>none) (λ_ _=>none) (λ_=>none) (λ_=>none) (λ_=>none) k (λ_=>none) (λ_=>none) (λ_=>none) (λ_=>none) (λ_ _=>none) (λ_ _=>none) (λ_ _ _=>none) (λ_=>none) (λ_=>none) (λ_ _=>none)
theorem dP{a:AV}{k:Nat->Option β}(h:eJ a k=some z)(c:∀x,a = .ref x->k x=some z->P):P:=@AV.casesOn (λb=>eJ b k=some z->a=b->P) a nn (λ_=>nn) (λ_=>nn) (λ_=>nn) (λ_ _=>nn) (λ_=>nn) (λ_=>nn) (λ_=>nn) (λx h e=>c x e h) (λ_=>nn) (λ_=>nn) (λ_=>nn) (λ_=>nn) (λ_ _=>nn) (λ_ _=>nn) (λ_ _ _=>nn) (λ_=>nn) (λ_=>nn) (λ_ _=>nn) h rfl
noncomputable def sSt(a:AV)(k:Nat->Option β):Option β:=@AV.casesOn (λ_=>Option β) a none (λ_=>none) (λ_=>none) (λ_=>none) (λ_ _=>none) (λ_=>none) (λ_=>none) (λ_=>none) (λ_=>none) k (λ_=>none) (λ_=>none) (λ_=>none) (λ_ _=>none) (λ_ _=>none) (λ_ _ _=>none) (λ_=>none) (λ_=>none) (λ_ _=>none)
theorem yN{a:AV}{k:Nat->Option β}(h:sSt a k=some z)(c:∀x,a = .st x->k x=some z->P):P:=@AV.casesOn (λb=>sSt b k=some z->a=b->P) a nn (λ_=>nn) (λ_=>nn) (λ_=>nn) (λ_ _=>nn) (λ_=>nn) (λ_=>nn) (λ_=>nn) (λ_=>nn) (λx h e=>c x e h) (λ_=>nn) (λ_=>nn) (λ_=>nn) (λ_ _=>nn) (λ_ _=>nn) (λ_ _ _=>nn) (λ_=>nn) (λ_=>nn) (λ_ _=>nn) h rfl
noncomputable def qY(a:AV)(k:List AV->Option β):Option β:=@AV.casesOn (λ_=>Option β) a none (λ_=>none) (λ_=>none) (λ_=>none) (λ_ _=>none) (λ_=>none) (λ_=>none) (λ_=>none) (λ_=>none) (λ_=>none) (λ_=>none) (λ_=>none) k (λ_ _=>none) (λ_ _=>none) (λ_ _ _=>none) (λ_=>none) (λ_=>none) (λ_ _=>none)
theorem uE{a:AV}{k:List AV->Option β}(h:qY a k=some z)(c:∀x,a = .tup x->k x=some z->P):P:=@AV.casesOn (λb=>qY b k=some z->a=b->P) a nn (λ_=>nn) (λ_=>nn) (λ_=>nn) (λ_ _=>nn) (λ_=>nn) (λ_=>nn) (λ_=>nn) (λ_=>nn) (λ_=>nn) (λ_=>nn) (λ_=>nn) (λx h e=>c x e h) (λ_ _=>nn) (λ_ _=>nn) (λ_ _ _=>nn) (λ_=>nn) (λ_=>nn) (λ_ _=>nn) h rfl
noncomputable def Kb(a:AV)(k:FT->List (Nat×Nat)->Option β):Option β:=@AV.casesOn (λ_=>Option β) a none (λ_=>none) (λ_=>none) (λ_=>none) (λ_ _=>none) (λ_=>none) (λ_=>none) (λ_=>none) (λ_=>none) (λ_=>none) (λ_=>none) (λ_=>none) (λ_=>none) (λ_ _=>none) k (λ_ _ _=>none) (λ_=>none) (λ_=>none) (λ_ _=>none)
theorem Mn{a:AV}{k:FT->List (Nat×Nat)->Option β}(h:Kb a k=some z)(c:∀x y,a = .clo x y->k x y=some z->P):P:=@AV.casesOn (λb=>Kb b k=some z->a=b->P) a nn (λ_=>nn) (λ_=>nn) (λ_=>nn) (λ_ _=>nn) (λ_=>nn) (λ_=>nn) (λ_=>nn) (λ_=>nn) (λ_=>nn) (λ_=>nn) (λ_=>nn) (λ_=>nn) (λ_ _=>nn) (λx y h e=>c x y e h) (λ_ _ _=>nn) (λ_=>nn) (λ_=>nn) (λ_ _=>nn) h rfl
noncomputable def Je(a:AV)(k:Nat->Option β):Option β:=@AV.casesOn (λ_=>Option β) a none (λ_=>none) (λ_=>none) (λ_=>none) (λ_ _=>none) (λ_=>none) (λ_=>none) (λ_=>none) (λ_=>none) (λ_=>none) (λ_=>none) (λ_=>none) (λ_=>none) (λ_ _=>none) (λ_ _=>none) (λ_ _ _=>none) k (λ_=>none) (λ_ _=>none)
theorem ME{a:AV}{k:Nat->Option β}(h:Je a k=some z)(c:∀x,a = .itm x->k x=some z->P):P:=@AV.casesOn (λb=>Je b k=some z->a=b->P) a nn (λ_=>nn) (λ_=>nn) (λ_=>nn) (λ_ _=>nn) (λ_=>nn) (λ_=>nn) (λ_=>nn) (λ_=>nn) (λ_=>nn) (λ_=>nn) (λ_=>nn) (λ_=>nn) (λ_ _=>nn) (λ_ _=>nn) (λ_ _ _=>nn) (λx h e=>c x e h) (λ_=>nn) (λ_ _=>nn) h rfl
noncomputable def AQ(a:AV)(k:Nat->Option β):Option β:=@AV.casesOn (λ_=>Option β) a none (λ_=>none) (λ_=>none) (λ_=>none) (λ_ _=>none) (λ_=>none) (λ_=>none) (λ_=>none) (λ_=>none) (λ_=>none) (λ_=>none) (λ_=>none) (λ_=>none) (λ_ _=>none) (λ_ _=>none) (λ_ _ _=>none) (λ_=>none) k (λ_ _=>none)
theorem IN{a:AV}{k:Nat->Option β}(h:AQ a k=some z)(c:∀x,a = .sitm x->k x=some z->P):P:=@AV.casesOn (λb=>AQ b k=some z->a=b->P) a nn (λ_=>nn) (λ_=>nn) (λ_=>nn) (λ_ _=>nn) (λ_=>nn) (λ_=>nn) (λ_=>nn) (λ_=>nn) (λ_=>nn) (λ_=>nn) (λ_=>nn) (λ_=>nn) (λ_ _=>nn) (λ_ _=>nn) (λ_ _ _=>nn) (λ_=>nn) (λx h e=>c x e h) (λ_ _=>nn) h rfl
noncomputable def HZ(a:AV)(k:Int->Int->Int->Option β):Option β:=@AV.casesOn (λ_=>Option β) a none (λ_=>none) (λ_=>none) (λ_=>none) (λ_ _=>none) (λ_=>none) (λ_=>none) (λ_=>none) (λ_=>none) (λ_=>none) (λ_=>none) (λ_=>none) (λ_=>none) (λ_ _=>none) (λ_ _=>none) k (λ_=>none) (λ_=>none) (λ_ _=>none)
theorem Mw{a:AV}{k:Int->Int->Int->Option β}(h:HZ a k=some z)(c:∀x y u,a = .rng x y u->k x y u=some z->P):P:=@AV.casesOn (λb=>HZ b k=some z->a=b->P) a nn (λ_=>nn) (λ_=>nn) (λ_=>nn) (λ_ _=>nn) (λ_=>nn) (λ_=>nn) (λ_=>nn) (λ_=>nn) (λ_=>nn) (λ_=>nn) (λ_=>nn) (λ_=>nn) (λ_ _=>nn) (λ_ _=>nn) (λx y u h e=>c x y u e h) (λ_=>nn) (λ_=>nn) (λ_ _=>nn) h rfl
noncomputable def sBi(a:AV)(k:Nat->Option β):Option β:=@AV.casesOn (λ_=>Option β) a none (λ_=>none) (λ_=>none) (λ_=>none) (λ_ _=>none) (λ_=>none) (λ_=>none) (λ_=>none) (λ_=>none) (λ_=>none) k (λ_=>none) (λ_=>none) (λ_ _=>none) (λ_ _=>none) (λ_ _ _=>none) (λ_=>none) (λ_=>none) (λ_ _=>none)
theorem M9{a:AV}{k:Nat->Option β}(h:sBi a k=some z)(c:∀x,a = .bi x->k x=some z->P):P:=@AV.casesOn (λb=>sBi b k=some z->a=b->P) a nn (λ_=>nn) (λ_=>nn) (λ_=>nn) (λ_ _=>nn) (λ_=>nn) (λ_=>nn) (λ_=>nn) (λ_=>nn) (λ_=>nn) (λx h e=>c x e h) (λ_=>nn) (λ_=>nn) (λ_ _=>nn) (λ_ _=>nn) (λ_ _ _=>nn) (λ_=>nn) (λ_=>nn) (λ_ _=>nn) h rfl
noncomputable def sTy(a:AV)(k:Nat->Option β):Option β:=@AV.casesOn (λ_=>Option β) a none (λ_=>none) (λ_=>none) (λ_=>none) (λ_ _=>none) (λ_=>none) (λ_=>none) (λ_=>none) (λ_=>none) (λ_=>none) (λ_=>none) k (λ_=>none) (λ_ _=>none) (λ_ _=>none) (λ_ _ _=>none) (λ_=>none) (λ_=>none) (λ_ _=>none)
noncomputable def sBm(a:AV)(k:AV->AV->Option β):Option β:=@AV.casesOn (λ_=>Option β) a none (λ_=>none) (λ_=>none) (λ_=>none) (λ_ _=>none) (λ_=>none) (λ_=>none) (λ_=>none) (λ_=>none) (λ_=>none) (λ_=>none) (λ_=>none) (λ_=>none) k (λ_ _=>none) (λ_ _ _=>none) (λ_=>none) (λ_=>none) (λ_ _=>none)
noncomputable def vn(a:AV)(k:Bool->List Nat ⊕ Int->Option β):Option β:=@AV.casesOn (λ_=>Option β) a none (λ_=>none) (λ_=>none) (λ_=>none) (λ_ _=>none) (λ_=>none) (λ_=>none) (λ_=>none) (λ_=>none) (λ_=>none) (λ_=>none) (λ_=>none) (λ_=>none) (λ_ _=>none) (λ_ _=>none) (λ_ _ _=>none) (λ_=>none) (λ_=>none) k
theorem GH{a:AV}{k:Bool->List Nat ⊕ Int->Option β}(h:vn a k=some z)(c:∀x y,a = .tok x y->k x y=some z->P):P:=@AV.casesOn (λb=>vn b k=some z->a=b->P) a nn (λ_=>nn) (λ_=>nn) (λ_=>nn) (λ_ _=>nn) (λ_=>nn) (λ_=>nn) (λ_=>nn) (λ_=>nn) (λ_=>nn) (λ_=>nn) (λ_=>nn) (λ_=>nn) (λ_ _=>nn) (λ_ _=>nn) (λ_ _ _=>nn) (λ_=>nn) (λ_=>nn) (λx y h e=>c x y e h) h rfl
noncomputable def yU(a:AO)(k:List AV->Option β):Option β:=@AO.casesOn (λ_=>Option β) a none k (λ_=>none) (λ_=>none) (λ_=>none) (λ_=>none) (λ_=>none) (λ_=>none) (λ_=>none) (λ_ _=>none) (λ_=>none) (λ_=>none)
theorem Ki{a:AO}{k:List AV->Option β}(h:yU a k=some z)(c:∀x,a = .list x->k x=some z->P):P:=@AO.casesOn (λb=>yU b k=some z->a=b->P) a nn (λx h e=>c x e h) (λ_=>nn) (λ_=>nn) (λ_=>nn) (λ_=>nn) (λ_=>nn) (λ_=>nn) (λ_=>nn) (λ_ _=>nn) (λ_=>nn) (λ_=>nn) h rfl
noncomputable def BD(a:AO)(k:List (List Nat×AV)->Option β):Option β:=@AO.casesOn (λ_=>Option β) a none (λ_=>none) k (λ_=>none) (λ_=>none) (λ_=>none) (λ_=>none) (λ_=>none) (λ_=>none) (λ_ _=>none) (λ_=>none) (λ_=>none)
theorem Hu{a:AO}{k:List (List Nat×AV)->Option β}(h:BD a k=some z)(c:∀x,a = .dict x->k x=some z->P):P:=@AO.casesOn (λb=>BD b k=some z->a=b->P) a nn (λ_=>nn) (λx h e=>c x e h) (λ_=>nn) (λ_=>nn) (λ_=>nn) (λ_=>nn) (λ_=>nn) (λ_=>nn) (λ_ _=>nn) (λ_=>nn) (λ_=>nn) h rfl
noncomputable def J7(a:AO)(k:List (List Nat×AV)->Option β):Option β:=@AO.casesOn (λ_=>Option β) a none (λ_=>none) (λ_=>none) k (λ_=>none) (λ_=>none) (λ_=>none) (λ_=>none) (λ_=>none) (λ_ _=>none) (λ_=>none) (λ_=>none)
theorem Lu{a:AO}{k:List (List Nat×AV)->Option β}(h:J7 a k=some z)(c:∀x,a = .bag x->k x=some z->P):P:=@AO.casesOn (λb=>J7 b k=some z->a=b->P) a nn (λ_=>nn) (λ_=>nn) (λx h e=>c x e h) (λ_=>nn) (λ_=>nn) (λ_=>nn) (λ_=>nn) (λ_=>nn) (λ_ _=>nn) (λ_=>nn) (λ_=>nn) h rfl
noncomputable def Hq(a:AO)(k:List (List Nat)->Option β):Option β:=@AO.casesOn (λ_=>Option β) a none (λ_=>none) (λ_=>none) (λ_=>none) k (λ_=>none) (λ_=>none) (λ_=>none) (λ_=>none) (λ_ _=>none) (λ_=>none) (λ_=>none)
theorem LI{a:AO}{k:List (List Nat)->Option β}(h:Hq a k=some z)(c:∀x,a = .set x->k x=some z->P):P:=@AO.casesOn (λb=>Hq b k=some z->a=b->P) a nn (λ_=>nn) (λ_=>nn) (λ_=>nn) (λx h e=>c x e h) (λ_=>nn) (λ_=>nn) (λ_=>nn) (λ_=>nn) (λ_ _=>nn) (λ_=>nn) (λ_=>nn) h rfl
noncomputable def BY(a:AO)(k:List (List Nat)->Option β):Option β:=@AO.casesOn (λ_=>Option β) a none (λ_=>none) (λ_=>none) (λ_=>none) (λ_=>none) k (λ_=>none) (λ_=>none) (λ_=>none) (λ_ _=>none) (λ_=>none) (λ_=>none)
theorem HU{a:AO}{k:List (List Nat)->Option β}(h:BY a k=some z)(c:∀x,a = .setq x->k x=some z->P):P:=@AO.casesOn (λb=>BY b k=some z->a=b->P) a nn (λ_=>nn) (λ_=>nn) (λ_=>nn) (λ_=>nn) (λx h e=>c x e h) (λ_=>nn) (λ_=>nn) (λ_=>nn) (λ_ _=>nn) (λ_=>nn) (λ_=>nn) h rfl
noncomputable def oNs(a:AO)(k:List (Nat×AV)->Option β):Option β:=@AO.casesOn (λ_=>Option β) a none (λ_=>none) (λ_=>none) (λ_=>none) (λ_=>none) (λ_=>none) k (λ_=>none) (λ_=>none) (λ_ _=>none) (λ_=>none) (λ_=>none)
theorem Nq{a:AO}{k:List (Nat×AV)->Option β}(h:oNs a k=some z)(c:∀x,a = .ns x->k x=some z->P):P:=@AO.casesOn (λb=>oNs b k=some z->a=b->P) a nn (λ_=>nn) (λ_=>nn) (λ_=>nn) (λ_=>nn) (λ_=>nn) (λx h e=>c x e h) (λ_=>nn) (λ_=>nn) (λ_ _=>nn) (λ_=>nn) (λ_=>nn) h rfl
noncomputable def Hj(a:AO)(k:List (Nat×AV)->Option β):Option β:=@AO.casesOn (λ_=>Option β) a none (λ_=>none) (λ_=>none) (λ_=>none) (λ_=>none) (λ_=>none) (λ_=>none) k (λ_=>none) (λ_ _=>none) (λ_=>none) (λ_=>none)
theorem Mx{a:AO}{k:List (Nat×AV)->Option β}(h:Hj a k=some z)(c:∀x,a = .idn x->k x=some z->P):P:=@AO.casesOn (λb=>Hj b k=some z->a=b->P) a nn (λ_=>nn) (λ_=>nn) (λ_=>nn) (λ_=>nn) (λ_=>nn) (λ_=>nn) (λx h e=>c x e h) (λ_=>nn) (λ_ _=>nn) (λ_=>nn) (λ_=>nn) h rfl
noncomputable def Cu(a:AO)(k:Option AV->Option β):Option β:=@AO.casesOn (λ_=>Option β) a none (λ_=>none) (λ_=>none) (λ_=>none) (λ_=>none) (λ_=>none) (λ_=>none) (λ_=>none) k (λ_ _=>none) (λ_=>none) (λ_=>none)
theorem IK{a:AO}{k:Option AV->Option β}(h:Cu a k=some z)(c:∀x,a = .cell x->k x=some z->P):P:=@AO.casesOn (λb=>Cu b k=some z->a=b->P) a nn (λ_=>nn) (λ_=>nn) (λ_=>nn) (λ_=>nn) (λ_=>nn) (λ_=>nn) (λ_=>nn) (λx h e=>c x e h) (λ_ _=>nn) (λ_=>nn) (λ_=>nn) h rfl
noncomputable def zk(a:AO)(k:Nat->Nat->Option β):Option β:=@AO.casesOn (λ_=>Option β) a none (λ_=>none) (λ_=>none) (λ_=>none) (λ_=>none) (λ_=>none) (λ_=>none) (λ_=>none) (λ_=>none) k (λ_=>none) (λ_=>none)
theorem Kf{a:AO}{k:Nat->Nat->Option β}(h:zk a k=some z)(c:∀x y,a = .inst x y->k x y=some z->P):P:=@AO.casesOn (λb=>zk b k=some z->a=b->P) a nn (λ_=>nn) (λ_=>nn) (λ_=>nn) (λ_=>nn) (λ_=>nn) (λ_=>nn) (λ_=>nn) (λ_=>nn) (λx y h e=>c x y e h) (λ_=>nn) (λ_=>nn) h rfl
noncomputable def yR(a:AO)(k:IT->Option β):Option β:=@AO.casesOn (λ_=>Option β) a none (λ_=>none) (λ_=>none) (λ_=>none) (λ_=>none) (λ_=>none) (λ_=>none) (λ_=>none) (λ_=>none) (λ_ _=>none) k (λ_=>none)
theorem Hx{a:AO}{k:IT->Option β}(h:yR a k=some z)(c:∀x,a = .iter x->k x=some z->P):P:=@AO.casesOn (λb=>yR b k=some z->a=b->P) a nn (λ_=>nn) (λ_=>nn) (λ_=>nn) (λ_=>nn) (λ_=>nn) (λ_=>nn) (λ_=>nn) (λ_=>nn) (λ_ _=>nn) (λx h e=>c x e h) (λ_=>nn) h rfl
noncomputable def H5(a:AO)(k:Nat->Option β):Option β:=@AO.casesOn (λ_=>Option β) a none (λ_=>none) (λ_=>none) (λ_=>none) (λ_=>none) (λ_=>none) (λ_=>none) (λ_=>none) (λ_=>none) (λ_ _=>none) (λ_=>none) k
theorem MD{a:AO}{k:Nat->Option β}(h:H5 a k=some z)(c:∀x,a = .tab x->k x=some z->P):P:=@AO.casesOn (λb=>H5 b k=some z->a=b->P) a nn (λ_=>nn) (λ_=>nn) (λ_=>nn) (λ_=>nn) (λ_=>nn) (λ_=>nn) (λ_=>nn) (λ_=>nn) (λ_ _=>nn) (λ_=>nn) (λx h e=>c x e h) h rfl
noncomputable def orO(x y:Option β):Option β:=Option.rec y some x
theorem orE{x y:Option β}(h:orO x y=some z)(k:x=some z->P)(l:y=some z->P):P:=by cases x with | none=>exact l h | some a=>exact k h
noncomputable def ifB(c:Bool)(x y:β):β:=Bool.rec y x c
theorem gC{c:Bool}{x y:Option β}(h:ifB c x y=some z)(k:c=true->x=some z->P)(l:c=false->y=some z->P):P:=by cases c with | false=>exact l rfl h | true=>exact k rfl h
noncomputable def dY(x:Option (α×γ))(k:α->γ->Option β):Option β:=Option.rec none (λp=>Prod.rec k p) x
theorem gx{x:Option (α×γ)}{k:α->γ->Option β}(h:dY x k=some z)(c:∀a b,x=some (a,b)->k a b=some z->P):P:=by
 cases x with | none=>exact nS h | some p=>exact c p.1 p.2 rfl h
theorem so{a:β}(h:some a=some z)(k:a=z->P):P:=k (ak h)
end
theorem kg(a b:Nat):Nat.beq a b=decide (a=b):=by
 by_cases h:a=b
 ·rw[aS h,h];exact Nat.beq_refl b
 ·rw[bM h];exact Bool.eq_false_iff.mpr λq=>h (bR q)
theorem nb{a b:Nat}(h:Nat.beq a b=true):a=b:=bR h
inductive Tr where
 |nil
 |leaf (o:AO)
 |node (l r:Tr)
noncomputable def Tr.l(t:Tr):Tr:=Tr.casesOn (motive:=λ_=>Tr) t .nil (λ_=>.nil) (λl _=>l)
noncomputable def Tr.r(t:Tr):Tr:=Tr.casesOn (motive:=λ_=>Tr) t .nil (λ_=>.nil) (λ_ r=>r)
noncomputable def Tr.get(f:Nat):Tr->Nat->Option AO:=
 Nat.rec (motive:=λ_=>Tr->Nat->Option AO)
  (λt _=>Tr.casesOn (motive:=λ_=>Option AO) t none some (λ_ _=>none))
  (λ_ ih t i=>Bool.rec (motive:=λ_=>Option AO) (ih t.r (Nat.div i 2)) (ih t.l (Nat.div i 2)) (Nat.beq (Nat.mod i 2) 0)) f
noncomputable def Tr.set(f:Nat):Tr->Nat->AO->Tr:=
 Nat.rec (motive:=λ_=>Tr->Nat->AO->Tr)
  (λ_ _ o=>.leaf o)
  (λ_ ih t i o=>Bool.rec (motive:=λ_=>Tr) (.node t.l (ih t.r (Nat.div i 2) o)) (.node (ih t.l (Nat.div i 2) o) t.r) (Nat.beq (Nat.mod i 2) 0)) f
structure TH where
 n:Nat
 tr:Tr
noncomputable def gt(t:TH)(i:Nat):Option AO:=ifO (Nat.ble (Nat.succ i) t.n) (ifO (Nat.ble t.n 512) (Tr.get 9 t.tr i))
noncomputable def st(t:TH)(i:Nat)(o:AO):TH:=⟨t.n,Tr.set 9 t.tr i o⟩
noncomputable def psh(t:TH)(o:AO):Option TH:=ifO (Nat.ble (Nat.succ t.n) 512) (some ⟨Nat.succ t.n,Tr.set 9 t.tr t.n o⟩)
noncomputable def sf(t:TH)(os:List AO):Option TH:=List.rec (motive:=λ_=>TH->Option TH) some (λo _ ih t=>opt (psh t o) ih) os t
noncomputable def TH.L(t:TH):List AO:=(List.range t.n).map λi=>(Tr.get 9 t.tr i).getD .dead
theorem ET{i f:Nat}(h:i<2 ^ (f+1)):i / 2<2 ^ f:=by rw[Nat.pow_succ]at h;exact Nat.div_lt_of_lt_mul (by rwa [Nat.mul_comm])
theorem Tr.get_set:∀(f:Nat) (t:Tr) (i j:Nat) (o:AO),i<2 ^ f->j<2 ^ f->Tr.get f (Tr.set f t i o) j=if i=j then some o else Tr.get f t j
 |0,t,i,j,o,hi,hj=>by
  rw[aI ((Nat.lt_one_iff.mp hi).trans (Nat.lt_one_iff.mp hj).symm)];rfl
 |f+1,t,i,j,o,hi,hj=>by
  have key:∀t:Tr,Tr.get f (Tr.set f t (i / 2) o) (j / 2)=if i / 2=j / 2 then some o else Tr.get f t (j / 2):=λt=>Tr.get_set f t _ _ o (ET hi) (ET hj);show@Bool.rec (λ_=>Option AO) _ _ (Nat.beq (j % 2) 0)=ite _ _ (@Bool.rec (λ_=>Option AO) _ _ (Nat.beq (j % 2) 0));have es:Tr.set (f+1) t i o=@Bool.rec (λ_=>Tr) (.node t.l (Tr.set f t.r (i / 2) o)) (.node (Tr.set f t.l (i / 2) o) t.r) (Nat.beq (i % 2) 0):=rfl;rw[es];have sp:i=j↔i % 2=j % 2/\i / 2=j / 2:=⟨λe=>e▸⟨rfl,rfl⟩,λe=>by rw[<-Nat.div_add_mod i 2,e.1,e.2,Nat.div_add_mod j 2]⟩;rcases c8 i with p | p<;>rcases c8 j with q | q<;>rw[p,q]<;>rw[p,q]at sp
  ·exact(key t.l).trans (ite_congr (propext (Iff.symm (sp.trans (and_iff_right rfl)))) (λ_=>rfl) λ_=>rfl)
  ·rw[aF λe=>Nat.zero_ne_one (sp.mp e).1];rfl
  ·rw[aF λe=>Nat.zero_ne_one (sp.mp e).1.symm];rfl
  ·exact(key t.r).trans (ite_congr (propext (Iff.symm (sp.trans (and_iff_right rfl)))) (λ_=>rfl) λ_=>rfl)
theorem TH.len(t:TH):t.L.length=t.n:=by unfold TH.L;rw[aq,cp]
theorem TH.at(t:TH)(i:Nat):t.L[i]? = if i<t.n then some ((Tr.get 9 t.tr i).getD .dead) else none:=by
 unfold TH.L;rw[aP]
 by_cases h:i<t.n
 ·rw[aI h,List.getElem?_range h];rfl
 ·rw[aF h,bK (by rw[cp];exact bo h)];rfl
section
variable {t t':TH} {i j:Nat} {o o':AO} {v:AV}
theorem wC(h:gt t i=some o):i<t.n/\t.n<=512/\Tr.get 9 t.tr i=some o:=ifE h λh1 h=>ifE h λh2 h=>⟨leb h1,leb h2,h⟩
theorem dA(h:gt t i=some o):t.L[i]? = some o:=by rw[TH.at,aI (wC h).1,(wC h).2.2];rfl
theorem Gd(h:gt t i=some o):i<t.L.length:=by rw[TH.len];exact(wC h).1
theorem gN(h:gt t i=some o):(st t i o').L=t.L.set i o':=by
 have q:=wC h;refine List.ext_getElem? λj=>?_;rw[TH.at,List.getElem?_set,TH.at,TH.len];show(if j<t.n then some ((Tr.get 9 (Tr.set 9 t.tr i o') j).getD _) else _)=_
 by_cases hj:j<t.n
 ·rw[aI hj,aI hj,Tr.get_set 9 _ _ _ _ (av q.1 q.2.1) (av hj q.2.1)]
  by_cases e:i=j
  ·rw[aI e,aI e,aI q.1];rfl
  ·rw[aF e,aF e]
 ·rw[aF hj,aF hj,aF λe=>hj (by rw[<-e];exact q.1)]
theorem JT(h:psh t o=some t'):t.n<512/\t'=⟨t.n+1,Tr.set 9 t.tr t.n o⟩:=ifE h λh1 h=>⟨leb h1,(ak h).symm⟩
theorem wU(h:psh t o=some t'):t'.L=t.L++[o]:=by
 obtain⟨h1,rfl⟩:=JT h;refine List.ext_getElem? λj=>?_;rw[TH.at];show(if j<t.n+1 then some ((Tr.get 9 (Tr.set 9 t.tr t.n o) j).getD _) else _)=_
 by_cases hj:j<t.n
 ·rw[aI (bc hj),Tr.get_set 9 _ _ _ _ h1 (cu hj h1),aF (bl hj),cb (by rw[TH.len];exact hj),TH.at,aI hj]
 ·by_cases q:j=t.n
  ·subst q
   rw[aI (aD _),Tr.get_set 9 _ _ _ _ h1 h1,aI rfl,cz (by rw[TH.len];exact ad _),TH.len,Nat.sub_self];rfl
  ·rw[aF λz=>(Nat.lt_succ_iff_lt_or_eq.mp z).elim hj q,bK]
   rw[az,TH.len];exact cZ (bo hj) (cL q)
theorem mJ:∀{os:List AO} {t t':TH},sf t os=some t'->t'.L=t.L++os
 | [],t,t',h=>by obtain rfl:=ak h;rw[aU]
 |o::r,t,t',h=>dq h λu h1 h2=>by rw[mJ (os:=r) h2,wU h1,aZ];rfl
noncomputable def new(t:TH)(o:AO):Option (AV×TH):=(psh t o).map λt'=>(.ref t.n,t')
theorem kI{P:Prop}(h:new t o=some (v,t'))(k:v = .ref t.L.length->t'.L=t.L++[o]->P):P:=
 om h λu h1 h2=>by cases h2;exact k (by rw[TH.len]) (wU h1)
end
section
variable {β:Type} {z:β} {P:Prop} {H:TH} {i:Nat}
noncomputable def dR(H:TH)(i:Nat)(k:List AV->Option β):Option β:=opt (gt H i) λo=>yU o k
theorem dG{k:List AV->Option β}(h:dR H i k=some z)(c:∀x,gt H i=some (.list x)->k x=some z->P):P:=dq h λo e h=>Ki h λx q h=>c x (q▸e) h
noncomputable def hK(H:TH)(i:Nat)(k:List (List Nat×AV)->Option β):Option β:=opt (gt H i) λo=>BD o k
theorem gJ{k:List (List Nat×AV)->Option β}(h:hK H i k=some z)(c:∀x,gt H i=some (.dict x)->k x=some z->P):P:=dq h λo e h=>Hu h λx q h=>c x (q▸e) h
noncomputable def vJ(H:TH)(i:Nat)(k:List (List Nat×AV)->Option β):Option β:=opt (gt H i) λo=>J7 o k
theorem qh{k:List (List Nat×AV)->Option β}(h:vJ H i k=some z)(c:∀x,gt H i=some (.bag x)->k x=some z->P):P:=dq h λo e h=>Lu h λx q h=>c x (q▸e) h
noncomputable def DD(H:TH)(i:Nat)(k:List (List Nat)->Option β):Option β:=opt (gt H i) λo=>Hq o k
theorem C3{k:List (List Nat)->Option β}(h:DD H i k=some z)(c:∀x,gt H i=some (.set x)->k x=some z->P):P:=dq h λo e h=>LI h λx q h=>c x (q▸e) h
noncomputable def xi(H:TH)(i:Nat)(k:List (List Nat)->Option β):Option β:=opt (gt H i) λo=>BY o k
theorem vz{k:List (List Nat)->Option β}(h:xi H i k=some z)(c:∀x,gt H i=some (.setq x)->k x=some z->P):P:=dq h λo e h=>HU h λx q h=>c x (q▸e) h
noncomputable def gNs(H:TH)(i:Nat)(k:List (Nat×AV)->Option β):Option β:=opt (gt H i) λo=>oNs o k
theorem yn{k:List (Nat×AV)->Option β}(h:gNs H i k=some z)(c:∀x,gt H i=some (.ns x)->k x=some z->P):P:=dq h λo e h=>Nq h λx q h=>c x (q▸e) h
noncomputable def LN(H:TH)(i:Nat)(k:List (Nat×AV)->Option β):Option β:=opt (gt H i) λo=>Hj o k
theorem Ku{k:List (Nat×AV)->Option β}(h:LN H i k=some z)(c:∀x,gt H i=some (.idn x)->k x=some z->P):P:=dq h λo e h=>Mx h λx q h=>c x (q▸e) h
noncomputable def ua(H:TH)(i:Nat)(k:Option AV->Option β):Option β:=opt (gt H i) λo=>Cu o k
theorem rb{k:Option AV->Option β}(h:ua H i k=some z)(c:∀x,gt H i=some (.cell x)->k x=some z->P):P:=dq h λo e h=>IK h λx q h=>c x (q▸e) h
noncomputable def GE(H:TH)(i:Nat)(k:Nat->Nat->Option β):Option β:=opt (gt H i) λo=>zk o k
theorem JX{k:Nat->Nat->Option β}(h:GE H i k=some z)(c:∀x y,gt H i=some (.inst x y)->k x y=some z->P):P:=dq h λo e h=>Kf h λx y q h=>c x y (q▸e) h
noncomputable def v9(H:TH)(i:Nat)(k:IT->Option β):Option β:=opt (gt H i) λo=>yR o k
theorem vu{k:IT->Option β}(h:v9 H i k=some z)(c:∀x,gt H i=some (.iter x)->k x=some z->P):P:=dq h λo e h=>Hx h λx q h=>c x (q▸e) h
noncomputable def zp(H:TH)(i:Nat)(k:Nat->Option β):Option β:=opt (gt H i) λo=>H5 o k
theorem w6{k:Nat->Option β}(h:zp H i k=some z)(c:∀x,gt H i=some (.tab x)->k x=some z->P):P:=dq h λo e h=>MD h λx q h=>c x (q▸e) h
end
noncomputable def isL(c:Nat):Bool:=Nat.ble 1000 c&&Nat.ble c 1003
noncomputable def loL(c:Nat):Nat:=ifB (isL c) 97 c
noncomputable def hiL(c:Nat):Nat:=ifB (isL c) (ifB (Nat.ble c 1001) 106 116) c
noncomputable def rz(a b:Nat):Option Bool:=
 ifB (Nat.beq a b) (some true) (ifB ((isL a&&isL b) || Nat.blt (hiL a) (loL b) || Nat.blt (hiL b) (loL a)) (some false) none)
noncomputable def II(a b:Nat):Option Bool:=
 ifB (isL a&&isL b) (some (Nat.blt a b)) (ifB (Nat.blt (hiL a) (loL b)) (some true) (ifB (Nat.ble (hiL b) (loL a)) (some false) none))
noncomputable def nF(x:Option Bool):Option Bool:=opt x λb=>ifB b none (some false)
noncomputable def tri{α:Type}(x:Option Bool)(y n u:Option α):Option α:=Option.rec u (λb=>ifB b y n) x
noncomputable def eM(x:List Nat):List Nat->Option Bool:=List.rec (motive:=λ_=>List Nat->Option Bool)
 (λy=>some y.isEmpty) (λa _ ih y=>List.rec (motive:=λ_=>Option Bool) (some false) (λb y _=>tri (rz a b) (ih y) (some false) (nF (ih y))) y) x
noncomputable def gu(x:List Nat):List Nat->Option Bool:=List.rec (motive:=λ_=>List Nat->Option Bool)
 (λy=>some !y.isEmpty) (λa _ ih y=>List.rec (motive:=λ_=>Option Bool) (some false) (λb y _=>tri (II a b) (some true) (tri (II b a) (some false) (ih y) none) none) y) x
noncomputable def pre(x:List Nat):List Nat->Option Bool:=List.rec (motive:=λ_=>List Nat->Option Bool)
 (λ_=>some true) (λa _ ih y=>List.rec (motive:=λ_=>Option Bool) (some false) (λb y _=>tri (rz a b) (ih y) (some false) none) y) x
noncomputable def lw(x y:List Nat):Option Bool:=List.rec (motive:=λ_=>Option Bool) (pre x []) (λc y ih=>tri (pre x (c::y)) (some true) ih none) y
noncomputable def u8(c:Nat)(t y:List Nat):Option (List Nat):=List.rec (motive:=λ_=>Option (List Nat)) (some []) (λb _ ih=>tri (rz c b) (ih.map (t++·)) (ih.map (b :: ·)) none) y
noncomputable def Da(c:Nat)(y:List Nat):Option (Option (List Nat×List Nat)):=List.rec (motive:=λ_=>Option (Option (List Nat×List Nat))) (some none)
 (λb y ih=>tri (rz c b) (some (some ([],y))) (ih.map λr=>r.map λp=>(b::p.1,p.2)) none) y
section
variable {α:Type} {P:Prop}
theorem mI{x:Option Bool}{y n u:Option α}{z:α}(h:tri x y n u=some z)(k:x=some true->y=some z->P)(l:x=some false->n=some z->P)(m:u=some z->P):P:=by
 cases x with | none=>exact m h | some b=>cases b with | true=>exact k rfl h | false=>exact l rfl h
theorem nFE{x:Option Bool}{t:Bool}(h:nF x=some t)(k:x=some false->t=false->P):P:=by
 cases x with | none=>exact nS h | some b=>cases b with | true=>exact nS h | false=>exact k rfl (ak h).symm
end
theorem vq{c:Nat}(h:isL c=true):1000<=c/\c<=1003:=⟨leb (aa h).1,leb (aa h).2⟩
theorem kj{c:Nat}(h:isL c=true):c=1000\/c=1001\/c=1002\/c=1003:=by
 obtain⟨k,e⟩:=Nat.le.dest (vq h).1;have q:1000+k<=1000+3:=e▸(vq h).2;have q:=Nat.le_of_add_le_add_left q;rw[<-e]
 match k,q with
 |0,_=>exact .inl rfl
 |1,_=>exact .inr (.inl rfl)
 |2,_=>exact .inr (.inr (.inl rfl))
 |3,_=>exact .inr (.inr (.inr rfl))
theorem ri(σ:eO){a b:Nat}(ha:isL a=true)(hb:isL b=true):ph σ a<ph σ b↔a<b:=by
 have key:∀{a b},isL a=true->isL b=true->a<b->ph σ a<ph σ b:=λ{a b} ha hb h=>by
  have e2:=σ.hab;have e3:=σ.hbc;have e4:=σ.hcd;rcases kj ha with rfl | rfl | rfl | rfl<;>rcases kj hb with rfl | rfl | rfl | rfl<;>
   first | exact absurd h (by decide) | exact e2 | exact e3 | exact e4 | exact cu e2 e3 | exact cu e3 e4 | exact cu e2 (cu e3 e4)
 refine⟨λh=>?_,key ha hb⟩;rcases Nat.lt_trichotomy a b with q | q | q
 ·exact q
 ·exact absurd h (by rw[q];exact cO _)
 ·exact absurd h (Nat.lt_asymm (key hb ha q))
theorem rP(σ:eO){c:Nat}(h:isL c=false):ph σ c=c:=by
 have n:∀k,isL k=true->c≠k:=λk hk e=>ah (h.symm.trans (e▸hk));unfold ph;rw[aF (n _ rfl),aF (n _ rfl),aF (n _ rfl),aF (n _ rfl)]
theorem jI(σ:eO){c:Nat}(h:c<1000):ph σ c=c:=rP σ (Bool.eq_false_iff.mpr λq=>absurd (vq q).1 (Nat.not_le.mpr h))
theorem pd(σ:eO)(c:Nat):loL c<=ph σ c/\ph σ c<=hiL c:=by
 cases h:isL c with
 |false=>unfold loL hiL;rw[h,rP σ h];exact⟨ad _,ad _⟩
 |true=>
  have e1:=σ.ha;have e2:=a7 σ.hab;have e3:=a7 σ.hbc;have e4:=a7 σ.hcd;have e5:=σ.hb;have e6:=σ.hd;rcases kj h with rfl | rfl | rfl | rfl
  ·exact⟨e1,ae e2 e5⟩
  ·exact⟨ae e1 e2,e5⟩
  ·exact⟨ae e1 (ae e2 e3),ae e4 e6⟩
  ·exact⟨ae e1 (ae e2 (ae e3 e4)),e6⟩
theorem jx{a b:Nat}(h:Nat.blt a b=true):a<b:=leb h
theorem orb{p q:Bool}(h:(p || q)=true):p=true\/q=true:=(Bool.or_eq_true _ _).mp h
theorem nK(σ:eO){a b:Nat}{t:Bool}(h:rz a b=some t):ph σ a=ph σ b↔t=true:=by
 have no:t=false->ph σ a≠ph σ b->(ph σ a=ph σ b↔t=true):=λe n=>⟨λq=>absurd q n,λq=>absurd (e.symm.trans q) ah⟩;have lt:∀{a b},Nat.blt (hiL a) (loL b)=true->ph σ a<ph σ b:=λq=>aJ (pd σ _).2 (av (jx q) (pd σ _).1);refine gC h (λq h=>?_) λq h=>gC h (λq2 h=>so h λe=>no e.symm ?_) λ_=>nn
 ·obtain rfl:=ak h;exact⟨λ_=>rfl,λ_=>by rw[nb q]⟩
 ·refine(orb q2).elim (λq2=>(orb q2).elim (λq2 e=>?_) λq2=>aO (lt q2)) λq2=>bl (lt q2)
  have h1:=ri σ (aa q2).1 (aa q2).2;have h2:=ri σ (aa q2).2 (aa q2).1;rw[e]at h1 h2;have:a≠b:=λe=>by rw[e,Nat.beq_refl]at q;exact tF q
  exact(Nat.lt_or_gt_of_ne this).elim (λl=>cO _ (h1.mpr l)) λl=>cO _ (h2.mpr l)
theorem lN(σ:eO){a b:Nat}{t:Bool}(h:II a b=some t):ph σ a<ph σ b↔t=true:=
 gC h (λq h=>so h λe=>by rw[<-e,ri σ (aa q).1 (aa q).2];exact⟨λl=>a9 l,jx⟩) λ_ h=>
 gC h (λq h=>so h λe=>⟨λ_=>e.symm,λ_=>aJ (pd σ _).2 (av (jx q) (pd σ _).1)⟩) λ_ h=>
 gC h (λq h=>so h λe=>⟨λl=>absurd l (bJ.mpr (ae (pd σ _).2 (ae (leb q) (pd σ _).1))),λz=>absurd (e.trans z) ah⟩) λ_=>nn
theorem v4(σ:eO){a b:Nat}(h:rz a b=some false):ph σ a≠ph σ b:=λe=>ah ((nK σ h).mp e)
theorem jT(σ:eO):∀{x y:List Nat} {t:Bool},eM x y=some t->(x.map (ph σ)=y.map (ph σ)↔t=true)
 | [],[],t,h=>so h λe=>⟨λ_=>e.symm,λ_=>rfl⟩
 | [],_::_,t,h=>so h λe=>⟨λq=>(nomatch q),λz=>absurd (e.trans z) ah⟩
 |_::_,[],t,h=>so h λe=>⟨λq=>(nomatch q),λz=>absurd (e.trans z) ah⟩
 |a::x,b::y,t,h=>by
  rw[aM,aM,List.cons.injEq];exact mI h (λq h=>by rw[(nK σ q).mpr rfl,jT σ h];exact and_iff_right rfl)
   (λq h=>so h λe=>⟨λz=>absurd z.1 (v4 σ q),λz=>absurd (e.trans z) ah⟩)
   (λh=>nFE h λq e=>⟨λz=>absurd ((jT σ q).mp z.2) ah,λz=>absurd (e.symm.trans z) ah⟩)
theorem pj(σ:eO):∀{x y:List Nat} {t:Bool},gu x y=some t->(x.map (ph σ)<y.map (ph σ)↔t=true)
 | [],[],t,h=>so h λe=>⟨λq=>absurd q (List.not_lt_nil _),λz=>absurd (e.trans z) ah⟩
 | [],_::_,t,h=>so h λe=>⟨λ_=>e.symm,λ_=>List.Lex.nil⟩
 |_::_,[],t,h=>so h λe=>⟨λq=>absurd q (List.not_lt_nil _),λz=>absurd (e.trans z) ah⟩
 |a::x,b::y,t,h=>by
  rw[aM,aM,List.cons_lt_cons_iff];exact mI h (λq h=>so h λe=>⟨λ_=>e.symm,λ_=>.inl ((lN σ q).mpr rfl)⟩)
   (λq h=>mI h (λq2 h=>so h λe=>⟨λz=>absurd ((lN σ q2).mpr rfl) (z.elim (λz=>absurd ((lN σ q).mp z) ah) λz=>by rw[z.1];exact cO _),λz=>absurd (e.trans z) ah⟩)
    (λq2 h=>by
     have n1:¬ ph σ a<ph σ b:=λe=>ah ((lN σ q).mp e);have e:ph σ a=ph σ b:=Nat.le_antisymm (bo λe=>ah ((lN σ q2).mp e)) (bo n1);rw[<-pj σ h];exact⟨λz=>z.elim (λz=>absurd z n1) λz=>z.2,λz=>.inr ⟨e,z⟩⟩) nn) nn
theorem vh{x y:List Nat}:(⟨x.toArray⟩:Str)=⟨y.toArray⟩↔x=y:=⟨λh=>aB (λs:Str=>s.cps.toList) h,λh=>by rw[h]⟩
theorem fF(σ:eO){x y:List Nat}{t:Bool}(h:eM x y=some t):(rs σ x == rs σ y)=t:=by
 have:=(vh (x:=x.map (ph σ)) (y:=y.map (ph σ))).trans (jT σ h);cases t with
 |true=>exact bZ.mpr (this.mpr rfl)
 |false=>exact bC.mpr λe=>ah (this.mp e)
theorem jM(σ:eO){x y:List Nat}{t:Bool}(h:gu x y=some t):decide ((rs σ x).cps.toList<(rs σ y).cps.toList)=t:=by
 rw[bT,aR];exact pj σ h
theorem dO(σ:eO)(l:List Nat):(rs σ l).length=l.length:=aq ..
theorem fJ(σ:eO)(l:List Nat):(rs σ l).cps.toList=l.map (ph σ):=rfl
theorem iI(σ:eO){x:Str}(h:x.cps.toList.all (Nat.blt · 1000)=true):x=rs σ x.cps.toList:=by
 unfold rs;rw[(bP λc hc=>jI σ (jx (aA.mp h c hc)):x.cps.toList.map (ph σ)=x.cps.toList.map λc=>c),List.map_id']
theorem xR(σ:eO)(x y:List Nat):rs σ (x++y)=rs σ x++rs σ y:=by
 show Str.mk _=Str.mk (_++_);rw[bh,<-List.append_toArray];rfl
theorem qQ(σ:eO):∀{x y:List Nat} {t:Bool},pre x y=some t->((x.map (ph σ)).isPrefixOf (y.map (ph σ))=t)
 | [],y,t,h=>so h λe=>by rw[<-e];exact List.isPrefixOf_nil_left
 |_::_,[],t,h=>so h λe=>e
 |a::x,b::y,t,h=>by
  rw[aM,aM,List.isPrefixOf];exact mI h (λq h=>by rw[qQ σ h,bZ.mpr ((nK σ q).mpr rfl)];rfl) (λq h=>by rw[bC.mpr (v4 σ q)];exact so h λe=>e) nn
theorem rU(σ:eO){x:List Nat}:∀{y:List Nat} {t:Bool},lw x y=some t->(t=true↔∃i,i<=y.length/\(x.map (ph σ)).isPrefixOf ((y.map (ph σ)).drop i)=true)
 | [],t,h=>by
  rw[<-qQ σ (y:=[]) h];exact⟨λe=>⟨0,ad _,e⟩,λ⟨i,hi,e⟩=>by rw[Nat.le_zero.mp hi]at e;exact e⟩
 |c::y,t,h=>by
  refine mI h (λq h=>so h λe=>⟨λ_=>⟨0,bj _,qQ σ q⟩,λ_=>e.symm⟩) (λq h=>?_) nn;rw[rU σ h];refine⟨λ⟨i,hi,e⟩=>⟨i+1,bE hi,e⟩,λ⟨i,hi,e⟩=>?_⟩;cases i with
  |zero=>exact absurd ((qQ σ q).symm.trans e) ah
  |succ i=>exact⟨i,aW hi,e⟩
open Builtin Builtin.Str in
theorem yP(x y:List Nat)(i:Nat):(i+y.length<=x.length/\subAt ⟨x.toArray⟩ ⟨y.toArray⟩ i=true)↔(i<=x.length/\y.isPrefixOf (x.drop i)=true):=by
 have e:(x.toArray.extract i (i+y.length) == y.toArray)=((x.drop i).take y.length == y):=by
  rw[List.extract_toArray,bT,bZ,bZ,List.extract_eq_take_drop,cQ];exact⟨λh=>aB Array.toList h,aB List.toArray⟩
 show(_/\(x.toArray.extract i (i+y.length) == y.toArray)=true)↔_;rw[e,bZ,List.isPrefixOf_iff_prefix];refine⟨λ⟨h1,h2⟩=>⟨ae (aK _ _) h1,h2▸List.take_prefix _ _⟩,λ⟨h1,h2⟩=>⟨?_,(List.prefix_iff_eq_take.mp h2).symm⟩⟩;have:=h2.length_le;rw[List.length_drop]at this;rw[bw];exact(Nat.le_sub_iff_add_le h1).mp this
theorem Cs(σ:eO){x y:List Nat}{t:Bool}(h:lw x y=some t):(!(Builtin.Str.occurrences (rs σ y) (rs σ x) 0 (rs σ y).length 1).isEmpty)=t:=by
 rw[bT,StrLaws.found_iff (rs σ y) (rs σ x),rU σ h,dO,dO];refine exists_congr λi=>?_;have:=yP (y.map (ph σ)) (x.map (ph σ)) i;rw[aq,aq]at this;exact this
noncomputable def dn:Nat:=100000
theorem dB:dn<=sizeLine:=by decide
theorem fit{n:Nat}(h:Nat.ble n dn=true):(n:Int)<2 ^ 63:=Int.lt_of_le_of_lt (Int.ofNat_le.mpr (leb h)) (by decide)
theorem le2(n:Nat):n<=n+1+1:=aK _ 2
noncomputable def oW(H:TH)(a:AV):Option Bool:=
 orO (m5 a some) (orO (eJ a λi=>orO (dR H i λxs=>ifO (Nat.ble xs.length dn) (some !xs.isEmpty)) (orO (hK H i λes=>ifO (Nat.ble es.length dn) (some !es.isEmpty)) (vJ H i λes=>ifO (Nat.ble es.length dn) (some !es.isEmpty))))
  (orO (eh a λi=>some (i != 0)) (orO (dZ a λl=>ifO (Nat.ble l.length dn) (some !l.isEmpty)) (jB a (some false)))))
noncomputable def jq:Nat:=4000
noncomputable def nl(l:List Nat):Bool:=l.all λc=>Nat.blt c 2000
noncomputable def lp(a:AV):Option (List Nat):=orO (dZ a λl=>ifO (nl l) (some l)) (vB a some)
noncomputable def KN(a b:AV):Option AV:=opt (lp a) λx=>opt (lp b) λy=>ifO (Nat.ble (x.length+y.length) jq) (some (.rop (x++y)))
noncomputable def Fq(a b:AV):Option AV:=
 orO (eh a λi=>orO (eh b λj=>some (.int (i+j))) (um b λj=>some (.int (i+j))))
  (orO (dZ a λx=>dZ b λy=>ifO (Nat.ble (x.length+y.length) dn) (some (.str (x++y)))) (KN a b))
noncomputable def mh(i:Int):Bool:=decide (i.natAbs<18446744073709551616)
noncomputable def Ld(a b:AV)(H:TH):Option (AV×TH):=eJ a λi=>eh b λj=>dR H i λxs=>ifO (decide (0<=j)&&decide (j<=100000)&&Nat.ble (xs.length * j.toNat) dn) (new H (.list (List.replicate j.toNat xs).flatten))
noncomputable def Me(a b:AV):Option AV:=eh b λj=>orO (eh a λi=>ifO (j != 0) (some (.int (i.fmod j)))) (sOi a λr k=>ifO (decide (j=6)) (some (.int (((r+k) % 6:Nat):Int))))
noncomputable def onI(a b:AV)(k:Int->Int->Option Int):Option AV:=eh a λi=>eh b λj=>(k i j).map .int
noncomputable def Gx(op:Operator):Option (Int->Int->Option Int):=match op with
 | .Sub=>some λi j=>some (i - j)
 | .Mult=>some λi j=>ifO (mh i&&mh j) (some (i * j))
 | .FloorDiv=>some λi j=>ifO (j != 0&&decide (j.natAbs<1073741824)) (some (i.fdiv j))
 | .Pow=>some λi j=>ifO (mh i&&(decide (0<=j)&&decide (j<=1000))) (some (i ^ j.toNat))
 | .LShift=>some λi j=>ifO (mh i&&(decide (0<=j)&&decide (j<=1000))) (some (i * 2 ^ j.toNat))
 | .RShift=>some λi j=>ifO (decide (0<=j)) (some (i.fdiv (2 ^ j.toNat)))
 | .BitAnd=>some λi j=>some (Builtin.bitAnd i j)
 | .BitXor=>some λi j=>some (Builtin.bitXor i j)
 |_=>none
noncomputable def ue(H:TH)(x:Option AV):Option (AV×TH):=opt x λv=>some (v,H)
noncomputable def p4(op:Operator)(a b:AV)(H:TH):Option (AV×TH):=
 ifB (decide (op = .Add)) (ue H (Fq a b)) (ifB (decide (op = .Mod)) (ue H (Me a b)) (orO (ue H (opt (Gx op) (onI a b))) (ifO (decide (op = .Mult)) (Ld a b H))))
structure Un (cx:Cx) (d:Nat) (H:List AO) (A:Around) (s:Shared) (ρ:Nat->Addr):Prop where
 g:Cok cx
 ok:Ok A d
 sr:SR cx ρ H s
theorem At.un{cx d c H A s ρ env}(z:At cx d c H A s ρ env):Un cx d H A s ρ:=⟨z.g,z.ok,z.sr⟩
noncomputable def Bin(cx:Cx)(d:Nat)(op:Value->Value->Sem Value)(a b:AV)(H:List AO)(r:AV)(H':List AO):Prop:=
 H.length<=H'.length/\∀{A s ρ U V} {Q:Value->Shared->Prop} {E},Un cx d H A s ρ->Is cx s ρ H.length a U->Is cx s ρ H.length b V->gy cx ρ H s r H' Q->wpAny (model pw cx.w) A (op U V) Q E s
section
variable {cx:Cx} {d:Nat} {H H':TH} {HL HL':List AO} {r a b v:AV} {t:Bool} {A:Around} {s:Shared} {ρ:Nat->Addr} {U V:Value} {E:Value->Shared->Prop} {x y:List Nat}
theorem L2.size{I xs}{Vs:Array Value}(l:L2 I xs Vs.toList):Vs.size=xs.length:=by rw[l.len,be]
theorem L2.empty{I xs}{Vs:Array Value}(l:L2 I xs Vs.toList):(!Vs.isEmpty)=!xs.isEmpty:=by rw[Array.isEmpty,l.size];cases xs<;>rfl
theorem Un.not_mods(u:Un cx d HL A s ρ){i:Nat}{o:AO}(hi:HL[i]? = some o)(al:dN o=true):(ρ i == sysModules)=false:=
 bC.mpr λe=>u.g.mods (by rw[<-e];exact u.sr.new i _ hi al)
theorem jc{α β γ:Type}{f:α->γ}{g:β->γ}{l:List α}{m:List β}(h:l.map f=m.map g):l.length=m.length:=by
 have:=aB List.length h
 rwa [aq,aq]at this
theorem emp{α β:Type}{l:List α}{m:List β}(h:l.length=m.length):(!l.isEmpty)=!m.isEmpty:=by cases l<;>cases m<;>first | rfl | cases h
noncomputable def Tst(cx:Cx)(d:Nat)(HL:List AO)(a:AV)(t:Bool):Prop:=
 ∀{A s ρ V} {Q:Bool->Shared->Prop} {E},Un cx d HL A s ρ->Is cx s ρ HL.length a V->(∀k,s.toks<=k->Q t { s with toks:=k})->wpAny (model pw cx.w) A (truthy V) Q E s
theorem Tst.list{i xs}(hx:HL[i]? = some (.list xs))(hl:Nat.ble xs.length dn=true):Tst cx d HL (.ref i) (!xs.isEmpty):=λu i W=>by
 obtain⟨e,_⟩:=i;refine dm (u.sr.own _ _ hx) λVs p l=>?_;rw[e];refine wpAny_truthy_list p.isList (by rw[l.size];exact fit hl) ?_;rw[l.empty];exact W _ (le2 _)
theorem Tst.dict{j es}(hx:HL[j]? = some (.dict es)\/HL[j]? = some (.bag es))(hl:Nat.ble es.length dn=true):Tst cx d HL (.ref j) (!es.isEmpty):=λ{A s ρ V Q E} u i W=>by
 obtain⟨e,_⟩:=i;have key:∀kvs,s.heap.DictOf (strKind pw cx.w) (ρ j) kvs->kvs.length=es.length->(ρ j == sysModules)=false->wpAny (model pw cx.w) A (truthy (.ref (ρ j))) Q E s:=λkvs hD hn hm=>by
  refine wpAny_truthy_dict hm hD (by rw[hn];exact fit hl) ?_;rw[emp hn];exact W _ (le2 _)
 rw[e];refine hx.elim (λhx=>?_) λhx=>?_
 ·refine dz (u.sr.own _ _ hx) λkvs hD l1 l2=>?_
  exact key kvs hD (jc l1) (u.not_mods hx rfl)
 ·refine fR (u.sr.own _ _ hx) λkvs' kvs pm hD l1 l2=>?_
  exact key kvs hD (pm.length_eq.symm.trans (jc l1)) (u.not_mods hx rfl)
theorem Tst.str{l}(hl:Nat.ble l.length dn=true):Tst cx d HL (.str l) (!l.isEmpty):=λu i W=>by
 obtain⟨t,e⟩:=i;rw[e];refine PySem.P.truthy_str (by rw[dO];exact Int.not_le.mpr (fit hl)) ?_;have:(((rs cx.σ l).length:Int) != 0)=!l.isEmpty:=by rw[dO];cases l<;>rfl
 rw[this];exact W _ (le2 _)
theorem Tst.int{i}:Tst cx d HL (.int i) (i != 0):=λu i W=>by refine dm i λt e _=>?_;rw[e];exact PySem.P.truthy_int (W _ (ad _))
theorem Tst.bool{b}:Tst cx d HL (.bool b) b:=λu i W=>by rw[show _=Value.bool _ from i];exact wpAny_truthy_bool (W _ (ad _))
theorem Tst.none:Tst cx d HL .none false:=λu i W=>by rw[show _=Value.none from i];exact truthy_none (W _ (ad _))
theorem Tst.of{a' t'}(e:a=a')(q:t'=t)(h:Tst cx d HL a' t'):Tst cx d HL a t:=by subst e;subst q;exact h
theorem lO(h:oW H a=some t):Tst cx d H.L a t:=
 orE h (λh=>kX h λb e h=>so h λq=>Tst.of e q Tst.bool) λh=>
 orE h (λh=>dP h λj e h=>orE h (λh=>dG h λxs hx h=>ifE h λhl h=>so h λq=>Tst.of e q (Tst.list (dA hx) hl)) λh=>
  orE h (λh=>gJ h λes hx h=>ifE h λhl h=>so h λq=>Tst.of e q (Tst.dict (.inl (dA hx)) hl)) λh=>qh h λes hx h=>ifE h λhl h=>so h λq=>Tst.of e q (Tst.dict (.inr (dA hx)) hl)) λh=>
 orE h (λh=>dM h λj e h=>so h λq=>Tst.of e q Tst.int) λh=>
 orE h (λh=>dL h λl e h=>ifE h λhl h=>so h λq=>Tst.of e q (Tst.str hl)) λh=>
 io h λe h=>so h λq=>Tst.of e q Tst.none
structure oc (cx:Cx) (op:Value->Value->Sem Value):Prop where
 i:∀{A:Around} {s:Shared} {a b:Int} {t u:Tok} {Q:Value->Shared->Prop} {E},Q (.int (a+b) s.toks) { s with toks:=s.toks+1}->wpAny (model pw cx.w) A (op (.int a t) (.int b u)) Q E s
 s:∀{A:Around} {s:Shared} {x y:Str} {t u:Tok} {Q:Value->Shared->Prop} {E},(if x.length == 0 then Made.val (.str y u) else if y.length == 0 then Made.val (.str x t) else Made.str (x++y)).post Q s->wpAny (model pw cx.w) A (op (.str x t) (.str y u)) Q E s
theorem Hm:oc cx (binaryOp .Add):=⟨PySem.P.add_int,PySem.P.add_str⟩
theorem Fu:oc cx (inplaceOp .Add):=⟨PySem.P.iadd_int,PySem.P.iadd_str⟩
theorem Bin.ii{op:Value->Value->Sem Value}{i j k:Int}(f:∀{A s E} {Q:Value->Shared->Prop} {t u},Q (.int k s.toks) { s with toks:=s.toks+1}->wpAny (model pw cx.w) A (op (.int i t) (.int j u)) Q E s):Bin cx d op (.int i) (.int j) HL (.int k) HL:=
 ⟨ad _,λu iU iV W=>by refine dm iU λt e _=>?_;refine dm iV λt' e' _=>?_;rw[e,e'];exact f (W.int u.g.toGood u.sr)⟩
theorem Bin.of{op a' b' r'}(e:a=a')(e':b=b')(q:r'=r)(h:Bin cx d op a' b' HL r' HL'):Bin cx d op a b HL r HL':=by subst e;subst e';subst q;exact h
theorem Bin.to{op r'}{K:TH}(h:some (r',K)=some (r,H'))(k:Bin cx d op a b HL r' K.L):Bin cx d op a b HL r H'.L:=sp (P:=λr (H':TH)=>Bin cx d op a b HL r H'.L) h k
variable {op:Value->Value->Sem Value}
theorem Bin.inu(O:oc cx op){i j:Int}:Bin cx d op (.int i) (.inu j) HL (.int (i+j)) HL:=
 ⟨ad _,λu iU iV W=>by refine dm iU λt e _=>?_;obtain⟨t',e'⟩:=iV;rw[e,e'];exact O.i (W.int u.g.toGood u.sr)⟩
theorem Bin.oi{p k:Nat}:Bin cx d (binaryOp .Mod) (.oi p k) (.int 6) HL (.int (((p+k) % 6:Nat):Int)) HL:=
 ⟨ad _,λu iU iV W=>by
  refine dx iU λi t e _ m=>?_;refine dm iV λt' e' _=>?_;rw[e,e'];refine mod_int' (by decide) ?_;rw[m];exact W.int u.g.toGood u.sr⟩
theorem pI(x y:List Nat):rq cx (x++y)=rq cx x++rq cx y:=by
 show Str.mk _=Str.mk (_++_);rw[List.flatMap_append,<-List.append_toArray];rfl
theorem iR(g:cx.Good)(l:List Nat):(rq cx l).length<=24 * l.length:=by
 show(l.flatMap (pc cx)).length<=_
 induction l with
 |nil=>exact ad _
 |cons c r ih=>
  rw[List.flatMap_cons,az,a0,Nat.mul_succ,bw];refine Nat.add_le_add ih ?_;unfold pc
  by_cases q:c<2000
  ·rw[aI q];exact bE (bj _)
  ·rw[aF q];exact g.opl _
theorem qV{l:List Nat}(h:nl l=true):rq cx l=rs cx.σ l:=by
 have:l.flatMap (pc cx)=l.map (ph cx.σ):=by
  induction l with
  |nil=>rfl
  |cons c r ih=>
   have h:=aa (p:=Nat.blt c 2000) (q:=nl r) h;rw[List.flatMap_cons,aM,ih h.2];unfold pc;rw[aI (jx h.1)];rfl
 unfold rq rs;rw[this]
theorem j3{h:Shared}{n}(q:lp a=some x)(i:Is cx h ρ n a U):∃t,U = .str (rq cx x) t:=
 orE q (λq=>dL q λl e q=>ifE q λf q=>so q λq1=>by rw[e]at i;obtain⟨t,e⟩:=i;exact⟨t,by rw[<-q1,qV f];exact e⟩) λq=>tK q λl e q=>so q λq1=>by rw[e,q1]at i;exact i
theorem sB(O:oc cx op){X Y Z:Str}{tx ty:Tok}{Q:Value->Shared->Prop}(hz:Z=X++Y)(hl:Z.length<=dn)(W:∀t k,s.toks<=k->Q (.str Z t) { s with toks:=k}):wpAny (model pw cx.w) A (op (.str X tx) (.str Y ty)) Q E s:=by
 have nil:∀{X:Str},X.length=0->X=⟨#[]⟩:=λ{X} h=>aB Str.mk (Array.eq_empty_of_size_eq_zero h);refine O.s ?_;cases hx:(X.length == 0) with
 |true=>
  have:Z=Y:=by rw[hz,nil (bW hx)];show Str.mk (#[]++Y.cps)=_;rw[Array.empty_append]
  rw[aI rfl,<-this];exact W _ _ (ad _)
 |false=>
  rw[aF ah];cases hy:(Y.length == 0) with
  |true=>
   have:Z=X:=by rw[hz,nil (bW hy)];show Str.mk (X.cps++#[])=_;rw[Array.append_empty]
   rw[aI rfl,<-this];exact W _ _ (ad _)
  |false=>rw[aF ah,<-hz];exact⟨ae hl dB,W _ _ (aC _)⟩
theorem EK(O:oc cx op)(h:KN a b=some r):Bin cx d op a b HL r HL:=
 dq h λx hx h=>dq h λy hy h=>ifE h λq h=>so h λe=>by
  subst e;refine⟨ad _,λu iU iV W=>?_⟩;obtain⟨t,e⟩:=j3 hx iU;obtain⟨t',e'⟩:=j3 hy iV;rw[e,e'];refine sB O (pI x y) (ae (iR u.g.toGood _) ?_) λt k hk=>W.now u.g.toGood u.sr hk ⟨_,rfl⟩;rw[az];exact ae (ct 24 (leb q)) (by decide)
theorem Hp(O:oc cx op)(q:(x++y).length<=dn):Bin cx d op (.str x) (.str y) HL (.str (x++y)) HL:=
 ⟨ad _,λu iU iV W=>by
  obtain⟨t,e⟩:=iU;obtain⟨t',e'⟩:=iV;rw[e,e'];exact sB O (xR _ x y) (by rw[dO];exact q) λt k hk=>W.now u.g.toGood u.sr hk ⟨_,rfl⟩⟩
theorem xm(O:oc cx op)(h:Fq a b=some r):Bin cx d op a b HL r HL:=
 orE h (λh=>dM h λi e h=>orE h (λh=>dM h λj e' h=>so h λq=>Bin.of e e' q (Bin.ii O.i)) λh=>GS h λj e' h=>so h λq=>Bin.of e e' q (Bin.inu O)) λh=>
 orE h (λh=>dL h λx e h=>dL h λy e' h=>ifE h λl h=>so h λq=>Bin.of e e' q (Hp O (by rw[az];exact leb l))) (EK O)
theorem Er(h:Me a b=some r):Bin cx d (binaryOp .Mod) a b HL r HL:=
 dM h λj e' h=>orE h (λh=>dM h λi e h=>ifE h λq h=>so h λz=>Bin.of e e' z (Bin.ii (mod_int' (bne_iff_ne.mp q))))
  λh=>MW h λp k e h=>ifE h λq h=>so h λz=>Bin.of e (e'.trans (aB AV.int (dec q))) z Bin.oi
theorem ma{i:Int}(h:mh i=true):i.natAbs<2 ^ 64:=dec h
theorem j6{op}{f:Int->Int->Option Int}(h:ue H (onI a b f)=some (r,H'))(k:∀{i j n},f i j=some n->Bin cx d (binaryOp op) (.int i) (.int j) H.L (.int n) H.L):Bin cx d (binaryOp op) a b H.L r H'.L:=
 dq h λv hv h=>dM hv λi e hv=>dM hv λj e' hv=>om hv λn hn q=>Bin.to h (Bin.of e e' q (k hn))
theorem up3{j:Int}(h:(decide (0<=j)&&decide (j<=1000))=true):0<=j/\j<=1000000:=⟨dec (aa h).1,Int.le_trans (dec (aa h).2) (by decide)⟩
theorem AW{op:Operator}(h:ue H (opt (Gx op) (onI a b))=some (r,H')):Bin cx d (binaryOp op) a b H.L r H'.L:=by
 cases op with
 |Sub=>exact j6 (f:=λi j=>some (i - j)) h λq=>so q λq=>q▸Bin.ii PySem.P.sub_int
 |Mult=>exact j6 (f:=λi j=>ifO (mh i&&mh j) (some (i * j))) h λq=>ifE q λc q=>so q λq=>q▸Bin.ii λW=>PySem.P.mul_int W (IntMulOk.of_right (intBits_le_64 (by have:=ma (aa c).2;omega) (by have:=ma (aa c).2;omega)))
 |FloorDiv=>exact j6 (f:=λi j=>ifO (j != 0&&decide (j.natAbs<1073741824)) (some (i.fdiv j))) h λq=>ifE q λc q=>so q λq=>q▸Bin.ii λW=>floordiv_int (bne_iff_ne.mp (aa c).1) W (.inl (PyProof.noPylong_small (dec (aa c).2)))
 |Pow=>exact j6 (f:=λi j=>ifO (mh i&&(decide (0<=j)&&decide (j<=1000))) (some (i ^ j.toNat))) h λq=>ifE q λc q=>so q λq=>q▸Bin.ii λW=>pow_int_small (up3 (aa c).2).1 (up3 (aa c).2).2 (ma (aa c).1) W
 |LShift=>exact j6 (f:=λi j=>ifO (mh i&&(decide (0<=j)&&decide (j<=1000))) (some (i * 2 ^ j.toNat))) h λq=>ifE q λc q=>so q λq=>q▸Bin.ii λW=>lshift_int_small (up3 (aa c).2).1 (up3 (aa c).2).2 (ma (aa c).1) W
 |RShift=>exact j6 (f:=λi j=>ifO (decide (0<=j)) (some (i.fdiv (2 ^ j.toNat)))) h λq=>ifE q λc q=>so q λq=>q▸Bin.ii λW=>rshift_int (dec c) W
 |BitAnd=>exact j6 (f:=λi j=>some (Builtin.bitAnd i j)) h λq=>so q λq=>q▸Bin.ii and_int
 |BitXor=>exact j6 (f:=λi j=>some (Builtin.bitXor i j)) h λq=>so q λq=>q▸Bin.ii xor_int
 |_=>exact nn h
theorem Cd(a:Int)(t:Tok)(l:Addr)(items:Array Value)(n:Nat)(dd:Option Addr)(sl:Array (Option Value)):
  Meets (Builtin.«int.__rmul__» ⟨[.int a t,.ref l],[]⟩) (λ_ R s=>s.heap.get? l=some { cls:=.type "list",dict:=dd,data:=.seq items n,slots:=sl}/\R (.ok (.ret Value.notImplemented)) s):=
 .of_wp λprog w A R s h=>by obtain⟨hp,g,d,tk,os⟩:=s;obtain⟨hl,h⟩:=h;wp_walk;exact⟨_,rfl,h⟩
theorem Eo(l:Addr)(items:Array Value)(n:Nat)(dd:Option Addr)(sl:Array (Option Value))(x:Int)(u:Tok)(hc0:¬(!Builtin.List.listFitsIndex x)=true)(hc1:¬items.size * x.toNat > (2 ^ 63 - 1) / 8)(hc2:¬Builtin.List.listTooLong (items.size * x.toNat)=true):
  Meets (Builtin.«list.__mul__» ⟨[.ref l,.int x u],[]⟩) (λ_ R s=>s.heap.get? l=some { cls:=.type "list",dict:=dd,data:=.seq items n,slots:=sl}/\R (.ok (.ret (Value.ref s.heap.objs.size))) { s with heap:=s.heap.push { cls:=Value.type "list",data:=Data.seq (List.foldl (λx1 x2=>x1++x2) #[] (List.replicate (if items.isEmpty=true then 0 else x.toNat) items))},toks:=s.toks}):=
 .of_wp λprog w A R s h=>by
  obtain⟨hp,g,d,tk,os⟩:=s;obtain⟨hl,h⟩:=h;have hsz:=AutoListH.joined_fits hc2;wp_walk;refine wpAny_ite_false (bM (bJ.mpr hsz)) ?_;wp_walk;exact⟨_,rfl,h⟩
theorem L2.rep{I xs Vs}(l:L2 I xs Vs):∀k:Nat,L2 I (List.replicate k xs).flatten (List.replicate k Vs).flatten
 |0=>rfl
 |k+1=>by rw[List.replicate_succ,List.replicate_succ,List.flatten_cons,List.flatten_cons];exact l.app (L2.rep l k)
theorem pK(Vs:Array Value):∀(k:Nat) (acc:Array Value),(List.foldl (λx1 x2=>x1++x2) acc (List.replicate k Vs)).toList=acc.toList++(List.replicate k Vs.toList).flatten
 |0,acc=>(aU _).symm
 |k+1,acc=>by rw[List.replicate_succ,List.foldl_cons,pK Vs k,List.replicate_succ,List.flatten_cons,Array.toList_append,aZ]
theorem xD(Vs:Array Value)(k:Nat):(List.foldl (λx1 x2=>x1++x2) #[] (List.replicate (if Vs.isEmpty=true then 0 else k) Vs)).toList=(List.replicate k Vs.toList).flatten:=by
 rw[pK];cases z:Vs.isEmpty with
 |true=>
  rw[aI rfl,Array.eq_empty_of_size_eq_zero (de z)];exact(List.flatten_replicate_nil).symm
 |false=>rw[aF ah];rfl
theorem Lh{j:Int}(h0:0<=j)(h1:j<=100000):¬(!Builtin.List.listFitsIndex j)=true:=by simp[Builtin.List.listFitsIndex];omega
theorem LM{n:Nat}(h:n<=dn):¬Builtin.List.listTooLong n=true:=by
 have:n<sizeLine:=aJ h (by decide);simp[Builtin.List.listTooLong];omega
theorem kz{h:Shared}{n xs}{Vs:Array Value}{a:Addr}{ep:Nat}(e:h.heap.get? a=some (EV Vs ep))(l:IsL cx h ρ n xs Vs.toList):OR cx h ρ n a (.list xs):=⟨Vs,⟨_,ep,e,rfl,rfl,rfl⟩,l⟩
theorem Bin.mul{i:Nat}{j:Int}{xs}(hx:HL[i]? = some (.list xs))(q:(decide (0<=j)&&decide (j<=100000)&&Nat.ble (xs.length * j.toNat) dn)=true):
  Bin cx d (binaryOp .Mult) (.ref i) (.int j) HL (.ref HL.length) (HL++[.list (List.replicate j.toNat xs).flatten]):=
 ⟨eQ _ _,λ{A s ρ U V Q E} u iU iV W=>by
  obtain⟨e,_⟩:=iU;refine dm iV λt e' _=>?_;subst e;subst e';refine dm (u.sr.own _ _ hx) λVs OA l=>?_;refine fR OA λOC ep hl hc _ hdt=>?_;obtain⟨cl,dd,dt,sl⟩:=OC;simp only at hc hdt;subst hc hdt;have q0:=dec (aa (aa q).1).1;have q1:=dec (aa (aa q).1).2;have hb:Vs.size * j.toNat<=dn:=by rw[l.size];exact leb (aa q).2
  refine wpAny_binaryOp_repeat_ref (T:="list") (U:="int") (by decide) ⟨_,hl,rfl⟩ (λs'=>typeIs_int s' _ _) noFill_list_mul F.fills_int_mul F.slot_int_rmul repeat_list F.slot_int_index.lookup
   (cA F.slot_int_rmul (typeIs_int s _ _) F.entry_int_rmul (F.args_int_rmul_2 _ _) (Cd _ _ _ Vs ep dd sl)
    ⟨hl,rfl,⟨_,hl,rfl⟩,cA F.slot_list_mul ⟨_,hl,rfl⟩ F.entry_list_mul (F.args_list_mul_2 _ _)
     (Eo _ Vs ep dd sl _ _ (Lh q0 q1) (bJ.mpr (ae hb (by decide))) (LM hb))
     ⟨hl,?_⟩⟩)
  refine W.mk u.g.toGood u.sr (ad _) λE'=>kz (aw _ rfl) ?_;rw[xD];exact(IsL.ext u.g.toGood E' (aC _) l).rep j.toNat⟩
theorem El(h:Ld a b H=some (r,H')):Bin cx d (binaryOp .Mult) a b H.L r H'.L:=
 dP h λi e h=>dM h λj e' h=>dG h λxs hx h=>ifE h λq h=>kI h λer eH=>Bin.of e e' er.symm (eH▸Bin.mul (dA hx) q)
theorem Co{op:Operator}(h:p4 op a b H=some (r,H')):Bin cx d (binaryOp op) a b H.L r H'.L:=
 gC h (λc h=>dq h λv hv h=>(dec c:op = .Add)▸Bin.to h (xm Hm hv)) λ_ h=>
 gC h (λc h=>dq h λv hv h=>(dec c:op = .Mod)▸Bin.to h (Er hv)) λ_ h=>
 orE h AW λh=>ifE h λc h=>(dec c:op = .Mult)▸El h
end
noncomputable def LG(x y:Option Bool):Option Bool:=opt x λp=>opt y λq=>some (p&&q)
noncomputable def rB(a b:AV):Option Bool:=
 orO (eh a λi=>eh b λj=>some (i == j)) (orO (dZ a λx=>dZ b λy=>eM x y) (orO (m5 a λp=>m5 b λq=>ifO (p == q) (some true)) (jB a (jB b (some true)))))
noncomputable def LL(a b:AV):Option Bool:=
 orO (eh a λi=>eh b λj=>some (i == j)) (orO (dZ a λx=>dZ b λy=>eM x y) (vB a λx=>vB b λy=>ifO (decide (x=y)) (some true)))
noncomputable def vf(xs:List AV):List AV->Option Bool:=List.rec (motive:=λ_=>List AV->Option Bool)
 (λys=>some ys.isEmpty) (λa _ ih ys=>List.rec (motive:=λ_=>Option Bool) (some false) (λb y _=>LG (rB a b) (ih y)) ys) xs
noncomputable def inL(x:AV)(xs:List AV):Option Bool:=List.rec (motive:=λ_=>Option Bool) (some false) (λy _ ih=>opt (rB y x) λp=>opt ih λq=>some (p || q)) xs
noncomputable def sy(k:List Nat)(es:List (List Nat×AV)):Option (Option AV):=List.rec (motive:=λ_=>Option (Option AV)) (some none) (λp _ ih=>tri (eM p.1 k) (some (some p.2)) ih none) es
noncomputable def put(k:List Nat)(v:AV)(es:List (List Nat×AV)):Option (List (List Nat×AV)):=List.rec (motive:=λ_=>Option (List (List Nat×AV)))
 (some [(k,v)]) (λp r ih=>tri (eM p.1 k) (some ((p.1,v)::r)) (ih.map (p :: ·)) none) es
noncomputable def inS(k:List Nat)(ks:List (List Nat)):Option Bool:=List.rec (motive:=λ_=>Option Bool) (some false) (λx _ ih=>tri (eM x k) (some true) ih none) ks
noncomputable def ltI(a b:AV):Option Bool:=orO (eh a λi=>eh b λj=>some (decide (i<j))) (dZ a λx=>dZ b λy=>gu x y)
noncomputable def wP(a:AV):Option (Option Bool):=orO (m5 a λb=>some (some b)) (jB a (some none))
noncomputable def u1(a:AV):Bool:=match a with
 | .int _=>true
 | .str _=>true
 | .ref _=>true
 | .st _=>true
 | .tup _=>true
 |_=>false
noncomputable def isB(a b:AV):Option Bool:=
 orO (opt (wP a) λp=>orO (opt (wP b) λq=>some (decide (p=q))) (ifO (u1 b) (some false))) (opt (wP b) λq=>ifO (u1 a) (some false))
noncomputable def eqB(H:TH)(a b:AV):Option Bool:=orO (eJ a λi=>eJ b λj=>dR H i λxs=>dR H j λys=>vf xs ys) (LL a b)
noncomputable def uV(H:TH)(x c:AV):Option Bool:=
 orO (eJ c λi=>orO (dR H i λxs=>inL x xs) (dZ x λk=>orO (hK H i λes=>opt (sy k es) λo=>some o.isSome) (DD H i λks=>inS k ks)))
  (dZ c λt=>dZ x λk=>lw k t)
noncomputable def iN(x:Option Bool):Option Bool:=opt x λt=>some !t
noncomputable def zK(op:CmpOp)(a b:AV)(H:TH):Option Bool:=match op with
 | .Eq=>eqB H a b
 | .NotEq=>iN (eqB H a b)
 | .Lt=>ltI a b
 | .GtE=>iN (ltI a b)
 | .Is=>isB a b
 | .IsNot=>iN (isB a b)
 | .In=>uV H a b
 | .NotIn=>iN (uV H a b)
 |_=>none
noncomputable def Cmp(cx:Cx)(d:Nat)(op:CmpOp)(a b:AV)(HL:List AO)(t:Bool):Prop:=
 ∀{A s ρ U V} {Q:Value->Shared->Prop} {E},Un cx d HL A s ρ->Is cx s ρ HL.length a U->Is cx s ρ HL.length b V->(∀k,s.toks<=k->Q (.bool t) { s with toks:=k})->wpAny (model pw cx.w) A (compareOp op U V) Q E s
noncomputable def Eqs(cx:Cx)(d:Nat)(a b:AV)(HL:List AO)(t:Bool):Prop:=Cmp cx d .Eq a b HL t/\Cmp cx d .NotEq a b HL (!t)
section
open SeqAt PySem
variable {cx:Cx} {d:Nat} {H:TH} {HL:List AO} {r a b v a' b':AV} {t t':Bool} {A:Around} {s h:Shared} {ρ:Nat->Addr} {n:Nat} {U V X:Value} {E:Value->Shared->Prop} {x y:List Nat} {σ:eO}
noncomputable def jH(U V:Value):Bool:=match U,V with
 | .int i _,.int j _=>i == j
 | .str x _,.str y _=>x == y
 | .bool p,.bool q=>p == q
 | .none,.none=>true
 |_,_=>false
noncomputable def EqV(cx:Cx)(a b:AV)(t:Bool):Prop:=∀{h ρ n U V},Is cx h ρ n a U->Is cx h ρ n b V->jH U V=t/\∀(A:Around) (s:Shared),EqAt A s U V t
theorem EqV.of(e:a=a')(e':b=b')(q:t'=t)(k:EqV cx a' b' t'):EqV cx a b t:=by subst e;subst e';subst q;exact k
theorem EqV.int{i j:Int}:EqV cx (.int i) (.int j) (i == j):=λiU iV=>by
 refine dm iU λt e _=>?_;refine dm iV λt' e' _=>?_;rw[e,e'];exact⟨rfl,λA s=>(MeetsSeq.EqGives.int _ _ _ _).at A s⟩
theorem EqV.str(q:eM x y=some t):EqV cx (.str x) (.str y) t:=λiU iV=>by
 obtain⟨t,e⟩:=iU;obtain⟨t',e'⟩:=iV;rw[e,e',<-fF cx.σ q];exact⟨rfl,λA s=>(eqGives_str _ _ _ _).at A s⟩
theorem EqV.bool{p:Bool}:EqV cx (.bool p) (.bool p) true:=λiU iV=>by
 rw[show _=Value.bool p from iU,show _=Value.bool p from iV];exact⟨beq_self_eq_true p,λA s=>EqAt.same _⟩
theorem EqV.none:EqV cx .none .none true:=λiU iV=>by
 rw[show _=Value.none from iU,show _=Value.none from iV];exact⟨rfl,λA s=>EqAt.same _⟩
theorem kA(h:rB a b=some t):EqV cx a b t:=
 orE h (λh=>dM h λi e h=>dM h λj e' h=>so h λq=>EqV.of e e' q EqV.int) λh=>
 orE h (λh=>dL h λx e h=>dL h λy e' h=>EqV.of e e' rfl (EqV.str h)) λh=>
 orE h (λh=>kX h λp e h=>kX h λq e' h=>ifE h λc h=>so h λz=>EqV.of e (e'.trans (aB AV.bool (bW c).symm)) z EqV.bool) λh=>
 io h λe h=>io h λe' h=>so h λq=>EqV.of e e' q EqV.none
theorem Eqs.of(e:a=a')(e':b=b')(q:t'=t)(k:Eqs cx d a' b' HL t'):Eqs cx d a b HL t:=by subst e;subst e';subst q;exact k
theorem Eqs.int{i j:Int}:Eqs cx d (.int i) (.int j) HL (i == j):=
 ⟨λu iU iV W=>by refine dm iU λt e _=>?_;refine dm iV λt' e' _=>?_;rw[e,e'];exact PySem.P.eq_int (W _ (ad _)),
 λu iU iV W=>by refine dm iU λt e _=>?_;refine dm iV λt' e' _=>?_;rw[e,e'];exact PySem.P.ne_int (W _ (ad _))⟩
theorem Eqs.txt{a b:AV}{X Y:Str}(iX:∀{h ρ n U},Is cx h ρ n a U->∃t,U = .str X t)(iY:∀{h ρ n U},Is cx h ρ n b U->∃t,U = .str Y t):Eqs cx d a b HL (X == Y):=
 ⟨λu iU iV W=>by obtain⟨t,e⟩:=iX iU;obtain⟨t',e'⟩:=iY iV;rw[e,e'];exact PyProof.Rows.eq_str (W _ (ad _)),
 λu iU iV W=>by obtain⟨t,e⟩:=iX iU;obtain⟨t',e'⟩:=iY iV;rw[e,e'];exact PyProof.Rows.ne_str (W _ (ad _))⟩
theorem EI(h:LL a b=some t):Eqs cx d a b HL t:=
 orE h (λh=>dM h λi e h=>dM h λj e' h=>so h λq=>Eqs.of e e' q Eqs.int) λh=>
 orE h (λh=>dL h λx e h=>dL h λy e' h=>Eqs.of e e' (fF cx.σ h) (Eqs.txt id id)) λh=>
 tK h λx e h=>tK h λy e' h=>ifE h λc h=>so h λq=>Eqs.of e (e'.trans (aB AV.rop (dec c).symm)) ((beq_self_eq_true (rq cx x)).trans q) (Eqs.txt id id)
theorem sx:∀{xs ys:List AV} {t:Bool},vf xs ys=some t->xs.length≠ys.length->t=false
 | [],[],t,hh,hn=>absurd rfl hn
 | [],y::ys,t,hh,hn=>(ak hh).symm
 |x::xs,[],t,hh,hn=>(ak hh).symm
 |x::xs,y::ys,t,hh,hn=>dq hh λp h1 h2=>dq h2 λq h3 h4=>so h4 λe=>by rw[<-e,sx h3 λe=>hn (aB Nat.succ e),Bool.and_false]
theorem vS(A:Around)(s:Shared):∀{xs ys:List AV} {Us Vs:List Value} {t:Bool},vf xs ys=some t->xs.length=ys.length->IsL cx h ρ n xs Us->IsL cx h ρ n ys Vs->
  ∃e:Nat->Bool,(∀j (h1:j<Us.length) (h2:j<Vs.length),EqAt A s Us[j] Vs[j] (e j))/\(List.range Us.length).all e=t
 | [],[],Us,Vs,t,hh,_,iU,iV=>by
  rw[show Us=[] from iU];exact⟨λ_=>true,λj h1=>absurd h1 (Nat.not_lt_zero _),ak hh⟩
 |x::xs,y::ys,Us,Vs,t,hh,hn,iU,iV=>by
  refine dx iU λU Us OA i1 i2=>?_;subst OA;refine dx iV λV Vs OC j1 j2=>?_;subst OC;refine dq hh λp h1 h2=>dq h2 λq h3 h4=>so h4 λz=>?_;refine dm (vS A s h3 (Nat.succ.inj hn) i2 j2) λe he ha=>?_;refine⟨λj=>Nat.rec p (λj _=>e j) j,λj q1 q2=>?_,?_⟩
  ·cases j with
   |zero=>exact(kA h1 i1 j1).2 A s
   |succ j=>exact he j (Nat.lt_of_succ_lt_succ q1) (Nat.lt_of_succ_lt_succ q2)
  ·rw[a0,List.range_succ_eq_map,List.all_cons,List.all_map,<-z,<-ha];rfl
theorem zj(A:Around)(s:Shared)(iX:Is cx h ρ n a X):∀{xs:List AV} {Us:List Value} {t:Bool},inL a xs=some t->IsL cx h ρ n xs Us->
  (∀y,y∈Us->EqAt A s y X (jH y X))/\Us.any (jH · X)=t
 | [],Us,t,hh,iU=>by
  rw[show Us=[] from iU];exact⟨λy hy=>(nomatch hy),ak hh⟩
 |y::xs,Us,t,hh,iU=>by
  refine dx iU λU Us OA i1 i2=>?_;subst OA;refine dq hh λp h1 h2=>dq h2 λq h3 h4=>so h4 λz=>?_;have ih:=zj A s iX h3 i2;have hv:=kA h1 i1 iX;refine⟨λy hy=>(aH.mp hy).elim (λe=>?_) (ih.1 y),by rw[List.any_cons,hv.1,ih.2,z]⟩;rw[e,hv.1];exact hv.2 A s
theorem Eqs.lists{i j:Nat}{xs ys}(hx:HL[i]? = some (.list xs))(hy:HL[j]? = some (.list ys))(q:vf xs ys=some t):Eqs cx d (.ref i) (.ref j) HL t:=by
 have key:∀{A s ρ U V} {Q:Value->Shared->Prop} {E},Un cx d HL A s ρ->Is cx s ρ HL.length (.ref i) U->Is cx s ρ HL.length (.ref j) V->
   (∀k:Bool,Q (.bool (if k then t else !t)) s->wpAny (model pw cx.w) A (compareOp (if k then .Eq else .NotEq) U V) Q E s):=by
  intro A s ρ U V Q E u iU iV k W;rw[iU.1,iV.1];refine dm (u.sr.own _ _ hx) λUs pU lU=>?_;refine dm (u.sr.own _ _ hy) λVs pV lV=>?_;have s1:=lU.size;have s2:=lV.size
  by_cases hl:xs.length=ys.length
  ·refine dm (vS A.in1 s q hl lU lV) λe he ha=>?_
   rw[<-ha]at W;cases k
   ·exact RcNeAt.lists (e:=e) pU.isList pV.isList (s1.trans (hl.trans s2.symm)) u.ok.units (λj h1 h2=>he j h1 h2) pw cx.w E Q W
   ·exact eq_listAt (e:=e) pU.isList pV.isList (s1.trans (hl.trans s2.symm)) u.ok.units (λj h1 h2=>he j h1 h2) W
  ·rw[sx q hl]at W
   have hn:(Us.size != Vs.size)=true:=bne_iff_ne.mpr (by rw[s1,s2];exact hl);cases k
   ·exact RcNeAt.lists_lengths pU.isList pV.isList hn u.ok.units pw cx.w E Q W
   ·exact eq_list_lengthsAt pU.isList pV.isList hn u.ok.units W
 exact⟨λu iU iV W=>key u iU iV true (W _ (ad _)),λu iU iV W=>key u iU iV false (W _ (ad _))⟩
theorem Cw(h:eqB H a b=some t):Eqs cx d a b H.L t:=
 orE h (λh=>dP h λi e h=>dP h λj e' h=>dG h λxs hx h=>dG h λys hy h=>Eqs.of e e' rfl (Eqs.lists (dA hx) (dA hy) h)) EI
noncomputable def DR(cx:Cx)(h:Shared)(ρ:Nat->Addr)(n:Nat)(es:List (List Nat×AV))(kvs:List (Str×Value)):Prop:=
 kvs.map (·.1)=es.map (λp=>rs cx.σ p.1)/\IsL cx h ρ n (es.map (·.2)) (kvs.map (·.2))
theorem DR.nil{kvs}(R:DR cx h ρ n [] kvs):kvs=[]:=List.map_eq_nil_iff.mp R.1
theorem DR.uncons{es kvs}(R:DR cx h ρ n ((x,v)::es) kvs):∃V r,kvs=(rs cx.σ x,V)::r/\Is cx h ρ n v V/\DR cx h ρ n es r:=by
 obtain⟨h1,h2⟩:=R;cases kvs with
 |nil=>cases h1
 |cons p r=>
  refine dx h2 λW Ws e i1 i2=>?_;have h1:=List.cons.inj h1;have e:=List.cons.inj e;exact⟨W,r,aB (· :: r) (Prod.ext h1.1 e.1),i1,h1.2,e.2▸i2⟩
theorem DR.cons{es V kvs}(i:Is cx h ρ n v V)(R:DR cx h ρ n es kvs):DR cx h ρ n ((x,v)::es) ((rs cx.σ x,V)::kvs):=⟨aB _ R.1,V,_,rfl,i,R.2⟩
theorem fe{x:Str}{V:Value}{r:List (Str×Value)}{k:Str}:valueAt ((x,V)::r) k=if x=k then some V else valueAt r k:=by
 by_cases q:x=k<;>simp[valueAt,q]
theorem lq{k:List Nat}:∀{es:List (List Nat×AV)} {kvs:List (Str×Value)} {o:Option AV},sy k es=some o->DR cx h ρ n es kvs->Op2 (Is cx h ρ n) o (valueAt kvs (rs cx.σ k))
 | [],kvs,o,hh,R=>by
  rw[R.nil,<-ak hh];exact rfl
 |(x,v)::r,kvs,o,hh,R=>by
  refine dx R.uncons λV r' OA i R'=>?_;subst OA;rw[fe];exact mI hh (λq e=>by rw[aI (bW (fF cx.σ q)),<-ak e];exact⟨V,rfl,i⟩) (λq e=>by rw[aF (bC.mp (fF cx.σ q))];exact lq e R') nn
theorem ry{l l':List (Str×Value)}{k:Str}(p:l.Perm l')(hn:(l.map (·.1)).Nodup):valueAt l k=valueAt l' k:=by
 induction p with
 |nil=>rfl
 |cons x _ ih=>rw[fe,fe,ih (bu.mp hn).2]
 |swap x y l=>
  rw[fe,fe,fe,fe];have:y.1≠x.1:=λe=>(bu.mp hn).1 (show y.1∈List.map _ (x::l) by rw[e];exact List.mem_cons_self)
  by_cases h1:y.1=k
  ·rw[aI h1,aF λz=>this (h1.trans z.symm),aI h1]
  ·rw[aF h1,aF h1]
 |trans p q ih1 ih2=>rw[ih1 hn,ih2 ((p.map _).nodup_iff.mp hn)]
theorem rH(σ:eO){k:List Nat}:∀{ks:List (List Nat)} {t:Bool},inS k ks=some t->decide (rs σ k∈ks.map (rs σ))=t
 | [],t,hh=>(bM λh=>(nomatch h)).trans (ak hh)
 |x::r,t,hh=>by
  rw[aM,bT,aR,aH];exact mI hh (λq e=>⟨λ_=>(ak e).symm,λ_=>.inl (bW (fF σ q)).symm⟩)
   (λq e=>by rw[<-rH σ e,aR];exact or_iff_right λz=>bC.mp (fF σ q) z.symm) nn
noncomputable def Mem(cx:Cx)(d:Nat)(a b:AV)(HL:List AO)(t:Bool):Prop:=Cmp cx d .In a b HL t/\Cmp cx d .NotIn a b HL (!t)
theorem Mem.of(e:a=a')(e':b=b')(q:t'=t)(k:Mem cx d a' b' HL t'):Mem cx d a b HL t:=by subst e;subst e';subst q;exact k
theorem Mem.list{i xs}(hx:HL[i]? = some (.list xs))(q:inL a xs=some t):Mem cx d a (.ref i) HL t:=by
 have key:∀{s ρ U} (A:Around),Un cx d HL A s ρ->Is cx s ρ HL.length a U->∃Vs:Array Value,s.heap.IsList (ρ i) Vs/\(∀y,y∈Vs->EqAt A.in1 s y U (jH y U))/\Vs.any (jH · U)=t:=λ{s ρ U} A u iU=>by
  refine dm (u.sr.own _ _ hx) λVs pV lV=>?_;have k:=zj A.in1 s iU q lV;exact⟨Vs,pV.isList,λy hy=>k.1 y (Array.mem_toList_iff.mpr hy),by rw[<-k.2,Array.any_toList]⟩
 refine⟨λ{A s ρ U V Q E} u iU iV W=>?_,λ{A s ρ U V Q E} u iU iV W=>?_⟩
 ·refine dz (key A u iU) λVs hV he ha=>?_
  rw[iV.1];exact in_listAt (jH · U) hV he (by rw[ha];exact W _ (ad _))
 ·refine dz (key A u iU) λVs hV he ha=>?_
  rw[iV.1];exact notIn_listAt (jH · U) hV he (by rw[ha];exact W _ (ad _))
theorem Op2.isSome{I}{v:Option AV}{y:Option Value}(o:Op2 I v y):y.isSome=v.isSome:=by
 cases v with | none=>rw[show y=none from o];rfl | some v=>refine dm o λV e _=>?_;rw[e];rfl
theorem Mem.dict{i es o}(hx:HL[i]? = some (.dict es))(q:sy x es=some o):Mem cx d (.str x) (.ref i) HL o.isSome:=by
 refine⟨λ{A s ρ U V Q E} u iU iV W=>?_,λ{A s ρ U V Q E} u iU iV W=>?_⟩<;>
 ·obtain⟨t,e⟩:=iU
  refine dm (u.sr.own _ _ hx) λkvs hD R=>?_;have:=(lq q R).isSome;rw[e,iV.1]
  first
   |exact wpAny_in_of (knd:=strKind pw cx.w) (k:=rs cx.σ x) (ce _ _ _ _) (u.not_mods hx rfl) hD.mapOf (by rw[this];exact W _ (aC _))
   |exact wpAny_notIn_of (knd:=strKind pw cx.w) (k:=rs cx.σ x) (ce _ _ _ _) (u.not_mods hx rfl) hD.mapOf (by rw[this];exact W _ (aC _))
theorem Mem.set{i ks}(hx:HL[i]? = some (.set ks))(q:inS x ks=some t):Mem cx d (.str x) (.ref i) HL t:=by
 refine⟨λ{A s ρ U V Q E} u iU iV W=>?_,λ{A s ρ U V Q E} u iU iV W=>?_⟩<;>
 ·obtain⟨t,e⟩:=iU
  refine dm (u.sr.own _ _ hx) λm hS _=>?_;have:=rH cx.σ q;rw[e,iV.1]
  first
   |exact wpAny_inSet_of (knd:=strKind pw cx.w) (k:=rs cx.σ x) (ce _ _ _ _) rfl hS (by rw[this];exact W _ (aC _))
   |exact wpAny_notInSet_of (knd:=strKind pw cx.w) (k:=rs cx.σ x) (ce _ _ _ _) rfl hS (by rw[this];exact W _ (aC _))
theorem Mem.str(q:lw x y=some t):Mem cx d (.str x) (.str y) HL t:=by
 have:=Cs cx.σ q;exact⟨λu iU iV W=>by obtain⟨t,e⟩:=iU;obtain⟨t',e'⟩:=iV;rw[e,e'];exact PyProof.Rows.in_str (by rw[this];exact W _ (ad _)),
  λu iU iV W=>by obtain⟨t,e⟩:=iU;obtain⟨t',e'⟩:=iV;rw[e,e'];exact PyProof.Rows.notIn_str (by rw[this];exact W _ (ad _))⟩
theorem wM(h:uV H a b=some t):Mem cx d a b H.L t:=
 orE h (λh=>dP h λi e' h=>orE h (λh=>dG h λxs hx h=>Mem.of rfl e' rfl (Mem.list (dA hx) h)) λh=>dL h λk e h=>
  orE h (λh=>gJ h λes hx h=>dq h λo ho h=>so h λq=>Mem.of e e' q (Mem.dict (dA hx) ho)) λh=>C3 h λks hx h=>Mem.of e e' rfl (Mem.set (dA hx) h)) λh=>
 dL h λt e' h=>dL h λk e h=>Mem.of e e' rfl (Mem.str h)
theorem Cmp.of{op}(e:a=a')(e':b=b')(q:t'=t)(k:Cmp cx d op a' b' HL t'):Cmp cx d op a b HL t:=by subst e;subst e';subst q;exact k
theorem Cmp.lt_int{i j:Int}:Cmp cx d .Lt (.int i) (.int j) HL (decide (i<j)):=λu iU iV W=>by
 refine dm iU λt e _=>?_;refine dm iV λt' e' _=>?_;rw[e,e'];exact PySem.P.lt_int (W _ (ad _))
theorem Cmp.ge_int{i j:Int}:Cmp cx d .GtE (.int i) (.int j) HL (!decide (i<j)):=λu iU iV W=>by
 refine dm iU λt e _=>?_;refine dm iV λt' e' _=>?_;rw[e,e'];refine PySem.P.ge_int ?_;have:decide (i ≥ j)=!decide (i<j):=by rw[bT,cM,aR,decide_eq_false_iff_not];exact Int.not_lt.symm
 rw[this];exact W _ (ad _)
theorem Cmp.lt_str(q:gu x y=some t):Cmp cx d .Lt (.str x) (.str y) HL t:=λu iU iV W=>by
 obtain⟨t,e⟩:=iU;obtain⟨t',e'⟩:=iV;rw[e,e'];refine PyProof.Rows.lt_str ?_;have:=jM cx.σ q;rw[this];exact W _ (ad _)
theorem Cmp.ge_str(q:gu x y=some t):Cmp cx d .GtE (.str x) (.str y) HL (!t):=λu iU iV W=>by
 obtain⟨t,e⟩:=iU;obtain⟨t',e'⟩:=iV;rw[e,e'];refine PySem.P.ge_str ?_;have:=jM cx.σ q;rw[this];exact W _ (ad _)
theorem MF(h:ltI a b=some t):Cmp cx d .Lt a b HL t:=
 orE h (λh=>dM h λi e h=>dM h λj e' h=>so h λq=>Cmp.of e e' q Cmp.lt_int) λh=>dL h λx e h=>dL h λy e' h=>Cmp.of e e' rfl (Cmp.lt_str h)
theorem Ko(h:ltI a b=some t):Cmp cx d .GtE a b HL (!t):=
 orE h (λh=>dM h λi e h=>dM h λj e' h=>so h λq=>Cmp.of e e' (aB _ q) Cmp.ge_int) λh=>dL h λx e h=>dL h λy e' h=>Cmp.of e e' rfl (Cmp.ge_str h)
noncomputable def fU(p:Option Bool):Value:=Option.rec .none (λb=>.bool b) p
theorem oO{p}(q:wP a=some p)(i:Is cx h ρ n a U):U=fU p:=
 orE q (λq=>kX q λb e q=>so q λz=>by rw[e]at i;rw[<-z];exact i) λq=>io q λe q=>so q λz=>by rw[e]at i;rw[<-z];exact i
theorem Ar(p q:Option Bool):plainIs (fU p) (fU q)=true/\(fU p == fU q)=decide (p=q):=by
 cases p with
 |none=>cases q with | none=>exact⟨rfl,rfl⟩ | some b=>exact⟨rfl,rfl⟩
 |some a=>cases q with | none=>exact⟨rfl,rfl⟩ | some b=>cases a<;>cases b<;>exact⟨rfl,rfl⟩
theorem p5(c:u1 a=true)(i:Is cx h ρ n a U)(p:Option Bool):(plainIs (fU p) U=true/\(fU p == U)=false)/\plainIs U (fU p)=true/\(U == fU p)=false:=by
 have ki:∀{i t},(plainIs (fU p) (.int i t)=true/\(fU p == .int i t)=false)/\plainIs (.int i t) (fU p)=true/\(Value.int i t == fU p)=false:=by cases p<;>exact⟨⟨rfl,rfl⟩,rfl,rfl⟩
 have ks:∀{i t},(plainIs (fU p) (.str i t)=true/\(fU p == .str i t)=false)/\plainIs (.str i t) (fU p)=true/\(Value.str i t == fU p)=false:=by cases p<;>exact⟨⟨rfl,rfl⟩,rfl,rfl⟩
 have kr:∀{i},(plainIs (fU p) (.ref i)=true/\(fU p == .ref i)=false)/\plainIs (.ref i) (fU p)=true/\(Value.ref i == fU p)=false:=by cases p<;>exact⟨⟨rfl,rfl⟩,rfl,rfl⟩
 cases a with
 |int _=>refine dm i λt e _=>?_;rw[e];exact ki
 |str _=>obtain⟨t,e⟩:=i;rw[e];exact ks
 |ref _=>rw[i.1];exact kr
 |st _=>rw[show U=_ from i];exact kr
 |tup _=>refine gv i λa _ _ e _=>?_;rw[e];exact kr
 |_=>exact fT c
theorem CF(hh:isB a b=some t):Cmp cx d .Is a b HL t/\Cmp cx d .IsNot a b HL (!t):=by
 have key:∀{h ρ n U V},Is cx h ρ n a U->Is cx h ρ n b V->plainIs U V=true/\(U == V)=t:=λ{h ρ n U V} iU iV=>
  orE hh (λhh=>dq hh λp hp hh=>by
   rw[oO hp iU];exact orE hh (λhh=>dq hh λq hq hh=>so hh λz=>by rw[oO hq iV,<-z];exact Ar p q) λhh=>ifE hh λc hh=>so hh λz=>by rw[<-z];exact(p5 c iV p).1)
  λhh=>dq hh λq hq hh=>ifE hh λc hh=>so hh λz=>by rw[oO hq iV,<-z];exact(p5 c iU q).2
 exact⟨λu iU iV W=>wpAny_is_plain (key iU iV).1 (by rw[(key iU iV).2];exact W _ (ad _)),λu iU iV W=>wpAny_isNot_plain (key iU iV).1 (by rw[(key iU iV).2];exact W _ (ad _))⟩
theorem Ei{P:Prop}{x:Option Bool}(h:iN x=some t)(k:∀u,x=some u->(!u)=t->P):P:=dq h λu e h=>k u e (ak h)
theorem sT{op:CmpOp}(h:zK op a b H=some t):Cmp cx d op a b H.L t:=by
 cases op with
 |Eq=>exact(Cw h).1
 |NotEq=>exact Ei h λu h e=>e▸(Cw h).2
 |Lt=>exact MF h
 |GtE=>exact Ei h λu h e=>e▸Ko h
 |Is=>exact(CF h).1
 |IsNot=>exact Ei h λu h e=>e▸(CF h).2
 |In=>exact(wM h).1
 |NotIn=>exact Ei h λu h e=>e▸(wM h).2
 |_=>exact nn h
end
noncomputable abbrev R:=Option (AF×TH)
section
variable {α β:Type}
noncomputable def l0(xs:List α)(k:Option β):Option β:=List.casesOn xs k λ_ _=>none
noncomputable def l1(xs:List α)(k:α->Option β):Option β:=List.casesOn xs none λx r=>l0 r (k x)
noncomputable def l2(xs:List α)(k:α->α->Option β):Option β:=List.casesOn xs none λx r=>l1 r (k x)
noncomputable def l3(xs:List α)(k:α->α->α->Option β):Option β:=List.casesOn xs none λx r=>l2 r (k x)
noncomputable def hd(xs:List α)(k:α->Option β):Option β:=List.casesOn xs none λx _=>k x
noncomputable def yes(o:Option Bool):Bool:=Option.rec false (λb=>b) o
noncomputable def no(o:Option Bool):Bool:=Option.rec false (λb=>!b) o
noncomputable def trv(f:α->Option β)(l:List α):Option (List β):=List.rec (some []) (λa _ ih=>opt (f a) λb=>opt ih λr=>some (b::r)) l
noncomputable def uh(lt:α->α->Option Bool)(x:α)(ys:List α):Option (List α):=List.rec (some [x]) (λy r ih=>tri (lt x y) (some (x::y::r)) (opt ih λr=>some (y::r)) none) ys
noncomputable def jR(lt:α->α->Option Bool)(xs:List α):Option (List α):=List.rec (some []) (λx _ ih=>opt ih (uh lt x)) xs
noncomputable def gB(lt:α->α->Option Bool)(xs:List α):Bool:=List.rec true (λx r ih=>r.all (λy=>yes (lt x y)&&no (lt y x))&&ih) xs
end
noncomputable def name(c:IE)(H:TH)(x:Nat):Option AV:=opt (lk x c.kd) λk=>
 NameKind.casesOn k (gNs H c.L (lk x)) (opt (lk x c.cells) λi=>ua H i id) (opt (lk x c.cells) λi=>ua H i id) none (Ap x)
noncomputable def jD(c:IE)(H:TH)(x:Nat)(v:AV):Option TH:=opt (lk x c.kd) λk=>
 NameKind.casesOn k (gNs H c.L λm=>some (st H c.L (.ns (ins x v m)))) (opt (lk x c.cells) λi=>ua H i λ_=>some (st H i (.cell (some v)))) none none none
noncomputable def p7(c:IE)(bs:List (Nat×AV)):TH->Option TH:=List.rec (motive:=λ_=>TH->Option TH) some (λp _ ih H=>ifO (Nat.blt p.1 185) (opt (jD c H p.1 p.2) ih)) bs
noncomputable def mo(H:TH)(it:IT):Option (Nat×TH):=opt (psh H (.iter it)) λt=>some (H.n,t)
noncomputable def zu{β:Type}(H:TH)(it:IT)(e:Option β)(k:AV->IT->Option β):Option β:=IT.casesOn it
 (λi j=>dR H i λxs=>Option.rec e (λx=>k x (.list i (j+1))) xs[j]?)
 (λi j=>dR H i λxs=>Nat.rec e (λj _=>opt xs[j]? λx=>k x (.rev i j)) j)
 (λxs j=>Option.rec e (λx=>k x (.tup xs (j+1))) xs[j]?)
 (λa s n=>Nat.rec e (λn _=>k (.int a) (.rng (a+s) s n)) n)
 (λl j=>Option.rec e (λc=>k (.tok false (.inl [c])) (.str l (j+1))) l[j]?)
noncomputable def kR(l:List Nat):Bool:=l.all λc=>Nat.blt c 128 || isL c
noncomputable def my(a:AV)(H:TH):Option (Nat×TH):=
 orO (eJ a λi=>orO (dR H i λ_=>mo H (.list i 0)) (v9 H i λit=>IT.casesOn it (λ_ _=>none) (λ_ _=>some (i,H)) (λ_ _=>none) (λ_ _ _=>none) (λ_ _=>none)))
  (orO (qY a λxs=>mo H (.tup xs 0)) <| orO (dZ a λl=>ifO (kR l) (mo H (.str l 0))) (HZ a λa b s=>ifO (decide (a=0)&&decide (s=1)&&decide (0<=b)&&decide (b<4611686018427387904)) (mo H (.rng 0 1 b.toNat))))
noncomputable def vA(v:AV)(H:TH):Option (List AV):=orO (qY v some) (eJ v λi=>dR H i some)
noncomputable def fZ(j:Int):Bool:=decide (j.natAbs<4611686018427387904)
noncomputable def kQ(n:Nat)(i:Int):Int:=ifB (decide (i<0)) (i+n) i
noncomputable def xO(a i:AV)(H:TH):Option AV:=
 orO (eJ a λk=>orO (eh i λj=>dR H k λxs=>ifO (fZ j&&decide (0<=kQ xs.length j)) xs[(kQ xs.length j).toNat]?) (dZ i λs=>hK H k λes=>opt (sy s es) id))
  (eh i λj=>ifO (fZ j&&decide (0<=j)) (orO (qY a λxs=>xs[j.toNat]?) (dZ a λl=>opt l[j.toNat]? λc=>some (.str [c]))))
noncomputable def fQ(a:AV):Option (Option Int):=orO (jB a (some none)) (eh a λi=>some (some i))
noncomputable def lX(lo hi st:Option Int)(xs:List AV):List AV:=(sliceRange (sliceBounds lo hi st xs.length).1 (sliceBounds lo hi st xs.length).2.1 (sliceBounds lo hi st xs.length).2.2).filterMap (xs[·]?)
noncomputable def oG(i:Int)(t:List Nat):Bool:=decide (0<=i)&&decide (i<=t.length)&&Nat.ble t.length dn
noncomputable def GU(a l u s:AV)(H:TH):Option (AV×TH):=
 orO (eJ a λk=>dR H k λxs=>opt (fQ l) λlo=>opt (fQ u) λhi=>opt (fQ s) λst=>ifO (Nat.ble xs.length dn&&decide (st≠some 0)) (new H (.list (lX lo hi st xs))))
  (dZ a λt=>jB s (orO (eh l λi=>jB u (ifO (oG i t) (some (.str (t.drop i.toNat),H)))) (jB l (eh u λi=>ifO (oG i t) (some (.str (t.take i.toNat),H))))))
noncomputable def B8(E:Nat->Option (List Int))(a l u s:AV)(H:TH):Option (AV×TH):=sSt a λi=>opt (E i) λns=>opt (fQ l) λlo=>opt (fQ u) λhi=>opt (fQ s) λst=>ifO (Nat.ble (ns.map AV.inu).length dn&&decide (st≠some 0)) (new H (.list (lX lo hi st (ns.map .inu))))
noncomputable def KX(a i v:AV)(H:TH):Option TH:=eJ a λk=>
 orO (eh i λj=>dR H k λxs=>ifO (fZ j&&decide (0<=j)&&decide (j.toNat<xs.length)) (some (st H k (.list (xs.set j.toNat v)))))
  (dZ i λs=>hK H k λes=>ifO (Nat.ble es.length dn) (opt (put s v es) λes'=>some (st H k (.dict es'))))
noncomputable def uW(n:Nat):Option Nat:=lk n [(67,166),(99,181),(81,197),(154,204),(155,211),(84,217)]
noncomputable def CO(n:Nat):Bool:=Nat.ble 37 n&&Nat.ble n 56
noncomputable def rC{β:Type}(H:TH)(i:Nat)(k:Nat->List (Nat×AV)->Option β):Option β:=GE H i λc d=>ifO (Nat.beq c 241) (LN H d (k d))
noncomputable def Gn(a:AV)(n:Nat)(H:TH):Option AV:=eJ a λi=>
 orO (rC H i λd m=>Option.rec (opt (uW n) λf=>some (.bm (.st f) (.ref i))) (λv=>ifO (CO n) (some v)) (lk n m)) (dR H i λ_=>ifO (Nat.beq n 49) (some (.bm (.bi 5) (.ref i))))
noncomputable def F0(a:AV)(n:Nat)(v:AV)(H:TH):Option TH:=eJ a λi=>rC H i λd m=>ifO (CO n || Nat.beq n 67) (some (st H d (.idn (ins n v m))))
noncomputable def sC(n:Nat)(a:AV)(l:List (Nat×Nat)):Option (AV×List AV):=opt (lk n l) λk=>some (.bi k,[a])
noncomputable def F7(a:AV)(n:Nat)(H:TH):Option (AV×List AV):=
 orO (eJ a λi=>orO (rC H i λd m=>Option.rec (opt (uW n) λf=>some (.st f,[.ref i])) (λv=>ifO (Nat.beq n 67) (some (v,[]))) (lk n m))
   (orO (dR H i λ_=>sC n a [(49,5),(101,6),(157,7)]) (orO (hK H i λ_=>sC n a [(50,8),(102,9)]) (orO (vJ H i λ_=>sC n a [(50,8),(102,9)]) (DD H i λ_=>sC n a [(73,10)])))))
  (orO (dZ a λ_=>sC n a [(103,11),(66,13),(72,14)]) (orO (eh a λ_=>sC n a [(22,15)]) (sSt a λk=>ifO (Nat.beq k 135) (sC n a [(50,8)]))))
noncomputable def unb(a:AV):AV:=AV.casesOn (motive_1:=λ_=>AV) a .none .bool .int .inu .oi .str .str .rop .ref .st .bi .ty .tup .bm .clo .rng .itm .sitm .tok
noncomputable def jV(xs:List AV):Option (List (List Nat)):=trv (λv=>dZ v some) xs
noncomputable def Jb(xs:List AV):Option (List (List Nat)):=trv lp xs
noncomputable def eR(n:Nat):List Nat:=(Nat.toDigits 10 n).map Char.toNat
noncomputable def isI(a:AV):Bool:=(eh a some).isSome
noncomputable def isS(a:AV):Bool:=(dZ a some).isSome
noncomputable def isT(a:AV):Bool:=(qY a λxs=>hd xs λx=>dZ x some).isSome
noncomputable def o7(xs:List AV):Bool:=xs.all isI || xs.all isS || xs.all isT
noncomputable def ltK(a b:AV):Option Bool:=orO (ltI a b) (qY a λxs=>qY b λys=>hd xs λx=>hd ys λy=>dZ x λx=>dZ y λy=>gu x y)
noncomputable def mX(xs:List AV):Option (List AV):=opt (jR ltK xs) λys=>ifO (gB ltK ys&&o7 ys&&Nat.ble ys.length 6) (some ys)
noncomputable def Mj(args:List AV)(H:TH):Option (AV×TH):=l1 args λa=>eJ a λi=>
 orO (dR H i λxs=>ifO (Nat.ble xs.length dn) (some (.int xs.length,H))) (hK H i λes=>ifO (Nat.ble es.length dn) (some (.int es.length,H)))
noncomputable def KH(args:List AV)(H:TH):Option (AV×TH):=l2 args λa b=>dZ a λ_=>dZ b λl=>ifO (yes (eM l [95,95,103,101,116,105,116,101,109,95,95])) (some (.bool true,H))
noncomputable def ja(a:AV):Bool:=match a with
 | .tup _=>false
 | .bm _ _=>false
 |_=>true
noncomputable def jm(es:List (List Nat×AV)):List AV:=es.map λp=>.tup [.str p.1,p.2]
noncomputable def vm(es:List (List Nat×AV)):Option (List AV):=ifO (es.all λp=>ja p.2) (some (jm es))
noncomputable def v8(args:List AV)(H:TH):Option (AV×TH):=l1 args λa=>
 opt (orO (eJ a λi=>dR H i some) (Je a λi=>orO (hK H i vm) (vJ H i vm))) λxs=>opt (mX xs) λys=>new H (.list ys)
noncomputable def rJ(args:List AV)(H:TH):Option (AV×TH):=l2 args λa v=>eJ a λi=>dR H i λxs=>ifO (Nat.ble xs.length dn) (some (.none,st H i (.list (xs++[v]))))
noncomputable def F1(args:List AV)(H:TH):Option (AV×TH):=l1 args λa=>eJ a λi=>dR H i λxs=>opt (mX xs) λys=>some (.none,st H i (.list ys))
noncomputable def BI(x:AV)(xs:List AV):Nat->Option Int:=List.rec (motive:=λ_=>Nat->Option Int) (λ_=>none) (λy _ ih k=>tri (rB y x) (some (k:Int)) (ih (k+1)) none) xs
noncomputable def yS(args:List AV)(H:TH):Option (AV×TH):=l2 args λa v=>eJ a λi=>dR H i λxs=>ifO (Nat.ble xs.length dn&&xs.all (λy=>(rB y v).isSome)) (opt (BI v xs 0) λk=>some (.int k,H))
noncomputable def Ai(args:List AV)(H:TH):Option (AV×TH):=l1 args λa=>
 orO (eJ a λi=>orO (hK H i λ_=>some (.itm i,H)) (vJ H i λ_=>some (.itm i,H))) (sSt a λa=>ifO (Nat.beq a 135) (some (.sitm 135,H)))
noncomputable def KD(args:List AV)(H:TH):Option (AV×TH):=l2 args λa b=>eJ a λi=>dZ b λk=>opt (orO (hK H i λes=>sy k es) (vJ H i λes=>sy k es)) λv=>some (v.getD .none,H)
noncomputable def ML(args:List AV)(H:TH):Option (AV×TH):=l2 args λa b=>eJ a λi=>dZ b λk=>DD H i λks=>ifO (Nat.ble ks.length 100) (opt (inS k ks) λb=>some (.none,ifB b H (st H i (.set (ks++[k])))))
noncomputable def Gr(args:List AV)(H:TH):Option (AV×TH):=l2 args λa b=>dZ a λs=>eJ b λi=>l0 s (dR H i λxs=>
 orO (opt (jV xs) λl=>ifO (Nat.ble l.flatten.length dn) (some (.str l.flatten,H))) (opt (Jb xs) λl=>ifO (Nat.ble l.flatten.length jq) (some (.rop l.flatten,H))))
noncomputable def rN{β:Type}(args:List AV)(k:List Nat->Option β):Option β:=l3 args λa b c=>dZ a λt=>dZ b λs=>eh c λi=>ifO (decide (s=[125])&&decide (i=1)&&Nat.ble t.length dn) (k t)
noncomputable def B7(args:List AV)(H:TH):Option (AV×TH):=rN args λt=>opt (Da 125 t) λr=>new H (.list (Option.rec [.str t] (λp=>[.str p.1,.str p.2]) r))
noncomputable def vW(args:List AV)(H:TH):Option (AV×TH):=rN args λt=>opt (Da 125 t.reverse) λr=>new H (.list (Option.rec [.str t] (λp=>[.str p.2.reverse,.str p.1.reverse]) r))
noncomputable def Gz(args:List AV)(H:TH):Option (AV×TH):=l1 args λa=>eh a λi=>ifO (decide (0<=i)) (some (.int (ifB (Nat.beq i.toNat 0) 0 (i.toNat.log2+1:Nat)),H))
noncomputable def Lk(args:List AV)(H:TH):Option (AV×TH):=l1 args λa=>eJ a λi=>dR H i λxs=>opt (trv (λv=>orO (eh v some) (um v some)) xs) λns=>some (.inu ns.sum,H)
noncomputable def Mq(args:List AV)(H:TH):Option (AV×TH):=l1 args λa=>eh a λi=>ifO (decide (0<=i)&&decide (i<1000)) (some (.strb [i.toNat],H))
noncomputable def gV(id:Nat)(args:List AV)(H:TH):Option (AV×TH):=opt (lk id [(0,Mj),(1,Lk),(3,Mq),(2,v8),(4,KH),(5,rJ),(6,F1),(7,yS),(8,Ai),(9,KD),(10,ML),(11,Gr),(13,B7),(14,vW),(15,Gz)]) λf=>f args H
noncomputable def sV:List AV:=[.tup [.str [104,116,116,112,58,47,47,119,119,119,46,119,51,46,111,114,103,47,88,77,76,47,49,57,57,56,47,110,97,109,101,115,112,97,99,101],.str [120,109,108]],
 .tup [.str [104,116,116,112,58,47,47,119,119,119,46,119,51,46,111,114,103,47,49,57,57,57,47,120,104,116,109,108],.str [104,116,109,108]],
 .tup [.str [104,116,116,112,58,47,47,119,119,119,46,119,51,46,111,114,103,47,49,57,57,57,47,48,50,47,50,50,45,114,100,102,45,115,121,110,116,97,120,45,110,115,35],.str [114,100,102]],
 .tup [.str [104,116,116,112,58,47,47,115,99,104,101,109,97,115,46,120,109,108,115,111,97,112,46,111,114,103,47,119,115,100,108,47],.str [119,115,100,108]],
 .tup [.str [104,116,116,112,58,47,47,119,119,119,46,119,51,46,111,114,103,47,50,48,48,49,47,88,77,76,83,99,104,101,109,97],.str [120,115]],
 .tup [.str [104,116,116,112,58,47,47,119,119,119,46,119,51,46,111,114,103,47,50,48,48,49,47,88,77,76,83,99,104,101,109,97,45,105,110,115,116,97,110,99,101],.str [120,115,105]],
 .tup [.str [104,116,116,112,58,47,47,112,117,114,108,46,111,114,103,47,100,99,47,101,108,101,109,101,110,116,115,47,49,46,49,47],.str [100,99]]]
noncomputable def Bg(args:List AV)(H:TH):Option (AV×TH):=l1 args λa=>eh a λn=>ifO (decide (0<=n)&&decide (n<4611686018427387904)) (some (.rng 0 n 1,H))
noncomputable def K4(args:List AV)(H:TH):Option (AV×TH):=l0 args (new H (.set []))
noncomputable def GT(args:List AV)(H:TH):Option (AV×TH):=l1 args λa=>AQ a λa=>ifO (Nat.beq a 135) (new H (.list sV))
noncomputable def Kq(args:List AV)(H:TH):Option (AV×TH):=l1 args λa=>eJ a λi=>dR H i λxs=>new H (.iter (.rev i xs.length))
noncomputable def KQ(args:List AV)(H:TH):Option (AV×TH):=l1 args λa=>eh a λi=>ifO (decide (0<=i)&&decide (i<10)) (some (.str (eR i.toNat),H))
noncomputable def rV(id:Nat)(args:List AV)(H:TH):Option (AV×TH):=opt (lk id [(0,Bg),(1,K4),(2,GT),(3,Kq),(5,KQ)]) λf=>f args H
noncomputable def mW(kws:List (Nat×AV))(ks:List Nat):List (Nat×AV):=ks.map λk=>(k,(lk k kws).getD (ifB (Nat.ble k 29) (.bool false) .none))
noncomputable def pN(ks:List Nat)(dfl:List AV)(kws:List (Nat×AV))(ps:List Nat):List AV->Option (List (Nat×AV)):=List.rec (motive:=λ_=>List AV->Option (List (Nat×AV)))
 (λargs=>l0 args (some (mW kws ks)))
 (λp ps ih args=>List.casesOn args (ifO (Nat.beq (ps.length+1) dfl.length) (some ((p::ps).zip dfl++mW kws ks))) λa args=>opt (ih args) λr=>some ((p,a)::r)) ps
noncomputable def sd(a:Nat):List AV:=ifB (Nat.beq a 181 || Nat.beq a 217) [.none] []
noncomputable def jX(a:Nat):Value:=Option.rec .none .ref (lk a [(217,216),(129,128),(122,121)])
noncomputable def qB(k:Nat):Nat:=ifB (Nat.beq k 0) 121 (ifB (Nat.beq k 1) 128 216)
noncomputable def lY(v:Value)(k:Nat):Bool:=decide (v = .ref (qB k))
noncomputable def Jy(ks:List Nat)(kws:List (Nat×AV)):Bool:=List.casesOn kws ks.isEmpty λp r=>r.isEmpty && !ks.isEmpty&&Nat.beq p.1 29
noncomputable def g8(c:IE)(names:List (Nat×NameKind)):Option (List (Nat×Nat)):=
 trv (λp=>opt (lk p.1 c.cells) λi=>ifO (lk p.1 c.kd).isSome (some (p.1,i))) (names.filter λp=>p.2 == .free).reverse
noncomputable def qK(names:List (Nat×NameKind)):Bool:=names.all λp=>!(p.2 == .local) || lk p.1 names == some .local
noncomputable def tM(c:IE)(names:List (Nat×NameKind)):List (Nat×NameKind):=names.map λp=>ifB (p.2 == .free&&lk p.1 c.kd == some .cell) (p.1,.cell) p
noncomputable def ww(c:IE)(names:List (Nat×NameKind))(n:Nat):Option IE:=opt (g8 c names) λclo=>some { kd:=tM c names,L:=n,cells:=(mz (n+1) names).reverse++clo,cd:=c.cd}
structure Fns where
 ev:Nat->PE->IE->TH->(AV->TH->R)->R
 evs:Nat->PE->IE->TH->(List AV->TH->R)->R
 tr:Nat->PE->IE->TH->(Bool->TH->R)->R
 asg:Nat->PE->AV->IE->TH->(TH->R)->R
 asgs:Nat->PE->List AV->IE->TH->(TH->R)->R
 ex:Nat->PE->IE->TH->(AF->TH->R)->R
 exs:Nat->PE->IE->TH->(AF->TH->R)->R
 call:Nat->AV->List AV->List (Nat×AV)->TH->(AV->TH->R)->R
 loop:Nat->PE->Nat->PE->IE->TH->(AF->TH->R)->R
 comp:Nat->Bool->PE->PE->Nat->Nat->IE->TH->(TH->R)->R
 ands:Nat->PE->IE->TH->(Bool->TH->R)->R
 ors:Nat->PE->IE->TH->(Bool->TH->R)->R
 str:Nat->PE->IE->TH->(List Nat->TH->R)->R
noncomputable def MY:Fns:=⟨λ_ _ _ _ _=>none,λ_ _ _ _ _=>none,λ_ _ _ _ _=>none,λ_ _ _ _ _ _=>none,λ_ _ _ _ _ _=>none,λ_ _ _ _ _=>none,λ_ _ _ _ _=>none,λ_ _ _ _ _ _=>none,λ_ _ _ _ _ _ _=>none,λ_ _ _ _ _ _ _ _ _=>none,λ_ _ _ _ _=>none,λ_ _ _ _ _=>none,λ_ _ _ _ _=>none⟩
noncomputable def pL(es:PE)(e:R)(k:PE->PE->R):R:=match es with
 | .n=>e
 | .c x r=>k x r
 |_=>none
noncomputable def yg(g:PE)(k:PE->PE->PE->R):R:=match g with
 | .gen t it ifs=>k t it ifs
 |_=>none
structure Orc where
 call:Nat->List AV->TH->(AV->TH->R)->R->R
 cnt:AV->PE->TH->(AV->R)->R
 lo:Nat
 ext:Nat->Option (List Int)
noncomputable def pNm(p:PE)(e:R)(k:Nat->R):R:=match p with
 | .nm x=>k x
 |_=>e
noncomputable def Fw(p:PE)(e:R)(k:CmpOp->PE->PE->R):R:=match p with
 | .cmp op l r=>k op l r
 |_=>e
noncomputable def xC(p q:List Nat ⊕ Int):Option Bool:=Sum.rec (λx=>Sum.rec (λy=>eM x y) (λ_=>none) q) (λi=>Sum.rec (λ_=>none) (λj=>ifO (smallInt i) (some (decide (i=j)))) q) p
noncomputable def Lc(xs:PE)(c:IE)(H:TH)(e:R)(k:Bool->TH->R):R:=pL xs e λp r=>Fw p e λop x y=>pNm x e λx=>pNm y e λy=>pL r e λp' r'=>pL r' (Fw p' e λop' x' y'=>pNm x' e λx'=>pNm y' e λy'=>
 ifB (decide (op = .Is)&&decide (op' = .Eq)&&(Nat.beq x x'&&Nat.beq y y')) (opt (name c H x) λa=>opt (name c H y) λb=>vn a λlo p=>vn b λlo' q=>ifO (lo != lo') (opt (xC p q) λt=>k t H)) e) λ_ _=>e
noncomputable def w9(d:Nat)(C:AV->PE->TH->(AV->R)->R)(f args:PE)(ks:List Nat)(kvs:PE)(c:IE)(H:TH)(k:AV->TH->R)(e:R):R:=pNm f e λg=>ifB (Nat.beq g 139) (pL args none λp r=>pNm p none λx=>pL r none λq r=>pL r (pL kvs (ifO (ks.isEmpty&&Nat.ble 8 d) (opt (name c H 139) λv=>sSt v λa=>ifO (Nat.beq a 101) (opt (name c H x) λv=>C v q H λr=>k r H))) λ_ _=>none) λ_ _=>none) e
section
variable (F:Fns) (d:Nat)
noncomputable def GQ(op:Operator)(l r:PE)(c:IE)(H:TH)(k:AV->TH->R):R:=F.ev d l c H λa H=>F.ev d r c H λb H=>dY (p4 op (unb a) (unb b) H) k
noncomputable def Gk(x:PE)(c:IE)(H:TH)(k:AV->TH->R):R:=F.ev d x c H λa H=>opt (oW H a) λt=>k (.bool !t) H
noncomputable def GO(x:PE)(c:IE)(H:TH)(k:AV->TH->R):R:=F.ev d x c H λa H=>eh a λi=>k (.int (-i)) H
noncomputable def Gf(l r:PE)(c:IE)(H:TH)(k:AV->TH->R):R:=F.ev d l c H λa H=>opt (oW H a) λt=>ifB t (F.ev d r c H k) (k a H)
noncomputable def GF(op:CmpOp)(l r:PE)(c:IE)(H:TH)(k:AV->TH->R):R:=F.ev d l c H λa H=>F.ev d r c H λb H=>opt (zK op a b H) λt=>k (.bool t) H
noncomputable def MB(t a b:PE)(c:IE)(H:TH)(k:AV->TH->R):R:=F.tr d t c H λt H=>ifB t (F.ev d a c H k) (F.ev d b c H k)
noncomputable def Bp(o:PE)(n:Nat)(args:PE)(c:IE)(H:TH)(k:AV->TH->R):R:=F.ev d o c H λa H=>dY (F7 a n H) λf first=>F.evs d args c H λvs H=>F.call d f (first++vs) [] H k
noncomputable def evB(p:PE)(c:IE)(H:TH)(k:List Nat->TH->R):R:=match p with
 | .str l=>k l H
 |p=>F.ev d p c H λb H=>tX b λl=>k l H
noncomputable def zh(o args:PE)(c:IE)(H:TH)(k:AV->TH->R):R:=F.ev d o c H λa H=>dZ a λt=>pL args none λp r=>evB F d p c H λl H=>l1 l λx=>pL r none λq r=>pL r (match q with
  | .str r=>ifO (Nat.ble r.length 10&&Nat.ble t.length dn&&no (eM [x] r)) (opt (u8 x r t) λl=>k (.str l) H)
  |_=>none) λ_ _=>none
noncomputable def Fa(o:PE)(n:Nat)(args:PE)(c:IE)(H:TH)(k:AV->TH->R):R:=ifB (Nat.beq n 109) (zh F d o args c H k) (Bp F d o n args c H k)
noncomputable def CK(f args:PE)(ks:List Nat)(kvs:PE)(c:IE)(H:TH)(k:AV->TH->R):R:=F.ev d f c H λf H=>F.evs d args c H λvs H=>F.evs d kvs c H λus H=>F.call d f vs (ks.zip us) H k
noncomputable def zr(o:PE)(n:Nat)(c:IE)(H:TH)(k:AV->TH->R):R:=F.ev d o c H λa H=>opt (Gn a n H) λv=>k v H
noncomputable def F5(o i:PE)(c:IE)(H:TH)(k:AV->TH->R):R:=F.ev d o c H λa H=>F.ev d i c H λj H=>opt (xO a j H) λv=>k v H
noncomputable def GV(X:Nat->Option (List Int))(o l u s:PE)(c:IE)(H:TH)(k:AV->TH->R):R:=F.ev d o c H λa H=>F.ev d l c H λl H=>F.ev d u c H λu H=>F.ev d s c H λs H=>dY (orO (GU a l u s H) (B8 X a l u s H)) k
noncomputable def GX(xs:PE)(c:IE)(H:TH)(k:AV->TH->R):R:=F.evs d xs c H λvs H=>ifO (Nat.ble vs.length dn) (dY (new H (.list vs)) k)
noncomputable def F3(xs:PE)(c:IE)(H:TH)(k:AV->TH->R):R:=F.evs d xs c H λvs H=>ifO (Nat.ble vs.length dn&&vs.all ja) (k (.tup vs) H)
noncomputable def BA(ks:List (List Nat))(xs:List (List Nat)):Option (List (List Nat)):=List.rec (motive:=λ_=>List (List Nat)->Option (List (List Nat))) some (λx _ ih ks=>opt (inS x ks) λb=>ih (ifB b ks (ks++[x]))) xs ks
noncomputable def As(x y:PE)(c:IE)(H:TH)(k:AV->TH->R):R:=ifO (lY c.cd 2) (opt (psh H (.setq [])) λO6=>F.ev d x c O6 λa O7=>dZ a λs=>xi O7 H.n λq=>l0 q (F.ev d y c (st O7 H.n (.setq [s])) λb H₂=>eJ b λi=>
 opt (orO (hK H₂ i some) (vJ H₂ i some)) λes=>xi H₂ H.n λq=>l1 q λs'=>ifO (Nat.ble es.length 90) (opt (BA [s'] (es.map (·.1))) λks=>k (.ref H.n) (st H₂ H.n (.setq ks)))))
noncomputable def iO(nw:AO)(isD:Bool)(e gs:PE)(names:List (Nat×NameKind))(c:IE)(H:TH)(k:Nat->TH->R):R:=pL gs none λg _=>yg g λt it ifs=>ifO (qK names) (F.ev d it c H λa H=>dY (my a H) λi H=>
 opt (ww c names (H.n+1)) λc'=>opt (sf H (nw :: .ns []::fp names)) λH'=>F.comp d isD e gs i H.n c' H' λH''=>gNs H'' (H.n+1) λ_=>k H.n H'')
noncomputable def Aq(nw:AO)(isD:Bool)(e gs:PE)(names:List (Nat×NameKind))(c:IE)(H:TH)(k:AV->TH->R):R:=iO F d nw isD e gs names c H λn H=>k (.ref n) (st H (n+1) .dead)
noncomputable def vU(es:List (List Nat×AV)):Option (List (List Nat×AV)):=jR (λa b=>gu a.1 b.1) es
noncomputable def wQ(e gs:PE)(names:List (Nat×NameKind))(c:IE)(H:TH)(k:AV->TH->R):R:=iO F d (.dict []) true e gs names c H λn H=>hK (st H (n+1) .dead) n λes=>opt (vU es) λes'=>k (.ref n) (st (st H (n+1) .dead) n (.bag es'))
noncomputable def Cn(xs:PE)(c:IE)(H:TH)(k:AV->TH->R):R:=F.str d xs c H λl H=>ifO (Nat.ble l.length jq) (k (ifB (nl l) (.str l) (.rop l)) H)
noncomputable def se(j:Nat)(ft:FT)(c:IE)(H:TH)(k:AV->R):R:=zp H j λk'=>ifO (Nat.beq k' j&&lY c.cd j) (opt (g8 c ft.names) λcells=>k (.clo ft cells))
noncomputable def uT(C:AV->PE->TH->(AV->R)->R)(X:Nat->Option (List Int))(e:PE)(c:IE)(H:TH)(k:AV->TH->R):R:=match e with
 | .int i=>k (.int i) H
 | .str l=>k (.str l) H
 | .bool b=>k (.bool b) H
 | .none=>k .none H
 | .nm x=>opt (name c H x) λv=>k v H
 | .bin op l r=>GQ F d op l r c H k
 | .not x=>Gk F d x c H k
 | .neg x=>GO F d x c H k
 | .and xs=>pL xs none λl r=>pL r none λr q=>pL q (Gf F d l r c H k) λ_ _=>none
 | .cmp op l r=>GF F d op l r c H k
 | .ifx t a b=>MB F d t a b c H k
 | .meth o n args=>Fa F d o n args c H k
 | .call f args ks kvs=>w9 d C f args ks kvs c H k (CK F d f args ks kvs c H k)
 | .attr o n=>zr F d o n c H k
 | .sub o i=>F5 F d o i c H k
 | .slc o l u s=>GV F d X o l u s c H k
 | .lst xs=>GX F d xs c H k
 | .tupl xs=>F3 F d xs c H k
 | .set1 x y=>As F d x y c H k
 | .dict0=>dY (new H (.dict [])) k
 | .lc e gs names=>Aq F d (.list []) false e gs names c H k
 | .dc x v gs names=>wQ F d (.c x v) gs names c H k
 | .fstr xs=>Cn F d xs c H k
 | .lam j ps names e=>se j ⟨ps,[0],names,e⟩ c H λv=>k v H
 |_=>none
noncomputable def v3(es:PE)(c:IE)(H:TH)(k:List AV->TH->R):R:=pL es (k [] H) λe r=>F.ev d e c H λv H=>F.evs d r c H λvs H=>k (v::vs) H
noncomputable def Gp(x:PE)(c:IE)(H:TH)(k:Bool->TH->R):R:=F.tr d x c H λt H=>k (!t) H
noncomputable def GY(op:CmpOp)(l r:PE)(c:IE)(H:TH)(k:Bool->TH->R):R:=F.ev d l c H λa H=>F.ev d r c H λb H=>opt (zK op a b H) λt=>k t H
noncomputable def ID(e:PE)(c:IE)(H:TH)(k:Bool->TH->R):R:=F.ev d e c H λa H=>opt (oW H a) λt=>k t H
noncomputable def vK(e:PE)(c:IE)(H:TH)(k:Bool->TH->R):R:=match e with
 | .not x=>Gp F d x c H k
 | .and xs=>F.ands d xs c H k
 | .or xs=>Lc xs c H (F.ors d xs c H k) k
 | .cmp op l r=>GY F d op l r c H k
 | .ifx _ _ _=>none
 |e=>ID F d e c H k
noncomputable def HT(ts:PE)(v:AV)(c:IE)(H:TH)(k:TH->R):R:=opt (vA v H) λxs=>F.asgs d ts xs c H k
noncomputable def xn(o:PE)(n:Nat)(v:AV)(c:IE)(H:TH)(k:TH->R):R:=F.ev d o c H λa H=>opt (F0 a n v H) k
noncomputable def IL(o i:PE)(v:AV)(c:IE)(H:TH)(k:TH->R):R:=F.ev d o c H λa H=>F.ev d i c H λj H=>opt (KX a j v H) k
noncomputable def lP(t:PE)(v:AV)(c:IE)(H:TH)(k:TH->R):R:=match t with
 | .nm x=>opt (jD c H x v) k
 | .tupl ts=>HT F d ts v c H k
 | .attr o n=>xn F d o n v c H k
 | .sub o i=>IL F d o i v c H k
 |_=>none
noncomputable def te(ts:PE)(vs:List AV)(c:IE)(H:TH)(k:TH->R):R:=pL ts (l0 vs (k H)) λt ts=>List.casesOn vs none λv vs=>F.asg d t v c H λH=>F.asgs d ts vs c H k
noncomputable def I2(e:PE)(c:IE)(H:TH)(k:AF->TH->R):R:=F.ev d e c H λ_ H=>k .next H
noncomputable def MK(e:PE)(c:IE)(H:TH)(k:AF->TH->R):R:=F.ev d e c H λv H=>k (.ret v) H
noncomputable def C1(xs:List Nat)(vs:PE)(c:IE)(H:TH)(k:AF->TH->R):R:=F.ev d (.tupl vs) c H λv H=>qY v λus=>ifO (Nat.beq us.length xs.length)
 (ifB (xs.all λx=>lk x c.kd == some .local) (opt (p7 c (xs.zip us).reverse H) λH=>k .next H) (ifO (xs.any λx=>lk x c.kd == some .cell) (opt (p7 c (xs.zip us) H) λH=>k .next H)))
noncomputable def MS(ts:PE):Nat:=@PE.rec (λ_=>Nat) 0 (λ_ _ _ n=>n+1) (λ_=>0) (λ_=>0) (λ_=>0) 0 0 (λ_=>0) (λ_ _ _ _ _=>0) (λ_ _=>0) (λ_ _=>0) (λ_ _=>0) (λ_ _=>0) (λ_ _ _ _ _=>0) (λ_ _ _ _ _ _=>0) (λ_ _ _ _ _=>0) (λ_ _ _ _ _ _ _=>0) (λ_ _ _=>0) (λ_ _ _ _=>0) (λ_ _ _ _ _ _ _ _=>0) (λ_ _=>0) (λ_ _=>0) (λ_ _ _ _=>0) 0 (λ_ _ _ _ _=>0) (λ_ _ _ _ _ _ _=>0) (λ_ _ _ _ _ _=>0) (λ_ _=>0) (λ_ _=>0) (λ_ _ _ _ _=>0) (λ_ _=>0) (λ_ _=>0) 0 (λ_ _ _ _=>0) (λ_ _ _=>0) (λ_ _ _=>0) (λ_ _ _ _=>0) (λ_ _ _ _ _ _=>0) (λ_ _ _ _ _ _=>0) (λ_ _ _ _ _ _=>0) (λ_ _=>0) ts
noncomputable def GN(ts e:PE)(c:IE)(H:TH)(k:AF->TH->R):R:=F.ev d e c H λv H=>F.asgs d ts (List.replicate (MS ts) v) c H λH=>k .next H
noncomputable def vF(x:Nat)(e:PE)(c:IE)(H:TH)(k:AF->TH->R):R:=
 let go:=λn H'=>opt (jD c H' x (.ref n)) λH''=>gNs H'' (n+1) λ_=>k .next (st H'' (n+1) .dead)
 match e with
 | .lc e gs names=>iO F d (.list []) false e gs names c H go
 | .dc a b gs names=>iO F d (.dict []) true (.c a b) gs names c H go
 |_=>none
noncomputable def GD(x:Nat)(op:Operator)(e:PE)(c:IE)(H:TH)(k:AF->TH->R):R:=ifO (decide (op = .Add)) (opt (name c H x) λa=>F.ev d e c H λb H=>opt (Fq a b) λv=>opt (jD c H x v) λH=>k .next H)
noncomputable def Kr(t a b:PE)(c:IE)(H:TH)(k:AF->TH->R):R:=F.tr d t c H λt H=>ifB t (F.exs d a c H k) (F.exs d b c H k)
noncomputable def Gu(t it b:PE)(c:IE)(H:TH)(k:AF->TH->R):R:=F.ev d it c H λa H=>dY (my a H) λi H=>F.loop d t i b c H k
noncomputable def g6(s:PE)(c:IE)(H:TH)(k:AF->TH->R):R:=match s with
 | .expr e=>I2 F d e c H k
 | .ret e=>MK F d e c H k
 | .ret0=>k (.ret .none) H
 | .set ts e=>GN F d ts e c H k
 | .setc x e=>vF F d x e c H k
 | .swap xs vs=>C1 F d xs vs c H k
 | .aug x op e=>GD F d x op e c H k
 | .if t a b=>Kr F d t a b c H k
 | .for t it b=>Gu F d t it b c H k
 | .def x j ps names b=>ifO (Nat.beq x 20&&Nat.ble j 1) (se j ⟨ps,[],names,b⟩ c H λv=>opt (jD c H x v) λH=>k .next H)
 | .try b=>F.exs d b c H k
 |_=>none
noncomputable def wN(sts:PE)(c:IE)(H:TH)(k:AF->TH->R):R:=pL sts (k .next H) λs r=>F.ex d s c H λf H=>AF.casesOn f (F.exs d r c H k) (k .brk H) (k .cont H) λv=>k (.ret v) H
noncomputable def Jz(x:List Nat)(n:Nat)(names:List (Nat×NameKind))(p:PE):R:=opt (sf ⟨0,.nil⟩ (.ns []::fp names)) λH=>opt (p7 (kG names 0 [] .none) [(n,.str x)] H) λH=>F.ev d p (kG names 0 [] .none) H λv H=>some (.ret v,H)
noncomputable def k7(ft:FT)(x:List Nat):Option (List (List Nat)):=l1 ft.ps λn=>dY (Jz F d x n ft.names ft.body) λf H=>eJ (gp f) λj=>dR H j jV
noncomputable def xL(x:List (List Nat)):List (List Nat)->Option Bool:=List.rec (motive:=λ_=>List (List Nat)->Option Bool) (λy=>some !y.isEmpty) (λa _ ih y=>List.casesOn y (some false) λb y=>tri (eM a b) (ih y) (gu a b) none) x
noncomputable def mq(args:List AV)(kws:List (Nat×AV))(H:TH)(k:AV->TH->R):R:=l1 kws λp=>l1 args λa=>eJ a λi=>Kb p.2 λft cells=>l0 cells (Nat.casesOn d none λd=>Nat.casesOn d none λd=>Nat.casesOn d none λd=>
 ifO (Nat.beq p.1 100 && !ft.ks.isEmpty) (xi H i λks=>ifO (Nat.ble ks.length 6) (opt (trv (λx=>opt (k7 F d ft x) λq=>some (q,x)) ks) λxs=>opt (jR (λa b=>xL a.1 b.1) xs) λys=>ifO (gB (λa b=>xL a.1 b.1) ys) (dY (new H (.list (ys.map λp=>.str p.2))) k))))
noncomputable def jC(ft:FT)(dfl:List AV)(cdv:Value)(cells:List (Nat×Nat))(args:List AV)(kws:List (Nat×AV))(H:TH)(k:AV->TH->R):R:=ifO (Jy ft.ks kws) (opt (pN ft.ks dfl kws ft.ps args) λbs=>opt (sf H (.ns []::fp ft.names)) λH'=>
 opt (p7 (kG ft.names H.n cells cdv) bs H') λH'=>F.exs d ft.body (kG ft.names H.n cells cdv) H' λf H'=>k (gp f) H')
noncomputable def vR(args:List AV)(kws:List (Nat×AV))(H:TH)(k:AV->TH->R):R:=opt (sf H [.idn [],.inst 241 H.n]) λH'=>Nat.casesOn d none λd=>opt (AB 158) λft=>jC F d ft (sd 158) .none [] (.ref (H.n+1)::args) kws H' λv H'=>jB v (k (.ref (H.n+1)) H')
noncomputable def lr(a:Nat)(args:List AV)(kws:List (Nat×AV))(H:TH)(k:AV->TH->R):R:=ifB (Nat.beq a 241) (vR F d args kws H k) (opt (AB a) λft=>jC F d ft (sd a) (jX a) [] args kws H k)
noncomputable def uK(f self:AV)(args:List AV)(kws:List (Nat×AV))(H:TH)(k:AV->TH->R):R:=
 orO (sSt f λa=>ifO (!Nat.beq a 241) (opt (AB a) λft=>jC F d ft (sd a) (jX a) [] (self::args) kws H k)) (sBi f λj=>ifO (Nat.beq j 5&&kws.isEmpty) (dY (rJ (self::args) H) k))
noncomputable def nO(O:Orc)(dd:Nat)(f:AV)(args:List AV)(kws:List (Nat×AV))(H:TH)(k:AV->TH->R):R:=Nat.casesOn dd none λd=>AV.casesOn (motive_1:=λ_=>R) f none (λ_=>none) (λ_=>none) (λ_=>none) (λ_ _=>none) (λ_=>none) (λ_=>none) (λ_=>none) (λ_=>none)
 (λa=>ifB (Nat.ble O.lo d&&kws.isEmpty) (O.call a args H k (lr F d a args kws H k)) (lr F d a args kws H k))
 (λid=>ifB (Nat.beq id 2 && !kws.isEmpty) (mq F d args kws H k) (ifO kws.isEmpty (dY (gV id args H) k)))
 (λid=>ifO kws.isEmpty (dY (rV id args H) k)) (λ_=>none) (λf self=>uK F d f self args kws H k) (λft cells=>ifO ft.ks.isEmpty (dY (jC F d ft [] .none cells args kws H λv H=>some (.ret v,H)) λf H'=>ifO (Nat.ble H.n H'.n) (k (gp f) H'))) (λ_ _ _=>none) (λ_=>none) (λ_=>none) (λ_ _=>none)
noncomputable def uo(t:PE)(i:Nat)(b:PE)(c:IE)(H:TH)(k:AF->TH->R):R:=v9 H i λit=>zu H it (k .next (st H i .dead)) λv it'=>F.asg d t v c (st H i (.iter it')) λH=>F.exs d b c H λf H=>AF.casesOn f (F.loop d t i b c H k) none (F.loop d t i b c H k) λv=>k (.ret v) H
noncomputable def iD(v:AV)(acc:Nat)(H:TH):Option TH:=dR H acc λxs=>ifO (Nat.ble xs.length dn) (some (st H acc (.list (xs++[v]))))
noncomputable def l8(a v:AV)(acc:Nat)(H:TH):Option TH:=hK H acc λes=>dZ a λs=>ifO (Nat.ble es.length dn) (opt (put s v es) λes'=>some (st H acc (.dict es')))
noncomputable def ul(isD:Bool)(e:PE)(acc:Nat)(c:IE)(H:TH)(k:TH->R):R:=ifB isD (pL e none λx y=>F.ev d x c H λa H=>F.ev d y c H λb H=>opt (l8 a b acc H) k) (F.ev d e c H λv H=>opt (iD v acc H) k)
noncomputable def qS(isD:Bool)(e more:PE)(acc:Nat)(c:IE)(H:TH)(k:TH->R):R:=pL more (ul F d isD e acc c H k) λg r=>yg g λt it ifs=>F.ev d it c H λa H=>dY (my a H) λj H=>F.comp d isD e more j acc c H k
noncomputable def tB(isD:Bool)(e gs:PE)(i acc:Nat)(c:IE)(H:TH)(k:TH->R):R:=pL gs none λg more=>yg g λt it ifs=>v9 H i λit=>zu H it (k (st H i .dead)) λv it'=>
 F.asg d t v c (st H i (.iter it')) λH=>F.ands d ifs c H λok H=>ifB ok (qS F d isD e more acc c H λH=>F.comp d isD e gs i acc c H k) (F.comp d isD e gs i acc c H k)
noncomputable def r9(xs:PE)(c:IE)(H:TH)(k:Bool->TH->R):R:=pL xs (k true H) λx r=>F.tr d x c H λt H=>ifB t (F.ands d r c H k) (k false H)
noncomputable def wy(xs:PE)(c:IE)(H:TH)(k:Bool->TH->R):R:=pL xs (k false H) λx r=>F.tr d x c H λt H=>ifB t (k true H) (F.ors d r c H k)
noncomputable def o8(v:AV)(l:List Nat):Option (List Nat):=orO (eh v λi=>ifO (decide (0<=i)&&decide (i<10)) (some (eR i.toNat++l))) (opt (lp v) λk=>ifO (Nat.ble (k.length+l.length) jq) (some (k++l)))
noncomputable def lQ(x:PE)(c:IE)(H:TH)(k:AV->TH->R):R:=match x with
 | .str l=>k (.str l) H
 | .fval e=>F.ev d e c H k
 |_=>none
noncomputable def xc(xs:PE)(c:IE)(H:TH)(k:List Nat->TH->R):R:=pL xs (k [] H) λx r=>lQ F d x c H λv H=>F.str d r c H λl H=>opt (o8 v l) λl=>k l H
end
noncomputable def step(O:Orc)(F:Fns):Fns:=⟨λd=>uT F d O.cnt O.ext,v3 F,vK F,lP F,te F,g6 F,wN F,nO F O,uo F,tB F,r9 F,wy F,xc F⟩
noncomputable def fns(O:Orc)(n:Nat):Fns:=Nat.rec MY (λ_=>step O) n
noncomputable def eY:Orc:=⟨λ_ _ _ _ e=>e,λ_ _ _ _=>none,0,λ_=>none⟩
noncomputable def LW(n:Str)(l:List Str):Nat->Option Nat:=List.rec (motive:=λ_=>Nat->Option Nat) (λ_=>none) (λs _ ih k=>ifB (Fast.sEq n s) (some k) (ih (Nat.succ k))) l
noncomputable def idx(n:Str):Option Nat:=LW n nmS 0
theorem v6{n:Str}:∀{l:List Str} {k x:Nat},LW n l k=some x->k<=x/\l[x - k]? = some n
 | [],k,x,h=>nn h
 |s::l,k,x,h=>gC h (λq h=>so h λe=>by rw[<-e,Nat.sub_self,Fast.sEq_iff.mp q];exact⟨ad _,rfl⟩) λ_ h=>by
  have ih:=v6 (l:=l) h;have h1:k<x:=ih.1;refine⟨a7 h1,?_⟩;have e:x - k=(x - (k+1))+1:=by rw[Nat.sub_add_eq,Nat.sub_add_cancel (Nat.sub_pos_of_lt h1)]
  rw[e,List.getElem?_cons_succ];exact ih.2
theorem im{n:Str}{x:Nat}(h:idx n=some x):n=nmF x/\x<185:=by
 have q:=(v6 h).2;have hx:x<185:=by
  obtain⟨l,_⟩:=aG.mp q;rw[nmS,aq,kD]at l;exact l
 exact⟨ak (q.symm.trans (o9 hx)),hx⟩
noncomputable def dD(e:Expr):Bool:=match e with | .Starred ..=>true | _=>false
noncomputable def jk(e:Expr):Bool:=match e with | .Slice ..=>true | _=>false
noncomputable def gn(e:Expr):Bool:=match e with | .ListComp ..=>true | .SetComp ..=>true | .DictComp ..=>true | _=>false
noncomputable def iS(e:Expr):Bool:=match e with | .Call (.Name _ _) [] [] _=>true | _=>false
noncomputable def gm(e:Expr):Bool:=match e with | .Tuple ..=>true | _=>false
noncomputable def f9(e:Expr):Bool:=match e with | .Name ..=>true | .Call ..=>true | .Attribute ..=>true | .Tuple ..=>true | .ListComp ..=>true | .Subscript ..=>true | _=>false
noncomputable def kH(k:Nat):Nat×Nat:=ifB (Nat.beq k 0) (39,4) (ifB (Nat.beq k 1) (54,4) (195,71))
noncomputable def DJ(k:Nat):List Nat:=ifB (Nat.beq k 0) [12,13,14] (ifB (Nat.beq k 1) [13,14] [11])
noncomputable def opN(n:Str)(f:Nat->PE):PE:=Option.rec .no f (idx n)
noncomputable def opL{α:Type}(x:Option α)(f:α->PE):PE:=Option.rec .no f x
noncomputable def only(b:Bool)(x:PE):PE:=Bool.rec .no x b
noncomputable def cvL{α:Type}(f:α->PE)(es:List α):PE:=List.rec .n (λe _ ih=>.c (f e) ih) es
noncomputable def scN(sc:Scope):Option (List (Nat×NameKind)):=ifO (decide (sc.kind = .function)&&(!sc.isCoroutine && !sc.isGenerator)) (trv (λp=>opt (idx p.1) λx=>some (x,p.2)) sc.names)
noncomputable def kM(k:Nat)(a:Arguments):Option (List Nat):=match a with
 |⟨[],as,none,[],[],none,[]⟩=>opt (trv (λx=>ifO x.annotation.isNone (idx x.arg)) as) λps=>ifO (decide (ps=DJ k)) (some ps)
 |_=>none
noncomputable def cvC(c:Const):PE:=match c with
 | .int i=>.int i
 | .str x=>only (x.cps.toList.all (Nat.blt · 1000)) (.str x.cps.toList)
 | .bool b=>.bool b
 | .none=>.none
 |_=>.no
noncomputable def GA(f:Expr->PE)(l:Expr)(ops:List CmpOp)(rs:List Expr):PE:=List.casesOn ops .no λop o=>List.casesOn o (List.casesOn rs .no λr q=>List.casesOn q (only (!behindInMarks op r) (.cmp op (f l) (f r))) λ_ _=>.no) λ_ _=>.no
noncomputable def Cv(f:Expr->PE)(fn:Expr)(args:List Expr)(kws:List Keyword)(p:Pos):PE:=match fn with
 | .Attribute o n ap=>only (kws.isEmpty&&(!iS o&&(ap.endLine == p.line&&Nat.blt args.length 20))) (opN n λx=>.meth (f o) x (cvL f args))
 |fn=>opL (trv (λk:Keyword=>opt k.arg idx) kws) λks=>.call (f fn) (cvL f args) ks (cvL (λk:Keyword=>f k.value) kws)
noncomputable def cvO(f:Expr->PE)(o:Option Expr):PE:=Option.rec .none f o
noncomputable def Gl(f:Expr->PE)(o i:Expr):PE:=match i with
 | .Slice l u s _=>.slc (f o) (cvO f l) (cvO f u) (cvO f s)
 |i=>.sub (f o) (f i)
noncomputable def cvT(f:Expr->PE)(n:Nat):Expr->PE:=Nat.rec (motive:=λ_=>Expr->PE) (λ_=>.no) (λ_ ih e=>match e with
 | .Name n _=>opN n .nm
 | .Tuple ts _ _=>.tupl (cvL ih ts)
 | .Attribute o n _=>opN n λx=>.attr (f o) x
 | .Subscript o i _=>only (!jk i) (.sub (f o) (f i))
 |_=>.no) n
noncomputable def cvG(f:Expr->PE)(g:Comprehension):PE:=only (f9 g.iter&&decide (g.is_async=0)) (.gen (cvT f 9 g.target) (f g.iter) (cvL f g.ifs))
noncomputable def cvP(f:Expr->PE)(e:Expr):PE:=match e with
 | .Constant c _ _=>(match c with | .str x=>only (x.cps.toList.all (Nat.blt · 1000)) (.str x.cps.toList) | _=>.no)
 | .FormattedValue v c s _=>only (decide (c=-1)&&s.isNone) (.fval (f v))
 |_=>.no
noncomputable def cvE(n:Nat):Expr->PE:=Nat.rec (motive:=λ_=>Expr->PE) (λ_=>.no) (λ_ f e=>match e with
 | .Constant c _ _=>cvC c
 | .Name n _=>opN n .nm
 | .BinOp l op r _=>.bin op (f l) (f r)
 | .UnaryOp op x _=>UnaryOp.casesOn op .no (.not (f x)) .no (.neg (f x))
 | .BoolOp op xs _=>BoolOp.casesOn op (.and (cvL f xs)) (.or (cvL f xs))
 | .Compare l ops rs _=>GA f l ops rs
 | .IfExp t a b _=>.ifx (f t) (f a) (f b)
 | .Call fn args kws p=>Cv f fn args kws p
 | .Attribute o n _=>only (!iS o) (opN n λx=>.attr (f o) x)
 | .Subscript o i _=>Gl f o i
 | .List xs _=>.lst (cvL f xs)
 | .Tuple xs _ _=>.tupl (cvL f xs)
 | .Set xs k _=>List.casesOn xs .no λx r=>List.casesOn r .no λs q=>List.casesOn q (match s with | .Starred y _=>only (decide (k=0)) (.set1 (f x) (f y)) | _=>.no) λ_ _=>.no
 | .Dict ks vs _=>only (ks.isEmpty&&vs.isEmpty) .dict0
 | .ListComp e gs sc _=>opL (scN sc) λnames=>.lc (f e) (cvL (cvG f) gs) names
 | .DictComp k v gs sc _=>opL (scN sc) λnames=>.dc (f k) (f v) (cvL (cvG f) gs) names
 | .JoinedStr xs _=>only (Nat.ble 2 xs.length) (.fstr (cvL (cvP f) xs))
 | .Lambda a b sc p=>opL (scN sc) λnames=>opL (kM 2 a) λps=>only (decide ((p.line,p.col)=kH 2)) (.lam 2 ps names (f b))
 |_=>.no) n
noncomputable def sj(ts:List Expr):Option (List Nat):=trv (λt:Expr=>match t with | .Name n p=>ifO (p.line == (ts.head?.map (·.pos.line)).getD 0) (idx n) | _=>none) ts
noncomputable def nQ(xs:List Nat)(vs:List Expr):Bool:=(xs.length == 2 || xs.length == 3)&&(vs.length == xs.length&&(!vs.any dD&&((xs.map nmF).eraseDups.length == xs.length&&(!vs.all (foldedForSure 8) && !vs.all (constantsAlone 8)))))
noncomputable def j5(f:Expr->PE)(ts:List Expr)(e:Expr):PE:=ifB (gn e) (l1' ts λt=>match t with | .Name n _=>opN n λx=>.setc x (f e) | _=>.no)
  (ifB (gm e) (l1' ts λt=>match t,e with | .Tuple ts _ _,.Tuple vs _ _=>opL (sj ts) λxs=>only (nQ xs vs) (.swap xs (cvL f vs)) | _,_=>.no) (.set (cvL (cvT f 9) ts) (f e)))
where l1' (ts:List Expr) (k:Expr->PE):PE:=List.casesOn ts .no λt r=>List.casesOn r (k t) λ_ _=>.no
noncomputable def kOf(a:Arguments):Nat:=ifB (Nat.beq a.args.length 3) 0 1
noncomputable def cvS(f:Expr->PE)(n:Nat):Stmt->PE:=Nat.rec (motive:=λ_=>Stmt->PE) (λ_=>.no) (λ_ g s=>match s with
 | .Expr e _=>only (!gn e) (.expr (f e))
 | .Return v _=>Option.rec .ret0 (λe=>.ret (f e)) v
 | .Assign ts e _=>j5 f ts e
 | .AugAssign t op e _=>(match t with | .Name n _=>opN n λx=>.aug x op (f e) | _=>.no)
 | .If t a b _=>.if (f t) (cvL g a) (cvL g b)
 | .For t it b o _=>only (f9 it&&o.isEmpty) (.for (cvT f 9 t) (f it) (cvL g b))
 | .FunctionDef n a b ds r tps sc tsc bd p=>only (ds.isEmpty&&(r.isNone&&(tps.isEmpty&&(tsc.isNone&&(bd == n&&decide ((p.line,p.col)=kH (kOf a))))))) (opN n λx=>opL (scN sc) λnames=>opL (kM (kOf a) a) λps=>.def x (kOf a) ps names (cvL g b))
 | .Try b hs o fin _=>only (!hs.isEmpty&&(o.isEmpty&&fin.isEmpty)) (.try (cvL g b))
 |_=>.no) n
noncomputable def cvB(b:List Stmt):PE:=cvL (cvS (cvE 20) 20) b
noncomputable abbrev Tru{α:Type}(t:α):Shared->(Nat->Addr)->α->Prop:=λ_ _ b=>b=t
noncomputable abbrev Any{α:Type}:Shared->(Nat->Addr)->α->Prop:=λ_ _ _=>True
noncomputable abbrev TrE(cx:Cx)(d:Nat)(e:Expr)(c:IE)(H:List AO)(t:Bool)(H':List AO):Prop:=Do cx d c H (λenv=>isTrue e env (eval e env)) H' (Tru t)
noncomputable abbrev vo(cx:Cx)(d:Nat)(op:BoolOp)(es:List Expr)(c:IE)(H:List AO)(t:Bool)(H':List AO):Prop:=Do cx d c H (allTrue op es) H' (Tru t)
noncomputable def ze(env:Env)(c:Expr)(r:Bool):Sem (ForInStep Bool):=if r=true then do let ok <-isTrue c env (eval c env);pure (ForInStep.yield ok) else pure (ForInStep.yield r)
noncomputable abbrev Hi(cx:Cx)(d:Nat)(es:List Expr)(c:IE)(H:List AO)(t:Bool)(H':List AO):Prop:=Do cx d c H (λenv=>forIn es true (ze env)) H' (Tru t)
noncomputable abbrev IsV(cx:Cx)(n:Nat)(rs:List AV):Shared->(Nat->Addr)->List Value->Prop:=λs' ρ' Vs=>IsL cx s' ρ' n rs Vs
noncomputable def EvL(cx:Cx)(d:Nat)(es:List Expr)(c:IE)(H:List AO)(rs:List AV)(H':List AO):Prop:=
 Do cx d c H (λenv=>spliced (es.map λe=>(false,eval e env))) H' (IsV cx H'.length rs)/\(∀pos,Do cx d c H (λenv=>evalAll (es.map λe=>do let v <-eval e env;standAt pos;pure v)) H' (IsV cx H'.length rs))/\rs.length=es.length/\∀e∈es,dD e=false
noncomputable def AsE(cx:Cx)(d:Nat)(t:Expr)(v:AV)(c:IE)(H H':List AO):Prop:=
 H.length<=H'.length/\∀{A s ρ env V} {Q:Unit->Shared->Prop} {E},At cx d c H A s ρ env->Is cx s ρ H.length v V->Pst cx ρ H s H' Any Q->wpAny (model pw cx.w) A (assign t env V) Q E s
noncomputable def AsL(cx:Cx)(d:Nat)(ts:List Expr)(vs:List AV)(c:IE)(H H':List AO):Prop:=
 H.length<=H'.length/\vs.length=ts.length/\(∀e∈ts,dD e=false)/\∀{A s ρ env} {Q:Unit->Shared->Prop} {E},At cx d c H A s ρ env->Pst cx ρ H s H' Any Q->
  (∀Vs,IsL cx s ρ H.length vs Vs->wpAny (model pw cx.w) A (assignInOrder (ts.map λt=>assign t env) Vs) Q E s)/\
  (∀V,(∀v∈vs,Is cx s ρ H.length v V)->ts≠[]->wpAny (model pw cx.w) A (assignAll V (ts.map λt=>assign t env)) Q E s)/\(ts=[]->Q () s)
noncomputable def dE(cx:Cx)(d:Nat)(f:AV)(args:List AV)(kws:List (Nat×AV))(H:List AO)(r:AV)(H':List AO):Prop:=
 H.length<=H'.length/\∀{A s ρ Fv Vs Ks} {Q:Value->Shared->Prop} {E},Un cx d H A s ρ->Is cx s ρ H.length f Fv->IsL cx s ρ H.length args Vs->IsL cx s ρ H.length (kws.map (·.2)) Ks->gy cx ρ H s r H' Q->
  wpAny (model pw cx.w) A (call Fv Vs ((kws.map λp=>nmF p.1).zip Ks)) Q E s
noncomputable def Kp(cx:Cx)(f:AV):Prop:=∀{H:List AO} {ρ s Fv},SR cx ρ H s->Is cx s ρ H.length f Fv->∃k,(k=Keeper.frame\/k=Keeper.machine\/k=Keeper.boundFrame)/\Looks (model pw cx.w) s.heap (keeperOf Fv) k
noncomputable def jU(cx:Cx)(d:Nat)(tg:Expr)(i:Nat)(b:List Stmt)(c:IE)(H:List AO)(f:AF)(H':List AO):Prop:=
 H.length<=H'.length/\i<H.length/\∀{A s ρ env} {R:Result->Shared->Prop},At cx d c H A s ρ env->Pst cx ρ H s H' (IsF cx H'.length f) (λfl s'=>R (.ok fl) s')->codeAny (model pw cx.w) A (.forLoop tg (.ref (ρ i)) b [] env) R s
noncomputable def jv(cx:Cx)(d:Nat)(x:Expr)(depth i acc:Nat)(c:IE)(H H':List AO):Prop:=
 H.length<=H'.length/\i<H.length/\∀{A s ρ env} {R:Result->Shared->Prop},At cx d c H A s ρ env->(∀s' ρ',SR cx ρ' H' s'->Ext ρ H.length s ρ' s'->R (.ok .next) s')->
  codeAny (model pw cx.w) A (.compLoop x depth (.ref (ρ i)) (.ref (ρ acc)) env) R s
noncomputable def XC(isD:Bool)(e gs:PE)(x:Expr)(depth:Nat):Prop:=∃n gens,clausesOf x=gens/\gs=cvL (cvG (cvE n)) (gens.drop depth)/\
 ((isD=false/\∃e' sc pos,x = .ListComp e' gens sc pos/\e=cvE n e')\/(isD=true/\∃k v sc pos,x = .DictComp k v gens sc pos/\e = .c (cvE n k) (cvE n v)))
noncomputable def qC(cx:Cx)(d:Nat)(es:List Expr)(c:IE)(H:List AO)(l:List Nat)(H':List AO):Prop:=
 H.length<=H'.length/\∀{A s ρ env acc} {Q:Str->Shared->Prop} {E},At cx d c H A s ρ env->acc.length+24 * l.length<=sizeLine->
  (∀s' ρ',SR cx ρ' H' s'->Ext ρ H.length s ρ' s'->Q (acc++rq cx l) s')->Joins (model pw cx.w) A E (evalEach es env) acc Q s
structure dC (cx:Cx) (F:Fns):Prop where
 ev:∀{n d e c H k z} {P:Prop},F.ev d (cvE n e) c H k=some z->(∀v H',EvE cx d e c H.L v H'.L->k v H'=some z->P)->P
 evs:∀{n d es c H k z} {P:Prop},F.evs d (cvL (cvE n) es) c H k=some z->(∀vs H',EvL cx d es c H.L vs H'.L->k vs H'=some z->P)->P
 tr:∀{n d e c H k z} {P:Prop},F.tr d (cvE n e) c H k=some z->(∀t H',TrE cx d e c H.L t H'.L->k t H'=some z->P)->P
 ands:∀{n d es c H k z} {P:Prop},F.ands d (cvL (cvE n) es) c H k=some z->(∀t H',vo cx d .And es c H.L t H'.L->Hi cx d es c H.L t H'.L->k t H'=some z->P)->P
 ors:∀{n d es c H k z} {P:Prop},F.ors d (cvL (cvE n) es) c H k=some z->(∀t H',vo cx d .Or es c H.L t H'.L->k t H'=some z->P)->P
 no:∀{d c H k z} {P:Prop},F.ev d .no c H k=some z->P
 noa:∀{d v c H k z} {P:Prop},F.asg d .no v c H k=some z->P
 nul:∀{d c H k z} {P:Prop},F.ev d .none c H k=some z->(k .none H=some z->P)->P
 asg:∀{n m d t v c H k z} {P:Prop},F.asg d (cvT (cvE n) m t) v c H k=some z->(∀H',AsE cx d t v c H.L H'.L->k H'=some z->P)->P
 asgs:∀{n m d ts vs c H k z} {P:Prop},F.asgs d (cvL (cvT (cvE n) m) ts) vs c H k=some z->(∀H',AsL cx d ts vs c H.L H'.L->k H'=some z->P)->P
 ex:∀{n m d st c H k z} {P:Prop},F.ex d (cvS (cvE n) m st) c H k=some z->(∀f H',ExS cx d st c H.L f H'.L->k f H'=some z->P)->P
 exs:∀{n m d b c H k z} {P:Prop},F.exs d (cvL (cvS (cvE n) m) b) c H k=some z->(∀f H',ExB cx d b c H.L f H'.L->k f H'=some z->P)->P
 call:∀{d f args kws H k z} {P:Prop},F.call d f args kws H k=some z->(∀v H',Kp cx f->dE cx d f args kws H.L v H'.L->k v H'=some z->P)->P
 loop:∀{n m d t i b c H k z} {P:Prop},F.loop d (cvT (cvE n) 9 t) i (cvL (cvS (cvE n) m) b) c H k=some z->(∀f H',jU cx d t i b c H.L f H'.L->k f H'=some z->P)->P
 comp:∀{d isD e gs x depth i acc c H k z} {P:Prop},F.comp d isD e gs i acc c H k=some z->XC isD e gs x depth->acc<H.L.length->(∀H',jv cx d x depth i acc c H.L H'.L->k H'=some z->P)->P
 str:∀{n d es c H k z} {P:Prop},F.str d (cvL (cvP (cvE n)) es) c H k=some z->(∀l H',qC cx d es c H.L l H'.L->k l H'=some z->P)->P
section
variable {cx:Cx} {d n m:Nat} {H H' O7 H₂:TH} {HL HL':List AO} {r a b v:AV} {t:Bool} {F:Fns} {c:IE} {z:AF×TH} {P:Prop} {e l x:Expr} {es:List Expr} {A:Around} {s U4:Shared} {ρ V4:Nat->Addr} {env:Env} {E:Value->Shared->Prop}
theorem ng{α:Type}{f:PE->Option α}{q:Bool}{p:PE}{w:α}(f0:f .no=none)(h:f (only q p)=some w)(k:q=true->f p=some w->P):P:=by
 cases q with | false=>exact nn (f0.symm.trans h) | true=>exact k rfl h
theorem IU{α:Type}{f:PE->Option α}{s:Str}{p:Nat->PE}{w:α}(f0:f .no=none)(h:f (opN s p)=some w)(k:∀x,s=nmF x->x<185->f (p x)=some w->P):P:=by
 unfold opN at h;cases q:idx s with
 |none=>rw[q]at h;exact nn (f0.symm.trans h)
 |some x=>rw[q]at h;exact k x (im q).1 (im q).2 h
theorem Lr{α β:Type}{f:PE->Option α}{o:Option β}{p:β->PE}{w:α}(f0:f .no=none)(h:f (opL o p)=some w)(k:∀x,o=some x->f (p x)=some w->P):P:=by
 cases o with | none=>exact nn (f0.symm.trans h) | some x=>exact k x rfl h
theorem lM{M:PE->Prop}{q:Bool}{p:PE}(h0:M .no)(h1:q=true->M p):M (only q p):=by cases q with | false=>exact h0 | true=>exact h1 rfl
theorem vd{β:Type}{M:PE->Prop}{o:Option β}{p:β->PE}(h0:M .no)(h1:∀x,o=some x->M (p x)):M (opL o p):=by cases o with | none=>exact h0 | some x=>exact h1 x rfl
theorem Bj{M:PE->Prop}{s:Str}{p:Nat->PE}(h0:M .no)(h1:∀x,s=nmF x->x<185->M (p x)):M (opN s p):=vd (p:=p) h0 λx h=>h1 x (im h).1 (im h).2
noncomputable def rn(e:Expr):Bool:=match e with
 | .Attribute ..=>true
 |_=>false
theorem rx{M:Expr->PE->Prop}{f:Expr->PE}{args:List Expr}{kws:List Keyword}{pos:Pos}
  (k1:∀o n ap,M (.Attribute o n ap) (only (kws.isEmpty&&(!iS o&&(ap.endLine == pos.line&&Nat.blt args.length 20))) (opN n λx=>.meth (f o) x (cvL f args))))
  (k2:∀fn,rn fn=false->M fn (opL (trv (λk:Keyword=>opt k.arg idx) kws) λks=>.call (f fn) (cvL f args) ks (cvL (λk:Keyword=>f k.value) kws))):∀fn,M fn (Cv f fn args kws pos):=λfn=>by
 cases fn<;>first | exact k2 _ rfl | exact k1 _ _ _
theorem sg{M:Expr->PE->Prop}{f:Expr->PE}{o:Expr}(k1:∀l u s p,M (.Slice l u s p) (.slc (f o) (cvO f l) (cvO f u) (cvO f s)))(k2:∀i,jk i=false->M i (.sub (f o) (f i))):∀i,M i (Gl f o i):=λi=>by
 cases i<;>first | exact k2 _ rfl | exact k1 _ _ _ _
theorem si{M:List CmpOp->List Expr->PE->Prop}{f:Expr->PE}{l:Expr}(k0:∀ops rs,M ops rs .no)(k1:∀op r,behindInMarks op r=false->M [op] [r] (.cmp op (f l) (f r))):∀ops rs,M ops rs (GA f l ops rs):=λops rs=>by
 cases ops with
 |nil=>exact k0 _ _
 |cons op o=>cases o with
  |cons _ _=>exact k0 _ _
  |nil=>cases rs with
   |nil=>exact k0 _ _
   |cons r q=>cases q with
    |cons _ _=>exact k0 _ _
    |nil=>exact lM (M:=M _ _) (k0 _ _) λh=>k1 op r (cM _▸h)
theorem gd{M:Expr->PE->Prop}{n:Nat}(no:∀e,M e .no)(int:∀i k p,M (.Constant (.int i) k p) (.int i))(str:∀x k p,x.cps.toList.all (Nat.blt · 1000)=true->M (.Constant (.str x) k p) (.str x.cps.toList))
  (bool:∀b k p,M (.Constant (.bool b) k p) (.bool b)) (none:∀k p,M (.Constant .none k p) .none) (nm:∀x p,x<185->M (.Name (nmF x) p) (.nm x)) (bin:∀l op r p,M (.BinOp l op r p) (.bin op (cvE n l) (cvE n r)))
  (not:∀x p,M (.UnaryOp .Not x p) (.not (cvE n x))) (neg:∀x p,M (.UnaryOp .USub x p) (.neg (cvE n x))) (and:∀xs p,M (.BoolOp .And xs p) (.and (cvL (cvE n) xs))) (or:∀xs p,M (.BoolOp .Or xs p) (.or (cvL (cvE n) xs)))
  (cmp:∀l op r p,behindInMarks op r=false->M (.Compare l [op] [r] p) (.cmp op (cvE n l) (cvE n r))) (ifx:∀t a b p,M (.IfExp t a b p) (.ifx (cvE n t) (cvE n a) (cvE n b)))
  (meth:∀o x ap as p,x<185->iS o=false->(ap.endLine == p.line)=true->Nat.blt as.length 20=true->M (.Call (.Attribute o (nmF x) ap) as [] p) (.meth (cvE n o) x (cvL (cvE n) as)))
  (call:∀fn as kws p ks,rn fn=false->trv (λk:Keyword=>opt k.arg idx) kws=some ks->M (.Call fn as kws p) (.call (cvE n fn) (cvL (cvE n) as) ks (cvL (λk:Keyword=>cvE n k.value) kws)))
  (attr:∀o x p,x<185->iS o=false->M (.Attribute o (nmF x) p) (.attr (cvE n o) x)) (sub:∀o i p,jk i=false->M (.Subscript o i p) (.sub (cvE n o) (cvE n i))) (slc:∀o l u s q p,M (.Subscript o (.Slice l u s q) p) (.slc (cvE n o) (cvO (cvE n) l) (cvO (cvE n) u) (cvO (cvE n) s)))
  (lst:∀xs p,M (.List xs p) (.lst (cvL (cvE n) xs))) (tupl:∀xs k p,M (.Tuple xs k p) (.tupl (cvL (cvE n) xs))) (set1:∀x y q p,M (.Set [x,.Starred y q] 0 p) (.set1 (cvE n x) (cvE n y))) (dict0:∀p,M (.Dict [] [] p) .dict0)
  (lc:∀e gs sc p names,scN sc=some names->M (.ListComp e gs sc p) (.lc (cvE n e) (cvL (cvG (cvE n)) gs) names)) (dc:∀k v gs sc p names,scN sc=some names->M (.DictComp k v gs sc p) (.dc (cvE n k) (cvE n v) (cvL (cvG (cvE n)) gs) names))
  (fstr:∀xs p,Nat.ble 2 xs.length=true->M (.JoinedStr xs p) (.fstr (cvL (cvP (cvE n)) xs))) (lam:∀a b sc p names ps,scN sc=some names->kM 2 a=some ps->(p.line,p.col)=kH 2->M (.Lambda a b sc p) (.lam 2 ps names (cvE n b))) :
  ∀e,M e (cvE (n+1) e):=λe=>by
 cases e with
 |Constant q kk p=>cases q<;>first | exact no _ | exact int _ _ _ | exact bool _ _ _ | exact none _ _ | exact lM (M:=M _) (p:=.str _) (no _) (str _ _ _)
 |Name s p=>exact Bj (M:=M _) (p:=.nm) (no _) λx e hx=>e▸nm x p hx
 |BinOp=>exact bin _ _ _ _
 |UnaryOp op=>cases op<;>first | exact no _ | exact not _ _ | exact neg _ _
 |BoolOp op=>cases op<;>first | exact and _ _ | exact or _ _
 |Compare l ops rs p=>exact si (f:=cvE n) (M:=λops rs=>M (.Compare l ops rs p)) (λ_ _=>no _) (λop r h=>cmp l op r p h) ops rs
 |IfExp=>exact ifx _ _ _ _
 |Call fn as kws p=>
  exact rx (f:=cvE n) (M:=λfn=>M (.Call fn as kws p)) (λo s ap=>lM (M:=M _) (no _) λq=>Bj (M:=M _) (no _) λx es hx=>by
   have q0:=aa q;have q1:=aa q0.2;have q2:=aa q1.2;rw[bp.mp q0.1,es];exact meth o x ap as p hx (cM _▸q1.1) q2.1 q2.2) (λfn hf=>vd (M:=M _) (no _) λks hk=>call fn as kws p ks hf hk) fn
 |Attribute o s p=>exact lM (M:=M _) (q:=!iS o) (p:=opN s λx=>.attr (cvE n o) x) (no _) λq=>Bj (M:=M _) (no _) λx es hx=>es▸attr o x p hx (cM _▸q)
 |Subscript o i p=>exact sg (f:=cvE n) (M:=λi=>M (.Subscript o i p)) (λl u s q=>slc o l u s q p) (λi h=>sub o i p h) i
 |List=>exact lst _ _
 |Tuple=>exact tupl _ _ _
 |Set xs k p=>cases xs with
  |nil=>exact no _
  |cons x r=>cases r with
   |nil=>exact no _
   |cons s q=>cases q with
    |cons _ _=>exact no _
    |nil=>cases s<;>first | exact no _ | exact lM (M:=M _) (q:=decide (k=0)) (p:=.set1 (cvE n x) (cvE n _)) (no _) (λh=>(by rw[show k=0 from de h];exact set1 _ _ _ _))
 |Dict ks vs p=>exact lM (M:=M _) (q:=ks.isEmpty&&vs.isEmpty) (p:=.dict0) (no _) λq=>by rw[bp.mp (aa q).1,bp.mp (aa q).2];exact dict0 p
 |ListComp e gs sc p=>exact vd (M:=M _) (p:=λnames=>.lc (cvE n e) (cvL (cvG (cvE n)) gs) names) (no _) λnames h=>lc e gs sc p names h
 |DictComp k v gs sc p=>exact vd (M:=M _) (p:=λnames=>.dc (cvE n k) (cvE n v) (cvL (cvG (cvE n)) gs) names) (no _) λnames h=>dc k v gs sc p names h
 |JoinedStr xs p=>exact lM (M:=M _) (q:=Nat.ble 2 xs.length) (p:=.fstr (cvL (cvP (cvE n)) xs)) (no _) λh=>fstr xs p h
 |Lambda a b sc p=>exact vd (M:=M _) (p:=λnames=>opL (kM 2 a) λps=>only (decide ((p.line,p.col)=kH 2)) (.lam 2 ps names (cvE n b))) (no _) λnames h=>vd (M:=M _) (no _) λps h2=>lM (M:=M _) (no _) λh3=>lam a b sc p names ps h h2 (de h3)
 |_=>exact no _
noncomputable def shp(p:PE):Nat:=match p with
 | .no=>0
 | .not _=>20
 | .and _=>21
 | .or _=>21
 | .cmp _ _ _=>22
 | .ifx _ _ _=>23
 |_=>2
noncomputable def HP(e:Expr):Nat:=match e with
 | .UnaryOp .Not _ _=>20
 | .BoolOp ..=>21
 | .Compare ..=>22
 | .IfExp ..=>23
 | .Starred ..=>0
 |_=>2
theorem Io(n:Nat)(e:Expr):shp (cvE n e)=0\/shp (cvE n e)=HP e:=by
 cases n with
 |zero=>exact .inl rfl
 |succ n=>refine gd (M:=λe p=>shp p=0\/shp p=HP e) ?_ ?_ ?_ ?_ ?_ ?_ ?_ ?_ ?_ ?_ ?_ ?_ ?_ ?_ ?_ ?_ ?_ ?_ ?_ ?_ ?_ ?_ ?_ ?_ ?_ ?_ e<;>intros<;>first | exact .inl rfl | exact .inr rfl
theorem Ni:∀p,shp p=0->p = .no:=λp=>by cases p<;>first | exact λh=>absurd h (Nat.succ_ne_zero _) | exact λ_=>rfl
theorem L5:∀e,dD e=true->HP e=0:=λe=>by cases e<;>first | exact λh=>absurd h ah | exact λ_=>rfl
theorem s7(h:dD e=true):cvE n e = .no:=Ni _ ((Io n e).elim id λq=>q.trans (L5 e h))
theorem dC.ns{k}(K:dC cx F)(h:F.ev d (cvE n e) c H k=some z):dD e=false:=by
 cases q:dD e with
 |false=>rfl
 |true=>rw[s7 q]at h;exact K.no h
theorem EvE.two{op:Value->Value->Sem Value}{O7 H₂ O8:List AO}(whole:Expr)
  (hw:∀{A:Around} {env:Env} {Q:Value->Shared->Prop} {E:Value->Shared->Prop} {s:Shared},wpAny (model pw cx.w) A (eval l env) (λa U4=>wpAny (model pw cx.w) A (eval e env) (λb U6=>wpAny (model pw cx.w) A (op a b) Q E U6) E U4) E s->wpAny (model pw cx.w) A (eval whole env) Q E s)
  (h1:EvE cx d l c HL a O7) (h2:EvE cx d e c O7 b H₂) (h3:Bin cx d op a b H₂ r O8):EvE cx d whole c HL r O8:=
 ⟨ae h1.1 (ae h2.1 h3.1),λz W=>hw (h1.run z λU U4 V4 V0 T3 N0=>h2.run V0 λV U6 ρ₂ V1 T5 N7=>h3.2 V1.un (T3.ext z.g.toGood N7 h2.1) T5 (W.on (N0.trans h1.1 N7) (ae h1.1 h2.1)))⟩
theorem Is.unb{n V}(i:Is cx s ρ n a V):Is cx s ρ n (unb a) V:=by
 revert i;cases a<;>intro i<;>first | exact i | (refine dm i λt e _=>?_;exact⟨t,e⟩)
theorem EvE.unb(k:EvE cx d e c HL a HL'):EvE cx d e c HL (Mine.unb a) HL':=⟨k.1,λz W=>k.2 z λV s' ρ' S' i' E'=>W V s' ρ' S' i'.unb E'⟩
theorem y6(K:dC cx F){op:Operator}{pos:Pos}{k}(h:GQ F d op (cvE n l) (cvE n e) c H k=some z)(w:∀v H',EvE cx d (.BinOp l op e pos) c H.L v H'.L->k v H'=some z->P):P:=
 K.ev h λa O7 k1 h=>K.ev h λb H₂ k2 h=>gx h λr H' hb h=>w r H' (EvE.two _ (λh=>wpAny_BinOp h) k1.unb k2.unb (Co hb)) h
theorem Cmp.bin{op:CmpOp}(h:Cmp cx d op a b HL t):Bin cx d (compareOp op) a b HL (.bool t) HL:=⟨ad _,λu iU iV W=>h u iU iV λk hk=>W.now u.g.toGood u.sr hk rfl⟩
theorem BS(K:dC cx F){op:CmpOp}{pos:Pos}{k}(hm:behindInMarks op e=false)(h:GF F d op (cvE n l) (cvE n e) c H k=some z)(w:∀v H',EvE cx d (.Compare l [op] [e] pos) c H.L v H'.L->k v H'=some z->P):P:=
 K.ev h λa O7 k1 h=>K.ev h λb H₂ k2 h=>dq h λt hb h=>w _ H₂ (EvE.two _ (λh=>wpAny_Compare1 h hm) k1 k2 (Cmp.bin (sT hb))) h
theorem CJ(K:dC cx F){op:CmpOp}{pos:Pos}{k}(hm:behindInMarks op e=false)(h:GY F d op (cvE n l) (cvE n e) c H k=some z)(w:∀v H',TrE cx d (.Compare l [op] [e] pos) c H.L v H'.L->k v H'=some z->P):P:=
 K.ev h λa O7 k1 h=>K.ev h λb H₂ k2 h=>dq h λt hb h=>w t H₂ ⟨ae k1.1 k2.1,λz W=>wpAny_isTrue_Compare1 (k1.run z λU U4 V4 V0 T3 N0=>
  k2.run V0 λV U6 ρ₂ V1 T5 N7=>sT hb V1.un (T3.ext z.g.toGood N7 k2.1) T5 λk hk=>
   wpAny_truthy_bool (W _ _ ρ₂ (V1.sr.toks z.g.toGood hk).1 rfl ((N0.trans k1.1 N7).trans (ae k1.1 k2.1) (V1.sr.toks z.g.toGood hk).2))) hm⟩ h
theorem C4(K:dC cx F){pos:Pos}{k}(h:Gk F d (cvE n x) c H k=some z)(w:∀v H',EvE cx d (.UnaryOp .Not x pos) c H.L v H'.L->k v H'=some z->P):P:=
 K.ev h λa O7 k1 h=>dq h λt ht h=>w _ O7 ⟨k1.1,λz W=>wpAny_UnaryOp (k1.run z λU U4 V4 V0 T3 N0=>not_value (lO ht V0.un T3 λk hk=>(W.on N0 k1.1).now (V:=.bool _) (r:=.bool _) z.g.toGood V0.sr hk rfl))⟩ h
theorem zP(K:dC cx F){pos:Pos}{k}(h:GO F d (cvE n x) c H k=some z)(w:∀v H',EvE cx d (.UnaryOp .USub x pos) c H.L v H'.L->k v H'=some z->P):P:=
 K.ev h λa O7 k1 h=>dM h λi e h=>w _ O7 ⟨k1.1,λz W=>wpAny_UnaryOp (k1.run z λU U4 V4 V0 T3 N0=>by rw[e]at T3;refine dm T3 λt e _=>?_;rw[e];exact PySem.P.neg_int ((W.on N0 k1.1).int z.g.toGood V0.sr))⟩ h
theorem Cq(K:dC cx F){pos:Pos}{k}(h:Gf F d (cvE n l) (cvE n e) c H k=some z)(w:∀v H',EvE cx d (.BoolOp .And [l,e] pos) c H.L v H'.L->k v H'=some z->P):P:=
 K.ev h λa O7 k1 h=>dq h λt ht h=>gC h
  (λet h=>K.ev h λb H₂ k2 h=>w _ H₂ ⟨ae k1.1 k2.1,λz W=>wpAny_And2 (k1.run z λU U4 V4 V0 T3 N0=>lO ht V0.un T3 λk hk=>by
   rw[et];have N7:=N0.trans k1.1 (V0.sr.toks z.g.toGood hk).2;exact k2.2 (z.next (V0.sr.toks z.g.toGood hk).1 N7 k1.1) (W.on N7 k1.1))⟩ h)
  λet h=>w _ O7 ⟨k1.1,λz W=>wpAny_And2 (k1.run z λU U4 V4 V0 T3 N0=>lO ht V0.un T3 λk hk=>by rw[et];exact(W.on N0 k1.1).now z.g.toGood V0.sr hk (T3.ext z.g.toGood (V0.sr.toks z.g.toGood hk).2 (ad _)))⟩ h
theorem DS(K:dC cx F){pos:Pos}{k}(h:MB F d (cvE n x) (cvE n l) (cvE n e) c H k=some z)(w:∀v H',EvE cx d (.IfExp x l e pos) c H.L v H'.L->k v H'=some z->P):P:=
 K.tr h λt O7 k1 h=>gC h
  (λet h=>K.ev h λb H₂ k2 h=>w _ H₂ ⟨ae k1.1 k2.1,λz W=>wpAny_IfExp (k1.run z λu U4 V4 V0 T3 N0=>by rw[T3,et];exact k2.2 V0 (W.on N0 k1.1))⟩ h)
  λet h=>K.ev h λb H₂ k2 h=>w _ H₂ ⟨ae k1.1 k2.1,λz W=>wpAny_IfExp (k1.run z λu U4 V4 V0 T3 N0=>by rw[T3,et];exact k2.2 V0 (W.on N0 k1.1))⟩ h
theorem EvL.nil:EvL cx d [] c HL [] HL:=⟨⟨ad _,λz W=>spliced_nil (W _ _ _ z.sr rfl .refl)⟩,λpos=>⟨ad _,λz W=>wpAny_evalAll_nil (W _ _ _ z.sr rfl .refl)⟩,rfl,λe h=>(nomatch h)⟩
theorem EvL.cons{vs O7 H₂}(k1:EvE cx d e c HL v O7)(k2:EvL cx d es c O7 vs H₂)(hs:dD e=false):EvL cx d (e::es) c HL (v::vs) H₂:=
 have l:=ae k1.1 k2.1.1
 ⟨⟨l,λz W=>spliced_cons (k1.run z λV U4 V4 V0 T3 N0=>k2.1.2 V0 λVs U6 ρ₂ P9 T5 N7=>W _ U6 ρ₂ P9 (L2.cons (T3.ext z.g.toGood N7 k2.1.1) T5) (N0.trans k1.1 N7))⟩,
 λpos=>⟨l,λz W=>wpAny_evalAll_cons (ab (k1.run z λV U4 V4 V0 T3 N0=>ab (a8 (af ((k2.2.1 pos).2 V0 λVs U6 ρ₂ P9 T5 N7=>W _ U6 ρ₂ P9 (L2.cons (T3.ext z.g.toGood N7 k2.1.1) T5) (N0.trans k1.1 N7))))))⟩,
 aB Nat.succ k2.2.2.1,λx hx=>(aH.mp hx).elim (λq=>q▸hs) (k2.2.2.2 x)⟩
theorem Jd(K:dC cx F){k}(h:v3 F d (cvL (cvE n) es) c H k=some z)(w:∀vs H',EvL cx d es c H.L vs H'.L->k vs H'=some z->P):P:=by
 cases es with
 |nil=>exact w _ H .nil h
 |cons e r=>exact K.ev h λv O7 k1 h'=>K.evs h' λvs H₂ k2 h'=>w _ H₂ (EvL.cons k1 k2 (K.ns h)) h'
theorem sD{r:List Expr}:∀e,dD e=false->starEach (e::r) env=(false,eval e env)::starEach r env:=λe=>by
 cases e<;>first | exact λ_=>rfl | exact λh=>absurd h.symm ah
theorem gH{es:List Expr}{pos:Pos}(hs:∀e∈es,dD e=false):backTo pos (starEach es env)=es.map λe=>(false,eval e env):=by
 induction es with
 |nil=>rfl
 |cons e r ih=>
  rw[sD e (hs e (.head _))];show _::backTo pos (starEach r env)=_;rw[ih λe h=>hs e (.tail _ h)];rfl
theorem jl{y:Nat}{pos:Pos}(hy:y<185)(h:name c H y=some v):EvE cx d (.Name (nmF y) pos) c H.L v H.L:=
 dq h λkd hk h=>by
  have cell:∀h:(opt (lk y c.cells) λi=>ua H i id)=some v,∃i,lk y c.cells=some i/\H.L[i]? = some (.cell (some v)):=λh=>dq h λi hi h=>rb h λo ho h=>⟨i,hi,by rw[<-show o=some v from h];exact dA ho⟩;cases kd with
  | «local»=>exact yn h λm hm h=>.loc hk (dA hm) hy h
  |cell=>refine dm (cell h) λi h1 h2=>?_;exact .cell (.inl hk) h1 h2
  |free=>refine dm (cell h) λi h1 h2=>?_;exact .cell (.inr hk) h1 h2
  |globalExplicit=>exact nn h
  |globalImplicit=>exact .glo hk h
theorem Bf(K:dC cx F){pos:Pos}{k}(h:GX F d (cvL (cvE n) es) c H k=some z)(w:∀v H',EvE cx d (.List es pos) c H.L v H'.L->k v H'=some z->P):P:=
 K.evs h λvs O7 k1 h=>ifE h λhl h=>gx h λr H' hn h=>kI hn λer eH=>w r H' (by
  rw[er,eH];refine⟨ae k1.1.1 (eQ _ _),λz W=>wpAny_List ?_⟩;rw[gH k1.2.2.2];exact k1.1.run z λVs U4 V4 V0 T3 N0=>⟨by rw[<-L2.len T3];exact ae (leb hl) dB,(W.on N0 k1.1.1).mk z.g.toGood V0.sr (ad _) λE'=>kz (aw _ rfl) (IsL.ext z.g.toGood E' (aC _) T3)⟩) h
theorem tJ{n V}(h:ja a=true)(i:Is cx s ρ n a V):Is0 cx s ρ n a V:=by
 revert h i;exact AV.three (M:=λa=>ja a=true->Is cx s ρ n a V->Is0 cx s ρ n a V) (λ_ h _=>nomatch h) (λ_ _ h _=>nomatch h) (λx h1 _ _ i=>by rw[h1]at i;exact i) a
theorem zN(K:dC cx F){kk:Nat}{pos:Pos}{k}(h:F3 F d (cvL (cvE n) es) c H k=some z)(w:∀v H',EvE cx d (.Tuple es kk pos) c H.L v H'.L->k v H'=some z->P):P:=
 K.evs h λvs O7 k1 h=>ifE h λq h=>w _ O7 ⟨k1.1.1,λz W=>wpAny_Tuple (by
  rw[gH k1.2.2.2];refine k1.1.run z λVs U4 V4 V0 T3 N0=>⟨by rw[<-L2.len T3];exact ae (leb (aa q).1) dB,?_⟩;have key:=V0.sr.grow z.g.toGood (hp:=U4.heap.push { cls:=.type "tuple",data:=.seq Vs.toArray}) (t:=U4.toks) (λa o e=>am _ e) (ad _);exact W _ _ V4 key.1 ⟨_,Vs.toArray,0,rfl,aw _ rfl,(IsL.ext z.g.toGood key.2 (ad _) T3).mono λx hx V i=>tJ (aA.mp (aa q).2 x hx) i⟩ (N0.trans k1.1.1 key.2))⟩ h
theorem BK{pos:Pos}(h:new H (.dict [])=some (r,H')):EvE cx d (.Dict [] [] pos) c H.L r H'.L:=kI h λer eH=>by
 rw[er,eH];exact⟨eQ _ _,λz W=>wpAny_Dict_empty (W.mk z.g.toGood z.sr (ad _) λE'=>⟨[],Heap.DictOf.new _,rfl,rfl⟩)⟩
theorem CL(K:dC cx F){pos:Pos}{k}(h:Gp F d (cvE n x) c H k=some z)(w:∀v H',TrE cx d (.UnaryOp .Not x pos) c H.L v H'.L->k v H'=some z->P):P:=
 K.tr h λt O7 k1 h=>w _ O7 ⟨k1.1,λz W=>wpAny_isTrue_Not (k1.2 z λu U4 V4 P8 T3 N0=>W _ U4 V4 P8 (by rw[T3]) N0)⟩ h
theorem EU(K:dC cx F){k}(he:∀env whole,isTrue x env whole=(do let v <-whole;standAt x.pos;holding [v] (truthy v)))(h:ID F d (cvE n x) c H k=some z)(w:∀v H',TrE cx d x c H.L v H'.L->k v H'=some z->P):P:=
 K.ev h λa O7 k1 h=>dq h λt ht h=>w t O7 ⟨k1.1,λz W=>wpAny_isTrue_value (k1.run z λU U4 V4 V0 T3 N0=>lO ht V0.un T3 λk hk=>W _ _ V4 (V0.sr.toks z.g.toGood hk).1 rfl (N0.trans k1.1 (V0.sr.toks z.g.toGood hk).2)) (he _ _)⟩ h
theorem vo.test{op:BoolOp}{pos:Pos}(k:vo cx d op es c HL t HL'):TrE cx d (.BoolOp op es pos) c HL t HL':=⟨k.1,λz W=>wpAny_isTrue_BoolOp (k.2 z W)⟩
theorem qb:∀{es:List Expr} {s:Shared} {Q:Bool->Shared->Prop},Q false s->wpAny (model pw cx.w) A (forIn es false (ze env)) Q E s
 | [],s,Q,h=>by rw[cX];exact af h
 |e::r,s,Q,h=>by
  rw[bL];show wpAny _ _ (pure (ForInStep.yield false) >>= _) _ _ _;exact ab (af (qb h))
theorem rX{Q:Bool->Shared->Prop}(h:wpAny (model pw cx.w) A (isTrue e env (eval e env)) (λb U4=>wpAny (model pw cx.w) A (forIn es b (ze env)) Q E U4) E s):wpAny (model pw cx.w) A (forIn (e::es) true (ze env)) Q E s:=by
 rw[bL];show wpAny _ _ ((isTrue e env (eval e env) >>= λok=>pure (ForInStep.yield ok)) >>= _) _ _ _;exact ab (ab (bq h (λb U4 S5=>af S5) λ_ _ x=>x))
theorem DM(K:dC cx F){k}(h:r9 F d (cvL (cvE n) es) c H k=some z)(w:∀t H',vo cx d .And es c H.L t H'.L->Hi cx d es c H.L t H'.L->k t H'=some z->P):P:=by
 cases es with
 |nil=>exact w true H ⟨ad _,λz W=>wpAny_allTrue_And_nil (W _ _ _ z.sr rfl .refl)⟩ ⟨ad _,λz W=>by show wpAny _ _ (forIn [] true _) _ _ _;rw[cX];exact af (W _ _ _ z.sr rfl .refl)⟩ h
 |cons e r=>
  exact K.tr h λt O7 k1 h=>gC h (λet h=>K.ands h λu H₂ k2 k3 h=>w u H₂ ⟨ae k1.1 k2.1,λz W=>wpAny_allTrue_And_cons (k1.run z λb U4 V4 V0 T3 N0=>by rw[T3,et];exact k2.2 V0 (W.on N0 k1.1))⟩
    ⟨ae k1.1 k2.1,λz W=>rX (k1.run z λb U4 V4 V0 T3 N0=>by rw[T3,et];exact k3.2 V0 (W.on N0 k1.1))⟩ h)
   λet h=>w false O7 ⟨k1.1,λz W=>wpAny_allTrue_And_cons (k1.2 z λb U4 V4 P8 T3 N0=>by rw[T3,et];exact W _ U4 V4 P8 rfl N0)⟩ ⟨k1.1,λz W=>rX (k1.2 z λb U4 V4 P8 T3 N0=>by rw[T3,et];exact qb (W _ U4 V4 P8 rfl N0))⟩ h
theorem Jf(K:dC cx F){k}(h:wy F d (cvL (cvE n) es) c H k=some z)(w:∀t H',vo cx d .Or es c H.L t H'.L->k t H'=some z->P):P:=by
 cases es with
 |nil=>exact w false H ⟨ad _,λz W=>wpAny_allTrue_Or_nil (W _ _ _ z.sr rfl .refl)⟩ h
 |cons e r=>
  exact K.tr h λt O7 k1 h=>gC h (λet h=>w true O7 ⟨k1.1,λz W=>wpAny_allTrue_Or_cons (k1.2 z λb U4 V4 P8 T3 N0=>by rw[T3,et];exact W _ U4 V4 P8 rfl N0)⟩ h)
   λet h=>K.ors h λu H₂ k2 h=>w u H₂ ⟨ae k1.1 k2.1,λz W=>wpAny_allTrue_Or_cons (k1.run z λb U4 V4 V0 T3 N0=>by rw[T3,et];exact k2.2 V0 (W.on N0 k1.1))⟩ h
end
noncomputable def iy(cx:Cx)(d:Nat)(a b:AV)(HL:List AO)(v:AV):Prop:=
 ∀{A s ρ U V} {Q:Value->Shared->Prop} {E},Un cx d HL A s ρ->Is cx s ρ HL.length a U->Is cx s ρ HL.length b V->gy cx ρ HL s v HL Q->SubscriptOn (model pw cx.w) A U V Q E s
section
variable {cx:Cx} {d n m:Nat} {H H' O7 H₂:TH} {HL HL':List AO} {r a b v a' b' v':AV} {t:Bool} {F:Fns} {c:IE} {z:AF×TH} {P:Prop} {e l x o i:Expr} {es:List Expr} {A:Around} {s U4:Shared} {ρ V4:Nat->Addr} {env:Env} {E:Value->Shared->Prop} {j:Int}
theorem qZ(h:(fZ j&&decide (0<=j))=true):0<=j/\j<2 ^ 62:=by
 have h1:=dec (aa h).1;have h2:=dec (aa h).2;exact⟨h2,by omega⟩
theorem iy.of(e1:a=a')(e2:b=b')(e3:v'=v)(k:iy cx d a' b' HL v'):iy cx d a b HL v:=by subst e1;subst e2;subst e3;exact k
theorem Nf(h:j<2 ^ 62):j<2 ^ 63:=Int.lt_of_lt_of_le h (by decide)
theorem qv{k n:Nat}(hk:k<n):seqIndex? (k:Int) n=some k:=by
 unfold seqIndex?;rw[aF (Int.not_lt.mpr (bX k))];rw[aI (by rw[bF,aR,aR];exact⟨bX k,cF.mpr hk⟩)];rfl
theorem t9{α:Type}{Vs:Array α}{k:Nat}{X:α}(h:Vs[k]? = some X):k<Vs.size:=(Array.getElem?_eq_some_iff.mp h).1
theorem iy.list{k:Nat}{xs}(hx:HL[k]? = some (.list xs))(q:(fZ j&&decide (0<=kQ xs.length j))=true)(hv:xs[(kQ xs.length j).toNat]? = some v):iy cx d (.ref k) (.int j) HL v:=λ{A s ρ U V Q E} u iU iV W=>by
 refine dm iV λt e _=>?_;rw[iU.1,e];refine dm (u.sr.own _ _ hx) λVs p l=>?_;have hV:=p.isList;refine l.getE hv λX hX iX=>⟨"list",_,F.slot_list_getitem.lookup,hV.typeIs,?_⟩;have hX':Vs[(kQ xs.length j).toNat]? = some X:=by rw[<-hX,bz]
 have q1:=dec (aa q).1;have q2:=dec (aa q).2;have hs:=t9 hX';have hsz:=l.size;unfold kQ at q2 hX' hs;cases hj:decide (j<0) with
 |true=>
  have hj':=dec hj;rw[hj]at q2 hX' hs;exact wpAny_getItem_list_neg hV hj' (by rw[hsz];have q2:0<=j+(xs.length:Int):=q2;omega) (by omega) (by rw[hsz];exact hX') (W.here u.sr iX)
 |false=>
  have hj':¬ j<0:=of_decide_eq_false hj;rw[hj]at q2 hX' hs;exact wpAny_getItem_list hV (by omega) (by omega) hX' (W.here u.sr iX)
theorem iy.dict{k:Nat}{es y}(hx:HL[k]? = some (.dict es))(ho:sy y es=some (some v)):iy cx d (.ref k) (.str y) HL v:=λu iU iV W=>by
 obtain⟨t,e⟩:=iV;rw[iU.1,e];refine dm (u.sr.own _ _ hx) λkvs hD R=>?_;refine dm (lq ho R) λX e iX=>?_;exact⟨"dict",_,F.slot_dict_getitem.lookup,hD.typeIs,wpAny_getItem_of (knd:=strKind pw cx.w) (k:=rs cx.σ y) (ce _ _ _ _) hD.mapOf e (W.now u.g.toGood u.sr (aC _) (iX.ext u.g.toGood (u.sr.toks u.g.toGood (aC _)).2 (ad _)))⟩
theorem iy.tup{xs}(q:(fZ j&&decide (0<=j))=true)(hv:xs[j.toNat]? = some v):iy cx d (.tup xs) (.int j) HL v:=λu iU iV W=>by
 refine dm iV λt e _=>?_;refine gw iU λta Vs ep e' hV l=>?_;rw[e,e'];refine l.getE hv λX hX iX=>?_;have hX':Vs[j.toNat]? = some X:=by rw[<-hX,bz]
 have q1:=qZ q;obtain⟨k,rfl⟩:=bY q1.1;have hs:k<Vs.size:=t9 hX';exact⟨"tuple",_,F.slot_tuple_getitem.lookup,⟨_,hV,rfl⟩,PyProof.Rows.getItem_tuple ⟨_,hV,rfl,ep,rfl⟩ (by omega) (by omega) (qv hs) hX' (W.here u.sr iX.is)⟩
theorem iy.str{l:List Nat}{y}(q:(fZ j&&decide (0<=j))=true)(hv:l[j.toNat]? = some y):iy cx d (.str l) (.int j) HL (.str [y]):=λu iU iV W=>by
 obtain⟨t,e,_⟩:=iV;obtain⟨t',e'⟩:=iU;rw[e,e'];have q1:=qZ q;obtain⟨k,rfl⟩:=bY q1.1;have hv:l[k]? = some y:=hv;have hs:k<(rs cx.σ l).length:=by rw[dO];exact(aG.mp hv).1
 refine⟨"str",_,F.slot_str_getitem.lookup,cB _ _ _,PySem.P.getItem_str (c:=ph cx.σ y) (by simp;omega) ?_ (W.str u.g.toGood u.sr (l:=[y]))⟩;rw[qv hs];show(l.map (ph cx.σ)).toArray[k]? = _;rw[List.getElem?_toArray,aP,hv];rfl
theorem EQ(h:xO a b H=some v):iy cx d a b H.L v:=
 orE h (λh=>dP h λk e h=>orE h (λh=>dM h λj e' h=>dG h λxs hx h=>ifE h λq h=>iy.of e e' rfl (iy.list (dA hx) q h))
  λh=>dL h λy e' h=>gJ h λes hx h=>dq h λo ho h=>iy.of e e' rfl (iy.dict (dA hx) (by rw[ho,<-show o=some v from h]))) λh=>
 dM h λj e' h=>ifE h λq h=>orE h (λh=>uE h λxs e h=>iy.of e e' rfl (iy.tup q h)) λh=>dL h λl e h=>dq h λy hy h=>so h λz=>iy.of e e' z (iy.str q hy)
theorem Fe{sl:Expr}(hs:jk sl=false)(U V:Value):subscripted sl false U V=operate [U,V] (getItem U V):=by
 cases sl<;>first | rfl | exact tF hs
theorem yQ(K:dC cx F){pos:Pos}{k}(hs:jk i=false)(h:F5 F d (cvE n o) (cvE n i) c H k=some z)(w:∀v H',EvE cx d (.Subscript o i pos) c H.L v H'.L->k v H'=some z->P):P:=
 K.ev h λa O7 k1 h=>K.ev h λb H₂ k2 h=>dq h λv hv h=>w v H₂ ⟨ae k1.1 k2.1,λz W=>by
  rw[eval_Subscript];refine ab (k1.run z λU U4 V4 V0 T3 N0=>ab (aN (k2.run V0 λV U6 ρ₂ V1 T5 N7=>ab (a8 ?_))));obtain⟨T,id,hl,hT,hg⟩:=EQ hv (E:=_) V1.un (T3.ext z.g.toGood N7 k2.1) T5 (W.on (N0.trans k1.1 N7) (ae k1.1 k2.1));refine ab ?_;rw[getitemInPython_of_ne hT.not_modules];refine ab (wpAny_specialOf hT hl (af ?_));rw[Fe hs];exact ab (wpAny_operating (bq hg (λr U7 S8=>ab (wpAny_letTemporaryGo (af S8))) λ_ _ x=>x))⟩ h
noncomputable def gq(cx:Cx)(d:Nat)(a l u w:AV)(HL:List AO)(r:AV)(HL':List AO):Prop:=
 HL.length<=HL'.length/\∀{A s ρ U L' U' W' sl} {Q:Value->Shared->Prop} {E},Un cx d HL A s ρ->Is cx s ρ HL.length a U->Is cx s ρ HL.length l L'->Is cx s ρ HL.length u U'->Is cx s ρ HL.length w W'->s.heap.IsSliceOf sl L' U' W'->gy cx ρ HL s r HL' Q->
  SubscriptOn (model pw cx.w) A U (.ref sl) Q E s
theorem gq.of{l u w l' u' w' r'}(e1:a=a')(e2:l=l')(e3:u=u')(e4:w=w')(e5:r'=r)(k:gq cx d a' l' u' w' HL r' HL'):gq cx d a l u w HL r HL':=by subst e1;subst e2;subst e3;subst e4;subst e5;exact k
theorem rc{h:Shared}{n}{x:AV}{V:Value}{p:Option Int}(e:fQ x=some p)(i:Is cx h ρ n x V):IsPart V p:=
 orE e (λe=>io e λq e=>so e λz=>by rw[q]at i;rw[show V = .none from i,<-z];exact .none) λe=>dM e λk q e=>so e λz=>by rw[q]at i;refine dm i λt e _=>?_;rw[e,<-z];exact .int _ _
theorem L2.picks{I xs Vs}(l:L2 I xs Vs):∀js:List Nat,L2 I (js.filterMap (xs[·]?)) (js.filterMap (Vs[·]?))
 | []=>rfl
 |j::js=>by
  have ih:=L2.picks l js;rw[cU,cU];cases hn:xs[j]? with
  |some x=>exact l.getE hn λV hV i=>by rw[hV];exact L2.cons i ih
  |none=>
   rw[cC.mpr (by rw[<-l.len];exact cC.mp hn)];exact ih
noncomputable def sJ(cx:Cx)(i:Nat)(ns:List Int):Prop:=∃Vs:Array Value,PlainL cx.hs i Vs/\∀{s ρ n},IsL cx s ρ n (ns.map .inu) Vs.toList
theorem tS{sl x:Addr}{Vs:Array Value}{xs l u w lo hi st}{L' U' W':Value}{Q:Value->Shared->Prop}(p1:fQ l=some lo)(p2:fQ u=some hi)(p3:fQ w=some st)(q:(Nat.ble xs.length dn&&decide (st≠some 0))=true)
  (v:Un cx d HL A s ρ) (p:PlainL s.heap x Vs) (il:IsL cx s ρ HL.length xs Vs.toList) (i1:Is cx s ρ HL.length l L') (i2:Is cx s ρ HL.length u U') (i3:Is cx s ρ HL.length w W') (hs:s.heap.IsSliceOf sl L' U' W') (W:gy cx ρ HL s (.ref HL.length) (HL++[.list (lX lo hi st xs)]) Q) :
  SubscriptOn (model pw cx.w) A (.ref x) (.ref sl) Q E s:=by
 refine⟨"list",_,list_getitem_lookup,p.isList.typeIs,wpAny_getItem_list_slice p.isList hs (rc p1 i1) (rc p2 i2) (rc p3 i3) (dec (aa q).2) ?_ (by rw[il.size];exact ae (leb (aa q).1) dB)⟩;refine W.mk v.g.toGood v.sr (ad _) λE'=>kz (aw _ rfl) ?_;have e:(slicePick Vs lo hi st).toList=(sliceRange (sliceBounds lo hi st xs.length).1 (sliceBounds lo hi st xs.length).2.1 (sliceBounds lo hi st xs.length).2.2).filterMap (Vs.toList[·]?):=by
  simp[slicePick,il.size]
 rw[e];exact IsL.ext v.g.toGood E' (aC _) (il.picks _)
theorem gq.ext{i:Nat}{ns l u w lo hi st}(X:sJ cx i ns)(p1:fQ l=some lo)(p2:fQ u=some hi)(p3:fQ w=some st)(q:(Nat.ble (ns.map AV.inu).length dn&&decide (st≠some 0))=true):
  gq cx d (.st i) l u w HL (.ref HL.length) (HL++[.list (lX lo hi st (ns.map .inu))]):=
 ⟨eQ _ _,λv iA i1 i2 i3 hs W=>by
  rw[show _=_ from iA];refine dm X λVs OA il=>?_;refine kK OA λo m e r=>?_;exact tS p1 p2 p3 q v ⟨o,m,v.sr.keep _ _ e,r⟩ il i1 i2 i3 hs W⟩
theorem gq.list{k:Nat}{xs l u w lo hi st}(hx:HL[k]? = some (.list xs))(p1:fQ l=some lo)(p2:fQ u=some hi)(p3:fQ w=some st)(q:(Nat.ble xs.length dn&&decide (st≠some 0))=true):
  gq cx d (.ref k) l u w HL (.ref HL.length) (HL++[.list (lX lo hi st xs)]):=
 ⟨eQ _ _,λv iA i1 i2 i3 hs W=>by
  rw[iA.1];refine dm (v.sr.own _ _ hx) λVs p il=>?_;exact tS p1 p2 p3 q v p il i1 i2 i3 hs W⟩
theorem KE(σ:eO)(t:List Nat)(n i:Nat)(hi:i+n<=t.length):((List.range n).map (λk=>i+k)).filterMap ((rs σ t).cps[·]?)=((t.drop i).take n).map (ph σ):=by
 have:=StrLaws.sliced_plain (rs σ t) (a:=i) (b:=i+n) (aK _ _) (by rw[dO];exact hi);rw[StrLaws.strSliceIndices_plain (aK _ _) (by rw[dO];exact hi),cQ]at this;rw[this,fJ,List.map_take,List.map_drop]
theorem MN{t y:List Nat}{tk:Tok}{p q:Option (Int×Tok)}{js:List Nat}{Q:Value->Shared->Prop}(hj:slicePicked (rs cx.σ t) p q none=js)(hl:t.length<=dn)(hf:js.filterMap ((rs cx.σ t).cps[·]?)=y.map (ph cx.σ))(hy:y.length<=t.length)(he:js.length=t.length->y=t)(g:Cok cx)(S:SR cx ρ HL s)(W:gy cx ρ HL s (.str y) HL Q):
  (sliceMade (rs cx.σ t) tk p q none).post Q s:=by
 unfold sliceMade;rw[hj,hf];cases q2:((Option.map (·.1) (none:Option (Int×Tok))).getD 1 == 1&&js.length == (rs cx.σ t).length) with
 |true=>
  rw[aI rfl];have:=bW (aa q2).2;rw[dO]at this;have:=he this;subst this;exact W.here S ⟨_,rfl⟩
 |false=>
  rw[aF ah];refine⟨?_,W.str g.toGood S⟩;show(y.map (ph cx.σ)).length<=_;rw[aq];exact ae hy (ae hl dB)
theorem tE{t:List Nat}(q:oG j t=true):∃k:Nat,j=k/\k<=t.length/\t.length<=dn:=by
 obtain⟨k,rfl⟩:=bY (dec (aa (aa q).1).1);exact⟨k,rfl,Int.ofNat_le.mp (dec (aa (aa q).1).2),leb (aa q).2⟩
theorem gq.from{t:List Nat}(q:oG j t=true):gq cx d (.str t) (.int j) .none .none HL (.str (t.drop j.toNat)) HL:=
 ⟨ad _,λv iA i1 i2 i3 hs W=>by
  refine dz (tE q) λk OA hk hl=>?_;subst OA;obtain⟨tk,e⟩:=iA;refine dm i1 λti e1 _=>?_;rw[e1,show _=Value.none from i2,show _=Value.none from i3]at hs;rw[e];refine⟨"str",_,F.slot_str_getitem.lookup,cB _ _ _,wpAny_getItem_str_slice (l:=some ((k:Int),ti)) (u:=none) (st:=none) hs rfl (MN ?_ hl (KE cx.σ t (t.length - k) k (by rw[cV hk];exact ad _)) ?_ ?_ v.g v.sr ?_)⟩
  ·show Builtin.Str.strSliceIndices (some (k:Int)) none 1 (rs cx.σ t).length=_
   rw[dO,StrLaws.sliceIdx_none_hi];exact StrLaws.strSliceIndices_plain hk (ad _)
  ·rw[List.length_take,List.length_drop,Nat.min_self];exact Nat.sub_le _ _
  ·intro h
   rw[aq,cp]at h;have:k=0\/t.length=0:=(Nat.eq_zero_or_pos t.length).elim .inr λq=>.inl ((Nat.eq_zero_or_pos k).resolve_right λp=>aO (Nat.sub_lt q p) h);rcases this with h | h
   ·rw[h];exact List.take_length
   ·rw[cP h,List.drop_nil,List.take_nil]
  ·rw[b8 (by rw[List.length_drop];exact ad _)];exact W⟩
theorem gq.upto{t:List Nat}(q:oG j t=true):gq cx d (.str t) .none (.int j) .none HL (.str (t.take j.toNat)) HL:=
 ⟨ad _,λv iA i1 i2 i3 hs W=>by
  refine dz (tE q) λk OA hk hl=>?_;subst OA;obtain⟨tk,e⟩:=iA;refine dm i2 λti e2 _=>?_;rw[e2,show _=Value.none from i1,show _=Value.none from i3]at hs;rw[e];refine⟨"str",_,F.slot_str_getitem.lookup,cB _ _ _,wpAny_getItem_str_slice (l:=none) (u:=some ((k:Int),ti)) (st:=none) hs rfl (MN ?_ hl (KE cx.σ t k 0 (by rw[aY];exact hk)) ?_ ?_ v.g v.sr W)⟩
  ·show Builtin.Str.strSliceIndices none (some (k:Int)) 1 (rs cx.σ t).length=_
   rw[dO,StrLaws.sliceIdx_none_lo];exact StrLaws.strSliceIndices_plain (a:=0) (bj _) hk
  ·rw[List.drop_zero,List.length_take];exact Nat.min_le_right _ _
  ·intro h
   rw[aq,cp]at h;rw[h,List.drop_zero,List.take_length]⟩
theorem gq.to{l u w r'}{K:TH}(h:some (r',K)=some (r,H'))(k:gq cx d a l u w HL r' K.L):gq cx d a l u w HL r H'.L:=sp (P:=λr (H':TH)=>gq cx d a l u w HL r H'.L) h k
theorem Bq{l u w:AV}(h:GU a l u w H=some (r,H')):gq cx d a l u w H.L r H'.L:=
 orE h (λh=>dP h λk e h=>dG h λxs hx h=>dq h λlo p1 h=>dq h λhi p2 h=>dq h λst p3 h=>ifE h λq h=>kI h λer eH=>gq.of e rfl rfl rfl er.symm (eH▸gq.list (dA hx) p1 p2 p3 q)) λh=>
 dL h λt e h=>io h λe3 h=>orE h (λh=>dM h λj e1 h=>io h λe2 h=>ifE h λq h=>gq.to h (gq.of e e1 e2 e3 rfl (gq.from q)))
  λh=>io h λe1 h=>dM h λj e2 h=>ifE h λq h=>gq.to h (gq.of e e1 e2 e3 rfl (gq.upto q))
theorem xQ{X:Nat->Option (List Int)}(hX:∀i ns,X i=some ns->sJ cx i ns){l u w:AV}(h:B8 X a l u w H=some (r,H')):gq cx d a l u w H.L r H'.L:=
 yN h λk e h=>dq h λns hx h=>dq h λlo p1 h=>dq h λhi p2 h=>dq h λst p3 h=>ifE h λq h=>kI h λer eH=>gq.of e rfl rfl rfl er.symm (eH▸gq.ext (hX k ns hx) p1 p2 p3 q)
theorem rO(K:dC cx F){o:Option Expr}{k}(h:F.ev d (cvO (cvE n) o) c H k=some z)(w:∀v H',Do cx d c H.L (evalPart o) H'.L (λs' ρ' V=>Is cx s' ρ' H'.L.length v V)->k v H'=some z->P):P:=by
 cases o with
 |none=>exact K.nul h λh=>w .none H ⟨ad _,λz W=>wpAny_evalPart_none (W.here z.sr rfl)⟩ h
 |some e=>exact K.ev h λv H' k1 h=>w v H' ⟨k1.1,λz W=>wpAny_evalPart_some (k1.2 z W)⟩ h
noncomputable abbrev PtE(cx:Cx)(d:Nat)(o:Option Expr)(c:IE)(H:List AO)(r:AV)(H':List AO):Prop:=Do cx d c H (evalPart o) H' λs' ρ' V=>Is cx s' ρ' H'.length r V
theorem Dm{st l u:Option Expr}{q:Pos}{U V:Value}{Q:Value->Shared->Prop}(hg:wpAny (model pw cx.w) A (getItem U V) Q E s):wpAny (model pw cx.w) A (subscripted (.Slice l u st q) false U V >>= λr=>letTemporaryGo o U r >>= λ_=>pure r) Q E s:=by
 have fin:∀vs,wpAny (model pw cx.w) A (operate vs (getItem U V) >>= λr=>letTemporaryGo o U r >>= λ_=>pure r) Q E s:=
  λvs=>ab (wpAny_operating (bq hg (λr U7 S8=>ab (wpAny_letTemporaryGo (af S8))) λ_ _ x=>x))
 cases st with
 |none=>exact fin _
 |some st=>exact fin _
theorem EvE.slc{l u st:Option Expr}{q pos:Pos}{x y w:AV}{O7 H₂ O8 O9:List AO}(k1:EvE cx d o c HL a O7)(k2:PtE cx d l c O7 x H₂)(k3:PtE cx d u c H₂ y O8)(k4:PtE cx d st c O8 w O9)(hs:gq cx d a x y w O9 r HL'):EvE cx d (.Subscript o (.Slice l u st q) pos) c HL r HL':=by
 have l12:=ae k1.1 k2.1;have l34:=ae k3.1 k4.1;refine⟨ae l12 (ae l34 hs.1),λ{A s ρ env Q E} z W=>?_⟩;have g:=z.g.toGood;rw[eval_Subscript];refine ab (k1.run z λU U4 V4 V0 T3 N0=>ab (aN (wpAny_Slice (k2.run V0 λX U6 ρ₂ V1 T5 N7=>k3.run V1 λY U7 V5 V2 T6 N9=>k4.run V2 λZ U8 V6 V3 T7 O2=>ab (a8 ?_)))));have key:=V3.sr.grow g (hp:=U8.heap.push { cls:=.type "slice",data:=.fields #[X,Y,Z]}) (t:=U8.toks) (λa o e=>am _ e) (ad _);have O0:=O2.trans k4.1 key.2;have N8:=N9.trans k3.1 O0;have N6:=N7.trans k2.1 N8;refine dx (hs.2 (E:=E) ⟨z.g,z.ok,key.1⟩ (T3.ext g N6 (ae k2.1 l34)) (T5.ext g N8 l34) (T6.ext g O0 k4.1) (T7.ext g key.2 (ad _)) (sl:=U8.heap.objs.size) ⟨_,aw _ rfl,rfl,rfl⟩ (W.on (N0.trans k1.1 N6) (ae l12 l34))) λT id hl hT hg=>?_;refine ab ?_;rw[getitemInPython_of_ne hT.not_modules];exact ab (wpAny_specialOf hT hl (af (Dm hg)))
theorem BG{X:Nat->Option (List Int)}(hX:∀i ns,X i=some ns->sJ cx i ns)(K:dC cx F){l u st:Option Expr}{q pos:Pos}{k}(h:GV F d X (cvE n o) (cvO (cvE n) l) (cvO (cvE n) u) (cvO (cvE n) st) c H k=some z)(w:∀v H',EvE cx d (.Subscript o (.Slice l u st q) pos) c H.L v H'.L->k v H'=some z->P):P:=
 K.ev h λa O7 k1 h=>rO K h λx H₂ k2 h=>rO K h λy O8 k3 h=>rO K h λw' O9 k4 h=>gx h λr H' hs h=>w r H' (EvE.slc k1 k2 k3 k4 (orE hs Bq (xQ hX))) h
end
noncomputable def mu(cx:Cx)(d:Nat)(a b v:AV)(HL HL':List AO):Prop:=
 HL'.length=HL.length/\∀{A s ρ U V X} {Q:Unit->Shared->Prop} {E},Un cx d HL A s ρ->Is cx s ρ HL.length a U->Is cx s ρ HL.length b V->Is cx s ρ HL.length v X->(∀s',SR cx ρ HL' s'->Ext ρ HL.length s ρ s'->Q () s')->wpAny (model pw cx.w) A (setItem U V X) Q E s
section
variable {cx:Cx} {d n m:Nat} {H H' O7 H₂:TH} {HL HL':List AO} {r a b v a' b':AV} {t:Bool} {F:Fns} {c:IE} {z:AF×TH} {P:Prop} {e l x o i:Expr} {es:List Expr} {A:Around} {s U4:Shared} {ρ V4:Nat->Addr} {env:Env} {E:Value->Shared->Prop} {j:Int}
theorem L2.set{I X}:∀{xs:List AV} {Vs:List Value} {k:Nat},L2 I xs Vs->I v X->L2 I (xs.set k v) (Vs.set k X)
 | [],Vs,k,l,i=>by rw[show Vs=[] from l];exact rfl
 |x::xs,Vs,k,l,i=>by
  refine dx l λV Ws e i1 i2=>?_;rw[e];cases k with
  |zero=>exact L2.cons i i2
  |succ k=>exact L2.cons i1 (L2.set i2 i)
theorem nP{x k:Str}{V X:Value}{r:List (Str×Value)}(q:x≠k):stored ((x,V)::r) k X=(x,V)::stored r k X:=by
 unfold stored;simp only[List.any_cons,aM,q,decide_false,Bool.false_or,cm]
 split<;>rfl
theorem oE{k:Str}{V X:Value}{r:List (Str×Value)}(hn:k ∉ r.map (·.1)):stored ((k,V)::r) k X=(k,X)::r:=by
 unfold stored;simp only[List.any_cons,aM,decide_true,Bool.true_or,if_true];rw[map_store_of_not_mem r k X hn]
theorem vr{h:Shared}{k:List Nat}{X:Value}:∀{es es':List (List Nat×AV)} {kvs:List (Str×Value)},put k v es=some es'->DR cx h ρ n es kvs->(kvs.map (·.1)).Nodup->Is cx h ρ n v X->DR cx h ρ n es' (stored kvs (rs cx.σ k) X)
 | [],es',kvs,hh,R,hn,i=>by
  rw[R.nil,<-ak hh];exact DR.cons i ⟨rfl,rfl⟩
 |(x,w)::r,es',kvs,hh,R,hn,i=>by
  refine dx R.uncons λV r' OA iw R'=>?_;subst OA;have hn:=bu.mp hn;exact mI hh (λq e=>by
    have q:=bW (fF cx.σ q);rw[<-ak e,<-q,oE hn.1];exact DR.cons i R')
   (λq e=>om e λes'' h1 e=>by rw[<-e,nP (bC.mp (fF cx.σ q))];exact DR.cons iw (vr h1 R' hn.2 i)) nn
theorem nR{prog:Program}{w:World}{A:Around}{E:Value->Shared->Prop}{s:Shared}{l:Addr}{items:Array Value}{k:Int}{t:Tok}{v:Value}{Q:Unit->Shared->Prop}(hp:PlainL s.heap l items)
  (h0:0<=k) (hfit:k<2 ^ 63) (hn:k<items.size)
  (hQ:∀h',PlainL h' l (items.setIfInBounds k.toNat v)->Heap.SameBut l s.heap h'->Q () { s with heap:=h'}) :
  wpAny (model prog w) A (setItem (.ref l) (.int k t) v) Q E s:=by
 have hl:=hp.isList;refine fR (id hp) λo ne ho hc hdn hd=>?_;unfold setItem
 try with_reducible refine aN ?_
 first | refine ab (af ?_) | skip
 refine ab (wpAny_sequenceKey hl.typeIs (by decide) ?_);refine ab (cR (name:=Str.ofString "__setitem__") hl.typeIs F.slot_list_setitem
  (cg F.slot_list_setitem hl.typeIs F.entry_list_setitem ?_ (F.args_list_setitem_3 _ _ _)))
 show wpAny _ _ (Builtin.List.listSubscript? (.int k t) >>= _) _ _ s;refine ab (wpAny_listSubscript_int (fitsIndex_of h0 hfit) ?_);clear hfit;obtain⟨j,rfl⟩:=bY h0;have hj:j<items.size:=cF.mp hn;have hx':items[j]? = some items[j]:=Array.getElem?_eq_getElem hj;show wpAny _ _ ((seqItemAt l j >>= λr=>pure (r.map (j,·))) >>= _) _ _ s;refine ab (ab (wpAny_seqItemAt ho hd (af ?_)));rw[hx'];show wpAny _ _ (setSeqItemAt l j v >>= _) _ _ s;obtain⟨n',hd'⟩:=Obj.data_mapSeq hd (·.setIfInBounds j v);have hfin:PlainL (s.heap.update l (Obj.mapSeq (·.setIfInBounds j v))) l (items.setIfInBounds j v):=by
  refine⟨_,n',ba _ ho (Obj.isFreed_of_seq hd'),(Obj.cls_mapSeq ..).trans hc,?_,hd'⟩;obtain⟨c,d,dt,sl⟩:=o;subst hd;exact hdn
 refine ab (wpAny_setSeqItemAt ho hd ?_)
 first
  |exact ab (af (af ⟨.none,rfl,af (hQ _ hfin (bD ..))⟩))
  |exact af ⟨.none,rfl,af (hQ _ hfin (bD ..))⟩
theorem mu.of(e1:a=a')(e2:b=b')(k:mu cx d a' b' v HL HL'):mu cx d a b v HL HL':=by subst e1;subst e2;exact k
theorem mu.list{k:Nat}{xs}(hx:HL[k]? = some (.list xs))(q:(fZ j&&decide (0<=j)&&decide (j.toNat<xs.length))=true):mu cx d (.ref k) (.int j) v HL (HL.set k (.list (xs.set j.toNat v))):=
 ⟨aE,λu iU iV iX W=>by
  refine dm iV λt e _=>?_;rw[iU.1,e];refine dm (u.sr.own _ _ hx) λVs hV l=>?_;have q1:=qZ (aa q).1;have q2:=dec (aa q).2;obtain⟨k',rfl⟩:=bY q1.1;refine nR hV q1.1 (Nf q1.2) (cF.mpr (by rw[l.size];exact q2)) λh' hl hs=>?_;have key:=u.sr.set (hp:=h') (t:=_) (o':=.list (xs.set ((k':Int)).toNat v)) u.g.toGood hx rfl (λa o ha e=>(hs.2 a ha).trans e) (ad _) λE'=>⟨_,hl,by
   rw[Array.toList_setIfInBounds];exact(IsL.ext u.g.toGood E' (ad _) l).set (iX.ext u.g.toGood E' (ad _))⟩
  exact W _ key.1 key.2⟩
theorem mu.dict{k:Nat}{y es es'}(hx:HL[k]? = some (.dict es))(hl:Nat.ble es.length dn=true)(h:put y v es=some es'):mu cx d (.ref k) (.str y) v HL (HL.set k (.dict es')):=
 ⟨aE,λu iU iV iX W=>by
  obtain⟨t,e⟩:=iV;rw[iU.1,e];refine dm (u.sr.own _ _ hx) λkvs hD R=>?_;have hnd:(kvs.map (·.1)).Nodup:=by refine CT hD λ_ _ _ _ _ _ _ _ hn=>?_;exact hn
  have hr:=vr h R hnd iX;refine wpAny_setItem_pairs (knd:=strKind pw cx.w) (k:=rs cx.σ y) (ce _ _ _ _) hD (λh' hD' hs=>?_) (by rw[jc R.1];exact ae (leb hl) dB);have key:=u.sr.set (hp:=h') (t:=_) (o':=.dict es') u.g.toGood hx rfl (λa o ha e=>(hs.2 a ha).trans e) (aC _) λE'=>⟨_,hD',hr.1,IsL.ext u.g.toGood E' (ad _) hr.2⟩;exact W _ key.1 key.2⟩
theorem FZ(h:KX a b v H=some H'):mu cx d a b v H.L H'.L:=
 dP h λk e h=>orE h (λh=>dM h λj e' h=>dG h λxs hx h=>ifE h λq h=>so h λq'=>mu.of e e' (by rw[<-q',gN hx];exact mu.list (dA hx) q))
  λh=>dL h λy e' h=>gJ h λes hx h=>ifE h λhl h=>dq h λes' hp h=>so h λq'=>mu.of e e' (by rw[<-q',gN hx];exact mu.dict (dA hx) hl hp)
theorem pR{prog:Program}{w:World}{A:Around}{E:Value->Shared->Prop}{it t:Addr}{items:Array Value}(hne:t≠it):∀(n i:Nat) (s:Shared) (Q:List Value->Shared->Prop),s.heap.IsListIter it t i->s.heap.IsList t items->i+n<=items.size->
  (∀h',h'.IsListIter it t (i+n)->Heap.SameBut it s.heap h'->Q ((items.toList.drop i).take n) { s with heap:=h'})->wpAny (model prog w) A (draw (.ref it) n) Q E s
 |0,i,s,Q,hit,_,_,hQ=>by
  show wpAny _ _ (pure []) Q E s;exact af (hQ s.heap hit (Heap.SameBut.refl ..))
 |n+1,i,s,Q,hit,ht,hle,hQ=>by
  have hlt:i<items.size:=av (bt (bI n)) hle;show wpAny _ _ (pyNext (.ref it) >>= _) Q E s;refine ab (wpAny_pyNext_list_item hit ht (x:=items[i]) (Array.getElem?_eq_getElem hlt) λS5 hit₁ S0=>?_);have S3:S5.IsList t items:=by refine dm ht λo e r=>?_;exact⟨o,(S0.2 t hne).trans e,r⟩
  have ei:i+1+n=i+(n+1):=by rw[bf,bw 1 n]
  refine ab (aN (pR hne n (i+1) _ _ hit₁ S3 (by rw[ei];exact hle) λS7 hit₂ S1=>af ?_));have hd:items.toList.drop i=items[i]::items.toList.drop (i+1):=cD (l:=items.toList) hlt;have:=hQ S7 (by rw[<-ei];exact hit₂) (S0.trans S1);rw[hd,List.take_succ_cons]at this;exact this
theorem mw{prog:Program}{w:World}{A:Around}{E:Value->Shared->Prop}{s:Shared}{t:Addr}{items:Array Value}{Q:List Value->Shared->Prop}(hh:A.handled=none)(ht:s.heap.IsList t items)
  (hQ:∀h',Heap.ExtBut s.heap.objs.size s.heap h'->Q items.toList { s with heap:=h'}):wpAny (model prog w) A (unpackItems (.ref t) items.size none) Q E s:=by
 have hlt:t≠s.heap.objs.size:=by refine dm ht λo ho _=>?_;exact aO (bk ho)
 have push:∀o',(s.heap.push o').IsList t items:=λo'=>by refine dm ht λo e r=>?_;exact⟨o,am _ e,r⟩
 unfold unpackItems;refine ab ?_;unfold notIterableAtAll;refine ab (wpAny_specialOf ht.typeIs F.slot_list_iter.lookup (af ?_));rw[aF (by exact ah)];refine ab (aN (wpAny_pyIter_list ht ?_));refine ab (aN (pR hlt items.size 0 _ _ ⟨_,aw _ rfl,rfl,rfl⟩ (push _) (by rw[aY];exact ad _) λS5 hit₁ S0=>?_));rw[List.drop_zero,b8 (by rw[be];exact ad _),aF (by rw[be];exact cO _)];have S3:S5.IsList t items:=by refine dm (push { cls:=.type "list_iterator",data:=.fields #[.ref t,.int 0 0]}) λo e r=>?_;exact⟨o,(S0.2 t hlt).trans e,r⟩
 refine ab (aN (wpAny_pyNext_list_end hh hit₁ S3 (cw (by rw[aY];exact ad _)) λS7 R8=>?_));rw[Option.isSome_none,aF ah];exact af (hQ S7 λb o hb e=>R8 b o hb (S0.extBut b o hb (am _ e)))
theorem qp{xs:List AV}(h:vA v H=some xs){V}{Q:List Value->Shared->Prop}(u:Un cx d H.L A s ρ)(i:Is cx s ρ H.L.length v V)
  (W:∀Vs s',SR cx ρ H.L s'->Ext ρ H.L.length s ρ s'->IsL cx s' ρ H.L.length xs Vs->Q Vs s'):wpAny (model pw cx.w) A (unpackItems V xs.length none) Q E s:=by
 have fin:∀(Vs:Array Value) h',IsL cx s ρ H.L.length xs Vs.toList->Heap.ExtBut s.heap.objs.size s.heap h'->Q Vs.toList { s with heap:=h'}:=λVs h' l he=>
  have key:=u.sr.grow u.g.toGood (hp:=h') (t:=s.toks) (λa o e=>he a o (aO (bk e)) e) (ad _)
  W _ _ key.1 key.2 (IsL.ext u.g.toGood key.2 (ad _) l)
 exact orE h (λh=>uE h λys e h=>so h λq=>by
   rw[e,q]at i;refine gw i λta Vs ep e hV l=>?_;rw[e,<-l.size];exact wpAny_unpackItems_tuple u.ok.hd ⟨_,hV,rfl,ep,rfl⟩ λh' he=>fin Vs h' (L2.mono l λx _ V i=>i.is) he)
  λh=>dP h λk e h=>dG h λys hx h=>so h λq=>by
   rw[e]at i;rw[q]at hx;refine dm (u.sr.own _ _ (dA hx)) λVs p l=>?_;rw[i.1,<-l.size];exact mw u.ok.hd p.isList λh' he=>fin Vs h' l he
theorem tT{es:List Expr}(hs:∀e∈es,dD e=false):assignEach es env=es.map λe=>(false,assign e env):=by
 induction es with
 |nil=>rfl
 |cons e r ih=>
  have:assignEach (e::r) env=(false,assign e env)::assignEach r env:=by have:=hs e (.head _);cases e<;>first | rfl | exact tF this
  rw[this,ih λe h=>hs e (.tail _ h)];rfl
theorem lC{y:Nat}(hy:y<185)(h:jD c H y v=some H'):rS cx c y v H.L H'.L:=
 dq h λkd hk h=>by
  cases kd with
  | «local»=>exact yn h λm hm h=>so h λq=>by rw[<-q,gN hm];exact .loc hy hk (dA hm)
  |cell=>exact dq h λi hi h=>rb h λw hw h=>so h λq=>by rw[<-q,gN hw];exact .cell hk hi (dA hw)
  |_=>exact nn h
theorem iJ:∀{bs:List (Nat×AV)} {H H':TH},p7 c bs H=some H'->ni cx c bs H.L H'.L
 | [],H,H',h=>by obtain rfl:=ak h;exact rfl
 |(x,v)::r,H,H',h=>ifE h λq h=>dq h λO7 h1 h2=>⟨O7.L,jx q,lC (jx q) h1,iJ h2⟩
theorem AsE.nm{y:Nat}{pos:Pos}(k:rS cx c y v HL HL'):AsE cx d (.Name (nmF y) pos) v c HL HL':=
 ⟨aL k.1.symm,λz i W=>wpAny_assign_Name (k.2 z.g z.sr z.en i λs' S' E'=>W _ s' _ S' trivial E')⟩
theorem AsE.tup{ts:List Expr}{kk:Nat}{pos:Pos}{xs}(h1:vA v H=some xs)(k1:AsL cx d ts xs c H.L HL'):AsE cx d (.Tuple ts kk pos) v c H.L HL':=
 ⟨k1.1,λ{A s ρ env V Q E} z i W=>by
  rw[arm_assign_Tuple];refine ab (a8 ?_);unfold unpack;rw[tT k1.2.2.1,aq,<-k1.2.1];have hf:(ts.map λe=>(false,assign e env)).findIdx? (·.1)=none:=by rw[List.findIdx?_map];exact List.findIdx?_eq_none_iff.mpr λx _=>rfl
  rw[hf];refine ab (aN (qp h1 z.un i λVs U4 P8 N0 l=>?_));rw[aV];exact(k1.2.2.2 (z.next P8 N0 (ad _)) λu U6 ρ₂ P9 _ N7=>W u U6 ρ₂ P9 trivial (N0.trans (ad _) N7)).1 Vs l⟩
theorem AsE.sub{O7 H₂:List AO}{pos:Pos}(hs:jk i=false)(k1:EvE cx d o c HL a O7)(k2:EvE cx d i c O7 b H₂)(k3:mu cx d a b v H₂ HL'):AsE cx d (.Subscript o i pos) v c HL HL':=by
 have l12:=ae k1.1 k2.1;refine⟨ae l12 (aL k3.1.symm),λz iv W=>?_⟩;rw[arm_assign_Subscript];exact ab (aN (k1.run z λU U4 V4 V0 T3 N0=>ab (aN (k2.run V0 λI U6 ρ₂ V1 T5 N7=>ab (a8 (ab (aN
  (k3.2 V1.un (T3.ext z.g.toGood N7 k2.1) T5 (iv.ext z.g.toGood (N0.trans k1.1 N7) l12) λU7 Q0 N9=>wpAny_release (W _ U7 ρ₂ Q0 trivial ((N0.trans k1.1 N7).trans l12 N9))))))))))
theorem Al:∀e,dD e=true->cvT (cvE n) m e = .no:=λe=>by cases e<;>first | exact λh=>absurd h ah | exact λ_=>(by cases m<;>rfl)
theorem AsL.nil:AsL cx d [] [] c HL HL:=
 ⟨ad _,rfl,λe h=>(nomatch h),λz W=>⟨λVs l=>by rw[show Vs=[] from l];exact wpAny_assignInOrder_none (W _ _ _ z.sr trivial .refl),λV _ hn=>absurd rfl hn,λ_=>W _ _ _ z.sr trivial .refl⟩⟩
theorem AsL.cons{ts vs HM}(hs:dD e=false)(k1:AsE cx d e v c HL HM)(k2:AsL cx d ts vs c HM HL'):AsL cx d (e::ts) (v::vs) c HL HL':=
 ⟨ae k1.1 k2.1,aB Nat.succ k2.2.1,λx hx=>(aH.mp hx).elim (λq=>q▸hs) (k2.2.2.1 x),λ{A s ρ env Q E} z W=>by
  have run:∀V,Is cx s ρ HL.length v V->∀{Q':Unit->Shared->Prop} {E'},(∀U4 V4,At cx d c HM A U4 V4 env->Ext ρ HL.length s V4 U4->Q' () U4)->wpAny (model pw cx.w) A (assign e env V) Q' E' s:=λV iV Q' E' k=>k1.2 z iV λ_ U4 V4 P8 _ N0=>k U4 V4 (z.next P8 N0 k1.1) N0;refine⟨λVs l=>?_,λV hv _=>?_,λq=>(nomatch q)⟩
  ·refine dx l λV Ws e i1 i2=>?_
   rw[e];exact wpAny_assignInOrder_more (run V i1 λU4 V4 V0 N0=>(k2.2.2.2 V0 (W.on N0 k1.1)).1 Ws (IsL.ext z.g.toGood N0 k1.1 i2))
  ·cases ts with
   |nil=>exact run V (hv v (.head _)) λU4 V4 V0 N0=>(k2.2.2.2 (E:=E) V0 (W.on N0 k1.1)).2.2 rfl
   |cons t2 r2=>
    show wpAny _ A (do holding [V] (assign e env V);assignAll V ((t2::r2).map λt=>assign t env)) Q E s;exact ab (aN (run V (hv v (.head _)) λU4 V4 V0 N0=>(k2.2.2.2 V0 (W.on N0 k1.1)).2.1 V (λv hv'=>(hv v (.tail _ hv')).ext z.g.toGood N0 k1.1) λq=>(nomatch q)))⟩
theorem FG(K:dC cx F){vs:List AV}{k}(h:te F d (cvL (cvT (cvE n) m) es) vs c H k=some z)(w:∀H',AsL cx d es vs c H.L H'.L->k H'=some z->P):P:=by
 cases es with
 |nil=>
  cases vs with
  |nil=>exact w H .nil h
  |cons v vs=>exact nn h
 |cons e r=>
  cases vs with
  |nil=>exact nn h
  |cons v vs=>
   have hs:dD e=false:=by
    cases q:dD e with
    |false=>rfl
    |true=>
     have h:F.asg d (cvT (cvE n) m e) v c H _=some z:=h;rw[Al _ q]at h;exact K.noa h
   exact K.asg h λO7 k1 h=>K.asgs h λH₂ k2 h=>w H₂ (AsL.cons hs k1 k2) h
end
section
variable {cx:Cx} {d n m:Nat} {H H' O7 H₂:TH} {HL HL' HM:List AO} {r a b v v':AV} {t:Bool} {F:Fns} {c:IE} {z:AF×TH} {P:Prop} {e l x o i:Expr} {ts:List Expr} {st:Stmt} {bd:List Stmt} {A:Around} {s U4:Shared} {ρ V4:Nat->Addr} {env:Env} {E:Value->Shared->Prop} {f:AF} {k:AF->TH->R}
theorem H0(K:dC cx F)(h:wN F d (cvL (cvS (cvE n) m) bd) c H k=some z)(w:∀f H',ExB cx d bd c H.L f H'.L->k f H'=some z->P):P:=by
 cases bd with
 |nil=>exact w .next H .nil h
 |cons s r=>
  exact K.ex h λf O7 k1 h=>by
   cases f with
   |next=>exact K.exs h λf H₂ k2 h=>w f H₂ (ExB.cons k1 k2) h
   |brk=>exact w .brk O7 (ExB.out (λq=>nomatch q) k1) h
   |cont=>exact w .cont O7 (ExB.out (λq=>nomatch q) k1) h
   |ret v=>exact w (.ret v) O7 (ExB.out (λq=>nomatch q) k1) h
theorem qM(t:Option Expr)(l:Nat)(env:Env):∀e,gn e=false->swapsWith e t l env=pure false:=λe=>by cases e<;>first | exact λ_=>rfl | exact λh=>absurd h.symm ah
theorem mT(he:gn e=false)(t:Option Expr)(l:Nat)(env:Env):swapsWith e t l env=pure false:=qM t l env e he
theorem ExS.expr{pos:Pos}(hc:gn e=false)(k1:EvE cx d e c HL v HL'):ExS cx d (.Expr e pos) c HL .next HL':=
 ⟨k1.1,λz W=>wpAny_Expr_any (k1.2 z λV U4 V4 P8 T3 N0=>W _ U4 V4 P8 rfl N0) (by unfold interactive;rw[z.en.fn];rfl) (mT hc _ _ _)⟩
theorem ExS.set{pos:Pos}(hc:gn e=false)(hw:∀env,swappedStores ts e env=pure none)(k1:EvE cx d e c HL v HM){q:Nat}(k2:AsL cx d ts (List.replicate q v) c HM HL'):ExS cx d (.Assign ts e pos) c HL .next HL':=
 ⟨ae k1.1 k2.1,λ{A s ρ env Q E} z W=>wpAny_Assign_stores (k1.run z λV U4 V4 V0 T3 N0=>by
  rw[tT k2.2.2.1,aV];have k3:=k2.2.2.2 (Q:=λ_=>Q .next) (E:=E) V0 λ_ U6 ρ₂ P9 _ N7=>W _ U6 ρ₂ P9 rfl (N0.trans k1.1 N7);cases ts with
  |nil=>exact af (k3.2.2 rfl)
  |cons t r=>exact k3.2.1 V (λv' hv=>by rw[List.eq_of_mem_replicate hv];exact T3) λq=>(nomatch q))
  (by
   have:swapsWithSole ts e pos.line env=pure false:=by
    unfold swapsWithSole
    split
    ·exact mT hc _ _ _
    ·rfl
   exact this) (hw env)⟩
theorem AR{ts:List Expr}{k p env}:∀e,gm e=false->swappedStores [.Tuple ts k p] e env=pure none:=λe=>by cases e<;>first | exact λ_=>rfl | exact λh=>absurd h.symm ah
theorem Av{ts:List Expr}{p env}:∀e,gm e=false->swappedStores [.List ts p] e env=pure none:=λe=>by cases e<;>first | exact λ_=>rfl | exact λh=>absurd h.symm ah
theorem CV{env:Env}(ht:gm e=false):∀t,swappedStores [t] e env=pure none:=λt=>by cases t<;>first | rfl | exact AR e ht | exact Av e ht
theorem BC{env:Env}{t2:Expr}{r:List Expr}:∀t,swappedStores (t::t2::r) e env=pure none:=λt=>by cases t<;>rfl
theorem Kh(ht:gm e=false)(env:Env):swappedStores ts e env=pure none:=by
 cases ts with
 |nil=>rfl
 |cons t r=>cases r with
  |nil=>exact CV ht t
  |cons t2 r=>exact BC t
theorem zn(K:dC cx F){pos:Pos}(hc:gn e=false)(ht:gm e=false)(h:GN F d (cvL (cvT (cvE n) m) ts) (cvE n e) c H k=some z)(w:∀f H',ExS cx d (.Assign ts e pos) c H.L f H'.L->k f H'=some z->P):P:=
 K.ev h λv O7 k1 h=>K.asgs h λH₂ k2 h=>w .next H₂ (ExS.set hc (Kh ht) k1 k2) h
noncomputable def AK(line:Nat)(t:Expr)(x:Nat):Prop:=∃p,t = .Name (nmF x) p/\(p.line == line)=true/\x<185
noncomputable def F2{α β:Type}(Q:α->β->Prop)(l:List α):List β->Prop:=List.rec (motive:=λ_=>List β->Prop) (λr=>r=[]) (λa _ ih r=>∃b q,r=b::q/\Q a b/\ih q) l
theorem DA{α β:Type}{g:α->Option β}:∀{l:List α} {r:List β},trv g l=some r->r.length=l.length/\∀(Q:α->β->Prop),(∀a b,g a=some b->Q a b)->F2 Q l r
 | [],r,h=>by obtain rfl:=ak h;exact⟨rfl,λQ _=>rfl⟩
 |a::l,r,h=>dq h λb h1 h=>dq h λq h2 h=>so h λe=>
  ⟨by rw[<-e];exact aB Nat.succ (DA h2).1,λQ hQ=>⟨b,q,e.symm,hQ a b h1,(DA h2).2 Q hQ⟩⟩
noncomputable def yk(env:Env)(line:Nat):Expr->Option Str:=fun | .Name id pos=>if env.kindOf id == some .local&&pos.line == line then some id else none | _=>none
theorem oA{line:Nat}:∀{ts:List Expr} {xs:List Nat},F2 (AK line) ts xs->(∀x∈xs,env.kindOf (nmF x)=some .local)->ts.filterMap (yk env line)=xs.map nmF
 | [],xs,h,hk=>by rw[show xs=[] from h];rfl
 |t::ts,xs,h,hk=>by
  refine dx h λy q e1 OA h3=>?_;refine dz OA λp e2 h2 _=>?_;rw[e1,e2,cU];have:yk env line (.Name (nmF y) p)=some (nmF y):=aI (by rw[hk y (by rw[e1];exact .head _),h2];rfl);rw[this];exact aB _ (oA h3 λx hx=>hk x (by rw[e1];exact .tail _ hx))
theorem qy{line:Nat}{y:Nat}(hk:(env.kindOf (nmF y) == some NameKind.local)=false):∀{ts:List Expr} {xs:List Nat},F2 (AK line) ts xs->y∈xs->(ts.filterMap (yk env line)).length<ts.length
 | [],xs,h,hy=>by rw[show xs=[] from h]at hy;cases hy
 |t::ts,xs,h,hy=>by
  refine dx h λy' q e1 OA h3=>?_;refine dz OA λp e2 h2 _=>?_;rw[e1]at hy;rw[cU];rcases aH.mp hy with q | hy
  ·have:yk env line t=none:=by rw[e2,<-q];exact aF (by rw[hk];exact ah)
   rw[this];exact Nat.lt_succ_of_le (List.length_filterMap_le _ _)
  ·have ih:=qy hk h3 hy
   cases yk env line t with
   |none=>exact bc ih
   |some _=>exact Nat.succ_lt_succ ih
noncomputable def uH(ts:List Expr):Nat:=(ts.head?.map (·.pos.line)).getD 0
theorem Ax{xs:List Nat}(h:sj ts=some xs):xs.length=ts.length/\F2 (AK (uH ts)) ts xs:=
 ⟨(DA h).1,(DA h).2 _ λt x h=>by
  cases t<;>first | exact nn h | exact ifE h λq h=>⟨_,by rw[(im h).1],q,(im h).2⟩⟩
structure me (ts vs:List Expr) (xs:List Nat):Prop where
 nm:F2 (AK (uH ts)) ts xs
 lt:xs.length=ts.length
 lv:vs.length=xs.length
 n23:(ts.length == 2 || ts.length == 3)=true
 st:vs.any dD=false
 nd:((xs.map nmF).eraseDups.length == xs.length)=true
 f1:vs.all (foldedForSure 8)=false
 f2:vs.all (constantsAlone 8)=false
theorem pq{b:Bool}(h:(!b)=true):b=false:=by cases b<;>first | rfl | exact fT h
theorem me.mk'{xs:List Nat}{vs:List Expr}(h:sj ts=some xs)(q:nQ xs vs=true):me ts vs xs:=by
 have k:=Ax h;have q2:=aa (aa q).2;have q3:=aa q2.2;have q4:=aa q3.2;have q5:=aa q4.2;exact⟨k.2,k.1,bW q2.1,by rw[<-k.1];exact(aa q).1,pq q3.1,q4.1,pq q5.1,pq q5.2⟩
noncomputable def oC(ts vs:List Expr)(g:Expr->Option Str):Sem (Option (List Str)):=let names:=ts.filterMap g;if names.length != ts.length || names.eraseDups.length != names.length then pure none else if vs.all (foldedForSure 8) then pure none else if vs.all (constantsAlone 8) then (do unsupported "assign.tuple-of-constant-expressions:order-of-the-stores";pure (some names)) else pure (some names)
theorem ug{vs kt pt kv pv}(hn:(ts.length == 2 || ts.length == 3)=true)(hl:(vs.length != ts.length)=false)(hf:env.scope.kind = .function)(hs:vs.any dD=false):swappedStores [.Tuple ts kt pt] (.Tuple vs kv pv) env=oC ts vs (yk env (uH ts)):=by
 have hb:(env.blockKind != .function)=false:=by unfold Env.blockKind;rw[hf];rfl
 have q1:¬ (!(ts.length == 2 || ts.length == 3) || vs.length != ts.length || env.blockKind != .function)=true:=by rw[hn,hl,hb];exact ah
 refine(aF q1).trans ((aF λh=>?_).trans ?_)
 ·refine dm (List.any_eq_true.mp h) λe he hm=>?_
  have:=di.mp hs e he;cases e<;>first | exact this rfl | exact ah hm
 ·exact aB (oC ts vs) (funext λe=>by cases e<;>rfl)
theorem me.stores{xs vs kt pt kv pv}(S:me ts vs xs)(hf:env.scope.kind = .function)(hk:∀x∈xs,env.kindOf (nmF x)=some .local):swappedStores [.Tuple ts kt pt] (.Tuple vs kv pv) env=pure (some (xs.map nmF)):=by
 rw[ug S.n23 (by rw[S.lv,S.lt];exact bQ _) hf S.st];unfold oC;rw[oA S.nm hk];have h3:¬ ((xs.map nmF).length != ts.length || (xs.map nmF).eraseDups.length != (xs.map nmF).length)=true:=by rw[aq,S.lt,bW S.nd,S.lt,bQ];exact ah
 exact(aF h3).trans ((aF (by rw[S.f1];exact ah)).trans (aF (by rw[S.f2];exact ah)))
theorem me.cells{xs vs kt pt kv pv}(S:me ts vs xs){y:Nat}(hf:env.scope.kind = .function)(hy:y∈xs)(hk:env.kindOf (nmF y)=some .cell):swappedStores [.Tuple ts kt pt] (.Tuple vs kv pv) env=pure none:=by
 rw[ug S.n23 (by rw[S.lv,S.lt];exact bQ _) hf S.st];exact aI (by rw[bne_iff_ne.mpr (aO (qy (by rw[hk];rfl) S.nm hy))];rfl)
theorem sq{bs:List (Nat×AV)}:∀{bs:List (Nat×AV)} {Vs:List Value} {HL HL':List AO} {s:Shared} {ρ:Nat->Addr} {Q:Unit->Shared->Prop},Cok cx->SR cx ρ HL s->iZ ρ HL.length c env->
  IsL cx s ρ HL.length (bs.map (·.2)) Vs->ni cx c bs HL HL'->(∀s',SR cx ρ HL' s'->Ext ρ HL.length s ρ s'->Q () s')->
  wpAny (model pw cx.w) A (assignInOrder ((bs.map λp=>nmF p.1).map λn=>bindName env n) Vs) Q E s
 | [],Vs,HL,HL',s,ρ,Q,g,S,R,i,h,W=>by
  cases(show HL=HL' from h);rw[show Vs=[] from i];exact wpAny_assignInOrder_none (W s S .refl)
 |(x,v)::r,Vs,HL,HL',s,ρ,Q,g,S,R,i,h,W=>by
  refine dx i λV Ws e i1 i2=>?_;refine dz h λO7 _ h1 h2=>?_;have hl:=aL h1.1.symm;rw[e];refine wpAny_assignInOrder_more (wpAny_bindName (h1.2 g S R i1 λU4 P8 N0=>?_));exact sq (bs:=bs) g P8 (R.ext N0 hl) (IsL.ext g.toGood N0 hl i2) h2 λs' S' E'=>W s' S' (N0.trans hl E')
theorem L2.rev{I xs Vs}(i:L2 I xs Vs):L2 I xs.reverse Vs.reverse:=by
 induction xs generalizing Vs with
 |nil=>rw[show Vs=[] from i];exact rfl
 |cons x xs ih=>
  refine dx i λV Ws e i1 i2=>?_;rw[e,cK,cK];exact(ih i2).app (L2.cons i1 rfl)
theorem lJ{xs:List Nat}{us:List AV}(hl:us.length=xs.length):(xs.zip us).map (λp=>nmF p.1)=xs.map nmF:=by
 rw[show(xs.zip us).map (λp=>nmF p.1)=((xs.zip us).map (·.1)).map nmF from by rw[aV];rfl,List.map_fst_zip (aL hl.symm)]
theorem lT{xs:List Nat}{us:List AV}(hl:us.length=xs.length):(xs.zip us).map (·.2)=us:=List.map_snd_zip (aL hl)
theorem ExS.swap{xs:List Nat}{us:List AV}{vs kt kv}{pt pv pos:Pos}(S:me ts vs xs)(k1:EvE cx d (.Tuple vs kv pv) c HL (.tup us) H.L)(hl:us.length=xs.length)(hk:∀x∈xs,lk x c.kd=some .local)(k2:ni cx c (xs.zip us).reverse H.L HL'):
  ExS cx d (.Assign [.Tuple ts kt pt] (.Tuple vs kv pv) pos) c HL .next HL':=
 ⟨ae k1.1 (aL k2.len.symm),λ{A s ρ env Q E} z W=>by
  rw[exec_Assign];refine ab (a8 ?_);have hs:swapsWithSole [.Tuple ts kt pt] (.Tuple vs kv pv) pos.line env=pure false:=rfl;refine ab (cj hs ?_);rw[aF ah];refine ab (k1.run z λV U4 V4 V0 T3 N0=>?_);refine ab (cj (S.stores z.en.fn λx h=>z.en.kd x _ (hk x h)) ?_);unfold assignStores;refine ab (wpAny_rule ?_);rw[aq,<-hl];refine ab (qp (H:=H) (v:=.tup us) rfl V0.un T3 λVs U6 P9 N7 l=>?_);have e:(xs.map nmF).reverse=((xs.zip us).reverse.map λp=>nmF p.1):=by rw[List.map_reverse,lJ hl]
  have e2:(xs.zip us).reverse.map (·.2)=us.reverse:=by rw[List.map_reverse,lT hl]
  rw[e];have N3:=N0.trans k1.1 N7;exact ab (sq (bs:=[]) z.g P9 (z.en.ext N3 k1.1) (by rw[e2];exact L2.rev l) k2 λU7 Q0 N9=>af (W _ U7 V4 Q0 rfl (N3.trans k1.1 N9)))⟩
theorem qe{line:Nat}:∀{ts:List Expr} {xs:List Nat} {us:List AV} {HL HL':List AO},F2 (AK line) ts xs->us.length=xs.length->ni cx c (xs.zip us) HL HL'->AsL cx d ts us c HL HL'
 | [],xs,us,HL,HL',h,hl,k=>by
  rw[show xs=[] from h]at hl k;rw[cP hl];cases(show HL=HL' from k);exact .nil
 |t::ts,xs,us,HL,HL',h,hl,k=>by
  refine dx h λy q e1 OA h3=>?_;refine dm OA λp e2 _=>?_;rw[e1]at hl k;cases us with
  |nil=>cases hl
  |cons u us=>
   refine dz k λO7 _ k1 k2=>?_;rw[e2];exact AsL.cons rfl (AsE.nm k1) (qe h3 (Nat.succ.inj hl) k2)
theorem ExS.unswap{xs:List Nat}{us:List AV}{vs kt kv}{pt pv pos:Pos}(S:me ts vs xs)(k1:EvE cx d (.Tuple vs kv pv) c HL (.tup us) H.L)(hl:us.length=xs.length){y:Nat}(hy:y∈xs)(hk:lk y c.kd=some .cell)(k2:ni cx c (xs.zip us) H.L HL'):
  ExS cx d (.Assign [.Tuple ts kt pt] (.Tuple vs kv pv) pos) c HL .next HL':=by
 have k3:AsE cx d (.Tuple ts kt pt) (.tup us) c H.L HL':=AsE.tup rfl (qe S.nm hl k2);refine⟨ae k1.1 k3.1,λ{A s ρ env Q E} z W=>wpAny_Assign_stores (k1.run z λV U4 V4 V0 T3 N0=>?_) rfl (S.cells z.en.fn hy (z.en.kd y _ hk))⟩;exact k3.2 V0 T3 λ_ U6 ρ₂ P9 _ N7=>W _ U6 ρ₂ P9 rfl (N0.trans k1.1 N7)
theorem yo(K:dC cx F){xs:List Nat}{vs kt kv}{pt pv pos:Pos}(S:me ts vs xs)(h:C1 F d xs (cvL (cvE n) vs) c H k=some z)(w:∀f H',ExS cx d (.Assign [.Tuple ts kt pt] (.Tuple vs kv pv) pos) c H.L f H'.L->k f H'=some z->P):P:=
 K.ev (n:=n+1) (e:=.Tuple vs kv pv) h λv O7 k1 h=>uE h λus e h=>ifE h λq h=>by
  rw[e]at k1;exact gC h (λq2 h=>dq h λH₂ h2 h=>w .next H₂ (ExS.swap S k1 (nb q) (λx hx=>bW (aA.mp q2 x hx)) (iJ h2)) h)
   λ_ h=>ifE h λq2 h=>dq h λH₂ h2 h=>by
    refine dm (List.any_eq_true.mp q2) λy hy hk=>?_;exact w .next H₂ (ExS.unswap S k1 (nb q) hy (bW hk) (iJ h2)) h
theorem ED(K:dC cx F){b1 b2:List Stmt}{pos:Pos}(h:Kr F d (cvE n x) (cvL (cvS (cvE n) m) b1) (cvL (cvS (cvE n) m) b2) c H k=some z)(w:∀f H',ExS cx d (.If x b1 b2 pos) c H.L f H'.L->k f H'=some z->P):P:=
 K.tr h λt O7 k1 h=>gC h
  (λet h=>K.exs h λf H₂ k2 h=>w f H₂ ⟨ae k1.1 k2.1,λz W=>wpAny_If (k1.run z λu U4 V4 V0 T3 N0=>by rw[T3,et];exact k2.2 V0 (W.on N0 k1.1))⟩ h)
  λet h=>K.exs h λf H₂ k2 h=>w f H₂ ⟨ae k1.1 k2.1,λz W=>wpAny_If (k1.run z λu U4 V4 V0 T3 N0=>by rw[T3,et];exact k2.2 V0 (W.on N0 k1.1))⟩ h
theorem ExB.try_{h0:ExceptHandler}{hs:List ExceptHandler}{pos:Pos}(k1:ExB cx d bd c HL f HL'):ExS cx d (.Try bd (h0::hs) [] [] pos) c HL f HL':=
 ⟨k1.1,λz W=>wpAny_Try_except (k1.2 z λfl U4 V4 P8 T3 N0=>by
  have key:=W fl U4 V4 P8 T3 N0;cases fl with
  |next=>exact wpAny_execs_nil key
  |_=>exact key)⟩
theorem FQ{y:Nat}{w:AV}(h:name c H y=some v)(hy:y<185)(h4:jD c O7 y w=some H₂){Q:Value->Shared->Prop}(S:SR cx ρ H.L s)(R:iZ ρ H.L.length c env)
  (W:∀V,Is cx s ρ H.L.length v V->Q V s):wpAny (model pw cx.w) A (loadName env (nmF y)) Q E s:=
 dq h λkd hk h=>dq h4 λkd' hk' h4=>by
  rw[hk]at hk';obtain rfl:=ak hk';cases kd with
  | «local»=>
   exact yn h λm hm h=>by
    refine dm (S.own _ _ (dA hm)) λmm N l=>?_;have:=l y hy;rw[show lk y m=some v from h]at this;refine dm this λV e1 e2=>?_;exact wpAny_loadName_local R.fn (R.kd y _ hk) (R.loc▸N) e1 (W V e2)
  |cell=>
   exact dq h λi hi h=>rb h λo ho h=>by
    rw[show o=some v from h]at ho;refine dm (S.own i _ (dA ho)) λU e1 OA=>?_;refine dm OA λV e3 e2=>?_;rw[e3]at e1;exact wpAny_loadName_cell R.fn (R.kd y _ hk) (R.cells y i hi).2 e1 (W V e2)
  |_=>exact nn h4
end
structure KC (cx:Cx) (K:Frag):Prop where
 inn:K.In cx.hs
 ga:findIn K (.ref 241) "__getattribute__"=some (some (.builtin "object.__getattribute__"))
 gh:findIn K (.ref 241) "__getattr__"=some none
 sa:findIn K (.ref 241) "__setattr__"=some (some (.builtin "object.__setattr__"))
 over:plainOver K 241=true
 dict:hasDictIn K 241=true
 own:∀n,CO n=true->findIn K (.ref 241) (nmF n)=some none
 meth:∀n f,uW n=some f->findIn K (.ref 241) (nmF n)=some (some (.ref f))/\typeIn K (.ref f)=some (.type "function")/\specialIn K (.ref f) "__get__"=some (some (.builtin "function.__get__"))/\takesIn K (.ref f)=some false/\copiedNames.contains (nmF n)=false
theorem r7:typeOf (.builtin "list.append")=pure (.type "method_descriptor"):=F.type_list_append
theorem HW:typeLookup (.type "method_descriptor") "__get__"=pure (some (.builtin "method_descriptor.__get__")):=by rw[cf,bA];kernel_rfl
theorem Hn:typeLookup (.type "method_descriptor") "__set__"=pure none:=by rw[cf,bA];kernel_rfl
theorem IV:typeLookup (.type "method_descriptor") "__delete__"=pure none:=by rw[cf,bA];kernel_rfl
theorem FC:Slot "method_descriptor" "__get__" "method_descriptor.__get__":=
 .of (owner:="method_descriptor") (n:="__get__") (by rw[cf,bA];kernel_rfl) (by decide +kernel) (by decide +kernel) (by decide +kernel)
  (by first | exact .inl (by decide +kernel) | exact .inr (by decide +kernel)) (by rw[cY];kernel_rfl)
theorem zY:entryFor table "method_descriptor.__get__"=some Builtin.«method_descriptor.__get__»:=entryFor_of_tree (by kernel_rfl)
theorem Ed(a b c:Value):argsOk "method_descriptor.__get__" ⟨[a,b,c],[]⟩:=by unfold argsOk;kernel_rfl
theorem Fy{prog:Program}{w:World}{A:Around}{E:Value->Shared->Prop}{s:Shared}{a:Addr}{xs:Array Value}{Q:Value->Shared->Prop}(hp:PlainL s.heap a xs)
  (h:Q (.ref s.heap.objs.size) { s with heap:=s.heap.push { cls:=.type "builtin_function_or_method",data:=.fields #[.builtin "list.append",.ref a]}}) :
  wpAny (model prog w) A (call (.builtin "method_descriptor.__get__") [.builtin "list.append",.ref a,.type "list"]) Q E s:=by
 obtain⟨hh,g,d,tk,os⟩:=s;have hT:(⟨hh,g,d,tk,os⟩:Shared).TypeIs (.builtin "list.append") "method_descriptor":=r7;have hT2:(⟨hh,g,d,tk,os⟩:Shared).TypeIs (.ref a) "list":=hp.isList.typeIs;refine cg FC hT zY ?_ (Ed _ _ _);unfold Builtin.«method_descriptor.__get__»
 repeat (any_goals (first | assumption | wp_step))
 have e1:(".".intercalate ("list.append".cutAt '.').dropLast)="list":=by decide +kernel
 rw[e1];refine cj (show isSubtype (.type "list") (.type "list")=pure true from by rw[cY];kernel_rfl) ?_
 repeat (any_goals (first | assumption | wp_step))
 exact⟨_,rfl,h⟩
theorem lS(a:Addr)(xs:Array Value)(k:Nat)(sl:Array (Option Value))(u:Tok):
  Meets (Builtin.«object.__getattribute__» ⟨[.ref a,.str "append" u],[]⟩) (λA R s=>s.heap.get? a=some { cls:=.type "list",dict:=none,data:=.seq xs k,slots:=sl}/\
   R (.ok (.ret (.ref s.heap.objs.size))) { s with heap:=s.heap.push { cls:=.type "builtin_function_or_method",data:=.fields #[.builtin "list.append",.ref a]}}):=
 Meets.of_wp λprog w A R s hs=>by
  obtain⟨hp,g,d,tk,os⟩:=s;obtain⟨hx,hs⟩:=hs;have hT:(⟨hp,g,d,tk,os⟩:Shared).TypeIs (.ref a) "list":=⟨_,hx,rfl⟩;have f0:typeLookup (.type "list") (Str.ofString "append")=pure (some (.builtin "list.append")):=F.slot_list_append.lookup;have f1:=r7;have f2:=HW;have f3:=Hn;have f4:=IV;unfold Builtin.«object.__getattribute__»
  repeat (any_goals (first | assumption | ((with_reducible show wpAny _ _ (call (Value.builtin "method_descriptor.__get__") _ _) _ _ _);refine Fy ⟨_,_,hx,rfl,rfl,rfl⟩ ?_) | wp_step))
  exact⟨_,rfl,hs⟩
theorem oB{prog:Program}{w:World}{A:Around}{E:Value->Shared->Prop}{s:Shared}{a:Addr}{xs:Array Value}{expr:Bool}{Q:Value->Shared->Prop}(hp:PlainL s.heap a xs)
  (h:Q (.ref s.heap.objs.size) { s with heap:=s.heap.push { cls:=.type "builtin_function_or_method",data:=.fields #[.builtin "list.append",.ref a]},toks:=s.toks+1}) :
  wpAny (model prog w) A (getAttr (.ref a) "append" expr) Q E s:=by
 have OA:=hp;refine fR OA λOC k hx hc hd hdat=>?_;obtain⟨c,dct,dat,sl⟩:=OC;clear hp;simp only at hc hdat hd;subst hc hdat hd;obtain⟨hp,g,d,tk,os⟩:=s;have hT:∀tk',(⟨hp,g,d,tk',os⟩:Shared).TypeIs (.ref a) "list":=λ_=>⟨_,hx,rfl⟩;have f3:=F.slot_list_getattribute.lookup;have f4:=F.slot_list_getattribute.bind (.ref a);unfold getAttr getAttrBy
 repeat (any_goals (first | assumption | exact hT _ | ((with_reducible show wpAny _ _ (call (Value.builtin "list.__getattribute__") _ _) _ _ _);refine cA F.slot_list_getattribute (hT _) am_entry_list_getattribute (F.args_list_getattribute_2 _ _) (lS a xs k sl _) ⟨hx,?_⟩) | wp_step))
 have ex:(expr&&onTheHeap (Value.builtin "list.__getattribute__"))=false:=by cases expr<;>rfl
 rw[ex]
 repeat (any_goals (first | assumption | exact hT _ | ((with_reducible show wpAny _ _ (call (Value.builtin "list.__getattribute__") _ _) _ _ _);refine cA F.slot_list_getattribute (hT _) am_entry_list_getattribute (F.args_list_getattribute_2 _ _) (lS a xs k sl _) ⟨hx,?_⟩) | wp_step))
 show wpAny _ _ (handedOut (.ref _)) _ _ _;rw[handedOut_of (by rfl)];exact af h
section
variable {cx:Cx} {d n:Nat} {H H' O7 H₂:TH} {HL HL':List AO} {r a b v a' v':AV} {t:Bool} {F:Fns} {c:IE} {z:AF×TH} {P:Prop} {e l x o i:Expr} {es:List Expr} {A:Around} {s U4:Shared} {ρ V4:Nat->Addr} {env:Env} {E:Value->Shared->Prop} {K:Frag} {j dd:Nat} {mp:List (Nat×AV)}
theorem SR.kin(X:K.In cx.hs)(S:SR cx ρ HL s):K.In s.heap:=λa o e=>S.keep _ _ (X a o e)
structure Wr (cx:Cx) (HL:List AO) (s:Shared) (ρ:Nat->Addr) (j dd:Nat) (mp:List (Nat×AV)) (od:Obj) (mm:Str->Option Value):Prop where
 at_:InstAt s.heap (ρ j) ⟨.ref 241,some (ρ dd),.plain,#[]⟩ 241 (some od)
 get:s.heap.get? (ρ dd)=some od
 ns:s.heap.Ns1 (ρ dd) mm
 wi:Within mm nmS
 lk:∀name,lookIn name od=some (mm name)
 is:∀x,x<185->Op2 (Is cx s ρ HL.length) (Mine.lk x mp) (mm (nmF x))
theorem lH(S:SR cx ρ HL s)(h1:HL[j]? = some (.inst 241 dd))(h2:HL[dd]? = some (.idn mp)):∃od mm,Wr cx HL s ρ j dd mp od mm:=by
 refine dm (S.own _ _ h1) λD e1 hD=>?_;refine dz (S.own _ _ h2) λmm hN wi l=>?_;refine tZ (id hN) λod es ep eo ed sk uk hf=>?_;cases hD.1;refine⟨od,mm,⟨e1,rfl,rfl,eo⟩,eo,hN,wi,λname=>?_,l⟩;unfold lookIn;rw[ed];dsimp only;have:=hf name;unfold nsFind findBy at this;rw[<-this,<-Array.find?_toList];cases q:es.toList.find? (λe=>e.key.isStr name) with
 |some e=>rfl
 |none=>
  have hany:es.toList.any (·.refKey)=false:=by
   rw[di];intro e he;refine fA (sk e (Array.mem_toList_iff.mp he)) λn t h=>?_;simp[DictEntry.refKey,h]
  simp[hany]
theorem yG(k:Nat):handedIn (.builtin (biN k))=true:=by
 by_cases h:k<16
 ·exact(by decide +kernel:∀k:Fin 16,handedIn (.builtin (biN k))=true) ⟨k,h⟩
 ·have:biN k="":=by unfold biN;rw[bg,bK (bo h)];rfl
  rw[this];decide +kernel
theorem xS{n V}(i:Is cx s ρ n v V):handedIn V=true:=by
 cases v with
 |bi k=>rw[show V=_ from i];exact yG k
 |ref _=>rw[i.1];rfl
 |none | bool _ | st _ | ty _=>rw[show V=_ from i];rfl
 |int _=>refine dm i λ_ e _=>?_;rw[e];rfl
 |inu _=>obtain⟨_,e⟩:=i;rw[e];rfl
 |oi _ _=>refine kK i λ_ _ e _=>?_;rw[e];rfl
 |str _ | rop _=>obtain⟨_,e⟩:=i;rw[e];rfl
 |strb _=>refine dm i λ_ e _=>?_;rw[e];rfl
 |tup _=>refine gv i λ_ _ _ e _=>?_;rw[e];rfl
 |bm _ _=>refine jL i λ_ _ _ _ e _=>?_;rw[e];rfl
 |clo _ _=>refine dm i λ_ e _=>?_;rw[e];rfl
 |rng _ _ _=>refine jL i λ_ _ _ _ e _=>?_;rw[e];rfl
 |itm _=>refine dm i λ_ e _=>?_;rw[e];rfl
 |sitm _=>refine dm i λ_ e _=>?_;rw[e];rfl
 |tok _ x=>refine dm i λ_ e _=>?_;rw[e];cases x<;>rfl
noncomputable def jw(cx:Cx)(d:Nat)(a:AV)(n:Nat)(HL:List AO)(v:AV):Prop:=
 ∀{A s ρ U} {expr:Bool} {Q:Value->Shared->Prop} {E},Un cx d HL A s ρ->Is cx s ρ HL.length a U->gy cx ρ HL s v HL Q->wpAny (model pw cx.w) A (getAttr U (nmF n) expr) Q E s
theorem jw.of(e:a=a')(q:v'=v)(k:jw cx d a' n HL v'):jw cx d a n HL v:=by subst e;subst q;exact k
theorem jw.own(C:KC cx K)(hn:CO n=true\/∃f,uW n=some f)(hn2:n<185)(h1:HL[j]? = some (.inst 241 dd))(h2:HL[dd]? = some (.idn mp))(hv:lk n mp=some v):jw cx d (.ref j) n HL v:=λu iU W=>by
 refine fA (lH u.sr h1 h2) λod mm I=>?_;have:=I.is n hn2;rw[hv]at this;refine dm this λV e1 e2=>?_;have X:=u.sr.kin C.inn;rw[iU.1];refine get_value X I.at_ C.ga ?_ (xS e2) (W.now u.g.toGood u.sr (aC _) (e2.ext u.g.toGood (u.sr.toks u.g.toGood (aC _)).2 (ad _)));refine dm (any_some C.dict) λcdt hc hd=>?_;have ho:PySem.W.ownOf cdt (some od) (nmF n)=some (some V):=by unfold PySem.W.ownOf;rw[aI hd];exact(I.lk _).trans (by rw[e1])
 unfold findObj;rw[hc,Option.bind_some];rcases hn with hn | ⟨f,hf⟩
 ·rw[C.own n hn];simp[ho]
 ·refine mU (C.meth n f hf) λc1 c2 c3 c4 c5=>?_
  rw[c1];simp[c3,c4,ho]
theorem jw.bound(C:KC cx K){f:Nat}(hn:uW n=some f)(hn2:n<185)(h1:HL[j]? = some (.inst 241 dd))(h2:HL[dd]? = some (.idn mp))(hv:lk n mp=none):jw cx d (.ref j) n HL (.bm (.st f) (.ref j)):=λ{A s ρ U expr Q E} u iU W=>by
 refine fA (lH u.sr h1 h2) λod mm I=>?_;have:=I.is n hn2;rw[hv]at this;have this:mm (nmF n)=none:=this;have X:=u.sr.kin C.inn;refine mU (C.meth n f hn) λc1 c2 c3 c4 c5=>?_;rw[iU.1];refine get_bind (g:=.builtin "function.__get__") (a:=.ref f) X I.at_ C.ga ?_ C.gh ?_
 ·refine dm (any_some C.dict) λcdt hc hd=>?_
  have ho:PySem.W.ownOf cdt (some od) (nmF n)=some none:=by unfold PySem.W.ownOf;rw[aI hd];exact(I.lk _).trans (by rw[this])
  have c5':nmF n ∉ copiedNames:=by simpa using c5
  unfold findObj;rw[hc,Option.bind_some,c1];simp[c3,c4,ho,c5']
 ·refine wpAny_call (fn_get (s:={ s with toks:=s.toks+1}) X c2 ?_)
  show wpAny _ _ (handedOut (.ref s.heap.objs.size)) _ _ _;rw[handedOut_of (by rfl)];have key:=u.sr.grow u.g.toGood (hp:=s.heap.push (methodObj (.ref f) (.ref (ρ j)))) (t:=s.toks+1) (λa o e=>am _ e) (aC _);exact af (W _ _ ρ key.1 ⟨_,_,_,_,rfl,⟨aw _ rfl,rfl,.inl rfl⟩,rfl,rfl,iU.2⟩ key.2)
theorem jw.append{xs}(hx:HL[j]? = some (.list xs)):jw cx d (.ref j) 49 HL (.bm (.bi 5) (.ref j)):=λ{A s ρ U expr Q E} u iU W=>by
 refine dm (u.sr.own _ _ hx) λVs hP l=>?_;rw[iU.1];refine oB hP ?_;have key:=u.sr.grow u.g.toGood (hp:=s.heap.push { cls:=.type "builtin_function_or_method",data:=.fields #[.builtin "list.append",.ref (ρ j)]}) (t:=s.toks+1) (λa o e=>am _ e) (aC _);exact W _ _ ρ key.1 ⟨_,_,_,_,rfl,⟨aw _ rfl,rfl,.inr rfl⟩,rfl,rfl,iU.2⟩ key.2
theorem An{α β:Type}{o:Option α}{x:Option β}{k:α->Option β}{w:β}(h:(Option.rec x k o:Option β)=some w)(c1:o=none->x=some w->P)(c2:∀v,o=some v->k v=some w->P):P:=by
 cases o with | none=>exact c1 rfl h | some v=>exact c2 v rfl h
theorem ro{β:Type}{w:β}{k:Nat->List (Nat×AV)->Option β}(h:rC H j k=some w)(c:∀dd mp,gt H j=some (.inst 241 dd)->gt H dd=some (.idn mp)->k dd mp=some w->P):P:=
 JX h λq dd hi h=>ifE h λe h=>Ku h λmp hd h=>c dd mp (nb e▸hi) hd h
theorem Aj(C:KC cx K)(hn2:n<185)(h:Gn a n H=some v):jw cx d a n H.L v:=
 dP h λj e h=>orE h (λh=>ro h λdd mp hi hd h=>An h (λhv h=>dq h λf hf h=>so h λq=>jw.of e q (jw.bound C hf hn2 (dA hi) (dA hd) hv))
   λw hv h=>ifE h λq h=>so h λq'=>jw.of e q' (jw.own C (.inl q) hn2 (dA hi) (dA hd) hv))
  λh=>dG h λxs hx h=>ifE h λq h=>so h λq'=>jw.of e q' (by rw[nb q];exact jw.append (dA hx))
theorem rp(h:iS o=false)(n:Str)(env:Env)(w:Sem Value):attributeBase o n env w=w:=by
 cases o with
 |Call f args kws p=>
  cases f with
  |Name i q=>cases args with
   |nil=>cases kws with
    |nil=>exact tF h
    |cons _ _=>rfl
   |cons _ _=>rfl
  |_=>rfl
 |_=>rfl
theorem Ag(value:Expr)(attr:Str)(pos:Pos)(env:Env):eval (.Attribute value attr pos) env=(do
  let o <-attributeBase value attr env (eval value env)
  standAt pos.atName
  let r <-holding [o] (getAttr o attr true)
  letTemporaryGo value o r
  pure r):=rfl
theorem yi(C:KC cx K)(KF:dC cx F){y:Nat}{pos:Pos}{k}(hs:iS o=false)(hy:y<185)(h:zr F d (cvE n o) y c H k=some z)(w:∀v H',EvE cx d (.Attribute o (nmF y) pos) c H.L v H'.L->k v H'=some z->P):P:=
 KF.ev h λa O7 k1 h=>dq h λv hv h=>w v O7 ⟨k1.1,λz W=>by
  rw[Ag,rp hs];exact ab (k1.run z λU U4 V4 V0 T3 N0=>ab (a8 (ab (aN (Aj C hy hv V0.un T3 λV U6 ρ₂ P9 T5 N7=>ab (wpAny_letTemporaryGo (af (W V U6 ρ₂ P9 T5 (N0.trans k1.1 N7)))))))))⟩ h
noncomputable def FY(cx:Cx)(d:Nat)(a:AV)(n:Nat)(v:AV)(HL HL':List AO):Prop:=
 HL'.length=HL.length/\∀{A s ρ U V} {Q:Unit->Shared->Prop} {E},Un cx d HL A s ρ->Is cx s ρ HL.length a U->Is cx s ρ HL.length v V->(∀s',SR cx ρ HL' s'->Ext ρ HL.length s ρ s'->Q () s')->wpAny (model pw cx.w) A (setAttr U (nmF n) V) Q E s
theorem vt{mm:Str->Option Value}{V:Value}(wi:Within mm nmS)(hn:n<185):Within (λx=>if x=nmF n then some V else mm x) nmS:=λy hy=>by
 by_cases e:y=nmF n
 ·rw[e];exact aQ (o9 hn)
 ·exact wi y λq=>hy ((aF e).trans q)
theorem FY.put(C:KC cx K)(q:(CO n || Nat.beq n 67)=true)(hn2:n<185)(h1:HL[j]? = some (.inst 241 dd))(h2:HL[dd]? = some (.idn mp)):FY cx d (.ref j) n v HL (HL.set dd (.idn (ins n v mp))):=
 ⟨aE,λ{A s ρ U V Q E} u iU iV W=>by
  refine fA (lH u.sr h1 h2) λod mm I=>?_;have X:=u.sr.kin C.inn;have ht:takerIn K 241 (nmF n)=some none:=by
   unfold takerIn;rcases orb q with q | q
   ·rw[C.own n q];rfl
   ·have hn:uW n=some 166:=by rw[nb q];rfl
    refine mU (C.meth n _ hn) λc1 c2 c3 c4 c5=>?_;rw[c1,Option.bind_some];dsimp only;rw[c4];rfl
  rw[iU.1];refine set_plain X I.at_ C.sa ?_;have X':K.In ({ s with toks:=s.toks+1}:Shared).heap:=X;refine osa_open (s:={ s with toks:=s.toks+1}) X I.at_ C.over ht λb=>?_;refine dm (any_some C.dict) λcdt hc hd'=>?_;refine ab (af (ab (ab (wpAny_loadPart I.at_.at_ (ab ((looks_clsIn X' hc).here ?_))))));rw[hd'];refine af (a:=some (ρ dd)) (ab (af (ab ?_)));refine wpAny_nsSet1 (s:={ s with toks:=s.toks+1}) I.ns λh' hn' hs=>?_;have wi':=vt (V:=V) I.wi hn2;refine gw (hn'.count wi') λoD esD epD hoD hdD hcD=>?_;refine ab (wpAny_lookBehind hoD (by rw[hdD];exact pastItsLine_dict (ae hcD (by unfold nmS;rw[aq,kD];decide))) ?_);have key:=u.sr.set (hp:=h') (t:=s.toks+2) (o':=.idn (ins n v mp)) u.g.toGood h2 rfl (λa o ha e=>(hs.2 a ha).trans e) (aK _ 2) λE=>⟨_,hn',wi',λy hy=>by
   rw[uX]
   by_cases q:y=n
   ·rw[aI q,q];exact⟨V,aI rfl,iV.ext u.g.toGood E (ad _)⟩
   ·rw[aF q]
    show Op2 _ _ (if nmF y=nmF n then _ else _);rw[aF λz=>q (qD hy hn2 z)];exact(I.is y hy).mono λ_ _ _ j=>j.ext u.g.toGood E (ad _)⟩
  exact af (W _ key.1 key.2)⟩
theorem Ao(C:KC cx K)(hn2:n<185)(h:F0 a n v H=some H'):FY cx d a n v H.L H'.L:=
 dP h λj e h=>ro h λdd mp hi hd h=>ifE h λq h=>so h λq'=>by
  rw[e,<-q',gN hd];exact FY.put C q hn2 (dA hi) (dA hd)
theorem ve(C:KC cx K)(KF:dC cx F){y:Nat}{pos:Pos}{k}(hy:y<185)(h:xn F d (cvE n o) y v c H k=some z)(w:∀H',AsE cx d (.Attribute o (nmF y) pos) v c H.L H'.L->k H'=some z->P):P:=
 KF.ev h λa O7 k1 h=>dq h λH₂ h2 h=>w H₂ (by
  have k2:=Ao (d:=d) C hy h2;refine⟨ae k1.1 (aL k2.1.symm),λz iv W=>?_⟩;rw[arm_assign_Attribute];exact ab (aN (k1.run z λU U4 V4 V0 T3 N0=>ab (a8 (ab (aN
   (k2.2 V0.un T3 (iv.ext z.g.toGood N0 k1.1) λU6 P9 N7=>wpAny_release (W _ U6 V4 P9 trivial (N0.trans k1.1 N7))))))))) h
end
noncomputable def dX(cx:Cx)(d:Nat)(a:AV)(n:Nat)(HL:List AO)(f:AV)(first:List AV):Prop:=
 ∀{A s ρ U} {pl:Sem Bool} {Q:Value×List Value->Shared->Prop} {E},Un cx d HL A s ρ->Is cx s ρ HL.length a U->(∀Fv Fs s' ρ',SR cx ρ' HL s'->Is cx s' ρ' HL.length f Fv->IsL cx s' ρ' HL.length first Fs->Ext ρ HL.length s ρ' s'->Q (Fv,Fs) s')->wpAny (model pw cx.w) A (getMethod U (nmF n) pl) Q E s
section
variable {cx:Cx} {d n m:Nat} {H H' O7 H₂:TH} {HL HL':List AO} {r a b v a' f f':AV} {first first':List AV} {t:Bool} {F:Fns} {c:IE} {z:AF×TH} {P:Prop} {e l x o i:Expr} {es:List Expr} {A:Around} {s U4:Shared} {ρ V4:Nat->Addr} {env:Env} {E:Value->Shared->Prop} {K:Frag} {j dd:Nat} {mp:List (Nat×AV)}
theorem dX.of(e:a=a')(q:some (f',first')=some (f,first))(k:dX cx d a' n HL f' first'):dX cx d a n HL f first:=by subst e;cases q;exact k
theorem dX.ofp{q:Nat}(e:a=a')(h:some (AV.bi q,[a])=some (f,first))(k:dX cx d a' n HL (.bi q) [a']):dX cx d a n HL f first:=by subst e;exact dX.of rfl h k
theorem dX.bi{T id:String}{name:Str}{k:Nat}(hn:nmF n=name)(hk:biN k=id)(pa:PlainAttrs T)(slot:Slot T name id)(hty:typeOf (.builtin id)=pure (.type "method_descriptor"))
  (hT:∀{A s ρ U},Un cx d HL A s ρ->Is cx s ρ HL.length a U->s.TypeIs U T/\∀a,U = .ref a->∃o,s.heap.get? a=some o/\o.dict=none):dX cx d a n HL (.bi k) [a]:=λu iU W=>by
 have h:=hT u iU;have key:=W (.builtin (biN k)) [_] _ _ u.sr rfl (L2.cons iU rfl) .refl;rw[hk]at key;rw[hn];exact getMethod_builtin h.1 pa slot hty h.2 key
theorem rF{xs}(hx:HL[j]? = some (.list xs)){A s ρ U}(u:Un cx d HL A s ρ)(i:Is cx s ρ HL.length (.ref j) U):s.TypeIs U "list"/\∀a,U = .ref a->∃o,s.heap.get? a=some o/\o.dict=none:=by
 refine dm (u.sr.own _ _ hx) λVs hP l=>?_;rw[i.1];exact⟨hP.isList.typeIs,λa e=>by cases e;refine fR hP λo n e c d _=>?_;exact⟨o,e,d⟩⟩
theorem v1{es}(hx:HL[j]? = some (.dict es)\/HL[j]? = some (.bag es)){A s ρ U}(u:Un cx d HL A s ρ)(i:Is cx s ρ HL.length (.ref j) U):s.TypeIs U "dict"/\∀a,U = .ref a->∃o,s.heap.get? a=some o/\o.dict=none:=by
 have key:∃kvs,s.heap.DictOf (strKind pw cx.w) (ρ j) kvs:=hx.elim (λhx=>(u.sr.own _ _ hx).elim λk h=>⟨k,h.1⟩) λhx=>by refine dx (u.sr.own _ _ hx) λ_ kvs _ h _=>?_;exact⟨kvs,h⟩
 obtain⟨kvs,hP⟩:=key;rw[i.1];exact⟨hP.typeIs,λa e=>by cases e;refine gw hP λo es ep e c _=>?_;exact⟨o,e,c.2.1⟩⟩
theorem JF{ks}(hx:HL[j]? = some (.set ks)){A s ρ U}(u:Un cx d HL A s ρ)(i:Is cx s ρ HL.length (.ref j) U):s.TypeIs U "set"/\∀a,U = .ref a->∃o,s.heap.get? a=some o/\o.dict=none:=by
 refine dm (u.sr.own _ _ hx) λm hP _=>?_;rw[i.1];exact⟨hP.typeIs,λa e=>by cases e;refine Lm hP λo es ep t e c _=>?_;exact⟨o,e,c.2.1⟩⟩
theorem rG{y}{A s ρ U}(u:Un cx d HL A s ρ)(i:Is cx s ρ HL.length (.str y) U):s.TypeIs U "str"/\∀a,U = .ref a->∃o,s.heap.get? a=some o/\o.dict=none:=by
 obtain⟨t,e⟩:=i;rw[e];exact⟨cB _ _ _,λa e=>nomatch e⟩
theorem Ip{y}{A s ρ U}(u:Un cx d HL A s ρ)(i:Is cx s ρ HL.length (.int y) U):s.TypeIs U "int"/\∀a,U = .ref a->∃o,s.heap.get? a=some o/\o.dict=none:=by
 refine dm i λt e _=>?_;rw[e];exact⟨typeIs_int _ _ _,λa e=>nomatch e⟩
noncomputable abbrev Hnm(cx:Cx):Prop:=∃o,cx.hs.get? 135=some o/\o.cls = .type "dict"/\o.dict=none
theorem L0(hnm:Hnm cx){A s ρ U}(u:Un cx d HL A s ρ)(i:Is cx s ρ HL.length (.st 135) U):s.TypeIs U "dict"/\∀a,U = .ref a->∃o,s.heap.get? a=some o/\o.dict=none:=by
 refine dz hnm λo ho hc hd=>?_;rw[show U=_ from i];exact⟨⟨o,u.sr.keep _ _ ho,hc⟩,λa e=>by cases e;exact⟨o,u.sr.keep _ _ ho,hd⟩⟩
theorem dX.own(C:KC cx K)(h1:HL[j]? = some (.inst 241 dd))(h2:HL[dd]? = some (.idn mp))(hv:lk 67 mp=some v):dX cx d (.ref j) 67 HL v []:=λ{A s ρ U pl Q E} u iU W=>by
 refine fA (lH u.sr h1 h2) λod mm I=>?_;have:=I.is 67 (by decide);rw[hv]at this;refine dm this λV e1 e2=>?_;have X:=u.sr.kin C.inn;refine mU (C.meth 67 166 rfl) λc1 c2 c3 c4 c5=>?_;have hcan:=PySem.F.canon_object_ga;have hg:jw cx d (.ref j) 67 HL v:=jw.own C (.inr ⟨166,rfl⟩) (by decide) h1 h2 hv;rw[iU.1];unfold getMethod specialOf;refine ab (ab (I.at_.type.here ((looks_findIn X C.ga).here ?_)));dsimp only;rw[hcan,aF (by decide)];refine ab (ab (I.at_.type.here ((looks_findIn X C.gh).here ?_)));refine ab (ab (I.at_.type.here ((looks_findIn X c1).here (ab ((looks_typeIn X c2).here ?_)))));rw[aF (by decide +kernel)];refine ab (wpAny_loadPart I.at_.at_ ?_);refine ab (wpAny_nsGet I.ns.ns ?_);rw[e1];have fin:wpAny (model pw cx.w) A (getAttr (.ref (ρ j)) (nmF 67) >>= λx=>pure (x,([]:List Value))) Q E s:=
  ab (hg u ⟨rfl,iU.2⟩ λV' s' ρ' S' i' E'=>af (W V' [] s' ρ' S' i' rfl E'))
 exact fin
theorem dX.own'(C:KC cx K)(e:n=67)(h1:HL[j]? = some (.inst 241 dd))(h2:HL[dd]? = some (.idn mp))(hv:lk n mp=some v):dX cx d (.ref j) n HL v []:=by subst e;exact dX.own C h1 h2 hv
theorem dX.fn(C:KC cx K){g:Nat}(hf:uW n=some g)(hn2:n<185)(h1:HL[j]? = some (.inst 241 dd))(h2:HL[dd]? = some (.idn mp))(hv:lk n mp=none):dX cx d (.ref j) n HL (.st g) [.ref j]:=λu iU W=>by
 refine fA (lH u.sr h1 h2) λod mm I=>?_;have:=I.is n hn2;rw[hv]at this;have this:mm (nmF n)=none:=this;refine mU (C.meth n g hf) λc1 c2 c3 c4 c5=>?_;rw[iU.1];refine method_fn (u.sr.kin C.inn) I.at_ C.ga C.gh c1 c2 ?_ (W _ _ _ _ u.sr rfl (L2.cons ⟨rfl,iU.2⟩ rfl) .refl);unfold shadowIn;dsimp only;rw[I.lk,this];rfl
theorem nY{l:List (Nat×Nat)}{w:AV×List AV}(h:sC n a l=some w)(k:∀q,lk n l=some q->some (.bi q,[a])=some w->P):P:=dq h λq hq h=>k q hq h
theorem lk3{l:List (Nat×Nat)}{q:Nat}(h:lk n l=some q)(M:Nat->Nat->Prop)(k:∀p∈l,M p.1 p.2):M n q:=k (n,q) (gW h)
theorem in3{α:Type}{Q:α->Prop}{a b c:α}(h1:Q a)(h2:Q b)(h3:Q c):∀x ∈ [a,b,c],Q x:=λx hx=>by
 rcases aH.mp hx with e | hx
 ·rw[e];exact h1
 rcases aH.mp hx with e | hx
 ·rw[e];exact h2
 ·rw[br.mp hx];exact h3
theorem in2{α:Type}{Q:α->Prop}{a b:α}(h1:Q a)(h2:Q b):∀x ∈ [a,b],Q x:=λx hx=>by
 rcases aH.mp hx with e | hx
 ·rw[e];exact h1
 ·rw[br.mp hx];exact h2
theorem in1{α:Type}{Q:α->Prop}{a:α}(h1:Q a):∀x ∈ [a],Q x:=λx hx=>by rw[br.mp hx];exact h1
theorem z8{q xs}(hx:HL[j]? = some (.list xs))(h:lk n [(49,5),(101,6),(157,7)]=some q):dX cx d (.ref j) n HL (.bi q) [.ref j]:=
 lk3 h (λn q=>dX cx d (.ref j) n HL (.bi q) [.ref j]) (in3 (dX.bi (by rfl) (by rfl) F.plainAttrs_list F.slot_list_append F.type_list_append (rF hx)) (dX.bi (by rfl) (by rfl) F.plainAttrs_list F.slot_list_sort F.type_list_sort (rF hx)) (dX.bi (by rfl) (by rfl) F.plainAttrs_list F.slot_list_index F.type_list_index (rF hx)))
theorem tm{q es}(hx:HL[j]? = some (.dict es)\/HL[j]? = some (.bag es))(h:lk n [(50,8),(102,9)]=some q):dX cx d (.ref j) n HL (.bi q) [.ref j]:=
 lk3 h (λn q=>dX cx d (.ref j) n HL (.bi q) [.ref j]) (in2 (dX.bi (by rfl) (by rfl) F.plainAttrs_dict F.slot_dict_items F.type_dict_items (v1 hx)) (dX.bi (by rfl) (by rfl) F.plainAttrs_dict F.slot_dict_get F.type_dict_get (v1 hx)))
theorem Fr{q ks}(hx:HL[j]? = some (.set ks))(h:lk n [(73,10)]=some q):dX cx d (.ref j) n HL (.bi q) [.ref j]:=
 lk3 h (λn q=>dX cx d (.ref j) n HL (.bi q) [.ref j]) (in1 (dX.bi (by rfl) (by rfl) F.plainAttrs_set F.slot_set_add F.type_set_add (JF hx)))
theorem E9{q y}(h:lk n [(103,11),(66,13),(72,14)]=some q):dX cx d (.str y) n HL (.bi q) [.str y]:=
 lk3 h (λn q=>dX cx d (.str y) n HL (.bi q) [.str y]) (in3 (dX.bi (by rfl) (by rfl) F.plainAttrs_str F.slot_str_join F.type_str_join rG) (dX.bi (by rfl) (by rfl) F.plainAttrs_str F.slot_str_split F.type_str_split rG) (dX.bi (by rfl) (by rfl) F.plainAttrs_str F.slot_str_rsplit F.type_str_rsplit rG))
theorem DC{q y}(h:lk n [(22,15)]=some q):dX cx d (.int y) n HL (.bi q) [.int y]:=
 lk3 h (λn q=>dX cx d (.int y) n HL (.bi q) [.int y]) (in1 (dX.bi (by rfl) (by rfl) F.plainAttrs_int F.slot_int_bit_length F.type_int_bit_length Ip))
theorem HG(hnm:Hnm cx){q}(h:lk n [(50,8)]=some q):dX cx d (.st 135) n HL (.bi q) [.st 135]:=
 lk3 h (λn q=>dX cx d (.st 135) n HL (.bi q) [.st 135]) (in1 (dX.bi (by rfl) (by rfl) F.plainAttrs_dict F.slot_dict_items F.type_dict_items (L0 hnm)))
theorem CP{y}:dX cx d (.str y) 109 HL (.bi 12) [.str y]:=dX.bi (by rfl) (by rfl) F.plainAttrs_str F.slot_str_replace F.type_str_replace rG
theorem zH(C:KC cx K)(hnm:Hnm cx)(hn2:n<185)(h:F7 a n H=some (f,first)):dX cx d a n H.L f first:=
 orE h (λh=>dP h λj e h=>orE h (λh=>ro h λdd mp hi hd h=>An h (λhv h=>dq h λg hf h=>dX.of e h (dX.fn C hf hn2 (dA hi) (dA hd) hv))
    λw hv h=>ifE h λq h=>dX.of e h (dX.own' C (nb q) (dA hi) (dA hd) hv))
   λh=>orE h (λh=>dG h λxs hx h=>nY h λq hq h=>dX.ofp e h (z8 (dA hx) hq))
   λh=>orE h (λh=>gJ h λxs hx h=>nY h λq hq h=>dX.ofp e h (tm (.inl (dA hx)) hq))
   λh=>orE h (λh=>qh h λxs hx h=>nY h λq hq h=>dX.ofp e h (tm (.inr (dA hx)) hq))
   λh=>C3 h λxs hx h=>nY h λq hq h=>dX.ofp e h (Fr (dA hx) hq))
  λh=>orE h (λh=>dL h λy e h=>nY h λq hq h=>dX.ofp e h (E9 hq))
  λh=>orE h (λh=>dM h λy e h=>nY h λq hq h=>dX.ofp e h (DC hq))
  λh=>yN h λy e h=>ifE h λq2 h=>nY h λq hq h=>dX.ofp (e.trans (aB AV.st (nb q2))) h (HG hnm hq)
theorem Ir(kws:List Keyword)(env:Env)(pos:Pos):backToKw pos (keywordEach kws env)=kws.map λk=>(k.arg,do let v <-eval k.value env;standAt pos;pure v):=by
 induction kws with
 |nil=>rfl
 |cons k r ih=>
  obtain⟨n,v,p⟩:=k;show _::backToKw pos (keywordEach r env)=_;rw[ih];rfl
theorem gQ{M:Model}{fv:Value}{keywords:List (Option Str×Sem Value)}{Q:Args->Shared->Prop}(hall:keywords.all (·.1.isSome)=true)
  (h:wpAny M A (spliced (es.map λe=>(false,eval e env))) (λvs U4=>wpAny M A (evalAll (keywords.map (·.2))) (λks U6=>Q ⟨vs,(keywords.filterMap (·.1)).zip ks⟩ U6) E U4) E s) :
  wpAny M A (evalArgs fv true (es.map λe=>(false,eval e env)) keywords) Q E s:=by
 cases es with
 |nil=>
  unfold evalArgs;show wpAny M A (spliced [] >>= _) Q E s;refine ab (bq h (λvs U4 S5=>ab (af (aN ?_))) λ_ _ x=>x);simp only[hall,if_true];exact ab (bq S5 (λks U6 S7=>ab (af (af S7))) λ_ _ x=>x)
 |cons e r=>exact evalArgs_kw hall h
noncomputable def KwR(kws:List Keyword)(ks:List Nat):Prop:=kws.map (·.arg)=ks.map λx=>some (nmF x)
theorem KwR.names{α:Type}{kws ks}(D:KwR kws ks)(T:Keyword->α):(kws.map λk=>(k.arg,T k)).filterMap (·.1)=ks.map nmF/\(kws.map λk=>(k.arg,T k)).all (·.1.isSome)=true/\(kws.map λk=>(k.arg,T k)).any (·.1.isNone)=false:=by
 induction kws generalizing ks with
 |nil=>cases ks with | nil=>exact⟨rfl,rfl,rfl⟩ | cons x q=>cases D
 |cons k r ih=>
  cases ks with
  |nil=>cases D
  |cons x q=>
   have D:=List.cons.inj (D:k.arg::r.map (·.arg)=some (nmF x)::q.map λx=>some (nmF x));have ih:=ih D.2;have D1:k.arg=some (nmF x):=D.1;rw[aM,cU,List.all_cons,List.any_cons];have e:((k.arg,T k):Option Str×α)=(some (nmF x),T k):=by rw[D1]
   rw[e];exact⟨aB _ ih.1,ih.2.1,ih.2.2⟩
theorem m7{vs us:List AV}{ks:List Nat}{kws:List Keyword}{pos:Pos}{O7 H₂:List AO}(k1:EvL cx d es c HL vs O7)(k2:EvL cx d (kws.map (·.value)) c O7 us H₂)(kp:Kp cx f)(k3:dE cx d f (first++vs) (ks.zip us) H₂ r HL')(D:KwR kws ks):
  HL.length<=HL'.length/\∀{A s ρ env Fv firstV} {Q:Value->Shared->Prop} {E},At cx d c HL A s ρ env->Is cx s ρ HL.length f Fv->IsL cx s ρ HL.length first firstV->gy cx ρ HL s r HL' Q->
   wpAny (model pw cx.w) A (callWith pos Fv firstV (backTo pos (starEach es env)) (backToKw pos (keywordEach kws env))) Q E s:=by
 have l12:=ae k1.1.1 k2.1.1;have hl:us.length=ks.length:=by
  have h1:=k2.2.2.1;have h2:=aB List.length D;rw[aq]at h1;rw[aq,aq]at h2;exact h1.trans h2
 refine⟨ae l12 k3.1,λ{A s ρ env Fv firstV Q E} z iF iL W=>?_⟩;have g:=z.g.toGood;rw[gH k1.2.2.2,Ir];have n0:=D.names λk=>(do let v <-eval k.value env;standAt pos;pure v:Sem Value);refine callWith_of (P:=λh=>∃k,(k=Keeper.frame\/k=Keeper.machine\/k=Keeper.boundFrame)/\Looks (model pw cx.w) h (keeperOf Fv) k) ?_ (λh x=>x) (gQ n0.2.1 ?_)
 ·rw[n0.2.2,Bool.or_false,List.any_map];exact di.mpr λx _=>ah
 ·refine k1.1.run z λVs U4 V4 V0 T3 N0=>?_
  have e:(kws.map λk=>(k.arg,(do let v <-eval k.value env;standAt pos;pure v:Sem Value))).map (·.2)=(kws.map (·.value)).map λe=>(do let v <-eval e env;standAt pos;pure v:Sem Value):=by
   rw[aV,aV];rfl
  rw[e];refine(k2.2.1 pos).run V0 λKs U6 ρ₂ V1 T5 N7=>?_;have N3:=N0.trans k1.1.1 N7;have S9:=iF.ext g N3 l12;refine⟨kp V1.sr S9,?_⟩;rw[n0.1];have:=k3.2 (Ks:=Ks) (E:=E) V1.un S9 ((IsL.ext g N3 l12 iL).app (IsL.ext g N7 k2.1.1 T3)) (by rw[lT hl];exact T5) (W.on N3 l12);rw[lJ hl]at this;exact this
theorem pf{kws:List Keyword}{pos:Pos}:∀x,rn x=false->eval (.Call x es kws pos) env=(do callWith pos (<-eval x env) [] (backTo pos (starEach es env)) (backToKw pos (keywordEach kws env))):=λx=>by
 cases x<;>first | exact λ_=>rfl | exact λh=>absurd h.symm ah
theorem I6{kws:List Keyword}{ks:List Nat}(h:trv (λk:Keyword=>opt k.arg idx) kws=some ks):KwR kws ks:=by
 induction kws generalizing ks with
 |nil=>obtain rfl:=ak h;rfl
 |cons k r ih=>
  exact dq h λb h1 h=>dq h λq h2 h=>so h λe=>by
   rw[<-e];exact dq h1 λs hs hb=>by
    show k.arg::r.map (·.arg)=some (nmF b)::q.map λx=>some (nmF x);rw[hs,ih h2,(im hb).1]
theorem vO{α β:Type}(g:β->PE)(h:α->β):∀l:List α,cvL (λx=>g (h x)) l=cvL g (l.map h)
 | []=>rfl
 |x::r=>aB (PE.c _) (vO g h r)
theorem yh(KF:dC cx F){kws:List Keyword}{ks:List Nat}{pos:Pos}{k}(hf:rn x=false)(D:KwR kws ks)(h:CK F d (cvE n x) (cvL (cvE n) es) ks (cvL (λk:Keyword=>cvE n k.value) kws) c H k=some z)(w:∀v H',EvE cx d (.Call x es kws pos) c H.L v H'.L->k v H'=some z->P):P:=
 KF.ev h λf O6 k0 h=>KF.evs h λvs O7 k1 h=>by
  rw[vO]at h;exact KF.evs h λus H₂ k2 h=>KF.call h λv H' kp k3 h=>w v H' (by
   have k:=m7 (first:=[]) (pos:=pos) k1 k2 kp k3 D;refine⟨ae k0.1 k.1,λz W=>?_⟩;rw[pf x hf];exact ab (k0.run z λFv U4 V4 V0 T3 N0=>k.2 V0 T3 rfl (W.on N0 k0.1))) h
theorem EvL.nil':EvL cx d (([]:List Keyword).map (·.value)) c HL [] HL:=EvL.nil
theorem EvE.meth{y:Nat}{ap pos:Pos}{vs}{O6 O7:List AO}(hs:iS o=false)(hline:(ap.endLine == pos.line)=true)(hlen:Nat.blt es.length 20=true)(k0:EvE cx d o c HL a O6)(hm:dX cx d a y O6 f first)(k1:EvL cx d es c O6 vs O7)(kp:Kp cx f)(k3:dE cx d f (first++vs) [] O7 r HL'):
  EvE cx d (.Call (.Attribute o (nmF y) ap) es [] pos) c HL r HL':=by
 have k:=m7 (ks:=[]) (kws:=[]) (pos:=pos) k1 EvL.nil' kp k3 rfl;refine⟨ae k0.1 k.1,λ{A s ρ env Q E} z W=>?_⟩;rw[arm_eval_Call,rp hs];refine ab (k0.run z λU U4 V4 V0 T3 N0=>ab (a8 ?_));have hform:methodCallForm (es.length+([]:List Keyword).length) (backTo pos (starEach es env)) (backToKw pos (keywordEach [] env))=true:=by
  rw[gH k1.2.2.2];rw[show backToKw pos (keywordEach [] env)=[] from rfl];unfold methodCallForm;have:=jx hlen;simp only[List.all_map,List.map_nil,List.all_nil,cG,List.isEmpty_nil,Bool.and_true];simp;omega
 have hpos:methodCallPos true o env ap pos=pure pos:=by unfold methodCallPos;simp[hline]
 unfold methodCall;rw[hform];exact ab (aN (hm V0.un T3 λFv Fs U6 ρ₂ P9 T5 iL N7=>ab (cj hpos (k.2 (V0.next P9 N7 (ad _)) T5 iL (W.on (N0.trans k0.1 N7) k0.1)))))
theorem yf(C:KC cx K)(hnm:Hnm cx)(KF:dC cx F){y:Nat}{ap pos:Pos}{k}(hy:y<185)(hs:iS o=false)(hline:(ap.endLine == pos.line)=true)(hlen:Nat.blt es.length 20=true)(h:Bp F d (cvE n o) y (cvL (cvE n) es) c H k=some z)(w:∀v H',EvE cx d (.Call (.Attribute o (nmF y) ap) es [] pos) c H.L v H'.L->k v H'=some z->P):P:=
 KF.ev h λa O6 k0 h=>gx h λf first hm h=>KF.evs h λvs O7 k1 h=>KF.call h λv H' kp k3 h=>w v H' (EvE.meth hs hline hlen k0 (zH C hnm hy hm) k1 kp k3) h
end
noncomputable def NxE(cx:Cx)(d:Nat)(i:Nat)(o:Option (AV×IT))(HL:List AO):Prop:=
 i<HL.length/\∀{A s ρ} {Q:Option Value->Shared->Prop} {E},Un cx d HL A s ρ->(o=none->∀s',SR cx ρ (HL.set i .dead) s'->Ext ρ HL.length s ρ s'->Q none s')->
  (∀w it',o=some (w,it')->∀X s',SR cx ρ (HL.set i (.iter it')) s'->Is cx s' ρ HL.length w X->Ext ρ HL.length s ρ s'->Q (some X) s')->wpAny (model pw cx.w) A (pyNext (.ref (ρ i))) Q E s
section
variable {cx:Cx} {d n m:Nat} {H H' O7 H₂:TH} {HL HL' HM:List AO} {r a v w:AV} {xs:List AV} {t:Bool} {F:Fns} {c:IE} {z:AF×TH} {P:Prop} {e l x o:Expr} {A:Around} {s U4:Shared} {ρ V4:Nat->Addr} {env:Env} {E:Value->Shared->Prop} {i j k:Nat} {it it':IT} {bd:List Stmt} {tg:Expr} {f:AF}
theorem NxE.of{o o'}(e:o'=o)(h:NxE cx d i o' HL):NxE cx d i o HL:=e▸h
theorem NxE.end_(hi:HL[i]? = some (.iter it))(h:∀{A s ρ} {Q:Option Value->Shared->Prop} {E},Un cx d HL A s ρ->(∀h',Heap.ExtBut (ρ i) s.heap h'->Q none { s with heap:=h'})->wpAny (model pw cx.w) A (pyNext (.ref (ρ i))) Q E s):NxE cx d i none HL:=
 ⟨fM hi,λu W0 W1=>h u λh' he=>
  have key:=u.sr.die (hp:=h') (t:=_) u.g.toGood hi rfl (λa o ha e=>he a o ha e) (ad _)
  W0 rfl _ key.1 key.2⟩
theorem NxE.item(hi:HL[i]? = some (.iter it))(h:∀{A s ρ} {Q:Option Value->Shared->Prop} {E},Un cx d HL A s ρ->(∀X h' t,s.toks<=t->Heap.SameBut (ρ i) s.heap h'->(∀h'':Shared,h''.toks=t->Ext ρ HL.length s ρ h''->Is cx h'' ρ HL.length w X/\(h''.heap=h'->OR cx h'' ρ HL.length (ρ i) (.iter it')))->Q (some X) { s with heap:=h',toks:=t})->wpAny (model pw cx.w) A (pyNext (.ref (ρ i))) Q E s):
  NxE cx d i (some (w,it')) HL:=
 ⟨fM hi,λu W0 W1=>h u λX h' t ht hs hX=>
  have key:=u.sr.set (hp:=h') (t:=t) (o':=.iter it') u.g.toGood hi rfl (λa o ha e=>(hs.2 a ha).trans e) ht λE=>(hX _ rfl E).2 rfl
  W1 w it' rfl X _ key.1 (hX _ rfl key.2).1 key.2⟩
theorem FL(hi:HL[i]? = some (.iter (.list j k)))(hx:HL[j]? = some (.list xs))(hk:xs[k]? = some v):NxE cx d i (some (v,.list j (k+1))) HL:=.item hi λ{A s ρ Q E} u W=>by
 refine dm (u.sr.own _ _ hi) λl' hit hj=>?_;cases hj.1;refine dm (u.sr.own _ _ hx) λVs hP l=>?_;exact l.getE hk λX hX iX=>wpAny_pyNext_list_item hit hP.isList (by rw[<-hX,bz]) λh' hi' hs=>W X h' s.toks (ad _) hs λh'' _ E=>⟨iX.ext u.g.toGood E (ad _),λe=>⟨_,by rw[e];exact hi',rfl,hj.2⟩⟩
theorem CQ(hi:HL[i]? = some (.iter (.list j k)))(hx:HL[j]? = some (.list xs))(hk:xs[k]? = none):NxE cx d i none HL:=.end_ hi λu W=>by
 refine dm (u.sr.own _ _ hi) λl' hit hj=>?_;cases hj.1;refine dm (u.sr.own _ _ hx) λVs hP l=>?_;exact wpAny_pyNext_list_end u.ok.hd hit hP.isList (cw (by rw[l.size];exact cC.mp hk)) W
theorem HB(hi:HL[i]? = some (.iter (.rev j (k+1))))(hx:HL[j]? = some (.list xs))(hk:xs[k]? = some v):NxE cx d i (some (v,.rev j k)) HL:=.item hi λ{A s ρ Q E} u W=>by
 refine dm (u.sr.own _ _ hi) λl' hit hj=>?_;cases hj.1;refine dm (u.sr.own _ _ hx) λVs hP l=>?_;have hit:s.heap.IsRevIter (ρ i) (ρ j) (k:Int):=by have:((k+1:Nat):Int) - 1=k:=Int.add_sub_cancel (k:Int) 1;rw[this]at hit;exact hit
 exact l.getE hk λX hX iX=>wpAny_pyNext_rev_item (i:=k) hit hP.isList (by rw[<-hX,bz]) λh' hi' hs=>W X h' s.toks (ad _) hs λh'' _ E=>⟨iX.ext u.g.toGood E (ad _),λe=>⟨_,by rw[e];exact hi',rfl,hj.2⟩⟩
theorem D8(hi:HL[i]? = some (.iter (.rev j 0))):NxE cx d i none HL:=.end_ hi λu W=>by
 refine dm (u.sr.own _ _ hi) λl' hit hj=>?_;exact wpAny_pyNext_rev_end u.ok.hd hit W
theorem Kd(hi:HL[i]? = some (.iter (.tup xs k)))(hk:xs[k]? = some v):NxE cx d i (some (v,.tup xs (k+1))) HL:=.item hi λ{A s ρ Q E} u W=>by
 refine dm (u.sr.own _ _ hi) λta hit iT=>?_;refine gw (id iT) λta' Vs ep e hV l=>?_;cases e;exact l.getE hk λX hX iX=>wpAny_pyNext_tuple_item hit ⟨_,hV,rfl,ep,rfl⟩ (by rw[<-hX,bz]) λh' hi' hs=>W X h' s.toks (ad _) hs λh'' _ E=>⟨iX.is.ext u.g.toGood E (ad _),λe=>⟨ta,by rw[e];exact hi',iT.ext u.g.toGood E (ad _)⟩⟩
theorem Ez(hi:HL[i]? = some (.iter (.tup xs k)))(hk:xs[k]? = none):NxE cx d i none HL:=.end_ hi λu W=>by
 refine dm (u.sr.own _ _ hi) λta hit iT=>?_;refine gw iT λta' Vs ep e hV l=>?_;cases e;exact wpAny_pyNext_tuple_end u.ok.hd hit ⟨_,hV,rfl,ep,rfl⟩ (cw (by rw[l.size];exact cC.mp hk)) W
theorem Jq{x y:Int}(hi:HL[i]? = some (.iter (.rng x y (k+1)))):NxE cx d i (some (.int x,.rng (x+y) y k)) HL:=.item hi λ{A s ρ Q E} u W=>by
 have hit:IsRangeIter s.heap (ρ i) x ((k+1:Nat):Int) y:=u.sr.own _ _ hi;refine wpAny_pyNext_range_item hit (cF.mpr (bI k)) λh' hi' hs=>W _ h' (s.toks+1) (aC _) hs λh'' ht E=>⟨⟨_,rfl,bl u.sr.tk0,by rw[ht];exact aD _⟩,λe=>?_⟩;have:((k+1:Nat):Int) - 1=k:=Int.add_sub_cancel (k:Int) 1;rw[this]at hi';show IsRangeIter _ _ _ _ _;rw[e];exact hi'
theorem Em{x y:Int}(hi:HL[i]? = some (.iter (.rng x y 0))):NxE cx d i none HL:=.end_ hi λ{A s ρ Q E} u W=>by
 have hit:IsRangeIter s.heap (ρ i) x ((0:Nat):Int) y:=u.sr.own _ _ hi;exact wpAny_pyNext_range_end u.ok.hd hit (Int.le_refl _) W
theorem Jl{l:List Nat}{q:Nat}(hi:HL[i]? = some (.iter (.str l k)))(hk:l[k]? = some q):NxE cx d i (some (.tok false (.inl [q]),.str l (k+1))) HL:=.item hi λ{A s ρ Q E} u W=>by
 obtain⟨t,hit⟩:=u.sr.own _ _ hi;exact wpAny_pyNext_ascii_item (c:=ph cx.σ q) hit (by show(l.map (ph cx.σ)).toArray[k]? = _;rw[List.getElem?_toArray,aP,hk];rfl) λh' hi' hs=>W _ h' (s.toks+1) (aC _) hs λh'' ht E=>⟨⟨s.toks,rfl,⟨bl u.sr.tk0,by rw[ht];exact aD _⟩,(λe=>nomatch e),λ_=>u.sr.tkn.1⟩,λe=>⟨t,by rw[e];exact hi'⟩⟩
theorem DW{l:List Nat}(hi:HL[i]? = some (.iter (.str l k)))(hk:l[k]? = none):NxE cx d i none HL:=.end_ hi λ{A s ρ Q E} u W=>by
 obtain⟨t,hit⟩:=u.sr.own _ _ hi;exact wpAny_pyNext_ascii_end u.ok.hd hit (by show(l.map (ph cx.σ)).toArray[k]? = _;rw[List.getElem?_toArray,aP,hk];rfl) W
theorem Gq{β:Type}{q:β}{kE:Option β}{k:AV->IT->Option β}(hi:gt H i=some (.iter it))(h:zu H it kE k=some q)(c0:NxE cx d i none H.L->kE=some q->P)(c1:∀w it',NxE cx d i (some (w,it')) H.L->k w it'=some q->P):P:=by
 have hi:=dA hi;cases it with
 |list j k=>exact dG h λxs hx h=>An h (λhk h=>c0 (CQ hi (dA hx) hk) h) λv hk h=>c1 _ _ (FL hi (dA hx) hk) h
 |rev j k=>
  exact dG h λxs hx h=>by
   cases k with
   |zero=>exact c0 (D8 hi) h
   |succ k=>exact dq h λv hk h=>c1 _ _ (HB hi (dA hx) hk) h
 |tup xs k=>exact An h (λhk h=>c0 (Ez hi hk) h) λv hk h=>c1 _ _ (Kd hi hk) h
 |rng x y m=>
  cases m with
  |zero=>exact c0 (Em hi) h
  |succ m=>exact c1 _ _ (Jq hi) h
 |str l k=>exact An h (λhk h=>c0 (DW hi hk) h) λv hk h=>c1 _ _ (Jl hi hk) h
noncomputable def ItE(cx:Cx)(d:Nat)(a:AV)(i:Nat)(HL HL':List AO):Prop:=
 HL.length<=HL'.length/\(∃it,HL'[i]? = some (.iter it))/\∀{A s ρ U} {Q:Value->Shared->Prop} {E},Un cx d HL A s ρ->Is cx s ρ HL.length a U->(∀s' ρ',SR cx ρ' HL' s'->Ext ρ HL.length s ρ' s'->Q (.ref (ρ' i)) s')->wpAny (model pw cx.w) A (pyIter U) Q E s
theorem ItE.of{a'}(e:a=a')(k:ItE cx d a' i HL HL'):ItE cx d a i HL HL':=e▸k
theorem ItE.new(h:∀{A s ρ U} {Q:Value->Shared->Prop} {E},Un cx d HL A s ρ->Is cx s ρ HL.length a U->(∀o:Obj,o.isFreed=false->(∀h'':Shared,h''.heap=s.heap.push o->Ext ρ HL.length s (up ρ HL.length s.heap.objs.size) h''->OR cx h'' (up ρ HL.length s.heap.objs.size) (HL.length+1) s.heap.objs.size (.iter it))->Q (.ref s.heap.objs.size) { s with heap:=s.heap.push o})->wpAny (model pw cx.w) A (pyIter U) Q E s)
  (hn:mo H it=some (i,H')) (eH:H.L=HL):ItE cx d a i HL H'.L:=by
 obtain⟨rfl,e⟩:i=HL.length/\H'.L=HL++[.iter it]:=dq hn λt h1 h2=>by cases h2;exact⟨by rw[<-eH,TH.len],by rw[wU h1,eH]⟩
 rw[e];refine⟨eQ _ _,⟨it,by rw[cz (ad _),Nat.sub_self];rfl⟩,λ{A s ρ U Q E} u iU W=>h u iU λo hf ho=>?_⟩;have key:=u.sr.fresh (ob:=o) (o:=.iter it) (t:=s.toks) u.g.toGood (ad _) λE=>ho _ rfl E;have:=W _ _ key.1 key.2;rw[g9]at this;exact this
theorem Fc(hx:H.L[j]? = some (.list xs))(hn:mo H (.list j 0)=some (i,H')):ItE cx d (.ref j) i H.L H'.L:=.new (λ{A s ρ U Q E} u iU W=>by
 rw[iU.1];refine dm (u.sr.own _ _ hx) λVs hP l=>?_;refine wpAny_pyIter_list hP.isList (W _ rfl λh'' e E'=>⟨ρ j,⟨_,by rw[e];exact aw _ rfl,rfl,rfl⟩,by rw[gM iU.2],bc iU.2⟩)) hn rfl
theorem Iv(hx:HL[j]? = some (.iter (.rev i k))):ItE cx d (.ref j) j HL HL:=
 ⟨ad _,⟨_,hx⟩,λu iU W=>by
  rw[iU.1];refine dm (u.sr.own _ _ hx) λl' hit hj=>?_;exact wpAny_pyIter_revIter hit (W _ _ u.sr .refl)⟩
theorem HI(hn:mo H (.tup xs 0)=some (i,H')):ItE cx d (.tup xs) i H.L H'.L:=.new (λ{A s ρ U Q E} u iU W=>by
 refine gw (id iU) λta Vs ep e hV l=>?_;rw[e]at iU ⊢;exact wpAny_pyIter_tuple ⟨_,hV,rfl,ep,rfl⟩ (W _ rfl λh'' e E'=>⟨ta,⟨_,by rw[e];exact aw _ rfl,rfl,rfl⟩,iU.ext u.g.toGood E' (aC _)⟩)) hn rfl
theorem rsz{y:Int}(q1:0<=y):Builtin.Range.rangeSize 0 y 1=(y.toNat:Int):=by
 rw[Int.toNat_of_nonneg q1];unfold Builtin.Range.rangeSize;rw[aI (by decide)]
 split
 ·rw[Int.ediv_one,Int.sub_zero,Int.sub_add_cancel]
 ·rename_i h;exact(Int.le_antisymm (Int.not_lt.mp h) q1).symm
theorem Hl{y:Int}(q1:0<=y)(q2:y<4611686018427387904)(hn:mo H (.rng 0 1 y.toNat)=some (i,H')):ItE cx d (.rng 0 y 1) i H.L H'.L:=.new (λ{A s ρ U Q E} u iU W=>by
 refine jL iU λra t p q e hr=>?_;rw[e];refine wpAny_pyIter_range hr (small_one (by decide) (by decide) (Int.le_trans (by decide) q1) q2) (W _ rfl λh'' e E'=>?_);have e2:=rsz q1;show IsRangeIter _ _ _ _ _;rw[<-e2,e];exact aw _ rfl) hn rfl
theorem zt{σ:eO}{l:List Nat}(q:kR l=true):strIterType (rs σ l)="str_ascii_iterator":=by
 unfold strIterType;have:(rs σ l).cps.all (· < 128)=true:=by
  rw[Array.all_eq_true_iff_forall_mem];intro x hx;refine dm (bx.mp (Array.mem_def.mp hx:x∈l.map (ph σ))) λy hy e=>?_;rw[<-e];refine aS ((orb (aA.mp q y hy)).elim (λh=>?_) λh=>?_)
  ·rw[jI σ (cu (jx h) (by decide))];exact jx h
  ·refine aJ (pd σ y).2 ?_
   rcases kj h with e | e | e | e<;>rw[e]<;>decide
 rw[this];rfl
theorem I5{l:List Nat}(q:kR l=true)(hn:mo H (.str l 0)=some (i,H')):ItE cx d (.str l) i H.L H'.L:=.new (λ{A s ρ U Q E} u iU W=>by
 obtain⟨t,e⟩:=iU;rw[e];refine wpAny_pyIter_strU ?_;rw[zt q];exact W _ rfl λh'' e E'=>⟨t,⟨_,by rw[e];exact aw _ rfl,rfl,rfl⟩⟩) hn rfl
theorem mC(h:my a H=some (i,H')):ItE cx d a i H.L H'.L:=
 orE h (λh=>dP h λj e h=>orE h (λh=>dG h λxs hx h=>ItE.of e (Fc (dA hx) h)) λh=>vu h λit hi h=>by
   cases it with
   |rev _ _=>exact sp (P:=λi (H':TH)=>ItE cx d a i H.L H'.L) h (ItE.of e (Iv (dA hi)))
   |_=>exact nn h) λh=>
 orE h (λh=>uE h λxs e h=>ItE.of e (HI h)) λh=>orE h (λh=>dL h λl e h=>ifE h λq h=>ItE.of e (I5 q h)) λh=>Mw h λx y u e h=>ifE h λq h=>by
  have q1:=aa (aa (aa q).1).1;exact ItE.of (by rw[e,dec q1.1,dec q1.2]) (Hl (dec (aa (aa q).1).2) (dec (aa q).2) h)
noncomputable abbrev KI:Expr:=.Tuple [] 0 ⟨0,0,0,0⟩
theorem Ms(tg:Expr)(it V:Value):letOwnedTupleGo tg it V=pure ()\/letOwnedTupleGo tg it V=letOwnedTupleGo KI it V:=by cases tg<;>first | exact .inl rfl | exact .inr rfl
theorem Nh(r:Addr)(V:Value):letOwnedTupleGo KI (.ref r) V=pure ()\/∃a,V = .ref a:=by cases V<;>first | exact .inl rfl | exact .inr ⟨_,rfl⟩
theorem tQ(S:SR cx ρ HL s)(hi:HL[i]? = some (.iter it)){V:Value}{Q:Unit->Shared->Prop}(W:Q () s):wpAny (model pw cx.w) A (letOwnedTupleGo tg (.ref (ρ i)) V) Q E s:=by
 have own:=S.own _ _ hi;have ob:∃o T vs,s.heap.get? (ρ i)=some o/\o.cls = .type T/\o.data = .fields vs/\["enumerate","zip","dict_itemiterator","dict_reverseitemiterator","odict_iterator","itertools.zip_longest","itertools.pairwise"].contains T=false:=by
  cases it with
  |list j k=>refine dm own λ_ OA _=>?_;refine dz OA λo e c d=>?_;exact⟨o,_,_,e,c,d,by decide⟩
  |rev j k=>refine dm own λ_ OC _=>?_;refine dz OC λo e c d=>?_;exact⟨o,_,_,e,c,d,by decide⟩
  |tup xs k=>refine dm own λt OD _=>?_;refine dz OD λo e c d=>?_;exact⟨o,_,_,e,c,d,by decide⟩
  |rng x st m=>exact⟨_,_,_,own,rfl,rfl,by decide⟩
  |str l k=>refine dx own λt o e c d=>?_;exact⟨o,_,_,e,c,d,by decide⟩
 refine nM ob λo T vs e c dt hc=>?_;refine(Ms tg (.ref (ρ i)) V).elim (λq=>?_) λq=>?_
 ·rw[q];exact af W
 ·rw[q]
  refine(Nh (ρ i) V).elim (λq=>?_) λ⟨a,q⟩=>?_
  ·rw[q];exact af W
  ·rw[q]
   show wpAny _ A (load (ρ i) >>= _) Q E s;refine ab (wpAny_load e ?_);rw[c,dt];dsimp only;rw[hc];exact af W
theorem gP{prog:Program}{w:World}{R:Result->Shared->Prop}{it:Value}
  (turn:wpAny (model prog w) A (pyNext it) (λr U4=>match r with
   |none=>R (.ok .next) U4
   |some v=>wpAny (model prog w) A (letOwnedTupleGo tg it v) (λ_ U5=>
     wpAny (model prog w) A (assign tg env v) (λ_ U6=>wpAny (model prog w) A (execs bd env) (λf U7=>match f with
      | .next | .cont=>codeAny (model prog w) A (.forLoop tg it bd [] env) R U7
      | .brk=>R (.ok .next) U7
      | .ret v=>R (.ok (.ret v)) U7) (notedBy (model prog w) A env λe s'=>R (.error e) s') U6) (notedBy (model prog w) A env λe s'=>R (.error e) s') U5) (notedBy (model prog w) A env λe s'=>R (.error e) s') U4) (notedBy (model prog w) A env λe s'=>R (.error e) s') s) :
  codeAny (model prog w) A (.forLoop tg it bd [] env) R s:=by
 refine c6 ?_;show wpAny _ A ((forTurn tg it bd [] env).onRaise (λx=>do noteFrame x env;theTreesLotGoes x)) _ _ s;refine wpAny_noted ?_;simp only[forTurn];refine ab (a8 (ab (wpAny_onRaise (bq turn (λr U4 S5=>?_) λ_ _ h'=>a8 h'))));cases r with
 |none=>exact af ⟨rfl,codeAny_block (wpAny_execs_nil S5)⟩
 |some v=>
  refine ab (bq S5 (λ_ U5 S6=>?_) λ_ _ h'=>h');refine ab (bq S6 (λ_ U6 S7=>ab (bq S7 (λf U7 S8=>?_) λ_ _ h'=>h')) λ_ _ h'=>h');cases f with
  |next=>exact af ⟨rfl,S8⟩
  |cont=>exact af ⟨rfl,S8⟩
  |_=>exact af S8
theorem jU.stop(hn:NxE cx d i none HL):jU cx d tg i bd c HL .next (HL.set i .dead):=
 ⟨by rw[aE];exact ad _,hn.1,λz W=>gP (hn.2 z.un (λ_ s' S' E'=>W _ s' _ S' rfl E') λw it' e=>nomatch e)⟩
theorem jU.turn(hn:NxE cx d i (some (v,it')) HL)(k1:AsE cx d tg v c (HL.set i (.iter it')) HM){R0 HN}(k2:ExB cx d bd c HM R0 HN)(k3:((R0 = .next\/R0 = .cont)/\jU cx d tg i bd c HN f HL')\/((∃v,R0 = .ret v)/\f=R0/\HL'=HN)):jU cx d tg i bd c HL f HL':=by
 have l0:HL.length<=(HL.set i (.iter it')).length:=by rw[aE];exact ad _
 have l1:=ae l0 k1.1;have l2:=ae l1 k2.1;refine⟨k3.elim (λk3=>ae l2 k3.2.1) λk3=>by rw[k3.2.2];exact l2,hn.1,λ{A s ρ env R} z W=>gP (hn.2 z.un (λe=>nomatch e) λw it'' e X U4 P8 iX N0=>?_)⟩;cases e;refine tQ P8 (by rw[List.getElem?_set_self hn.1]) (k1.2 (z.next P8 N0 l0) (by rw[aE];exact iX) λ_ U6 ρ₂ P9 _ N7=>?_);have N3:=N0.trans l0 N7;refine k2.2 (z.next P9 N3 l1) λfl U7 V5 Q0 T6 N9=>?_;have N4:=N3.trans l1 N9;rcases k3 with ⟨hf,k3⟩ | ⟨⟨v',hf⟩,e1,e2⟩
 ·have back:codeAny (model pw cx.w) A (.forLoop tg (.ref (ρ i)) bd [] env) R U7:=by
   rw[<-N4.ag i hn.1];exact k3.2.2 (z.next Q0 N4 l2) (W.on N4 l2)
  rcases hf with e | e<;>(rw[e]at T6;rw[show fl=_ from T6];exact back)
 ·rw[e1,e2]at W
  have key:=W fl U7 V5 Q0 T6 N4;rw[hf]at T6;refine dm T6 λV e _=>?_;rw[e]at key ⊢;exact key
theorem DV(K:dC cx F){k:AF->TH->R}(h:uo F d (cvT (cvE n) 9 tg) i (cvL (cvS (cvE n) m) bd) c H k=some z)(w:∀f H',jU cx d tg i bd c H.L f H'.L->k f H'=some z->P):P:=
 vu h λit hi h=>Gq hi h (λhn h=>w .next _ (by rw[gN hi];exact jU.stop hn) h) λv it' hn h=>K.asg h λO7 k1 h=>K.exs h λf H₂ k2 h=>by
  rw[gN hi]at k1;cases f with
  |next=>exact K.loop h λf H' k3 h=>w f H' (jU.turn hn k1 k2 (.inl ⟨.inl rfl,k3⟩)) h
  |cont=>exact K.loop h λf H' k3 h=>w f H' (jU.turn hn k1 k2 (.inl ⟨.inr rfl,k3⟩)) h
  |brk=>exact nn h
  |ret v=>exact w (.ret v) H₂ (jU.turn hn k1 k2 (.inr ⟨⟨v,rfl⟩,rfl,rfl⟩)) h
theorem jd(h:f9 x=true)(env:Env)(y:Value):foldedSetIterable x env y=pure y:=by
 cases x<;>first | rfl | exact fT h
theorem Cy(K:dC cx F){pos:Pos}{k:AF->TH->R}(hp:f9 x=true)(h:Gu F d (cvT (cvE n) 9 tg) (cvE n x) (cvL (cvS (cvE n) m) bd) c H k=some z)(w:∀f H',ExS cx d (.For tg x bd [] pos) c H.L f H'.L->k f H'=some z->P):P:=
 K.ev h λa O7 k1 h=>gx h λi H₂ hi h=>K.loop h λf H' k3 h=>w f H' (by
  have k2:=mC (cx:=cx) (d:=d) hi;have l2:=ae k1.1 k2.1;exact⟨ae l2 k3.1,λz W=>wpAny_For (k1.run z λU U4 V4 V0 T3 N0=>k2.2.2 V0.un T3 λU6 ρ₂ P9 N7=>k3.2.2 (V0.next P9 N7 k2.1) (W.on (N0.trans k1.1 N7) l2)) (jd hp _)⟩) h
end
noncomputable def du(cx:Cx)(d:Nat)(id:String)(args:List AV)(H:List AO)(r:AV)(H':List AO):Prop:=
 H.length<=H'.length/\∀{A s ρ Vs} {Q:Value->Shared->Prop} {E},Un cx d H A s ρ->IsL cx s ρ H.length args Vs->gy cx ρ H s r H' Q->wpAny (model pw cx.w) A (call (.builtin id) Vs) Q E s
section
variable {cx:Cx} {d m:Nat} {H H':TH} {HL HL':List AO} {r r' a b v w:AV} {xs args:List AV} {t:Bool} {F:Fns} {c:IE} {P:Prop} {A:Around} {s:Shared} {ρ:Nat->Addr} {E:Value->Shared->Prop} {i j k:Nat} {id:String} {es:List (List Nat×AV)} {y:List Nat} {q:Int}
theorem l0E{α β:Type}{l:List α}{k:Option β}{z:β}(h:l0 l k=some z)(c:l=[]->k=some z->P):P:=by cases l with | nil=>exact c rfl h | cons _ _=>exact nn h
theorem l1E{α β:Type}{l:List α}{k:α->Option β}{z:β}(h:l1 l k=some z)(c:∀a,l=[a]->k a=some z->P):P:=by
 cases l with | nil=>exact nn h | cons a l=>exact l0E h λe h=>c a (by rw[e]) h
theorem l2E{α β:Type}{l:List α}{k:α->α->Option β}{z:β}(h:l2 l k=some z)(c:∀a b,l=[a,b]->k a b=some z->P):P:=by
 cases l with | nil=>exact nn h | cons a l=>exact l1E h λb e h=>c a b (by rw[e]) h
theorem l3E{α β:Type}{l:List α}{k:α->α->α->Option β}{z:β}(h:l3 l k=some z)(c:∀a b d,l=[a,b,d]->k a b d=some z->P):P:=by
 cases l with | nil=>exact nn h | cons a l=>exact l2E h λb d e h=>c a b d (by rw[e]) h
theorem du.of{args'}(e:args=args')(q:r'=r)(h:du cx d id args' HL r' HL'):du cx d id args HL r HL':=by subst e;subst q;exact h
theorem du.of1{a'}(e:args=[a])(e':a=a')(h:du cx d id [a'] HL r HL'):du cx d id args HL r HL':=by subst e;subst e';exact h
theorem du.of2{a' b'}(e:args=[a,b])(e1:a=a')(e2:b=b')(h:du cx d id [a',b'] HL r HL'):du cx d id args HL r HL':=by subst e;subst e1;subst e2;exact h
theorem du.to{K:TH}(h:some (r',K)=some (r,H'))(k:du cx d id args HL r' K.L):du cx d id args HL r H'.L:=sp (P:=λr (H':TH)=>du cx d id args HL r H'.L) h k
theorem one{I}{x:AV}{Vs:List Value}(l:L2 I [x] Vs):∃V,Vs=[V]/\I x V:=by
 refine dx l λV Ws e i1 i2=>?_;exact⟨V,by rw[e,show Ws=[] from i2],i1⟩
theorem two{I}{x y:AV}{Vs:List Value}(l:L2 I [x,y] Vs):∃V W,Vs=[V,W]/\I x V/\I y W:=by
 refine dx l λV Ws e i1 i2=>?_;refine dm (one i2) λW e' i3=>?_;exact⟨V,W,by rw[e,e'],i1,i3⟩
theorem du.mk1(le:HL.length<=HL'.length)(h:∀{A s ρ V} {Q:Value->Shared->Prop} {E},Un cx d HL A s ρ->Is cx s ρ HL.length a V->gy cx ρ HL s r HL' Q->wpAny (model pw cx.w) A (call (.builtin id) [V]) Q E s):du cx d id [a] HL r HL':=
 ⟨le,λu l W=>by refine dm (one l) λV e i=>?_;rw[e];exact h u i W⟩
theorem du.mk2(le:HL.length<=HL'.length)(h:∀{A s ρ V X} {Q:Value->Shared->Prop} {E},Un cx d HL A s ρ->Is cx s ρ HL.length a V->Is cx s ρ HL.length b X->gy cx ρ HL s r HL' Q->wpAny (model pw cx.w) A (call (.builtin id) [V,X]) Q E s):du cx d id [a,b] HL r HL':=
 ⟨le,λu l W=>by refine dx (two l) λV X e i j=>?_;rw[e];exact h u i j W⟩
theorem Pst.int2{Q:Value->Shared->Prop}(W:gy cx ρ HL s (.int q) HL Q)(g:cx.Good)(S:SR cx ρ HL s):Q (.int q (s.toks+1)) { s with toks:=s.toks+1+1}:=
 W.now g S (le2 _) ⟨_,rfl,Nat.succ_ne_zero _,aD _⟩
theorem FB(h:Mj args H=some (r,H')):du cx d "len" args H.L r H'.L:=
 l1E h λa e h=>dP h λi e' h=>orE h (λh=>dG h λxs hx h=>ifE h λq h=>du.to h (du.of1 e e' (du.mk1 (ad _) λu iV W=>by
   refine dm (u.sr.own _ _ (dA hx)) λXs hP lx=>?_;rw[iV.1];refine call_len_list hP.isList (by rw[lx.size];exact fit q) ?_;rw[lx.size];exact W.int2 u.g.toGood u.sr)))
  λh=>gJ h λes hx h=>ifE h λq h=>du.to h (du.of1 e e' (du.mk1 (ad _) λu iV W=>by
   refine dz (u.sr.own _ _ (dA hx)) λkvs hD l1 l2=>?_;rw[iV.1];refine call_len_dict (u.not_mods (dA hx) rfl) hD (by rw[jc l1];exact fit q) ?_;rw[jc l1];exact W.int2 u.g.toGood u.sr))
theorem du.append(hx:HL[i]? = some (.list xs))(q:Nat.ble xs.length dn=true):du cx d "list.append" [.ref i,v] HL .none (HL.set i (.list (xs++[v]))):=
 du.mk2 (by rw[aE];exact ad _) λ{A s ρ V X Q E} u iV iX W=>by
  refine dm (u.sr.own _ _ hx) λXs hP lx=>?_;rw[iV.1];refine list_append_plainL hP (λh' hP' hs=>?_) (by rw[lx.size];exact ae (leb q) dB);have key:=u.sr.set (hp:=h') (t:=s.toks) (o':=.list (xs++[v])) u.g.toGood hx rfl (λa o ha e=>(hs.2 a ha).trans e) (ad _) λE=>⟨_,hP',by
   rw[dj];exact(IsL.ext u.g.toGood E (ad _) lx).app (L2.cons (iX.ext u.g.toGood E (ad _)) rfl)⟩
  exact W _ _ ρ key.1 rfl key.2
theorem u9(h:rJ args H=some (r,H')):du cx d "list.append" args H.L r H'.L:=
 l2E h λa v e h=>dP h λi e' h=>dG h λxs hx h=>ifE h λq h=>du.to h (du.of2 e e' rfl (by rw[gN hx];exact du.append (dA hx) q))
theorem D4(h0:0<=q):((Builtin.Int.intBits q:Nat):Int)=(ifB (Nat.beq q.toNat 0) 0 (q.toNat.log2+1:Nat):Int):=by
 obtain⟨k,rfl⟩:=bY h0;cases k with
 |zero=>rfl
 |succ k=>rfl
theorem CA(h:Gz args H=some (r,H')):du cx d "int.bit_length" args H.L r H'.L:=
 l1E h λa e h=>dM h λi e' h=>ifE h λq h=>du.to h (du.of1 e e' (du.mk1 (ad _) λu iV W=>by
  refine dm iV λt e _=>?_;rw[e];refine call_int_bit_length ?_;rw[D4 (dec q)];exact W.int u.g.toGood u.sr))
noncomputable abbrev Hdm(cx:Cx):Prop:=∃kvs,cx.hs.DictOf (PySem.strKind pw cx.w) 135 kvs
theorem uy{V:Addr}{kvs:List (Str×Value)}(u:Un cx d HL A s ρ)(hm:(V == sysModules)=false)(hD:s.heap.DictOf (PySem.strKind pw cx.w) V kvs){Q:Value->Shared->Prop}
  (W:Q (.ref s.heap.objs.size) { s with heap:=s.heap.push { cls:=.type "dict_items",data:=.fields #[.ref V]}}):wpAny (model pw cx.w) A (call (.builtin "dict.items") [.ref V]) Q E s:=
 call_meetsIn F.slot_dict_items hD.typeIs F.entry_dict_items (F.args_dict_items_1 _) (meets_dict_items (PySem.strKind pw cx.w) _ hm) ⟨⟨kvs,hD⟩,W⟩
theorem du.items(hx:HL[i]? = some (.dict es)\/HL[i]? = some (.bag es)):du cx d "dict.items" [.ref i] HL (.itm i) HL:=
 du.mk1 (ad _) λ{A s ρ V Q E} u iV W=>by
  rw[iV.1];have go:∀kvs,s.heap.DictOf (PySem.strKind pw cx.w) (ρ i) kvs->(ρ i == sysModules)=false->wpAny (model pw cx.w) A (call (.builtin "dict.items") [.ref (ρ i)]) Q E s:=λkvs hD hm=>uy u hm hD (by
   have key:=u.sr.grow u.g.toGood (hp:=s.heap.push { cls:=.type "dict_items",data:=.fields #[.ref (ρ i)]}) (t:=s.toks) (λa o e=>am _ e) (ad _);exact W _ _ ρ key.1 ⟨_,rfl,aw _ rfl,iV.2⟩ key.2)
  refine hx.elim (λhx=>?_) λhx=>?_
  ·refine dm (u.sr.own _ _ hx) λkvs hD _=>?_;exact go kvs hD (u.not_mods hx rfl)
  ·refine dx (u.sr.own _ _ hx) λ_ kvs _ hD _=>?_;exact go kvs hD (u.not_mods hx rfl)
theorem yB(hnm:Hdm cx)(h:Ai args H=some (r,H')):du cx d "dict.items" args H.L r H'.L:=
 l1E h λa e h=>orE h (λh=>dP h λi e' h=>orE h (λh=>gJ h λes hx h=>du.to h (du.of1 e e' (du.items (.inl (dA hx))))) λh=>qh h λes hx h=>du.to h (du.of1 e e' (du.items (.inr (dA hx)))))
  λh=>yN h λk e' h=>ifE h λq h=>du.to h (du.of1 e (e'.trans (aB AV.st (nb q))) (du.mk1 (ad _) λ{A s ρ V Q E} u iV W=>by
   rw[show V = .ref 135 from iV];refine jL hnm λkvs o es ep e r=>?_;refine uy u (by decide) ⟨o,es,ep,u.sr.keep _ _ e,r⟩ ?_;have key:=u.sr.grow u.g.toGood (hp:=s.heap.push { cls:=.type "dict_items",data:=.fields #[.ref 135]}) (t:=s.toks) (λa o e=>am _ e) (ad _);exact W _ _ ρ key.1 ⟨_,rfl,aw _ rfl⟩ key.2))
theorem du.get{o:Option AV}(hx:(HL[i]? = some (.dict es)\/HL[i]? = some (.bag es))/\sy y es=some o):du cx d "dict.get" [.ref i,.str y] HL (o.getD .none) HL:=
 du.mk2 (ad _) λ{A s ρ V X Q E} u iV iX W=>by
  obtain⟨t,e⟩:=iX;rw[iV.1,e];have go:∀kvs,s.heap.DictOf (PySem.strKind pw cx.w) (ρ i) kvs->(ρ i == sysModules)=false->Op2 (Is cx s ρ HL.length) o (valueAt kvs (rs cx.σ y))->wpAny (model pw cx.w) A (call (.builtin "dict.get") [.ref (ρ i),.str (rs cx.σ y) t]) Q E s:=λkvs hD hm ho=>by
   refine call_meetsIn F.slot_dict_get hD.typeIs F.entry_dict_get (F.args_dict_get_2 _ _) (meets_dict_get (PySem.strKind pw cx.w) (k:=rs cx.σ y) _ (ce _ _ _ _) hm) ⟨_,hD.mapOf,?_⟩;cases o with
   |none=>rw[show valueAt kvs (rs cx.σ y)=none from ho];exact W.now u.g.toGood u.sr (aC _) rfl
   |some v=>
    refine dm ho λV e iV=>?_;rw[e];exact W.now u.g.toGood u.sr (aC _) (iV.ext u.g.toGood (u.sr.toks u.g.toGood (aC _)).2 (ad _))
  refine hx.1.elim (λhi=>?_) λhi=>?_
  ·refine dm (u.sr.own _ _ hi) λkvs hD R=>?_;exact go kvs hD (u.not_mods hi rfl) (lq hx.2 R)
  ·refine dx (u.sr.own _ _ hi) λkvs' kvs pm hD R=>?_
   have hnd:(kvs.map (·.1)).Nodup:=by refine CT hD λ_ _ _ _ _ _ _ _ hn=>?_;exact hn
   exact go kvs hD (u.not_mods hi rfl) (by rw[ry pm.symm hnd];exact lq hx.2 R)
theorem DU(h:KD args H=some (r,H')):du cx d "dict.get" args H.L r H'.L:=
 l2E h λa b e h=>dP h λi e1 h=>dL h λk e2 h=>dq h λo ho h=>du.to h (du.of (by rw[e,e1,e2]) rfl
  (orE ho (λho=>gJ ho λes hx ho=>du.get ⟨.inl (dA hx),ho⟩) λho=>qh ho λes hx ho=>du.get ⟨.inr (dA hx),ho⟩))
theorem sO{α:Type}{l:List α}{i:Nat}{x:α}(h:l[i]? = some x):l.set i x=l:=by
 obtain⟨hi,e⟩:=aG.mp h;rw[<-e];exact List.set_getElem_self hi
theorem du.add{ks:List (List Nat)}(hx:HL[i]? = some (.set ks))(q:Nat.ble ks.length 100=true)(hb:inS y ks=some t):du cx d "set.add" [.ref i,.str y] HL .none (HL.set i (.set (ifB t ks (ks++[y])))):=
 du.mk2 (by rw[aE];exact ad _) λ{A s ρ V X Q E} u iV iX W=>by
  obtain⟨tk,e⟩:=iX;refine dm (u.sr.own _ _ hx) λm hS hm=>?_;have hb:=rH cx.σ hb;rw[iV.1,e];refine call_set_add (knd:=PySem.strKind pw cx.w) (k:=rs cx.σ y) (ce _ _ _ _) rfl hS (aJ (bE (ae hm (leb q))) (by decide)) λh' hs hS'=>?_;have key:=u.sr.set (hp:=h') (t:=s.toks+1) (o':=.set (ifB t ks (ks++[y]))) u.g.toGood hx rfl (λa o ha e=>(hs.2 a ha).trans e) (aC _) λE=>by
   refine⟨if t=true then m else m+1,?_,?_⟩
   ·have e:(λk'=>decide (k' ∈ ks.map (rs cx.σ)) || decide (k'=rs cx.σ y))=λk'=>decide (k' ∈ (ifB t ks (ks++[y])).map (rs cx.σ)):=by
     funext k'
     cases t with
     |false=>rw[bT,Bool.or_eq_true,aR,aR,aR];show _↔k' ∈ (ks++[y]).map _;rw[bh,bS,List.map_singleton,br]
     |true=>
      rw[bT,Bool.or_eq_true,aR,aR,aR];exact⟨λh=>h.elim id λh=>h▸de hb,.inl⟩
    rw[hb]at hS';rw[<-e];exact hS'
   ·cases t with
    |false=>show m+1<=(ks++[y]).length;rw[az];exact bE hm
    |true=>exact hm
  exact W _ _ ρ key.1 rfl key.2
theorem Dz(h:ML args H=some (r,H')):du cx d "set.add" args H.L r H'.L:=
 l2E h λa b e h=>dP h λi e1 h=>dL h λk e2 h=>C3 h λks hx h=>ifE h λq h=>dq h λb hb h=>du.to h (du.of2 e e1 e2 (by
  have key:=du.add (cx:=cx) (d:=d) (dA hx) q hb;cases b with
  |false=>rw[show(ifB false H (st H i (.set (ks++[k])))).L=_ from gN hx];exact key
  |true=>rw[show H.L.set i (.set (ifB true ks (ks++[k])))=H.L from sO (dA hx)]at key;exact key))
end
noncomputable def qP(x:Expr)(gens:List Comprehension)(depth:Nat)(acc:Value)(env:Env)(emit:Sem Unit)(k:Sem PySem.Fin):Sem PySem.Fin:=match gens[depth+1]? with
 |some g'=>do
  let y <-eval g'.iter env
  standAt g'.iter.pos
  let jp:=λy=>do
   let it <-holding [y] (if g'.is_async != 0 then asyncIter y else pyIter y);let _ <-runOwn (.compStart x (depth+1) it acc env) env
   k
  if g'.is_async != 0 then do let y <-foldedIterable g'.iter y;jp y else do let y <-foldedSetIterable g'.iter env y;jp y
 |none=>do emit;k
noncomputable def zd(x:Expr)(gens:List Comprehension)(depth:Nat)(it acc:Value)(env:Env)(emit:Sem Unit)(target iter:Expr)(ifs:List Expr):Sem PySem.Fin:=standAt iter.pos >>= λ_=>pyNext it >>= λr=>match r with
 |none=>pure (.done .next)
 |some v=>letOwnedTupleGo target it v >>= λ_=>assign target env v >>= λ_=>forIn ifs true (ze env) >>= λok=>
  (if ok=true then qP x gens depth acc env emit (again (.compLoop x depth it acc env)) else again (.compLoop x depth it acc env))
noncomputable def CR(e:Expr)(D:Addr)(env:Env):Sem Unit:=eval e env >>= λx=>call (.builtin "list.append") [.ref D,x] >>= λ_=>pure ()
noncomputable def Ct(kx vx:Expr)(D:Addr)(env:Env):Sem Unit:=do
 let kv <-eval kx env;let vv <-holding [kv] (eval vx env)
 standAt { kx.pos with endLine:=vx.pos.endLine,endCol:=vx.pos.endCol}
 holding [kv,vv] (dictSet D kv vv)
section
variable {e kx vx target iter:Expr} {ifs:List Expr} {gens:List Comprehension} {scope:Scope} {pos:Pos} {depth:Nat} {it:Value} {D:Addr} {env:Env}
theorem Hs(hg:gens[depth]? = some ⟨target,iter,ifs,0⟩):compTurn (.ListComp e gens scope pos) depth it (.ref D) env=zd (.ListComp e gens scope pos) gens depth it (.ref D) env (CR e D env) target iter ifs:=by
 unfold compTurn;dsimp only;rw[hg];rfl
theorem J5(hg:gens[depth]? = some ⟨target,iter,ifs,0⟩):compTurn (.DictComp kx vx gens scope pos) depth it (.ref D) env=zd (.DictComp kx vx gens scope pos) gens depth it (.ref D) env (Ct kx vx D env) target iter ifs:=by
 unfold compTurn;dsimp only;rw[hg];rfl
end
structure ib (x:Expr) (gens:List Comprehension) (emit:Addr->Env->Sem Unit):Prop where
 cl:clausesOf x=gens
 quiet:∀depth it D env,(Code.compLoop x depth it (.ref D) env).quiet=true
 quiet2:∀depth it D env (A:Around),A.under (.compStart x depth it (.ref D) env)=A
 tree:∀{w:World} (A:Around) depth it D env R s,wpAny (model pw w) A ((compTurn x depth it (.ref D) env).onRaise (λx=>do noteFrame x env;theTreesLotGoes x)) (λfin s'=>match fin with | .done f=>R (.ok f) s' | .again c'=>c'.quiet=true/\codeAny (model pw w) A c' R s') (λe s'=>R (.error e) s') s->codeAny (model pw w) A (.compLoop x depth it (.ref D) env) R s
 tree2:∀{w:World} (A:Around) depth it D env R s,wpAny (model pw w) (A.under (.compStart x depth it (.ref D) env)) ((compStart x depth it (.ref D) env).onRaise (λx=>do noteFrame x env;standAt theWindowsPlace)) (λfin s'=>match fin with | .done f=>R (.ok f) s' | .again c'=>c'.quiet=true/\codeAny (model pw w) A c' R s') (λe s'=>R (.error e) s') s->codeAny (model pw w) A (.compStart x depth it (.ref D) env) R s
 turn:∀depth it D env target iter ifs,gens[depth]? = some ⟨target,iter,ifs,0⟩->compTurn x depth it (.ref D) env=zd x gens depth it (.ref D) env (emit D env) target iter ifs
theorem ib.L{e gens sc pos}:ib (.ListComp e gens sc pos) gens (CR e):=⟨rfl,λ_ _ _ _=>rfl,λ_ _ _ _ _=>rfl,λA _ it D env R s h=>c6 h,λA _ it D env R s h=>c6 h,λ_ it D env _ _ _ hg=>Hs hg⟩
theorem ib.D{k v gens sc pos}:ib (.DictComp k v gens sc pos) gens (Ct k v):=⟨rfl,λ_ _ _ _=>rfl,λ_ _ _ _ _=>rfl,λA _ it D env R s h=>c6 h,λA _ it D env R s h=>c6 h,λ_ it D env _ _ _ hg=>J5 hg⟩
noncomputable def m6(cx:Cx)(d:Nat)(emit:Addr->Env->Sem Unit)(acc:Nat)(c:IE)(H H':List AO):Prop:=
 H.length<=H'.length/\∀{A s ρ env} {Q:Unit->Shared->Prop} {E},At cx d c H A s ρ env->(∀s' ρ',SR cx ρ' H' s'->Ext ρ H.length s ρ' s'->Q () s')->wpAny (model pw cx.w) A (emit (ρ acc) env) Q E s
noncomputable def InE(cx:Cx)(d:Nat)(x:Expr)(gens:List Comprehension)(depth:Nat)(emit:Addr->Env->Sem Unit)(acc:Nat)(c:IE)(H H':List AO):Prop:=
 H.length<=H'.length/\∀{A s ρ env} {K:Sem PySem.Fin} {Q:PySem.Fin->Shared->Prop} {E},At cx d c H A s ρ env->(∀s' ρ',SR cx ρ' H' s'->Ext ρ H.length s ρ' s'->wpAny (model pw cx.w) A K Q E s')->wpAny (model pw cx.w) A (qP x gens depth (.ref (ρ acc)) env (emit (ρ acc) env) K) Q E s
section
variable {cx:Cx} {d n m:Nat} {H H' O7 H₂:TH} {HL HL' HM HN HO:List AO} {a b v w:AV} {t:Bool} {F:Fns} {c:IE} {z:AF×TH} {P:Prop} {A:Around} {s U4:Shared} {ρ V4:Nat->Addr} {env:Env} {E:Value->Shared->Prop} {i acc:Nat} {it':IT}
variable {e kx vx target iter x:Expr} {ifs:List Expr} {gens:List Comprehension} {pos:Pos} {depth:Nat} {it:Value} {D:Addr} {emit:Addr->Env->Sem Unit} {isD:Bool} {pe gs:PE} {k:TH->R}
theorem m6.lc(k1:EvE cx d e c HL v H.L)(h:iD v acc H=some H')(ha:acc<HL.length):m6 cx d (CR e) acc c HL H'.L:=
 dG h λxs hx h=>ifE h λq h=>so h λeq=>by
  have k2:=du.append (cx:=cx) (d:=d) (v:=v) (dA hx) q;rw[<-eq,gN hx];refine⟨ae k1.1 k2.1,λz W=>ab (k1.run z λV U4 V4 V0 T3 N0=>ab ?_)⟩;rw[<-N0.ag acc ha];exact k2.2 V0.un (L2.cons ⟨rfl,Gd hx⟩ (L2.cons T3 rfl)) λX U6 ρ₂ P9 T5 N7=>af (W U6 ρ₂ P9 (N0.trans k1.1 N7))
theorem m6.dc(k1:EvE cx d kx c HL a HM)(k2:EvE cx d vx c HM b H.L)(h:l8 a b acc H=some H')(ha:acc<HL.length):m6 cx d (Ct kx vx) acc c HL H'.L:=
 gJ h λes hx h=>dL h λy ey h=>ifE h λq h=>dq h λes' hp h=>so h λeq=>by
  have l12:=ae k1.1 k2.1;rw[<-eq,gN hx];refine⟨by rw[aE];exact l12,λz W=>ab (k1.run z λU U4 V4 V0 T3 N0=>ab (aN (k2.run V0 λV U6 ρ₂ V1 T5 N7=>ab (a8 (aN ?_)))))⟩;have N3:=N0.trans k1.1 N7;have T4:=T3.ext z.g.toGood N7 k2.1;rw[ey]at T4;obtain⟨tk,e⟩:=T4;rw[<-N3.ag acc ha,e];refine dm (V1.sr.own _ _ (dA hx)) λkvs hD R=>?_;have hnd:(kvs.map (·.1)).Nodup:=by refine CT hD λ_ _ _ _ _ _ _ _ hn=>?_;exact hn
  have hr:=vr hp R hnd T5;refine wpAny_dictSet_pairs (knd:=strKind pw cx.w) (k:=rs cx.σ y) (ce _ _ _ _) hD (λh' hD' hs=>?_) (by rw[jc R.1];exact ae (leb q) dB);have key:=V1.sr.set (hp:=h') (t:=U6.toks+1) (o':=.dict es') z.g.toGood (dA hx) rfl (λa o ha e=>(hs.2 a ha).trans e) (aC _) λE'=>⟨_,hD',hr.1,IsL.ext z.g.toGood E' (ad _) hr.2⟩;exact W _ ρ₂ key.1 (N3.trans l12 key.2)
theorem yC{R:Result->Shared->Prop}{g:Comprehension}(T:ib x gens emit)(hg:gens[depth]? = some g)(ha:g.is_async=0)(h0:codeAny (model pw cx.w) A (.compLoop x depth it (.ref D) env) R s)
  (h:wpAny (model pw cx.w) A (pyIter it) (λit' s'=>codeAny (model pw cx.w) A (.compLoop x depth it' (.ref D) env) R s') (notedBy (model pw cx.w) A env λx s'=>R (.error x) s') s):codeAny (model pw cx.w) A (.compStart x depth it (.ref D) env) R s:=by
 refine T.tree2 A depth it D env R s ?_;rw[T.quiet2];refine wpAny_notedAt ?_;unfold compStart;simp only[T.cl,hg,Option.elim,ha,bQ,aX,cm];refine ab (ch (wpAny_ite ?_))
 split
 ·first
   |exact ab (af (af (And.intro (T.quiet _ _ _ _) h0)))
   |exact af (And.intro (T.quiet _ _ _ _) h0)
 ·first
   |exact ab (wpAny_rule (ab (a8 (ab (bq h (λit' s' h'=>af (And.intro (T.quiet _ _ _ _) h')) λ_ _ x=>x)))))
   |(refine ab (wpAny_rule ?_);exact ab (a8 (ab (bq h (λit' s' h'=>af (And.intro (T.quiet _ _ _ _) h')) λ_ _ x=>x))))
theorem u2{itr:IT}(S:SR cx ρ HL s)(hi:HL[i]? = some (.iter itr)){Q:Value->Shared->Prop}(W:Q (.ref (ρ i)) s):wpAny (model pw cx.w) A (pyIter (.ref (ρ i))) Q E s:=by
 have own:=S.own _ _ hi;cases itr with
 |list j k=>refine dm own λ_ hit _=>?_;exact wpAny_pyIter_listiter hit W
 |rev j k=>refine dm own λ_ hit _=>?_;exact wpAny_pyIter_revIter hit W
 |tup xs k=>refine dm own λt hit _=>?_;exact wpAny_pyIter_tupleiter hit W
 |rng x st m=>exact wpAny_pyIter_rangeiter own W
 |str l k=>obtain⟨t,hit⟩:=own;exact wpAny_pyIter_striter_ascii hit W
theorem oh{itr:IT}{R:Result->Shared->Prop}{g:Comprehension}(T:ib x gens emit)(hg:gens[depth]? = some g)(ha:g.is_async=0)(S:SR cx ρ HL s)(hi:HL[i]? = some (.iter itr))(h:codeAny (model pw cx.w) A (.compLoop x depth (.ref (ρ i)) (.ref D) env) R s):
  codeAny (model pw cx.w) A (.compStart x depth (.ref (ρ i)) (.ref D) env) R s:=yC T hg ha h (u2 S hi h)
theorem InE.leaf(hn:gens[depth+1]? = none)(k:m6 cx d emit acc c HL HL'):InE cx d x gens depth emit acc c HL HL':=
 ⟨k.1,λz W=>by
  unfold qP;rw[hn];exact ab (k.2 z W)⟩
theorem InE.more(T:ib x gens emit)(hg:gens[depth+1]? = some ⟨target,iter,ifs,0⟩)(hp:f9 iter=true)(ha:acc<HL.length)(k1:EvE cx d iter c HL a HM)(k2:ItE cx d a i HM HN)(k3:jv cx d x (depth+1) i acc c HN HL'):InE cx d x gens depth emit acc c HL HL':=by
 have l12:=ae k1.1 k2.1;refine⟨ae l12 k3.1,λ{A s ρ env K Q E} z W=>?_⟩;unfold qP;rw[hg];refine ab (k1.run z λU U4 V4 V0 T3 N0=>ab (a8 ?_));show wpAny _ A (foldedSetIterable iter env U >>= _) Q E U4;rw[jd hp env];refine ab (af (ab (aN (k2.2.2 V0.un T3 λU6 ρ₂ P9 N7=>?_))));have N3:=N0.trans k1.1 N7;obtain⟨itr,hi⟩:=k2.2.1;have run:codeAny (model pw cx.w) A (.compLoop x (depth+1) (.ref (ρ₂ i)) (.ref (ρ acc)) env) (λr s'=>match r with | .ok f=>wpAny (model pw cx.w) A K Q E s' | .error e=>cameBackBy (model pw cx.w) A env E e s') U6:=by
  rw[<-N3.ag acc ha];exact k3.2.2 (z.next P9 N3 l12) λU7 V5 Q0 N9=>W U7 V5 Q0 (N3.trans l12 N9)
 exact ab (wpAny_runOwn (oh T hg rfl P9 hi run))
theorem jv.stop(T:ib x gens emit)(hg:gens[depth]? = some ⟨target,iter,ifs,0⟩)(hn:NxE cx d i none HL):jv cx d x depth i acc c HL (HL.set i .dead):=
 ⟨by rw[aE];exact ad _,hn.1,λz W=>T.tree _ _ _ _ _ _ _ (by
  rw[T.turn _ _ _ _ _ _ _ hg];exact wpAny_noted (ab (a8 (ab (hn.2 z.un (λ_ s' S' E'=>af (W s' _ S' E')) λw it' e=>nomatch e)))))⟩
theorem jv.turn(T:ib x gens emit)(hg:gens[depth]? = some ⟨target,iter,ifs,0⟩)(ha:acc<HL.length)(hn:NxE cx d i (some (v,it')) HL)(k1:AsE cx d target v c (HL.set i (.iter it')) HM)(k2:Hi cx d ifs c HM t HN)
  (k3:(t=true/\InE cx d x gens depth emit acc c HN HO)\/(t=false/\HO=HN)) (k4:jv cx d x depth i acc c HO HL'):jv cx d x depth i acc c HL HL':=by
 have l0:HL.length<=(HL.set i (.iter it')).length:=by rw[aE];exact ad _
 have l1:=ae l0 k1.1;have l2:=ae l1 k2.1;have l3:HN.length<=HO.length:=k3.elim (λk=>k.2.1) λk=>by rw[k.2];exact ad _
 have l4:=ae l2 l3;refine⟨ae l4 k4.1,hn.1,λ{A s ρ env R} z W=>T.tree _ _ _ _ _ _ _ ?_⟩;rw[T.turn _ _ _ _ _ _ _ hg];refine wpAny_noted (ab (a8 (ab (hn.2 z.un (λe=>nomatch e) λw it'' e X U4 P8 iX N0=>?_))));cases e;refine ab (tQ P8 (by rw[List.getElem?_set_self hn.1]) (ab (k1.2 (z.next P8 N0 l0) (by rw[aE];exact iX) λ_ U6 ρ₂ P9 _ N7=>ab ?_)));have N3:=N0.trans l0 N7;refine k2.run (z.next P9 N3 l1) λok U7 V5 V2 T6 N9=>?_;have N4:=N3.trans l1 N9;have again_:∀U8 V6,SR cx V6 HO U8->Ext V5 HN.length U7 V6 U8->wpAny (model pw cx.w) A (again (.compLoop x depth (.ref (ρ i)) (.ref (ρ acc)) env)) (λfin s'=>match fin with | .done f=>R (.ok f) s' | .again c'=>c'.quiet=true/\codeAny (model pw cx.w) A c' R s') (notedBy (model pw cx.w) A env λe s'=>R (.error e) s') U8:=λU8 V6 Q5 O2=>by
  have N5:=N4.trans l2 O2;refine af ⟨T.quiet _ _ _ _,?_⟩;rw[<-N5.ag i hn.1,<-N5.ag acc ha];exact k4.2.2 (z.next Q5 N5 l4) λs' ρ' S' E'=>W s' ρ' S' (N5.trans l4 E')
 rw[T6];rcases k3 with ⟨e,k3⟩ | ⟨e,e'⟩
 ·rw[e,aI rfl,<-N4.ag acc ha]
  exact k3.2 V2 λU8 V6 Q5 O2=>by rw[N4.ag acc ha];exact again_ U8 V6 Q5 O2
 ·rw[e,aF ah]
  subst e';exact again_ U7 V5 V2.sr .refl
theorem yx{α:Type}{l:List α}{n:Nat}(h:l.drop n=[]):l[n]? = none:=by rw[<-List.head?_drop,h];rfl
theorem qu{α:Type}{l r:List α}{n:Nat}{y:α}(h:l.drop n=y::r):l[n]? = some y/\l.drop (n+1)=r:=⟨by rw[<-List.head?_drop,h];rfl,by rw[<-List.drop_drop,h];rfl⟩
theorem I3{g:Comprehension}{k:PE->PE->PE->R}(h:yg (cvG (cvE n) g) k=some z)(w:∀target iter ifs,g=⟨target,iter,ifs,0⟩->f9 iter=true->k (cvT (cvE n) 9 target) (cvE n iter) (cvL (cvE n) ifs)=some z->P):P:=
 ng (f:=λp=>yg p k) rfl h λq h=>by
  obtain⟨tg,it,ifs,as⟩:=g;have:=dec (aa q).2;exact w tg it ifs (by rw[show as=0 from this]) (aa q).1 h
structure LfR (cx:Cx) (F:Fns) (d:Nat) (isD:Bool) (pe:PE) (emit:Addr->Env->Sem Unit):Prop where
 ok:∀{acc c H k z} {P:Prop},ul F d isD pe acc c H k=some z->acc<H.L.length->(∀H',m6 cx d emit acc c H.L H'.L->k H'=some z->P)->P
theorem XC.open_(K:dC cx F)(X:XC isD pe gs x depth):∃n gens emit,ib x gens emit/\LfR cx F d isD pe emit/\gs=cvL (cvG (cvE n)) (gens.drop depth)/\∀dp,XC isD pe (cvL (cvG (cvE n)) (gens.drop dp)) x dp:=by
 refine dx X λn gens hc hg h=>?_;rcases h with ⟨h1,e',sc,pos,h2,h3⟩ | ⟨h1,k,v,sc,pos,h2,h3⟩
 ·subst h1;subst h2;subst h3
  exact⟨n,gens,_,ib.L,⟨λh ha w=>K.ev h λv O7 k1 h=>dq h λH₂ h2 h=>w H₂ (m6.lc k1 h2 ha) h⟩,hg,λdp=>⟨n,gens,hc,rfl,.inl ⟨rfl,e',sc,pos,rfl,rfl⟩⟩⟩
 ·subst h1;subst h2;subst h3
  exact⟨n,gens,_,ib.D,⟨λh ha w=>K.ev h λa O7 k1 h=>K.ev h λb H₂ k2 h=>dq h λO8 h3 h=>w O8 (m6.dc k1 k2 h3 ha) h⟩,hg,λdp=>⟨n,gens,hc,rfl,.inr ⟨rfl,k,v,sc,pos,rfl,rfl⟩⟩⟩
theorem yz(K:dC cx F)(T:ib x gens emit)(L:LfR cx F d isD pe emit)(X:∀dp,XC isD pe (cvL (cvG (cvE n)) (gens.drop dp)) x dp)(h:qS F d isD pe (cvL (cvG (cvE n)) (gens.drop (depth+1))) acc c H k=some z)(ha:acc<H.L.length)
  (w:∀H',InE cx d x gens depth emit acc c H.L H'.L->k H'=some z->P):P:=by
 have X1:=X (depth+1);generalize hd:gens.drop (depth+1)=l at h X1;cases l with
 |nil=>exact L.ok h ha λH' k1 h=>w H' (InE.leaf (yx hd) k1) h
 |cons g r=>
  exact I3 h λtarget iter ifs eg hp h=>K.ev h λa O7 k1 h=>gx h λj H₂ hi h=>by
   have k2:=mC (cx:=cx) (d:=d) hi;exact K.comp h X1 (av ha (ae k1.1 k2.1)) λH' k3 h=>w H' (InE.more T (eg▸(qu hd).1) hp ha k1 k2 k3) h
theorem E7(K:dC cx F)(h:tB F d isD pe gs i acc c H k=some z)(X:XC isD pe gs x depth)(ha:acc<H.L.length)(w:∀H',jv cx d x depth i acc c H.L H'.L->k H'=some z->P):P:=by
 refine nM (XC.open_ (d:=d) K X) λn gens emit T L hgs X=>?_;rw[hgs]at h;have X1:=X depth;generalize hd:gens.drop depth=l at h X1;cases l with
 |nil=>exact nn h
 |cons g r=>
  have hd:=qu hd;exact I3 h λtarget iter ifs eg hp h=>by
   have hg:=eg▸hd.1;refine vu h λit hi h=>Gq hi h (λhn h=>w _ (by rw[gN hi];exact jv.stop T hg hn) h) λv it' hn h=>K.asg h λO7 k1 h=>K.ands h λok H₂ _ k2 h=>?_;rw[gN hi]at k1;have l2:H.L.length<=H₂.L.length:=ae (by rw[<-aE (i:=i) (a:=.iter it')];exact k1.1) k2.1;refine gC h (λeo h=>?_) λeo h=>K.comp h X1 (av ha l2) λH' k4 h=>w H' (jv.turn T hg ha hn k1 k2 (.inr ⟨eo,rfl⟩) k4) h;rw[<-hd.2]at h;exact yz K T L X h (av ha l2) λO8 k3 h=>K.comp h (hd.2.symm▸X1) (av ha (ae l2 k3.1)) λH' k4 h=>w H' (jv.turn T hg ha hn k1 k2 (.inl ⟨eo,k3⟩) k4) h
end
section
variable {cx:Cx} {d n m:Nat} {H H' O7 H₂:TH} {HL HL' HM HN:List AO} {r a b v w:AV} {t:Bool} {F:Fns} {c c':IE} {z:AF×TH} {P:Prop} {A:Around} {s U4:Shared} {ρ V4:Nat->Addr} {env env':Env} {E:Value->Shared->Prop} {i acc:Nat}
variable {e kx vx target iter x:Expr} {ifs:List Expr} {gens:List Comprehension} {sc scope:Scope} {pos:Pos} {emit:Addr->Env->Sem Unit} {isD:Bool} {pe gs:PE} {names kd:List (Nat×NameKind)} {clo:List (Nat×Nat)} {nw:AO}
theorem wE{α β:Type}{f:α->Option β}{b:α}:∀{l:List α} {r:List β},trv f (l++[b])=some r->∃r' y,trv f l=some r'/\f b=some y/\r=r'++[y]
 | [],r,h=>dq h λy h1 h=>so h λe=>⟨[],y,rfl,h1,e.symm⟩
 |a::l,r,h=>dq h λy h1 h=>dq h λq h2 h=>so h λe=>by
  refine dx (wE (l:=l) h2) λr' y' e1 e2 e3=>?_;exact⟨y::r',y',by show opt (f a) _=_;rw[h1];show opt (trv f l) _=_;rw[e1];rfl,e2,by rw[<-e,e3];rfl⟩
theorem gz(Rn:iZ ρ n c env):∀(names:List (Nat×NameKind)) (clo:List (Nat×Nat)),(∀p∈names,p.1<185)->g8 c names=some clo->
  (∀p∈clo,p.1<185/\p.2<n)/\(∀p∈names,p.2 = .free->∃k,lk p.1 c.kd=some k)/\
  ∀(acc:List (Str×Addr)) (f:Str×NameKind->List (Str×Addr)->Sem (ForInStep (List (Str×Addr)))),(∀name kind cs,f (name,kind) cs=if kind == .free then (do let a <-cellOf env name;pure (.yield ((name,a)::cs))) else pure (.yield cs))->
   forIn (names.map λp=>(nmF p.1,p.2)) acc f=pure ((clo.map λp=>(nmF p.1,ρ p.2))++acc)
 | [],clo,hN,h=>by
  obtain rfl:=ak h;exact⟨λp hp=>(nomatch hp),λp hp=>(nomatch hp),λacc f hf=>by rw[List.map_nil,cX];rfl⟩
 |(x,k)::names,clo,hN,h=>by
  unfold g8 at h;cases hk:(k == NameKind.free) with
  |true=>
   have hk':k = .free:=bW hk;rw[List.filter_cons_of_pos (p:=λp:Nat×NameKind=>p.2 == NameKind.free) (a:=(x,k)) hk,cK]at h;refine dx (wE h) λclo' y h1 h2 h3=>?_;refine dq h2 λi hi h2=>ifE h2 λhs h2=>so h2 λey=>?_;have ih:=gz Rn names clo' (λp hp=>hN p (.tail _ hp)) h1;have ec:=Rn.cells x i hi;rw[h3,<-ey];refine⟨λp hp=>(bS.mp hp).elim (ih.1 p) λhp=>by rw[br.mp hp];exact⟨hN _ (.head _),ec.1⟩,λp hp hf=>(aH.mp hp).elim (λq=>by rw[q];exact cH.mp hs) λhp=>ih.2.1 p hp hf,λacc f hf=>?_⟩;rw[aM,bL,hf];have:cellOf env (nmF x)=pure (ρ i):=by unfold cellOf;rw[ec.2]
   show((if (k == NameKind.free)=true then _ else _) >>= _)=_;rw[aI hk,this,pure_bind,pure_bind];show forIn _ _ f=_;rw[ih.2.2 _ f hf,bh,aZ];rfl
  |false=>
   rw[List.filter_cons_of_neg (p:=λp:Nat×NameKind=>p.2 == NameKind.free) (a:=(x,k)) (by show ¬ (k == NameKind.free)=true;rw[hk];exact ah)]at h;have ih:=gz Rn names clo (λp hp=>hN p (.tail _ hp)) h;refine⟨ih.1,λp hp hf=>(aH.mp hp).elim (λq=>by rw[q]at hf;rw[show k = .free from hf]at hk;exact tF hk) λhp=>ih.2.1 p hp hf,λacc f hf=>?_⟩;rw[aM,bL,hf];show((if (k == NameKind.free)=true then _ else _) >>= _)=_;rw[aF (by rw[hk];exact ah),pure_bind];exact ih.2.2 acc f hf
theorem nZ(Rn:iZ ρ n c env)(S:ScR scope names)(h:g8 c names=some clo):closureFor scope env=pure (clo.map λp=>(nmF p.1,ρ p.2)):=by
 have k:=(gz Rn names clo S.lt h).2.2;unfold closureFor;rw[S.nm];have:=k [] (λx cs=>if x.2 == .free then (do let a <-cellOf env x.1;pure (.yield ((x.1,a)::cs))) else pure (.yield cs)) (λ_ _ _=>rfl);rw[aU]at this
 first
  |(simp only[bind_pure];exact this)
  |(rw[bind_pure];exact this)
theorem BV(Rn:iZ ρ n c env)(S:ScR scope names)(h:g8 c names=some clo):(relabel scope env).names=(tM c names).map λp=>(nmF p.1,p.2):=by
 have k:=(gz Rn names clo S.lt h).2.1;unfold relabel tM;dsimp only;rw[S.nm,aV,aV];refine bP λp hp=>?_;obtain⟨x,kk⟩:=p;show(if (kk == NameKind.free&&(env.scope.kind == ScopeKind.function)&&env.kindOf (nmF x) == some NameKind.cell)=true then _ else _)=(nmF (ifB (kk == NameKind.free&&lk x c.kd == some NameKind.cell) (x,NameKind.cell) (x,kk)).1,(ifB (kk == NameKind.free&&lk x c.kd == some NameKind.cell) (x,NameKind.cell) (x,kk)).2);rw[Rn.fn,show(ScopeKind.function == ScopeKind.function)=true from rfl,Bool.and_true];cases hk:(kk == NameKind.free) with
 |false=>rfl
 |true=>
  obtain⟨k',e⟩:=k _ hp (bW hk);rw[e,Rn.kd x k' e];cases(some k' == some NameKind.cell)<;>rfl
theorem vE(Rn:iZ ρ n c' env')(hk:scope.kind = .function)(hn:(relabel scope env).names=kd.map λp=>(nmF p.1,p.2))(hN:∀p∈kd,p.1<185):iZ ρ n { kd:=kd,L:=c'.L,cells:=c'.cells,cd:=c'.cd} { env' with scope:=relabel scope env}:=
 ⟨hk,λx k hx=>by
  show(relabel scope env).names.lookup (nmF x)=some k;rw[hn];exact(pg (λk=>k) (hN _ (gW hx)) kd hN).trans (by rw[hx];rfl),Rn.lt,Rn.loc,Rn.glob,Rn.blt,Rn.code,Rn.cells⟩
theorem A9(hN:∀p∈names,p.1<185):∀p∈tM c names,p.1<185:=λp hp=>by
 refine dm (bx.mp hp) λq hq e=>?_;rw[<-e];show(ifB _ (q.1,NameKind.cell) q).1<185;cases(q.2 == .free&&lk q.1 c.kd == some .cell)<;>exact hN q hq
theorem Ck(S:ScR scope names)(h:qK names=true):∀y∈scope.names,y.2 = .local->scope.names.lookup y.1=some .local:=λy hy hl=>by
 rw[S.nm]at hy ⊢;refine dm (bx.mp hy) λp hp e=>?_;rw[<-e]at hl ⊢;have hl:p.2 = .local:=hl;have:=aA.mp h p hp;rw[hl]at this;exact(pg (λk=>k) (S.lt p hp) names S.lt).trans (by rw[bW ((orb this).elim (λq=>nomatch q) id)];rfl)
theorem B2{U3:Obj}{newAcc:Sem Value}{gs:List Comprehension}(T:ib x gens emit)(hg:gens=⟨target,iter,ifs,0⟩::gs)(hp:f9 iter=true)(S:ScR sc names)(hlo:qK names=true)(hclo:g8 c names=some clo)
  (hfr:U3.isFreed=false) (hnew:∀A s (Q:Value->Shared->Prop) E,Q (.ref s.heap.objs.size) { s with heap:=s.heap.push U3}->wpAny (model pw cx.w) A newAcc Q E s) (hor:∀(h:Shared) ρ m a,h.heap.get? a=some U3->OR cx h ρ m a nw)
  (k1:EvE cx d iter c HL a HM) (k2:ItE cx d a i HM HN) (k5:jv cx d x 0 i HN.length { kd:=tM c names,L:=HN.length+1,cells:=(mz (HN.length+1+1) names).reverse++clo,cd:=c.cd} (HN++(nw :: .ns []::fp names)) HL')
  {use:Option (Value->Sem Unit)} {Q:Value->Shared->Prop} (z:At cx d c HL A s ρ env) (W:∀s' ρ',SR cx ρ' HL' s'->Ext ρ HL.length s ρ' s'->compPost (model pw cx.w) A E use Q (.ref (ρ' HN.length)) (ρ' (HN.length+1)) (.ok .next) s') :
  wpAny (model pw cx.w) A (comprehension x sc env pos newAcc false (eval iter env) use) Q E s:=by
 have l12:=ae k1.1 k2.1;have g:=z.g.toGood;have gen:=gz z.en names clo S.lt hclo;refine wpAny_comprehension_free (T.cl.trans hg) (jd hp env) (nZ z.en S hclo) S.kind (Ck S hlo) ?_;refine k1.run z λU U4 V4 V0 T3 N0=>k2.2.2 V0.un T3 λU6 ρ₂ P9 N7=>hnew _ _ _ _ ?_;have N3:=N0.trans k1.1 N7;have k3:=P9.fresh (ob:=U3) (o:=nw) (t:=U6.toks) g (ad _) λE'=>hor _ _ _ _ (aw _ hfr);have N4:=N3.trans l12 k3.2;have l3:HL.length<=(HN++[nw]).length:=ae l12 (eQ _ _);have P4:=z.en.ext N4 l3;have len₃:(HN++[nw]).length=HN.length+1:=az;rw[z.en.glob];have hcl3:(clo.map λp=>(nmF p.1,ρ p.2))=clo.map λp=>(nmF p.1,up ρ₂ HN.length U6.heap.objs.size p.2):=bP λp hp=>by rw[N4.ag _ (gen.1 p hp).2]
 rw[hcl3];refine mx (H:=HN++[nw]) (H':=o6 (HN++[nw]) names) (clo:=clo) (bs:=[]) (Vs:=[]) (qual:=env.qual) (func:=none) (code:=.none) (around:=some env) (tag:=c.cd) (z.en.code.imp id λq=>⟨q.1.symm,q.2.symm.symm⟩) z.g S
  (λp hp=>⟨(gen.1 p hp).1,av (gen.1 p hp).2 l3⟩) (λe he=>by obtain rfl:=ak he;exact z.en.blt) k3.1 rfl rfl λenv' U8 V6 _ Q5 P5 O2=>?_
 have eH:o6 (HN++[nw]) names=HN++(nw :: .ns []::fp names):=by unfold o6;rw[aZ];rfl
 rw[eH]at Q5 P5;have N5:=N4.trans l3 O2;have P6:=vE (env:=env) (scope:=sc) P5 S.kind (BV z.en S hclo) (A9 S.lt);rw[len₃]at P6 P5 O2;obtain⟨itr,hi⟩:=k2.2.1;have hil:i<HN.length:=fM hi;have ei:V6 i=ρ₂ i:=by rw[O2.ag i (bc hil),k3.2.ag i hil]
 have en:V6 HN.length=U6.heap.objs.size:=by rw[O2.ag _ (aD _),g9]
 have el:env'.locals=V6 (HN.length+1):=P5.loc;rw[<-ei,<-en];have hl3:HL.length<=(HN++(nw :: .ns []::fp names)).length:=by rw[az];exact ae l12 (aK _ _)
 refine oh (HL:=HN++(nw :: .ns []::fp names)) T (by rw[hg];rfl) rfl Q5 (by rw[cb hil];exact hi) (k5.2.2 ⟨z.g,z.ok,Q5,P6⟩ λU9 V7 Q6 O3=>?_);have:=W U9 V7 Q6 (N5.trans hl3 O3);have lt1:HN.length+1<(HN++(nw :: .ns []::fp names)).length:=by rw[az,a0,a0];exact Nat.add_lt_add_left (Nat.succ_lt_succ (bI _)) _
 rw[O3.ag _ (Nat.lt_of_succ_lt lt1),O3.ag _ lt1,<-el]at this;exact this
noncomputable def AS(cx:Cx)(d:Nat)(x:Expr)(sc:Scope)(newAcc:Sem Value)(c:IE)(H:List AO)(q:Nat)(H':List AO):Prop:=
 H.length<=q/\∃target iter ifs rest,clausesOf x=⟨target,iter,ifs,0⟩::rest/\∀{A s ρ env pos} {use:Option (Value->Sem Unit)} {Q:Value->Shared->Prop} {E},At cx d c H A s ρ env->
  (∀s' ρ',SR cx ρ' H' s'->Ext ρ H.length s ρ' s'->compPost (model pw cx.w) A E use Q (.ref (ρ' q)) (ρ' (q+1)) (.ok .next) s')->wpAny (model pw cx.w) A (comprehension x sc env pos newAcc false (eval iter env) use) Q E s
theorem G4(A:Around)(s:Shared)(Q:Value->Shared->Prop)(E)(h:Q (.ref s.heap.objs.size) { s with heap:=s.heap.push { cls:=.type "list",data:=.seq #[]}}):wpAny (model pw cx.w) A (newList []) Q E s:=cq h
theorem Gh(A:Around)(s:Shared)(Q:Value->Shared->Prop)(E)(h:Q (.ref s.heap.objs.size) { s with heap:=s.heap.push { cls:=.type "dict",data:=.dict #[]}}):wpAny (model pw cx.w) A (newDict) Q E s:=cq h
theorem LV(h:Shared)(ρ:Nat->Addr)(m:Nat)(a:Addr)(e:h.heap.get? a=some { cls:=.type "list",data:=.seq #[]}):OR cx h ρ m a (.list []):=kz (Vs:=#[]) (ep:=0) e rfl
theorem Ky(h:Shared)(ρ:Nat->Addr)(m:Nat)(a:Addr)(e:h.heap.get? a=some { cls:=.type "dict",data:=.dict #[]}):OR cx h ρ m a (.dict []):=
 ⟨[],⟨_,_,_,e,⟨rfl,rfl,rfl⟩,rfl,λe he=>by simp at he,.nil,.nil⟩,rfl,rfl⟩
theorem mr:∀{l:List (Str×NameKind)} {r:List (Nat×NameKind)},trv (λp:Str×NameKind=>opt (idx p.1) λx=>some (x,p.2)) l=some r->l=r.map (λp=>(nmF p.1,p.2))/\∀p∈r,p.1<185
 | [],r,h=>by obtain rfl:=ak h;exact⟨rfl,λp hp=>(nomatch hp)⟩
 |a::l,r,h=>dq h λb h1 h=>dq h λq h2 h=>dq h1 λy hy h1=>so h λe=>so h1 λe1=>by
  have ih:=mr h2;rw[<-e,<-e1];exact⟨congr (aB List.cons (Prod.ext (im hy).1 rfl)) ih.1,λp hp=>(aH.mp hp).elim (λq=>by rw[q];exact(im hy).2) (ih.2 p)⟩
theorem lh(h:scN sc=some names):ScR sc names:=ifE h λq h=>⟨dec (aa q).1,(mr h).1,(mr h).2⟩
theorem rg{U3:Obj}{newAcc:Sem Value}{k:Nat->TH->R}(K:dC cx F)(X:XC isD pe gs x 0)(S:ScR sc names)(hfr:U3.isFreed=false)(hnew:∀A s (Q:Value->Shared->Prop) E,Q (.ref s.heap.objs.size) { s with heap:=s.heap.push U3}->wpAny (model pw cx.w) A newAcc Q E s)
  (hor:∀(h:Shared) ρ m a,h.heap.get? a=some U3->OR cx h ρ m a nw) (h:iO F d nw isD pe gs names c H k=some z) (w:∀q H' m,AS cx d x sc newAcc c H.L q H'.L->gt H' (q+1)=some (.ns m)->k q H'=some z->P):P:=by
 refine nM (XC.open_ (d:=d) K X) λn gens emit T L hgs X=>?_;have X:=X 0;rw[hgs]at h;rw[List.drop_zero]at h X;cases gens with
 |nil=>exact nn h
 |cons g r=>
  exact I3 h λtarget iter ifs eg hp h=>ifE h λhlo h=>K.ev h λa O7 k1 h=>gx h λi H₂ hi h=>dq h λc' hc h=>dq h λO8 h3 h=>by
   have k2:=mC (cx:=cx) (d:=d) hi;have e3:=mJ h3;have lt:H₂.n<O8.L.length:=by rw[e3,az,TH.len];exact bt (bI _)
   exact K.comp h X lt λO9 k5 h=>yn h λm hm h=>dq hc λclo hclo hc=>so hc λec=>w H₂.n O9 m (by
    rw[<-ec,e3]at k5;rw[<-TH.len]at k5 ⊢;exact⟨ae k1.1 k2.1,target,iter,ifs,r,by rw[T.cl,eg],λz W=>B2 T (by rw[eg]) hp S hlo hclo hfr hnew hor k1 k2 k5 z W⟩) hm h
theorem ov{newAcc:Sem Value}{q:Nat}{m:List (Nat×AV)}(C:AS cx d x sc newAcc c HL q H.L)(hg:gt H (q+1)=some (.ns m))(he:∀target iter ifs rest env,clausesOf x=⟨target,iter,ifs,0⟩::rest->∃pos,eval x env=comprehension x sc env pos newAcc false (eval iter env) none):EvE cx d x c HL (.ref q) (st H (q+1) .dead).L:=by
 refine sF C λhq OA=>?_;refine jL OA λtarget iter ifs rest hcl k=>?_;rw[gN hg];have hm:=dA hg;have hlt:=fM hm;have hl:HL.length<=H.L.length:=ae hq (a7 (Nat.lt_of_succ_lt hlt));refine⟨by rw[aE];exact hl,λ{A s ρ env Q E} z W=>?_⟩;obtain⟨pos,he⟩:=he target iter ifs rest env hcl;rw[he];refine k z λs' ρ' S' E'=>?_;refine dm (S'.own _ _ hm) λmm N _=>?_;refine⟨mm,N,λh' hs=>?_⟩;have key:=S'.die (hp:=h') (t:=s'.toks) z.g.toGood hm rfl (λa o ha e=>(hs.2 a ha).trans e) (ad _);exact W _ _ ρ' key.1 ⟨rfl,by rw[aE];exact Nat.lt_of_succ_lt hlt⟩ (E'.trans hl key.2)
theorem xZ{HL HL':List AO}{y q:Nat}{o:AO}(hk:rS cx c y v HL HL')(hL:c.L<q)(hc:∀i,lk y c.cells=some i->i<q)(h:∃H,∃H',H.L=HL/\H'.L=HL'/\jD c H y v=some H')(hy:y<185):rS cx c y v (HL.set q o) (HL'.set q o):=by
 refine dx h λH H' e1 e2 h=>?_;exact dq h λkd hk h=>by
  cases kd with
  | «local»=>
   exact yn h λm hm h=>so h λe=>by
    rw[<-e2,<-e,gN hm,List.set_comm _ _ (aO hL),<-e1];exact .loc hy hk (by rw[List.getElem?_set_ne (bl hL)];exact dA hm)
  |cell=>
   exact dq h λi hi h=>rb h λw hw h=>so h λe=>by
    rw[<-e2,<-e,gN hw,List.set_comm _ _ (aO (hc i hi)),<-e1];exact .cell hk hi (by rw[List.getElem?_set_ne (bl (hc i hi))];exact dA hw)
  |_=>exact nn h
theorem ExS.setc{newAcc:Sem Value}{q y:Nat}{p1 p2:Pos}{U1:List (Nat×AV)}(C:AS cx d x sc newAcc c HL q H.L)(hg:gt H (q+1)=some (.ns U1))(he:∀target iter ifs rest env,clausesOf x=⟨target,iter,ifs,0⟩::rest->∃pos,eval x env=comprehension x sc env pos newAcc false (eval iter env) none/\∀u,evalThenUse x env u=(do let _ <-comprehension x sc env pos newAcc false (eval iter env) (some u)))
  (hsw:∀env,∃b,swapsWith x (some (.Name (nmF y) p1)) p2.line env=pure b) (hy:y<185) (h2:jD c H y (.ref q)=some H₂) {m:List (Nat×AV)} (hns:gt H₂ (q+1)=some (.ns m)):ExS cx d (.Assign [.Name (nmF y) p1] x p2) c HL .next (st H₂ (q+1) .dead).L:=by
 have k0:=ov C hg λtg it ifs r env hcl=>(he tg it ifs r env hcl).elim λpos e=>⟨pos,e.1⟩;have ks:=lC (cx:=cx) hy h2;refine sF C λhq OA=>?_;refine jL OA λtarget iter ifs rest hcl k1=>?_;rw[gN hg]at k0;have hlt:=Gd hg;have hl:HL.length<=H.L.length:=ae hq (a7 (Nat.lt_of_succ_lt hlt));have hl2:=aL ks.1.symm;rw[gN hns];refine⟨by rw[aE,ks.1];exact hl,λ{A s ρ env Q E} z W=>?_⟩;obtain⟨b,hb⟩:=hsw env;cases b with
 |true=>
  refine dm (he target iter ifs rest env hcl) λpos _ he=>?_;rw[exec_Assign_Name_used _ _ _ _ hb];refine ab (a8 (ab ?_));rw[he];refine ab (bq (k1 (Q:=λ_ s=>wpAny (model pw cx.w) A (pure Flow.next) Q E s) (E:=E) z λs' ρ' S' E'=>?_) (λ_ s' hq=>af hq) λ_ _ e=>e);show wpAny _ A (assign (.Name (nmF y) p1) env (.ref (ρ' q))) _ _ _;refine wpAny_assign_Name (ks.2 z.g S' (z.en.ext E' hl) ⟨rfl,Nat.lt_of_succ_lt hlt⟩ λs'' S'' E''=>?_);refine dm (S''.own _ _ (dA hns)) λmm N _=>?_;refine⟨mm,N,λh' hs=>?_⟩;have key:=S''.die (hp:=h') (t:=s''.toks) z.g.toGood (dA hns) rfl (λa o ha e=>(hs.2 a ha).trans e) (ad _);exact af (W _ _ ρ' key.1 rfl ((E'.trans hl E'').trans (ae hl hl2) key.2))
 |false=>
  refine wpAny_Assign_Name (k0.run z λV U4 V4 V0 T3 N0=>?_) hb;have k3:=xZ (o:=.dead) (q:=q+1) ks (av z.en.lt (dk hq)) (λi hi=>av (z.en.cells y i hi).1 (dk hq)) ⟨H,H₂,rfl,rfl,h2⟩ hy;exact k3.2 z.g V0.sr V0.en T3 λs'' S'' E''=>W _ _ V4 S'' rfl (N0.trans k0.1 E'')
theorem Mh:XC false (cvE n e) (cvL (cvG (cvE n)) gens) (.ListComp e gens sc pos) 0:=⟨n,gens,rfl,rfl,.inl ⟨rfl,e,sc,pos,rfl,rfl⟩⟩
theorem LP:XC true (.c (cvE n kx) (cvE n vx)) (cvL (cvG (cvE n)) gens) (.DictComp kx vx gens sc pos) 0:=⟨n,gens,rfl,rfl,.inr ⟨rfl,kx,vx,sc,pos,rfl,rfl⟩⟩
theorem L3(target iter:Expr)(ifs:List Expr)(rest:List Comprehension)(env:Env)(h:clausesOf (.ListComp e gens sc pos)=⟨target,iter,ifs,0⟩::rest):∃p,eval (.ListComp e gens sc pos) env=comprehension (.ListComp e gens sc pos) sc env p (newList []) false (eval iter env) none/\∀u,evalThenUse (.ListComp e gens sc pos) env u=(do let _ <-comprehension (.ListComp e gens sc pos) sc env p (newList []) false (eval iter env) (some u)):=by
 have h:gens=_:=h;subst h;exact⟨_,rfl,λu=>rfl⟩
theorem L6(target iter:Expr)(ifs:List Expr)(rest:List Comprehension)(env:Env)(h:clausesOf (.DictComp kx vx gens sc pos)=⟨target,iter,ifs,0⟩::rest):∃p,eval (.DictComp kx vx gens sc pos) env=comprehension (.DictComp kx vx gens sc pos) sc env p newDict false (eval iter env) none/\∀u,evalThenUse (.DictComp kx vx gens sc pos) env u=(do let _ <-comprehension (.DictComp kx vx gens sc pos) sc env p newDict false (eval iter env) (some u)):=by
 have h:gens=_:=h;subst h;exact⟨_,rfl,λu=>rfl⟩
end
noncomputable def eI(cx:Cx)(d:Nat)(id:String)(args:List AV)(H:List AO)(r:AV)(H':List AO):Prop:=
 H.length<=H'.length/\∀{A s ρ Vs} {Q:Value->Shared->Prop} {E},Un cx d H A s ρ->IsL cx s ρ H.length args Vs->gy cx ρ H s r H' Q->wpAny (model pw cx.w) A (call (.type id) Vs) Q E s
section
variable {cx:Cx} {d n:Nat} {H H' O7 H₂:TH} {HL HL' HM:List AO} {r r' a v w:AV} {xs args:List AV} {t:Bool} {F:Fns} {c:IE} {z:AF×TH} {P:Prop} {A:Around} {s:Shared} {ρ:Nat->Addr} {E:Value->Shared->Prop} {i k:Nat} {id:String} {es:List Expr} {e:Expr} {y:List Nat} {q:Int}
theorem eI.of1{a'}(e:args=[a])(e':a=a')(h:eI cx d id [a'] HL r HL'):eI cx d id args HL r HL':=by subst e;subst e';exact h
theorem eI.to{K:TH}(h:some (r',K)=some (r,H'))(k:eI cx d id args HL r' K.L):eI cx d id args HL r H'.L:=sp (P:=λr (H':TH)=>eI cx d id args HL r H'.L) h k
theorem eI.mk1(le:HL.length<=HL'.length)(h:∀{A s ρ V} {Q:Value->Shared->Prop} {E},Un cx d HL A s ρ->Is cx s ρ HL.length a V->gy cx ρ HL s r HL' Q->wpAny (model pw cx.w) A (call (.type id) [V]) Q E s):eI cx d id [a] HL r HL':=
 ⟨le,λu l W=>by refine dm (one l) λV e i=>?_;rw[e];exact h u i W⟩
theorem uY:∀n,n<10->nl (eR n)=true/\(eR n).all (Nat.blt · 1000)=true/\(⟨(eR n).toArray⟩:Str)=((toString (n:Int):String):Str):=
 λn hn=>(by decide +kernel:∀n:Fin 10,nl (eR n)=true/\(eR n).all (Nat.blt · 1000)=true/\(⟨(eR n).toArray⟩:Str)=((toString ((n:Nat):Int):String):Str)) ⟨n,hn⟩
theorem fig(h:(decide (0<=q)&&decide (q<10))=true):rs cx.σ (eR q.toNat)=((toString q:String):Str)/\nl (eR q.toNat)=true/\q.natAbs.log2<10:=by
 obtain⟨k,rfl⟩:=bY (dec (aa h).1);have hk:k<10:=cF.mp (dec (aa h).2);have d:=uY k hk;refine⟨(iI cx.σ (x:=⟨(eR k).toArray⟩) d.2.1).symm.trans d.2.2,d.1,?_⟩;show k.log2<10;exact(by decide:∀n:Fin 10,(n:Nat).log2<10) ⟨k,hk⟩
theorem xX(h:Bg args H=some (r,H')):eI cx d "range" args H.L r H'.L:=
 l1E h λa e h=>dM h λn e' h=>ifE h λq h=>eI.to h (eI.of1 e e' (eI.mk1 (ad _) λ{A s ρ V Q E} u iV W=>by
  refine dm iV λtk e _=>?_;rw[e];refine call_range_1 ?_;have key:=u.sr.grow u.g.toGood (hp:=s.heap.push { cls:=.type "range",data:=.fields #[.int 0 s.toks,.int n tk,.int 1 (s.toks+1)]}) (t:=s.toks+1+1) (λa o e=>am _ e) (le2 _);exact W _ _ ρ key.1 ⟨_,_,_,_,rfl,aw _ rfl⟩ key.2))
theorem DP(h:K4 args H=some (r,H')):eI cx d "set" args H.L r H'.L:=
 l0E h λe h=>kI h λer eH=>by
  rw[er,eH,e];refine⟨eQ _ _,λu l W=>?_⟩;rw[show _=[] from l];refine call_set_0 λled=>W.mk u.g.toGood u.sr (ad _) λE'=>⟨0,?_,ad _⟩;exact⟨_,#[],0,_,aw _ rfl,⟨rfl,rfl,rfl⟩,rfl,λe he=>by simp at he,λk=>by simp,by decide,by rfl,rfl⟩
theorem eI.rev(hx:HL[i]? = some (.list xs)):eI cx d "reversed" [.ref i] HL (.ref HL.length) (HL++[.iter (.rev i xs.length)]):=eI.mk1 (eQ _ _) λu iV W=>by
 refine dm (u.sr.own _ _ hx) λXs hP lx=>?_;rw[iV.1];refine call_reversed_list hP.isList ?_;rw[lx.size];exact W.mk u.g.toGood u.sr (ad _) λE'=>⟨_,⟨_,aw _ rfl,rfl,rfl⟩,by rw[gM iV.2],bc iV.2⟩
theorem FV(h:Kq args H=some (r,H')):eI cx d "reversed" args H.L r H'.L:=
 l1E h λa e h=>dP h λi e' h=>dG h λxs hx h=>kI h λer eH=>by rw[er,eH];exact eI.of1 e e' (eI.rev (dA hx))
theorem EC(h:KQ args H=some (r,H')):eI cx d "str" args H.L r H'.L:=
 l1E h λa e h=>dM h λi e' h=>ifE h λq h=>eI.to h (eI.of1 e e' (eI.mk1 (ad _) λ{A s ρ V Q E} u iV W=>by
  refine dm iV λtk e _=>?_;have f:=fig (cx:=cx) q;rw[e];refine P.str_of_int (by have:=f.2.2;omega) ?_;rw[<-f.1];exact W.str u.g.toGood u.sr))
theorem Bv(x y:Str):(x++y).length=x.length+y.length:=PySem.strLen_append x y
theorem xY(x y z:Str):x++y++z=x++(y++z):=by
 show Str.mk ((x.cps++y.cps)++z.cps)=Str.mk (x.cps++(y.cps++z.cps));rw[Array.append_assoc]
noncomputable def sS(cx:Cx)(d:Nat)(e:Expr)(c:IE)(H:List AO)(y:List Nat)(H':List AO):Prop:=Do cx d c H (eval e) H' λs' ρ' V=>∃t,V = .str (rq cx y) t
theorem Lg{l k:List Nat}(h:o8 v l=some k)(w:∀y,k=y++l->(Nat.ble (y.length+l.length) jq=true/\lp v=some y)\/(∃q:Int,v = .int q/\y=eR q.toNat/\(decide (0<=q)&&decide (q<10))=true)->P):P:=
 orE h (λh=>dM h λq e h=>ifE h λc h=>so h λe2=>w _ e2.symm (.inr ⟨q,e,rfl,c⟩)) λh=>dq h λy hy h=>ifE h λc h=>so h λe2=>w y e2.symm (.inl ⟨c,hy⟩)
theorem sS.val{pos:Pos}(k1:EvE cx d e c HL v HL'){l:List Nat}(hv:(Nat.ble (y.length+l.length) jq=true/\lp v=some y)\/(∃q:Int,v = .int q/\y=eR q.toNat/\(decide (0<=q)&&decide (q<10))=true)):sS cx d (.FormattedValue e (-1) none pos) c HL y HL':=
 ⟨k1.1,λz W=>wpAny_FormattedValue_plain (k1.run z λV s' ρ' z' i' E'=>by
  have tk:∀k,s'.toks<=k->∀t,_:=λk hk t=>W (.str (rq cx y) t) _ ρ' (z'.sr.toks z.g.toGood hk).1 ⟨t,rfl⟩ (E'.trans k1.1 (z'.sr.toks z.g.toGood hk).2);rcases hv with ⟨hl,hy⟩ | ⟨q,ev,ey,hq⟩
  ·obtain⟨t,e⟩:=j3 hy i'
   rw[e];refine wpAny_formatField_str (W _ _ ρ' z'.sr ⟨_,rfl⟩ E') (tk _ (aC _) _) ?_;exact ae (iR z.g.toGood y) (ae (ct 24 (ae (aK _ _) (leb hl))) (by decide))
  ·rw[ev]at i'
   refine dm i' λt e _=>?_;have f:=fig (cx:=cx) hq;rw[e];refine wpAny_formatField_int (by have:=f.2.2;omega) ?_;have e2:rq cx y=((toString q:String):Str):=by rw[ey,qV f.2.1,f.1]
   rw[<-e2];exact tk _ (le2 _) _)⟩
theorem sS.lit{x:Str}{kk:Nat}{pos:Pos}(hx:x.cps.toList.all (Nat.blt · 1000)=true)(hy:lp (.str x.cps.toList)=some y):sS cx d (.Constant (.str x) kk pos) c HL y HL:=
 ⟨ad _,λz W=>(EvE.str (iI cx.σ hx):EvE cx d _ c HL _ HL).2 z λV s' ρ' S' i' E'=>W V s' ρ' S' (j3 hy i') E'⟩
theorem Dl{x:List Nat}{l k:List Nat}(h:o8 (.str x) l=some k)(w:∀y,k=y++l->lp (.str x)=some y->P):P:=Lg h λy e q=>q.elim (λq=>w y e q.2) λ⟨q,ev,_⟩=>nomatch ev
theorem Eh(K:dC cx F){k:AV->TH->R}(h:lQ F d (cvP (cvE n) e) c H k=some z)(w:∀v H',(∀l kk,o8 v l=some kk->∃y,kk=y++l/\sS cx d e c H.L y H'.L)->k v H'=some z->P):P:=by
 cases e with
 |Constant cc kk pos=>
  cases cc with
  |str x=>exact ng (f:=λp=>lQ F d p c H k) rfl h λq h=>w _ H (λl kk h=>Dl h λy e hy=>⟨y,e,sS.lit q hy⟩) h
  |_=>exact nn h
 |FormattedValue x cv fs pos=>
  exact ng (f:=λp=>lQ F d p c H k) rfl h λq h=>K.ev h λv O7 k1 h=>w v O7 (λl kk h=>Lg h λy e hv=>⟨y,e,by rw[dec (aa q).1,Option.isNone_iff_eq_none.mp (aa q).2];exact sS.val k1 hv⟩) h
 |_=>exact nn h
theorem qC.nil:qC cx d [] c HL [] HL:=
 ⟨ad _,λ{A s ρ env acc Q E} z hl W=>by
  have e:acc++rq cx []=acc:=by
   show Str.mk (acc.cps++#[])=acc;rw[Array.append_empty]
  have:=W s ρ z.sr .refl;rw[e]at this;exact this⟩
theorem qC.cons{l:List Nat}(k1:sS cx d e c HL y HM)(k2:qC cx d es c HM l HL'):qC cx d (e::es) c HL (y++l) HL':=
 ⟨ae k1.1 k2.1,λz hl W=>by
  rw[az,Nat.mul_add,<-bf]at hl;have hq:=iR z.g.toGood y;exact Joins_cons (k1.run z λV s' ρ' z' i' E'=>by
   obtain⟨t,e⟩:=i';exact⟨rq cx y,t,e,by rw[Bv];omega,k2.2 z' (by rw[Bv];omega) λs'' ρ'' S'' E''=>by
    rw[xY,<-pI];exact W s'' ρ'' S'' (E'.trans k1.1 E'')⟩)⟩
theorem Im(K:dC cx F){k:List Nat->TH->R}(h:xc F d (cvL (cvP (cvE n)) es) c H k=some z)(w:∀l H',qC cx d es c H.L l H'.L->k l H'=some z->P):P:=by
 cases es with
 |nil=>exact w [] H .nil h
 |cons e r=>
  have h:lQ F d (cvP (cvE n) e) c H (λv H=>F.str d (cvL (cvP (cvE n)) r) c H λl H=>opt (o8 v l) λl=>k l H)=some z:=h;exact Eh K h λv O7 k1 h=>K.str h λl H₂ k2 h=>dq h λkk hk h=>by
   refine dm (k1 l kk hk) λy e k3=>?_;exact w kk H₂ (e▸qC.cons k3 k2) h
theorem EvE.fstr{pos:Pos}{l:List Nat}(h2:Nat.ble 2 es.length=true)(hl:Nat.ble l.length jq=true)(k1:qC cx d es c HL l HL'):EvE cx d (.JoinedStr es pos) c HL (ifB (nl l) (.str l) (.rop l)) HL':=by
 refine⟨k1.1,λ{A s ρ env Q E} z W=>?_⟩;have h24:24 * l.length<=sizeLine:=ae (ct 24 (leb hl)) (by decide);cases es with
 |nil=>exact fT h2
 |cons e1 r=>cases r with
  |nil=>exact fT h2
  |cons e2 r=>
   refine wpAny_JoinedStr (k1.2 (acc:=Str.empty) z (by show 0+24 * l.length<=sizeLine;rw[aY];exact h24) λs' ρ' S' E'=>?_);have e:Str.empty++rq cx l=rq cx l:=by
    show Str.mk (#[]++(rq cx l).cps)=_;rw[Array.empty_append]
   rw[e];refine⟨ae (iR z.g.toGood l) h24,(W.on E' k1.1).now z.g.toGood S' (aC _) ?_⟩;cases hf:nl l with
   |true=>rw[qV hf];exact⟨_,rfl⟩
   |false=>exact⟨_,rfl⟩
theorem yK(K:dC cx F){pos:Pos}{k:AV->TH->R}(h2:Nat.ble 2 es.length=true)(h:Cn F d (cvL (cvP (cvE n)) es) c H k=some z)(w:∀v H',EvE cx d (.JoinedStr es pos) c H.L v H'.L->k v H'=some z->P):P:=
 K.str h λl O7 k1 h=>ifE h λhl h=>w _ O7 (EvE.fstr h2 hl k1) h
end
theorem pG:plainId "hasattr"=true:=by decide +kernel
theorem rA:builtinKind "hasattr"=none:=by rw[builtinKind_eq_fast];kernel_rfl
theorem pF:entryFor table "hasattr"=some Builtin.«hasattr»:=entryFor_of_fast (by kernel_rfl)
theorem q7(a b:Value):argsOk "hasattr" ⟨[a,b],[]⟩:=by unfold argsOk;kernel_rfl
theorem qc:typeLookup (.type "str") "__getitem__"=pure (some (.builtin "str.__getitem__")):=by rw[cf,bA];kernel_rfl
theorem mF:typeOf (.builtin "str.__getitem__")=pure (.type "wrapper_descriptor"):=by
 kernel_rfl
theorem Jw:typeLookup (.type "wrapper_descriptor") "__get__"=pure (some (.builtin "wrapper_descriptor.__get__")):=by rw[cf,bA];kernel_rfl
theorem JJ:typeLookup (.type "wrapper_descriptor") "__set__"=pure none:=by rw[cf,bA];kernel_rfl
theorem G9:typeLookup (.type "wrapper_descriptor") "__delete__"=pure none:=by rw[cf,bA];kernel_rfl
theorem wn:Slot "wrapper_descriptor" "__get__" "wrapper_descriptor.__get__":=
 .of (owner:="wrapper_descriptor") (n:="__get__") (by rw[cf,bA];kernel_rfl) (by decide +kernel) (by decide +kernel) (by decide +kernel)
  (by first | exact .inl (by decide +kernel) | exact .inr (by decide +kernel)) (by rw[cY];kernel_rfl)
theorem Db(a b c:Value):argsOk "wrapper_descriptor.__get__" ⟨[a,b,c],[]⟩:=by unfold argsOk;kernel_rfl
theorem zJ:entryFor table "wrapper_descriptor.__get__"=some Builtin.«wrapper_descriptor.__get__»:=entryFor_of_tree (by kernel_rfl)
section
variable {prog:Program} {w:World} {A:Around} {E:Value->Shared->Prop} {h:Heap} {g:Array GenState} {d:Drawn} {t:Nat} {os:OsState} {x:Str} {u:Tok}
theorem qN{R:Result->Shared->Prop}(hq:∀o,R (.ok (.ret (.ref h.objs.size))) ⟨h.push o,g,d,t,os⟩):
  codeAny (model prog w) A (.call (.builtin "wrapper_descriptor.__get__") ⟨[.builtin "str.__getitem__",.str x u,.type "str"],[]⟩) R ⟨h,g,d,t,os⟩:=by
 have hT:(⟨h,g,d,t,os⟩:Shared).TypeIs (.str x u) "str":=rfl;have hT5:(⟨h,g,d,t,os⟩:Shared).TypeIs (.builtin "str.__getitem__") "wrapper_descriptor":=mF;refine codeAny_call_builtin wn.plain zJ (wn.check _ _ _ _ _ _ _ _ hT5 (Db _ _ _) ?_);unfold Builtin.«wrapper_descriptor.__get__»
 repeat (any_goals (first | assumption | wp_step))
 have e1:(".".intercalate ("str.__getitem__".cutAt '.').dropLast)="str":=by decide +kernel
 rw[e1];refine cj (show isSubtype (.type "str") (.type "str")=pure true from by rw[cY];kernel_rfl) ?_
 repeat (any_goals (first | assumption | wp_step))
 exact hq _
theorem oR{tk:Tok}{R:Result->Shared->Prop}(hq:∀o,R (.ok (.ret (.ref h.objs.size))) ⟨h.push o,g,d,t,os⟩):
  codeAny (model prog w) A (.call (.builtin "object.__getattribute__") ⟨[.str x u,.str "__getitem__" tk],[]⟩) R ⟨h,g,d,t,os⟩:=by
 refine codeAny_call_builtin cS.plain F.entry_object_getattribute (cS.check _ _ _ _ _ _ _ _ (show(⟨h,g,d,t,os⟩:Shared).TypeIs (.str x u) "str" from rfl) (F.args_object_getattribute_2 _ _) ?_);have hT:(⟨h,g,d,t,os⟩:Shared).TypeIs (.str x u) "str":=rfl;have hT5:(⟨h,g,d,t,os⟩:Shared).TypeIs (.builtin "str.__getitem__") "wrapper_descriptor":=mF;have f4:typeLookup (.type "str") (Str.ofString "__getitem__")=pure (some (.builtin "str.__getitem__")):=qc;have f5:=mF;have f6:=Jw;have f7:=JJ;have f8:=G9;unfold Builtin.«object.__getattribute__»
 repeat (any_goals (first | assumption | wp_step))
 exact qN λo=>af (hq o)
theorem rZ{tk:Tok}{Q:Value->Shared->Prop}(hq:∀o,Q (.ref h.objs.size) ⟨h.push o,g,d,t,os⟩):wpAny (model prog w) A (getAttrBy (.str x u) (.str "__getitem__" tk) false) Q E ⟨h,g,d,t,os⟩:=by
 have hT:(⟨h,g,d,t,os⟩:Shared).TypeIs (.str x u) "str":=rfl;have f2:=cS.lookup;have f3:=cS.bind (.str x u)
 repeat (any_goals (first | assumption | wp_step))
 refine oR λo=>?_;show wpAny _ _ (handedOut (.ref _)) _ _ _;rw[handedOut_of (by rfl)];exact af (hq o)
end
section
variable {prog:Program} {w:World} {A:Around} {E:Value->Shared->Prop} {h:Heap} {g:Array GenState} {d:Drawn} {t:Nat} {os:OsState} {x:Str} {u:Tok}
theorem DT{tk:Tok}{Q:Value->Shared->Prop}(hq:∀o:Obj,Q (.bool true) ⟨h.push o,g,d,t,os⟩):wpAny (model prog w) A (call (.builtin "hasattr") [.str x u,.str "__getitem__" tk]) Q E ⟨h,g,d,t,os⟩:=by
 have hT:(⟨h,g,d,t,os⟩:Shared).TypeIs (.str x u) "str":=rfl;have f2:=cS.lookup;refine call_function_entry rA pG pF (q7 _ _) ?_;unfold Builtin.«hasattr»;refine ab (af ?_);refine ab (cj (a:=()) (by rfl) ?_);dsimp only;refine c7 (λq=>absurd q ah) λ_=>?_;refine ab (wpAny_typeOf hT ?_);dsimp only;refine ab (cj (a:=some (Str.ofString "__getitem__")) (by rfl) ?_);dsimp only;refine ab (cj qc ?_);dsimp only;refine ab (cj f2 ?_);refine c7 (λq=>absurd q (by decide +kernel)) λ_=>?_;refine ab (cj (a:=0) (by rfl) ?_);refine c7 (λq=>absurd q (by decide)) λ_=>?_;unfold getAttrBy?;refine ab (ab (wpAny_attempt (rZ λo=>?_)));refine af ?_;refine c7 (λq=>absurd q ah) λ_=>?_;exact af ⟨_,rfl,hq o⟩
end
section
variable {cx:Cx} {d n m:Nat} {H H':TH} {HL:List AO} {r a b v w:AV} {xs args:List AV} {t:Bool} {F:Fns} {z:AF×TH} {P:Prop} {A:Around} {s h:Shared} {ρ:Nat->Addr} {E:Value->Shared->Prop} {i j k:Nat} {id:String} {y:List Nat} {q:Int}
theorem KO{o:Option Bool}(h:yes o=true):o=some true:=by cases o with | none=>exact fT h | some b=>cases b with | false=>exact fT h | true=>rfl
theorem FH(h:KH args H=some (r,H')):du cx d "hasattr" args H.L r H'.L:=
 l2E h λa b e h=>dL h λx e1 h=>dL h λl e2 h=>ifE h λq h=>du.to h (du.of2 e e1 e2 (du.mk2 (ad _) λ{A s ρ V X Q E} u iV iX W=>by
  obtain⟨t1,e1⟩:=iV;obtain⟨t2,e2⟩:=iX;have e:rs cx.σ l=Str.ofString "__getitem__":=by rw[bW (fF cx.σ (KO q))];rfl
  rw[e1,e2,e];obtain⟨hp,gg,dr,tk,os⟩:=s;refine DT λo=>?_;have key:=u.sr.grow u.g.toGood (hp:=hp.push o) (t:=tk) (λa o e=>am _ e) (ad _);exact W _ _ ρ key.1 rfl key.2))
theorem wI:∀{xs:List AV} {ns:List Int} {Vs:List Value},trv (λv=>orO (eh v some) (um v some)) xs=some ns->IsL cx h ρ n xs Vs->∃l:List (Int×Tok),Vs=l.map (λp=>Value.int p.1 p.2)/\l.map (·.1)=ns
 | [],ns,Vs,e,i=>by obtain rfl:=ak e;exact⟨[],i,rfl⟩
 |x::r,ns,Vs,e,i=>dq e λb h1 e=>dq e λq h2 e=>so e λeq=>by
  refine dx i λV Ws e i1 i2=>?_;refine dm (wI h2 i2) λl e1 e2=>?_;have z:∃t,V = .int b t:=orE h1 (λh1=>dM h1 λk ex h1=>so h1 λek=>by rw[ex]at i1;refine dm i1 λt e3 _=>?_;exact⟨t,ek▸e3⟩) λh1=>GS h1 λk ex h1=>so h1 λek=>by rw[ex]at i1;obtain⟨t,e3⟩:=i1;exact⟨t,ek▸e3⟩
  obtain⟨t,e3⟩:=z;exact⟨(b,t)::l,by rw[e,e1,e3];rfl,by rw[aM,e2,<-eq]⟩
theorem FK(h:Lk args H=some (r,H')):du cx d "sum" args H.L r H'.L:=
 l1E h λa e h=>dP h λi e1 h=>dG h λxs hx h=>dq h λns hn h=>du.to h (du.of1 e e1 (du.mk1 (ad _) λ{A s ρ V Q E} u iV W=>by
  refine dm (u.sr.own _ _ (dA hx)) λWs hP l=>?_;refine dm (wI hn l) λps e1 e2=>?_;have eW:Ws=intItems ps.toArray:=by
   unfold intItems;apply Array.ext';rw[e1];simp
  rw[iV.1];refine cI (ad _) (sum_intListG u.ok.hd (xs:=ps.toArray) (eW▸hP.isList) λh' tk t' hk htk=>?_);have key:=u.sr.grow u.g.toGood (hp:=h') (t:=tk) hk htk;have es:preSum (numAt ps.toArray) ps.toArray.size=ns.sum:=by
   rw[preSum_eq,b8 (by simp)];simp[e2]
  rw[es];exact W _ _ ρ key.1 ⟨_,rfl⟩ key.2))
theorem Fn(h:Mq args H=some (r,H')):du cx d "chr" args H.L r H'.L:=
 l1E h λa e h=>dM h λi e1 h=>ifE h λq h=>du.to h (du.of1 e e1 (du.mk1 (ad _) λ{A s ρ V Q E} u iV W=>by
  refine dm iV λt e _=>?_;have q1:=dec (aa q).1;have q2:=dec (aa q).2;rw[e];refine PySem.P.chr_of_int (by simp;omega) ?_;have e:(⟨#[i.toNat]⟩:Str)=rs cx.σ [i.toNat]:=by
   show _=(⟨[ph cx.σ i.toNat].toArray⟩:Str);rw[jI cx.σ (by omega)]
  rw[e];exact W.now u.g.toGood u.sr (aC _) ⟨_,rfl,bl u.sr.tk0,aD _⟩))
theorem qt{α:Type}{g:AV->Option α}{T:α->Str}(hg:∀{x l V},g x=some l->Is cx h ρ n x V->∃t,V = .str (T l) t):∀{xs:List AV} {ls:List α} {Vs:List Value},trv g xs=some ls->IsL cx h ρ n xs Vs->∃l:List (Str×Tok),Vs=strValues l/\l.map (·.1)=ls.map T
 | [],ls,Vs,hh,i=>by obtain rfl:=ak hh;exact⟨[],i,rfl⟩
 |x::xs,ls,Vs,hh,i=>dq hh λl h1 hh=>dq hh λq h2 hh=>so hh λe=>by
  refine dx i λV Ws e' i1 i2=>?_;refine dm (qt hg h2 i2) λq' e1 e2=>?_;obtain⟨tk,e3⟩:=hg h1 i1;exact⟨(T l,tk)::q',by rw[e',e1,e3];rfl,by rw[<-e];exact aB _ e2⟩
theorem p8:∀(ps:List Str) (acc:Array Nat),(ps.foldl (λacc p=>acc++(Str.mk #[]).cps++p.cps) acc).toList=acc.toList++(ps.map (·.cps.toList)).flatten
 | [],acc=>(aU _).symm
 |p::ps,acc=>by rw[List.foldl_cons,p8 ps,Array.append_empty,Array.toList_append,aZ];rfl
theorem yI(ps:List Str):(Builtin.Str.glued (Str.mk #[]) ps).cps.toList=(ps.map (·.cps.toList)).flatten:=by
 unfold Builtin.Str.glued;cases ps with
 |nil=>rfl
 |cons p ps=>rw[p8];rfl
theorem E6(ps:List Str):∀(acc:Nat),(ps.toArray.foldl (· + ·.length+(Str.mk #[]).length) acc)=acc+((ps.map (·.cps.toList)).flatten).length:=by
 intro acc;rw[List.foldl_toArray]
 induction ps generalizing acc with
 |nil=>rfl
 |cons p ps ih=>
  rw[List.foldl_cons,ih,aM,List.flatten_cons,az,<-bf];rfl
theorem l9{X Y:Str}(e:X.cps.toList=Y.cps.toList):X=Y:=aB Str.mk (Array.toList_inj.mp e)
theorem AD{Q:Value->Shared->Prop}{D:Addr}{t:Tok}(l:List (Str×Tok))(X:Str)(hX:X.cps.toList=((l.map (·.1)).map (·.cps.toList)).flatten)(hlen:X.length<=sizeLine)(hl:s.heap.IsList D (strValues l).toArray)
  (W:∀t' k,s.toks<=k->Q (.str X t') { s with toks:=k}):wpAny (model pw cx.w) A (call (.builtin "str.join") [.str (Str.mk #[]) t,.ref D]) Q E s:=by
 refine cA F.slot_str_join (cB _ _ _) F.entry_str_join (F.args_str_join_2 _ _) (meets_str_join_list (Str.mk #[]) t D l ?_) ⟨hl,?_⟩
 ·have e:=E6 (l.map (·.1)) 0
  unfold Builtin.Str.tooLong;have:(((l.map (·.1)).toArray.foldl (· + ·.length+(Str.mk #[]).length) 0))<=sizeLine:=by
   rw[e,<-hX,aY];exact hlen
  simpa using this
 ·have go:∀ps:List Str,ps=l.map (·.1)->(Builtin.Str.glued (Str.mk #[]) ps).length<=sizeLine/\Q (.str (Builtin.Str.glued (Str.mk #[]) ps) s.toks) { s with toks:=s.toks+1}:=λps hp=>by
   have e:Builtin.Str.glued (Str.mk #[]) ps=X:=l9 (by rw[yI,hX,hp]);rw[e];exact⟨hlen,W _ _ (aC _)⟩
  match l,hX,go with
  | [],hX,go=>exact go [] rfl
  | [p],hX,go=>
   have e:p.1=X:=l9 (by rw[hX];exact(aU _).symm);show Q (.str p.1 p.2) s;rw[e];exact W _ _ (ad _)
  |p::q::r,hX,go=>exact go ((p::q::r).map (·.1)) rfl
theorem xl{α:Type}{g:AV->Option α}{T:α->Str}{ls:List α}{X:Str}(hg:∀{h ρ n x l V},g x=some l->Is cx h ρ n x V->∃t,V = .str (T l) t)(hx:HL[i]? = some (.list xs))(hs:trv g xs=some ls)(hX:X.cps.toList=(ls.map λl=>(T l).cps.toList).flatten)(hlen:cx.Good->X.length<=dn)
  (hr:∀{h ρ n t},Is cx h ρ n r (.str X t)):du cx d "str.join" [.str [],.ref i] HL r HL:=du.mk2 (ad _) λ{A s ρ V Y Q E} u iV iX W=>by
 obtain⟨tk,e⟩:=iV;refine dm (u.sr.own _ _ hx) λXs hP lx=>?_;refine dm (qt hg hs lx) λm e1 e2=>?_;have hl:s.heap.IsList (ρ i) (strValues m).toArray:=by rw[<-e1];exact hP.isList
 rw[e,iX.1];exact AD m X (by rw[hX,e2,aV];rfl) (ae (hlen u.g.toGood) dB) hl λt' k hk=>W.now u.g.toGood u.sr hk hr
theorem zw(h:Gr args H=some (r,H')):du cx d "str.join" args H.L r H'.L:=
 l2E h λa b e h=>dL h λs e1 h=>dP h λi e2 h=>l0E h λes h=>dG h λxs hx h=>orE h
  (λh=>dq h λls hs h=>ifE h λq h=>du.to h (du.of2 e (e1.trans (aB AV.str es)) e2 (xl (T:=rs cx.σ) (X:=rs cx.σ ls.flatten) (λh i=>dL h λl e h=>so h λeq=>by rw[e,eq]at i;exact i) (dA hx) hs
   (by rw[fJ,List.map_flatten];rfl) (λ_=>by rw[dO];exact leb q) ⟨_,rfl⟩)))
  λh=>dq h λls hs h=>ifE h λq h=>du.to h (du.of2 e (e1.trans (aB AV.str es)) e2 (xl (T:=rq cx) (X:=rq cx ls.flatten) j3 (dA hx) hs
   (by show ls.flatten.flatMap (pc cx)=_;rw[List.flatMap_def,List.map_flatten,List.flatten_flatten,aV];rfl) (λg=>ae (iR g _) (ae (ct 24 (leb q)) (by decide))) ⟨_,rfl⟩))
theorem uf{U:Value}(iX:Is cx h ρ n a U):∀{xs:List AV} {Us:List Value} {k:Nat} {j:Int},BI a xs k=some j->IsL cx h ρ n xs Us->
  ∃i:Nat,j=(k+i:Nat)/\(∃V,Us[i]? = some V/\jH V U=true)/\∀m V,m<i->Us[m]? = some V->jH V U=false
 | [],Us,k,j,hh,i=>nn hh
 |y::ys,Us,k,j,hh,i=>by
  refine dx i λV Ws e i1 i2=>?_;rw[e];exact mI hh (λq e=>so e λej=>⟨0,ej.symm,⟨V,rfl,(kA q i1 iX).1⟩,λm V' hm=>absurd hm (Nat.not_lt_zero _)⟩) (λq e=>by
   refine dz (uf iX e i2) λi ej hU h3=>?_;refine⟨i+1,by rw[ej,bf,bw 1 i],hU,λm V' hm hV=>?_⟩;cases m with
   |zero=>obtain rfl:=ak hV;exact(kA q i1 iX).1
   |succ m=>exact h3 m V' (Nat.lt_of_succ_lt_succ hm) hV) nn
theorem du.index(hx:HL[i]? = some (.list xs))(q:Nat.ble xs.length dn=true)(hall:xs.all (λy=>(rB y v).isSome)=true){j:Int}(hj:BI v xs 0=some j):du cx d "list.index" [.ref i,v] HL (.int j) HL:=du.mk2 (ad _) λ{A s ρ V X Q E} u iV iX W=>by
 refine dm (u.sr.own _ _ hx) λXs hP lx=>?_;refine dz (uf iX hj lx) λk ej OA hno=>?_;refine dm OA λU hU hyes=>?_;have hk:k<Xs.size:=(aG.mp hU).1;refine fR (id hP) λOC ne ho hc hdn hd=>?_;obtain⟨c1,c2,c3,c4⟩:=OC;simp only at hc hdn hd;subst hc hdn hd;have key:=PySem.SeqAt.list_indexAt (ρ i) Xs ne none c4 X (λy=>jH y X) k hk (Int.lt_of_lt_of_le (cF.mpr (av hk (by rw[lx.size];exact leb q))) (by decide)) (by
  have:Xs[k]=U:=(aG.mp hU).2;rw[this];exact hyes) (λm hm hlt=>hno m Xs[m] hlt (au (l:=Xs.toList) hm))
 rw[iV.1];refine cA F.slot_list_index hP.isList.typeIs F.entry_list_index (F.args_list_index_2 _ _) key ⟨ho,λy hy=>?_,?_⟩
 ·obtain⟨m,hm,e⟩:=Array.mem_iff_getElem.mp hy
  have hm':m<xs.length:=by rw[<-lx.size];exact hm
  refine lx.getE (au hm') λV' hV' i1=>?_;have e2:V'=y:=by rw[<-e];exact ak (hV'.symm.trans (au (l:=Xs.toList) hm))
  rw[e2]at i1;obtain⟨t,ht⟩:=cH.mp (aA.mp hall xs[m] (ci hm'));show PySem.SeqAt.EqAt A.in1 s y X (jH y X);rw[(kA ht i1 iX).1];exact(kA ht i1 iX).2 _ _
 ·rw[aY]at ej
  rw[ej]at W;exact W.int u.g.toGood u.sr
theorem xM(h:yS args H=some (r,H')):du cx d "list.index" args H.L r H'.L:=
 l2E h λa b e h=>dP h λi e1 h=>dG h λxs hx h=>ifE h λq h=>dq h λj hj h=>du.to h (du.of2 e e1 rfl (du.index (dA hx) (aa q).1 (aa q).2 hj))
end
section
open PySem.Builtin PySem.Builtin.Str PySem.StrLaws
theorem vM(x:Str)(c i:Nat):StrLaws.At x ⟨#[c]⟩ x.length i↔x.cps.toList[i]? = some c:=subAt_one x c i
theorem Df(x:Str)(c:Nat):occurrences x ⟨#[c]⟩ 0 x.length 1=(match x.cps.toList.findIdx? (· == c) with | none=>[] | some i=>[i]):=by
 have hlen:(occurrences x ⟨#[c]⟩ 0 x.length 1).length<=1:=by
  rw[occ_eq];have:∀(l:List Nat) (st:Array Nat×Nat),st.fst.size<=1->(forIn l st (occBody x ⟨#[c]⟩ x.length 1)).run.fst.size<=1:=by
   intro l
   induction l with
   |nil=>intro st h;exact h
   |cons i r ih=>
    intro st h;rw[bL];unfold occBody
    split
    ·rename_i q
     show(forIn r (st.fst.push i,_) (occBody x ⟨#[c]⟩ x.length 1)).run.fst.size<=1;exact ih _ (by rw[Array.size_push];have:=q.1.1.1;omega)
    ·exact ih _ h
  have:=this (List.range' 0 (x.length+1 - 0)) (#[],0) (by simp)
  simpa using this
 rcases occ_head x ⟨#[c]⟩ 1 (ad _) with ⟨h0,hn⟩ | ⟨i,r,h0,ha,hn⟩
 ·rw[h0]
  have:x.cps.toList.findIdx? (· == c)=none:=by
   rw[List.findIdx?_eq_none_iff];intro y hy;obtain⟨j,hj,rfl⟩:=List.mem_iff_getElem.mp hy;have:=hn j;rw[vM]at this;have h2:x.cps.toList[j]? = some x.cps.toList[j]:=au hj;simp;intro e;exact this (by rw[h2];simpa using e)
  rw[this]
 ·rw[h0]at hlen ⊢
  have hr:r=[]:=by cases r<;>simp at hlen ⊢
  subst hr;have:x.cps.toList.findIdx? (· == c)=some i:=by
   rw[vM]at ha;obtain⟨hi,e⟩:=aG.mp ha;rw[List.findIdx?_eq_some_iff_getElem];refine⟨hi,by simpa using e,λj hj=>?_⟩;have:=hn j hj;rw[vM]at this;have h2:x.cps.toList[j]? = some x.cps.toList[j]:=au (by omega);simp;intro e;exact this (by rw[h2];simpa using e)
  rw[this]
theorem zX(x:Str)(c:Nat):occurrencesFromRight x ⟨#[c]⟩ 1=(match x.cps.toList.reverse.findIdx? (· == c) with | none=>[] | some i=>[x.length - 1 - i]):=by
 rw[occR_eq];have hz:x.length=x.cps.toList.length:=by simp[Str.length]
 have big:∀(l:List Nat) (st:Array Nat×Nat),st.fst.size=1->(forIn l st (occRBody x ⟨#[c]⟩ 1)).run.fst=st.fst:=by
  intro l
  induction l with
  |nil=>intro st h;rfl
  |cons i r ih=>
   intro st h;rw[bL];unfold occRBody
   split
   ·rename_i q;exact absurd q.1.1 (by rw[h];exact cO _)
   ·exact ih _ h
 have go:∀(m k:Nat),k+m=x.length+1->(∀j,j+1<=k->j ≥ 1->x.cps.toList[x.length - j]?≠some c)->
   (forIn (List.range' k m) ((#[]:Array Nat),x.length) (occRBody x ⟨#[c]⟩ 1)).run.fst.toList.reverse =
    (match x.cps.toList.reverse.findIdx? (· == c) with | none=>[] | some i=>[x.length - 1 - i]):=by
  intro m
  induction m with
  |zero=>
   intro k hk hno;have:x.cps.toList.reverse.findIdx? (· == c)=none:=by
    rw[List.findIdx?_eq_none_iff];intro y hy;rw[List.mem_reverse]at hy;obtain⟨j,hj,rfl⟩:=List.mem_iff_getElem.mp hy;have hj2:j<x.length:=hz▸hj;have:=hno (x.length - j) (ae (bE (Nat.sub_le _ _)) (aL hk.symm)) (Nat.sub_pos_of_lt hj2);rw[Nat.sub_sub_self (a7 hj2),au hj]at this
    simpa using this
   rw[this];rfl
  |succ m ih=>
   intro k hk hno;rw[List.range'_succ,bL]
   by_cases hit:1<=k/\x.cps.toList[x.length - k]? = some c
   ·obtain⟨hk1,he⟩:=hit
    have hb:occRBody x ⟨#[c]⟩ 1 k ((#[]:Array Nat),x.length)=pure (ForInStep.yield (#[x.length - k],x.length - k)):=by
     unfold occRBody;have h1:=(subAt_one x c (x.length - k)).mpr he;have h3:(⟨#[c]⟩:Str).length=1:=rfl;rw[aI ⟨⟨by simp,by rw[h3]at h1 ⊢;exact h1.1⟩,h1.2⟩];rfl
    rw[hb];show(forIn (List.range' (k+1) m) (#[x.length - k],x.length - k) (occRBody x ⟨#[c]⟩ 1)).run.fst.toList.reverse=_;rw[big _ _ (by rfl)];have kl:k<=x.length:=ae (aK k m) (aL (Nat.succ.inj hk));have ex:x.length - 1 - (k - 1)=x.length - k:=by rw[Nat.sub_sub,cV hk1]
    have:x.cps.toList.reverse.findIdx? (· == c)=some (k - 1):=by
     rw[List.findIdx?_eq_some_iff_getElem];refine⟨by rw[cW,<-hz];exact av (Nat.sub_lt hk1 Nat.one_pos) kl,?_,λj hjk=>?_⟩
     ·rw[List.getElem_reverse]
      have e:=(aG.mp he).2;simp only[bZ,<-hz,ex];exact e
     ·rw[List.getElem_reverse]
      have:=hno (j+1) (Nat.add_lt_of_lt_sub hjk) (bI j);have hix:x.length - (j+1)=x.cps.toList.length - 1 - j:=by rw[hz,Nat.sub_sub,bw]
      have hl:x.cps.toList.length - 1 - j<x.cps.toList.length:=hix▸hz▸Nat.sub_lt (av hk1 kl) (bI j);rw[hix,au hl]at this;intro e;exact this (aB some (bW e))
    rw[this];exact aB (λz=>[z]) ex.symm
   ·have hb:occRBody x ⟨#[c]⟩ 1 k ((#[]:Array Nat),x.length)=pure (ForInStep.yield ((#[]:Array Nat),x.length)):=by
     unfold occRBody;rw[aF]
     rintro ⟨⟨_,h2⟩,h4⟩
     have h3:(⟨#[c]⟩:Str).length=1:=rfl;rw[h3]at h2;have:=(subAt_one x c (x.length - k)).mp ⟨by rw[h3];exact h2,h4⟩;rcases Nat.eq_zero_or_pos k with z | z
     ·subst z;exact Nat.not_succ_le_self _ h2
     ·exact hit ⟨z,this⟩
    rw[hb];show(forIn (List.range' (k+1) m) ((#[]:Array Nat),x.length) (occRBody x ⟨#[c]⟩ 1)).run.fst.toList.reverse=_;refine ih (k+1) ((Nat.succ_add k m).trans hk) λj hj hj1 he=>?_
    by_cases hjk:j=k
    ·subst hjk;exact hit ⟨hj1,he⟩
    ·exact hno j (cZ (aW hj) hjk) hj1 he
 exact go (x.length+1) 0 (aY _) λj hj hj1=>absurd hj (bH _)
theorem yb{a b:Nat}(h:rz a b=some true):a=b:=gC h (λq _=>nb q) λ_ h=>gC h (λ_ h=>nomatch h) λ_=>nn
theorem oz(σ:eO){c:Nat}(hc:isL c=false):∀{l:List Nat} {o:Option (List Nat×List Nat)},Da c l=some o->(o=none->(l.map (ph σ)).findIdx? (· == c)=none)/\∀p,o=some p->l=p.1++c::p.2/\(l.map (ph σ)).findIdx? (· == c)=some p.1.length
 | [],o,h=>so h λe=>⟨λ_=>rfl,λp q=>by rw[<-e]at q;exact nS q⟩
 |x::y,o,h=>by
  rw[aM,List.findIdx?_cons];exact mI h (λq h=>so h λe=>⟨λz=>(by rw[<-e]at z;exact sN z),λp z=>by
    rw[<-e]at z;obtain rfl:=ak z;have hx:=yb q;subst hx;exact⟨rfl,by rw[rP σ hc,beq_self_eq_true];rfl⟩⟩)
   (λq h=>om h λo' h1 e=>by
    have ih:=oz σ hc h1;have q2:(ph σ x == c)=false:=bC.mpr λe=>v4 σ q (by rw[rP σ hc,e]);rw[q2];cases o' with
    |none=>exact⟨λ_=>by rw[ih.1 rfl];rfl,λp z=>by rw[<-e]at z;exact nS z⟩
    |some p'=>exact⟨λz=>(by rw[<-e]at z;exact sN z),λp z=>by
      rw[<-e]at z;obtain rfl:=ak z;have k:=ih.2 p' rfl;exact⟨by rw[k.1];rfl,by rw[k.2];rfl⟩⟩) nn
theorem pX(σ:eO)(l:List Nat)(i j:Nat):strSub (rs σ l) i j=rs σ ((l.drop i).take (j - i)):=l9 (by rw[strSub_toList,fJ,fJ,List.map_take,List.map_drop])
theorem DE(x:Str):¬ Str.strKind x<Str.strKind ⟨#[125]⟩:=by
 have:Str.strKind ⟨#[125]⟩=1:=by decide +kernel
 rw[this];unfold Str.strKind
 split
 ·exact cO 1
 ·split
  ·exact λh=>absurd h (by decide)
  ·exact λh=>absurd h (by decide)
variable {cx:Cx} {d:Nat} {H H':TH} {HL:List AO} {r a b w:AV} {args:List AV} {P:Prop} {A:Around} {s h:Shared} {ρ:Nat->Addr} {E:Value->Shared->Prop} {i k:Nat} {id:String} {t y y2:List Nat} {q:Int}
theorem pT{σ:eO}(e:t=y++125::y2)(i:Nat)(hi:i=y.length):partsBetween (rs σ t) [i] (⟨#[125]⟩:Str).length=[rs σ y,rs σ y2]:=by
 show [strSub _ 0 i,strSub _ (i+1) _]=_;rw[hi,pX,pX,dO,e,List.drop_zero,Nat.sub_zero,List.take_left,az,a0];have:(y++125::y2).drop (y.length+1)=y2:=by rw[List.drop_append,List.drop_of_length_le (aC _),cQ];rfl
 rw[this,show y.length+(y2.length+1) - (y.length+1)=y2.length by rw[<-bf,bV,cQ],List.take_length]
theorem By(e:t=y++125::y2)(σ:eO):(decide ((rs σ t).length<(⟨#[125]⟩:Str).length) || decide (Str.strKind (rs σ t)<Str.strKind ⟨#[125]⟩))=false:=by
 have a1:¬ (rs σ t).length<(⟨#[125]⟩:Str).length:=by rw[dO,e,az,a0];exact bJ.mpr (ae (bE (bj _)) (bU _ _))
 rw[bM a1,bM (DE _)];rfl
noncomputable def Jt(cx:Cx)(d:Nat)(id:String)(t:List Nat)(HL:List AO)(o:Option (List Nat×List Nat)):Prop:=∀{A s ρ tx ty tz} {Q:Value->Shared->Prop} {E},Un cx d HL A s ρ->(o=none->Q (.ref s.heap.objs.size) { s with heap:=s.heap.push { cls:=.type "list",data:=.seq [Value.str (rs cx.σ t) tx].toArray}})->
 (∀p,o=some p->Q (.ref s.heap.objs.size) { s with toks:=s.toks + [rs cx.σ p.1,rs cx.σ p.2].length,heap:=s.heap.push { cls:=.type "list",data:=.seq (strsFrom s.toks [rs cx.σ p.1,rs cx.σ p.2]).toArray}})->wpAny (model pw cx.w) A (call (.builtin id) [.str (rs cx.σ t) tx,.str ⟨#[125]⟩ ty,.int 1 tz]) Q E s
theorem du.cut{o:Option (List Nat×List Nat)}(h:Jt cx d id t HL o):du cx d id [.str t,.str [125],.int 1] HL (.ref HL.length) (HL++[.list (Option.rec [.str t] (λp=>[.str p.1,.str p.2]) o)]):=
 ⟨eQ _ _,λu l W=>by
  refine dx l λX Ws e OA l=>?_;refine mN OA λtx i1=>?_;refine dx (two l) λY Z e' OC OD=>?_;refine dm OD λtz i3 _=>?_;refine mN OC λty i2=>?_;rw[e,e',i1,i2,i3];refine h u (λq=>?_) λp q=>?_
  ·rw[q]at W
   exact W.mk u.g.toGood u.sr (ad _) λE'=>kz (aw _ rfl) (L2.cons ⟨_,rfl⟩ rfl)
  ·rw[q]at W
   exact W.mk u.g.toGood u.sr (aK _ _) λE'=>kz (aw _ rfl) (L2.cons ⟨_,rfl⟩ (L2.cons ⟨_,rfl⟩ rfl))⟩
theorem LU{β:Type}{z:β}{k:List Nat->Option β}(h:rN args k=some z)(w:∀t,args=[.str t,.str [125],.int 1]->Nat.ble t.length dn=true->k t=some z->P):P:=
 l3E h λa b c e h=>dL h λt e1 h=>dL h λs e2 h=>dM h λi e3 h=>ifE h λq h=>w t (by rw[e,e1,e2,e3,dec (aa (aa q).1).1,dec (aa (aa q).1).2]) (aa q).2 h
theorem uj{x y:Str}:[x,y].length<=sizeLine:=ae (show 2<=dn by decide) dB
theorem ye{o:Option (List Nat×List Nat)}(hl:Nat.ble t.length dn=true)(ho:Da 125 t=some o):Jt cx d "str.split" t HL o:=λ{A s ρ tx ty tz Q E} u W0 W1=>by
 have hf:=oz cx.σ rfl ho;have hocc:=Df (rs cx.σ t) 125;rw[fJ]at hocc;have e1:limitOf (rs cx.σ t) 1=1:=rfl;cases o with
 |none=>
  rw[hf.1 rfl]at hocc;cases h1:(decide ((rs cx.σ t).length<(⟨#[125]⟩:Str).length) || decide (Str.strKind (rs cx.σ t)<Str.strKind ⟨#[125]⟩)) with
  |true=>exact cA F.slot_str_split (cB _ _ _) F.entry_str_split (F.args_str_split_3 _ _ _) (meets_str_split_max_cannot_occur _ _ 1 _ _ _ (by decide) h1) (W0 rfl)
  |false=>exact cA F.slot_str_split (cB _ _ _) F.entry_str_split (F.args_str_split_3 _ _ _) (meets_str_split_max_not_found _ _ 1 _ _ _ (by decide) h1 rfl (by rw[e1,hocc];rfl)) (W0 rfl)
 |some p=>
  have k:=hf.2 p rfl;rw[k.2]at hocc;have hp:partsBetween (rs cx.σ t) (occurrences (rs cx.σ t) ⟨#[125]⟩ 0 (rs cx.σ t).length (limitOf (rs cx.σ t) 1)) (⟨#[125]⟩:Str).length=[rs cx.σ p.1,rs cx.σ p.2]:=by rw[e1,hocc];exact pT k.1 _ rfl
  refine cA F.slot_str_split (cB _ _ _) F.entry_str_split (F.args_str_split_3 _ _ _) (meets_str_split_sep_max _ _ 1 _ _ _ (by decide) (By k.1 cx.σ) rfl (by rw[e1,hocc];rfl) (by rw[dO];exact ae (leb hl) dB) (by rw[hp];exact uj)) ?_;rw[hp];exact W1 p rfl
theorem yj(h:B7 args H=some (r,H')):du cx d "str.split" args H.L r H'.L:=
 LU h λt e hl h=>dq h λo ho h=>kI h λer eH=>by rw[er,eH,e];exact du.cut (ye hl ho)
theorem vg{o:Option (List Nat×List Nat)}(hl:Nat.ble t.length dn=true)(ho:Da 125 t.reverse=some o):Jt cx d "str.rsplit" t HL (o.map λp=>(p.2.reverse,p.1.reverse)):=λ{A s ρ tx ty tz Q E} u W0 W1=>by
 have hf:=oz cx.σ rfl ho;have hocc:=zX (rs cx.σ t) 125;rw[fJ,<-List.map_reverse]at hocc;have e1:limitOf (rs cx.σ t) 1=1:=rfl;cases o with
 |none=>
  rw[hf.1 rfl]at hocc;cases h1:(decide ((rs cx.σ t).length<(⟨#[125]⟩:Str).length) || decide (Str.strKind (rs cx.σ t)<Str.strKind ⟨#[125]⟩)) with
  |true=>exact cA F.slot_str_rsplit (cB _ _ _) F.entry_str_rsplit (F.args_str_rsplit_3 _ _ _) (meets_str_rsplit_max_cannot_occur _ _ 1 _ _ _ (by decide) h1) (W0 rfl)
  |false=>exact cA F.slot_str_rsplit (cB _ _ _) F.entry_str_rsplit (F.args_str_rsplit_3 _ _ _) (meets_str_rsplit_max_not_found _ _ 1 _ _ _ (by decide) h1 rfl (by rw[e1,hocc];rfl)) (W0 rfl)
 |some p=>
  have k:=hf.2 p rfl;rw[k.2]at hocc;have et:t=p.2.reverse++125::p.1.reverse:=by
   have:=aB List.reverse k.1;rw[List.reverse_reverse,List.reverse_append,cK,aZ]at this;exact this
  have hp:partsBetween (rs cx.σ t) (occurrencesFromRight (rs cx.σ t) ⟨#[125]⟩ (limitOf (rs cx.σ t) 1)) (⟨#[125]⟩:Str).length=[rs cx.σ p.2.reverse,rs cx.σ p.1.reverse]:=by
   rw[e1,hocc];refine pT et _ ?_;rw[dO,et,az,a0,cW,cW,Nat.sub_sub,bw 1,Nat.add_sub_cancel]
  refine cA F.slot_str_rsplit (cB _ _ _) F.entry_str_rsplit (F.args_str_rsplit_3 _ _ _) (meets_str_rsplit_sep_max _ _ 1 _ _ _ (by decide) (By et cx.σ) rfl (by rw[e1,hocc];rfl) (by rw[dO];exact ae (leb hl) dB) (by rw[hp];exact uj)) ?_;rw[hp];exact W1 _ rfl
theorem vy(h:vW args H=some (r,H')):du cx d "str.rsplit" args H.L r H'.L:=
 LU h λt e hl h=>dq h λo ho h=>kI h λer eH=>by
  rw[er,eH,e];have k:=du.cut (vg (cx:=cx) (d:=d) (HL:=H.L) hl ho);cases o<;>exact k
theorem gZ{w:World}{k:Str}{V:Value}(h:(PySem.strKind pw w).is k V=true):∃t,V = .str k t:=Value.isStrOf_shape h
end
noncomputable abbrev Cx.tk(cx:Cx)(N:Nat)(o:Nat->List Nat):Cx:={ cx with tkN:=N,opq:=o}
noncomputable def NM(cx:Cx):Prop:=∃kvs ep,cx.hs.DictAt (PySem.strKind pw cx.w) 135 kvs ep/\kvs.length=7/\∀{N o h ρ n},∃es:List (List Nat×AV),sV=jm es/\(∀p∈es,ja p.2=true)/\DR (cx.tk N o) h ρ n es kvs
noncomputable def ml(cx:Cx)(fd:FuncData)(ps ks:List Nat)(dfl:List AV):Prop:=
 ∀N o args kws bs,Jy ks kws=true->pN ks dfl kws ps args=some bs->∀(s:Shared) ρ n Vs Ks,(∀a o,cx.hs.get? a=some o->s.heap.get? a=some o)->IsL (cx.tk N o) s ρ n args Vs->IsL (cx.tk N o) s ρ n (kws.map (·.2)) Ks->
  ∃Ws,IsL (cx.tk N o) s ρ n (bs.map (·.2)) Ws/\BindsTo s fd ⟨Vs,(kws.map λp=>nmF p.1).zip Ks⟩ ((bs.map λp=>nmF p.1).zip Ws)
structure FnK (cx:Cx) (a:Nat) (ft:FT) (fd:FuncData) (body:List Stmt):Prop where
 ob:∃o,cx.hs.get? a=some o/\o.data = .func fd
 bd:fd.body = .stmts body
 co:fd.scope.isCoroutine=false
 gen:fd.scope.isGenerator=false
 glob:fd.globals=mainGlobals
 blt:fd.builtins=builtinsNs
 clos:fd.closure=[]
 sc:ScR fd.scope ft.names
 crec:cx.hs.CodeRec fd.code fd.qualname
 cv:ft.body=cvB body
 bind:ml cx fd ft.ps ft.ks (sd a)
 tag:jX a = .none\/(jX a=fd.code/\fd.qualname++".<locals>."=ij (jX a))
noncomputable def wX(cx:Cx)(d:Nat)(fd:FuncData)(names:List (Nat×NameKind))(body:List Stmt)(cells:List (Nat×Nat))(args:List AV)(kws:List (Nat×AV))(H:List AO)(r:AV)(H':List AO):Prop:=
 H.length<=H'.length/\∀{A s ρ Vs Ks} {f:Addr} {R:Result->Shared->Prop},Un cx (d+1) H A s ρ->Ho s.heap ρ H.length f fd names body cells->IsL cx s ρ H.length args Vs->IsL cx s ρ H.length (kws.map (·.2)) Ks->
  gy cx ρ H s r H' (λV s'=>R (.ok (.ret V)) s')->codeAny (model pw cx.w) A (.call (.ref f) ⟨Vs,(kws.map λp=>nmF p.1).zip Ks⟩) R s
section
variable {cx:Cx} {d n m:Nat} {H H' O7 H₂:TH} {HL:List AO} {r a v w:AV} {args dfl:List AV} {F:Fns} {c:IE} {z:AF×TH} {P:Prop} {A:Around} {s h:Shared} {ρ:Nat->Addr} {E:Value->Shared->Prop} {i j:Nat} {kws:List (Nat×AV)} {cells:List (Nat×Nat)} {ft:FT} {fd:FuncData} {body:List Stmt} {cdv:Value} {k:AV->TH->R}
theorem ic(K:dC cx F)(hD:ft.body=cvL (cvS (cvE n) m) body)(hb:ml cx fd ft.ps ft.ks dfl)(htag:cdv = .none\/(cdv=fd.code/\fd.qualname++".<locals>."=ij cdv))(h:jC F d ft dfl cdv cells args kws H k=some z)
  (w:∀v H',wX cx d fd ft.names body cells args kws H.L v H'.L->k v H'=some z->P):P:=
 ifE h λhk h=>dq h λbs h1 h=>dq h λO7 h2 h=>dq h λH₂ h3 h=>by
  rw[hD]at h;exact K.exs h λf H' k1 h=>w _ H' (by
   have e1:=mJ h2;have e2:=iJ (cx:=cx) h3;rw[e1]at e2;rw[<-TH.len]at e2 k1;have l2:=e2.len;refine⟨ae (a7 je) (ae (aL l2.symm) k1.1),λu FA iV iK W=>?_⟩;refine dm (hb cx.tkN cx.opq args kws bs hk h1 _ _ _ _ _ u.sr.keep iV iK) λWs iW hB=>?_;exact mR htag u.g u.ok u.sr FA hB iW e2 k1 W) h
theorem FnK.at_(X:FnK cx n ft fd body)(S:SR cx ρ HL s):Ho s.heap ρ HL.length n fd ft.names body []:=by
 refine dm X.ob λo ho hd=>?_;exact⟨⟨o,S.keep _ _ ho,hd⟩,X.bd,X.co,X.gen,X.glob,X.blt,by rw[X.clos];rfl,X.sc,λp hp=>(nomatch hp),X.crec.keeps S.keep⟩
theorem FnK.kp(X:FnK cx n ft fd body):Kp cx (.st n):=λ{H ρ s Fv} S i=>by
 refine dm X.ob λo ho hd=>?_;rw[show Fv=_ from i];refine⟨.frame,.inl rfl,(Looks.ld (part:=none) (S.keep _ _ ho)).andThen ?_⟩;rw[hd];exact .now
theorem vL(K:dC cx F)(X:FnK cx n ft fd body)(h:jC F d ft (sd n) (jX n) [] args kws H k=some z)(w:∀v H',Kp cx (.st n)->dE cx (d+1) (.st n) args kws H.L v H'.L->k v H'=some z->P):P:=
 ic K X.cv X.bind X.tag h λv H' k1 h=>w v H' X.kp ⟨k1.1,λu i iV iK W=>by
  rw[show _=Value.ref n from i];exact wpAny_call (k1.2 u (X.at_ u.sr) iV iK W)⟩ h
theorem tc{kvs:List (Str×Value)}{es:List (List Nat×AV)}{lo:Addr}{as:List Addr}(hG:KdxG (PySem.strKind pw cx.w) kvs lo h.heap as)(hl:as.length=kvs.length)(hf:∀p∈es,ja p.2=true)(R:DR cx h ρ n es kvs):IsL cx h ρ n (jm es) (as.map Value.ref):=by
 have gen:∀(es:List (List Nat×AV)) (kvs:List (Str×Value)) (as:List Addr),as.length=kvs.length->(∀p∈es,ja p.2=true)->DR cx h ρ n es kvs->(∀(j:Nat) (a:Addr),as[j]? = some a->∃key k' X,kvs[j]? = some (k',X)/\(PySem.strKind pw cx.w).is k' key=true/\h.heap.get? a=some (j7 #[key,X] 0))->IsL cx h ρ n (jm es) (as.map Value.ref):=by
  intro es
  induction es with
  |nil=>
   intro kvs as hl hf R hp;rw[R.nil]at hl;rw[cP hl];rfl
  |cons p es ih=>
   intro kvs as hl hf R hp;refine dx R.uncons λV r e i R'=>?_;cases as with
   |nil=>rw[e]at hl;cases hl
   |cons a as=>
    subst e;refine gw (hp 0 a rfl) λkey k' X h1 h2 h3=>?_;cases h1;obtain⟨t,e⟩:=gZ h2;rw[e]at h3;exact L2.cons ⟨a,#[.str (rs cx.σ p.1) t,V],0,rfl,h3,L2.cons ⟨t,rfl⟩ (L2.cons (tJ (hf p (.head _)) i) rfl)⟩ (ih r as (Nat.succ.inj hl) (λq hq=>hf q (.tail _ hq)) R' λj a hj=>hp (j+1) a hj)
 exact gen es kvs as hl hf R λj a hj=>hG.pairs j a hj
theorem BU(hN:NM cx)(h:GT args H=some (r,H')):eI cx d "list" args H.L r H'.L:=
 l1E h λa e h=>IN h λm e' h=>ifE h λq h=>kI h λer eH=>by
  rw[er,eH];exact eI.of1 e (e'.trans (aB AV.sitm (nb q))) (eI.mk1 (eQ _ _) λ{A s ρ V Q E} u iV W=>by
   refine dm iV λa e hm=>?_;refine dx hN λkvs ep hD hl hp=>?_;have hD':s.heap.DictAt (PySem.strKind pw cx.w) 135 kvs ep:=by refine kK hD λo es e r=>?_;exact⟨o,es,u.sr.keep _ _ e,r⟩
   rw[e];refine cI (ad _) (kdx_call (knd:=PySem.strKind pw cx.w) u.ok.hd ⟨_,hm,rfl,rfl⟩ hD' (by rw[hl];exact ae (show 7<=dn by decide) dB) λh' tk acc c as hk hS' hal hG hacc htk=>?_);have key:=u.sr.add (hp:=h') (t:=tk) (o:=.list sV) (a:=s.heap.objs.size) u.g.toGood (u.sr.none_at (ad _)) (λi p e al=>aO (u.sr.lt u.g.toGood e al)) htk hk λE'=>by
    refine dz (hp (N:=cx.tkN) (o:=cx.opq) (h:={ s with heap:=h',toks:=tk}) (ρ:=up ρ H.L.length s.heap.objs.size) (n:=H.L.length+1)) λes en hf R=>?_;exact⟨acc,⟨_,_,hS',rfl,rfl,rfl⟩,by rw[hacc,en];exact tc (h:={ s with heap:=h',toks:=tk}) hG hal hf R⟩
   exact W _ _ _ key.1 (oK (by rw[az];exact aD _)) key.2)
end
structure KC2 (cx:Cx) (K:Frag):Prop where
 inn:K.In cx.hs
 mks:makesIn K 241=true
 ini:findIn K (.ref 241) "__init__"=some (some (.ref 158))
 fn:typeIn K (.ref 158)=some (.type "function")
 keep:keepIn K (.ref 241)=true
noncomputable def EO(cx:Cx):Prop:=∀n ft,AB n=some ft->∃fd body,FnK cx n ft fd body
section
variable {cx:Cx} {d n m:Nat} {H H' O7:TH} {HL HL':List AO} {r a b v w f self:AV} {xs args:List AV} {F:Fns} {c:IE} {z:AF×TH} {P:Prop} {i j:Nat} {kws:List (Nat×AV)} {ft:FT} {fd:FuncData} {body:List Stmt} {k:AV->TH->R} {K:Frag}
theorem Ok.under_tc{A:Around}{C:Addr}{rest:List Value}{kw:List (Str×Value)}(o:Ok A (d+1)):Ok (A.under (.builtin "type.__call__" ⟨.ref C::rest,kw⟩)) d:=by
 have h1:(Code.builtin "type.__call__" ⟨.ref C::rest,kw⟩).frames=0:=by rfl
 refine⟨?_,?_,o.hd⟩
 ·have:(Code.builtin "type.__call__" ⟨.ref C::rest,kw⟩).weight=1:=by
   unfold Code.weight;have h2:(Code.builtin "type.__call__" ⟨.ref C::rest,kw⟩).isCreation=true:=by rfl
   have h3:(Code.builtin "type.__call__" ⟨.ref C::rest,kw⟩).isGuard=false:=by show guardIds.contains "type.__call__"=false;decide +kernel
   have h4:(Code.builtin "type.__call__" ⟨.ref C::rest,kw⟩).isCaller=false:=by rfl
   rw[h1,h2,h3,h4];rfl
  show A.depth+(Code.builtin "type.__call__" ⟨.ref C::rest,kw⟩).weight+8 * d<_;rw[this];exact xT o.dp (by decide)
 ·have:(Code.builtin "type.__call__" ⟨.ref C::rest,kw⟩).cUnits=1:=by
   show 1+3 * (Code.builtin "type.__call__" ⟨.ref C::rest,kw⟩).frames=1;rw[h1]
  show A.units+(Code.builtin "type.__call__" ⟨.ref C::rest,kw⟩).cUnits+32 * d<_;rw[this];exact xT o.un (by decide)
theorem Hr(C:KC2 cx K):Kp cx (.st 241):=λ{H ρ s Fv} S i=>by
 rw[show Fv=_ from i];refine dm (looks_keep (M:=model pw cx.w) C.keep (λa o e=>S.keep _ _ (C.inn a o e):K.In s.heap)) λk hk l=>?_;exact⟨k,by rcases hk with h | h<;>simp[h],l⟩
theorem dE.cls(C:KC2 cx K){d:Nat}(k1:wX cx d fd ft.names body [] (.ref (HL.length+1)::args) kws (HL++[.idn [],.inst 241 HL.length]) .none HL')(X:FnK cx 158 ft fd body):dE cx (d+1+1) (.st 241) args kws HL (.ref (HL.length+1)) HL':=by
 have l2:(HL++[AO.idn [],.inst 241 HL.length]).length=HL.length+2:=by rw[az];rfl
 have l0:HL.length<=(HL++[AO.idn [],.inst 241 HL.length]).length:=by rw[l2];exact aK _ 2
 have l3:HL.length+2<=HL'.length:=l2▸k1.1;refine⟨ae l0 k1.1,λ{A s ρ Fv Vs Ks Q E} u i iV iK W=>?_⟩;rw[show Fv=_ from i];have g:=u.g.toGood;have Xk:K.In s.heap:=u.sr.kin C.inn;refine wpAny_call (make_core (h:=s.heap) (makes_of Xk C.mks) (looks_findIn Xk C.ini) (λself=>bind_fn Xk self C.fn) (.inl rfl) ?_);have q1:=u.sr.fresh (ob:=emptyDict) (o:=.idn []) (t:=s.toks) g (ad _) λE'=>⟨λ_=>none,Heap.Ns1.of_empty ⟨_,_,_,aw _ rfl,rfl,(λe he=>by simp at he),λ_=>rfl⟩,λx hx=>absurd rfl hx,λx hx=>rfl⟩;have ln:(HL++[AO.idn []]).length=HL.length+1:=az;have q2:=q1.1.fresh (ob:=instObj 241 s.heap.objs.size) (o:=.inst 241 HL.length) (t:=s.toks) g (ad _) λE'=>⟨s.heap.objs.size,aw _ rfl,by rw[gM (by rw[ln];exact aD _),g9],by rw[ln];exact bc (aD _)⟩;rw[aZ]at q2;have N3:=q1.2.trans (eQ _ _) q2.2;have hx:up (up ρ HL.length s.heap.objs.size) (HL++[AO.idn []]).length (s.heap.push emptyDict).objs.size (HL.length+1)=s.heap.objs.size+1:=by rw[<-ln,g9,Heap.size_push]
 refine k1.2 (Vs:=.ref (s.heap.objs.size+1)::Vs) ⟨u.g,u.ok.under_tc,q2.1⟩ (X.at_ q2.1) (L2.cons ⟨by rw[<-hx],by rw[l2];exact aD _⟩ (IsL.ext g N3 l0 iV)) (IsL.ext g N3 l0 iK) λV U7 V5 Q0 T6 N9=>?_;refine⟨T6,?_⟩;have:=W (.ref (V5 (HL.length+1))) U7 V5 Q0 ⟨rfl,l3⟩ (N3.trans l0 N9);rw[N9.ag _ (by rw[l2];exact aD _)]at this;rw[<-hx];exact this
theorem vH(KF:dC cx F)(C:KC2 cx K)(hX:EO cx)(h:vR F d args kws H k=some z)(w:∀v H',Kp cx (.st 241)->dE cx (d+1) (.st 241) args kws H.L v H'.L->k v H'=some z->P):P:=
 dq h λO7 h1 h=>by
  cases d with
  |zero=>exact nn h
  |succ d=>
   exact dq h λft hft h=>by
    refine fA (hX 158 ft hft) λfd body X=>?_;have e1:=mJ h1;exact ic KF X.cv X.bind (.inl rfl) h λv H' k1 h=>io h λe h=>w _ H' (Hr C) (by
     rw[e1,e]at k1;rw[<-TH.len]at k1 ⊢;exact dE.cls C k1 X) h
theorem s8{prog:Program}{w:World}{A:Around}{R:Result->Shared->Prop}{s:Shared}{p g:Addr}{S:Value}{o:Obj}{pos:List Value}{kw:List (Str×Value)}(ho:s.heap.get? p=some o)(h2:o=methodObj (.ref g) S\/o={ cls:=.type "builtin_function_or_method",data:=.fields #[.ref g,S]})
  (h:codeAny (model prog w) A (.call (.ref g) ⟨S::pos,kw⟩) R s):codeAny (model prog w) A (.call (.ref p) ⟨pos,kw⟩) R s:=by
 obtain⟨hh,gg,dr,t,os⟩:=s;refine c6 ?_;show wpAny _ _ (callAny (.ref p) _) _ _ _;dsimp only at ho;refine nd_load ho ?_;rcases h2 with rfl | rfl<;>exact af ⟨rfl,h⟩
theorem rL:isSubtype (.type "list") (.type "module")=pure false:=by rw[cY];kernel_rfl
theorem rQ(l:Addr)(x:Value){M:Model}{A:Around}{E}{s:Shared}{Q:Unit->Shared->Prop}{o:Obj}{its:Array Value}{n:Nat}(ho:s.heap.get? l=some o)(hd:o.data = .seq its n)(hT:s.TypeIs (.ref l) "list")(h:Q () s):wpAny M A (checkBoundCall "list.append" ⟨[.ref l,x],[]⟩) Q E s:=by
 obtain⟨sig,hs,hf⟩:∃sig,Manifest.signature? "list.append"=some sig/\sig.full="list.append":=by
  have h:(Manifest.signature? "list.append").map (·.full)=some "list.append":=by decide +kernel
  exact bn.mp h
 have ha:Bind.checkArgs "list.append" sig ⟨[.ref l,x],[]⟩=pure ():=by
  have:=F.args_list_append_2 (.ref l) x;unfold argsOk at this;rw[hs]at this;exact this
 have hk:builtinKind "list.append"=some .method:=by decide +kernel
 have hv:Manifest.varargsMethods.contains "list.append"=false:=by decide +kernel
 unfold checkBoundCall;rw[hs,hk];have hm:((Manifest.AttrKind.method != Manifest.AttrKind.method)&&(Manifest.AttrKind.method != Manifest.AttrKind.classMethod))=false:=by decide
 simp only[hm,hv,aX,cm,Bool.false_or];refine ab (wpAny_isInstance hT rL ?_);simp only[aX,cm];unfold isType;refine ab (ab (wpAny_loadPart ho (af ?_)));rw[hd];simp only[aX,cm];refine ab (wpAny_typeOf hT ?_);dsimp only;have hfull:(Manifest.Signature.mk sig.machinery (toString (Bind.lastOf "list")++toString "."++toString (Bind.lastOf "list.append")) sig.short sig.receiver sig.params)=sig:=by
  have:(toString (Bind.lastOf "list")++toString "."++toString (Bind.lastOf "list.append"))="list.append":=by decide +kernel
  rw[this,<-hf]
 show wpAny M A (Bind.checkArgs "list.append" (Manifest.Signature.mk sig.machinery (toString (Bind.lastOf "list")++toString "."++toString (Bind.lastOf "list.append")) sig.short sig.receiver sig.params) ⟨[.ref l,x],[]⟩) Q E s;rw[hfull,ha];exact af h
theorem m4{A:Around}{R:Result->Shared->Prop}{s:Shared}{l:Addr}{its:Array Value}{x:Value}(hl:PlainL s.heap l its)(hsz:its.size<=sizeLine)(hR:∀h',PlainL h' l (its.push x)->Heap.SameBut l s.heap h'->R (.ok (.ret .none)) { s with heap:=h'}):
  codeAny (model pw cx.w) A (.builtin "list.append" ⟨[.ref l,x],[]⟩) R s:=by
 refine fR (id hl) λo n ho hc hdn hd=>?_;obtain⟨n',hd'⟩:=Obj.data_mapSeq hd (·.push x);refine cr F.entry_list_append ?_;show wpAny _ _ (updateSeq l (·.push x) >>= λ_=>ret .none) _ _ s;refine ab ?_;refine wpAny_updateSeq ho hd (af (hR _ ?_ (bD ..)));refine⟨_,n',ba _ ho (Obj.isFreed_of_seq hd'),(Obj.cls_mapSeq ..).trans hc,?_,hd'⟩;obtain⟨c,d,dt,sl⟩:=o;subst hd;exact hdn
theorem oX{A:Around}{R:Result->Shared->Prop}{s:Shared}{p l:Addr}{o:Obj}{its:Array Value}{x:Value}(ho:s.heap.get? p=some o)(h2:o=methodObj (.builtin "list.append") (.ref l)\/o={ cls:=.type "builtin_function_or_method",data:=.fields #[.builtin "list.append",.ref l]})
  (hl:PlainL s.heap l its) (hsz:its.size<=sizeLine) (hR:∀h',PlainL h' l (its.push x)->Heap.SameBut l s.heap h'->R (.ok (.ret .none)) { s with heap:=h'}):codeAny (model pw cx.w) A (.call (.ref p) ⟨[x],[]⟩) R s:=by
 refine c6 ?_;show wpAny _ _ (callAny (.ref p) _) _ _ _;unfold callAny;refine ab (wpAny_load ho ?_);have hq:∀a,(Code.builtin "list.append" a).quiet=true:=plainId_quiet F.slot_list_append.plain;rcases h2 with rfl | rfl
 ·refine af ⟨rfl,?_⟩
  refine codeAny_call_builtin_code (hq _) (F.slot_list_append.check _ _ _ _ _ _ _ _ hl.isList.typeIs (F.args_list_append_2 _ _) (m4 hl hsz hR))
 ·show wpAny _ _ (checkBoundCall "list.append" ⟨[.ref l,x],[]⟩ >>= λ_=>again (.builtin "list.append" ⟨[.ref l,x],[]⟩)) _ _ _
  refine fR (id hl) λo n ho hc hdn hd=>?_;exact ab (rQ l x ho hd hl.isList.typeIs (af ⟨hq _,m4 hl hsz hR⟩))
theorem F6(h:∀n,a = .st n->∃ft fd body,FnK cx n ft fd body)(hb:(∃n,a = .st n)\/∃k,a = .bi k):Kp cx (.bm a v):=λ{HL ρ s Fv} S i=>by
 refine kO i λp O5 P8 o e0 OA i1 i2=>?_;refine kL OA λe fr ho=>?_;rw[e0];rcases ho with ho | ho
 ·rw[ho]at e
  rcases hb with ⟨n,q⟩ | ⟨k,q⟩
  ·rw[q]at i1
   refine sM (h n q) λft fd body X=>?_;refine dm X.ob λo' ho' hd=>?_;rw[show O5=_ from i1]at e;refine⟨.boundFrame,.inr (.inr rfl),(Looks.ld (part:=none) e).andThen ((Looks.ld (part:=none) (S.keep _ _ ho')).andThen ?_)⟩;rw[hd];exact .now
  ·rw[q]at i1
   rw[show O5=_ from i1]at e;exact⟨.machine,.inr (.inl rfl),(Looks.ld (part:=none) e).andThen .now⟩
 ·rw[ho]at e
  exact⟨.machine,.inr (.inl rfl),(Looks.ld (part:=none) e).andThen .now⟩
theorem dE.bmf{fa:Nat}(k1:wX cx d fd ft.names body [] (self::args) kws HL r HL')(X:FnK cx fa ft fd body):dE cx (d+1) (.bm (.st fa) self) args kws HL r HL':=
 ⟨k1.1,λu i iV iK W=>by
  refine kO i λp O5 P8 o e0 OA i1 i2=>?_;refine kL OA λe fr ho=>?_;rw[show O5=_ from i1]at ho;rw[e0];exact wpAny_call (s8 e ho (k1.2 (Vs:=P8::_) u (X.at_ u.sr) (L2.cons i2.is iV) iK W))⟩
theorem dE.bma{xs}(hx:HL[i]? = some (.list xs))(q:Nat.ble xs.length dn=true):dE cx (d+1) (.bm (.bi 5) (.ref i)) [v] [] HL .none (HL.set i (.list (xs++[v]))):=
 ⟨by rw[aE];exact ad _,λ{A s ρ Fv Vs Ks Q E} u iF iV iK W=>by
  refine kO iF λp O5 P8 o e0 OA i1 i2=>?_;refine kL OA λe fr ho=>?_;refine dm (one iV) λX eX iX=>?_;refine dm (u.sr.own _ _ hx) λXs hP lx=>?_;rw[show O5=_ from i1,i2.1]at ho;rw[e0,eX,show Ks=[] from iK];refine wpAny_call (oX e ho hP (by rw[lx.size];exact ae (leb q) dB) λh' hP' hs=>?_);have key:=u.sr.set (hp:=h') (t:=s.toks) (o':=.list (xs++[v])) u.g.toGood hx rfl (λa o ha e=>(hs.2 a ha).trans e) (ad _) λE=>⟨_,hP',by
   rw[dj];exact(IsL.ext u.g.toGood E (ad _) lx).app (L2.cons (iX.ext u.g.toGood E (ad _)) rfl)⟩
  exact W _ _ ρ key.1 rfl key.2⟩
theorem ym(KF:dC cx F)(hX:EO cx)(h:uK F d f self args kws H k=some z)(w:∀v H',Kp cx (.bm f self)->dE cx (d+1) (.bm f self) args kws H.L v H'.L->k v H'=some z->P):P:=
 orE h (λh=>yN h λfa e h=>ifE h λ_ h=>dq h λft hft h=>by
   refine fA (hX fa ft hft) λfd body X=>?_;rw[e]at w;exact ic KF X.cv X.bind X.tag h λv H' k1 h=>w v H' (F6 (λm e=>by cases e;exact⟨ft,fd,body,X⟩) (.inl ⟨fa,rfl⟩)) (dE.bmf k1 X) h)
  λh=>M9 h λj e h=>ifE h λq h=>gx h λv H' hb h=>by
   rw[e,nb (aa q).1,bp.mp (aa q).2]at w;exact l2E hb λa b e1 hb=>dP hb λi e2 hb=>dG hb λxs hx hb=>ifE hb λql hb=>w v H' (F6 (a:=.bi 5) (λm e=>by cases e) (.inr ⟨5,rfl⟩)) (by
    have e1:=List.cons.inj e1;rw[e1.1,e1.2,e2];exact sp (P:=λv (H':TH)=>dE cx (d+1) (.bm (.bi 5) (.ref i)) [b] [] H.L v H'.L) hb (by rw[gN hx];exact dE.bma (dA hx) ql)) h
end
structure ju (a:Arguments) (ps:List Nat):Prop where
 po:a.posonlyargs=[]
 va:a.vararg=none
 ko:a.kwonlyargs=[]
 kd:a.kw_defaults=[]
 kw:a.kwarg=none
 df:a.defaults=[]
 nm:a.args.map (·.arg)=ps.map nmF
 an:∀x∈a.args,x.annotation=none
 ps:∃k,ps=DJ k
theorem FN{as:List Arg}(h:∀x∈as,x.annotation=none)(env:Env):annotationsOf as env=[]:=by
 induction as with
 |nil=>rfl
 |cons x r ih=>
  obtain⟨n,an,p⟩:=x;have e:an=none:=h _ (.head _);subst e;exact ih λy hy=>h y (.tail _ hy)
theorem ju.ann{a ps}(A:ju a ps)(env:Env):annTrees a none env=[]:=by
 obtain⟨po,as,va,ko,kd,kw,df⟩:=a;obtain⟨h1,h2,h3,_,h5,_,_,h8,_⟩:=A;subst h1;subst h2;subst h3;subst h5;unfold annTrees;simp only[List.nil_append,Option.toList_none,aU,FN h8 env];rfl
theorem uu:∀{as:List Arg} {ps:List Nat},trv (λx:Arg=>ifO x.annotation.isNone (idx x.arg)) as=some ps->as.map (·.arg)=ps.map nmF/\∀x∈as,x.annotation=none
 | [],ps,h=>by obtain rfl:=ak h;exact⟨rfl,λx hx=>(nomatch hx)⟩
 |a::as,ps,h=>dq h λb h1 h=>dq h λq h2 h=>ifE h1 λc h1=>so h λe=>by
  have ih:=uu h2;rw[<-e];exact⟨congr (aB List.cons (im h1).1) ih.1,λx hx=>(aH.mp hx).elim (λq=>by rw[q];exact Option.isNone_iff_eq_none.mp c) (ih.2 x)⟩
theorem td{k:Nat}{a:Arguments}{ps:List Nat}(h:kM k a=some ps):ju a ps/\ps=DJ k:=by
 obtain⟨po,as,va,ko,kd,kw,df⟩:=a;cases po with
 |cons _ _=>exact nn h
 |nil=>cases va with
  |some _=>exact nn h
  |none=>cases ko with
   |cons _ _=>exact nn h
   |nil=>cases kd with
    |cons _ _=>exact nn h
    |nil=>cases kw with
     |some _=>exact nn h
     |none=>cases df with
      |cons _ _=>exact nn h
      |nil=>
       exact dq h λq h1 h=>ifE h λc h=>so h λe=>by
        have k1:=uu h1;rw[e]at k1 c;exact⟨⟨rfl,rfl,rfl,rfl,rfl,rfl,k1.1,k1.2,k,dec c⟩,dec c⟩
theorem Ew{fd:FuncData}{p q r:Pos}{x y z:Value}(h:fd.params=⟨[],[⟨nmF 12,none,p⟩,⟨nmF 13,none,q⟩,⟨nmF 14,none,r⟩],none,[],[],none,[]⟩)(hd:fd.defaults = .none):bindArgs fd ⟨[x,y,z],[]⟩=pure [(nmF 12,x),(nmF 13,y),(nmF 14,z)]:=by
 cases fd;subst h;subst hd;kernel_rfl
theorem Dj{fd:FuncData}{p q:Pos}{x y:Value}(h:fd.params=⟨[],[⟨nmF 13,none,p⟩,⟨nmF 14,none,q⟩],none,[],[],none,[]⟩)(hd:fd.defaults = .none):bindArgs fd ⟨[x,y],[]⟩=pure [(nmF 13,x),(nmF 14,y)]:=by
 cases fd;subst h;subst hd;kernel_rfl
theorem Fj{fd:FuncData}{p:Pos}{x:Value}(h:fd.params=⟨[],[⟨nmF 11,none,p⟩],none,[],[],none,[]⟩)(hd:fd.defaults = .none):bindArgs fd ⟨[x],[]⟩=pure [(nmF 11,x)]:=by
 cases fd;subst h;subst hd;kernel_rfl
theorem kF{as:List Arg}{x:Nat}{ps:List Nat}(h:as.map (·.arg)=(x::ps).map nmF)(ha:∀y∈as,y.annotation=none):∃p r,as=⟨nmF x,none,p⟩::r/\r.map (·.arg)=ps.map nmF/\∀y∈r,y.annotation=none:=by
 cases as with
 |nil=>cases h
 |cons y r=>
  obtain⟨n,an,p⟩:=y;have h:=List.cons.inj h;have e1:n=nmF x:=h.1;have e2:an=none:=ha _ (.head _);exact⟨p,r,by rw[e1,e2],h.2,λy hy=>ha y (.tail _ hy)⟩
theorem ju.eq{a ps}(A:ju a ps):a=⟨[],a.args,none,[],[],none,[]⟩:=by
 obtain⟨po,as,va,ko,kd,kw,df⟩:=a;obtain⟨h1,h2,h3,h4,h5,h6,_⟩:=A;subst h1;subst h2;subst h3;subst h4;subst h5;subst h6;rfl
theorem AM{fd:FuncData}{ps:List Nat}(A:ju fd.params ps)(hd:fd.defaults = .none){Vs:List Value}(hl:Vs.length=ps.length):bindArgs fd ⟨Vs,[]⟩=pure ((ps.map nmF).zip Vs):=by
 obtain⟨k,hk⟩:=A.ps;have e:=A.eq;have nm:=A.nm;have an:=A.an;generalize fd.params.args=as at e nm an;rw[hk]at nm hl ⊢;unfold DJ at nm hl ⊢;generalize Nat.beq k 0=q0 at nm hl ⊢;generalize Nat.beq k 1=q1 at nm hl ⊢;cases q0 with
 |true=>
  refine dx (kF nm an) λp1 r e1 nm an=>?_;refine dx (kF nm an) λp2 r e2 nm an=>?_;refine dx (kF nm an) λp3 r e3 nm an=>?_;rw[e1,e2,e3,List.map_eq_nil_iff.mp nm]at e;cases Vs with | nil=>cases hl | cons x Vs=>cases Vs with | nil=>cases hl | cons y Vs=>cases Vs with | nil=>cases hl | cons z Vs=>cases Vs with | cons _ _=>cases hl | nil=>exact Ew e hd
 |false=>cases q1 with
  |true=>
   refine dx (kF nm an) λp1 r e1 nm an=>?_;refine dx (kF nm an) λp2 r e2 nm an=>?_;rw[e1,e2,List.map_eq_nil_iff.mp nm]at e;cases Vs with | nil=>cases hl | cons x Vs=>cases Vs with | nil=>cases hl | cons y Vs=>cases Vs with | cons _ _=>cases hl | nil=>exact Dj e hd
  |false=>
   refine dx (kF nm an) λp1 r e1 nm an=>?_;rw[e1,List.map_eq_nil_iff.mp nm]at e;cases Vs with | nil=>cases hl | cons x Vs=>cases Vs with | cons _ _=>cases hl | nil=>exact Fj e hd
noncomputable def hF(k:Nat):Addr×Addr:=ifB (Nat.beq k 0) (121,117) (ifB (Nat.beq k 1) (128,124) (216,214))
noncomputable def zG(k:Nat):Str:=ij (.ref (hF k).1)++ifB (Nat.ble k 1) (Str.ofString "inner") (Str.ofString "<lambda>")
noncomputable def oN(k:Nat)(h:Heap)(a:Addr):Prop:=a=(hF k).2/\(h.get? a=some (tabObj #[])\/∃c',h.get? a=some (tabObj #[rawInt (kH k).1,rawInt (kH k).2,.ref c'])/\h.CodeRec (.ref c') (zG k))
noncomputable def wK(ft:FT)(fb:FuncBody):Prop:=(ft.ks=[]/\∃b n m,fb = .stmts b/\ft.body=cvL (cvS (cvE n) m) b)\/(ft.ks=[0]/\∃b n,fb = .expr b/\ft.body=cvE n b)
structure MU (ft:FT) (cells:List (Nat×Nat)) (ρ:Nat->Addr) (h:Heap) (a:Addr) (fd:FuncData):Prop where
 ob:∃o,h.get? a=some o/\o.data = .func fd
 sc:ScR fd.scope ft.names
 co:fd.scope.isCoroutine=false
 gen:fd.scope.isGenerator=false
 ar:ju fd.params ft.ps
 df:fd.defaults = .none
 glob:fd.globals=mainGlobals
 blt:fd.builtins=builtinsNs
 clos:fd.closure=cells.map λp=>(nmF p.1,ρ p.2)
 lt:∀p∈cells,p.1<185
 crec:h.CodeRec fd.code fd.qualname
 body:wK ft fd.body
noncomputable def k6(ft:FT)(cells:List (Nat×Nat))(ρ:Nat->Addr)(h:Heap)(a:Addr):Prop:=∃fd,MU ft cells ρ h a fd
theorem GB(k:Nat):mainGlobals≠(hF k).2:=by
 unfold hF;cases(Nat.beq k 0) with
 |true=>show mainGlobals≠117;decide
 |false=>cases(Nat.beq k 1) with
  |true=>show mainGlobals≠124;decide
  |false=>show mainGlobals≠214;decide
theorem oS{h h':Heap}{v q}(hf:∀a o,h.get? a=some o->ff o=true->h'.get? a=some o)(x:h.CodeRec v q):h'.CodeRec v q:=by
 refine kO x λc o vs t e1 e2 e3 e4=>?_;refine⟨c,o,vs,t,e1,hf _ _ e2 ?_,e3,e4⟩;unfold ff;rw[e3];have:mD vs=true:=by unfold mD;rw[e4]
 show(mD vs || _ || _ || _ || _ || _ || _)=true;rw[this];rfl
theorem DH{cx:Cx}(h1:cx.clo=k6)(h2:cx.tab=oN)(h3:∀k,(cx.opq k).length<=24):cx.Good where
 opl:=h3
 clo:=λ{k cells ρ n h ρ' h' a} E hc x=>by
  rw[h1]at x ⊢;obtain⟨fd,⟨o,e1,e2⟩,x2,x3,x4,x5,x6,x7,x8,x9,x10,x11,x12⟩:=x;exact⟨fd,⟨o,E.fz _ _ e1 (by unfold ff;rw[e2]),e2⟩,x2,x3,x4,x5,x6,x7,x8,by rw[x9];exact bP λp hp=>by rw[E.ag _ (hc p hp)],x10,oS E.fz x11,x12⟩
 tab:=λ{k ρ n h ρ' h' a} E hk x=>by
  rw[h2]at x ⊢;exact⟨x.1,x.2.imp (hk _) λ⟨c',x,y⟩=>⟨c',hk _ x,oS E.fz y⟩⟩
 tabO:=λk h a x=>by
  rw[h2]at x;rcases x.2 with x | ⟨c',x,y⟩
  ·exact⟨_,x,rfl⟩
  ·exact⟨_,x,rfl⟩
structure Mk (cx:Cx):Prop where
 clo:cx.clo=k6
 tab:cx.tab=oN
 hd:∀k,CodeHd cx.hs (hF k).1 (hF k).2
 mg:∃mg,cx.hs.Ns mainGlobals mg/\∀k,cx.hs.BuiltinsAt mg (hF k).2
section
variable {cx:Cx} {HL:List AO} {a:AV} {s h:Shared} {ρ:Nat->Addr} {E:Value->Shared->Prop} {i:Nat} {clo:List (Nat×Nat)} {ft:FT} {pos:Pos} {k:Nat}
theorem qr(l cl:Nat)(pos:Pos)(h:(pos.line,pos.col)=(l,cl))(c':Addr):codeAmong pos [rawInt l,rawInt cl,.ref c']=some (.ref c'):=by
 have h1:pos.line=l:=aB Prod.fst h;have h2:pos.col=cl:=aB Prod.snd h;simp[codeAmong,rawInt,h1,h2]
theorem nt(M:Mk cx)(S:SR cx ρ HL s)(hi:HL[i]? = some (.tab k)):oN k s.heap (ρ i):=by
 have own:cx.tab k s.heap (ρ i):=S.own i _ hi;rw[M.tab]at own;exact own
theorem nJ(g:Cok cx)(M:Mk cx){Q:Value->Shared->Prop}(S:SR cx ρ HL s)(hi:HL[i]? = some (.tab k)){h':Heap}{tk:Nat}{o:Obj}(hx:Heap.ExtBut (hF k).2 s.heap h')(ht:oN k h' (ρ i))(htk:s.toks<=tk)(hclo:k6 ft clo ρ (h'.push o) h'.objs.size)(hc:∀p∈clo,p.2<HL.length)
  (W:gy cx ρ HL s (.clo ft clo) HL Q):Q (.ref h'.objs.size) { s with heap:=h'.push o,toks:=tk}:=by
 have ea:=(nt M S hi).1;have key:=S.set (hp:=h'.push o) (t:=tk) (o':=.tab k) g.toGood hi rfl (λa o ha e=>am _ (hx a o (by rw[<-ea];exact ha) e)) htk λE=>by
  show cx.tab k (h'.push o) (ρ i);rw[M.tab];exact⟨ht.1,ht.2.imp (am _) λ⟨c',x,y⟩=>⟨c',am _ x,y.push o⟩⟩
 rw[sO hi]at key;exact W _ _ ρ key.1 ⟨_,rfl,by rw[M.clo];exact hclo,hc⟩ key.2
end
section
variable {cx:Cx} {HL:List AO} {b w:AV} {A:Around} {s h:Shared} {ρ:Nat->Addr} {env:Env} {E:Value->Shared->Prop} {i:Nat} {clo:List (Nat×Nat)} {ft:FT} {params:Arguments} {sc:Scope} {pos:Pos} {k:Nat} {names:List (Nat×NameKind)}
structure MkR (cx:Cx) (HL:List AO) (s:Shared) (ρ:Nat->Addr) (env:Env) (k i:Nat) (ft:FT) (clo:List (Nat×Nat)) (params:Arguments) (sc:Scope) (pos:Pos):Prop where
 S:SR cx ρ HL s
 hi:HL[i]? = some (.tab k)
 cl:closureFor sc env=pure (clo.map λp=>(nmF p.1,ρ p.2))
 ge:env.globals=mainGlobals
 cd:env.code = .ref (hF k).1
 scr:ScR sc ft.names
 co:sc.isCoroutine=false
 gen:sc.isGenerator=false
 ar:ju params ft.ps
 at_:(pos.line,pos.col)=kH k
 hc:∀p∈clo,p.1<185/\p.2<HL.length
theorem MkR.made(R:MkR cx HL s ρ env k i ft clo params sc pos){h:Heap}{o:Obj}{fd:FuncData}(d1:o.data = .func fd)(d2:o.isFreed=false)(d3:fd.scope=sc)(d4:fd.params=params)(d5:fd.defaults = .none)(d6:fd.globals=mainGlobals)(d7:fd.builtins=builtinsNs)(d8:fd.closure=clo.map (λp=>(nmF p.1,ρ p.2)))
  (d9:wK ft fd.body) (d10:(h.push o).CodeRec fd.code fd.qualname):k6 ft clo ρ (h.push o) h.objs.size:=
 ⟨fd,⟨o,aw _ d2,d1⟩,by rw[d3];exact R.scr,by rw[d3];exact R.co,by rw[d3];exact R.gen,by rw[d4];exact R.ar,d5,d6,d7,d8,λp hp=>(R.hc p hp).1,d10,d9⟩
theorem Ch(g:Cok cx)(M:Mk cx){body:List Stmt}{name tq:Str}{Q:Value->Shared->Prop}(R:MkR cx HL s ρ env k i ft clo params sc pos)(hq:tq=zG k)(hb:wK ft (.stmts body))(W:gy cx ρ HL s (.clo ft clo) HL Q):
  wpAny (model pw cx.w) A (makeFunction name tq params (.stmts body) sc env [] [] [] pos pos.line) Q E s:=by
 refine dm M.mg λmg N hB=>?_;have N':=R.S.ns N;have C:=(M.hd k).keeps R.S.keep;have B:=(hB k).keeps R.S.keep;have e1:pos.line=(kH k).1:=aB Prod.fst R.at_;have e2:pos.col=(kH k).2:=aB Prod.snd R.at_;obtain⟨ea,own⟩:=nt M R.S R.hi;rw[ea]at own;subst hq;refine cI (ad _) ?_;rcases own with hP | ⟨c',hP,hrec⟩
 ·refine makeFunction_K R.cl R.ge N' R.cd C hP trivial rfl (GB k) B λc' ctv doc h' tk hx hge' hlt hr htb htk=>?_
  rw[e1,e2]at htb;exact nJ g M R.S R.hi hx ⟨ea,.inr ⟨c',by rw[ea];exact htb,hr⟩⟩ htk (R.made rfl rfl rfl rfl rfl rfl rfl rfl hb (hr.push _)) (λp hp=>(R.hc p hp).2) W
 ·refine makeFunction_hit R.cl R.ge N' R.cd C hP ⟨⟩ (qr _ _ pos R.at_ c') B λctv doc h' tk hk hsz htk=>?_
  exact nJ g M R.S R.hi (λb o _ e=>hk b o e) ⟨ea,.inr ⟨c',by rw[ea];exact hk _ _ hP,hrec.keeps hk⟩⟩ htk (R.made rfl rfl rfl rfl rfl rfl rfl rfl hb ((hrec.keeps hk).push _)) (λp hp=>(R.hc p hp).2) W
theorem B9(g:Cok cx)(M:Mk cx){body:Expr}{name tq:Str}{Q:Value->Shared->Prop}(R:MkR cx HL s ρ env k i ft clo params sc pos)(hq:tq=zG k)(hb:wK ft (.expr body))(W:gy cx ρ HL s (.clo ft clo) HL Q):
  wpAny (model pw cx.w) A (makeFunction name tq params (.expr body) sc env [] [] [] pos pos.line) Q E s:=by
 refine dm M.mg λmg N hB=>?_;have N':=R.S.ns N;have C:=(M.hd k).keeps R.S.keep;have B:=(hB k).keeps R.S.keep;have e1:pos.line=(kH k).1:=aB Prod.fst R.at_;have e2:pos.col=(kH k).2:=aB Prod.snd R.at_;obtain⟨ea,own⟩:=nt M R.S R.hi;rw[ea]at own;subst hq;refine cI (ad _) ?_;rcases own with hP | ⟨c',hP,hrec⟩
 ·refine kla_makeFunction R.cl R.ge N' R.cd C hP trivial rfl (GB k) B λc' ctv h' tk hx hge' hlt hr htb htk=>?_
  rw[e1,e2]at htb;exact nJ g M R.S R.hi hx ⟨ea,.inr ⟨c',by rw[ea];exact htb,hr⟩⟩ htk (R.made rfl rfl rfl rfl rfl rfl rfl rfl hb (hr.push _)) (λp hp=>(R.hc p hp).2) W
 ·refine kla_makeFunctionHit R.cl R.ge N' R.cd C hP ⟨⟩ (qr _ _ pos R.at_ c') B λctv h' tk hk hsz htk=>?_
  exact nJ g M R.S R.hi (λb o _ e=>hk b o e) ⟨ea,.inr ⟨c',by rw[ea];exact hk _ _ hP,hrec.keeps hk⟩⟩ htk (R.made rfl rfl rfl rfl rfl rfl rfl rfl hb ((hrec.keeps hk).push _)) (λp hp=>(R.hc p hp).2) W
end
section
variable {cx:Cx} {d n m:Nat} {H H' O7:TH} {HL:List AO} {r a b v w:AV} {args:List AV} {F:Fns} {c:IE} {z:AF×TH} {P:Prop} {A:Around} {s h:Shared} {ρ:Nat->Addr} {env:Env} {E:Value->Shared->Prop} {i:Nat} {kws:List (Nat×AV)} {clo:List (Nat×Nat)} {ft:FT} {params:Arguments} {sc:Scope} {pos:Pos} {k:Nat} {names:List (Nat×NameKind)} {ps:List Nat}
theorem xN(k:Nat):qB k=(hF k).1:=by
 unfold qB hF;cases(Nat.beq k 0) with
 |true=>rfl
 |false=>cases(Nat.beq k 1)<;>rfl
theorem rK(h:lY c.cd k=true)(R:iZ ρ n c env):env.code = .ref (hF k).1/\env.qual=ij (.ref (hF k).1):=by
 have e:c.cd = .ref (qB k):=dec h;rw[<-xN,<-e];rcases R.code with q | q
 ·rw[q]at e;cases e
 ·exact q
theorem AZ(h:scN sc=some names):sc.isCoroutine=false/\sc.isGenerator=false:=ifE h λq _=>⟨pq (aa (aa q).2).1,pq (aa (aa q).2).2⟩
theorem mkR(z:At cx d c H.L A s ρ env)(hi:gt H i=some (.tab k))(ht:lY c.cd k=true)(hc:g8 c ft.names=some clo)(hs:scN sc=some ft.names)(ha:ju params ft.ps)(hp:(pos.line,pos.col)=kH k):MkR cx H.L s ρ env k i ft clo params sc pos:=
 ⟨z.sr,dA hi,nZ z.en (lh hs) hc,z.en.glob,(rK ht z.en).1,lh hs,(AZ hs).1,(AZ hs).2,ha,hp,(gz z.en _ _ (lh hs).lt hc).1⟩
theorem mkE{kk:AV->R}(h:se k ft c H kk=some z)(w:∀clo,gt H k=some (.tab k)->lY c.cd k=true->g8 c ft.names=some clo->kk (.clo ft clo)=some z->P):P:=
 w6 h λk' hi h=>ifE h λq h=>dq h λclo hc h=>w clo (nb (aa q).1▸hi) (aa q).2 hc h
theorem EvE.lam(M:Mk cx){b:Expr}(hi:gt H 2=some (.tab 2))(ht:lY c.cd 2=true)(hc:g8 c names=some clo)(hs:scN sc=some names)(ha:ju params ps)(hp:(pos.line,pos.col)=kH 2):EvE cx d (.Lambda params b sc pos) c H.L (.clo ⟨ps,[0],names,cvE n b⟩ clo) H.L:=
 ⟨ad _,λ{A s ρ env Q E} z W=>by
  refine kla_eval ?_ (B9 (ft:=⟨ps,[0],names,cvE n b⟩) z.g M (mkR z hi ht hc hs ha hp) ?_ (.inr ⟨rfl,b,n,rfl,rfl⟩) W)
  ·rw[defaultsOf_eq,ha.df,ha.kd];rfl
  ·rw[(rK ht z.en).2];rfl⟩
theorem ExS.def_(M:Mk cx){b:List Stmt}{f:AF}(hk:Nat.ble k 1=true)(hi:gt H k=some (.tab k))(ht:lY c.cd k=true)(hc:g8 c names=some clo)(hs:scN sc=some names)(ha:ju params ps)(hp:(pos.line,pos.col)=kH k)(h2:jD c H 20 (.clo ⟨ps,[],names,cvL (cvS (cvE n) m) b⟩ clo)=some H'):
  ExS cx d (.FunctionDef (nmF 20) params b [] none [] sc none (nmF 20) pos) c H.L .next H'.L:=by
 have ks:=lC (cx:=cx) (by decide) h2;refine⟨aL ks.1.symm,λ{A s ρ env Q E} z W=>?_⟩;have t:=rK ht z.en;refine nestDef_K ha.df ha.kd (ha.ann env) ?_;have hq:qualnameIn env (nmF 20) (nmF 20)=zG k:=by
  have hk2:env.kindOf (nmF 20)=some .local\/env.kindOf (nmF 20)=some .cell:=dq h2 λkd hkd h2=>by
   cases kd with
   | «local»=>exact .inl (z.en.kd _ _ hkd)
   |cell=>exact .inr (z.en.kd _ _ hkd)
   |_=>exact nn h2
  unfold qualnameIn;have:(env.kindOf (nmF 20) == some NameKind.globalExplicit)=false:=by rcases hk2 with e | e<;>rw[e]<;>rfl
  rw[this,t.2];unfold zG;rw[hk];rfl
 exact Ch (ft:=⟨ps,[],names,cvL (cvS (cvE n) m) b⟩) z.g M (mkR z hi ht hc hs ha hp) hq (.inl ⟨rfl,b,n,m,rfl,rfl⟩) λV s' ρ' S' i' E'=>ks.2 z.g S' (z.en.ext E' (ad _)) i' λs'' S'' E''=>W _ s'' ρ' S'' rfl (E'.trans (ad _) E'')
theorem u3{fd:FuncData}(hk:ft.ks=[])(ha:ju fd.params ft.ps)(hd:fd.defaults = .none):ml cx fd ft.ps ft.ks []:=λN o args kws bs hkw h s ρ n Vs Ks _ iV iK=>by
 have e:kws=[]:=by
  rw[hk]at hkw;cases kws with
  |nil=>rfl
  |cons p r=>have:=(aa (aa hkw).1).2;exact fT this
 subst e;have key:∀{ps:List Nat} {args:List AV} {bs:List (Nat×AV)},pN ft.ks [] [] ps args=some bs->args.length=ps.length/\bs=ps.zip args:=λ{ps}=>by
  induction ps with
  |nil=>intro args bs h;exact l0E h λe h=>so h λe2=>by rw[e,<-e2,hk];exact⟨rfl,rfl⟩
  |cons p ps ih=>
   intro args bs h;cases args with
   |nil=>
    have h:ifO (Nat.beq (ps.length+1) ([]:List AV).length) (some ((p::ps).zip []++mW [] ft.ks))=some bs:=h;exact ifE h λq _=>nomatch nb q
   |cons a args=>
    have h:opt (pN ft.ks [] [] ps args) (λr=>some ((p,a)::r))=some bs:=h;exact dq h λr h1 h=>so h λe=>by rw[<-e,(ih h1).2];exact⟨aB Nat.succ (ih h1).1,rfl⟩
 have k:=key h;refine⟨Vs,by rw[k.2,lT k.1];exact iV,?_⟩;rw[k.2,lJ k.1];exact BindsTo.of_eq (AM ha hd (by rw[<-L2.len iV,k.1]))
theorem JR(M:Mk cx):Kp cx (.clo ft clo):=λ{HL ρ s Fv} S i=>by
 refine dz i λa e hc _=>?_;rw[M.clo]at hc;obtain⟨fd,C⟩:=hc;refine dm C.ob λo e1 e2=>?_;rw[e];refine⟨.frame,.inl rfl,(Looks.ld (part:=none) e1).andThen ?_⟩;rw[e2];exact .now
theorem vk(M:Mk cx)(KF:dC cx F){kk:AV->TH->R}(h:(ifO ft.ks.isEmpty (dY (jC F d ft [] .none clo args kws H λv H=>some (.ret v,H)) λf H'=>ifO (Nat.ble H.n H'.n) (kk (gp f) H')))=some z)
  (w:∀v H',Kp cx (.clo ft clo)->dE cx (d+1) (.clo ft clo) args kws H.L v H'.L->kk v H'=some z->P):P:=
 ifE h λhks h=>gx h λf H' hc h=>ifE h λhl h=>w (gp f) H' (JR M) ⟨by rw[TH.len,TH.len];exact leb hl,λu i iV iK W=>by
  refine dz i λa e hclo hlt=>?_;rw[M.clo]at hclo;obtain⟨fd,C⟩:=hclo;have hk:ft.ks=[]:=bp.mp hks;rw[e];rcases C.body with ⟨_,b,n,m,hb,hcv⟩ | ⟨hk',_⟩
  ·refine ic KF hcv (u3 hk C.ar C.df) (.inl rfl) hc λv O7 k1 h1=>?_
   have k2:=sp (P:=λ(f:AF) (H':TH)=>wX cx d fd ft.names b clo args kws H.L (gp f) H'.L) h1 k1;exact wpAny_call (k2.2 u ⟨C.ob,hb,C.co,C.gen,C.glob,C.blt,C.clos,C.sc,λp hp=>⟨C.lt p hp,hlt p hp⟩,C.crec⟩ iV iK W)
  ·rw[hk]at hk';cases hk'⟩ h
end
noncomputable def subst(c:Nat)(z:List Nat)(l:List Nat):List Nat:=l.flatMap (λb=>if b=c then z else [b])
theorem mi(c:Nat)(z x y:List Nat):subst c z (x++y)=subst c z x++subst c z y:=List.flatMap_append ..
theorem jF(c:Nat)(z:List Nat):∀l:List Nat,c ∉ l->subst c z l=l
 | [],_=>rfl
 |a::r,h=>by
  show(if a=c then z else [a])++subst c z r=a::r;rw[aF (λe=>h (by rw[e];exact .head _)),jF c z r (λq=>h (.tail _ q))];rfl
theorem nT(c:Nat)(z:Str):∀(ps:List Str),(∀p∈ps,c ∉ p.cps.toList)->(Str.join z ps).cps.toList=subst c z.cps.toList (Str.join ⟨#[c]⟩ ps).cps.toList
 | [],_=>rfl
 | [p],h=>(jF c _ _ (h p (.head _))).symm
 |p::q::r,h=>by
  have ih:=nT c z (q::r) (λx hx=>h x (.tail _ hx));have e1:∀sep:Str,(Str.join sep (p::q::r)).cps.toList=p.cps.toList++sep.cps.toList++(Str.join sep (q::r)).cps.toList:=λsep=>by
   show((p.cps++sep.cps)++(Str.join sep (q::r)).cps).toList=_;rw[Array.toList_append,Array.toList_append]
  rw[e1,e1,mi,mi,ih,jF c _ _ (h p (.head _))];have:subst c z.cps.toList (⟨#[c]⟩:Str).cps.toList=z.cps.toList:=by
   show(if c=c then z.cps.toList else [c])++[]=_;rw[aI rfl,aU]
  rw[this]
theorem rT(σ:eO)(c:Nat)(t:List Nat):∀{l m:List Nat},u8 c t l=some m->m.map (ph σ)=subst (ph σ c) (t.map (ph σ)) (l.map (ph σ))
 | [],m,h=>so h λe=>by rw[<-e];rfl
 |b::y,m,h=>by
  show _=(if ph σ b=ph σ c then _ else _)++subst _ _ _;exact mI h (λq h=>om h λm' h1 e=>by rw[<-e,bh,rT σ c t h1,aI ((nK σ q).mpr rfl).symm])
   (λq h=>om h λm' h1 e=>by rw[<-e,aM,rT σ c t h1,aF (cL (v4 σ q))];rfl) nn
theorem Dp(σ:eO){c:Nat}{t l m:List Nat}(h:u8 c t l=some m):Txt.replace (rs σ l) (rs σ [c]) (rs σ t)=rs σ m:=l9 (by
 show(Txt.replace (rs σ l) ⟨#[ph σ c]⟩ (rs σ t)).cps.toList=_;rw[StrLaws.replace_one,nT _ _ _ (StrLaws.split_free _ _),StrLaws.join_split,fJ,fJ,fJ,rT σ c t h])
section
variable {cx:Cx} {d n:Nat} {H H' O7 H₂:TH} {HL HL' HM:List AO} {r a b v w:AV} {F:Fns} {c:IE} {z:AF×TH} {P:Prop} {A:Around} {s U4 h:Shared} {ρ V4:Nat->Addr} {env:Env} {E:Value->Shared->Prop} {e o p':Expr} {l y t:List Nat} {k:AV->TH->R} {K:Frag} {x:Nat} {pos ap:Pos}
theorem EvE.strb{q:Str}{kk pp}(hx:q=rs cx.σ l):EvE cx d (.Constant (.str q) kk pp) c HL (.strb l) HL:=
 ⟨ad _,λz W=>by
  rw[eval_Constant];exact wpAny_mkText (hx▸W.now z.g.toGood z.sr (aC _) ⟨_,rfl,bl z.sr.tk0,aD _⟩)⟩
noncomputable def pP(p:PE):Option (List Nat):=match p with
 | .str l=>some l
 |_=>none
theorem vp(h:pP (cvE n e)=some l):∃q kk pp,e = .Constant (.str q) kk pp/\q=rs cx.σ l:=by
 cases n with
 |zero=>exact nn h
 |succ n=>
  revert h;refine gd (M:=λe p=>pP p=some l->∃q kk pp,e = .Constant (.str q) kk pp/\q=rs cx.σ l) ?_ ?_ (λx k p q h=>so h λe=>⟨x,k,p,rfl,e▸iI cx.σ q⟩) ?_ ?_ ?_ ?_ ?_ ?_ ?_ ?_ ?_ ?_ ?_ ?_ ?_ ?_ ?_ ?_ ?_ ?_ ?_ ?_ ?_ ?_ ?_ e<;>intros<;>exact nn (by assumption)
theorem xE{M:PE->R->Prop}{k:List Nat->TH->R}(k1:∀l,M (.str l) (k l H))(k2:∀p,M p (F.ev d p c H λb H=>tX b λl=>k l H)):∀p,M p (evB F d p c H k):=λp=>by cases p<;>first | exact k2 _ | exact k1 _
theorem xt{M:PE->R->Prop}{f:List Nat->R}(k1:∀l,M (.str l) (f l))(k2:∀p,M p none):∀p,M p (match p with | .str r=>f r | _=>none):=λp=>by cases p<;>first | exact k2 _ | exact k1 _
theorem Ke(K:dC cx F){k:List Nat->TH->R}(h:evB F d (cvE n e) c H k=some z)(w:∀l H',EvE cx d e c H.L (.strb l) H'.L->k l H'=some z->P):P:=
 xE (M:=λp x=>pP p=pP (cvE n e)->p=cvE n e->x=some z->P) (λl q _ h=>(vp (cx:=cx) q.symm).elim λq ⟨kk,pp,e1,e2⟩=>w l H (e1▸EvE.strb e2) h)
  (λp _ e h=>K.ev (e▸h) λb O7 k1 h=>C8 h λl e h=>w l O7 (e▸k1) h) _ rfl rfl h
theorem JO(K:dC cx F){k:List Nat->TH->R}(h:evB F d (cvE n e) c H k=some z):dD e=false:=by
 cases q:dD e with
 |false=>rfl
 |true=>rw[s7 q]at h;exact K.no h
theorem yV(k:Nat):Kp cx (.bi k):=λ{HL ρ s Fv} S i=>by rw[show Fv=_ from i];exact⟨.machine,.inr (.inl rfl),.now⟩
theorem Gj(k:Nat):Kp cx (.ty k):=λ{HL ρ s Fv} S i=>by rw[show Fv=_ from i];exact⟨.machine,.inr (.inl rfl),.now⟩
theorem EvE.methJ{y:Nat}{es:List Expr}{J:Shared->(Nat->Addr)->List Value->Prop}{f:AV}{first:List AV}{O6 O7:List AO}(hs:iS o=false)(hline:(ap.endLine == pos.line)=true)(hlen:Nat.blt es.length 20=true)(k0:EvE cx d o c HL a O6)(hm:dX cx d a y O6 f first)
  (k1:Do cx d c O6 (λenv=>spliced (es.map λe=>(false,eval e env))) O7 J) (hst:∀e∈es,dD e=false) (kp:Kp cx f)
  (k3:∀{A s ρ Fv Fs Vs} {Q:Value->Shared->Prop} {E},Un cx d O7 A s ρ->Is cx s ρ O7.length f Fv->IsL cx s ρ O7.length first Fs->J s ρ Vs->gy cx ρ O7 s r O7 Q->wpAny (model pw cx.w) A (call Fv (Fs++Vs) []) Q E s) :
  EvE cx d (.Call (.Attribute o (nmF y) ap) es [] pos) c HL r O7:=by
 refine⟨ae k0.1 k1.1,λ{A s ρ env Q E} z W=>?_⟩;have g:=z.g.toGood;rw[arm_eval_Call,rp hs];refine ab (k0.run z λU U4 V4 V0 T3 N0=>ab (a8 ?_));have hform:methodCallForm (es.length+([]:List Keyword).length) (backTo pos (starEach es env)) (backToKw pos (keywordEach [] env))=true:=by
  rw[gH hst];rw[show backToKw pos (keywordEach [] env)=[] from rfl];unfold methodCallForm;have:=jx hlen;simp only[List.all_map,List.map_nil,List.all_nil,cG,List.isEmpty_nil,Bool.and_true];simp;omega
 have hpos:methodCallPos true o env ap pos=pure pos:=by unfold methodCallPos;simp[hline]
 unfold methodCall;rw[hform];refine ab (aN (hm V0.un T3 λFv Fs U6 ρ₂ P9 T5 iL N7=>ab (cj hpos ?_)));rw[gH hst];refine callWith_of (P:=λh=>∃k,(k=Keeper.frame\/k=Keeper.machine\/k=Keeper.boundFrame)/\Looks (model pw cx.w) h (keeperOf Fv) k) ?_ (λh x=>x) (gQ rfl ?_)
 ·rw[List.any_map];exact Bool.or_eq_false_iff.mpr ⟨di.mpr λx _=>ah,rfl⟩
 have V1:=V0.next P9 N7 (ad _);refine k1.run V1 λVs U7 V5 V2 T8 N9=>wpAny_evalAll_nil ⟨kp V2.sr (T5.ext g N9 k1.1),?_⟩;exact k3 V2.un (T5.ext g N9 k1.1) (IsL.ext g N9 k1.1 iL) T8 (W.on ((N0.trans k0.1 N7).trans k0.1 N9) (ae k0.1 k1.1))
theorem EvE.repl{x:Nat}{rr:List Nat}{q:Str}{kk pp}(hs:iS o=false)(hline:(ap.endLine == pos.line)=true)(hst:dD p'=false)(k0:EvE cx d o c HL (.str t) HM)(k1:EvE cx d p' c HM (.strb [x]) HL')(hq:q=rs cx.σ rr)
  (qq:(Nat.ble rr.length 10&&Nat.ble t.length dn&&no (eM [x] rr))=true) (hl:u8 x rr t=some l):EvE cx d (.Call (.Attribute o (nmF 109) ap) [p',.Constant (.str q) kk pp] [] pos) c HL (.str l) HL':=by
 refine EvE.methJ (J:=λs ρ Vs=>∃tu tz,Vs=[.str (rs cx.σ [x]) tu,.str (rs cx.σ rr) tz]/\tu≠0/\tz≠0/\tu≠tz) hs hline rfl k0 CP ⟨k1.1,λz W=>spliced_cons (k1.run z λV U4 V4 V0 T3 N0=>?_)⟩ (λe he=>?_) (yV _) λ{A s ρ Fv Fs Vs Q E} u iF iL j W=>?_
 ·refine dz T3 λtu e h1 h2=>?_
  refine spliced_cons ?_;rw[eval_Constant];refine wpAny_mkText (spliced_nil ?_);have key:=V0.sr.toks V0.g.toGood (aC _);exact W _ _ V4 key.1 ⟨tu,_,by rw[e,hq],h1,bl V0.sr.tk0,aO h2⟩ (N0.trans k1.1 key.2)
 ·rcases aH.mp he with e | he
  ·rw[e];exact hst
  ·rw[br.mp he];rfl
 ·refine dm (one iL) λT e OA=>?_;refine mN OA λtt i1=>?_
  refine fR j λtu tz e' h1 h2 h3=>?_;rw[show Fv = .builtin (biN 12) from iF,e,e',i1];have hz:(rs cx.σ [x] == rs cx.σ rr)=false:=by
   have:=(aa qq).2;cases g:eM [x] rr with
   |none=>rw[g]at this;exact fT this
   |some b=>rw[g]at this;rw[fF cx.σ g];exact pq this
  refine cI (ad _) (SC.replace h1 h2 h3 hz ?_ λt' k htk=>?_)
  ·rw[dO,dO]
   exact ae (Nat.add_le_add (leb (aa (aa qq).1).2) (Nat.mul_le_mul (bE (leb (aa (aa qq).1).2)) (leb (aa (aa qq).1).1))) (by decide)
  ·rw[Dp cx.σ hl]
   exact W.now u.g.toGood u.sr htk ⟨_,rfl⟩
theorem pL1{α:Type}{g:α->PE}{es:List α}{e:R}{k:PE->PE->R}(h:pL (cvL g es) e k=some z)(w0:es=[]->e=some z->P)(w:∀x r,es=x::r->k (g x) (cvL g r)=some z->P):P:=by
 cases es with | nil=>exact w0 rfl h | cons x r=>exact w x r rfl h
theorem En{f:List Nat->R}{p:PE}(h:(match p with | .str r=>f r | _=>none)=some z)(w:∀r,pP p=some r->f r=some z->P):P:=
 xt (M:=λq x=>q=p->x=some z->P) (λl e h=>w l (e▸rfl) h) (λ_ _=>nn) p rfl h
theorem xB(K:dC cx F){args:List Expr}(hs:iS o=false)(hline:(ap.endLine == pos.line)=true)(h:zh F d (cvE n o) (cvL (cvE n) args) c H k=some z)(w:∀v H',EvE cx d (.Call (.Attribute o (nmF 109) ap) args [] pos) c H.L v H'.L->k v H'=some z->P):P:=
 K.ev h λa O6 k0 h=>dL h λt e h=>pL1 h (λ_=>nn) λp r ea h=>Ke K h λl O7 k1 h'=>l1E h' λx el h'=>pL1 h' (λ_=>nn) λq r' er h'=>pL1 h' (λer' h'=>En h' λrr hr h'=>ifE h' λqq h'=>dq h' λl' hl h'=>
   (vp (cx:=cx) hr).elim λq0 ⟨kk,pp,e1,e2⟩=>w _ O7 (by rw[ea,er,er',e1];exact EvE.repl hs hline (JO K h) (e▸k0) (el▸k1) e2 qq hl) h') λ_ _ _=>nn
theorem ExS.aug{x:Nat}{q:Pos}(hx:x<185)(h0:name c H x=some a)(k1:EvE cx d e c H.L b O7.L)(h2:Fq a b=some v)(h3:jD c O7 x v=some H₂):ExS cx d (.AugAssign (.Name (nmF x) q) .Add e pos) c H.L .next H₂.L:=
 have h4:=lC (cx:=cx) hx h3
 ⟨ae k1.1 (aL h4.1.symm),λ{A s ρ env Q E} z W=>wpAny_AugAssign_Name (FQ h0 hx h3 z.sr z.en λU T0=>k1.run z λV U4 V4 V0 T3 N0=>
  (xm Fu h2:Bin cx d _ a b O7.L v O7.L).2 V0.un (T0.ext z.g.toGood N0 k1.1) T3 λX U6 ρ₂ P9 T5 N7=>h4.2 z.g P9 (V0.en.ext N7 (ad _)) T5 λU7 Q0 N9=>W _ U7 ρ₂ Q0 rfl ((N0.trans k1.1 N7).trans k1.1 N9))⟩
theorem z7(K:dC cx F){x:Nat}{op:Operator}{q:Pos}{k:AF->TH->R}(hx:x<185)(h:GD F d x op (cvE n e) c H k=some z)(w:∀f H',ExS cx d (.AugAssign (.Name (nmF x) q) op e pos) c H.L f H'.L->k f H'=some z->P):P:=
 ifE h λho h=>dq h λa h0 h=>K.ev h λb O7 k1 h=>dq h λv h2 h=>dq h λH₂ h3 h=>w .next H₂ ((dec ho:op = .Add)▸ExS.aug hx h0 k1 h2 h3) h
end
noncomputable def yE{α:Type}(lt:Nat->Nat->Bool)(n:Nat):KasT α->Option α
 | .ret a=>some a
 | .ask i j k=>match Nat.blt i n&&Nat.blt j n && !Nat.beq i j with
  |true=>yE lt n (k (lt i j))
  |false=>none
theorem xh{α:Type}{lt:Nat->Nat->Bool}{n:Nat}{cmp:Nat->Nat->(Bool->Shared->Prop)->Shared->Prop}{Q:α->Shared->Prop}{s:Shared}
  (hc:∀i j (C:Bool->Shared->Prop),i<n->j<n->i≠j->C (lt i j) s->cmp i j C s):∀{t:KasT α} {a:α},yE lt n t=some a->Q a s->t.kasWp cmp Q s
 | .ret a,b,h,q=>by obtain rfl:=ak h;exact q
 | .ask i j k,b,h,q=>by
  unfold yE at h
  split at h
  ·rename_i e
   simp only[bF,cM]at e;obtain⟨⟨e1,e2⟩,e3⟩:=e;refine hc i j _ (by simpa using e1) (by simpa using e2) (λe=>by subst e;simp at e3) ?_;exact xh hc h q
  ·exact nS h
noncomputable def uN(x:Nat):List Nat->List (List Nat)
 | []=>[[x]]
 |y::r=>(x::y::r)::(uN x r).map (y :: ·)
noncomputable def Ah:List Nat->List (List Nat)
 | []=>[[]]
 |x::r=>(Ah r).flatMap (uN x)
theorem oH(x:Nat):∀a b:List Nat,a++x::b∈uN x (a++b)
 | [],[]=>.head _
 | [],y::b=>.head _
 |y::a,b=>.tail _ (List.mem_map_of_mem (oH x a b))
theorem qw:∀{l r:List Nat},r.Perm l->r∈Ah l
 | [],r,h=>by rw[h.eq_nil];exact .head _
 |x::l,r,h=>by
  refine fA (List.append_of_mem (h.mem_iff.mpr (.head _))) λa b OA=>?_;subst OA;have h2:(a++b).Perm l:=(List.perm_cons x).mp (List.perm_middle.symm.trans h);exact List.mem_flatMap.mpr ⟨a++b,qw h2,oH x a b⟩
noncomputable def qI(n:Nat)(r:List Nat):Bool:=match yE (λi j=>Nat.blt (r.getD i 0) (r.getD j 0)) n (kas_sort n) with
 |some p=>(p.toList.map λi=>r.getD i 0) == List.range n&&p.toList.all (λi=>Nat.blt i n)
 |none=>false
noncomputable def Fb(n:Nat):Bool:=(Ah (List.range n)).all (qI n)
theorem Bk:((List.range 5).all λm=>Fb (m+2))=true:=by decide +kernel
theorem AI{n:Nat}(h2:2<=n)(h6:n<=6){r:List Nat}(hr:r.Perm (List.range n)):qI n r=true:=by
 have h:=aA.mp Bk (n - 2) (aT.mpr (Nat.sub_lt_left_of_lt_add h2 (Nat.lt_succ_of_le h6)));rw[Nat.sub_add_cancel h2]at h;exact aA.mp h r (qw hr)
theorem jb{α β:Type}{f:α->β}:∀{m:List α} {l:List β},l.Perm (m.map f)->∃r:List α,r.Perm m/\l=r.map f
 | [],l,h=>⟨[],.nil,h.eq_nil⟩
 |x::m,l,h=>by
  refine fA (List.append_of_mem (h.mem_iff.mpr (.head _))) λa b OA=>?_;subst OA;have h2:(a++b).Perm (m.map f):=(List.perm_cons (f x)).mp (List.perm_middle.symm.trans h);refine dm (jb h2) λr hr e=>?_;refine dx (List.append_eq_map_iff.mp e) λr1 r2 OC e1 e2=>?_;subst OC;exact⟨r1++x::r2,List.perm_middle.trans (hr.cons x),by simp[<-e1,<-e2]⟩
theorem u4(t:SetTable)(es:Array (Int×Value))(h:Int)(x:Value):(layNew t es h x).2.1.led=t.led:=by
 unfold layNew
 split
 ·dsimp only
  unfold SetTable.orStandIn
  split<;>rfl
 ·rfl
theorem rR(t:SetTable)(es:Array (Int×Value))(n:Nat):(relayAll t es n).2.1.led=t.led/\(t.plain=false->(relayAll t es n).2.1.plain=false):=by
 unfold relayAll
 split
 ·rename_i t' order hr
  have hl:t'.led=t.led/\t'.plain=t.plain:=by
   unfold SetTable.relaid SetTable.laid at hr;refine dm (ck.mp hr) λowner _ h2=>?_;cases h2;exact⟨rfl,rfl⟩
  dsimp only
  split
  ·exact⟨hl.1,λe=>hl.2.trans e⟩
  ·exact⟨rfl,λ_=>rfl⟩
 ·exact⟨rfl,λ_=>rfl⟩
section
variable {w:World} {A:Around} {E:Value->Shared->Prop} {s:Shared}
theorem G7{l:List (Str×Tok)}{es:Array (Int×Value)}(h:es.toList=l.map (pC w)):ElemsOf (PySem.strKind pw w) es.toList:=λe he=>by
 rw[h]at he;refine dm (bx.mp he) λp _ OA=>?_;subst OA;exact⟨⟨p.1,ce _ _ _ _,rfl⟩,rfl⟩
theorem la{h:Heap}{a:Addr}{o:Obj}{es:Array (Int×Value)}{ep:Nat}{t:SetTable}{es':Array (Int×Value)}{t':SetTable}{l:List (Str×Tok)}{ks:List Str}(ho:h.get? a=some o)(hx:o.ExactSet)(hd:o.data = .set es ep t)
  (hl:es'.toList=l.map (pC w)) (hp:(l.map (·.1)).Perm ks) (hn:ks.Nodup) (hb:es'.size<scanBound) (hf:t'.fits es'.size=true) (hg:ud w es' t') :
  fB w (h.update a (Obj.putSet es' t')) a ks/\∃o' ,(h.update a (Obj.putSet es' t')).get? a=some o'/\o'.ExactSet/\o'.data = .set es' (ep+1) t':=by
 have e:(h.update a (Obj.putSet es' t')).get? a=some { o with data:=.set es' (ep+1) t'}:=by
  have:=ba (Obj.putSet es' t') ho (by rw[putSet_of es' t' hd];rfl);rw[putSet_of es' t' hd]at this;exact this
 exact⟨⟨_,es',ep+1,t',l,e,⟨hx.1,hx.2.1,hx.2.2⟩,rfl,hl,hp,hn,hb,hf,hg⟩,_,e,⟨hx.1,hx.2.1,hx.2.2⟩,rfl⟩
theorem ub{l:List (Str×Tok)}{m:List (Int×Value)}(h:m.Perm (l.map (pC w))):∃l':List (Str×Tok),m=l'.map (pC w)/\l'.Perm l:=by
 refine dm (jb h) λr hr e=>?_;exact⟨r,e,hr⟩
theorem AX{a:Addr}{ks:List Str}{k:Str}{tk:Tok}{Q:Bool->Shared->Prop}(hS:fB w s.heap a ks)(hroom:ks.length+1<scanBound)
  (h1:k∈ks->Q false s) (h2:k ∉ ks->∀h',Heap.SameBut a s.heap h'->fB w h' a (ks++[k])->Q true { s with heap:=h'}) :
  wpAny (model pw w) A (setAddHashed a (.str k tk) (hashStr w k)) Q E s:=by
 refine BL hS λo es ep t l ho hex hd hl hpm hnd hb hf hg=>?_;have hel:=G7 hl;have hn:es.size=ks.length:=by
  have:=hpm.length_eq;rw[<-be,hl];simpa using this
 have hb1:es.size+1<scanBound:=by rw[hn];exact hroom
 unfold setAddHashed setAddHashedIn;refine aN (ab (bG ho hd hf ?_));dsimp only;rw[byScan_of (knd:=PySem.strKind pw w) rfl hb hel];simp only[↓reduceIte];unfold setAddByScan;refine ab ?_;refine ab (wpAny_rule ?_);refine ab (wpAny_setScan_of (knd:=PySem.strKind pw w) (k:=k) (ce _ _ _ _) ho hd hf hel ?_);have mem_iff:k∈ks↔∃e∈es.toList,(PySem.strKind pw w).is k e.2=true:=by
  rw[<-hpm.mem_iff,hl];constructor
  ·intro hk
   refine dm (bx.mp hk) λp hp OA=>?_;subst OA;exact⟨_,List.mem_map_of_mem hp,ce _ _ _ _⟩
  ·rintro ⟨e,he,hk⟩
   refine dm (bx.mp he) λp hp OC=>?_;subst OC;obtain⟨t,ht⟩:=gZ hk;have:p.1=k:=by
    unfold pC at ht;dsimp only at ht;cases ht;rfl
   rw[<-this];exact List.mem_map_of_mem hp
 cases hr:List.findIdx? (λe=>(PySem.strKind pw w).is k e.2) es.toList with
 |some j=>
  dsimp only;refine dm (List.findIdx?_eq_some_iff_getElem.mp hr) λhj hpj _=>?_;exact af (af (h1 (mem_iff.mpr ⟨es.toList[j],ci hj,hpj⟩)))
 |none=>
  dsimp only;have hk:k ∉ ks:=λhk=>by
   refine dm (mem_iff.mp hk) λe he hp=>?_;have:=List.findIdx?_eq_none_iff.mp hr e he;rw[hp]at this;exact tF this
  have hgw:∀(b:Bool) {U4:Shared} {Q':Unit->Shared->Prop},Q' () U4->wpAny (model pw w) A (match b with | true=>rule "set.scan.the-table-gave-way" | false=>pure ()) Q' E U4:=
   λb U4 Q' hq=>by cases b<;>first | exact af hq | exact wpAny_rule hq
  have hperm:=layNew_perm t es (hashStr w k) (.str k tk);have hfits:=layNew_fits t es (hashStr w k) (.str k tk);have hled:=u4 t es (hashStr w k) (.str k tk);refine KK (⟨_,_,_,_,rfl⟩:∃a b c d,layNew t es (hashStr w k) (.str k tk)=(a,b,c,d)) λes1 t1 wasDummy gave hL=>?_;rw[hL]at hperm hfits hled ⊢;dsimp only at hperm hfits hled ⊢;rw[dj,hl]at hperm;have hperm':es1.toList.Perm ((l++[(k,tk)]).map (pC w)):=by rw[bh];exact hperm
  refine dm (ub hperm') λl1 e1 p1=>?_;have hpk:(l1.map (·.1)).Perm (ks++[k]):=by
   refine(p1.map _).trans ?_;rw[bh];exact hpm.append_right _
  have hnd':(ks++[k]).Nodup:=by
   rw[List.nodup_append];exact⟨hnd,by simp,λa ha b hb e=>by simp at hb;subst hb;subst e;exact hk ha⟩
  have hsz1:es1.size=es.size+1:=by
   rw[<-be,hperm.length_eq,az,<-hl,be];rfl
  have hb1':es1.size<scanBound:=by rw[hsz1];exact hb1
  refine ab (hgw _ ?_);have fin:∀t2:SetTable,t2.fits es1.size=true->t2.led=t.led->t2.plain=false->wpAny (model pw w) A (do
     storeSet a es1 t2
     if (!wasDummy&&t2.tooFull)=true then do
       (match (relayAll t2 es1 (SetTable.grown es1.size)).2.2 with | true=>rule "set.scan.the-table-gave-way" | false=>pure ():Sem Unit)
       storeSet a (relayAll t2 es1 (SetTable.grown es1.size)).1 (relayAll t2 es1 (SetTable.grown es1.size)).2.1
       pure (some true)
      else pure (some true)) (λr s'=>wpAny (model pw w) A (match r with | some added=>pure added | none=>setAddHashedIn a (.str k tk) (hashStr w k) 99999) Q E s') E s:=by
   intro t2 hf2 hl2 hp2;have hg1:ud w es1 t2:=λhb=>⟨by rw[hl2];exact(hg hb).1,.inr hp2⟩;refine sF (la ho hex hd e1 hpk hnd' hb1' hf2 hg1) λq1 OD=>?_;refine dz OD λo' ho' hx' hd'=>?_;have hsb1:=bD s.heap a (Obj.putSet es1 t2);refine ab (wpAny_storeSet_of ho hd ?_ (fits_of_scanBound hb1'))
   split
   ·have hp:=relayAll_perm t2 es1 (SetTable.grown es1.size)
    have hfr:=relayAll_fits t2 es1 (SetTable.grown es1.size);have hlr:=rR t2 es1 (SetTable.grown es1.size);generalize hRl:relayAll t2 es1 (SetTable.grown es1.size)=Rl at hp hfr hlr ⊢;rw[e1]at hp;refine dm (ub hp) λl2 e2 p2=>?_;have hsz2:Rl.1.size=es1.size:=by rw[<-be,hp.length_eq,<-e1,be]
    have hb2:Rl.1.size<scanBound:=by rw[hsz2];exact hb1'
    have hg2:ud w Rl.1 Rl.2.1:=λhb=>⟨by rw[hlr.1,hl2];exact(hg hb).1,.inr (hlr.2 hp2)⟩;refine ab (hgw _ ?_);refine ab (wpAny_storeSet_of ho' hd' ?_ (fits_of_scanBound hb2));obtain⟨q2,_⟩:=la ho' hx' hd' e2 ((p2.map _).trans hpk) hnd' hb2 hfr hg2;exact af (af (h2 hk _ (hsb1.trans (bD _ a _)) q2))
   ·exact af (af (h2 hk _ hsb1 q1))
  have hv:hashByValue 8 (.str k tk)=pure false:=rfl
  split
  ·refine ab ?_
   rw[hv];refine af ?_;exact fin { t1 with plain:=false} (SetTable.fits_plain_off hfits) hled rfl
  ·rename_i hpl
   refine ab (af ?_);simp only[↓reduceIte];exact fin t1 hfits hled (by simpa using hpl)
end
theorem rm{α:Type}{es:Array α}(h:es.size=1):∃e,es=#[e]:=by
 obtain⟨l⟩:=es;cases l with
 |nil=>cases h
 |cons x r=>cases r with
  |nil=>exact⟨x,rfl⟩
  |cons _ _=>cases h
theorem xH(n i:Nat)(h:i<n):List.range n=List.range i++i::List.range' (i+1) (n - i - 1):=by
 rw[List.range_eq_range',List.range_eq_range',show n=i+(1+(n - i - 1)) by rw[Nat.sub_sub,<-bf,cV (Nat.succ_le_of_lt h)],<-List.range'_append_1 (s:=0) (m:=i)];simp;rw[bw 1,List.range'_succ]
theorem Es(n i:Nat)(h:i<n)(f:Nat->Option (Nat×Nat))(h1:f i=some (i,0))(h2:∀j,j<n->j≠i->f j=none):(List.range n).filterMap f=[(i,0)]:=by
 rw[xH n i h,List.filterMap_append,cU,h1];have a1:(List.range i).filterMap f=[]:=by
  rw[List.filterMap_eq_nil_iff];intro j hj;have:=aT.mp hj;exact h2 j (cu this h) (aO this)
 have a2:(List.range' (i+1) (n - i - 1)).filterMap f=[]:=by
  rw[List.filterMap_eq_nil_iff];intro j hj;have:=List.mem_range'_1.mp hj;exact h2 j (av this.2 (by rw[Nat.sub_sub,cV (Nat.succ_le_of_lt h)];exact ad _)) (bl this.1)
 rw[a1,a2];rfl
theorem Ic(mask i:Nat):i<=SetTable.runEnd mask i:=by
 unfold SetTable.runEnd
 split
 ·exact aK _ _
 ·exact ad _
theorem zZ(mask fg mv:Nat)(led plain:Bool)(h:Int):∃t',SetTable.laid mask fg mv led plain #[h]=some (t',#[0])/\t'.place.size=1/\t'.dummies=#[]/\t'.mask=mask/\t'.led=led/\t'.plain=plain:=by
 have hi:SetTable.bits h % (mask+1)<mask+1:=Nat.mod_lt _ (bI _);generalize hj:SetTable.bits h % (mask+1)=i at hi;have hfree:SetTable.layClean.free mask (Array.replicate (mask+1) none) (SetTable.turns mask) i (SetTable.bits h)=some i:=by
  unfold SetTable.turns;rw[show mask+15=(mask+14)+1 by rfl];unfold SetTable.layClean.free;have hr:∃m,SetTable.runEnd mask i+1 - i=m+1:=⟨SetTable.runEnd mask i - i,Nat.sub_add_comm (Ic mask i)⟩;obtain⟨m,hm⟩:=hr;rw[hm,List.range_succ_eq_map,List.find?_cons];have:(((Array.replicate (mask+1) (none:Option Nat)).getD (i+0) (some 0)).isNone)=true:=by
   simp[Array.getD,hi]
  rw[this];rfl
 have hcl:SetTable.layClean mask #[h]=some ((Array.replicate (mask+1) (none:Option Nat)).setIfInBounds i (some 0)):=by
  unfold SetTable.layClean;rw[show(#[h]:Array Int)=[h].toArray from rfl,List.foldl_toArray];simp[hj,hfree]
 unfold SetTable.laid;rw[hcl];have hlive:(List.range (mask+1)).filterMap (λj=>(((Array.replicate (mask+1) (none:Option Nat)).setIfInBounds i (some 0)).getD j none).map (j,·))=[(i,0)]:=by
  refine Es _ _ hi _ ?_ λj hj' hne=>?_
  ·simp[Array.getD,hi]
  ·simp[Array.getD,hj',Array.getElem_setIfInBounds,cL hne]
 simp only[Option.bind_eq_bind,Option.bind_some,hlive];exact⟨_,rfl,rfl,rfl,rfl,rfl,rfl⟩
theorem CZ:∀n,n<200->SetTable.sizeAbove n<=512/\8<=SetTable.sizeAbove n:=by decide +kernel
section
variable {w:World} {A:Around} {E:Value->Shared->Prop} {s:Shared}
theorem uB{a:Addr}{k:Str}{m:Nat}{Q:Unit->Shared->Prop}(hS:fB w s.heap a [k])(hm:m<=90)(h:∀h',Heap.SameBut a s.heap h'->fB w h' a [k]->Q () { s with heap:=h'}):wpAny (model pw w) A (setRoomFor a m) Q E s:=by
 have hS':=hS;refine BL hS λo es ep t l ho hex hd hl hpm hnd hb hf hg=>?_;have hs1:es.size=1:=by
  have:=hpm.length_eq;rw[<-be,hl];simpa using this
 obtain⟨e0,rfl⟩:=rm hs1;unfold setRoomFor;refine ab (bG ho hd hf ?_);dsimp only;unfold SetTable.roomFor
 split
 ·rename_i wanted hw
  split at hw
  case isFalse=>exact nS hw
  obtain rfl:=ak hw;unfold setRelay;refine ab (bG ho hd hf ?_);dsimp only;have hpl:t.place.size=1:=by
   simp only[SetTable.fits,bF,bZ]at hf;exact hf.1
  have hw2:(t.place.size+m) * 2<200:=by rw[hpl];exact aJ (Nat.mul_le_mul_right 2 (bO hm 1)) (by decide)
  obtain⟨b1,b2⟩:=CZ _ hw2;rw[aF (bJ.mpr (ae b1 (by rw[sizeLine_eq];decide)))];refine nW (zZ (SetTable.sizeAbove ((t.place.size+m) * 2) - 1) t.finger (t.movedTo (SetTable.sizeAbove ((t.place.size+m) * 2) - 1)) t.led t.plain e0.1) λt' r1 r2 r3 r4 r5 r6=>?_;have hrel:t.relaid ((#[e0]:Array (Int×Value)).map (·.1)) ((t.place.size+m) * 2)=some (t',#[0]):=by
   have:((#[e0]:Array (Int×Value)).map (·.1))=#[e0.1]:=by simp
   rw[this];exact r1
  rw[hrel];refine ab (cj (show _=pure ((#[e0]:Array (Int×Value)),t') from by rfl) ?_);have hf':t'.fits (#[e0]:Array (Int×Value)).size=true:=by
   simp only[SetTable.fits,SetTable.fill,bF,bZ,aR,r2,r3,r4];refine⟨rfl,?_⟩;exact Nat.le_sub_of_add_le (ae (by decide) b2)
  have hg':ud w #[e0] t':=λhb=>⟨by rw[r5];exact(hg hb).1,.inl (ad _)⟩;obtain⟨q,_⟩:=la ho hex hd hl hpm hnd hb hf' hg';exact wpAny_storeSet_of ho hd (h _ (bD _ a _) q) (fits_of_scanBound hb)
 ·exact af (h _ (Heap.SameBut.refl _ _) hS')
end
noncomputable def fY(ks:List Str):List Str->List Str
 | []=>ks
 |k::r=>fY (if k∈ks then ks else ks++[k]) r
theorem nH:∀(l ks:List Str),l.Nodup->fY ks l=ks++l.filter (λk=>decide (k ∉ ks))
 | [],ks,_=>by simp[fY]
 |k::r,ks,h=>by
  obtain⟨h1,h2⟩:=bu.mp h;unfold fY
  by_cases hk:k∈ks
  ·rw[aI hk,nH r ks h2,List.filter_cons_of_neg (by simpa using hk)]
  ·rw[aF hk,nH r _ h2,List.filter_cons_of_pos (by simpa using hk),aZ]
   congr 1;show k::_=k::_;congr 1;refine List.filter_congr λx hx=>?_;have:x≠k:=λe=>h1 (e▸hx);simp[this]
theorem ur:∀(l ks:List Str),(fY ks l).length<=ks.length+l.length
 | [],ks=>ad _
 |k::r,ks=>by
  unfold fY;have:=ur r (if k∈ks then ks else ks++[k]);have h2:(if k∈ks then ks else ks++[k]).length<=ks.length+1:=by split<;>simp
  exact ae this (ae (cE h2 _) (aL (by rw[a0,bf,bw 1])))
theorem mO:∀(l m ks:List Str),fY ks (l++m)=fY (fY ks l) m
 | [],m,ks=>rfl
 |k::r,m,ks=>by
  show fY (if k∈ks then ks else ks++[k]) (r++m)=fY (fY (if k∈ks then ks else ks++[k]) r) m;exact mO r m _
theorem tI(σ:eO):∀{l ks ks':List (List Nat)},BA ks l=some ks'->ks'.map (rs σ)=fY (ks.map (rs σ)) (l.map (rs σ))
 | [],ks,ks',h=>by obtain rfl:=ak h;rfl
 |x::r,ks,ks',h=>dq h λb h3 h2=>by
  have hb:=rH σ h3;rw[tI σ h2];show fY ((ifB b ks (ks++[x])).map (rs σ)) _=fY (if rs σ x∈ks.map (rs σ) then ks.map (rs σ) else ks.map (rs σ)++[rs σ x]) _;congr 1;cases b with
  |true=>rw[aI (de hb)];rfl
  |false=>rw[aF (of_decide_eq_false hb)];exact bh
section
variable {w:World} {A:Around} {E:Value->Shared->Prop} {s:Shared}
theorem fB.perm{h:Heap}{a:Addr}{ks ks':List Str}(x:fB w h a ks)(p:ks.Perm ks'):fB w h a ks':=by
 refine Mz x λo es ep t l e1 e2 e3 e4 e5 e6 r=>?_;exact⟨o,es,ep,t,l,e1,e2,e3,e4,e5.trans p,p.nodup_iff.mp e6,r⟩
theorem fB.at{h h':Heap}{a:Addr}{ks:List Str}(x:fB w h a ks)(k:∀o,h.get? a=some o->h'.get? a=some o):fB w h' a ks:=by
 refine Bb x λo es ep t l e1 r=>?_;exact⟨o,es,ep,t,l,k _ e1,r⟩
theorem Aa{Q:Value->Shared->Prop} (h:∀t,(∀a',(s.heap.push { cls:=.type "set",dict:=none,data:=.set #[] 0 t}).get? s.heap.objs.size=some a'->fB w (s.heap.push { cls:=.type "set",dict:=none,data:=.set #[] 0 t}) s.heap.objs.size [])->
   Q (.ref s.heap.objs.size) { s with heap:=s.heap.push { cls:=.type "set",dict:=none,data:=.set #[] 0 t}}) :
  wpAny (model pw w) A (newSet (.type "set")) Q E s:=by
 unfold newSet setsByText;refine ab (ab (ch (af ?_)));dsimp only;simp only[newObj];refine ab (wpAny_alloc (af (h _ λ_ _=>?_)));refine⟨_,#[],0,_,[],aw _ rfl,⟨rfl,rfl,rfl⟩,rfl,rfl,.refl _,List.nodup_nil,by decide,by rfl,λhb=>⟨?_,.inl (bj _)⟩⟩;show(!w.params.followText "set-order")=true;have:w.params.followText "set-order"=false:=hb;rw[this];rfl
theorem tR{a:Addr}{ks:List Str}{k:Str}{tk:Tok}{Q:Bool->Shared->Prop}(hS:fB w s.heap a ks)(hroom:ks.length+1<scanBound)
  (h:∀b h',Heap.SameBut a s.heap h'->fB w h' a (fY ks [k])->Q b { s with heap:=h'}) :
  wpAny (model pw w) A (setAddHashed a (.str k tk) (hashStr w k)) Q E s:=by
 refine AX hS hroom (λhk=>?_) λhk h' hs hS'=>?_
 ·refine h false s.heap (Heap.SameBut.refl _ _) ?_
  show fB w s.heap a (if k∈ks then ks else ks++[k]);rw[aI hk];exact hS
 ·refine h true h' hs ?_
  show fB w h' a (if k∈ks then ks else ks++[k]);rw[aF hk];exact hS'
theorem p9{a:Addr}{ks:List Str}{k:Str}{tk:Tok}{Q:Bool->Shared->Prop}(hS:fB w s.heap a ks)(hroom:ks.length+1<scanBound)
  (h:∀b h' t,s.toks<=t->Heap.SameBut a s.heap h'->fB w h' a (fY ks [k])->Q b { s with heap:=h',toks:=t}):wpAny (model pw w) A (setAdd a (.str k tk)) Q E s:=by
 unfold setAdd;refine aN (ab ((PySem.strKind pw w).pyHash (k:=k) (ce _ _ _ _) ?_));exact tR (s:={ s with toks:=s.toks+1}) hS hroom λb h' hs hS'=>h b h' _ (aC _) hs hS'
end
section
variable {w:World} {A:Around} {E:Value->Shared->Prop} {s:Shared}
theorem qm(k0:Str)(l:List Str)(i:Nat)(k:Str)(h:l[i]? = some k):fY (fY [k0] (l.take i)) [k]=fY [k0] (l.take (i+1)):=by
 rw[<-mO];congr 1;rw[List.take_add_one,h];rfl
theorem vX(k0:Str)(l:List Str)(i:Nat)(h:l.length<=90):(fY [k0] (l.take i)).length+1<scanBound:=by
 have:=ur (l.take i) [k0];have h2:(l.take i).length<=l.length:=(List.take_sublist i l).length_le;exact aJ (bE (ae this (bO (ae h2 h) _))) (by show 1+90+1<4096;decide)
theorem zq{es:List DictEntry}{kvs:List (Str×Value)}(hp:Pairs (PySem.strKind pw w) es kvs)(hk:∀e∈es,∃k,(PySem.strKind pw w).is k e.key=true/\e.hash=(PySem.strKind pw w).hash k):∀{i:Nat} {k:Str} {v:Value},kvs[i]? = some (k,v)->∃e t,es[i]? = some e/\e.key = .str k t/\e.hash=hashStr w k:=by
 induction hp with
 |nil=>intro i k v h;simp at h
 | @cons e kv es kvs h1 h2 _ ih=>
  intro i k v h;cases i with
  |zero=>
   simp at h;subst h;obtain⟨t,ht⟩:=gZ h1;refine dm (hk e (.head _)) λk' hk' hh=>?_;obtain⟨t',ht'⟩:=gZ hk';rw[ht]at ht';cases ht';exact⟨e,t,rfl,ht,hh⟩
  |succ i=>exact ih (λe he=>hk e (.tail _ he)) (by simpa using h)
theorem tj{S I D:Addr}{kvs:List (Str×Value)}{ep:Nat}{k0:Str}{R:Result->Shared->Prop}(hh:A.handled=none)(hSD:S≠D)(hSI:S≠I)(hDI:D≠I)(hlen:kvs.length<=90):∀(m i:Nat) (s:Shared),i+m=kvs.length->s.heap.IsKeyIter I D i kvs.length ep->s.heap.DictAt (PySem.strKind pw w) D kvs ep->
  fB w s.heap S (fY [k0] ((kvs.map (·.1)).take i))->(∀h' t,s.toks<=t->(∀b o,b≠S->b≠I->s.heap.get? b=some o->h'.get? b=some o)->fB w h' S (fY [k0] (kvs.map (·.1)))->R (.ok (.ret .none)) { s with heap:=h',toks:=t})->
  codeAny (model pw w) A (.builtin "set.update.loop" ⟨[.ref S,.ref I],[]⟩) R s:=by
 have W:=Walks.dictKeys (prog:=pw) (w:=w) (knd:=PySem.strKind pw w) (A:=A.in1) hh I D hDI kvs ep;intro m
 induction m with
 |zero=>
  intro i s hi hit hD hS hR;have:i=kvs.length:=hi;subst this;refine cr F.entry_set_update_loop ?_;rw[b0 F.plain_set_update_loop _];show wpAny _ A.in1 (pyNext (.ref I) >>= _) _ _ s;refine ab (cI (ad _) (W.done s _ _ ⟨hit,hD⟩ λh' tk hk htk=>?_));show wpAny _ A.in1 (ret Value.none) _ _ _;have e:(kvs.map (·.1)).take kvs.length=kvs.map (·.1):=b8 (by simp);rw[e]at hS;exact af (hR h' tk htk (λb o hb hbI e=>hk b o (by simpa using hbI) e) (hS.at λo e=>hk S o (by simpa using hSI) e))
 |succ m ih=>
  intro i s hi hit hD hS hR;have hlt:i<kvs.length:=hi▸bt (bI m);refine cr F.entry_set_update_loop ?_;rw[b0 F.plain_set_update_loop _];show wpAny _ A.in1 (pyNext (.ref I) >>= _) _ _ s;refine ab (cI (ad _) (W.item i s _ _ hlt ⟨hit,hD⟩ λv h' tk hP hst hk htk=>?_));refine kK hP λk x hkx hv=>?_;obtain⟨t,rfl⟩:=gZ hv;have hS':fB w h' S (fY [k0] ((kvs.map (·.1)).take i)):=hS.at λo e=>hk S o (by simpa using hSI) e;show wpAny _ A.in1 (holding [Value.str k t] (setAdd S (.str k t)) >>= _) _ _ _;refine ab (aN ?_);refine p9 (s:={ s with heap:=h',toks:=tk}) hS' (vX _ _ _ (by simpa using hlen)) λb h2 t2 ht2 hs2 hS2=>?_;rw[qm _ _ _ _ (by rw[aP,hkx];rfl)]at hS2;refine af ⟨plainId_quiet F.plain_set_update_loop _,ih (i+1) _ ((Nat.succ_add i m).trans hi) (hst.1.at λo e=>(hs2.2 I (cL hSI)).trans e) (hst.2.at' λo e=>(hs2.2 D (cL hSD)).trans e) hS2 λh3 t3 ht3 hk3 hS3=>?_⟩;refine hR h3 t3 (ae htk (ae ht2 ht3)) (λb o hb hbI e=>hk3 b o hb hbI ((hs2.2 b hb).trans (hk b o (by simpa using hbI) e))) hS3
theorem nr:isSubtype (.type "dict") (.type "frozenset")=pure false:=by rw[cY];kernel_rfl
theorem yJ{S D:Addr}{kvs:List (Str×Value)}{ep:Nat}{k0:Str}{Q:Unit->Shared->Prop}(hh:A.handled=none)(hd:(D == sysModules)=false)(hSD:S≠D)(hlen:kvs.length<=90)(hS:fB w s.heap S [k0])(hD:s.heap.DictAt (PySem.strKind pw w) D kvs ep)
  (h:∀h' t,s.toks<=t->(∀b o,b≠S->s.heap.get? b=some o->h'.get? b=some o)->fB w h' S (fY [k0] (kvs.map (·.1)))->Q () { s with heap:=h',toks:=t}):wpAny (model pw w) A (setDisplayStar S (.ref D)) Q E s:=by
 unfold setDisplayStar;have hT:s.TypeIs (.ref D) "dict":=hD.dictOf.typeIs;refine ab (wpAny_isInstance hT F.sub_dict_set ?_);simp only[aX,cm];refine ab (wpAny_isInstance hT nr ?_);refine ab (ch ?_);dsimp only;cases hb:(model pw w).w.params.followText "set-display-star-reads-storage" with
 |false=>
  simp only[aX,cm];refine ab (wpAny_typeOf hT ?_);simp only[beq_self_eq_true,if_true];refine ab (wpAny_rule ?_);simp only[hd,aX,cm];refine wq (id hD) λo es ho hx hde hko hpr hnd=>?_;refine ab (wpAny_dictEpoch ho hde ?_);refine ab (wpAny_dictEntries ho hde ?_);have hsz:es.size=kvs.length:=by have:=hpr.length;rw[<-be];exact this
  refine ab (uB hS (by rw[hsz];exact hlen) λh1 hs1 hS1=>?_);have loop:∀(m i:Nat) (s:Shared),i+m=kvs.length->s.heap.get? D=some o->fB w s.heap S (fY [k0] ((kvs.map (·.1)).take i))->∀{Q:Unit->Shared->Prop} {body:Nat->PUnit->Sem (ForInStep PUnit)},(∀i s (Q':ForInStep PUnit->Shared->Prop) e,s.heap.get? D=some o->es[i]? = some e->(wpAny (model pw w) A (setAddHashed S e.key e.hash) (λ_ s'=>s'.heap.get? D=some o/\Q' (.yield ⟨⟩) s') E s)->wpAny (model pw w) A (body i ⟨⟩) Q' E s)->
    (∀h' t,s.toks<=t->(∀b o,b≠S->s.heap.get? b=some o->h'.get? b=some o)->fB w h' S (fY [k0] (kvs.map (·.1)))->Q () { s with heap:=h',toks:=t})->wpAny (model pw w) A (forIn (List.range' i m) PUnit.unit body) (λ_ s'=>Q () s') E s:=by
   intro m
   induction m with
   |zero=>
    intro i s hi hDo hS Q body hb hQ;have:i=kvs.length:=hi;subst this;have e:(kvs.map (·.1)).take kvs.length=kvs.map (·.1):=b8 (by simp);rw[e]at hS;rw[List.range'_zero,cX];exact af (hQ s.heap s.toks (ad _) (λ_ _ _ e=>e) hS)
   |succ m ih=>
    intro i s hi hDo hS Q body hb hQ;have hlt:i<kvs.length:=hi▸bt (bI m);obtain⟨⟨k,v⟩,hkv⟩:∃p,kvs[i]? = some p:=⟨_,au hlt⟩;refine dx (zq hpr (λe he=>hko e (Array.mem_toList_iff.mp he)) hkv) λe t he hek heh=>?_;rw[List.range'_succ,bL];refine ab (hb i s _ e hDo (by simpa using he) ?_);rw[hek,heh];refine tR hS (vX _ _ _ (by simpa using hlen)) λb h2 hs2 hS2=>⟨(hs2.2 D (cL hSD)).trans hDo,?_⟩;rw[qm _ _ _ _ (by rw[aP,hkv];rfl)]at hS2;dsimp only;refine ih (i+1) _ ((Nat.succ_add i m).trans hi) ((hs2.2 D (cL hSD)).trans hDo) hS2 hb λh3 t3 ht3 hk3 hS3=>?_;exact hQ h3 t3 ht3 (λb o hb e=>hk3 b o hb ((hs2.2 b hb).trans e)) hS3
  rw[Std.Legacy.Range.forIn_eq_forIn_range'];simp only[Std.Legacy.Range.size,Nat.sub_zero,Nat.div_one,Nat.add_sub_cancel,hsz];refine ab (loop kvs.length 0 { s with heap:=h1} (aY _) ((hs1.2 D (cL hSD)).trans ho) (by simpa [fY] using hS1) (Q:=λ_ s'=>wpAny (model pw w) A (pure ()) Q E s') (λi s Q' e hDo he hput=>?_) λh' t ht hk hS2=>?_)
  ·refine ab (wpAny_dictEntries hDo hde ?_)
   rw[he];dsimp only;refine ab (aN (ab (bq hput (λ_ s' hq=>af ?_) λ_ _ x=>x)));obtain⟨hDo',hq⟩:=hq;refine ab (wpAny_dictEpoch hDo' hde ?_);simp only[bQ,aX,cm];exact af hq
  ·exact af (h h' t ht (λb o hb e=>hk b o hb ((hs1.2 b hb).trans e)) hS2)
 |true=>
  simp only[if_true];refine ab (wpAny_pyIter_dict hd hD ?_);have hIS:S≠s.heap.objs.size:=by
   refine Bb hS λo es ep' t l ho _=>?_;exact aO (bk ho)
  have hDI:D≠s.heap.objs.size:=aO hD.lt_size;refine ab (wpAny_runValue (tj (kvs:=kvs) (ep:=ep) (k0:=k0) hh hSD hIS hDI hlen kvs.length 0 _ (aY _) ⟨_,aw _ rfl,rfl,rfl⟩ (hD.push _) ?_ λh' t ht hk hS'=>?_))
  ·exact fB.at (by simpa [fY] using hS) λo e=>am _ e
  ·exact af (h h' t ht (λb o hb e=>hk b o hb (aO (bk e)) (am _ e)) hS')
end
theorem dS:Slot "set_iterator" "__next__" "set_iterator.__next__":=
 .of (owner:="set_iterator") (n:="__next__") (by rw[cf,bA];kernel_rfl) (by decide +kernel) (by decide +kernel) (by decide +kernel)
  (by first | exact .inl (by decide +kernel) | exact .inr (by decide +kernel)) (by rw[cY];kernel_rfl)
theorem fX:entryFor table "set_iterator.__next__"=some Builtin.«set_iterator.__next__»:=entryFor_of_tree (by kernel_rfl)
theorem gj(a:Value):argsOk "set_iterator.__next__" ⟨[a],[]⟩:=by unfold argsOk;kernel_rfl
theorem rl:entryFor table "set.__iter__"=some Builtin.«frozenset.__iter__»:=
 entryFor_alias (id':="frozenset.__iter__") (by kernel_rfl) rfl (by decide +kernel) (by kernel_rfl)
theorem k9{α:Type}:∀(l:List α) (i:Nat) (x:α),l[i]? = some x->(x::l.eraseIdx i).Perm l
 | [],i,x,h=>by simp at h
 |y::r,0,x,h=>by simp at h;subst h;exact .refl _
 |y::r,i+1,x,h=>by
  rw[List.eraseIdx_cons_succ];exact(List.Perm.swap _ _ _).trans ((k9 r i x (by simpa using h)).cons y)
theorem wO{α:Type}(next:Nat->Nat):∀(f k:Nat) (l:List α) (out:Array α),l.length<=f->(pickOrder.go next f k l out).toList.Perm (out.toList++l)
 |0,k,l,out,h=>by
  have:l=[]:=List.length_eq_zero_iff.mp (by omega);subst this;unfold pickOrder.go;simp
 |f+1,k,l,out,h=>by
  unfold pickOrder.go;cases l with
  |nil=>simp
  |cons y r=>
   have hi:next k % (y::r).length<(y::r).length:=Nat.mod_lt _ (by simp);have hx:=au hi;rw[hx];dsimp only;have hp:=k9 _ _ _ hx;have hl:((y::r).eraseIdx (next k % (y::r).length)).length<=f:=by
    have:=hp.length_eq;simp at this h ⊢;omega
   refine(wO next f (k+1) _ _ hl).trans ?_;rw[dj,aZ];exact hp.append_left _
theorem qo{α:Type}(next:Nat->Nat)(es:Array α):(pickOrder next es).toList.Perm es.toList:=by
 unfold pickOrder;have:=wO next es.size 0 es.toList #[] (by simp)
 simpa using this
section
variable {w:World} {A:Around} {E:Value->Shared->Prop}
theorem wL{α:Type}:∀(n:Nat) (xs:List α) (s:Shared) (Q:List α->Shared->Prop),xs.length=n->(∀ys dr,ys.Perm xs->Q ys { s with drawn:=dr})->wpAny (model pw w) A (drawOrder n xs) Q E s
 |0,xs,s,Q,h,hQ=>by
  have:xs=[]:=List.length_eq_zero_iff.mp h;subst this;exact af (hQ [] s.drawn (.refl _))
 |n+1,[],s,Q,h,hQ=>by simp at h
 |n+1,x::r,s,Q,h,hQ=>by
  unfold drawOrder;have hch:∀{Q':Nat->Shared->Prop},(∀i dr,i<(x::r).length->Q' i { s with drawn:=dr})->wpAny (model pw w) A (choose .order (x::r).length) Q' E s:=by
   intro Q' h' Γ p hΓ;show Sem.wp _ Γ (Sem.choose .order (x::r).length .pure) _ _ p s;rw[Sem.wp_choose];exact⟨by simp,h' _ _ (Nat.mod_lt _ (by simp))⟩
  refine ab (hch λi dr hi=>?_);have hx:=au hi;rw[hx];dsimp only;have hp:=k9 _ _ _ hx;have hl:((x::r).eraseIdx i).length=n:=Nat.succ.inj (hp.length_eq.trans h);refine ab (wL n _ _ _ hl λys dr' hys=>af (hQ _ _ ((hys.cons _).trans hp)))
end
section
variable {w:World} {A:Around} {E:Value->Shared->Prop} {s:Shared}
noncomputable def ix(h:Heap)(it:Addr)(first:Value)(i:Nat)(S:Addr)(n ep:Nat):Prop:=
 ∃o,h.get? it=some o/\o.cls = .type "set_iterator"/\o.data = .fields #[first,.int i 0,.ref S,.int n 0,.int ep 0]
theorem ix.typeIs{h:Heap}{it:Addr}{first:Value}{i n ep:Nat}{S:Addr}{g d t os}(x:ix h it first i S n ep):(⟨h,g,d,t,os⟩:Shared).TypeIs (.ref it) "set_iterator":=
 let ⟨o,e,c,_⟩:=x;⟨o,e,c⟩
theorem jE{it S:Addr}{i n ep slot:Nat}{o:Obj}{es:Array (Int×Value)}{t:SetTable}{Q:Option Value->Shared->Prop}{x:Value}{nx:Nat}
  (hi:ix s.heap it (.int slot 0) i S n ep) (ho:s.heap.get? S=some o) (hd:o.data = .set es ep t) (hf:t.fits es.size=true) (hn:es.size=n)
  (hN:∀{Q':Option (Value×Nat)->Shared->Prop} {A:Around} {E:Value->Shared->Prop},Q' (some (x,nx)) s->wpAny (model pw w) A (setNext S slot i ep) Q' E s)
  (hQ:∀h',ix h' it (.int nx 0) (i+1) S n ep->Heap.SameBut it s.heap h'->Q (some x) { s with heap:=h'}):wpAny (model pw w) A (pyNext (.ref it)) Q E s:=by
 refine dz (id hi) λoi hoi hci hdi=>?_;unfold pyNext;refine ab (wpAny_attempt (cR (name:=Str.ofString "__next__") hi.typeIs dS
  (cg dS hi.typeIs fX ?_ (gj _))))
 unfold Builtin.«set_iterator.__next__»;refine ab (af ?_);refine ab (wpAny_fieldsOf hoi hdi ?_);show wpAny _ _ (setEntries S >>= _) _ _ s;unfold setEntries;refine ab (ab (bG ho hd hf (af ?_)));dsimp only;rw[aF (by rw[hn];simp)];simp only[bv];refine ab (hN ?_);dsimp only;refine ab (wpAny_setField hoi hdi (by simp) ?_);have ho2:=ba (Obj.mapFields (·.setIfInBounds 0 (rawInt (nx:Int)))) hoi (Obj.isFreed_of_fields (bN hdi _));refine ab (wpAny_setField ho2 (bN hdi _) (by simp) ?_);refine af ⟨_,rfl,af (hQ _ ⟨_,ba _ ho2 (Obj.isFreed_of_fields (bN (bN hdi _) _)),(Obj.cls_mapFields ..).trans ((Obj.cls_mapFields ..).trans hci),?_⟩ ?_)⟩
 ·rw[bN (bN hdi _)]
  simp[rawInt]
 ·exact(bD ..).trans (bD ..)
theorem qi{Q:Option Value->Shared->Prop}{s:Shared}(hh:A.handled=none)(hQ:∀h',(∀b o,s.heap.get? b=some o->h'.get? b=some o)->Q none { s with heap:=h'}):
  wpAny (model pw w) A.in1 (newExc (.type "StopIteration") [] >>= raiseNew) (λfin s'=>∃v,fin=Fin.done (Flow.ret v)/\wpAny (model pw w) A (pure (some v)) Q E s') (λe s'=>
     wpAny (model pw w) A (do
       let __do_lift <-isInstance e (Value.type "StopIteration")
       if __do_lift=true then pure none else throw e) Q E s') s:=by
 refine ab ?_;simp only[newExc,newTuple];refine ab (cq ?_ (by size_fits));refine ab (m:=firstArgMember _ _) (cj (a:=Value.none) (by first | rfl | (simp only[firstArgMember];rfl)) ?_);refine cq ?_ (by size_fits);simp only[raiseNew];refine ab (wpAny_handled ?_);rw[show A.in1.handled=none from hh];refine ab (af (wpAny_throw ?_));refine ab (wpAny_isInstance (T:="StopIteration") (b:=true) ⟨_,aw _ rfl,rfl⟩ isSubtype_stop ?_);exact af (hQ _ λb o e=>am _ (am _ e))
theorem kT{it S:Addr}{i n ep slot:Nat}{o:Obj}{es:Array (Int×Value)}{t:SetTable}{Q:Option Value->Shared->Prop}(hh:A.handled=none)
  (hi:ix s.heap it (.int slot 0) i S n ep) (ho:s.heap.get? S=some o) (hd:o.data = .set es ep t) (hf:t.fits es.size=true) (hn:es.size=n)
  (hN:∀{Q':Option (Value×Nat)->Shared->Prop} {A:Around} {E:Value->Shared->Prop},Q' none s->wpAny (model pw w) A (setNext S slot i ep) Q' E s)
  (hQ:∀h',(∀b o,b≠it->s.heap.get? b=some o->h'.get? b=some o)->Q none { s with heap:=h'}):wpAny (model pw w) A (pyNext (.ref it)) Q E s:=by
 refine dz (id hi) λoi hoi hci hdi=>?_;unfold pyNext;refine ab (wpAny_attempt (cR (name:=Str.ofString "__next__") hi.typeIs dS
  (cg dS hi.typeIs fX ?_ (gj _))))
 unfold Builtin.«set_iterator.__next__»;refine ab (af ?_);refine ab (wpAny_fieldsOf hoi hdi ?_);show wpAny _ _ (setEntries S >>= _) _ _ s;unfold setEntries;refine ab (ab (bG ho hd hf (af ?_)));dsimp only;rw[aF (by rw[hn];simp)];simp only[bv];refine ab (hN ?_);dsimp only;refine ab (wpAny_setField hoi hdi (by simp) ?_);exact qi hh λh' hk=>hQ h' λb o hb e=>hk b o ((b9 _ _ (cL hb)).trans e)
theorem nj{it S T:Addr}{i n ep p:Nat}{o:Obj}{es:Array (Int×Value)}{t:SetTable}{Q:Option Value->Shared->Prop}{x:Value}{hsh:Int}{ps:List Nat}{eT:Nat}
  (hi:ix s.heap it (.ref T) i S n ep) (hT:s.heap.get? T=some (j7 (ps.map λ(j:Nat)=>rawInt (j:Int)).toArray eT)) (ho:s.heap.get? S=some o) (hd:o.data = .set es ep t) (hf:t.fits es.size=true) (hn:es.size=n)
  (hp:ps[i]? = some p) (hx:es[p]? = some (hsh,x))
  (hQ:∀h',ix h' it (.ref T) (i+1) S n ep->Heap.SameBut it s.heap h'->Q (some x) { s with heap:=h'}):wpAny (model pw w) A (pyNext (.ref it)) Q E s:=by
 refine dz (id hi) λoi hoi hci hdi=>?_;unfold pyNext;refine ab (wpAny_attempt (cR (name:=Str.ofString "__next__") hi.typeIs dS
  (cg dS hi.typeIs fX ?_ (gj _))))
 unfold Builtin.«set_iterator.__next__»;refine ab (af ?_);refine ab (wpAny_fieldsOf hoi hdi ?_);show wpAny _ _ (setEntries S >>= _) _ _ s;unfold setEntries;refine ab (ab (bG ho hd hf (af ?_)));dsimp only;rw[aF (by rw[hn];simp)];refine ab (wpAny_seqItems hT rfl ?_);dsimp only;simp only[bv];rw[show(ps.map λ(j:Nat)=>rawInt (j:Int)).toArray[i]? = some (rawInt (p:Int)) by simp[hp]];dsimp only[rawInt];unfold setNextDrawn;refine ab (ab (bG ho hd hf ?_));dsimp only;simp only[bv,bQ,aX,cm,hx];refine af ?_;refine ab (wpAny_setField hoi hdi (by simp) ?_);refine af ⟨_,rfl,af (hQ _ ⟨_,ba _ hoi (Obj.isFreed_of_fields (bN hdi _)),(Obj.cls_mapFields ..).trans hci,?_⟩ (bD ..))⟩;rw[bN hdi];simp[rawInt]
theorem pk{it S T:Addr}{i n ep:Nat}{o:Obj}{es:Array (Int×Value)}{t:SetTable}{Q:Option Value->Shared->Prop}{ps:List Nat}{eT:Nat}(hh:A.handled=none)
  (hi:ix s.heap it (.ref T) i S n ep) (hT:s.heap.get? T=some (j7 (ps.map λ(j:Nat)=>rawInt (j:Int)).toArray eT)) (ho:s.heap.get? S=some o) (hd:o.data = .set es ep t) (hf:t.fits es.size=true) (hn:es.size=n)
  (hp:ps[i]? = none)
  (hQ:∀h',(∀b o,b≠it->s.heap.get? b=some o->h'.get? b=some o)->Q none { s with heap:=h'}):wpAny (model pw w) A (pyNext (.ref it)) Q E s:=by
 refine dz (id hi) λoi hoi hci hdi=>?_;unfold pyNext;refine ab (wpAny_attempt (cR (name:=Str.ofString "__next__") hi.typeIs dS
  (cg dS hi.typeIs fX ?_ (gj _))))
 unfold Builtin.«set_iterator.__next__»;refine ab (af ?_);refine ab (wpAny_fieldsOf hoi hdi ?_);show wpAny _ _ (setEntries S >>= _) _ _ s;unfold setEntries;refine ab (ab (bG ho hd hf (af ?_)));dsimp only;rw[aF (by rw[hn];simp)];refine ab (wpAny_seqItems hT rfl ?_);dsimp only;simp only[bv];rw[show(ps.map λ(j:Nat)=>rawInt (j:Int)).toArray[i]? = none by simpa using hp];dsimp only;refine ab (wpAny_setField hoi hdi (by simp) ?_);have ho2:=ba (Obj.mapFields (·.setIfInBounds 0 (rawInt 0))) hoi (Obj.isFreed_of_fields (bN hdi _));refine ab (wpAny_setField ho2 (bN hdi _) (by simp) ?_);exact qi hh λh' hk=>hQ h' λb o hb e=>hk b o ((b9 _ _ (cL hb)).trans ((b9 _ _ (cL hb)).trans e))
end
section
set_option backward.match.sparseCases true
theorem jg{α β:Type}{f:α->β}{a m:List β}(p:a.Perm m):∀(l:List α),a=l.map f->∃l':List α,l'.Perm l/\m=l'.map f:=by
 induction p with
 |nil=>intro l e;exact⟨[],by rw[List.map_eq_nil_iff.mp e.symm],rfl⟩
 |cons x _ ih=>
  intro l e;cases l with
  |nil=>cases e
  |cons y r=>
   injection e with e1 e2
   refine dm (ih r e2) λl' q e'=>?_;exact⟨y::l',q.cons y,by rw[e1,e'];rfl⟩
 |swap x y r=>
  intro l e
  match l,e with
  |u::v::r',e=>
   injection e with e1 e2
   injection e2 with e2 e3
   exact⟨v::u::r',.swap _ _ _,by rw[e1,e2,e3];rfl⟩
 |trans _ _ ih1 ih2=>
  intro l e;refine dm (ih1 l e) λl1 q1 e1=>?_;refine dm (ih2 l1 e1) λl2 q2 e2=>?_;exact⟨l2,q2.trans q1,e2⟩
noncomputable abbrev SA(w:World)(h:Heap)(it S:Addr)(order:List Value)(i:Nat)(es:Array (Int×Value))(ep:Nat):Prop:=byT w=true/\order=(pickOrder (w.params.setOrder S ep) es).toList.map (·.2)/\ix h it (.int (0:Nat) 0) i S es.size ep
noncomputable abbrev SB(w:World)(h:Heap)(it S:Addr)(order:List Value)(i:Nat)(es:Array (Int×Value))(ep:Nat)(t:SetTable):Prop:=byT w=false/\t.led=true/\es.size<=1/\order=es.toList.map (·.2)/\∃slot:Nat,ix h it (.int slot 0) i S es.size ep/\SetTable.below t.place slot=i/\i<=es.size
noncomputable abbrev SC(h:Heap)(it S:Addr)(order:List Value)(i:Nat)(es:Array (Int×Value))(ep:Nat):Prop:=∃(T:Addr) (eT:Nat) (ps:List Nat),ps.length=es.size/\ix h it (.ref T) i S es.size ep/\T≠it/\h.get? T=some (j7 (ps.map λ(j:Nat)=>rawInt (j:Int)).toArray eT)/\(∀(j:Nat),order[j]? = ps[j]?.bind λp=>es[p]?.map (λ(e:Int×Value)=>e.2))
noncomputable def lG(w:World)(h:Heap)(it S:Addr)(order:List Value)(i:Nat):Prop:=
 ∃(o:Obj) (es:Array (Int×Value)) (ep:Nat) (t:SetTable),h.get? S=some o/\o.data = .set es ep t/\t.fits es.size=true/\es.size=order.length/\S≠it/\(SA w h it S order i es ep\/SB w h it S order i es ep t\/SC h it S order i es ep)
theorem lG.at{w:World}{h h':Heap}{it S:Addr}{order:List Value}{i:Nat}(x:lG w h it S order i)(k:∀b o,h.get? b=some o->ff o=true\/b=it\/b=S->h'.get? b=some o):lG w h' it S order i:=by
 refine Bz x λo es ep t e1 e2 e3 e4 e5 r=>?_;have hit:∀{f:Value} {j:Nat} {n:Nat},ix h it f j S n ep->ix h' it f j S n ep:=λ{f j n} y=>let ⟨oi,a,b⟩:=y;⟨oi,k _ _ a (.inr (.inl rfl)),b⟩;refine⟨o,es,ep,t,k _ _ e1 (.inr (.inr rfl)),e2,e3,e4,e5,?_⟩;rcases r with r | r | r
 ·refine kL r λa b c=>?_;exact .inl ⟨a,b,hit c⟩
 ·refine mU r λa b c d q=>?_;refine dz q λslot e f gg=>?_;exact .inr (.inl ⟨a,b,c,d,slot,hit e,f,gg⟩)
 ·refine tZ r λT eT ps lps a b c d=>?_;exact .inr (.inr ⟨T,eT,ps,lps,hit a,b,k _ _ c (.inl rfl),d⟩)
theorem pM(a j:Nat):SetTable.below #[a] j=if a<j then 1 else 0:=by
 unfold SetTable.below;show SetTable.below.go _ _ 1 0 1=_;unfold SetTable.below.go;simp
 split<;>(unfold SetTable.below.go;rfl)
theorem Kj(j:Nat):SetTable.below #[] j=0:=rfl
section
variable {w:World} {A:Around} {E:Value->Shared->Prop} {s:Shared} {order:List Value}
theorem m9{S:Addr}{i ep slot:Nat}{o:Obj}{es:Array (Int×Value)}{t:SetTable}(hb:byT w=true)(ho:s.heap.get? S=some o)(hd:o.data = .set es ep t)(hf:t.fits es.size=true)
  {Q':Option (Value×Nat)->Shared->Prop} (h:Q' (((pickOrder (w.params.setOrder S ep) es)[i]?).map λe=>(e.2,slot)) s):wpAny (model pw w) A (setNext S slot i ep) Q' E s:=by
 unfold setNext setsByText setWalk setsByText;refine ab (bG ho hd hf ?_);dsimp only;refine ab (ab (ch (af ?_)));rw[show(model pw w).w.params.followText "set-order"=true from hb];simp only[if_true,bQ,aX,cm];refine ab ?_;refine ab (bG ho hd hf ?_);dsimp only;refine ab (ab (ch (af ?_)));rw[show(model pw w).w.params.followText "set-order"=true from hb];simp only[if_true];refine ab (ch (af (af ?_)));exact h
theorem kP{S:Addr}{i ep slot:Nat}{o:Obj}{es:Array (Int×Value)}{t:SetTable}(hb:byT w=false)(hl:t.led=true)(h1:es.size<=1)(ho:s.heap.get? S=some o)(hd:o.data = .set es ep t)(hf:t.fits es.size=true)
  {Q':Option (Value×Nat)->Shared->Prop} (h:Q' (match es[SetTable.below t.place slot]?,t.place[SetTable.below t.place slot]? with
  |some (_,x),some j=>some (x,j+1)
  |_,_=>none) s):wpAny (model pw w) A (setNext S slot i ep) Q' E s:=by
 unfold setNext setsByText;refine ab (bG ho hd hf ?_);dsimp only;refine ab (ab (ch (af ?_)));rw[show(model pw w).w.params.followText "set-order"=false from hb];simp only[aX,cm];show wpAny _ _ (if (!t.plain&&decide (es.size > 1))=true then _ else _) _ _ _;rw[aF (by simp;omega)];refine ab ?_;show wpAny _ _ (if (!t.led && !es.isEmpty)=true then _ else _) _ _ _;rw[aF (by rw[hl];simp)];exact af (af h)
theorem u6{it S:Addr}{i:Nat}{x:Value}{Q:Option Value->Shared->Prop}(hst:lG w s.heap it S order i)(hx:order[i]? = some x)
  (hQ:∀h',lG w h' it S order (i+1)->Heap.SameBut it s.heap h'->Q (some x) { s with heap:=h'}):wpAny (model pw w) A (pyNext (.ref it)) Q E s:=by
 refine Bz hst λo es ep t e1 e2 e3 e4 e5 r=>?_;have hi:i<order.length:=(aG.mp hx).1;rcases r with r | r | r
 ·refine kL r λa b c=>?_
  have hN:((pickOrder (w.params.setOrder S ep) es)[i]?).map (λe=>(e.2,(0:Nat)))=some (x,0):=by
   rw[b]at hx;rw[aP,bz]at hx;refine dm (bn.mp hx) λy h1 h2=>?_;rw[h1,<-h2];rfl
  refine jE c e1 e2 e3 rfl (λh=>m9 a e1 e2 e3 (by rw[hN];exact h)) λh' h1 h2=>hQ h' ?_ h2;exact⟨o,es,ep,t,(h2.2 S e5).trans e1,e2,e3,e4,e5,.inl ⟨a,b,h1⟩⟩
 ·refine mU r λa b c d q=>?_;refine dz q λslot e f gg=>?_
  have hie:i<es.size:=by rw[e4];exact hi
  have h0:es.size=1:=Nat.le_antisymm c (aJ (bj i) hie);have hi0:i=0:=by rw[h0]at hie;exact Nat.lt_one_iff.mp hie
  have hp:t.place.size=1:=by
   simp only[SetTable.fits,bF,bZ]at e3;rw[e3.1];exact h0
  obtain⟨pl,hpl⟩:=rm hp;obtain⟨en,hen⟩:=rm h0;have hxx:x=en.2:=by rw[d,hen,hi0]at hx;simp at hx;exact hx.symm
  have hN:(match es[SetTable.below t.place slot]?,t.place[SetTable.below t.place slot]? with
   |some (_,x),some j=>some (x,j+1)
   |_,_=>none)=some (x,pl+1):=by
   rw[f,hi0,hpl,hen,hxx];rfl
  refine jE e e1 e2 e3 rfl (λh=>kP a b c e1 e2 e3 (by rw[hN];exact h)) λh' h1 h2=>hQ h' ?_ h2;refine⟨o,es,ep,t,(h2.2 S e5).trans e1,e2,e3,e4,e5,.inr (.inl ⟨a,b,c,d,_,h1,?_,by rw[e4];exact hi⟩)⟩;rw[hpl,pM,aI (aD _),hi0]
 ·refine tZ r λT eT ps lps a b c d=>?_
  have:=d i;rw[hx]at this;refine dm (ck.mp this.symm) λp hp1 hp2=>?_;refine dm (bn.mp hp2) λOA hy1 hy2=>?_;obtain⟨hh,y⟩:=OA;subst hy2;refine nj a c e1 e2 e3 rfl hp1 hy1 λh' h1 h2=>hQ h' ?_ h2;exact⟨o,es,ep,t,(h2.2 S e5).trans e1,e2,e3,e4,e5,.inr (.inr ⟨T,eT,ps,lps,h1,b,(h2.2 T b).trans c,d⟩)⟩
theorem xP{it S:Addr}{i:Nat}{Q:Option Value->Shared->Prop}(hh:A.handled=none)(hst:lG w s.heap it S order i)(hx:i=order.length)
  (hQ:∀h',(∀b o,b≠it->s.heap.get? b=some o->h'.get? b=some o)->Q none { s with heap:=h'}):wpAny (model pw w) A (pyNext (.ref it)) Q E s:=by
 refine Bz hst λo es ep t e1 e2 e3 e4 e5 r=>?_;rcases r with r | r | r
 ·refine kL r λa b c=>?_
  have hN:((pickOrder (w.params.setOrder S ep) es)[i]?).map (λe=>(e.2,(0:Nat)))=none:=by
   have hl:order.length=(pickOrder (w.params.setOrder S ep) es).size:=by
    rw[aB List.length b];simp
   rw[cw (aL (hl.symm.trans hx.symm))];rfl
  exact kT hh c e1 e2 e3 rfl (λh=>m9 a e1 e2 e3 (by rw[hN];exact h)) hQ
 ·refine mU r λa b c d q=>?_;refine dz q λslot e f gg=>?_
  have hN:(match es[SetTable.below t.place slot]?,t.place[SetTable.below t.place slot]? with
   |some (_,x),some j=>some (x,j+1)
   |_,_=>none)=none:=by
   rw[f,cw (aL (e4.trans hx.symm))]
  exact kT hh e e1 e2 e3 rfl (λh=>kP a b c e1 e2 e3 (by rw[hN];exact h)) hQ
 ·refine tZ r λT eT ps lps a b c d=>?_;exact pk hh a c e1 e2 e3 rfl (bK (aL (lps.trans (e4.trans hx.symm)))) hQ
theorem vT{es:Array (Int×Value)}{l:List (Str×Tok)}(h:es.toList=l.map (pC w)):es.toList.map (·.2)=l.map λp=>Value.str p.1 p.2:=by
 rw[h,aV];rfl
theorem Ad{S:Addr}{ks:List Str}{Q:Value->Shared->Prop}(hS:fB w s.heap S ks)
  (hQ:∀h' it dr order,(∀b o,s.heap.get? b=some o->h'.get? b=some o)->s.heap.objs.size<=it->it<h'.objs.size->(∃l:List (Str×Tok),(l.map (·.1)).Perm ks/\order=l.map λp=>Value.str p.1 p.2)->lG w h' it S order 0->
   Q (.ref it) { s with heap:=h',drawn:=dr}):wpAny (model pw w) A (pyIter (.ref S)) Q E s:=by
 refine BL hS λo es ep t l ho hex hd hl hpm hnd hb hf hg=>?_;have hT:s.TypeIs (.ref S) "set":=⟨o,ho,hex.1⟩;have hlt:S<s.heap.objs.size:=bk ho;refine wpAny_pyIter_slot hT F.slot_set_iter (cg F.slot_set_iter hT rl ?_ (F.args_set_iter_1 _));unfold Builtin.«frozenset.__iter__» Builtin.Frozenset.slot0 slotArgs;simp only[List.isEmpty_nil,Bool.not_true,aX,↓reduceIte,bind_assoc,cG,bQ];unfold Builtin.Frozenset.addrOf Builtin.Frozenset.sizeOf;refine ab (af ?_)
 try dsimp only
 refine ab (af ?_);refine ab (ab (wpAny_setEntries_of ho hd hf (af ?_)));unfold setDrawn setsByText;refine ab (ab (bG ho hd hf ?_));dsimp only;refine ab (ab (ch (af (af ?_))));show wpAny _ _ (if (!byT w&&(!t.plain&&decide (es.size > 1)))=true then _ else _) _ _ _;have hsl:es.size=l.length:=by rw[<-be,hl];simp
 split
 ·rename_i hc
  simp only[bF,cM,aR]at hc;refine ab (wL es.size (List.range es.size) s _ (by simp) λys dr hys=>?_);simp only[newTuple,newFields];refine ab (cq ?_ (by show(List.map (λ(i:Nat)=>rawInt (i:Int)) ys).toArray.size<=sizeLine;rw[show(List.map (λ(i:Nat)=>rawInt (i:Int)) ys).toArray.size=es.size by simp[hys.length_eq]];exact fits_of_scanBound hb));have ho':=am (j7 (ys.map λ(j:Nat)=>rawInt (j:Int)).toArray 0) ho;refine ab (wpAny_setEpoch_of ho' hd hf ?_);refine ab (cq (af ⟨_,rfl,"set_iterator",_,⟨_,aw _ rfl,rfl⟩,dS.lookup,?_⟩));have hpl:ys.length=es.size:=by rw[hys.length_eq];simp
  have d0:Str×Tok:=(⟨#[]⟩,0);have hT':=am { cls:=.type "set_iterator",dict:=none,data:=.fields #[.ref s.heap.objs.size,rawInt 0,.ref S,rawInt (es.size:Int),rawInt (ep:Int)]} (aw (o:=j7 (ys.map λ(j:Nat)=>rawInt (j:Int)).toArray 0) s.heap rfl);have hsz:(s.heap.push (j7 (ys.map λ(j:Nat)=>rawInt (j:Int)).toArray 0)).objs.size=s.heap.objs.size+1:=by simp[Heap.push]
  refine hQ _ _ _ ((ys.map λp=>l.getD p d0).map λp=>Value.str p.1 p.2) (λb o e=>am _ (am _ e)) ?_ ?_ ⟨_,?_,rfl⟩ ?_
  ·rw[show Heap.objs _=_ from rfl];exact ae (aC _) (aL hsz.symm)
  ·exact bk (aw _ rfl)
  ·refine((hys.map λp=>l.getD p d0).map _).trans ?_
   have:(List.range es.size).map (λp=>l.getD p d0)=l:=by
    rw[hsl];refine List.ext_getElem? λj=>?_
    by_cases hj:j<l.length
    ·simp[List.getElem?_range,hj,List.getD]
    ·simp[bK (bo hj),hj]
   rw[this];exact hpm
  ·refine⟨o,es,ep,t,am _ ho',hd,hf,by simp[hpl],?_,.inr (.inr ⟨s.heap.objs.size,0,ys,hpl,⟨_,aw _ rfl,rfl,rfl⟩,?_,hT',λj=>?_⟩)⟩
   ·exact aO (av hlt (ae (aC _) (aL hsz.symm)))
   ·exact aO (av (aD _) (aL hsz.symm))
   ·rw[aP,aP]
    cases hy:ys[j]? with
    |none=>rfl
    |some p=>
     have hp:p<es.size:=aT.mp (hys.mem_iff.mp (aQ hy));have:es[p]? = some (pC w (l.getD p d0)):=by
      rw[<-bz,hl,aP,List.getD,au (hsl▸hp)];rfl
     simp only[Option.map_some,Option.bind_some,this];rfl
 ·rename_i hc
  refine ab (af ?_);refine ab (wpAny_setEpoch_of ho hd hf ?_);simp only[newFields];refine ab (cq (af ⟨_,rfl,"set_iterator",_,⟨_,aw _ rfl,rfl⟩,dS.lookup,?_⟩));have hsz:=bk (aw s.heap (o:={ cls:=.type "set_iterator",dict:=none,data:=.fields #[rawInt 0,rawInt 0,.ref S,rawInt (es.size:Int),rawInt (ep:Int)]}) rfl);have fin:∀order,(∃l:List (Str×Tok),(l.map (·.1)).Perm ks/\order=l.map λp=>Value.str p.1 p.2)->lG w (s.heap.push { cls:=.type "set_iterator",dict:=none,data:=.fields #[rawInt 0,rawInt 0,.ref S,rawInt (es.size:Int),rawInt (ep:Int)]}) s.heap.objs.size S order 0->Q _ _:=
   λorder h1 h2=>hQ _ _ s.drawn order (λb o e=>am _ e) (ad _) hsz h1 h2
  cases hb':byT w with
  |true=>
   have hp:=qo (w.params.setOrder S ep) es;have hex2:∃l':List (Str×Tok),l'.Perm l/\(pickOrder (w.params.setOrder S ep) es).toList=l'.map (pC w):=by
    rw[hl]at hp;refine dm (jg hp.symm l rfl) λl' q1 q2=>?_;exact⟨l',q1,q2⟩
   refine dm hex2 λl' q1 q2=>?_;refine fin ((pickOrder (w.params.setOrder S ep) es).toList.map (·.2)) ⟨l',(q1.map _).trans hpm,vT q2⟩ ?_;refine⟨o,es,ep,t,am _ ho,hd,hf,?_,aO hlt,.inl ⟨hb',rfl,⟨_,aw _ rfl,rfl,rfl⟩⟩⟩;rw[aq,(qo (w.params.setOrder S ep) es).length_eq];simp
  |false=>
   simp only[hb',Bool.not_false,Bool.true_and,bF,cM,aR,not_and]at hc;have h1:es.size<=1:=by
    rcases(hg hb').2 with h | h
    ·exact h
    ·have:=hc h;omega
   refine fin (es.toList.map (·.2)) ⟨l,hpm,vT hl⟩ ?_;refine⟨o,es,ep,t,am _ ho,hd,hf,by simp,aO hlt,.inr (.inl ⟨hb',(hg hb').1,h1,rfl,0,⟨_,aw _ rfl,rfl,rfl⟩,?_,bj _⟩)⟩;have hps:t.place.size=es.size:=by
    simp only[SetTable.fits,bF,bZ]at hf;exact hf.1
   obtain⟨pl⟩:Nonempty (Array Nat):=⟨t.place⟩;generalize t.place=pl at hps;obtain⟨pl⟩:=pl
   match pl,hps with
   | [],_=>rfl
   | [y],_=>exact pM y 0
   |y::z::r,h=>simp at h;omega
end
end
theorem qJ:typeLookup (.type "set") "__len__"=pure (some (.builtin "set.__len__")):=F.slot_set_len.lookup
section
variable {w:World} {A:Around} {E:Value->Shared->Prop} {s:Shared} {order:List Value}
theorem B1{S:Addr}(hT:s.TypeIs (.ref S) "set"){Q:Bool->Shared->Prop}(h:Q false s):wpAny (model pw w) A (Builtin.List.listLengthHint (.ref S)) Q E s:=by
 unfold Builtin.List.listLengthHint;refine ab (wpAny_specialOf hT qJ ?_);generalize hid:("set.__len__" : String)=id0
 wp_delta
 rw[show splitId id0=some ("set","__len__") from by subst hid;decide +kernel];subst hid;refine ab (wpAny_isInstance (T:="set") (b:=true) hT (by rw[cY];kernel_rfl) ?_);refine c7 (λhab=>absurd hab (by decide)) (λ_=>?_);refine c7 (λ_=>?_) (λhab=>absurd (by decide +kernel) hab);refine ab (wpAny_typeOf hT ?_);exact af h
theorem CB{it S L:Addr}{res:Value}{R:Result->Shared->Prop}(hh:A.handled=none)(hLi:L≠it)(hLS:L≠S)(hlen:order.length<=4096):∀(m i:Nat) (s:Shared) (acc:Array Value) (c:Nat),i+m=order.length->lG w s.heap it S order i->
  s.heap.get? L=some { cls:=.type "list",dict:=none,data:=.seq acc c,slots:=#[]}->acc.toList=order.take i->
  (∀h' c',(∀b o,b≠L->b≠it->s.heap.get? b=some o->h'.get? b=some o)->h'.get? L=some { cls:=.type "list",dict:=none,data:=.seq order.toArray c',slots:=#[]}->R (.ok (.ret res)) { s with heap:=h'})->
  codeAny (model pw w) A (.builtin "list.extend.loop" ⟨[.ref L,.ref it,res],[]⟩) R s:=by
 intro m
 induction m with
 |zero=>
  intro i s acc c hi hst hL ha hR;refine cr F.entry_extend_loop ?_;rw[b0 F.plain_extend_loop _];show wpAny _ A.in1 (pyNext (.ref it) >>= _) _ _ s;refine ab (xP (A:=A.in1) hh hst hi λh' hk=>?_);rw[b8 (show order.length<=i from aL hi.symm)]at ha;subst ha;exact af (hR h' c (λb o hb hbi e=>hk b o hbi e) (hk L _ hLi (by rw[Array.toArray_toList];exact hL)))
 |succ m ih=>
  intro i s acc c hi hst hL ha hR;have hlt:i<order.length:=hi▸bt (bI m);have hx:=au hlt;refine cr F.entry_extend_loop ?_;rw[b0 F.plain_extend_loop _];show wpAny _ A.in1 (pyNext (.ref it) >>= _) _ _ s;refine ab (u6 hst hx λh' hst' hk=>?_);have hL':=(hk.2 L hLi).trans hL;show wpAny _ A.in1 (updateSeq L (·.push _) >>= _) _ _ _;have hsz:acc.size=i:=by rw[<-be,ha];simp;omega
  refine ab ?_;refine wpAny_updateSeq (hz:=by rw[sizeLine_eq];omega) (_hz':=by show(acc.push _).size<=_;rw[Array.size_push,sizeLine_eq];omega) hL' rfl (af ⟨plainId_quiet F.plain_extend_loop _,?_⟩);have hL2:=ba (Obj.mapSeq (·.push order[i])) hL' rfl;refine ih (i+1) _ (acc.push order[i]) _ ((Nat.succ_add i m).trans hi) (hst'.at λb o e hb=>?_) hL2 ?_ λh2 c2 hk2 hL2=>?_
  ·have hbL:L≠b:=λq=>by
    subst q;rcases hb with hb | hb | hb
    ·rw[hL']at e;obtain rfl:=ak e;exact fT hb
    ·exact hLi hb
    ·exact hLS hb
   exact(b9 _ _ hbL).trans e
  ·rw[dj,ha,List.take_add_one,hx];rfl
  ·refine hR h2 c2 (λb o hb hbi e=>hk2 b o hb hbi ((b9 _ _ (cL hb)).trans ((hk.2 b hbi).trans e))) hL2
set_option maxHeartbeats 2000000 in
theorem su{S:Addr}{ks:List Str}{R:List Value->Shared->Prop}(hh:A.handled=none)(hS:fB w s.heap S ks)
  (h:∀h' dr (l:List (Str×Tok)),(∀b o,s.heap.get? b=some o->h'.get? b=some o)->(l.map (·.1)).Perm ks->R (l.map λp=>Value.str p.1 p.2) { s with heap:=h',drawn:=dr}) :
  wpAny (model pw w) A (collect (.ref S)) R E s:=by
 have hSl:S<s.heap.objs.size:=by refine Bb hS λo _ _ _ _ e _=>?_;exact bk e
 have hb:ks.length<4096:=by
  refine KU hS λo es ep t l ho hex hd hl hpm hnd hb r=>?_;have e1:=hpm.length_eq;have e2:es.size=l.length:=by rw[<-be,hl];simp
  have:scanBound=4096:=rfl;simp at e1;omega
 unfold collect;refine ab (wpAny_runValue (cr F.entry_proto_collect ?_));rw[b0 F.plain_proto_collect _];show wpAny _ A.in1 (newList [] >>= λl=>again (.builtin "list.__iadd__" ⟨[l,.ref S],[]⟩)) _ _ s;refine ab (cq ?_);refine af ⟨plainId_quiet F.plain_list_iadd _,cr F.entry_list_iadd ?_⟩;rw[b0 F.plain_list_iadd _];have R7:fB w (s.heap.push { cls:=.type "list",data:=.seq ([]:List Value).toArray}) S ks:=hS.at λo e=>am _ e;have hT:(⟨s.heap.push { cls:=.type "list",data:=.seq ([]:List Value).toArray},s.gens,s.drawn,s.toks,s.os⟩:Shared).TypeIs (.ref S) "set":=by
  refine KB R7 λo es ep t l ho hex _=>?_;exact⟨o,ho,hex.1⟩
 have R3:(s.heap.push { cls:=.type "list",data:=.seq ([]:List Value).toArray}).get? s.heap.objs.size=some { cls:=.type "list",data:=.seq ([]:List Value).toArray}:=aw _ rfl;show wpAny _ A.in1 (Builtin.List.listExtendWith (.ref s.heap.objs.size) (.ref S) (.ref s.heap.objs.size)) _ _ _;unfold Builtin.List.listExtendWith;refine ab (wpAny_typeOf hT ?_);have h1:Builtin.List.listSameRef (.ref s.heap.objs.size) (.ref S)=false:=by simp[Builtin.List.listSameRef,bl hSl]
 have h2:(Value.type "set" == Value.type "list")=false:=by decide
 have h3:(Value.type "set" == Value.type "tuple")=false:=by decide
 simp only[h1,h2,h3,Bool.or_false,aX,cm];have hsz:(s.heap.push { cls:=.type "list",data:=.seq ([]:List Value).toArray}).objs.size=s.heap.objs.size+1:=by simp[Heap.push]
 refine ab (Ad R7 λh' it dr order hk hit hit2 hor hst=>?_);refine dm hor λl hlp OA=>?_;subst OA;have hit0:(s.heap.push { cls:=.type "list",data:=.seq ([]:List Value).toArray}).objs.size<=it:=hit;have hit':s.heap.objs.size+1<=it:=ae (aL hsz.symm) hit0;have hne:s.heap.objs.size≠it:=aO hit';have hT':(⟨h',s.gens,dr,s.toks,s.os⟩:Shared).TypeIs (.ref S) "set":=by refine dm hT λo e c=>?_;exact⟨o,hk _ _ e,c⟩
 refine ab (aN (B1 hT' ?_));have hl4:(l.map λp=>Value.str p.1 p.2).length<=4096:=a7 (by have:=hlp.length_eq;rw[aq]at this ⊢;rw[this];exact hb);refine c7 (λ_=>?_) (λhab=>absurd (by decide +kernel) hab);refine ab (wpAny_rule ?_);refine ab ?_;show wpAny _ _ (updateSeq s.heap.objs.size (·.push .none) >>= λ_=>updateSeq s.heap.objs.size (·.pop)) _ _ _;have R4:=hk _ _ R3;refine ab (wpAny_updateSeq R4 rfl ?_);have R5:=ba (Obj.mapSeq (·.push Value.none)) R4 rfl;refine wpAny_updateSeq (hz:=by seq_fits) R5 rfl ?_;have R6:=ba (Obj.mapSeq (·.pop)) R5 rfl;have oth:∀b o,b≠s.heap.objs.size->h'.get? b=some o->((h'.update s.heap.objs.size (Obj.mapSeq (·.push Value.none))).update s.heap.objs.size (Obj.mapSeq (·.pop))).get? b=some o:=
  λb o hb e=>(b9 _ _ (cL hb)).trans ((b9 _ _ (cL hb)).trans e)
 have hst₂:=hst.at (h':=(h'.update s.heap.objs.size (Obj.mapSeq (·.push Value.none))).update s.heap.objs.size (Obj.mapSeq (·.pop))) λb o e hb=>oth b o (λq=>by
  subst q;rcases hb with hb | hb | hb
  ·rw[R4]at e;obtain rfl:=ak e;exact fT hb
  ·exact hne hb
  ·exact bl hSl hb) e
 refine af ⟨plainId_quiet F.plain_extend_loop _,CB (A:=A) hh hne (bl hSl) hl4 _ 0 _ _ _ (aY _) hst₂ R6 rfl λh2 c2 hk2 hL2=>?_⟩;show wpAny _ A (load s.heap.objs.size >>= _) _ _ _;refine ab (wpAny_load hL2 ?_);refine af ?_;refine h h2 dr l (λb o e=>hk2 b o (aO (bk e)) ?_ (oth b o (aO (bk e)) (hk b o (am _ e)))) hlp;exact aO (cu (bk e) hit')
end
section
variable {cx:Cx} {d n:Nat} {H H':TH} {HL O7 H₂:List AO} {r a b v w:AV} {F:Fns} {c:IE} {z:AF×TH} {P:Prop} {A:Around} {s U4 h:Shared} {ρ V4:Nat->Addr} {env:Env} {E:Value->Shared->Prop} {x y:Expr} {k0 k0':List Nat} {k:AV->TH->R} {i:Nat} {pos q:Pos} {es:List (List Nat×AV)} {ks:List (List Nat)}
theorem xA{Q:Bool->Shared->Prop}(M:Mk cx)(h:lY c.cd 2=true)(S:SR cx ρ HL s)(R:iZ ρ n c env)(hQ:∀b,Q b s):wpAny (model pw cx.w) A (inMainModule env) Q E s:=by
 refine L4 (M.hd 2) λo vs file tf flags tg inF text tt e1 e2 e3 e4 e5 e6 _=>?_;unfold inMainModule;rw[(rK h R).1];have:(Value.ref (hF 2).1 == Value.none)=false:=by decide
 rw[this];refine ab (wpAny_fieldsOf (S.keep _ _ e1) e3 ?_);rw[e6];exact ab (ch (af (hQ _)))
theorem Eg(S:SR cx ρ HL s)(h:HL[i]? = some (.dict es)\/HL[i]? = some (.bag es)):∃kvs ep,s.heap.DictAt (PySem.strKind pw cx.w) (ρ i) kvs ep/\(kvs.map (·.1)).Perm ((es.map (·.1)).map (rs cx.σ)):=by
 rw[aV];rcases h with h | h
 ·refine dz (S.own _ _ h) λkvs OA l1 _=>?_;refine sM OA λo as ep r=>?_
  exact⟨kvs,ep,⟨o,as,r⟩,by rw[l1];exact .refl _⟩
 ·obtain⟨kvs',kvs,pm,⟨o,as,ep,r⟩,l1,_⟩:=S.own _ _ h
  exact⟨kvs,ep,⟨o,as,r⟩,by have:=(pm.map (·.1)).symm;rw[l1]at this;exact this⟩
theorem yF{l l':List Str}{k:Str}(p:l.Perm l')(hn:l.Nodup):(fY [k] l).Perm (fY [k] l'):=by
 rw[nH _ _ hn,nH _ _ (p.nodup_iff.mp hn)];exact(p.filter _).append_left _
theorem Be{y':Sem Value}{x':Sem Value}{Q:Value->Shared->Prop}{bm:Bool}
  (h:wpAny (model pw cx.w) A (newSet (.type "set")) (λS s₀=>∃a,S = .ref a/\wpAny (model pw cx.w) A x' (λV U6=>wpAny (model pw cx.w) A (setAdd a V) (λ_ U7=>wpAny (model pw cx.w) A y' (λW U8=>wpAny (model pw cx.w) A (setDisplayStar a W) (λ_ U9=>Q (.ref a) U9) E U8) E U7) E U6) E s₀) E s) :
  wpAny (model pw cx.w) A (setDisplay .oneByOne bm [(false,do let v <-x';standAt pos;pure v),(true,do let v <-y';standAt pos;pure v)]) Q E s:=by
 unfold setDisplay;have c1:(DisplayRoad.oneByOne == DisplayRoad.constants)=false:=by decide
 have c2:(DisplayRoad.oneByOne == DisplayRoad.unsure)=false:=by decide
 rw[c1,c2];refine ab (bq h (λS s₀ h=>?_) λ_ _ x=>x);obtain⟨a,e,h⟩:=h;subst e;dsimp only;refine ab (aN (ab (wpAny_evalAll_cons (ab (bq h (λV U4 h=>ab (a8 (af (wpAny_evalAll_nil ?_)))) λ_ _ x=>x)))));refine ab (aN ?_);rw[bL];refine ab (ab (ab (bq h (λ_ U7 h=>af ?_) λ_ _ x=>x)));dsimp only;rw[cX];refine af (af ?_);show wpAny _ _ (forIn [_] _ _ >>= _) _ _ _;rw[bL];refine ab (ab (ab (ab (bq h (λW U8 h=>ab (a8 (af ?_))) λ_ _ x=>x))));dsimp only;rw[aI rfl];refine ab (aN (bq h (λ_ U9 h=>af ?_) λ_ _ x=>x));dsimp only;rw[cX];exact af (af (af h))
theorem EvE.set1(M:Mk cx)(hst:dD x=false)(ht:lY c.cd 2=true)(k1:EvE cx d x c (HL++[.setq []]) (.str k0) O7)(g1:O7[HL.length]? = some (.setq []))(k2:EvE cx d y c (O7.set HL.length (.setq [k0])) (.ref i) H₂)
  (g2:H₂[i]? = some (.dict es)\/H₂[i]? = some (.bag es)) (g3:H₂[HL.length]? = some (.setq [k0'])) (hl:Nat.ble es.length 90=true) (hks:BA [k0'] (es.map (·.1))=some ks):EvE cx d (.Set [x,.Starred y q] 0 pos) c HL (.ref HL.length) (H₂.set HL.length (.setq ks)):=by
 have l0:HL.length<(HL++[AO.setq []]).length:=by rw[az];exact aD _
 have l1:=av l0 k1.1;have l2:HL.length<H₂.length:=av (by rw[aE];exact l1) k2.1;refine⟨by rw[aE];exact a7 l2,λ{A s ρ env Q E} z W=>?_⟩;have g:=z.g.toGood;rw[arm_eval_Set];refine ab (a8 (ab (xA M ht z.sr z.en λbm=>?_)));have hse:(starEach [x,.Starred y q] env).map (λ(p:Bool×Sem Value)=>(p.1,(do let v <-p.2;standAt pos;pure v:Sem Value)))=[(false,do let v <-eval x env;standAt pos;pure v),(true,do let v <-eval y env;standAt pos;pure v)]:=aB _ (sD x hst);show wpAny _ _ (setDisplay _ _ ((starEach [x,.Starred y q] env).map (λ(p:Bool×Sem Value)=>(p.1,(do let v <-p.2;standAt pos;pure v:Sem Value))))) _ _ _;rw[hse];refine Be (Aa λtt hnew=>⟨_,rfl,?_⟩);have f0:=z.sr.fresh (ob:={ cls:=.type "set",dict:=Option.none,data:=.set #[] 0 tt}) (o:=.setq []) (t:=s.toks) g (ad _) λE'=>hnew _ (aw _ rfl);have hL:HL.length<=(HL++[AO.setq []]).length:=a7 l0;refine k1.run (z.next f0.1 f0.2 hL) λV U4 V4 V0 T3 N0=>?_;have ag1:V4 HL.length=s.heap.objs.size:=(N0.ag _ l0).trans g9;have Q1:fB cx.w U4.heap (V4 HL.length) []:=V0.sr.own _ _ g1;obtain⟨t,e⟩:=T3;rw[e,<-ag1];refine p9 Q1 (by decide) λbb h' t' ht' hs' Q2=>?_;have f1:=V0.sr.set (i:=HL.length) (o':=.setq [k0]) g g1 rfl (λa o ha e=>(hs'.2 a ha).trans e) ht' λE'=>Q2;have hs1:O7.length<=(O7.set HL.length (AO.setq [k0])).length:=by rw[aE];exact ad _
 refine k2.run (V0.next f1.1 f1.2 hs1) λQ7 U6 ρ₂ V1 T5 N7=>?_;have ag2:ρ₂ HL.length=V4 HL.length:=N7.ag _ (av l1 hs1);have Q3:fB cx.w U6.heap (ρ₂ HL.length) [rs cx.σ k0']:=V1.sr.own _ _ g3;refine kK (Eg V1.sr g2) λkvs ep hD hP=>?_;obtain⟨od,eod,ald,ned⟩:∃o,H₂[i]? = some o/\dN o=true/\o≠.setq [k0']:=g2.elim (λe=>⟨_,e,rfl,λq=>nomatch q⟩) λe=>⟨_,e,rfl,λq=>nomatch q⟩;have hne:ρ₂ HL.length≠ρ₂ i:=λe=>ned (by
  have:=V1.sr.inj _ _ _ _ g3 eod rfl ald e;rw[<-this,g3]at eod;exact(ak eod).symm)
 have hlk:kvs.length<=90:=by have:=hP.length_eq;rw[aq,aq,aq]at this;rw[this];exact leb hl
 have hnd:(kvs.map (·.1)).Nodup:=by refine wq (id hD) λ_ _ _ _ _ _ _ x=>?_;exact x
 rw[T5.1,<-ag2];refine yJ z.ok.hd (V1.un.not_mods eod ald) hne hlk Q3 hD λh'' t'' ht'' hk'' Q4=>?_;have f2:=V1.sr.set (i:=HL.length) (o':=.setq ks) g g3 rfl hk'' ht'' λE'=>by
  show fB _ _ _ _;rw[tI cx.σ hks];exact Q4.perm (yF hP hnd)
 exact W _ _ ρ₂ f2.1 ⟨rfl,by rw[aE];exact l2⟩ ((((f0.2.trans hL N0).trans (a7 l1) f1.2).trans (ae (a7 l1) hs1) N7).trans (a7 l2) f2.2)
theorem yd(M:Mk cx)(K:dC cx F)(h:As F d (cvE n x) (cvE n y) c H k=some z)(w:∀v H',EvE cx d (.Set [x,.Starred y q] 0 pos) c H.L v H'.L->k v H'=some z->P):P:=
 ifE h λht h=>dq h λO6 h0 h=>K.ev h λa O7 k1 h'=>dL h' λk0 e h'=>vz h' λq1 g1 h'=>l0E h' λe1 h'=>K.ev h' λb H₂ k2 h'=>dP h' λi e2 h'=>dq h' λes hes h'=>vz h' λq2 g2 h'=>l1E h' λk0' e3 h'=>ifE h' λhl h'=>dq h' λks hks h'=>by
  rw[e1]at g1;rw[e3]at g2;rw[gN g1,e2,<-TH.len]at k2;rw[wU h0,e]at k1;have G1:=dA g1;have G2:=dA g2;rw[<-TH.len]at G1 G2;refine w _ _ ?_ h';rw[gN g2,<-TH.len];exact EvE.set1 M (K.ns h) ht k1 G1 k2 (orE hes (λhes=>gJ hes λx g h=>so h λe=>.inl (e▸dA g)) λhes=>qh hes λx g h=>so h λe=>.inr (e▸dA g)) G2 hl hks
end
theorem fH{α:Type}(l:List α)(i:Nat)(d:α)(h:i<l.length):l.getD i d=l[i]:=by rw[bg,au h,Option.getD_some]
theorem sK{α:Type}(d:α)(Ws:List α):(List.range Ws.length).map (λi=>Ws.getD i d)=Ws:=by
 refine List.ext_getElem (by rw[aq,cp]) λi h1 h2=>?_;rw[List.getElem_map,List.getElem_range,fH _ _ _ h2]
theorem xv{α:Type}{zs Us:List α}(d:α)(hp:zs.Perm Us)(h2:2<=Us.length)(h6:Us.length<=6):∃(r:List Nat) (p:Array Nat),yE (λi j=>Nat.blt (r.getD i 0) (r.getD j 0)) Us.length (kas_sort Us.length)=some p/\
  (∀i,i<Us.length->r.getD i 0<Us.length/\zs.getD i d=Us.getD (r.getD i 0) d)/\(∀i j,i<Us.length->j<Us.length->i≠j->r.getD i 0≠r.getD j 0)/\p.toList.map (λi=>zs.getD i d)=Us:=by
 refine dm (jb (l:=zs) (f:=λi=>Us.getD i d) (m:=List.range Us.length) (by rw[sK];exact hp)) λr hr er=>?_;have hrl:r.length=Us.length:=by rw[hr.length_eq,cp]
 have hchk:=AI h2 h6 hr;have hmem:∀i,i<Us.length->r.getD i 0<Us.length:=λi hi=>by
  rw[fH _ _ _ (hrl▸hi)];exact aT.mp (hr.mem_iff.mp (ci _))
 have hV:∀i,i<Us.length->zs.getD i d=Us.getD (r.getD i 0) d:=λi hi=>by
  have h1:i<r.length:=hrl▸hi;rw[er,fH _ _ _ (by rw[aq];exact h1),List.getElem_map,fH r i 0 h1]
 unfold qI at hchk;cases hrun:yE (λi j=>Nat.blt (r.getD i 0) (r.getD j 0)) Us.length (kas_sort Us.length) with
 |none=>rw[hrun]at hchk;exact fT hchk
 |some p=>
  rw[hrun]at hchk;have c:=aa hchk;have c1:=bW c.1;refine⟨r,p,hrun,λi hi=>⟨hmem i hi,hV i hi⟩,λi j hi hj hij e=>?_,?_⟩
  ·have hnd:r.Nodup:=hr.nodup_iff.mpr List.nodup_range
   rw[fH _ _ _ (hrl▸hi),fH _ _ _ (hrl▸hj)]at e;exact hij ((List.getElem_inj hnd).mp e)
  ·have:p.toList.map (λi=>zs.getD i d)=(p.toList.map λi=>r.getD i 0).map (λi=>Us.getD i d):=by
    rw[aV];exact bP λi hi=>hV i (jx (aA.mp c.2 i hi))
   rw[this,c1,sK]
section
variable {prog:Program} {w:World} {A:Around} {E:Value->Shared->Prop} {s:Shared}
noncomputable def d2:Value×Value:=(.none,.none)
theorem uD{ks vs:List Value}{Us:List (Value×Value)}{κ:SortKind}{P:PySem.Fin->Shared->Prop}{f:Unit×SortSt->Sem PySem.Fin}(hl:ks.length=vs.length)(hp:(ks.zip vs).Perm Us)(h6:Us.length<=6)
  (hk:2<=Us.length->∀(Q:SortKind->Shared->Prop),Q κ s->wpAny (model prog w) A (keyKind' ks.toArray) Q (λ_ _=>False) s)
  (hlt:∀(i j:Nat) (U W:Value×Value) (C:Bool->Shared->Prop),Us[i]? = some U->Us[j]? = some W->i≠j->C (decide (i<j)) s->wpAny (model prog w) A (keyLt' κ U.1 W.1) C (λ_ _=>False) s)
  (h:∀st,(arrOf st).map (·.2)=(Us.map (·.2)).toArray->failedOf st=none->wpAny (model prog w) A (f ((),st)) P E s) :
  wpAny (model prog w) A (if vs.toArray.size<2 then pure general' >>= λkind=>(if vs.toArray.size<2 then pure () else sortRuns').run (SortSt.mk' kind (ks.toArray.zip vs.toArray) #[] 7 none) >>= f else keyKind' ks.toArray >>= λkind=>(if vs.toArray.size<2 then pure () else sortRuns').run (SortSt.mk' kind (ks.toArray.zip vs.toArray) #[] 7 none) >>= f) P E s:=by
 have hz:(ks.zip vs).length=vs.length:=by rw[List.length_zip,hl,Nat.min_self]
 have hn:vs.length=Us.length:=hz.symm.trans hp.length_eq
 by_cases h2:vs.toArray.size<2
 ·rw[aI h2]
  refine ab (af ?_);rw[aI h2,StateT.run_pure];refine ab (af (h _ ?_ rfl));have e:ks.zip vs=Us:=by
   have h2:(ks.zip vs).length<2:=hz▸h2;generalize ks.zip vs=zs at hp h2;cases zs with
   |nil=>exact hp.nil_eq
   |cons x r=>cases r with
    |nil=>exact List.singleton_perm.mp hp
    |cons y r=>exact absurd h2 (bJ.mpr (bE (bE (bj _))))
  rw[<-e];show(ks.toArray.zip vs.toArray).map (·.2)=_;exact Array.toList_inj.mp (by rw[Array.toList_map,Array.toList_zip])
 ·rw[aF h2]
  have h2':2<=Us.length:=hn▸bo h2;refine fR (xv d2 hp h2' h6) λr p hrun hz' hinj hout=>?_;have hzz:∀i,i<Us.length->ks.getD i .none=(Us.getD (r.getD i 0) d2).1/\vs.getD i .none=(Us.getD (r.getD i 0) d2).2:=λi hi=>by
   have hi2:i<vs.length:=hn▸hi;have hi1:i<ks.length:=hl▸hi2;rw[<-(hz' i hi).2,fH _ _ _ hi1,fH _ _ _ hi2,fH _ _ _ (hz.symm▸hi2),List.getElem_zip];exact⟨rfl,rfl⟩
  refine ab (bq (E:=λ_ _=>False) (hk h2' (λκ' s'=>κ'=κ/\s'=s) ⟨rfl,rfl⟩) (λκ' s' hκ=>?_) λ_ _ x=>x.elim);rw[hκ.1,hκ.2,aF h2];have h64:vs.length<64:=by rw[hn];exact aJ h6 (by decide)
  have hpv:p.toList.map (λi=>vs.getD i Value.none)=Us.map (·.2):=by
   have:=aB (List.map Prod.snd) hout;rw[aV]at this;rw[<-this];refine bP λi _=>?_;show _=((ks.zip vs).getD i d2).2
   by_cases hi:i<vs.length
   ·rw[fH _ _ _ hi,fH _ _ _ (hz.symm▸hi),List.getElem_zip]
   ·rw[bg,bg,bK (bo hi),bK (by rw[hz];exact bo hi)];rfl
  refine ab (bq (kat_run (ks:=ks) (vs:=vs) (E:=E) (Q:=λst' s''=>s''=s/\(arrOf st').map (·.2)=(Us.map (·.2)).toArray/\failedOf st'=none)
   (G:=λq s''=>q=p/\s''=s) hl (hn▸h2') h64 (λq st' s' q1 q2 q3 q4=>⟨q4.2,by rw[kat_snds hl q2,q4.1,hpv],q3⟩) ?_) ?_ λ_ _ x=>x)
  ·rw[hn]
   refine xh (lt:=λi j=>Nat.blt (r.getD i 0) (r.getD j 0)) (n:=Us.length) (λi j C hi hj hij hC=>?_) hrun ⟨rfl,rfl⟩;unfold kas_ask;rw[(hzz i hi).1,(hzz j hj).1];have hi':=(hz' i hi).1;have hj':=(hz' j hj).1;refine hlt (r.getD i 0) (r.getD j 0) _ _ C (by rw[fH _ _ _ hi'];exact au hi') (by rw[fH _ _ _ hj'];exact au hj') (hinj i j hi hj hij) ?_;have:Nat.blt (r.getD i 0) (r.getD j 0)=decide (r.getD i 0<r.getD j 0):=by
    rw[bT,aR];exact⟨jx,a9⟩
   rw[<-this];exact hC
  ·intro rr s'' q
   obtain⟨⟨⟩,st'⟩:=rr;rw[q.1];exact h st' q.2.1 q.2.2
theorem rf{a:Addr}{ne:Nat}{Vs Ws:List Value}{κ:SortKind}{P:PySem.Fin->Shared->Prop}{o:Obj}(ho:s.heap.get? a=some o)(hdo:o.data = .seq Vs.toArray ne)(hp:Vs.Perm Ws)(h6:Ws.length<=6)
  (hk:2<=Ws.length->∀(s':Shared) (Q:SortKind->Shared->Prop),(∀b o,b≠a->s.heap.get? b=some o->s'.heap.get? b=some o)->Q κ s'->wpAny (model prog w) A (keyKind' Vs.toArray) Q (λ_ _=>False) s')
  (hlt:∀(i j:Nat) (V W:Value) (s':Shared) (C:Bool->Shared->Prop),Ws[i]? = some V->Ws[j]? = some W->i≠j->(∀b o,b≠a->s.heap.get? b=some o->s'.heap.get? b=some o)->C (decide (i<j)) s'->wpAny (model prog w) A (keyLt' κ V W) C (λ_ _=>False) s')
  (h:P (.done (.ret .none)) { s with heap:=sortedHeap s.heap a Vs Ws.toArray}):wpAny (model prog w) A (Builtin.«list.sort» ⟨[.ref a],[]⟩) P E s:=by
 have hn:Vs.length=Ws.length:=hp.length_eq;have hfit:∀k,k<=6->k<=sizeLine:=λk hk=>ae hk (by rw[sizeLine_eq];decide);have hV6:Vs.length<=sizeLine:=hfit _ (hn▸h6);rw[list_sort_plain];have ha:a<s.heap.objs.size:=bk ho;refine ab (listItems_at ho hdo ?_);refine ab (listUpdate_at ho hdo ?_ hV6 (bj _));obtain⟨e1,hd1⟩:=Obj.data_mapSeq hdo (λ_=>(#[]:Array Value));have ho1:(s.heap.update a (Obj.mapSeq λ_=>#[])).get? a=some (o.mapSeq λ_=>#[]):=ba _ ho (Obj.isFreed_of_seq hd1);refine ab (seqEpoch_at ho1 hd1 ?_);refine ab (wpAny_newTuple ?_ hV6);refine ab (wpAny_newList ?_ (bj _));refine aN ?_;have ho6:(((s.heap.update a (Obj.mapSeq λ_=>#[])).push (seqObj "tuple" Vs.toArray 0)).push (seqObj "list" #[] 0)).get? a=some (o.mapSeq λ_=>#[]):=am _ (am _ ho1);have keep:∀b o,b≠a->s.heap.get? b=some o->(((s.heap.update a (Obj.mapSeq λ_=>#[])).push (seqObj "tuple" Vs.toArray 0)).push (seqObj "list" #[] 0)).get? b=some o:=λb o hb e=>by
  refine am _ (am _ ?_);rw[Heap.get?_update_ne _ _ _ _ hb];exact e
 show wpAny (model prog w) A _ P E { s with heap:=((s.heap.update a (Obj.mapSeq λ_=>#[])).push (seqObj "tuple" Vs.toArray 0)).push (seqObj "list" #[] 0)};refine uD (s:={ s with heap:=((s.heap.update a (Obj.mapSeq λ_=>#[])).push (seqObj "tuple" Vs.toArray 0)).push (seqObj "list" #[] 0)}) (ks:=Vs) (vs:=Vs) (Us:=Ws.zip Ws) (κ:=κ) rfl ?_ (by rw[List.length_zip,Nat.min_self];exact h6) (λh2 Q=>hk (by rw[List.length_zip,Nat.min_self]at h2;exact h2) _ Q keep) (λi j U W C e1 e2 hij=>?_) λst' h1 h2=>?_
 ·have:∀l:List Value,l.zip l=l.map λv=>(v,v):=λl=>by induction l with | nil=>rfl | cons x r ih=>exact aB _ ih
  rw[this,this];exact hp.map _
 ·have f1:=List.getElem?_zip_eq_some.mp e1
  have f2:=List.getElem?_zip_eq_some.mp e2;exact hlt i j _ _ _ C f1.1 f2.1 hij keep
 ·dsimp only
  refine ab (seqEpoch_at ho6 hd1 ?_);rw[h1,h2,List.map_snd_zip (ad _)];refine ab (listUpdate_at ho6 hd1 ?_ (bj _) (dk (hfit _ h6)));rw[bQ,aF ah];exact af h
theorem iQ{h:Heap}{a:Addr}{Vs:Array Value}{Ws:List Value}(hP:PlainL h a Vs):PlainL (sortedHeap h a Vs.toList Ws.toArray) a Ws.toArray:=by
 refine fR hP λo n ho hc hdn hd=>?_;obtain⟨e1,hd1⟩:=Obj.data_mapSeq hd (λ_=>(#[]:Array Value));obtain⟨e2,hd2⟩:=Obj.data_mapSeq hd1 (λ_=>Ws.toArray);have ho1:(h.update a (Obj.mapSeq λ_=>#[])).get? a=some (o.mapSeq λ_=>#[]):=ba _ ho (Obj.isFreed_of_seq hd1);have ho6:(((h.update a (Obj.mapSeq λ_=>#[])).push (seqObj "tuple" Vs.toList.toArray 0)).push (seqObj "list" #[] 0)).get? a=some (o.mapSeq λ_=>#[]):=am _ (am _ ho1);refine⟨_,e2,ba _ ho6 (Obj.isFreed_of_seq hd2),?_,?_,hd2⟩
 ·rw[Obj.cls_mapSeq,Obj.cls_mapSeq];exact hc
 ·obtain⟨c,d,dt,sl⟩:=o
  cases(show dt=_ from hd);exact hdn
theorem gK{h:Heap}{a:Addr}{Vs:List Value}{Ws:Array Value}:∀b o,b≠a->h.get? b=some o->(sortedHeap h a Vs Ws).get? b=some o:=λb o hb e=>by
 rw[sortedHeap_old hb (bk e)];exact e
theorem xF{a kS:Addr}{ks vs:List Value}{Us:List (Value×Value)}{e1 e:Nat}{P:PySem.Fin->Shared->Prop}(hoa:s.heap.get? a=some (seqObj "list" #[] e1)){ok:Obj}(hok:s.heap.get? kS=some ok)(hokd:ok.data = .seq ks.toArray e)(hne:kS≠a)
  (hl:ks.length=vs.length) (hp:(ks.zip vs).Perm Us) (h6:vs.length<=6)
  (hk:2<=Us.length->∀(Q:SortKind->Shared->Prop),Q oneType' s->wpAny (model prog w) A (keyKind' ks.toArray) Q (λ_ _=>False) s)
  (hlt:∀(i j:Nat) (U W:Value×Value) (C:Bool->Shared->Prop),Us[i]? = some U->Us[j]? = some W->i≠j->C (decide (i<j)) s->wpAny (model prog w) A (keyLt' oneType' U.1 W.1) C (λ_ _=>False) s)
  (h:∀h' c,(∀b o,b≠a->b≠kS->s.heap.get? b=some o->h'.get? b=some o)->h'.get? a=some (seqObj "list" (Us.map (·.2)).toArray c)->P (.done (.ret .none)) { s with heap:=h'}) :
  wpAny (model prog w) A (ksk_end a false vs.toArray e1 (.ref kS) ks.toArray) P E s:=by
 have hfit:∀k,k<=6->k<=sizeLine:=λk hk=>ae hk (by rw[sizeLine_eq];decide);have hU:Us.length<=6:=by rw[<-hp.length_eq,List.length_zip,hl,Nat.min_self];exact h6
 unfold ksk_end;simp only[aX,cm];refine uD (ks:=ks) (vs:=vs) hl hp hU hk hlt λst q1 q2=>?_;show wpAny (model prog w) A (ksk_tail a false e1 (.ref kS) st) P E s;unfold ksk_tail;dsimp only;rw[q1,q2];have s1:=bD s.heap kS (Obj.mapSeq λ_=>(#[]:Array Value));refine ab (listUpdate_at hok hokd ?_ (hfit ks.length (ae (aL hl) h6)) (bj _));refine ab (wpAny_letGo ?_);have ha2:=(s1.2 a hne.symm).trans hoa;refine ab (seqEpoch_at ha2 rfl ?_);rw[aF ah];have hc:=get?_update_seq ha2 λ_=>(Us.map (·.2)).toArray;refine ab (listUpdate_at ha2 rfl ?_ (bj _) (dk (hfit (Us.map (·.2)).length (by rw[aq];exact hU))));rw[bQ,aF ah];refine af (h _ _ (λb o hb hbk e=>?_) hc);rw[Heap.get?_update_ne _ _ _ _ hb,s1.2 b hbk];exact e
end
section
variable {α β:Type} {P:Prop} {lt:α->α->Option Bool}
theorem hdE{xs:List α}{k:α->Option β}{z:β}(h:hd xs k=some z)(w:∀x r,xs=x::r->k x=some z->P):P:=by cases xs with | nil=>exact nn h | cons x r=>exact w x r rfl h
theorem pn{x:α}:∀{l m:List α},uh lt x l=some m->m.Perm (x::l)
 | [],m,h=>so h λe=>e ▸ .refl _
 |y::r,m,h=>mI h (λ_ h=>so h λe=>e ▸ .refl _) (λ_ h=>dq h λm' h1 h=>so h λe=>e▸((pn h1).cons y).trans (.swap x y r)) nn
theorem ie:∀{l m:List α},jR lt l=some m->m.Perm l
 | [],m,h=>so h λe=>e ▸ .refl _
 |x::r,m,h=>dq h λm' h1 h2=>(pn h2).trans ((ie h1).cons x)
theorem noE{o:Option Bool}(h:no o=true):o=some false:=by cases o with | none=>exact fT h | some b=>cases b with | false=>rfl | true=>exact fT h
theorem ky:∀{l:List α},gB lt l=true->∀(i j:Nat) (a b:α),l[i]? = some a->l[j]? = some b->i≠j->lt a b=some (decide (i<j))
 | [],_,i,j,a,b,e,_,_=>nn e
 |x::r,h,i,j,a,b,e,f,hij=>by
  have h:=aa (p:=r.all λy=>yes (lt x y)&&no (lt y x)) (q:=gB lt r) h;have key:∀y,y∈r->lt x y=some true/\lt y x=some false:=λy hy=>have q:=aa (aA.mp h.1 y hy);⟨KO q.1,noE q.2⟩;cases i with
  |zero=>cases j with
   |zero=>exact absurd rfl hij
   |succ j=>rw[<-ak e,(key b (aQ f)).1];rfl
  |succ i=>cases j with
   |zero=>rw[<-ak f,(key a (aQ e)).2];rfl
   |succ j=>
    rw[ky h.2 i j a b e f λe=>hij (by rw[e])];exact aB some (decide_eq_decide.mpr ⟨Nat.succ_lt_succ,Nat.lt_of_succ_lt_succ⟩)
theorem uO{l:List α}(h:gB lt l=true){i j:Nat}{a b:α}(e1:l[i]? = some a)(e2:l[j]? = some b)(hij:i≠j):lt a b=some (decide (i<j))/\lt b a=some (decide (j<i))/\(decide (i<j)=true\/decide (j<i)=true):=
 ⟨ky h i j a b e1 e2 hij,ky h j i b a e2 e1 (cL hij),(Nat.lt_or_gt_of_ne hij).imp (λh=>aS h) λh=>aS h⟩
end
section
variable {I:AV->Value->Prop} {xs ys:List AV} {Vs:List Value}
theorem L2.perm(i:L2 I xs Vs)(p:ys.Perm xs):∃Ws,Vs.Perm Ws/\L2 I ys Ws:=by
 induction p generalizing Vs with
 |nil=>exact⟨Vs,.refl _,i⟩
 |cons x _ ih=>
  refine dx i λV Ws e i1 i2=>?_;refine dm (ih i2) λW' p' i'=>?_;exact⟨V::W',by rw[e];exact p'.cons V,L2.cons i1 i'⟩
 |swap x y l=>
  refine dx i λV Ws e i1 OA=>?_;refine dx OA λV' Ws' e' i3 i4=>?_;exact⟨V'::V::Ws',by rw[e,e'];exact .swap _ _ _,L2.cons i3 (L2.cons i1 i4)⟩
 |trans _ _ ih1 ih2=>
  refine dm (ih2 i) λW1 p1 j1=>?_;refine dm (ih1 j1) λW2 p2 j2=>?_;exact⟨W2,p1.trans p2,j2⟩
theorem L2.mem(i:L2 I xs Vs):∀V∈Vs,∃a∈xs,I a V:=by
 induction xs generalizing Vs with
 |nil=>intro V hV;rw[show Vs=[] from i]at hV;cases hV
 |cons x xs ih=>
  refine dx i λV Ws e i1 i2=>?_;intro W hW;rw[e]at hW;rcases aH.mp hW with q | q
  ·exact⟨x,.head _,q▸i1⟩
  ·refine dm (ih i2 W q) λa h1 h2=>?_;exact⟨a,.tail _ h1,h2⟩
end
section
variable {cx:Cx} {d n m:Nat} {H H':TH} {HL:List AO} {r a b v:AV} {A:Around} {s U4 s' h:Shared} {ρ:Nat->Addr} {E:Value->Shared->Prop} {i j:Nat} {xs ys args:List AV} {x y:List Nat}
theorem oe(h:isI a=true):∃i,a = .int i:=(cH.mp h).elim λz q=>dM q λi e _=>⟨i,e⟩
theorem mM(h:isS a=true):∃i,a = .str i:=(cH.mp h).elim λz q=>dL q λi e _=>⟨i,e⟩
theorem uZ(h:isT a=true):∃i r,a = .tup (.str i::r):=(cH.mp h).elim λz q=>uE q λi e q=>hdE q λx r e2 q=>dL q λy e3 _=>⟨y,r,by rw[e,e2,e3]⟩
noncomputable abbrev Fz(h s':Shared):Prop:=∀p o,h.heap.get? p=some o->ff o=true->s'.heap.get? p=some o
structure w7 (cx:Cx) (p:AV->Bool) (κ:SortKind):Prop where
 kind:∀{ys Vs h s' ρ n A E} {Q:SortKind->Shared->Prop},(∀a∈ys,p a=true)->2<=ys.length->IsL cx h ρ n ys Vs->Fz h s'->Q κ s'->wpAny (model pw cx.w) A (keyKind' Vs.toArray) Q E s'
 lt:∀{a b V W h s' ρ n A} {C:Bool->Shared->Prop} {x y:Bool},p a=true->p b=true->ltK a b=some x->ltK b a=some y->(x=true\/y=true)->Is cx h ρ n a V->Is cx h ρ n b W->Fz h s'->C x s'->wpAny (model pw cx.w) A (keyLt' κ V W) C (λ_ _=>False) s'
theorem J9:w7 cx isI oneType' where
 kind:=λhp h2 i _ hQ=>kas_kind (T:=.type "int") (by rw[<-i.len];exact h2) (λV hm=>by
  refine dm (i.mem V hm) λa ha ia=>?_;obtain⟨k,e⟩:=oe (hp a ha);rw[e]at ia;refine dm ia λt e _=>?_;rw[e];exact Looks.of_pure rfl) (by decide) (by decide) hQ
 lt:=λh1 h2 h3 _ _ iV iW _ hC=>by
  obtain⟨k,e⟩:=oe h1;obtain⟨l,e'⟩:=oe h2;rw[e]at iV;rw[e']at iW;rw[e,e']at h3;refine dm iV λt q _=>?_;refine dm iW λu q' _=>?_;rw[q,q'];refine kat_lt_int ?_;rw[show decide (k<l)=_ from ak h3];exact hC
theorem Ji:w7 cx isS oneType' where
 kind:=λhp h2 i _ hQ=>kas_kind (T:=.type "str") (by rw[<-i.len];exact h2) (λV hm=>by
  refine dm (i.mem V hm) λa ha ia=>?_;obtain⟨k,e⟩:=mM (hp a ha);rw[e]at ia;obtain⟨t,e⟩:=ia;rw[e];exact Looks.of_pure rfl) (by decide) (by decide) hQ
 lt:=λh1 h2 h3 _ _ iV iW _ hC=>by
  obtain⟨k,e⟩:=mM h1;obtain⟨l,e'⟩:=mM h2;rw[e]at iV;rw[e']at iW;rw[e,e']at h3;obtain⟨t,q⟩:=iV;obtain⟨u,q'⟩:=iW;rw[q,q'];have h3:orO (gu k l) none=some _:=h3;refine kas_lt_str ?_;rw[jM cx.σ (orE h3 id nn)];exact hC
theorem M5(hz:∀a∈ys,isT a=true){Us}(j:IsL cx h ρ n ys Us)(keep:Fz h s'):∃fs,KatTups s'.heap Us fs/\fs.length=ys.length/\∀f∈fs,∃x t,f=Value.str x t:=by
 induction ys generalizing Us with
 |nil=>rw[show Us=[] from j];exact⟨[],.nil,rfl,λf hf=>nomatch hf⟩
 |cons z zs ih=>
  refine dx j λV Ws e i1 i2=>?_;refine dz (ih (λa ha=>hz a (.tail _ ha)) i2) λfs k1 k2 k3=>?_;refine fA (uZ (hz z (.head _))) λl r ez=>?_;rw[ez]at i1;refine gw i1 λpa Ps ep eV hP OA=>?_;refine dx OA λU Pr eP OC j2=>?_;refine mN OC λt j1=>?_;have h0:Ps[0]? = some (.str (rs cx.σ l) t):=by rw[<-bz,eP,j1];rfl
  rw[e,eV];exact⟨_::fs,.cons (keep _ _ hP rfl) rfl rfl h0 k1,aB Nat.succ k2,λf hf=>(aH.mp hf).elim (λq=>⟨_,_,q⟩) (k3 f)⟩
theorem pO(σ:eO){t:Bool}(h:gu x y=some t)(e:rs σ x=rs σ y):t=false:=by
 have:=(pj σ h);rw[vh.mp e]at this;exact Bool.eq_false_iff.mpr λq=>List.lt_irrefl _ (this.mpr q)
theorem Jr:w7 cx isT (tuples' true) where
 kind:=λhp h2 i keep hQ=>by
  refine dz (M5 hp i keep) λfs k1 k2 k3=>?_;refine kat_kind (T:=.type "str") k1 (by rw[k2];exact av (bI 1) h2) (λf hf=>?_) (by decide) hQ;refine fA (k3 f hf) λx t e=>?_;rw[e];exact Looks.of_pure rfl
 lt:=λh1 h2 h3 h4 hxy iV iW keep hC=>by
  refine fA (uZ h1) λl r e=>?_;refine fA (uZ h2) λm q e'=>?_;rw[e]at iV;rw[e']at iW;rw[e,e']at h3 h4;have h3:gu l m=some _:=h3;have h4:gu m l=some _:=h4;refine gw iV λpa Vs ep f1 hV OA=>?_;refine dx OA λU Vr eV OC i2=>?_;refine mN OC λt i1=>?_;refine gw iW λpb Ws eq f2 hW OD=>?_;refine dx OD λU' Wr eW OF j2=>?_;refine mN OF λu j1=>?_;have hne:decide (rs cx.σ l=rs cx.σ m)=false:=bM λe=>by
   rw[pO cx.σ h3 e,pO cx.σ h4 e.symm]at hxy;exact hxy.elim (λz=>nomatch z) λz=>nomatch z
  rw[f1,f2];refine kat_lt (keep _ _ hV rfl) rfl (keep _ _ hW rfl) rfl ?_;rw[eV,eW,i1,j1,List.zip_cons_cons];refine kat_cons (wpAny_eqBool_str ?_);rw[hne];refine kat_no ?_;show wpAny _ _ (oneLt' true _ _) _ _ _;exact oneLt_str (by rw[show decide ((rs cx.σ l).cps.toList<(rs cx.σ m).cps.toList)=_ from jM cx.σ h3];exact hC)
theorem Ek(h:o7 ys=true):∃p κ,w7 cx p κ/\∀a∈ys,p a=true:=
 (orb h).elim (λh=>(orb h).elim (λh=>⟨_,_,J9,aA.mp h⟩) λh=>⟨_,_,Ji,aA.mp h⟩) λh=>⟨_,_,Jr,aA.mp h⟩
structure oF (xs ys:List AV):Prop where
 p:ys.Perm xs
 st:gB ltK ys=true
 k:o7 ys=true
 l:ys.length<=6
theorem n9(h:mX xs=some ys):oF xs ys:=dq h λzs h1 h=>ifE h λq h=>so h λe=>e▸⟨ie h1,(aa (aa q).1).1,(aa (aa q).1).2,leb (aa q).2⟩
theorem oF.run(R:oF xs ys){a:Addr}{ne:Nat}{Vs:List Value}{Pf:PySem.Fin->Shared->Prop}{o:Obj}(ho:s.heap.get? a=some o)(hdo:o.data = .seq Vs.toArray ne)(hfo:ff o=false)(i:IsL cx s ρ n xs Vs)
  (h:∀Ws,IsL cx s ρ n ys Ws->Pf (.done (.ret .none)) { s with heap:=sortedHeap s.heap a Vs Ws.toArray}):wpAny (model pw cx.w) A (Builtin.«list.sort» ⟨[.ref a],[]⟩) Pf E s:=by
 refine dm (i.perm R.p) λWs hp iW=>?_;refine kK (Ek (cx:=cx) R.k) λp κ K hk=>?_;have fz:∀s':Shared,(∀b o,b≠a->s.heap.get? b=some o->s'.heap.get? b=some o)->Fz s s':=λs' k p ob e f=>k p ob (λq=>by rw[q,ho]at e;obtain rfl:=ak e;rw[hfo]at f;exact fT f) e;refine rf (κ:=κ) ho hdo hp (by rw[<-iW.len];exact R.l) (λhge s' Q keep hQ=>?_) (λj k V W s' C e1 e2 hjk keep hC=>?_) (h Ws iW)
 ·exact K.kind (λa ha=>hk a (R.p.mem_iff.mpr ha)) (by rw[<-R.p.length_eq,iW.len];exact hge) i (fz s' keep) hQ
 ·have hj:j<ys.length:=by rw[iW.len];exact(aG.mp e1).1
  have hk':k<ys.length:=by rw[iW.len];exact(aG.mp e2).1
  refine iW.getE (au hj) λV' e1' iV=>iW.getE (au hk') λW' e2' iW'=>?_;rw[e1]at e1';rw[e2]at e2';rw[<-ak e1']at iV;rw[<-ak e2']at iW';have t:=uO R.st (au hj) (au hk') hjk;exact K.lt (hk _ (ci hj)) (hk _ (ci hk')) t.1 t.2.1 t.2.2 iV iW' (fz s' keep) hC
theorem du.sort(hx:HL[i]? = some (.list xs))(R:oF xs ys):du cx d "list.sort" [.ref i] HL .none (HL.set i (.list ys)):=
 du.mk1 (by rw[aE];exact ad _) λ{A s ρ V Q E} u iV W=>by
  refine dm (u.sr.own _ _ hx) λXs hP lx=>?_;refine fR (id hP) λo n ho hc hdn hd=>?_;rw[iV.1];refine cg slot_list_sort hP.isList.typeIs entry_list_sort (R.run ho (Vs:=Xs.toList) hd (by unfold ff;rw[hd,hc];rfl) lx λWs iW=>⟨_,rfl,?_⟩) (args_list_sort _);have key:=u.sr.set (hp:=sortedHeap s.heap (ρ i) Xs.toList Ws.toArray) (t:=s.toks) (o':=.list ys) u.g.toGood hx rfl (λa o ha e=>gK a o ha e) (ad _) λE=>⟨_,iQ hP,IsL.ext u.g.toGood E (ad _) iW⟩;exact W _ _ ρ key.1 rfl key.2
theorem Ae(h:F1 args H=some (r,H')):du cx d "list.sort" args H.L r H'.L:=
 l1E h λa e h=>dP h λi e' h=>dG h λxs hx h=>dq h λys hs h=>du.to h (du.of1 e e' (by rw[gN hx];exact du.sort (dA hx) (n9 hs)))
theorem w8{Vs:Array Value}{n:Nat}:ff (seqObj "list" Vs n)=false:=by kernel_rfl
theorem K3{hp:Heap}{Vs:List Value}{Ws:Array Value}{a:Addr}{o:Obj}(e:(hp.push (seqObj "list" Vs.toArray 0)).get? a=some o)(f:ff o=true):(sortedHeap (hp.push (seqObj "list" Vs.toArray 0)) hp.objs.size Vs Ws).get? a=some o:=
 gK a o (λq=>by
  rw[q,aw _ (rfl:(seqObj "list" Vs.toArray 0).isFreed=false)]at e;rw[<-ak e,w8]at f;exact fT f) e
theorem m3(u:Un cx d HL A s ρ)(R:oF xs ys){Vs:List Value}{Q:Value->Shared->Prop}{A':Around}{hp:Heap}{tk:Nat}(hk:∀b o,s.heap.get? b=some o->hp.get? b=some o)(htk:s.toks<=tk)
  (i:IsL cx { s with heap:=hp,toks:=tk} ρ HL.length xs Vs) (W:gy cx ρ HL s (.ref HL.length) (HL++[.list ys]) Q) :
  wpAny (model pw cx.w) A' (newList Vs) (λl U6=>wpAny (model pw cx.w) A' (call (.builtin "list.sort") [l]) (λ_ U7=>Q l U7) E U6) E { s with heap:=hp,toks:=tk}:=by
 have g:=u.g.toGood;have hVl:Vs.length<=sizeLine:=by rw[<-i.len,<-R.p.length_eq];exact ae (ae R.l (show 6<=dn by decide)) dB
 have f1:=u.sr.grow g (hp:=hp) (t:=tk) hk htk;refine wpAny_newList ?_ hVl;have ho:(hp.push (seqObj "list" Vs.toArray 0)).get? hp.objs.size=some (seqObj "list" Vs.toArray 0):=aw _ rfl;have N7:Ext ρ HL.length { s with heap:=hp,toks:=tk} ρ { s with heap:=hp.push (seqObj "list" Vs.toArray 0),toks:=tk}:=⟨λ_ _=>rfl,λa o e _=>am _ e,ad _⟩;have hP:PlainL (hp.push (seqObj "list" Vs.toArray 0)) hp.objs.size Vs.toArray:=⟨_,0,ho,rfl,rfl,rfl⟩;have fin:∀Ws,IsL cx { s with heap:=hp.push (seqObj "list" Vs.toArray 0),toks:=tk} ρ HL.length ys Ws->Q (.ref hp.objs.size) { s with heap:=sortedHeap (hp.push (seqObj "list" Vs.toArray 0)) hp.objs.size Vs Ws.toArray,toks:=tk}:=λWs iW=>by
  have N9:∀{ρ'},(∀i,i<HL.length->ρ' i=ρ i)->Ext ρ HL.length { s with heap:=hp.push (seqObj "list" Vs.toArray 0),toks:=tk} ρ' { s with heap:=sortedHeap (hp.push (seqObj "list" Vs.toArray 0)) hp.objs.size Vs Ws.toArray,toks:=tk}:=λag=>⟨ag,λa o=>K3,ad _⟩;have hPl:PlainL (sortedHeap (hp.push (seqObj "list" Vs.toArray 0)) hp.objs.size Vs Ws.toArray) hp.objs.size Ws.toArray:=iQ hP;have hkk:∀b o,hp.get? b=some o->(sortedHeap (hp.push (seqObj "list" Vs.toArray 0)) hp.objs.size Vs Ws.toArray).get? b=some o:=λb o e=>gK b o (aO (bk e)) (am _ e);have hE:=λρ'=>@N9 ρ';generalize sortedHeap (hp.push (seqObj "list" Vs.toArray 0)) hp.objs.size Vs Ws.toArray=hz at hPl hkk hE ⊢;have key:=f1.1.add (hp:=hz) (t:=tk) (o:=.list ys) g (f1.1.none_at (ad hp.objs.size)) (λi p e al=>aO (f1.1.lt g e al)) (ad _) hkk λE'=>⟨Ws.toArray,hPl,IsL.ext g (hE _ E'.ag) (aC _) iW⟩;exact W _ _ _ key.1 (oK (by rw[az];exact aD _)) (f1.2.trans (ad _) key.2)
 have ty:Shared.TypeIs { s with heap:=hp.push (seqObj "list" Vs.toArray 0),toks:=tk} (.ref hp.objs.size) "list":=⟨_,ho,rfl⟩;have i2:=IsL.ext g N7 (ad _) i;refine cg slot_list_sort ty entry_list_sort ?_ (args_list_sort _);exact R.run (cx:=cx) (ρ:=ρ) (n:=HL.length) (s:={ s with heap:=hp.push (seqObj "list" Vs.toArray 0),toks:=tk}) ho rfl w8 i2 λWs iW=>⟨_,rfl,fin Ws iW⟩
theorem mQ(v:Value){Q:Value->Shared->Prop}(h:wpAny (model pw cx.w) A.in1 (collect v) (λxs U4=>wpAny (model pw cx.w) A.in1 (newList xs) (λl U6=>wpAny (model pw cx.w) A.in1 (call (.builtin "list.sort") [l]) (λ_ U7=>Q l U7) E U6) E U4) E s):
  wpAny (model pw cx.w) A (call (.builtin "sorted") [v]) Q E s:=by
 refine Calls.call_function_entry kind_sorted plain_sorted entry_sorted (args_sorted1 _) ?_;unfold Builtin.«sorted»;refine ab (m:=checkCount "sorted" 1 1 _) (af ?_);refine ab (bq h (λxs U4 S5=>ab (bq S5 (λl U6 S7=>?_) λ_ _ e=>e)) λ_ _ e=>e);exact ab (aN (bq S7 (λ_ U7 S8=>af ⟨_,rfl,S8⟩) λ_ _ e=>e))
theorem du.sortedL(hx:HL[i]? = some (.list xs))(R:oF xs ys):du cx d "sorted" [.ref i] HL (.ref HL.length) (HL++[.list ys]):=
 du.mk1 (eQ _ _) λ{A s ρ V Q E} u iV W=>by
  refine dm (u.sr.own _ _ hx) λXs hP lx=>?_;rw[iV.1];have hk:∀b o,s.heap.get? b=some o->((s.heap.push (seqObj "list" #[] 0)).update s.heap.objs.size (Obj.mapSeq (·++Xs.toList.toArray))).get? b=some o:=λb o e=>by
   rw[Heap.get?_update_ne _ _ _ _ (aO (bk e))];exact am _ e
  refine mQ (cx:=cx) _ (collect_list (vs:=Xs.toList) hP.isList ?_ (by rw[<-lx.len,<-R.p.length_eq];exact ae (ae R.l (show 6<=dn by decide)) dB));exact m3 u R hk (ad _) (IsL.ext u.g.toGood (u.sr.grow u.g.toGood hk (ad _)).2 (ad _) lx) W
theorem DR.perm{k' k:List (Str×Value)}(hp:k'.Perm k):∀{es:List (List Nat×AV)},DR cx h ρ n es k'->∃es',es'.Perm es/\DR cx h ρ n es' k:=by
 induction hp with
 |nil=>exact λ{es} R=>⟨es,.refl _,R⟩
 |cons x _ ih=>
  intro es R;cases es with
  |nil=>cases R.nil
  |cons p r=>
   refine dx (DR.uncons R) λV r' e i1 R'=>?_;cases e;refine dm (ih R') λes' q R''=>?_;exact⟨p::es',q.cons _,DR.cons i1 R''⟩
 |swap x y l=>
  intro es R;cases es with
  |nil=>cases R.nil
  |cons p es=>
   refine dx (DR.uncons R) λV r' e i1 R'=>?_;cases e;cases es with
   |nil=>cases R'.nil
   |cons q r=>
    refine dx (DR.uncons R') λV' r'' e i2 R''=>?_;cases e;exact⟨q::p::r,.swap _ _ _,DR.cons i2 (DR.cons i1 R'')⟩
 |trans _ _ ih1 ih2=>
  intro es R;refine dm (ih1 R) λe1 q1 R1=>?_;refine dm (ih2 R1) λe2 q2 R2=>?_;exact⟨e2,q2.trans q1,R2⟩
theorem du.sortedI{es:List (List Nat×AV)}(hx:HL[i]? = some (.dict es)\/HL[i]? = some (.bag es))(hf:∀p∈es,ja p.2=true)(R:oF (jm es) ys):du cx d "sorted" [.itm i] HL (.ref HL.length) (HL++[.list ys]):=
 du.mk1 (eQ _ _) λ{A s ρ V Q E} u iV W=>by
  refine dz iV λp e hv hi=>?_;have key:∃kvs kvs' ep,kvs'.Perm kvs/\s.heap.DictAt (PySem.strKind pw cx.w) (ρ i) kvs ep/\DR cx s ρ HL.length es kvs':=hx.elim
   (λhx=>by refine dz (u.sr.own _ _ hx) λkvs OA l1 l2=>?_;refine sM OA λo as ep r=>?_;exact⟨kvs,kvs,ep,.refl _,⟨o,as,r⟩,l1,l2⟩)
   λhx=>by refine fR (u.sr.own _ _ hx) λkvs' kvs pm OC l1 l2=>?_;refine sM OC λo as ep r=>?_;exact⟨kvs,kvs',ep,pm,⟨o,as,r⟩,l1,l2⟩
  refine gw key λkvs kvs' ep hpm hD D=>?_;have hkl:kvs.length<=sizeLine:=by
   rw[<-hpm.length_eq,jc D.1,show es.length=(jm es).length from(aq ..).symm,<-R.p.length_eq];exact ae (ae R.l (show 6<=dn by decide)) dB
  rw[e];refine mQ (cx:=cx) _ (cI (ad _) (kdx_collect (knd:=PySem.strKind pw cx.w) u.ok.hd ⟨_,hv,rfl,rfl⟩ hD hkl λh' tk as hk hal hG htk=>?_));have f1:=u.sr.grow u.g.toGood (hp:=h') (t:=tk) hk htk;refine dm (DR.perm hpm (⟨D.1,IsL.ext u.g.toGood f1.2 (ad _) D.2⟩:DR cx { s with heap:=h',toks:=tk} ρ HL.length es kvs')) λes' hpe P3=>?_;have il:=tc (h:={ s with heap:=h',toks:=tk}) hG hal (λp hp=>hf p (hpe.mem_iff.mp hp)) P3;exact m3 u ⟨R.p.trans (hpe.symm.map _),R.st,R.k,R.l⟩ hk htk il W
theorem rE{es:List (List Nat×AV)}(h:vm es=some xs):xs=jm es/\∀p∈es,ja p.2=true:=ifE h λq h=>so h λe=>⟨e.symm,aA.mp q⟩
theorem vG(h:v8 args H=some (r,H')):du cx d "sorted" args H.L r H'.L:=
 l1E h λa e h=>dq h λxs hx h=>dq h λys hs h=>kI h λer eH=>by
  rw[er,eH];have R:=n9 hs;exact orE hx (λhx=>dP hx λi e' hx=>dG hx λxs' hg hx=>so hx λe2=>du.of1 e e' (du.sortedL (dA hg) (e2▸R)))
   λhx=>ME hx λi e' hx=>orE hx (λhx=>gJ hx λes hg hx=>du.of1 e e' (du.sortedI (.inl (dA hg)) (rE hx).2 ((rE hx).1▸R)))
    λhx=>qh hx λes hg hx=>du.of1 e e' (du.sortedI (.inr (dA hg)) (rE hx).2 ((rE hx).1▸R))
end
noncomputable def Na(n:Nat):List Nat:=(lk n [(0,[38]),(1,[60]),(2,[34]),(3,[9]),(4,[10])]).getD [13]
noncomputable def MQ(n:Nat):List Nat:=(lk n [(0,[38,97,109,112,59]),(1,[38,108,116,59]),(2,[38,113,117,111,116,59]),(3,[38,35,120,57,59]),(4,[38,35,120,65,59])]).getD [38,35,120,68,59]
noncomputable def gA(q k:Nat):List Nat:=ifB (Nat.ble k 3) (Na (Nat.mod (q+k) 6)) (ifB (Nat.ble k 7) (MQ (Nat.mod (q+(k - 4)) 6)) [])
noncomputable def Cx.at(cx:Cx)(h:Heap):Cx:={ cx with hs:=h}
structure dF (cx:Cx) (K:Frag):Prop where
 cok:Cok cx
 cod:Mk cx
 kc:KC cx K
 kc2:KC2 cx K
 nm:NM cx
 fk:EO cx
 hnm:Hnm cx
 hdm:Hdm cx
 op:∃q,q<6/\cx.opq=gA q
section
variable {cx:Cx} {K:Frag} {h:Heap} {n:Nat} {ft:FT} {fd:FuncData} {body:List Stmt}
theorem FnK.at(X:FnK cx n ft fd body)(k:∀a o,cx.hs.get? a=some o->h.get? a=some o):FnK (cx.at h) n ft fd body:=
 { X with ob:=dm X.ob λo e r=>⟨o,k _ _ e,r⟩,crec:=X.crec.keeps k,bind:=λN o args kws bs a1 a2 s ρ n Vs Ks hk l1 l2=>X.bind N o args kws bs a1 a2 s ρ n Vs Ks (λa o e=>hk a o (k a o e)) l1 l2}
theorem Cok.at(X:Cok cx)(k:∀a o,cx.hs.get? a=some o->h.get? a=some o):Cok (cx.at h) where
 opl:=X.opl
 clo:=X.clo
 tab:=X.tab
 tabO:=X.tabO
 lim:=dm X.lim λmc a b=>⟨mc,a.keeps k,b⟩
 mods:=λe=>by
  cases q:cx.hs.get? sysModules with
  |none=>exact X.mods q
  |some o=>exact nomatch (k _ _ q).symm.trans e
 nb:=dm X.nb λmc y q=>gv y λo es ep e r=>⟨mc,⟨o,es,ep,k _ _ e,r⟩,q⟩
 glob:=dx X.glob λmg mb a b r=>⟨mg,mb,a.keeps k,b.keeps k,r⟩
theorem dF.at(X:dF cx K)(k:∀a o,cx.hs.get? a=some o->h.get? a=some o):dF (cx.at h) K where
 cok:=X.cok.at k
 cod:={
  clo:=X.cod.clo
  tab:=X.cod.tab
  hd:=λi=>Go (X.cod.hd i) λo vs file tf flags tg inF text tt e r=>⟨o,vs,file,tf,flags,tg,inF,text,tt,k _ _ e,r⟩
  mg:=dm X.cod.mg λmg a r=>⟨mg,a.keeps k,λi=>wq (r i) λbm o e1 e2 e3 e4 e5 r=>⟨bm,o,e1,e2,e3,e4,k _ _ e5,r⟩⟩}
 kc:={ X.kc with inn:=λa o e=>k _ _ (X.kc.inn a o e)}
 kc2:={ X.kc2 with inn:=λa o e=>k _ _ (X.kc2.inn a o e)}
 nm:=kK X.nm λkvs ep y q=>kK y λo es e r=>⟨kvs,ep,⟨o,es,k _ _ e,r⟩,q⟩
 fk:=λn ft hf=>fA (X.fk n ft hf) λfd body x=>⟨fd,body,x.at k⟩
 hnm:=dm X.hnm λo e r=>⟨o,k _ _ e,r⟩
 hdm:=jL X.hdm λkvs o es ep e r=>⟨kvs,o,es,ep,k _ _ e,r⟩
 op:=X.op
end
noncomputable def jt(h:Heap)(a:Addr)(k:List Str):Prop:=∃(o:Obj) (n:Nat) (l:List (Str×Tok)),h.get? a=some o/\o.cls = .type "list"/\o.data = .seq (l.map λp=>Value.str p.1 p.2).toArray n/\l.map (·.1)=k
theorem gT:∀{ys:List AV} {ks:List (List Nat)},jV ys=some ks->ys=ks.map AV.str
 | [],ks,h=>so h λe=>e▸rfl
 |y::r,ks,h=>dq h λk h1 h=>dq h λq h2 h=>so h λe=>dL h1 λl e1 h1=>so h1 λe2=>by rw[<-e,e1,e2,gT h2];rfl
section
variable {cx:Cx} {F:Fns} {d n m:Nat} {H H':TH} {HL O7 H₂:List AO} {r a b v:AV} {P:Prop} {A:Around} {s U4 s':Shared} {ρ V4:Nat->Addr} {E:Value->Shared->Prop} {i j:Nat} {ys:List AV} {x:List Nat} {K:Frag} {ft:FT} {ks:List (List Nat)}
theorem wt{h:Shared}:∀{ks:List (List Nat)} {Vs:List Value},IsL cx h ρ n (ks.map AV.str) Vs->∃l:List (Str×Tok),Vs=l.map (λp=>Value.str p.1 p.2)/\l.map (·.1)=ks.map (rs cx.σ)
 | [],Vs,i=>⟨[],i,rfl⟩
 |k::r,Vs,i=>by
  refine dx i λV Ws e OA i2=>?_;refine mN OA λt i1=>?_;refine dm (wt i2) λl e1 e2=>?_;exact⟨(_,t)::l,by rw[e,i1,e1];rfl,by rw[aM,e2];rfl⟩
theorem AH{h:Shared}{a:Addr}(x:OR cx h ρ n a (.list (ks.map .str))):jt h.heap a (ks.map (rs cx.σ)):=by
 refine dm x λVs OA i=>?_;refine fR OA λo m e1 e2 e3 e4=>?_;refine dm (wt i) λl f1 f2=>?_;exact⟨o,m,l,e1,e2,by rw[e4,<-f1],f2⟩
theorem SR.none(S:SR cx ρ HL s):SR (cx.at s.heap) ρ [] s:=⟨λ_ _ e=>e,λi o e=>(nomatch e),λi j oi oj e=>(nomatch e),λi o e=>(nomatch e),S.gens,S.os,S.tkn⟩
structure mL (cx:Cx) (s s':Shared):Prop where
 k:∀b o,s.heap.get? b=some o->s'.heap.get? b=some o
 t:s.toks<=s'.toks
 g:s'.gens=#[]
 o:s'.os=cx.os
theorem Hh(X:dF cx K)(KF:∀cx',dF cx' K->dC cx' F)(h:k7 F d ft x=some ks)(hk:ft.ks≠[]){q:Addr}{tk:Tok}{ρc:Nat->Addr}{Q:Value->Shared->Prop}
  (O:Ok A (d+1)) (S:SR cx ρ HL s) (iq:k6 ft [] ρc s.heap q) (W:∀s' a,mL cx s s'->s.heap.get? a=none->jt s'.heap a (ks.map (rs cx.σ))->Q (.ref a) s'):wpAny (model pw cx.w) A (call (.ref q) [.str (rs cx.σ x) tk]) Q E s:=by
 have Q8:=X.at S.keep;have O4:=KF _ Q8;obtain⟨fd,C⟩:=iq;refine l1E h λn ep h=>gx h λf H' hr h=>dP h λj ej h=>dG h λys hg h=>dq hr λO7 g1 hr=>dq hr λH₂ g2 hr=>?_;rcases C.body with ⟨hk',_⟩ | ⟨_,b,m,hb,hcv⟩
 ·exact absurd hk' hk
 rw[hcv]at hr;refine O4.ev hr λv O8 k1 h3=>?_;have q1:=mJ g1;have q2:=iJ (cx:=cx.at s.heap) g2;rw[q1]at q2;have hl:=q2.len;have hv:v = .ref j/\O8=H':=sp (P:=λf (H':TH)=>gp f = .ref j->v = .ref j/\O8=H') h3 (λe=>⟨e,rfl⟩) ej;rw[hv.1,hv.2]at k1;refine dm C.ob λo e1 e2=>?_;have iV:IsL (cx.at s.heap) s ρ 0 ([(n,AV.str x)].map (·.2)) [.str (rs cx.σ x) tk]:=L2.cons ⟨tk,rfl⟩ rfl;refine wpAny_call (kla_callFunE O.depth e1 e2 C.co C.gen hb C.crec ((BindsTo.of_eq (AM C.ar C.df (Vs:=[.str (rs cx.σ x) tk]) (by rw[ep];rfl)):BindsTo s fd _ _) _ _ _ _ ?_));rw[C.glob,C.clos,C.blt,ep];refine mx (cx:=cx.at s.heap) (H:=[]) (ρ:=ρ) (names:=ft.names) (clo:=[]) (bs:=[(n,AV.str x)]) (.inl rfl) Q8.cok C.sc (λp hp=>nomatch hp) (λe q=>nomatch q) S.none iV q2 λenv U4 V4 _ P8 P0 N0=>⟨Q8.cok.lim.keeps P8.keep,kla_codeExpr ?_⟩;refine k1.2 ⟨Q8.cok,O.deeper,P8,P0⟩ λV U6 ρ₂ P9 T5 N7=>?_;rw[T5.1];have hg:=dA hg;exact W _ _ ⟨P9.keep,ae N0.tk N7.tk,P9.gens,P9.os⟩ (P9.new j _ hg rfl) (AH (cx:=cx.at s.heap) (gT h▸P9.own j _ hg))
end
section
set_option backward.match.sparseCases true
noncomputable def ltL:List Str->List Str->Bool
 | [],[]=>false
 | [],_::_=>true
 |_::_,[]=>false
 |x::r,y::q=>if x=y then ltL r q else decide (x.cps.toList<y.cps.toList)
theorem Dq(m:List Str):ltL [] m=!m.isEmpty:=by cases m<;>rfl
theorem tV{x y:Str}{r q:List Str}:ltL (x::r) (y::q)=if x=y then ltL r q else decide (x.cps.toList<y.cps.toList):=rfl
theorem zv(σ:eO){x y:List Nat}:rs σ x=rs σ y↔x.map (ph σ)=y.map (ph σ):=vh
theorem wh(σ:eO):∀{x y:List (List Nat)} {t:Bool},xL x y=some t->ltL (x.map (rs σ)) (y.map (rs σ))=t
 | [],[],t,h=>so h λe=>e
 | [],_::_,t,h=>so h λe=>e
 |_::_,[],t,h=>so h λe=>e
 |x::r,y::q,t,h=>by
  rw[aM,aM,tV];exact mI h (λe h=>by rw[aI ((zv σ).mpr ((jT σ e).mpr rfl))];exact wh σ h) (λe h=>by
   rw[aF λq=>ah ((jT σ e).mp ((zv σ).mp q))];exact jM σ h) nn
section
variable {prog:Program} {w:World} {A:Around} {E:Value->Shared->Prop} {s:Shared}
noncomputable def oZ(l:List (Str×Tok)):Array Value:=(l.map λp=>Value.str p.1 p.2).toArray
theorem r8(l:List (Str×Tok))(i:Nat):(oZ l)[((i:Nat):Int).toNat]? = (l[i]?).map λp=>Value.str p.1 p.2:=by
 show(l.map _).toArray[i]? = _;rw[List.getElem?_toArray,aP]
theorem ny(l:List (Str×Tok)):(oZ l).size=l.length:=aq ..
theorem FX{hp:Heap}{g:Array GenState}{dr:Drawn}{tk:Nat}{os:OsState}{a b:Addr}{na nb:Nat}{da db:Option Addr}{sa sb:Array (Option Value)}{l m:List (Str×Tok)}{R:Result->Shared->Prop}
  (ha:hp.get? a=some { cls:=.type "list",dict:=da,data:=.seq (oZ l) na,slots:=sa}) (hb:hp.get? b=some { cls:=.type "list",dict:=db,data:=.seq (oZ m) nb,slots:=sb}) :
  ∀(k i:Nat),i+k=l.length->i<=m.length->R (.ok (.ret (.bool (ltL ((l.drop i).map (·.1)) ((m.drop i).map (·.1)))))) ⟨hp,g,dr,tk,os⟩->
  codeAny (model prog w) A (.builtin "list.__eq__.loop" ⟨[.ref a,.ref b,rawInt (i:Int),rawInt 0],[]⟩) R ⟨hp,g,dr,tk,os⟩:=by
 intro k
 induction k with
 |zero=>
  intro i hk hm hR;refine cr MeetsSeq3.entry_eq_loop ?_;rw[b0 MeetsSeq3.plain_eq_loop _];unfold Builtin.«list.__eq__.loop»;wp_walk using bB ha,bB hb;have hl:l.length=i:=hk.symm;rw[r8,bK (aL hl),Option.map_none];rw[List.drop_of_length_le (aL hl),List.map_nil,Dq]at hR;have key:decide ((oZ l).size<(oZ m).size)=!(List.map (λp=>p.1) (m.drop i)).isEmpty:=by
   rw[ny,ny,hl];cases q:m.drop i with
   |nil=>exact bM (bJ.mpr (List.drop_eq_nil_iff.mp q))
   |cons _ _=>exact aS (Nat.lt_of_not_le λz=>by rw[List.drop_of_length_le z]at q;cases q)
  rw[<-key]at hR;cases hi2:(oZ m)[((i:Nat):Int).toNat]? with
  |none=>
   wp_walk using bB ha,bB hb;exact hR
  |some y=>
   wp_walk using bB ha,bB hb;exact hR
 |succ k ih=>
  intro i hk hm hR;refine cr MeetsSeq3.entry_eq_loop ?_;rw[b0 MeetsSeq3.plain_eq_loop _];unfold Builtin.«list.__eq__.loop»;wp_walk using bB ha,bB hb;have hlt:i<l.length:=by rw[<-hk];exact bt (bI k)
  have hi1:(oZ l)[((i:Nat):Int).toNat]? = some (.str l[i].1 l[i].2):=by rw[r8,au hlt];rfl
  rw[cD hlt,aM]at hR;rw[hi1];cases hi2:(oZ m)[((i:Nat):Int).toNat]? with
  |none=>
   wp_walk using bB ha,bB hb;rw[r8]at hi2;have hlm:=cC.mp (Option.map_eq_none_iff.mp hi2);rw[List.drop_of_length_le hlm]at hR;show R (.ok (.ret (.bool (decide ((oZ l).size<(oZ m).size))))) _;rw[bM (by rw[ny,ny];exact bJ.mpr (ae hlm (a7 hlt)))];exact hR
  |some y=>
   rw[r8]at hi2;refine dm (bn.mp hi2) λp hp ey=>?_;obtain⟨hlm,ep⟩:=aG.mp hp;subst ep;subst ey;rw[cD hlm,aM,tV]at hR;dsimp only;refine ab (wpAny_eqBool_str ?_);have hc:((i:Int)+1)=((i+1:Nat):Int):=rfl
   by_cases he:l[i].1=m[i].1
   ·rw[aS he]
    wp_walk;rw[aI he]at hR;rw[hc];exact⟨plainId_quiet MeetsSeq3.plain_eq_loop _,ih (i+1) (by rw[<-hk,bf,bw 1]) hlm hR⟩
   ·rw[bM he]
    wp_walk using bB ha,bB hb;rw[hi1,r8,hp];rw[aF he]at hR;dsimp only[Option.map_some];refine ab (wpAny_richCompare_same_or (op:=.Lt) (cB _ _ _) (cB _ _ _) slot_str_lt (call_str_lt ⟨(λe=>nomatch e),?_⟩) (.inl rfl));exact af hR
theorem jt.list{h:Heap}{a:Addr}{k:List Str}(x:jt h a k):∃o,h.get? a=some o/\o.cls = .type "list":=by refine gw x λo n l e1 e2 _=>?_;exact⟨o,e1,e2⟩
theorem pE(a b:Addr)(T9 U0:List Str):Meets (Builtin.«list.__lt__» ⟨[.ref a,.ref b],[]⟩) (λ_ R s=>jt s.heap a T9/\jt s.heap b U0/\R (.ok (.ret (.bool (ltL T9 U0)))) s):=by
 intro prog w A R s h;obtain⟨hp,g,dr,tk,os⟩:=s;refine kL h λha hb h=>?_;refine nM ha λOA n1 l e1 e2 e3 e4=>?_;obtain⟨c1,d1,dt1,s1⟩:=OA;refine nM hb λOC n2 m f1 f2 f3 f4=>?_;obtain⟨c2,d2,dt2,s2⟩:=OC;simp only at e2 e3 f2 f3;subst e2 e3 f2 f3;have hTb:(⟨hp,g,dr,tk,os⟩:Shared).TypeIs (.ref b) "list":=⟨_,f1,rfl⟩;unfold Builtin.«list.__lt__»;have f3:=AutoSeq1.sub_list_list;wp_walk using bB e1,bB f1;refine⟨plainId_quiet MeetsSeq3.plain_eq_loop _,FX (l:=l) (m:=m) e1 f1 l.length 0 (aY _) (bj _) ?_⟩;rw[List.drop_zero,List.drop_zero,e4,f4];exact h
theorem qG{a b:Addr}{T9 U0:List Str}{Q:Value->Shared->Prop}(ha:jt s.heap a T9)(hb:jt s.heap b U0)(h:Q (.bool (ltL T9 U0)) s):wpAny (model prog w) A (call (.builtin "list.__lt__") [.ref a,.ref b]) Q E s:=
 cA F.slot_list_lt ha.list F.entry_list_lt (F.args_list_lt_2 _ _) (pE a b T9 U0) ⟨ha,hb,h⟩
theorem uc{a b:Addr}{T9 U0:List Str}{Q:Bool->Shared->Prop}(hu:A.units<cLine)(ha:jt s.heap a T9)(hb:jt s.heap b U0)(h:Q (ltL T9 U0) s):wpAny (model prog w) A (keyLt' oneType' (.ref a) (.ref b)) Q E s:=by
 rw[keyLt'_oneType,oneLt'_eq];simp only[if_true];refine ab (wpAny_cRoomFor hu ?_);exact ab (wpAny_callSpecialIfBound?_slot ha.list F.slot_list_lt (qG ha hb (wpAny_truthy_bool h)))
end
end
section
variable {cx:Cx} {F:Fns} {d n m:Nat} {H H':TH} {HL:List AO} {r a b v:AV} {P:Prop} {A:Around} {s s₀ s':Shared} {ρ:Nat->Addr} {E:Value->Shared->Prop} {i j:Nat} {args:List AV} {x y:List Nat} {K:Frag} {ft:FT} {ks:List (List Nat)}
theorem SR.kept(g:cx.Good)(S:SR cx ρ HL s)(k:mL cx s s'):SR cx ρ HL s'/\Ext ρ HL.length s ρ s':=
 have E:Ext ρ HL.length s ρ s':=⟨λ_ _=>rfl,λa o e _=>k.k a o e,k.t⟩
 ⟨⟨λa o e=>k.k a o (S.keep a o e),λi o e=>(S.own i o e).ext g E (ad _) λ_=>k.k _,S.inj,S.new,k.g,k.o,S.tk k.t⟩,E⟩
theorem mL.trans(x:mL cx s₀ s)(y:mL cx s s'):mL cx s₀ s':=⟨λb o e=>y.k b o (x.k b o e),ae x.t y.t,y.g,y.o⟩
theorem mL.up(x:mL cx s₀ s){h':Heap}(k:∀b o,s₀.heap.get? b=some o->s.heap.get? b=some o->h'.get? b=some o):mL cx s₀ { s with heap:=h'}:=⟨λb o e=>k b o e (x.k b o e),x.t,x.g,x.o⟩
noncomputable def np(F:Fns)(d:Nat)(ft:FT)(x:List Nat):List (List Nat):=(k7 F d ft x).getD []
theorem tO:∀{ks:List (List Nat)} {xs:List (List (List Nat)×List Nat)},trv (λx=>opt (k7 F d ft x) λq=>some (q,x)) ks=some xs->xs=ks.map (λx=>(np F d ft x,x))/\∀x∈ks,k7 F d ft x=some (np F d ft x)
 | [],xs,h=>so h λe=>⟨e.symm,λx h=>nomatch h⟩
 |x::r,xs,h=>dq h λb h1 h=>dq h λq h2 h=>so h λe=>dq h1 λk hk h1=>so h1 λe1=>by
  have ih:=tO h2;have ek:np F d ft x=k:=by unfold np;rw[hk];rfl
  exact⟨by rw[<-e,<-e1,ih.1,aM,ek],λy hy=>(aH.mp hy).elim (λe=>by rw[e,hk,ek]) (ih.2 y)⟩
noncomputable abbrev vP(σ:eO)(p:List Nat×Tok):Value:=.str (rs σ p.1) p.2
theorem Bc(X:dF cx K)(KF:∀cx',dF cx' K->dC cx' F){a q kS:Addr}{ρc:Nat->Addr}{e1:Nat}{Pf:PySem.Fin->Shared->Prop}{kx zs:List (List Nat×Tok)}
  (O:Ok A (d+1)) (S:SR cx ρ HL s₀) (K0:mL cx s₀ s) (hf:ft.ks≠[]) (iq:k6 ft [] ρc s₀.heap q) (hak:kS≠a) (na:s₀.heap.get? a=none) (nk:s₀.heap.get? kS=none)
  (ha:s.heap.get? a=some (seqObj "list" #[] e1)) (hk:s.heap.get? kS=some (seqObj "list" #[] 0)) (h6:kx.length<=6)
  (hkey:∀p∈kx,k7 F d ft p.1=some (np F d ft p.1)) (hp:zs.Perm kx) (hst:gB (λa b:List (List Nat)×List Nat=>xL a.1 b.1) (zs.map λp=>(np F d ft p.1,p.1))=true)
  (W:∀(s':Shared) (h':Heap) c,mL cx s₀ { s' with heap:=h'}->h'.get? a=some (seqObj "list" (zs.map (vP cx.σ)).toArray c)->Pf (.done (.ret .none)) { s' with heap:=h'}) :
  wpAny (model pw cx.w) A (ksk_rest a (.ref q) false (kx.map (vP cx.σ)).toArray e1 (.ref kS)) Pf E s:=by
 have g:=X.cok.toGood;have hfit:∀k,k<=6->k<=sizeLine:=λk hk=>ae (ae hk (show 6<=dn by decide)) dB;have old:∀{b o},s₀.heap.get? b=some o->b≠kS/\b≠a:=λe=>⟨λq=>(by rw[q,nk]at e;exact nS e),λq=>(by rw[q,na]at e;exact nS e)⟩;unfold ksk_rest;refine ab (wpAny_rule ?_);rw[List.forIn_toArray];refine ab (ksk_fold (λj s'=>∃(as:List Addr) (ek:Nat),as.length=j/\mL cx s₀ s'/\s'.heap.get? a=some (seqObj "list" #[] e1)/\s'.heap.get? kS=some (seqObj "list" (as.map Value.ref).toArray ek)/\
  ∀(i:Nat) (x:Addr) (p:List Nat×Tok),as[i]? = some x->kx[i]? = some p->jt s'.heap x ((np F d ft p.1).map (rs cx.σ))/\x≠kS) (kx.map (vP cx.σ)) 0 s
  ⟨[],0,rfl,K0,ha,hk,λi x p e _=>nomatch e⟩ ?step ?done)
 case step=>
  intro j V s' hx hI;refine AG hI λas ek hl K' ha' hk' hA=>?_;rw[aY]at hl;rw[aY];obtain⟨p,hp',ev⟩:∃p,kx[j]? = some p/\vP cx.σ p=V:=by
   rw[aP]at hx;exact bn.mp hx
  have hj:j<kx.length:=(aG.mp hp').1;obtain⟨fd,C⟩:=iq;rw[<-ev];refine ab (wpAny_attempt (Hh (ρc:=ρc) X KF (hkey p (aQ hp')) hf O (S.kept g K').1 ⟨fd,{ C with ob:=let ⟨o,e,r⟩:=C.ob;⟨o,K'.k _ _ e,r⟩,crec:=C.crec.keeps K'.k}⟩ λs'' x K'' hnone hkey'=>?_));dsimp only;have hk'':=K''.k _ _ hk';have hxk:x≠kS:=λe=>by rw[e,hk']at hnone;exact sN hnone
  have s1:=bD s''.heap kS (Obj.mapSeq (·.push (.ref x)));have hc2:=get?_update_seq hk'' (·.push (Value.ref x));have hz:((as.map Value.ref).toArray).size=j:=(aq ..).trans hl;refine ab (listUpdate_at hk'' rfl ?_ (by rw[hz];exact hfit _ (ae (a7 hj) h6)) (ae (aL (Array.size_push ..)) (by rw[hz];exact bE (hfit _ (ae (a7 hj) h6)))));refine af ⟨rfl,as++[x],_,by rw[az,hl];rfl,(K'.trans K'').up λb o e e'=>(s1.2 b (old e).1).trans e',(s1.2 a hak.symm).trans (K''.k _ _ ha'),by rw[bh];simpa using hc2,λi y p' e1 e2=>?_⟩
  by_cases hi:i<as.length
  ·rw[cb hi]at e1
   refine sF (hA i y p' e1 e2) λOA q2=>?_;refine gv OA λo m l b1 b2=>?_;exact⟨⟨o,m,l,(s1.2 y q2).trans (K''.k _ _ b1),b2⟩,q2⟩
  ·have hi2:i=j:=by
    have:=(aG.mp e1).1;rw[az]at this;exact(Nat.le_antisymm (dh this) (bo hi)).trans hl
   rw[hi2,<-hl,cz (ad _),Nat.sub_self]at e1;rw[hi2,hp']at e2;obtain rfl:=ak e1;obtain rfl:=ak e2;refine gv hkey' λo m l b1 b2=>?_;exact⟨⟨o,m,l,(s1.2 x hxk).trans b1,b2⟩,hxk⟩
 case done=>
  intro s' hI;refine AG hI λas ek hl K' ha' hk' hA=>?_;rw[aY,aq]at hl;refine ab (listItems_at hk' rfl ?_);refine dm (jg hp.symm (as.zip kx) (List.map_snd_zip (aL hl.symm)).symm) λtr ht2 ht1=>?_;have hT:∀t∈tr,jt s'.heap t.1 ((np F d ft t.2.1).map (rs cx.σ)):=λt ht=>by
   obtain⟨i,hi,e⟩:=List.mem_iff_getElem.mp (ht2.mem_iff.mp ht);rw[List.getElem_zip]at e;have hi1:i<as.length:=av hi (by rw[List.length_zip];exact Nat.min_le_left _ _);have:=(hA i as[i] (kx[i]'(hl▸hi1)) (au hi1) (au (hl▸hi1))).1;rw[<-e];exact this
  refine xF (Us:=tr.map λt=>(Value.ref t.1,vP cx.σ t.2)) (ks:=as.map Value.ref) (vs:=kx.map (vP cx.σ)) ha' hk' rfl hak (by rw[aq,aq,hl]) ?_ (by rw[aq];exact h6) (λh2 Q hq=>?_) (λi j U V C e1 e2 hij hC=>?_) λh' c keep hout=>?_
  ·rw[List.zip_map]
   exact ht2.symm.map _
  ·refine kas_kind (T:=.type "list") ?_ (λv hv=>?_) (by decide) (by decide) hq
   ·rw[aq,ht2.length_eq,List.length_zip,hl,Nat.min_self]at h2
    rw[aq,hl];exact h2
   ·refine dm (bx.mp hv) λx hx e=>?_
    obtain⟨i,hi,ei⟩:=List.mem_iff_getElem.mp hx;refine dm ((hA i as[i] (kx[i]'(hl▸hi)) (au hi) (au (hl▸hi))).1.list) λo b1 b2=>?_;rw[<-e,<-ei];exact λA Q E s k q=>wpAny_typeOf ⟨o,k _ _ b1,b2⟩ q
  ·rw[aP]at e1 e2
   refine dm (bn.mp e1) λt1 f1 g1=>?_;refine dm (bn.mp e2) λt2 f2 g2=>?_;rw[<-g1,<-g2];refine uc O.units (hT _ (aQ f1)) (hT _ (aQ f2)) ?_;have mm:∀{i:Nat} {t:Addr×(List Nat×Tok)},tr[i]? = some t->(zs.map λp=>(np F d ft p.1,p.1))[i]? = some (np F d ft t.2.1,t.2.1):=λf=>by rw[ht1,aV,aP,f];rfl
   rw[wh cx.σ (ky hst i j _ _ (mm f1) (mm f2) hij)];exact hC
  ·refine W s' h' c (K'.up λb o e e'=>keep b o (old e).2 (old e).1 e') ?_
   rw[hout,ht1,aV,aV];rfl
theorem u7{σ:eO}{l:List (Str×Tok)}(h:(l.map (·.1)).Perm (ks.map (rs σ))):∃kx:List (List Nat×Tok),(kx.map (·.1)).Perm ks/\(l.map λp=>Value.str p.1 p.2)=kx.map (vP σ):=by
 refine dm (jg h.symm ks rfl) λks' q1 q2=>?_;have gen:∀(l:List (Str×Tok)) (ks':List (List Nat)),l.map (·.1)=ks'.map (rs σ)->∃kx:List (List Nat×Tok),kx.map (·.1)=ks'/\(l.map λp=>Value.str p.1 p.2)=kx.map (vP σ):=by
  intro l
  induction l with
  |nil=>intro ks' h;cases ks' with | nil=>exact⟨[],rfl,rfl⟩ | cons _ _=>cases h
  |cons p r ih=>
   intro ks' h;cases ks' with
   |nil=>cases h
   |cons k q=>
    have h:=List.cons.inj h;refine dm (ih q h.2) λkx e1 e2=>?_;exact⟨(k,p.2)::kx,aB _ e1,by rw[aM,e2,show p.1=rs σ k from h.1];rfl⟩
 refine dm (gen l ks' q2) λkx e1 e2=>?_;exact⟨kx,by rw[e1];exact q1,e2⟩
theorem dE.sortK(X:dF cx K)(KF:∀cx',dF cx' K->dC cx' F){xs ys:List (List (List Nat)×List Nat)}(hg:HL[i]? = some (.setq ks))(hlen:Nat.ble ks.length 6=true)(hf:ft.ks≠[])(hxs:trv (λx=>opt (k7 F d ft x) λq=>some (q,x)) ks=some xs)
  (hys:jR (λa b:List (List Nat)×List Nat=>xL a.1 b.1) xs=some ys) (hst:gB (λa b:List (List Nat)×List Nat=>xL a.1 b.1) ys=true):dE cx (d+4) (.bi 2) [.ref i] [(100,.clo ft [])] HL (.ref HL.length) (HL++[.list (ys.map λp=>.str p.2)]):=by
 refine⟨eQ _ _,λ{A s ρ Fv Vs Ks Q E} u iF iV iK W=>?_⟩;have g:=u.g.toGood;refine dm (one iV) λV e iW=>?_;refine dm (one iK) λC e' OA=>?_;refine dz OA λq iC hC _=>?_;rw[X.cod.clo]at hC;have hQ:fB cx.w s.heap (ρ i) (ks.map (rs cx.σ)):=u.sr.own _ _ hg;have hfit:∀k,k<=6->k<=sizeLine:=λk hk=>ae (ae hk (show 6<=dn by decide)) dB;rw[show Fv = .builtin (biN 2) from iF,e,e',iW.1,iC];show wpAny (model pw cx.w) A (call (.builtin "sorted") [.ref (ρ i)] [(Str.ofString "key",.ref q)]) Q E s;refine call_function_entry_kw kind_sorted plain_sorted entry_sorted (ksk_s1 _ _) ?_;unfold Builtin.«sorted»;refine ab (m:=checkCount "sorted" 1 1 _) (af ?_);refine ab (su (A:=A.in1) u.ok.hd hQ λS5 dr l R9 hlp=>?_);refine dm (u7 hlp) λkx hkx ekx=>?_;rw[ekx];have hkl:kx.length<=6:=by rw[<-aq (as:=kx) (·.1),hkx.length_eq];exact leb hlen
 have hvl:(kx.map (vP cx.σ)).length<=sizeLine:=by rw[aq];exact hfit _ hkl
 have tk:=tO hxs;have hpy:=ie hys;rw[tk.1]at hpy;obtain⟨zs,hz1,hz2⟩:∃zs:List (List Nat×Tok),zs.Perm kx/\ys=zs.map λp=>(np F d ft p.1,p.1):=by
  have h1:=hkx.map λx=>(np F d ft x,x);rw[aV]at h1;exact jg (h1.trans hpy.symm) kx rfl
 refine ab (wpAny_newList ?_ hvl);have hoL:(S5.push (seqObj "list" (kx.map (vP cx.σ)).toArray 0)).get? S5.objs.size=some (seqObj "list" (kx.map (vP cx.σ)).toArray 0):=aw _ rfl;refine ab (aN (wpAny_call_entry_kw slot_list_sort ⟨_,hoL,rfl⟩ entry_list_sort ?_ (ksk_l1 _ _)));rw[ksk_t1];unfold ksk_tree;refine ab (listItems_at hoL rfl ?_);refine ab (listUpdate_at hoL rfl ?_ hvl (bj _));have ho1:=get?_update_seq hoL λ_=>(#[]:Array Value);refine ab (seqEpoch_at ho1 rfl ?_);refine ab (wpAny_newTuple ?_ hvl);refine ab (wpAny_newList ?_ (bj _));refine aN ?_;generalize (if (#[]:Array Value).size == (kx.map (vP cx.σ)).toArray.size then 0 else 0+1)=e1 at ho1;have hk1:∀b o,S5.get? b=some o->((S5.push (seqObj "list" (kx.map (vP cx.σ)).toArray 0)).update S5.objs.size (Obj.mapSeq λ_=>(#[]:Array Value))).get? b=some o:=λb o e=>by
  rw[Heap.get?_update_ne _ _ _ _ (aO (bk e))];exact am _ e
 have hz:((S5.push (seqObj "list" (kx.map (vP cx.σ)).toArray 0)).update S5.objs.size (Obj.mapSeq λ_=>(#[]:Array Value))).objs.size=S5.objs.size+1:=by rw[Heap.size_update];exact Array.size_push _
 generalize ((S5.push (seqObj "list" (kx.map (vP cx.σ)).toArray 0)).update S5.objs.size (Obj.mapSeq λ_=>(#[]:Array Value)))=g1 at ho1 hk1 hz ⊢;have hz2':(g1.push (seqObj "tuple" (kx.map (vP cx.σ)).toArray 0)).objs.size=S5.objs.size+2:=(Array.size_push _).trans (aB Nat.succ hz);have hnew:∀b,S5.objs.size<=b->s.heap.get? b=none:=λb hb=>by
  cases q:s.heap.get? b with
  |none=>rfl
  |some o=>exact absurd (bk (R9 b o q)) (bJ.mpr hb)
 have na:=hnew _ (ad _);have K0:mL cx s { s with heap:=(g1.push (seqObj "tuple" (kx.map (vP cx.σ)).toArray 0)).push (seqObj "list" #[] 0),drawn:=dr}:=⟨λb o e=>am _ (am _ (hk1 b o (R9 b o e))),ad _,u.sr.gens,u.sr.os⟩;refine Bc (s₀:=s) (kS:=(g1.push (seqObj "tuple" (kx.map (vP cx.σ)).toArray 0)).objs.size) (zs:=zs) X KF (u.ok.in1.in1.less (aC _)) u.sr K0 hf hC (by rw[hz2'];exact bl (bt (by decide))) na (hnew _ (by rw[hz2'];exact aK _ _)) (am _ (am _ ho1)) (aw _ rfl) hkl (λp hp=>tk.2 _ (hkx.mem_iff.mp (List.mem_map_of_mem hp))) hz1 (by rw[<-hz2];exact hst) λs' h' c K' hout=>?_;have S4:=u.sr.kept g K';have key:=S4.1.add (hp:=h') (t:=s'.toks) (o:=.list (ys.map λp=>.str p.2)) (a:=S5.objs.size) g (by
   cases q:cx.hs.get? S5.objs.size with
   |none=>rfl
   |some o=>rw[u.sr.keep _ _ q]at na;exact sN na) (λi p e al q=>(by
   refine dm (u.sr.ob g e al) λob e1 _=>?_;rw[q,na]at e1;exact nS e1)) (ad _) (λ_ _ e=>e) λE'=>⟨(zs.map (vP cx.σ)).toArray,⟨_,_,hout,rfl,rfl,rfl⟩,by
  have hys:(ys.map λp=>AV.str p.2)=zs.map λp=>AV.str p.1:=by rw[hz2,aV];rfl
  have gen:∀(zs:List (List Nat×Tok)) (h:Shared) (ρ:Nat->Addr) (n:Nat),IsL cx h ρ n (zs.map λp=>AV.str p.1) (zs.map (vP cx.σ)):=λzs h ρ n=>by
   induction zs with
   |nil=>exact rfl
   |cons p r ih=>exact L2.cons ⟨p.2,rfl⟩ ih
  rw[hys];exact gen zs _ _ _⟩
 exact⟨_,rfl,af ⟨_,rfl,W _ _ _ key.1 (oK (by rw[az];exact aD _)) (S4.2.trans (ad _) key.2)⟩⟩
theorem rj(X:dF cx K)(KF:∀cx',dF cx' K->dC cx' F){kws:List (Nat×AV)}{k:AV->TH->R}{z:AF×TH}(h:mq F d args kws H k=some z)(w:∀v H',dE cx (d+1) (.bi 2) args kws H.L v H'.L->k v H'=some z->P):P:=
 l1E h λp ep h=>l1E h λa ea h=>dP h λi ei h=>Mn h λft cells ec h=>l0E h λe0 h=>by
  cases d with
  |zero=>exact nn h
  |succ d=>cases d with
   |zero=>exact nn h
   |succ d=>cases d with
    |zero=>exact nn h
    |succ d=>
     exact ifE h λq h=>vz h λks hg h=>ifE h λhl h=>dq h λxs hx h=>dq h λys hy h=>ifE h λhs h=>gx h λv H' hn h=>kI hn λev eH=>w v H' (by
      have e100:=nb (aa q).1;obtain⟨p1,p2⟩:=p;rw[ep,ea,ei,ev,eH];rw[show p2=_ from ec,e0,show p1=100 from e100];exact dE.sortK X KF (dA hg) hl (λe=>by have:=(aa q).2;rw[e]at this;exact fT this) hx hy hs) h
end
section
variable {cx:Cx} {F:Fns} {d n m:Nat} {H H':TH} {HL:List AO} {r a b v f:AV} {P:Prop} {i j:Nat} {K:Frag} {e:Expr} {c:IE} {z:AF×TH} {ts:List Expr} {pos:Pos}
theorem yL{p:PE}{e:R}{k:Nat->R}(h:pNm p e k=some z)(w:∀x,p = .nm x->k x=some z->P)(we:e=some z->P):P:=by
 have:∀p',p'=p->pNm p' e k=some z->P:=λp'=>by cases p'<;>first | exact λ_ h=>we h | exact λe h=>w _ e.symm h
 exact this p rfl h
theorem Gy{p:PE}{e:R}{k:CmpOp->PE->PE->R}(h:Fw p e k=some z)(w:∀op x y,p = .cmp op x y->k op x y=some z->P)(we:e=some z->P):P:=by
 have:∀p',p'=p->Fw p' e k=some z->P:=λp'=>by cases p'<;>first | exact λ_ h=>we h | exact λe h=>w _ _ _ e.symm h
 exact this p rfl h
noncomputable def Lb(p:PE):Option Nat:=match p with
 | .nm x=>some x
 |_=>none
noncomputable def GR(p:PE):Option (CmpOp×PE×PE):=match p with
 | .cmp op l r=>some (op,l,r)
 |_=>none
theorem pZ{x:Nat}(h:cvE n e = .nm x):∃p,e = .Name (nmF x) p/\x<185:=by
 have h:Lb (cvE n e)=some x:=by rw[h];rfl
 cases n with
 |zero=>exact nn h
 |succ n=>
  refine gd (M:=λe p=>Lb p=some x->∃p,e = .Name (nmF x) p/\x<185) ?_ ?_ ?_ ?_ ?_ (λy p hy h=>so h λe=>⟨p,by rw[e],e▸hy⟩) ?_ ?_ ?_ ?_ ?_ ?_ ?_ ?_ ?_ ?_ ?_ ?_ ?_ ?_ ?_ ?_ ?_ ?_ ?_ ?_ e h<;>(intros;exact nn (by assumption))
theorem Cj{op:CmpOp}{l r:PE}(h:cvE n e = .cmp op l r):∃m a b p,e = .Compare a [op] [b] p/\l=cvE m a/\r=cvE m b/\behindInMarks op b=false:=by
 have h:GR (cvE n e)=some (op,l,r):=by rw[h];rfl
 cases n with
 |zero=>exact nn h
 |succ n=>
  refine gd (M:=λe p=>GR p=some (op,l,r)->∃m a b p,e = .Compare a [op] [b] p/\l=cvE m a/\r=cvE m b/\behindInMarks op b=false) ?_ ?_ ?_ ?_ ?_ ?_ ?_ ?_ ?_ ?_ ?_ (λa o b p q h=>so h λe=>⟨n,a,b,p,by rw[(cy e).1],(cy (cy e).2).1.symm,(cy (cy e).2).2.symm,(cy e).1▸q⟩) ?_ ?_ ?_ ?_ ?_ ?_ ?_ ?_ ?_ ?_ ?_ ?_ ?_ ?_ e h<;>(intros;exact nn (by assumption))
theorem SR.booked{ρ:Nat->Addr}{s:Shared}(g:Cok cx)(S:SR cx ρ HL s):NoneBooked s.heap:=let ⟨mc,a,b⟩:=g.nb;⟨mc,S.ns a,b⟩
theorem Cl{lo lo' t:Bool}{p q:List Nat ⊕ Int}(hl:(lo != lo')=true)(ht:xC p q=some t){A:Around}{s:Shared}{ρ:Nat->Addr}{U V:Value}{Q:Bool->Shared->Prop}{E}(u:Un cx d HL A s ρ)(iU:Is cx s ρ HL.length (.tok lo p) U)(iV:Is cx s ρ HL.length (.tok lo' q) V)
  (h:∀b,(b=true->t=true)->Q b s):wpAny (model pw cx.w) A (isSame U V) Q E s/\∀{Q:Value->Shared->Prop},Q (.bool t) s->wpAny (model pw cx.w) A (compareOp .Eq U V) Q E s:=by
 refine tH iU λtu eU hu hu1 hu2=>?_;refine tH iV λtv eV hv hv1 hv2=>?_;have hne:(tu == tv)=false:=bC.mpr λe=>by
  cases lo with
  |true=>cases lo' with
   |true=>exact fT hl
   |false=>exact absurd (hu1 rfl) (bJ.mpr (e▸hv2 rfl))
  |false=>cases lo' with
   |false=>exact fT hl
   |true=>exact absurd (hv1 rfl) (bJ.mpr (e▸hu2 rfl))
 have h0:(tu == 0 || tv == 0)=false:=by rw[bC.mpr hu.1,bC.mpr hv.1];rfl
 rw[eU,eV];cases p with
 |inl x=>cases q with
  |inr _=>exact nS ht
  |inl y=>
   have e:=fF cx.σ (show eM x y=some t from ht);refine⟨?_,λhq=>PySem.P.eq_str (by
    have:((rs cx.σ x).cps.toList == (rs cx.σ y).cps.toList)=t:=by
     rw[<-e,bT,bZ,bZ];exact⟨λh=>l9 h,λh=>by rw[h]⟩
    rw[this];exact hq)⟩
   show wpAny _ _ (isSame (.str _ tu) (.str _ tv)) _ _ _;cases t with
   |true=>exact wpAny_isSame_str h0 (u.sr.booked u.g) λb=>h b λ_=>rfl
   |false=>
    show wpAny _ _ (isSame.created _ tu tv) _ _ _;unfold isSame.created;rw[h0,hne,e];exact af (h false λe=>e)
 |inr i=>cases q with
  |inl _=>exact nS ht
  |inr j=>
   refine ifE (show ifO (smallInt i) (some (decide (i=j)))=some t from ht) λhs ht=>so ht λet=>⟨?_,λhq=>PySem.P.eq_int (by
    have:(i == j)=t:=by rw[<-et,bT,bZ,aR]
    rw[this];exact hq)⟩
   show wpAny _ _ (if (i == j&&smallInt i)=true then isSame.cachedInt tu tv else isSame.created (i == j) tu tv) _ _ _;have et':(i == j)=t:=by rw[<-et,bT,bZ,aR]
   rw[et',hs];cases t with
   |true=>
    show wpAny _ _ (isSame.cachedInt tu tv) _ _ _;unfold isSame.cachedInt;rw[h0];exact ab (wpAny_rule (af (h true λ_=>rfl)))
   |false=>
    show wpAny _ _ (isSame.created false tu tv) _ _ _;unfold isSame.created;rw[h0,hne];exact af (h false λe=>e)
theorem TrE.isOr{x y:Nat}{lo lo' t:Bool}{p q:List Nat ⊕ Int}{q1 q2 q3 q4 q5 q6:Pos}(lx:x<185)(ly:y<185)(ha:name c H x=some (.tok lo p))(hb:name c H y=some (.tok lo' q))(hl:(lo != lo')=true)(ht:xC p q=some t)
  (m1:behindInMarks .Is (.Name (nmF y) q2)=false) (m2:behindInMarks .Eq (.Name (nmF y) q5)=false):TrE cx d (.BoolOp .Or [.Compare (.Name (nmF x) q1) [.Is] [.Name (nmF y) q2] q3,.Compare (.Name (nmF x) q4) [.Eq] [.Name (nmF y) q5] q6] pos) c H.L t H.L:=by
 have ka:=λ(p:Pos)=>jl (cx:=cx) (d:=d) (pos:=p) lx ha;have kb:=λ(p:Pos)=>jl (cx:=cx) (d:=d) (pos:=p) ly hb;refine vo.test ⟨ad _,λ{A s ρ env Q E} z W=>wpAny_allTrue_Or_cons (wpAny_isTrue_Compare1 ((ka _).run z λU U4 V4 V0 T3 N0=>(kb _).run V0 λV U6 ρ₂ V1 T5 N7=>ab ?_) m1)⟩;have N3:=N0.trans (ad _) N7;refine And.left (Cl hl ht V1.un (T3.ext z.g.toGood N7 (ad _)) T5 λb hb'=>?_);refine af (wpAny_truthy_bool ?_);cases b with
 |true=>rw[aI rfl];exact W _ _ _ V1.sr (hb' rfl).symm N3
 |false=>
  rw[aF ah];refine wpAny_allTrue_Or_cons (wpAny_isTrue_Compare1 ((ka _).run V1 λU U7 V5 V2 T6 N9=>(kb _).run V2 λV U8 V6 V3 T7 O2=>(Cl (Q:=λ_ _=>True) (E:=E) hl ht V3.un (T6.ext z.g.toGood O2 (ad _)) T7 λ_ _=>trivial).2 (wpAny_truthy_bool ?_)) m2);have E:=(N3.trans (ad _) N9).trans (ad _) O2;cases t with
  |true=>rw[aI rfl];exact W _ _ _ V3.sr rfl E
  |false=>rw[aF ah];exact wpAny_allTrue_Or_nil (W _ _ _ V3.sr rfl E)
theorem Dr{xs:List Expr}{e':R}{k:Bool->TH->R}(h:Lc (cvL (cvE n) xs) c H e' k=some z)(w:∀t H',TrE cx d (.BoolOp .Or xs pos) c H.L t H'.L->k t H'=some z->P)(we:e'=some z->P):P:=
 pL1 h (λ_=>we) λe1 r ex h=>Gy h (λop x y ec h=>yL h (λx ex' h=>yL h (λy ey h=>pL1 h (λ_=>we) λe2 r' er h=>pL1 h (λer' h=>Gy h (λop' x' y' ec' h=>yL h (λx' ex2 h=>yL h (λy' ey2 h=>gC h (λq h=>dq h λa ha h=>dq h λb hb h=>GH h λlo p ea h=>GH h λlo' p' eb h=>ifE h λhl h=>dq h λt ht h=>w t H (by
  have q1:=aa q;have q2:=aa q1.1;have q3:=aa q1.2;refine kO (Cj ec) λm a1 b1 p1 f1 f2 f3 f4=>?_;refine kO (Cj ec') λm' a2 b2 p2 g1 g2 g3 g4=>?_;refine dm (pZ (f2.symm.trans ex')) λpp1 n1 l1=>?_;refine dm (pZ (f3.symm.trans ey)) λpp2 n2 l2=>?_;refine dm (pZ (g2.symm.trans ex2)) λpp3 n3 l3=>?_;refine dm (pZ (g3.symm.trans ey2)) λpp4 n4 l4=>?_;rw[ea]at ha;rw[eb]at hb;have o1:op = .Is:=dec q2.1;have o2:op' = .Eq:=dec q2.2;rw[<-nb q3.1]at n3;rw[<-nb q3.2]at n4;rw[o1,n2]at f4;rw[o2,n4]at g4;rw[ex,er,er',f1,g1,n1,n2,n3,n4,o1,o2];exact TrE.isOr l1 l2 ha hb hl ht f4 g4) h) λ_=>we) we) we) we) λ_ _ _=>we) we) we) we
noncomputable def Et(cx:Cx)(d:Nat)(v:AV)(e:Expr)(HL:List AO)(r:AV):Prop:=dD e=false/\∀{A s ρ V env} {Q:Value->Shared->Prop} {E},Un cx d HL A s ρ->Is cx s ρ HL.length v V->gy cx ρ HL s r HL Q->
 wpAny (model pw cx.w) A (eval e env) (λU U4=>(∃k,(k=Keeper.frame\/k=Keeper.machine\/k=Keeper.boundFrame)/\Looks (model pw cx.w) U4.heap (keeperOf (.ref 101)) k)/\wpAny (model pw cx.w) A (call (.ref 101) [V,U] []) Q E U4) E s
noncomputable def wY(K:Frag)(C:AV->PE->TH->(AV->R)->R):Prop:=∀cx,dF cx K->∀{d v n e H k z} {P:Prop},8<=d->C v (cvE n e) H k=some z->(∀r,Et cx d v e H.L r->k r=some z->P)->P
theorem EvE.count{x g:Nat}{e:Expr}{P1 P2:Pos}{v r:AV}(k0:EvE cx d (.Name (nmF g) P1) c HL (.st 101) HL)(k1:EvE cx d (.Name (nmF x) P2) c HL v HL)(k2:Et cx d v e HL r):EvE cx d (.Call (.Name (nmF g) P1) [.Name (nmF x) P2,e] [] pos) c HL r HL:=by
 refine⟨ad _,λ{A s ρ env Q E} z W=>?_⟩;rw[pf _ rfl];refine ab (k0.run z λFv U4 V4 V0 T3 N0=>?_);have hst:∀x' ∈ [Expr.Name (nmF x) P2,e],dD x'=false:=λx' hx=>(aH.mp hx).elim (λq=>q▸rfl) λhx=>br.mp hx▸k2.1;rw[gH hst,show Fv = .ref 101 from T3];refine callWith_of (P:=λh=>∃k,(k=Keeper.frame\/k=Keeper.machine\/k=Keeper.boundFrame)/\Looks (model pw cx.w) h (keeperOf (.ref 101)) k) ?_ (λh x=>x) (gQ (keywords:=[]) rfl ?_)
 ·rw[List.any_map];exact Bool.or_eq_false_iff.mpr ⟨di.mpr λx _=>ah,rfl⟩
 ·exact spliced_cons (k1.run V0 λV U6 ρ₂ V1 T5 N7=>spliced_cons (bq (k2.2 V1.un T5 (W.on (N0.trans (ad _) N7) (ad _))) (λU U7 S8=>spliced_nil (wpAny_evalAll_nil S8)) λ_ _ x=>x))
theorem u0{C:AV->PE->TH->(AV->R)->R}(hC:wY K C)(X:dF cx K){x:Expr}{es:List Expr}{ks:List Nat}{kws:List Keyword}{k:AV->TH->R}{e':R}(h:w9 d C (cvE n x) (cvL (cvE n) es) ks (cvL (λk:Keyword=>cvE n k.value) kws) c H k e'=some z)
  (w:∀v H',EvE cx d (.Call x es kws pos) c H.L v H'.L->k v H'=some z->P) (we:e'=some z->P):P:=
 yL h (λg eg h=>gC h (λq h=>pL1 h (λ_=>nn) λe1 r ex h=>yL h (λy ey h=>pL1 h (λ_=>nn) λe2 r' er h=>pL1 h (λer' h=>pL1 h (λek h=>ifE h λq2 h=>dq h λv hv h=>yN h λa ea h=>ifE h λqa h=>dq h λv2 hv2 h=>hC cx X (leb (aa q2).2) h λr' kc h=>w r' H (by
  refine dm (pZ eg) λp1 n1 l1=>?_;refine dm (pZ ey) λp2 n2 l2=>?_;rw[nb q]at n1;rw[ea,nb qa]at hv;rw[ex,er,er',ek,n1,n2];exact EvE.count (jl (by decide) hv) (jl l2 hv2) kc) h) λ_ _ _=>nn) λ_ _ _=>nn) nn) λ_=>we) we
theorem Bx(X:dF cx K){a:Arguments}{b:Expr}{sc:Scope}{k:AV->TH->R}{names:List (Nat×NameKind)}{ps:List Nat}(hn:scN sc=some names)(hp:kM 2 a=some ps)(q:(pos.line,pos.col)=kH 2)(h:se 2 ⟨ps,[0],names,cvE n b⟩ c H (λv=>k v H)=some z)(w:∀v H',EvE cx d (.Lambda a b sc pos) c H.L v H'.L->k v H'=some z->P):P:=
 mkE (ft:=⟨ps,[0],names,cvE n b⟩) h λclo hi ht hc h=>w _ H (EvE.lam X.cod hi ht hc hn (td hp).1 q) h
theorem xy{isD:Bool}{pe gs:PE}{x:Expr}{sc:Scope}{names:List (Nat×NameKind)}{U3:Obj}{newAcc:Sem Value}{nw:AO}{k:AV->TH->R}(KF:dC cx F)(X:XC isD pe gs x 0)(S:scN sc=some names)(hfr:U3.isFreed=false)(hnew:∀A s (Q:Value->Shared->Prop) E,Q (.ref s.heap.objs.size) { s with heap:=s.heap.push U3}->wpAny (model pw cx.w) A newAcc Q E s)
  (hor:∀(h:Shared) ρ m a,h.heap.get? a=some U3->OR cx h ρ m a nw) (he:∀target iter ifs rest env,clausesOf x=⟨target,iter,ifs,0⟩::rest->∃pos,eval x env=comprehension x sc env pos newAcc false (eval iter env) none)
  (h:Aq F d nw isD pe gs names c H k=some z) (w:∀v H',EvE cx d x c H.L v H'.L->k v H'=some z->P):P:=
 rg KF X (lh S) hfr hnew hor h λq H' m C hg h=>w _ _ (ov C hg he) h
theorem DR.perm'{h:Shared}{ρ:Nat->Addr}{m:Nat}{es es':List (List Nat×AV)}(p:es'.Perm es):∀{kvs:List (Str×Value)},DR cx h ρ m es kvs->∃kvs',kvs'.Perm kvs/\DR cx h ρ m es' kvs':=by
 induction p with
 |nil=>exact λD=>⟨_,.refl _,D⟩
 |cons x _ ih=>
  intro kvs D;refine dx (DR.uncons (x:=x.1) (v:=x.2) D) λV r e i D'=>?_;refine dm (ih D') λk' p' R=>?_;exact⟨(rs cx.σ x.1,V)::k',e▸p'.cons _,DR.cons i R⟩
 |swap x y l=>
  intro kvs D;refine dx (DR.uncons (x:=x.1) (v:=x.2) D) λV r e i D'=>?_;refine dx (DR.uncons (x:=y.1) (v:=y.2) D') λU r' e' i' D''=>?_;exact⟨_,by rw[e,e'];exact List.Perm.swap _ _ _,DR.cons i' (DR.cons i D'')⟩
 |trans _ _ i1 i2=>
  intro kvs D;refine dm (i2 D) λk1 p1 R1=>?_;refine dm (i1 R1) λk2 p2 R2=>?_;exact⟨k2,p2.trans p1,R2⟩
theorem EvE.bag{x:Expr}{q:Nat}{es es':List (List Nat×AV)}{HL:List AO}{H:TH}(k:EvE cx d x c HL (.ref q) H.L)(hq:gt H q=some (.dict es))(p:es'.Perm es):EvE cx d x c HL (.ref q) (st H q (.bag es')).L:=by
 rw[gN hq];refine⟨by rw[aE];exact k.1,λ{A s ρ env Q E} z W=>k.2 z λV s' ρ' S' i' E'=>W V s' ρ' (S'.conv (dA hq) rfl λo=>?_) (by rw[aE];exact i') E'⟩;refine dm o λkvs h1 D=>?_;refine dm (DR.perm' p (show DR cx s' ρ' _ es kvs from D)) λkvs' hp D'=>?_;exact⟨kvs',kvs,hp,h1,D'⟩
theorem uM{pe gs:PE}{x:Expr}{sc:Scope}{names:List (Nat×NameKind)}{U3:Obj}{newAcc:Sem Value}{k:AV->TH->R}(KF:dC cx F)(X:XC true pe gs x 0)(S:scN sc=some names)(hfr:U3.isFreed=false)(hnew:∀A s (Q:Value->Shared->Prop) E,Q (.ref s.heap.objs.size) { s with heap:=s.heap.push U3}->wpAny (model pw cx.w) A newAcc Q E s)
  (hor:∀(h:Shared) ρ m a,h.heap.get? a=some U3->OR cx h ρ m a (.dict [])) (he:∀target iter ifs rest env,clausesOf x=⟨target,iter,ifs,0⟩::rest->∃pos,eval x env=comprehension x sc env pos newAcc false (eval iter env) none)
  (h:wQ F d pe gs names c H k=some z) (w:∀v H',EvE cx d x c H.L v H'.L->k v H'=some z->P):P:=
 rg KF X (lh S) hfr hnew hor h λq H' m C hg h=>gJ h λes hes h=>dq h λes' hs h=>w _ _ (EvE.bag (ov C hg he) hes (ie hs)) h
theorem yu{C:AV->PE->TH->(AV->R)->R}{Y:Nat->Option (List Int)}(hC:wY K C)(hY:∀i ns,Y i=some ns->sJ cx i ns)(X:dF cx K)(KF:dC cx F){k:AV->TH->R}(h:uT F d C Y (cvE n e) c H k=some z)(w:∀v H',EvE cx d e c H.L v H'.L->k v H'=some z->P):P:=by
 cases n with
 |zero=>exact nn h
 |succ n=>
  exact gd (M:=λe p=>uT F d C Y p c H k=some z->(∀v H',EvE cx d e c H.L v H'.L->k v H'=some z->P)->P) (λ_ h _=>nn h) (λ_ _ _ h w=>w _ H EvE.int h) (λ_ _ _ q h w=>w _ H (EvE.str (iI cx.σ q)) h) (λ_ _ _ h w=>w _ H EvE.bool h) (λ_ _ h w=>w _ H EvE.none h)
   (λ_ _ hx h w=>dq h λv hv h=>w v H (jl hx hv) h) (λ_ _ _ _ h w=>y6 KF h w) (λ_ _ h w=>C4 KF h w) (λ_ _ h w=>zP KF h w)
   (λ_ _ h w=>pL1 h (λ_=>nn) λl r e h=>pL1 h (λ_=>nn) λr q e2 h=>pL1 h (λe3 h=>Cq KF h λv H' k1=>w v H' (by rw[e,e2,e3];exact k1)) λ_ _ _=>nn) (λ_ _ h _=>nn h)
   (λ_ _ _ _ q h w=>BS KF q h w) (λ_ _ _ _ h w=>DS KF h w)
   (λ_ _ _ _ _ hx q1 q2 q3 h w=>gC h (λe9 h=>xB KF q1 q2 h λv H' k1=>w v H' (nb e9▸k1)) λ_ h=>yf X.kc X.hnm KF hx q1 q2 q3 h w)
   (λ_ _ _ _ _ hf hk h w=>u0 hC X h w λh=>yh KF hf (I6 hk) h w) (λ_ _ _ hx hs h w=>yi X.kc KF hs hx h w) (λ_ _ _ hs h w=>yQ KF hs h w) (λ_ _ _ _ _ _ h w=>BG hY KF h w)
   (λ_ _ h w=>Bf KF h w) (λ_ _ _ h w=>zN KF h w) (λ_ _ _ _ h w=>yd X.cod KF h w) (λ_ h w=>gx h λv H' hn h=>w v H' (BK hn) h)
   (λ_ _ _ _ _ hn h w=>xy KF Mh hn rfl G4 LV (λt i f r env e=>(L3 t i f r env e).elim λp h=>⟨p,h.1⟩) h w)
   (λ_ _ _ _ _ _ hn h w=>uM KF LP hn rfl Gh Ky (λt i f r env e=>(L6 t i f r env e).elim λp h=>⟨p,h.1⟩) h w)
   (λ_ _ q h w=>yK KF q h w) (λ_ _ _ _ _ _ hn hp q h w=>Bx X hn hp q h w) e h w
theorem trR(KF:dC cx F){k:Bool->TH->R}{p:PE}(q:p=cvE n e)(he:∀env whole,isTrue e env whole=(do let v <-whole;standAt e.pos;holding [v] (truthy v)))(h:ID F d p c H k=some z)(w:∀v H',TrE cx d e c H.L v H'.L->k v H'=some z->P):P:=EU KF he (q▸h) w
theorem xw(KF:dC cx F){k:Bool->TH->R}(h:vK F d (cvE n e) c H k=some z)(w:∀t H',TrE cx d e c H.L t H'.L->k t H'=some z->P):P:=by
 cases n with
 |zero=>exact KF.no (k:=λa H=>opt (oW H a) λt=>k t H) h
 |succ n=>
  exact gd (M:=λe p=>p=cvE (n+1) e->vK F d p c H k=some z->(∀v H',TrE cx d e c H.L v H'.L->k v H'=some z->P)->P) (λ_ _ h _=>KF.no (k:=λa H=>opt (oW H a) λt=>k t H) h)
   (λi _ _ e h w=>trR KF e (λ_ _=>rfl) h w) (λx _ _ _ e h w=>trR KF e (λ_ _=>rfl) h w) (λb _ _ e h w=>trR KF e (λ_ _=>rfl) h w)
   (λ_ _ e h w=>trR KF e (λ_ _=>rfl) h w) (λx _ _ e h w=>trR KF e (λ_ _=>rfl) h w) (λl op r _ e h w=>trR KF e (λ_ _=>rfl) h w)
   (λ_ _ _ h w=>CL KF h w) (λx _ e h w=>trR KF e (λ_ _=>rfl) h w) (λ_ _ _ h w=>KF.ands h λt H' k1 _ h=>w t H' k1.test h) (λ_ _ _ h w=>Dr h w λh=>KF.ors h λt H' k1 h=>w t H' k1.test h)
   (λ_ _ _ _ q _ h w=>CJ KF q h w) (λ_ _ _ _ _ h _=>nn h)
   (λo x _ as _ _ _ _ _ e h w=>trR KF e (λ_ _=>rfl) h w) (λfn as kws _ ks _ _ e h w=>trR KF e (λ_ _=>rfl) h w)
   (λo x _ _ _ e h w=>trR KF e (λ_ _=>rfl) h w) (λo i _ _ e h w=>trR KF e (λ_ _=>rfl) h w)
   (λo l u s _ _ e h w=>trR KF e (λ_ _=>rfl) h w) (λxs _ e h w=>trR KF e (λ_ _=>rfl) h w)
   (λxs _ _ e h w=>trR KF e (λ_ _=>rfl) h w) (λx y _ _ e h w=>trR KF e (λ_ _=>rfl) h w) (λ_ e h w=>trR KF e (λ_ _=>rfl) h w)
   (λx gs _ _ ns _ e h w=>trR KF e (λ_ _=>rfl) h w) (λx y gs _ _ ns _ e h w=>trR KF e (λ_ _=>rfl) h w)
   (λxs _ _ e h w=>trR KF e (λ_ _=>rfl) h w) (λ_ b _ _ ns ps _ _ _ e h w=>trR KF e (λ_ _=>rfl) h w) e rfl h w
theorem uL(X:dF cx K)(KF:dC cx F){k:TH->R}(h:lP F d (cvT (cvE n) m e) v c H k=some z)(w:∀H',AsE cx d e v c H.L H'.L->k H'=some z->P):P:=by
 cases m with
 |zero=>exact nn h
 |succ m=>cases e with
  |Name s p=>exact IU (f:=λp=>lP F d p v c H k) (p:=.nm) rfl h λx es hx h=>dq h λH' h1 h=>w H' (es▸AsE.nm (lC hx h1)) h
  |Tuple ts kk p=>exact dq h λxs hx h=>KF.asgs h λH' k1 h=>w H' (AsE.tup hx k1) h
  |Attribute o s p=>exact IU (f:=λp=>lP F d p v c H k) (p:=λx=>.attr (cvE n o) x) rfl h λx es hx h=>ve X.kc KF hx h λH' k1=>w H' (es▸k1)
  |Subscript o i p=>exact ng (f:=λp=>lP F d p v c H k) (q:=!jk i) (p:=.sub (cvE n o) (cvE n i)) rfl h λq h=>KF.ev h λa O7 k1 h=>KF.ev h λb H₂ k2 h=>dq h λO8 h3 h=>w O8 (AsE.sub (pq q) k1 k2 (FZ h3)) h
  |_=>exact nn h
theorem pY(KF:dC cx F){k:AF->TH->R}{y:Nat}{p1 p2:Pos}{isD:Bool}{pe gs:PE}{x:Expr}{sc:Scope}{names:List (Nat×NameKind)}{U3:Obj}{newAcc:Sem Value}{nw:AO}(X:XC isD pe gs x 0)(S:scN sc=some names)(hfr:U3.isFreed=false)(hnew:∀A s (Q:Value->Shared->Prop) E,Q (.ref s.heap.objs.size) { s with heap:=s.heap.push U3}->wpAny (model pw cx.w) A newAcc Q E s)
  (hor:∀(h:Shared) ρ m a,h.heap.get? a=some U3->OR cx h ρ m a nw) (he:∀target iter ifs rest env,clausesOf x=⟨target,iter,ifs,0⟩::rest->∃pos,eval x env=comprehension x sc env pos newAcc false (eval iter env) none/\∀u,evalThenUse x env u=(do let _ <-comprehension x sc env pos newAcc false (eval iter env) (some u)))
  (hsw:∀env,∃b,swapsWith x (some (.Name (nmF y) p1)) p2.line env=pure b) (hy:y<185)
  (h:iO F d nw isD pe gs names c H (λn H'=>opt (jD c H' y (.ref n)) λH''=>gNs H'' (n+1) λ_=>k .next (st H'' (n+1) .dead))=some z) (w:∀f H',ExS cx d (.Assign [.Name (nmF y) p1] x p2) c H.L f H'.L->k f H'=some z->P):P:=
 rg KF X (lh S) hfr hnew hor h λq H' m C hg h=>dq h λH'' h2 h=>yn h λm2 h3 h=>w _ _ (ExS.setc C hg he hsw hy h2 h3) h
theorem yt(KF:dC cx F){k:AF->TH->R}{y:Nat}{p1 p2:Pos}(hy:y<185)(h:vF F d y (cvE n e) c H k=some z)(w:∀f H',ExS cx d (.Assign [.Name (nmF y) p1] e p2) c H.L f H'.L->k f H'=some z->P):P:=by
 cases n with
 |zero=>exact nn h
 |succ n=>
  refine gd (M:=λe p=>vF F d y p c H k=some z->(∀f H',ExS cx d (.Assign [.Name (nmF y) p1] e p2) c H.L f H'.L->k f H'=some z->P)->P) ?_ ?_ ?_ ?_ ?_ ?_ ?_ ?_ ?_ ?_ ?_ ?_ ?_ ?_ ?_ ?_ ?_ ?_ ?_ ?_ ?_ ?_
   (λ_ _ _ _ _ hn h w=>pY KF Mh hn rfl G4 LV L3 (λenv=>⟨_,rfl⟩) hy h w) (λ_ _ _ _ _ _ hn h w=>pY KF LP hn rfl Gh Ky L6 (λenv=>⟨_,rfl⟩) hy h w) ?_ ?_ e h w<;>(intros;exact nn (by assumption))
theorem zV:∀e,gm e=true->∃vs k p,e = .Tuple vs k p:=λe=>by cases e<;>first | exact λh=>absurd h ah | exact λ_=>⟨_,_,_,rfl⟩
theorem Mf{M:Expr->PE->Prop}(hq:gn e=true)(no:∀t,M t .no)(k:∀x p,x<185->M (.Name (nmF x) p) (.setc x (cvE n e))):∀t,M t (j5 (cvE n) [t] e):=λt=>by
 unfold j5;rw[hq];cases t<;>first | exact no _ | exact Bj (M:=M _) (p:=λx=>.setc x (cvE n e)) (no _) λx e hx=>e▸k x _ hx
theorem Kx{M:Expr->PE->Prop}{vs:List Expr}{kv pv}(no:∀t,M t .no)(k:∀ts kt pt xs,sj ts=some xs->nQ xs vs=true->M (.Tuple ts kt pt) (.swap xs (cvL (cvE n) vs))):∀t,M t (j5 (cvE n) [t] (.Tuple vs kv pv)):=λt=>by
 cases t<;>first | exact no _ | exact vd (M:=M _) (p:=λxs=>only (nQ xs vs) (.swap xs (cvL (cvE n) vs))) (no _) λxs h=>lM (M:=M _) (no _) λq=>k _ _ _ xs h q
theorem tU{M:List Expr->Expr->PE->Prop}(no:∀ts e,M ts e .no)(setc:∀x p e,x<185->M [.Name (nmF x) p] e (.setc x (cvE n e)))(swap:∀ts kt pt vs kv pv xs,sj ts=some xs->nQ xs vs=true->M [.Tuple ts kt pt] (.Tuple vs kv pv) (.swap xs (cvL (cvE n) vs)))
  (set:∀ts e,gn e=false->gm e=false->M ts e (.set (cvL (cvT (cvE n) 9) ts) (cvE n e))) (ts:List Expr) (e:Expr):M ts e (j5 (cvE n) ts e):=by
 have out:∀ts,gn e=true\/gm e=true->(∀t,ts≠[t])->j5 (cvE n) ts e = .no:=λts hq ht=>by
  unfold j5;cases h:gn e with
  |true=>cases ts with
   |nil=>rfl
   |cons t r=>cases r with
    |nil=>exact absurd rfl (ht t)
    |cons _ _=>rfl
  |false=>
   rw[hq.resolve_left (by rw[h];exact ah)];cases ts with
   |nil=>rfl
   |cons t r=>cases r with
    |nil=>exact absurd rfl (ht t)
    |cons _ _=>rfl
 have one:gn e=true\/gm e=true->(∀t,M [t] e (j5 (cvE n) [t] e))->M ts e (j5 (cvE n) ts e):=λhq k=>by
  by_cases ht:∃t,ts=[t]
  ·obtain⟨t,e⟩:=ht;rw[e];exact k t
  ·rw[out ts hq λt e=>ht ⟨t,e⟩];exact no _ _
 cases h:gn e with
 |true=>exact one (.inl h) (Mf (M:=λt=>M [t] e) h (λt=>no _ _) λx p hx=>setc x p e hx)
 |false=>
  cases h2:gm e with
  |true=>
   refine sM (zV e h2) λvs k p ev=>?_;refine one (.inr h2) ?_;rw[ev];exact Kx (M:=λt=>M [t] _) (λt=>no _ _) λts kt pt xs h q=>swap ts kt pt vs _ _ xs h q
  |false=>
   have:j5 (cvE n) ts e = .set (cvL (cvT (cvE n) 9) ts) (cvE n e):=by unfold j5;rw[h,h2];rfl
   rw[this];exact set ts e h h2
theorem Cc{M:Expr->PE->Prop}{op:Operator}(no:∀t,M t .no)(k:∀x p,x<185->M (.Name (nmF x) p) (.aug x op (cvE n e))):∀t,M t (cvS (cvE n) (m+1) (.AugAssign t op e pos)):=λt=>by
 cases t<;>first | exact no _ | exact Bj (M:=M _) (p:=λx=>.aug x op (cvE n e)) (no _) λx e hx=>e▸k x _ hx
theorem y7(X:dF cx K){k:AF->TH->R}{nm bd:Str}{a:Arguments}{b:List Stmt}{sc:Scope}{x:Nat}{names:List (Nat×NameKind)}{ps:List Nat}(hx:nm=nmF x)(hbd:bd=nm)(hl:(pos.line,pos.col)=kH (kOf a))(hn:scN sc=some names)(hp:kM (kOf a) a=some ps)
  (h:(ifO (Nat.beq x 20&&Nat.ble (kOf a) 1) (se (kOf a) ⟨ps,[],names,cvL (cvS (cvE n) m) b⟩ c H λv=>opt (jD c H x v) λH=>k .next H))=some z) (w:∀f H',ExS cx d (.FunctionDef nm a b [] none [] sc none bd pos) c H.L f H'.L->k f H'=some z->P):P:=
 ifE h λq h=>mkE (ft:=⟨ps,[],names,cvL (cvS (cvE n) m) b⟩) h λclo hi ht hc h=>dq h λH' h2 h=>w .next H' (by
  have e20:=nb (aa q).1;rw[e20]at h2;rw[hbd,hx,e20];exact ExS.def_ (f:=.next) X.cod (aa q).2 hi ht hc hn (td hp).1 hl h2) h
theorem yy(X:dF cx K)(KF:dC cx F){k:AF->TH->R}{s:Stmt}(h:g6 F d (cvS (cvE n) m s) c H k=some z)(w:∀f H',ExS cx d s c H.L f H'.L->k f H'=some z->P):P:=by
 cases m with
 |zero=>exact nn h
 |succ m=>cases s with
  |Expr e p=>exact ng (f:=λp=>g6 F d p c H k) (q:=!gn e) (p:=.expr (cvE n e)) rfl h λq h=>KF.ev h λv H' k1 h=>w .next H' (ExS.expr (pq q) k1) h
  |Return o p=>cases o with
   |none=>exact w _ H ExS.ret0 h
   |some e=>exact KF.ev h λv H' k1 h=>w _ H' (ExS.ret k1) h
  |Assign ts e p=>
   exact tU (M:=λts e q=>g6 F d q c H k=some z->(∀f H',ExS cx d (.Assign ts e p) c H.L f H'.L->k f H'=some z->P)->P) (λ_ _ h _=>nn h) (λ_ _ _ hx h w=>yt KF hx h w) (λ_ _ _ _ _ _ _ hs hq h w=>yo KF (.mk' hs hq) h w) (λ_ _ hc ht h w=>zn KF hc ht h w) ts e h w
  |AugAssign t op e p=>exact Cc (n:=n) (m:=m) (e:=e) (op:=op) (pos:=p) (M:=λt q=>g6 F d q c H k=some z->(∀f H',ExS cx d (.AugAssign t op e p) c H.L f H'.L->k f H'=some z->P)->P) (λ_ h _=>nn h) (λ_ _ hx h w=>z7 KF hx h w) t h w
  |If t a b p=>exact ED KF h w
  |For t it b o p=>
   exact ng (f:=λp=>g6 F d p c H k) (q:=f9 it&&o.isEmpty) (p:=.for (cvT (cvE n) 9 t) (cvE n it) (cvL (cvS (cvE n) m) b)) rfl h λq h=>Cy KF (aa q).1 h λf H' k1=>w f H' (by rw[bp.mp (aa q).2];exact k1)
  |Try b hs o fin p=>
   exact ng (f:=λp=>g6 F d p c H k) (q:=!hs.isEmpty&&(o.isEmpty&&fin.isEmpty)) (p:=.try (cvL (cvS (cvE n) m) b)) rfl h λq h=>KF.exs h λf H' k1 h=>w f H' (by
    rw[bp.mp (aa (aa q).2).1,bp.mp (aa (aa q).2).2];cases hs with
    |nil=>exact absurd (aa q).1 ah
    |cons _ _=>exact ExB.try_ k1) h
  |FunctionDef nm a b ds r tps sc tsc bd p=>
   exact ng (f:=λp=>g6 F d p c H k) (p:=opN nm λx=>opL (scN sc) λnames=>opL (kM (kOf a) a) λps=>.def x (kOf a) ps names (cvL (cvS (cvE n) m) b)) rfl h λq h=>
    IU (f:=λp=>g6 F d p c H k) (p:=λx=>opL (scN sc) λnames=>opL (kM (kOf a) a) λps=>.def x (kOf a) ps names (cvL (cvS (cvE n) m) b)) rfl h λx hx _ h=>
    Lr (f:=λp=>g6 F d p c H k) (p:=λnames=>opL (kM (kOf a) a) λps=>.def x (kOf a) ps names (cvL (cvS (cvE n) m) b)) rfl h λnames hn h=>
    Lr (f:=λp=>g6 F d p c H k) (p:=λps=>.def x (kOf a) ps names (cvL (cvS (cvE n) m) b)) rfl h λps hp h=>by
     have q1:=aa q;have q2:=aa q1.2;have q3:=aa q2.2;have q4:=aa q3.2;have q5:=aa q4.2;rw[bp.mp q1.1,Option.isNone_iff_eq_none.mp q2.1,bp.mp q3.1,Option.isNone_iff_eq_none.mp q4.1]at w;exact y7 X hx (bW q5.1) (dec q5.2) hn hp h w
  |_=>exact nn h
end
noncomputable def BQ(K:Frag)(lo:Nat)(O:Nat->List AV->TH->(AV->TH->R)->R->R):Prop:=∀cx,dF cx K->∀{d a args H k e z} {P:Prop},lo<=d->O a args H k e=some z->(∀v H',Kp cx (.st a)->dE cx (d+1) (.st a) args [] H.L v H'.L->k v H'=some z->P)->(e=some z->P)->P
noncomputable def ut(K:Frag)(E:Nat->Option (List Int)):Prop:=∀cx,dF cx K->∀i ns,E i=some ns->sJ cx i ns
noncomputable def gL(K:Frag)(O:Orc):Prop:=BQ K O.lo O.call/\wY K O.cnt/\ut K O.ext
theorem fw(K:Frag):gL K eY:=⟨λcx X d a args H k e z P _ h _ w=>w h,λcx X d v n e H k z P _ h _=>nn h,λcx X i ns h=>nomatch h⟩
section
variable {cx:Cx} {F:Fns} {O:Orc} {d n:Nat} {H H':TH} {HL HL':List AO} {r a v f:AV} {P:Prop} {j:Nat} {args:List AV} {kws:List (Nat×AV)} {K:Frag} {z:AF×TH} {k:AV->TH->R}
theorem Dx{j:Nat}(h:du cx (d+1) (biN j) args HL r HL'):dE cx (d+1) (.bi j) args [] HL r HL':=⟨h.1,λu iF iV iK W=>by rw[show _=_ from iF,show _=_ from iK];exact h.2 u iV W⟩
theorem Fh{j:Nat}(h:eI cx (d+1) (tyN j) args HL r HL'):dE cx (d+1) (.ty j) args [] HL r HL':=⟨h.1,λu iF iV iK W=>by rw[show _=_ from iF,show _=_ from iK];exact h.2 u iV W⟩
theorem j4{α:Type}{M:Nat->α->Prop}{x:Nat}{v:α}{l:List (Nat×α)}(h:lk x l=some v)(k:∀p∈l,M p.1 p.2):M x v:=k (x,v) (gW h)
theorem fc{α:Type}{Q:α->Prop}{a:α}{l:List α}(h:Q a)(k:∀x∈l,Q x):∀x∈a::l,Q x:=λx hx=>(aH.mp hx).elim (λe=>e▸h) (k x)
theorem fn{α:Type}{Q:α->Prop}:∀x∈([]:List α),Q x:=λx hx=>nomatch hx
noncomputable abbrev BOk(cx:Cx)(d:Nat)(id:Nat)(f:List AV->TH->Option (AV×TH)):Prop:=∀{args H r H'},f args H=some (r,H')->du cx d (biN id) args H.L r H'.L
noncomputable abbrev TOk(cx:Cx)(d:Nat)(id:Nat)(f:List AV->TH->Option (AV×TH)):Prop:=∀{args H r H'},f args H=some (r,H')->eI cx d (tyN id) args H.L r H'.L
theorem zE(X:dF cx K){j:Nat}(h:gV j args H=some (r,H')):du cx d (biN j) args H.L r H'.L:=
 dq h λf hf h=>j4 (M:=λid f=>BOk cx d id f) hf (fc FB (fc FK (fc Fn (fc vG (fc FH (fc u9 (fc Ae (fc xM (fc (yB X.hdm) (fc DU (fc Dz (fc zw (fc yj (fc vy (fc CA fn))))))))))))))) h
theorem zf(X:dF cx K){j:Nat}(h:rV j args H=some (r,H')):eI cx d (tyN j) args H.L r H'.L:=
 dq h λf hf h=>j4 (M:=λid f=>TOk cx d id f) hf (fc xX (fc DP (fc (BU X.nm) (fc FV (fc EC fn))))) h
theorem oL(X:dF cx K)(KF:dC cx F){j:Nat}(h:lr F d j args kws H k=some z)(w:∀v H',Kp cx (.st j)->dE cx (d+1) (.st j) args kws H.L v H'.L->k v H'=some z->P):P:=
 gC h (λe h=>vH KF X.kc2 X.fk h (nb e▸w)) λ_ h=>dq h λft hf h=>(X.fk j ft hf).elim λfd hx=>hx.elim λbody Y=>vL KF Y h w
theorem oU{M:AV->R->Prop}(no:∀f,M f none)(st:∀a,M (.st a) (ifB (Nat.ble O.lo d&&kws.isEmpty) (O.call a args H k (lr F d a args kws H k)) (lr F d a args kws H k)))
  (bi:∀id,M (.bi id) (ifB (Nat.beq id 2 && !kws.isEmpty) (mq F d args kws H k) (ifO kws.isEmpty (dY (gV id args H) k)))) (ty:∀id,M (.ty id) (ifO kws.isEmpty (dY (rV id args H) k))) (bm:∀f self,M (.bm f self) (uK F d f self args kws H k))
  (clo:∀ft cells,M (.clo ft cells) (ifO ft.ks.isEmpty (dY (jC F d ft [] .none cells args kws H λv H=>some (.ret v,H)) λf H'=>ifO (Nat.ble H.n H'.n) (k (gp f) H')))):∀f,M f (nO F O (d+1) f args kws H k):=λf=>by
 cases f<;>first | exact no _ | exact st _ | exact bi _ | exact ty _ | exact bm _ _ | exact clo _ _
theorem tn(hO:gL K O)(X:dF cx K)(KF:∀cx',dF cx' K->dC cx' F)(h:nO F O d f args kws H k=some z)(w:∀v H',Kp cx f->dE cx d f args kws H.L v H'.L->k v H'=some z->P):P:=by
 cases d with
 |zero=>exact nn h
 |succ d=>
  exact oU (M:=λf x=>x=some z->(∀v H',Kp cx f->dE cx (d+1) f args kws H.L v H'.L->k v H'=some z->P)->P) (λ_ h _=>nn h)
   (λa h w=>gC h (λq h=>hO.1 cx X (leb (aa q).1) h (λv H' kp k1 h=>w v H' kp ((bp.mp (aa q).2).symm▸k1) h) λh=>oL X (KF cx X) h w) λ_ h=>oL X (KF cx X) h w)
   (λj h w=>gC h (λq h=>rj X KF h λv H' k1=>w v H' (yV j) (nb (aa q).1▸k1)) λ_ h=>ifE h λq h=>gx h λv H' hb h=>w v H' (yV j) (bp.mp q▸Dx (zE X hb)) h)
   (λj h w=>ifE h λq h=>gx h λv H' hb h=>w v H' (Gj j) (bp.mp q▸Fh (zf X hb)) h)
   (λf s h w=>ym (KF cx X) X.fk h w) (λft cells h w=>vk X.cod (KF cx X) h w) f h w
theorem Ev(hO:gL K O)(X:dF cx K)(KF:∀cx',dF cx' K->dC cx' F):dC cx (step O F) where
 ev:=yu hO.2.1 (hO.2.2 cx X) X (KF cx X)
 evs:=Jd (KF cx X)
 tr:=xw (KF cx X)
 ands:=DM (KF cx X)
 ors:=Jf (KF cx X)
 no:=nn
 noa:=nn
 nul:=λh w=>w h
 asg:=uL X (KF cx X)
 asgs:=FG (KF cx X)
 ex:=yy X (KF cx X)
 exs:=H0 (KF cx X)
 call:=tn hO X KF
 loop:=DV (KF cx X)
 comp:=E7 (KF cx X)
 str:=Im (KF cx X)
theorem rD(hO:gL K O):∀(n:Nat) (cx:Cx),dF cx K->dC cx (fns O n)
 |0,cx,_=>⟨nn,nn,nn,nn,nn,nn,nn,nn,nn,nn,nn,nn,nn,nn,nn,nn⟩
 |n+1,cx,X=>Ev hO X (rD hO n)
end
section
set_option genSizeOf true
set_option genInjectivity true
set_option backward.match.sparseCases true
noncomputable def stN(i:Nat):Stmt:=(pw.main.body[i]?).getD (.Pass default)
noncomputable def meN(i:Nat):Stmt:=match stN 22 with | .ClassDef _ _ _ b ..=>(b[i]?).getD (.Pass default) | _=>.Pass default
noncomputable def S(x:String)(t:Tok):Value:=.str (Str.ofString x) t
noncomputable def cdO(vs:List Value):Obj:={ cls:=.type "code",data:=.fields ⟨vs⟩}
noncomputable def bfO(vs:List Value):Obj:={ cls:=.type "builtin_function_or_method",data:=.fields ⟨vs⟩}
noncomputable def tpO(vs:List Value):Obj:={ cls:=.type "tuple",data:=.seq ⟨vs⟩}
noncomputable def dcO(P:Params)(c:Value)(es:List (String×Tok×Value))(ep:Nat):Obj:={ cls:=c,data:=.dict ⟨es.map λe=>⟨PyData.keyHash P (Str.ofString e.1),S e.1 e.2.1,e.2.2⟩⟩ ep}
noncomputable def moN(m:Nat):Value:=match m with
 |0=>S "cpy313.operator" 289 | 1=>S "cpy313._pylong" 382 | 2=>S "cpy313.xml.etree.ElementTree" 406 | _=>S "law_xj0036_01" 656
noncomputable def fnO(st:Stmt)(q:String)(d k:Value)(m:Nat)(c:Addr):Obj:=match st with
 | .FunctionDef n a b _ _ _ sc _ _ _=>{ cls:=.type "function",data:=.func { name:=n,qualname:=Str.ofString q,params:=a,body:=.stmts b,scope:=sc,globals:=3,closure:=[],defaults:=d,kwdefaults:=k,pyModule:=moN m,code:=.ref c}}
 |_=>default
noncomputable def clO:Obj:={ cls:=.type "type",data:=.cls { name:="C14NWriterTarget",bases:=[.type "object"],mro:=[.ref 241,.type "object"],ns:=240,qualname:="C14NWriterTarget"},slots:=#[none,none,some (S "C14NWriterTarget" 477),some (S "C14NWriterTarget" 485),some (.builtin "object.__new__"),some (.bool true)]}
noncomputable def KA:List Addr:=[2,3,44,45,51,52,58,59,65,66,72,73,79,80,86,87,93,94,100,101,107,108,114,115,121,122,128,129,135,151,157,158,159,165,166,172,173,174,180,181,187,188,189,190,196,197,203,204,210,211,212,216,217,240,241,251,252,258,259,263,264,270,271,277,278,284,285,289,290,296,297,301,302,306,307,311,312,316,317,321,322]
noncomputable def KL(P:Params):Frag:=[(2,dcO P .none [("\x69mport.loaded._sre",183,(.bool true)),("class._frozen_importlib.BuiltinImporter",185,(.ref 14)),("watched.\x69mport",206,(.ref 18)),("class._frozen_importlib.ModuleSpec",216,(.ref 22)),("sys.modules.booked-epoch",245,(.int 3 0)),("\x69mport.later-laid._sre",270,(.bool true)),("watched.library",272,(.ref 27)),("watched.library-objects",0,(S "\x0c" 0)),("watched.library-deep._sre",273,(S "\x04\x00\x00\x0b\x04\x00\x00\x0b\x04\x00\x00\x03\x04\x00\x00\x0b\x08\x04dict\x02" 0))] 9),
 (3,dcO P (.type "dict") [("__name__",165,(S "law_xj0036_01" 656)),("__doc__",166,.none),("__package__",167,.none),("__loader__",168,(.builtin "__main__.__loader__#opaque")),("__spec__",169,.none),("__annotations__",170,(.ref 6)),("__builtins__",171,(.ref 4)),("__file__",173,(S "/claim/cut.py" 172)),("__cached__",174,.none),("_sre",275,(.ref 12)),("_wall",288,(.ref 38)),("lt",298,(.ref 45)),("ge",306,(.ref 52)),("and_",314,(.ref 59)),("lshift",322,(.ref 66)),("neg",329,(.ref 73)),("xor",337,(.ref 80)),("concat",346,(.ref 87)),("contains",354,(.ref 94)),("countOf",364,(.ref 101)),("getitem",372,(.ref 108)),("setitem",381,(.ref 115)),("_int2digits",394,(.ref 122)),("_digits2int",405,(.ref 129)),("_twin_re_1",445,(.ref 134)),("_namespace_map",467,(.ref 135)),("_raise_serialization_error",474,(.ref 142)),("_looks_like_prefix_name",476,(.ref 143)),("C14NWriterTarget",641,(.ref 241)),("_escape_cdata_c14n",648,(.ref 252)),("_escape_attrib_c14n",655,(.ref 259)),("_law_cells",663,(.ref 264)),("_law_letters",673,(.ref 271)),("_law_row",684,(.ref 278)),("_law_name",695,(.ref 285)),("_law_news",701,(.ref 290)),("_law_shattered",712,(.ref 297)),("_law_value",718,(.ref 302)),("_law_walk",724,(.ref 307)),("_law_page",730,(.ref 312)),("_law_due",736,(.ref 317)),("law",742,(.ref 322))] 42),
 (44,cdO [(S "lt" 291),(S "lt" 292),(S "/claim/cut.py" 293),(.int 6 0),(.int 2 0),(.int 0 0),(.int 0 0),(.int 3 0),(.ref 39),(.bool true),(.int 276 0),(.ref 40),.none,(.ref 41),(.ref 42),(.ref 43),(.int 296 0),(.int 6 0),(S "/claim/cut.py" 297)]),
 (45,fnO (stN 3) "lt" .none .none 0 44),
 (51,cdO [(S "ge" 299),(S "ge" 300),(S "/claim/cut.py" 301),(.int 8 0),(.int 2 0),(.int 0 0),(.int 0 0),(.int 3 0),(.ref 46),(.bool true),(.int 276 0),(.ref 47),.none,(.ref 48),(.ref 49),(.ref 50),(.int 304 0),(.int 8 0),(S "/claim/cut.py" 305)]),
 (52,fnO (stN 4) "ge" .none .none 0 51),
 (58,cdO [(S "and_" 307),(S "and_" 308),(S "/claim/cut.py" 309),(.int 10 0),(.int 2 0),(.int 0 0),(.int 0 0),(.int 3 0),(.ref 53),(.bool true),(.int 276 0),(.ref 54),.none,(.ref 55),(.ref 56),(.ref 57),(.int 312 0),(.int 10 0),(S "/claim/cut.py" 313)]),
 (59,fnO (stN 5) "and_" .none .none 0 58),
 (65,cdO [(S "lshift" 315),(S "lshift" 316),(S "/claim/cut.py" 317),(.int 12 0),(.int 2 0),(.int 0 0),(.int 0 0),(.int 3 0),(.ref 60),(.bool true),(.int 276 0),(.ref 61),.none,(.ref 62),(.ref 63),(.ref 64),(.int 320 0),(.int 12 0),(S "/claim/cut.py" 321)]),
 (66,fnO (stN 6) "lshift" .none .none 0 65),
 (72,cdO [(S "neg" 323),(S "neg" 324),(S "/claim/cut.py" 325),(.int 14 0),(.int 1 0),(.int 0 0),(.int 0 0),(.int 3 0),(.ref 67),(.bool true),(.int 276 0),(.ref 68),.none,(.ref 69),(.ref 70),(.ref 71),(.int 327 0),(.int 14 0),(S "/claim/cut.py" 328)]),
 (73,fnO (stN 7) "neg" .none .none 0 72),
 (79,cdO [(S "xor" 330),(S "xor" 331),(S "/claim/cut.py" 332),(.int 16 0),(.int 2 0),(.int 0 0),(.int 0 0),(.int 3 0),(.ref 74),(.bool true),(.int 276 0),(.ref 75),.none,(.ref 76),(.ref 77),(.ref 78),(.int 335 0),(.int 16 0),(S "/claim/cut.py" 336)]),
 (80,fnO (stN 8) "xor" .none .none 0 79),
 (86,cdO [(S "concat" 338),(S "concat" 339),(S "/claim/cut.py" 340),(.int 18 0),(.int 2 0),(.int 0 0),(.int 0 0),(.int 3 0),(.ref 81),(.bool true),(.int 276 0),(.ref 82),.none,(.ref 83),(.ref 84),(.ref 85),(.int 344 0),(.int 18 0),(S "/claim/cut.py" 345)]),
 (87,fnO (stN 9) "concat" .none .none 0 86),
 (93,cdO [(S "contains" 347),(S "contains" 348),(S "/claim/cut.py" 349),(.int 23 0),(.int 2 0),(.int 0 0),(.int 0 0),(.int 3 0),(.ref 88),(.bool true),(.int 276 0),(.ref 89),.none,(.ref 90),(.ref 91),(.ref 92),(.int 352 0),(.int 23 0),(S "/claim/cut.py" 353)]),
 (94,fnO (stN 10) "contains" .none .none 0 93),
 (100,cdO [(S "countOf" 355),(S "countOf" 356),(S "/claim/cut.py" 357),(.int 25 0),(.int 2 0),(.int 0 0),(.int 0 0),(.int 3 0),(.ref 95),(.bool true),(.int 276 0),(.ref 96),.none,(.ref 97),(.ref 98),(.ref 99),(.int 362 0),(.int 25 0),(S "/claim/cut.py" 363)]),
 (101,fnO (stN 11) "countOf" .none .none 0 100),
 (107,cdO [(S "getitem" 365),(S "getitem" 366),(S "/claim/cut.py" 367),(.int 31 0),(.int 2 0),(.int 0 0),(.int 0 0),(.int 3 0),(.ref 102),(.bool true),(.int 276 0),(.ref 103),.none,(.ref 104),(.ref 105),(.ref 106),(.int 370 0),(.int 31 0),(S "/claim/cut.py" 371)]),
 (108,fnO (stN 12) "getitem" .none .none 0 107),
 (114,cdO [(S "setitem" 373),(S "setitem" 374),(S "/claim/cut.py" 375),(.int 33 0),(.int 3 0),(.int 0 0),(.int 0 0),(.int 3 0),(.ref 109),(.bool true),(.int 276 0),(.ref 110),.none,(.ref 111),(.ref 112),(.ref 113),(.int 379 0),(.int 33 0),(S "/claim/cut.py" 380)]),
 (115,fnO (stN 13) "setitem" .none .none 0 114),
 (121,cdO [(S "_int2digits" 384),(S "_int2digits" 385),(S "/claim/cut.py" 386),(.int 36 0),(.int 2 0),(.int 0 0),(.int 0 0),(.int 3 0),(.ref 116),(.bool true),(.int 276 0),(.ref 117),.none,(.ref 118),(.ref 119),(.ref 120),(.int 392 0),(.int 36 0),(S "/claim/cut.py" 393)]),
 (122,fnO (stN 15) "_int2digits" .none .none 1 121),
 (128,cdO [(S "_digits2int" 395),(S "_digits2int" 396),(S "/claim/cut.py" 397),(.int 52 0),(.int 2 0),(.int 0 0),(.int 0 0),(.int 3 0),(.ref 123),(.bool true),(.int 276 0),(.ref 124),.none,(.ref 125),(.ref 126),(.ref 127),(.int 403 0),(.int 52 0),(S "/claim/cut.py" 404)]),
 (129,fnO (stN 16) "_digits2int" .none .none 1 128),
 (135,dcO P (.type "dict") [("http://www.w3.org/XML/1998/namespace",446,(S "xml" 447)),("http://www.w3.org/1999/xhtml",448,(S "html" 449)),("http://www.w3.org/1999/02/22-rdf-syntax-ns#",450,(S "rdf" 451)),("http://schemas.xmlsoap.org/wsdl/",452,(S "wsdl" 453)),("http://www.w3.org/2001/XMLSchema",454,(S "xs" 455)),("http://www.w3.org/2001/XMLSchema-instance",456,(S "xsi" 457)),("http://purl.org/dc/elements/1.1/",458,(S "dc" 459))] 7),
 (151,dcO P (.type "dict") [("with_comments",489,(.bool false)),("strip_text",490,(.bool false)),("rewrite_prefixes",491,(.bool false)),("qname_aware_tags",492,.none),("qname_aware_attrs",493,.none),("exclude_attrs",494,.none),("exclude_tags",495,.none)] 7),
 (157,cdO [(S "__init__" 496),(S "C14NWriterTarget.__init__" 497),(S "/claim/cut.py" 498),(.int 69 0),(.int 2 0),(.int 0 0),(.int 7 0),(.int 3 0),(.ref 152),(.bool true),(.int 276 0),(.ref 153),.none,(.ref 154),(.ref 155),(.ref 156),(.int 508 0),(.int 69 0),(S "/claim/cut.py" 509)]),
 (158,fnO (meN 0) "C14NWriterTarget.__init__" .none (.ref 151) 2 157),
 (159,tpO [(.type "reversed")]),
 (165,cdO [(S "_iter_namespaces" 511),(S "C14NWriterTarget._iter_namespaces" 512),(S "/claim/cut.py" 513),(.int 97 0),(.int 3 0),(.int 0 0),(.int 0 0),(.int 35 0),(.ref 160),(.bool true),(.int 276 0),(.ref 161),.none,(.ref 162),(.ref 163),(.ref 164),(.int 518 0),(.int 97 0),(S "/claim/cut.py" 519)]),
 (166,fnO (meN 1) "C14NWriterTarget._iter_namespaces" (.ref 159) .none 2 165),
 (172,cdO [(S "_resolve_prefix_name" 521),(S "C14NWriterTarget._resolve_prefix_name" 522),(S "/claim/cut.py" 523),(.int 102 0),(.int 2 0),(.int 0 0),(.int 0 0),(.int 3 0),(.ref 167),(.bool true),(.int 276 0),(.ref 168),.none,(.ref 169),(.ref 170),(.ref 171),(.int 530 0),(.int 102 0),(S "/claim/cut.py" 531)]),
 (173,fnO (meN 2) "C14NWriterTarget._resolve_prefix_name" .none .none 2 172),
 (174,tpO [.none]),
 (180,cdO [(S "_qname" 533),(S "C14NWriterTarget._qname" 534),(S "/claim/cut.py" 535),(.int 109 0),(.int 3 0),(.int 0 0),(.int 0 0),(.int 3 0),(.ref 175),(.bool true),(.int 276 0),(.ref 176),.none,(.ref 177),(.ref 178),(.ref 179),(.int 543 0),(.int 109 0),(S "/claim/cut.py" 544)]),
 (181,fnO (meN 3) "C14NWriterTarget._qname" (.ref 174) .none 2 180),
 (187,cdO [(S "data" 546),(S "C14NWriterTarget.data" 547),(S "/claim/cut.py" 548),(.int 136 0),(.int 2 0),(.int 0 0),(.int 0 0),(.int 3 0),(.ref 182),(.bool true),(.int 276 0),(.ref 183),.none,(.ref 184),(.ref 185),(.ref 186),(.int 551 0),(.int 136 0),(S "/claim/cut.py" 552)]),
 (188,fnO (meN 4) "C14NWriterTarget.data" .none .none 2 187),
 (189,bfO [.builtin "str.join",S "" 554]),
 (190,tpO [(.ref 189)]),
 (196,cdO [(S "_flush" 556),(S "C14NWriterTarget._flush" 557),(S "/claim/cut.py" 558),(.int 140 0),(.int 2 0),(.int 0 0),(.int 0 0),(.int 3 0),(.ref 191),(.bool true),(.int 276 0),(.ref 192),.none,(.ref 193),(.ref 194),(.ref 195),(.int 564 0),(.int 140 0),(S "/claim/cut.py" 565)]),
 (197,fnO (meN 5) "C14NWriterTarget._flush" (.ref 190) .none 2 196),
 (203,cdO [(S "start_ns" 567),(S "C14NWriterTarget.start_ns" 568),(S "/claim/cut.py" 569),(.int 154 0),(.int 3 0),(.int 0 0),(.int 0 0),(.int 3 0),(.ref 198),(.bool true),(.int 276 0),(.ref 199),.none,(.ref 200),(.ref 201),(.ref 202),(.int 573 0),(.int 154 0),(S "/claim/cut.py" 574)]),
 (204,fnO (meN 6) "C14NWriterTarget.start_ns" .none .none 2 203),
 (210,cdO [(S "start" 576),(S "C14NWriterTarget.start" 577),(S "/claim/cut.py" 578),(.int 161 0),(.int 3 0),(.int 0 0),(.int 0 0),(.int 3 0),(.ref 205),(.bool true),(.int 276 0),(.ref 206),.none,(.ref 207),(.ref 208),(.ref 209),(.int 583 0),(.int 161 0),(S "/claim/cut.py" 584)]),
 (211,fnO (meN 7) "C14NWriterTarget.start" .none .none 2 210),
 (212,tpO [.none]),
 (216,cdO [(S "_start" 586),(S "C14NWriterTarget._start" 587),(S "/claim/cut.py" 588),(.int 174 0),(.int 5 0),(.int 0 0),(.int 0 0),(.int 3 0),(.ref 213),(.bool true),(.int 276 0),(.ref 214),.none,.none,.none,(.ref 215),(.int 589 0),(.int 174 0),(S "/claim/cut.py" 590)]),
 (217,fnO (meN 8) "C14NWriterTarget._start" (.ref 212) .none 2 216),
 (240,dcO P (.type "dict") [("__module__",484,(S "cpy313.xml.etree.ElementTree" 406)),("__firstlineno__",488,(.int 67 487)),("__init__",510,(.ref 158)),("_iter_namespaces",520,(.ref 166)),("_resolve_prefix_name",532,(.ref 173)),("_qname",545,(.ref 181)),("data",553,(.ref 188)),("_flush",566,(.ref 197)),("start_ns",575,(.ref 204)),("start",585,(.ref 211)),("_start",591,(.ref 217)),("end",599,(.ref 224)),("comment",607,(.ref 231)),("pi",616,(.ref 238)),("__static_attributes__",634,(.ref 239)),("__dict__",636,(.ref 242)),("__weakref__",638,(.ref 243)),("__doc__",639,.none)] 4),
 (241,clO),
 (251,cdO [(S "_escape_cdata_c14n" 642),(S "_escape_cdata_c14n" 643),(S "/claim/cut.py" 644),(.int 227 0),(.int 1 0),(.int 0 0),(.int 0 0),(.int 3 0),(.ref 246),(.bool true),(.int 276 0),(.ref 247),.none,(.ref 248),(.ref 249),(.ref 250),(.int 646 0),(.int 227 0),(S "/claim/cut.py" 647)]),
 (252,fnO (stN 23) "_escape_cdata_c14n" .none .none 2 251),
 (258,cdO [(S "_escape_attrib_c14n" 649),(S "_escape_attrib_c14n" 650),(S "/claim/cut.py" 651),(.int 240 0),(.int 1 0),(.int 0 0),(.int 0 0),(.int 3 0),(.ref 253),(.bool true),(.int 276 0),(.ref 254),.none,(.ref 255),(.ref 256),(.ref 257),(.int 653 0),(.int 240 0),(S "/claim/cut.py" 654)]),
 (259,fnO (stN 24) "_escape_attrib_c14n" .none .none 2 258),
 (263,cdO [(S "_law_cells" 658),(S "_law_cells" 659),(S "/claim/cut.py" 660),(.int 258 0),(.int 1 0),(.int 0 0),(.int 0 0),(.int 3 0),(.ref 260),(.bool true),(.int 276 0),(.ref 261),.none,.none,.none,(.ref 262),(.int 661 0),(.int 258 0),(S "/claim/cut.py" 662)]),
 (264,fnO (stN 26) "_law_cells" .none .none 3 263),
 (270,cdO [(S "_law_letters" 664),(S "_law_letters" 665),(S "/claim/cut.py" 666),(.int 261 0),(.int 1 0),(.int 0 0),(.int 0 0),(.int 3 0),(.ref 265),(.bool true),(.int 276 0),(.ref 266),.none,(.ref 267),(.ref 268),(.ref 269),(.int 671 0),(.int 261 0),(S "/claim/cut.py" 672)]),
 (271,fnO (stN 27) "_law_letters" .none .none 3 270),
 (277,cdO [(S "_law_row" 674),(S "_law_row" 675),(S "/claim/cut.py" 676),(.int 268 0),(.int 1 0),(.int 0 0),(.int 0 0),(.int 3 0),(.ref 272),(.bool true),(.int 276 0),(.ref 273),.none,(.ref 274),(.ref 275),(.ref 276),(.int 682 0),(.int 268 0),(S "/claim/cut.py" 683)]),
 (278,fnO (stN 28) "_law_row" .none .none 3 277),
 (284,cdO [(S "_law_name" 685),(S "_law_name" 686),(S "/claim/cut.py" 687),(.int 274 0),(.int 2 0),(.int 0 0),(.int 0 0),(.int 3 0),(.ref 279),(.bool true),(.int 276 0),(.ref 280),.none,(.ref 281),(.ref 282),(.ref 283),(.int 693 0),(.int 274 0),(S "/claim/cut.py" 694)]),
 (285,fnO (stN 29) "_law_name" .none .none 3 284),
 (289,cdO [(S "_law_news" 696),(S "_law_news" 697),(S "/claim/cut.py" 698),(.int 284 0),(.int 1 0),(.int 0 0),(.int 0 0),(.int 3 0),(.ref 286),(.bool true),(.int 276 0),(.ref 287),.none,.none,.none,(.ref 288),(.int 699 0),(.int 284 0),(S "/claim/cut.py" 700)]),
 (290,fnO (stN 30) "_law_news" .none .none 3 289),
 (296,cdO [(S "_law_shattered" 702),(S "_law_shattered" 703),(S "/claim/cut.py" 704),(.int 292 0),(.int 2 0),(.int 0 0),(.int 0 0),(.int 3 0),(.ref 291),(.bool true),(.int 276 0),(.ref 292),.none,(.ref 293),(.ref 294),(.ref 295),(.int 710 0),(.int 292 0),(S "/claim/cut.py" 711)]),
 (297,fnO (stN 31) "_law_shattered" .none .none 3 296),
 (301,cdO [(S "_law_value" 713),(S "_law_value" 714),(S "/claim/cut.py" 715),(.int 298 0),(.int 2 0),(.int 0 0),(.int 0 0),(.int 3 0),(.ref 298),(.bool true),(.int 276 0),(.ref 299),.none,.none,.none,(.ref 300),(.int 716 0),(.int 298 0),(S "/claim/cut.py" 717)]),
 (302,fnO (stN 32) "_law_value" .none .none 3 301),
 (306,cdO [(S "_law_walk" 719),(S "_law_walk" 720),(S "/claim/cut.py" 721),(.int 300 0),(.int 1 0),(.int 0 0),(.int 0 0),(.int 3 0),(.ref 303),(.bool true),(.int 276 0),(.ref 304),.none,.none,.none,(.ref 305),(.int 722 0),(.int 300 0),(S "/claim/cut.py" 723)]),
 (307,fnO (stN 33) "_law_walk" .none .none 3 306),
 (311,cdO [(S "_law_page" 725),(S "_law_page" 726),(S "/claim/cut.py" 727),(.int 302 0),(.int 5 0),(.int 0 0),(.int 0 0),(.int 3 0),(.ref 308),(.bool true),(.int 276 0),(.ref 309),.none,.none,.none,(.ref 310),(.int 728 0),(.int 302 0),(S "/claim/cut.py" 729)]),
 (312,fnO (stN 34) "_law_page" .none .none 3 311),
 (316,cdO [(S "_law_due" 731),(S "_law_due" 732),(S "/claim/cut.py" 733),(.int 309 0),(.int 6 0),(.int 0 0),(.int 0 0),(.int 3 0),(.ref 313),(.bool true),(.int 276 0),(.ref 314),.none,.none,.none,(.ref 315),(.int 734 0),(.int 309 0),(S "/claim/cut.py" 735)]),
 (317,fnO (stN 35) "_law_due" .none .none 3 316),
 (321,cdO [(S "law" 737),(S "law" 738),(S "/claim/cut.py" 739),(.int 317 0),(.int 1 0),(.int 0 0),(.int 0 0),(.int 3 0),(.ref 318),(.bool true),(.int 276 0),(.ref 319),.none,.none,.none,(.ref 320),(.int 740 0),(.int 317 0),(S "/claim/cut.py" 741)]),
 (322,fnO (stN 36) "law" .none .none 3 321)]
noncomputable def DN(p:Program)(w:World):Nat->SharedT->Thread->Option SharedT
 |0,_,_=>none
 |n+1,s,t=>match t.atExitBegin with
  |some []=>some s
  |some (_::_)=>none
  |none=>match Fast.tw10156331382660048174 (Fast.tw11892475500146522536 Fast.tw14364793385576792824) p w s t with
   |some (s',t')=>DN p w n s' t'
   |none=>none
noncomputable def Fp(p:Program)(w:World)(U2:Nat)(ann:Option Value):Nat->SharedT->Thread->Option SharedT
 |0,_,_=>none
 |n+1,s,t=>match through t with
  |true=>some s
  |false=>match Fast.tw6613529449190102663 U2 ann t with
   |false=>none
   |true=>match Fast.tw10156331382660048174 (Fast.tw11892475500146522536 Fast.tw14364793385576792824) p w s t with
    |some (s',t')=>Fp p w U2 ann n s' t'
    |none=>none
noncomputable def wr:List Obj->Nat->BT->Option BT
 | [],_,t=>some t
 |o::r,n,t=>match ((t.ins n o).get n).isSome with
  |true=>wr r (n+1) (t.ins n o)
  |false=>none
noncomputable def CM(s:Shared):Option SharedT:=(wr s.heap.objs.toList 0 .nil).map λt=>⟨t,s.heap.objs.toList.length,s.heap.life,s.gens,s.drawn,s.toks,s.os⟩
noncomputable def vN(w:World)(N:Nat):Option (Shared×Shared):=
 (CM (start (opening pw)).1).bind λz=>(DN (opening pw) w N z (start (opening pw)).2).bind λs=>(fenceModules? pw s.abs).bind λs0=>
  (CM s0).bind λz0=>(Fp pw w s0.heap.objs.size (s0.heap.nsMap mainGlobals "__annotations__") N z0 (topStub pw)).map λs1=>(s0,s1.abs)
theorem pS(life:Life):∀{l:List Obj} {n:Nat} {t T:BT},wr l n t=some T->(absHeap T (n+l.length) life)=⟨((absHeap t n life).objs.toList++l).toArray,life⟩
 | [],n,t,T,h=>by obtain rfl:=ak h;rw[aU];rfl
 |o::r,n,t,T,h=>by
  unfold wr at h;cases e:((t.ins n o).get n).isSome with
  |false=>rw[e]at h;exact nS h
  |true=>
   rw[e]at h;have:=pS life h;rw[absHeap_ins e]at this;rw[a0,show n+(r.length+1)=n+1+r.length from bV n r.length 1,this];congr 2;show((absHeap t n life).objs.push o).toList++r=_;rw[dj,aZ];rfl
theorem pW{s:Shared}{z:SharedT}(h:CM s=some z):z.abs=s:=by
 refine dm (bn.mp h) λT h1 OA=>?_;subst OA;have:=pS s.heap.life h1;rw[aY]at this;unfold SharedT.abs;dsimp only;rw[this];rfl
theorem stq:stepT (denote treeTable)=Fast.tw10156331382660048174 (Fast.tw11892475500146522536 Fast.tw14364793385576792824):=by
 rw[Fast.te10156331382660048174,Fast.te11892475500146522536,Fast.te14364793385576792824]
theorem v0{p:Program}{w:World}:∀{n:Nat} {s s':SharedT} {t:Thread},DN p w n s t=some s'->importEnds treeTable p w n s.abs t=some s'.abs
 |0,_,_,_,h=>by exact nS h
 |n+1,s,s',t,h=>by
  unfold DN at h;unfold importEnds;rw[<-stq]at h
  split at h
  ·rename_i e;obtain rfl:=ak h;rw[e]
  ·exact nS h
  ·rename_i e
   rw[e]
   split at h
   ·rename_i e2;dsimp only;rw[stepT_spec e2];exact v0 h
   ·exact nS h
theorem xo{p:Program}{w:World}{U2:Nat}{ann:Option Value}:∀{n:Nat} {s s':SharedT} {t:Thread},Fp p w U2 ann n s t=some s'->topRun treeTable p w U2 ann n s.abs t=some s'.abs
 |0,_,_,_,h=>by exact nS h
 |n+1,s,s',t,h=>by
  unfold Fp at h;unfold topRun;rw[<-stq,<-Fast.te6613529449190102663]at h
  split at h
  ·rename_i e;obtain rfl:=ak h;rw[e]
  ·rename_i e
   rw[e]
   split at h
   ·exact nS h
   ·rename_i e1
    rw[e1]
    split at h
    ·rename_i e2;dsimp only;rw[stepT_spec e2];exact xo h
    ·exact nS h
noncomputable def sz:Program:=view pw [36]
noncomputable def jJ:List Str:=["_sre","_wall","lt","ge","and_","lshift","neg","xor","concat","contains","countOf","getitem","setitem","_int2digits","_digits2int","_twin_re_1","_namespace_map","_raise_serialization_error","_looks_like_prefix_name","C14NWriterTarget","_escape_cdata_c14n","_escape_attrib_c14n","_law_cells","_law_letters","_law_row","_law_name","_law_news","_law_shattered","_law_value","_law_walk","_law_page","_law_due"]
noncomputable def obs(s:Shared):List (Option Obj)×List (Option Obj)×Nat×Nat:=(KA.map s.heap.get?,[117,124,214].map s.heap.get?,s.heap.objs.size,s.toks)
noncomputable def val(w:World):List (Option Obj)×List (Option Obj)×Nat×Nat:=((KL w.params).map λp=>some p.2,[some (tabObj #[]),some (tabObj #[]),some (tabObj #[])],323,743)
noncomputable def J8(x:Option (Shared×Shared)):=x.map λp=>(p.1.heap.isNs mainGlobals&&p.1.gens.size == 0,staticsOk (importedModules pw.main.body) p.1.heap p.2.heap&&namesBound pw p.2.heap&&gensDone p.2&&laidKept p.1.heap p.2.heap,openSeen sz jJ (importedModules pw.main.body) (λ_=>true) true p.2,obs p.2)
noncomputable def HH(w:World):=some (true,true,openGood sz jJ,val w)
noncomputable def row:String:="special-get-raises"
theorem Ln(w:World):J8 (vN (w.withFollow "special-get-raises" false) 3000)=HH w:=by kernel_rfl
theorem LS(w:World):J8 (vN (w.withFollow "special-get-raises" true) 3000)=HH w:=by kernel_rfl
theorem wJ{w w':World}(h:J8 (vN w' 3000)=HH w):(openEnds treeTable pw w' 3000).map (λs=>(openSeen sz jJ (importedModules pw.main.body) (λ_=>true) true s,obs s))=some (openGood sz jJ,val w):=by
 refine dm (bn.mp h) λOA hr h=>?_;obtain⟨s0,s1⟩:=OA;refine dm (ck.mp hr) λz a1 hr=>?_;refine dm (ck.mp hr) λs a2 hr=>?_;refine dm (ck.mp hr) λs0' a3 hr=>?_;refine dm (ck.mp hr) λz0 a4 hr=>?_;refine dm (bn.mp hr) λs1' a5 hr=>?_;obtain⟨rfl,rfl⟩:=cy hr;obtain⟨b1,b2⟩:=cy h;obtain⟨b2,b3⟩:=cy b2;obtain⟨b3,b4⟩:=cy b3;have c2:=v0 a2;rw[pW a1]at c2;have c5:=xo a5;rw[pW a4]at c5;unfold openEnds fencedOpening topFrom;rw[c2];show(((fenceModules? pw s.abs)).bind _).map _=_;rw[a3];dsimp only[Option.bind];rw[b1];dsimp only;rw[c5];dsimp only;rw[b2];dsimp only[Option.map];exact aB some (Prod.ext b3 b4)
theorem left:LeftO pw sz jJ (λ_=>true) obs val 3000:=λw=>by
 have e:=World.withFollow_self w row;unfold row at e;cases hb:w.params.followText "special-get-raises"<;>rw[hb]at e
 ·have:=wJ (Ln w);rw[e]at this;exact this
 ·have:=wJ (LS w);rw[e]at this;exact this
end
noncomputable def fi(K:Frag)(a:Addr):Option FuncData:=match K.lookup a with
 |some o=>(match o.data with | .func fd=>some fd | _=>none)
 |none=>none
noncomputable def G3(b:FuncBody):Option (List Stmt):=match b with
 | .stmts b=>some b
 |_=>none
noncomputable def Bh(o:Option Value)(s:Str):Bool:=match o with
 |some (.str x _)=>Fast.sEq x s
 |_=>false
noncomputable def C5(K:Frag)(v:Value)(q:Str):Bool:=match v with
 | .ref c=>(match K.lookup c with | some o=>(match o.data with | .fields vs=>Bh vs[1]? q | _=>false) | none=>false)
 |_=>false
noncomputable def AU(a:Nat)(fd:FuncData):Bool:=match jX a with
 | .none=>true
 | .ref c=>decide (fd.code = .ref c)&&Fast.sEq (fd.qualname++".<locals>.") (ij (.ref c))
 |_=>false
noncomputable def Nw(K:Frag)(a:Nat)(fd:FuncData):Bool:=(!fd.scope.isCoroutine && !fd.scope.isGenerator)&&(decide (fd.globals=mainGlobals)&&(decide (fd.builtins=builtinsNs)&&(fd.closure.isEmpty&&(C5 K fd.code fd.qualname&&AU a fd))))
noncomputable def Lf(K:Frag)(a:Nat):Option (FuncData×List Stmt):=opt (fi K a) λfd=>opt (G3 fd.body) λb=>ifO (Nw K a fd) (some (fd,b))
noncomputable abbrev HY(K:Frag)(a:Nat):Option (Option (List (Nat×NameKind))×PE):=(Lf K a).map λp=>(scN p.1.scope,cvB p.2)
section
variable {cx:Cx} {K:Frag} {h:Heap} {n a:Nat} {ft:FT} {fd:FuncData} {body:List Stmt} {P:Prop}
theorem KM(h:fi K a=some fd):∃o,K.lookup a=some o/\o.data = .func fd:=by
 unfold fi at h;cases q:K.lookup a with
 |none=>rw[q]at h;exact nS h
 |some o=>
  rw[q]at h;refine⟨o,rfl,?_⟩;revert h;show(match o.data with | .func fd=>some fd | _=>none)=some fd->_;cases o.data<;>first | exact λh=>aB Data.func (ak h) | exact λh=>nn h
theorem Nb{b:FuncBody}{l:List Stmt}(h:G3 b=some l):b = .stmts l:=by cases b<;>first | exact aB _ (ak h) | exact nn h
theorem HK{o:Option Value}{s:Str}(h:Bh o s=true):∃t,o=some (.str s t):=by
 cases o with
 |none=>exact fT h
 |some v=>cases v<;>first | exact⟨_,by rw[Fast.sEq_iff.mp h]⟩ | exact absurd h ah
noncomputable def CI(K:Frag)(q:Str)(v:Value):Prop:=∃c o vs t,v = .ref c/\K.lookup c=some o/\o.data = .fields vs/\vs[1]? = some (.str q t)
noncomputable def dIn(q:Str)(d:Data):Bool:=match d with | .fields vs=>Bh vs[1]? q | _=>false
theorem M2{q:Str}(d:Data):dIn q d=true->∃vs t,d = .fields vs/\vs[1]? = some (.str q t):=by
 cases d<;>first | exact fT | exact λh=>(HK h).elim λt ht=>⟨_,t,rfl,ht⟩
theorem EE{v:Value}{q:Str}:C5 K v q=true->CI K q v:=by
 cases v with
 |ref c=>
  intro h;have h:(match K.lookup c with | some o=>dIn q o.data | none=>false)=true:=h;cases e:K.lookup c with
  |none=>rw[e]at h;exact fT h
  |some o=>
   rw[e]at h;exact(M2 _ h).elim λvs h=>h.elim λt h=>⟨c,o,vs,t,rfl,e,h⟩
 |_=>exact fT
theorem Nm(h:AU a fd=true):jX a = .none\/(jX a=fd.code/\fd.qualname++".<locals>."=ij (jX a)):=by
 unfold AU at h;cases e:jX a with
 |none=>exact .inl rfl
 |ref c=>
  rw[e]at h;have h:=aa h;exact .inr ⟨(dec h.1).symm,Fast.sEq_iff.mp h.2⟩
 |_=>rw[e]at h;exact fT h
theorem BE(X:K.In cx.hs)(h:HY K a=some (some ft.names,ft.body))(hb:∀fd,fi K a=some fd->ml cx fd ft.ps ft.ks (sd a)):∃fd body,FnK cx a ft fd body:=
 om h λp hp e=>dq hp λfd hfd hp=>dq hp λb hb' hp=>ifE hp λq hp=>so hp λep=>by
  rw[<-ep]at e;have q0:=aa q;have q1:=aa q0.2;have q2:=aa q1.2;have q3:=aa q2.2;have q4:=aa q3.2;refine dm (KM hfd) λo ho hd=>?_;refine kO (EE q4.1) λc co vs t e1 e2 e3 e4=>?_;exact⟨fd,b,⟨o,X _ _ ho,hd⟩,Nb hb',pq (aa q0.1).1,pq (aa q0.1).2,dec q1.1,dec q2.1,bp.mp q3.1,lh (cy e).1,⟨c,co,vs,t,e1,X _ _ e2,e3,e4⟩,(cy e).2.symm,hb fd hfd,Nm q4.2⟩
noncomputable def z6:Nat->(List Value->Prop)->Prop
 |0,P=>P []
 |n+1,P=>∀x,z6 n λr=>P (x::r)
theorem sP:∀{n:Nat} {P:List Value->Prop},z6 n P->∀Vs:List Value,Vs.length=n->P Vs
 |0,P,h,Vs,e=>by rw[cP e];exact h
 |n+1,P,h,Vs,e=>by
  cases Vs with
  |nil=>cases e
  |cons x r=>exact sP (h x) r (Nat.succ.inj e)
theorem oI{ks:List Nat}{dfl:List AV}{kws:List (Nat×AV)}(hd:dfl.length<=1):∀{ps:List Nat} {args:List AV} {bs:List (Nat×AV)},pN ks dfl kws ps args=some bs->
  (args.length=ps.length/\bs=ps.zip args++mW kws ks)\/(args.length+1=ps.length/\dfl.length=1/\bs=ps.zip (args++dfl)++mW kws ks)
 | [],args,bs,h=>l0E h λe h=>so h λe2=>.inl (by rw[e,<-e2];exact⟨rfl,rfl⟩)
 |p::ps,[],bs,h=>by
  have h:ifO (Nat.beq (ps.length+1) dfl.length) (some ((p::ps).zip dfl++mW kws ks))=some bs:=h;exact ifE h λq h=>so h λe=>by
   have q:=nb q;have e0:ps.length=0:=by rw[<-q]at hd;exact Nat.le_zero.mp (aW hd)
   exact .inr ⟨by rw[a0,e0];rfl,by rw[<-q,e0],by rw[<-e];rfl⟩
 |p::ps,a::args,bs,h=>by
  have h:opt (pN ks dfl kws ps args) (λr=>some ((p,a)::r))=some bs:=h;exact dq h λr h1 h=>so h λe=>(oI hd h1).imp (λk=>⟨aB Nat.succ k.1,by rw[<-e,k.2];rfl⟩) λk=>⟨aB Nat.succ k.1,k.2.1,by rw[<-e,k.2.2];rfl⟩
noncomputable def J1(K:Frag)(fd:FuncData)(ps:List Nat)(n:Nat)(dfl:List Value):Prop:=∀S (Vs:List Value),Vs.length=n->peek K S (bindArgs fd ⟨Vs,[]⟩)=some ((ps.map nmF).zip (Vs++dfl))
noncomputable def sE(K:Frag)(a:Nat)(ps:List Nat)(n:Nat)(dfl:List Value):Prop:=∀S,z6 n λVs=>(fi K a).map (λfd=>peek K S (bindArgs fd ⟨Vs,[]⟩))=some (some ((ps.map nmF).zip (Vs++dfl)))
theorem sE.of{ps:List Nat}{dfl:List Value}(h:sE K a ps n dfl)(e:fi K a=some fd):J1 K fd ps n dfl:=λS Vs hl=>by
 have:=sP (h S) Vs hl;rw[e]at this;exact ak this
theorem HV{kws:List (Nat×AV)}(h:Jy [] kws=true):kws=[]:=by cases kws with | nil=>rfl | cons p r=>exact absurd (aa (aa h).1).2 ah
theorem wv(X:K.In cx.hs){ps:List Nat}{dfl:List AV}(hd:dfl=[]\/dfl=[.none])(m0:J1 K fd ps ps.length [])(m1:dfl=[.none]->∀n,n+1=ps.length->J1 K fd ps n [.none]):ml cx fd ps [] dfl:=λN o args kws bs hk h s ρ n Vs Ks keep iV iK=>by
 have ek:=HV hk;subst ek;rcases oI (hd.elim (λe=>by rw[e];exact bj _) λe=>by rw[e];exact ad _) h with k | k
 ·rw[k.2,show mW [] []=[] from rfl,aU,lT k.1,lJ k.1]
  exact⟨Vs,iV,kp_binds (X.keeps keep) λS=>by have:=m0 S Vs (by rw[<-iV.len,k.1]);rw[aU]at this;exact this⟩
 ·have ed:dfl=[.none]:=hd.resolve_left λe=>by rw[e]at k;exact absurd k.2.1 (by decide)
  have hl:(args++[AV.none]).length=ps.length:=by rw[az];exact k.1
  rw[k.2.2,show mW [] []=[] from rfl,aU,ed,lT hl,lJ hl];exact⟨Vs++[Value.none],iV.app (L2.cons (I:=Is (cx.tk N o) s ρ n) (x:=.none) (V:=Value.none) rfl L2.nil),kp_binds (X.keeps keep) λS=>m1 ed _ k.1 S Vs iV.len.symm⟩
theorem xU(X:K.In cx.hs)(hb:∀S (a b x:Value),peek K S (bindArgs fd ⟨[a,b],[(nmF 29,x)]⟩)=some (([25,26,27,28,29,30,31,32,33].map nmF).zip [a,b,.bool false,.bool false,x,.none,.none,.none,.none])):ml cx fd [25,26] [27,28,29,30,31,32,33] []:=λN o args kws bs hk h s ρ n Vs Ks keep iV iK=>by
 cases kws with
 |nil=>exact absurd hk ah
 |cons p r=>
  have q:=aa hk;obtain⟨y,x⟩:=p;rw[bp.mp (aa q.1).1,show y=29 from nb q.2]at h iK ⊢;rcases oI (bj _) h with k | k
  ·cases args with
   |nil=>cases k.1
   |cons a r=>cases r with
    |nil=>cases k.1
    |cons b r=>cases r with
     |cons _ _=>cases k.1
     |nil=>
      refine dx (two iV) λA B e i1 i2=>?_;refine dm (one iK) λC e' i3=>?_;rw[k.2,e,e'];exact⟨[A,B,.bool false,.bool false,C,.none,.none,.none,.none],L2.cons i1 (L2.cons i2 (L2.cons (V:=.bool false) rfl (L2.cons (V:=.bool false) rfl (L2.cons i3 (L2.cons (V:=.none) rfl (L2.cons (V:=.none) rfl (L2.cons (V:=.none) rfl (L2.cons (V:=.none) rfl L2.nil)))))))),kp_binds (X.keeps keep) λS=>hb S A B C⟩
  ·cases k.2.1
end
section
variable {cx:Cx} {P:Params}
theorem dI(X:(KL P).In cx.hs){a:Nat}{ft:FT}(h:HY (KL P) a=some (some ft.names,ft.body))(hk:ft.ks=[])(hd:sd a=[])(hb:sE (KL P) a ft.ps ft.ps.length []):∃fd body,FnK cx a ft fd body:=
 BE X h λfd e=>by rw[hk,hd];exact wv X (.inl rfl) (hb.of e) λe=>nomatch e
theorem vQ(X:(KL P).In cx.hs){a m:Nat}{ft:FT}(h:HY (KL P) a=some (some ft.names,ft.body))(hk:ft.ks=[])(hd:sd a=[.none])(hl:ft.ps.length=m+1)(h0:sE (KL P) a ft.ps (m+1) [])(h1:sE (KL P) a ft.ps m [.none]):∃fd body,FnK cx a ft fd body:=
 BE X h λfd e=>by rw[hk,hd];exact wv X (.inr rfl) (hl▸h0.of e) λ_ n en=>Nat.succ.inj (en.trans hl)▸h1.of e
theorem Mr(X:(KL P).In cx.hs):∃fd body,FnK cx 45 H9 fd body:=dI X (by kernel_rfl) rfl rfl (λS x0 x1=>show(fi (KL P) 45).map (λfd=>peek (KL P) S (bindArgs fd ⟨[x0,x1],[]⟩))=some (some ((H9.ps.map nmF).zip [x0,x1])) from by kernel_rfl)
theorem LF(X:(KL P).In cx.hs):∃fd body,FnK cx 52 Iu fd body:=dI X (by kernel_rfl) rfl rfl (λS x0 x1=>show(fi (KL P) 52).map (λfd=>peek (KL P) S (bindArgs fd ⟨[x0,x1],[]⟩))=some (some ((Iu.ps.map nmF).zip [x0,x1])) from by kernel_rfl)
theorem LK(X:(KL P).In cx.hs):∃fd body,FnK cx 59 vI fd body:=dI X (by kernel_rfl) rfl rfl (λS x0 x1=>show(fi (KL P) 59).map (λfd=>peek (KL P) S (bindArgs fd ⟨[x0,x1],[]⟩))=some (some ((vI.ps.map nmF).zip [x0,x1])) from by kernel_rfl)
theorem Mi(X:(KL P).In cx.hs):∃fd body,FnK cx 66 oJ fd body:=dI X (by kernel_rfl) rfl rfl (λS x0 x1=>show(fi (KL P) 66).map (λfd=>peek (KL P) S (bindArgs fd ⟨[x0,x1],[]⟩))=some (some ((oJ.ps.map nmF).zip [x0,x1])) from by kernel_rfl)
theorem KG(X:(KL P).In cx.hs):∃fd body,FnK cx 73 AC fd body:=dI X (by kernel_rfl) rfl rfl (λS x0=>show(fi (KL P) 73).map (λfd=>peek (KL P) S (bindArgs fd ⟨[x0],[]⟩))=some (some ((AC.ps.map nmF).zip [x0])) from by kernel_rfl)
theorem LB(X:(KL P).In cx.hs):∃fd body,FnK cx 80 zU fd body:=dI X (by kernel_rfl) rfl rfl (λS x0 x1=>show(fi (KL P) 80).map (λfd=>peek (KL P) S (bindArgs fd ⟨[x0,x1],[]⟩))=some (some ((zU.ps.map nmF).zip [x0,x1])) from by kernel_rfl)
theorem LD(X:(KL P).In cx.hs):∃fd body,FnK cx 87 oP fd body:=dI X (by kernel_rfl) rfl rfl (λS x0 x1=>show(fi (KL P) 87).map (λfd=>peek (KL P) S (bindArgs fd ⟨[x0,x1],[]⟩))=some (some ((oP.ps.map nmF).zip [x0,x1])) from by kernel_rfl)
theorem MM(X:(KL P).In cx.hs):∃fd body,FnK cx 94 k8 fd body:=dI X (by kernel_rfl) rfl rfl (λS x0 x1=>show(fi (KL P) 94).map (λfd=>peek (KL P) S (bindArgs fd ⟨[x0,x1],[]⟩))=some (some ((k8.ps.map nmF).zip [x0,x1])) from by kernel_rfl)
theorem JS(X:(KL P).In cx.hs):∃fd body,FnK cx 101 fj fd body:=dI X (by kernel_rfl) rfl rfl (λS x0 x1=>show(fi (KL P) 101).map (λfd=>peek (KL P) S (bindArgs fd ⟨[x0,x1],[]⟩))=some (some ((fj.ps.map nmF).zip [x0,x1])) from by kernel_rfl)
theorem JN(X:(KL P).In cx.hs):∃fd body,FnK cx 108 mB fd body:=dI X (by kernel_rfl) rfl rfl (λS x0 x1=>show(fi (KL P) 108).map (λfd=>peek (KL P) S (bindArgs fd ⟨[x0,x1],[]⟩))=some (some ((mB.ps.map nmF).zip [x0,x1])) from by kernel_rfl)
theorem H1(X:(KL P).In cx.hs):∃fd body,FnK cx 115 mn fd body:=dI X (by kernel_rfl) rfl rfl (λS x0 x1 x2=>show(fi (KL P) 115).map (λfd=>peek (KL P) S (bindArgs fd ⟨[x0,x1,x2],[]⟩))=some (some ((mn.ps.map nmF).zip [x0,x1,x2])) from by kernel_rfl)
theorem G8(X:(KL P).In cx.hs):∃fd body,FnK cx 122 ik fd body:=dI X (by kernel_rfl) rfl rfl (λS x0 x1=>show(fi (KL P) 122).map (λfd=>peek (KL P) S (bindArgs fd ⟨[x0,x1],[]⟩))=some (some ((ik.ps.map nmF).zip [x0,x1])) from by kernel_rfl)
theorem Iy(X:(KL P).In cx.hs):∃fd body,FnK cx 129 ip fd body:=dI X (by kernel_rfl) rfl rfl (λS x0 x1=>show(fi (KL P) 129).map (λfd=>peek (KL P) S (bindArgs fd ⟨[x0,x1],[]⟩))=some (some ((ip.ps.map nmF).zip [x0,x1])) from by kernel_rfl)
theorem Iq(X:(KL P).In cx.hs):∃fd body,FnK cx 158 mP fd body:=BE X (by kernel_rfl) λfd e=>xU X λS a b x=>by
 have h:(fi (KL P) 158).map (λfd=>peek (KL P) S (bindArgs fd ⟨[a,b],[(nmF 29,x)]⟩))=some (some (([25,26,27,28,29,30,31,32,33].map nmF).zip [a,b,.bool false,.bool false,x,.none,.none,.none,.none])):=by kernel_rfl
 rw[e]at h;exact ak h
theorem JI(X:(KL P).In cx.hs):∃fd body,FnK cx 181 km fd body:=vQ (m:=2) X (by kernel_rfl) rfl rfl rfl (λS x0 x1 x2=>show(fi (KL P) 181).map (λfd=>peek (KL P) S (bindArgs fd ⟨[x0,x1,x2],[]⟩))=some (some ((km.ps.map nmF).zip [x0,x1,x2])) from by kernel_rfl) (λS x0 x1=>show(fi (KL P) 181).map (λfd=>peek (KL P) S (bindArgs fd ⟨[x0,x1],[]⟩))=some (some ((km.ps.map nmF).zip [x0,x1,.none])) from by kernel_rfl)
theorem Jx(X:(KL P).In cx.hs):∃fd body,FnK cx 204 jQ fd body:=dI X (by kernel_rfl) rfl rfl (λS x0 x1 x2=>show(fi (KL P) 204).map (λfd=>peek (KL P) S (bindArgs fd ⟨[x0,x1,x2],[]⟩))=some (some ((jQ.ps.map nmF).zip [x0,x1,x2])) from by kernel_rfl)
theorem JQ(X:(KL P).In cx.hs):∃fd body,FnK cx 211 ow fd body:=dI X (by kernel_rfl) rfl rfl (λS x0 x1 x2=>show(fi (KL P) 211).map (λfd=>peek (KL P) S (bindArgs fd ⟨[x0,x1,x2],[]⟩))=some (some ((ow.ps.map nmF).zip [x0,x1,x2])) from by kernel_rfl)
theorem It(X:(KL P).In cx.hs):∃fd body,FnK cx 217 kB fd body:=vQ (m:=4) X (by kernel_rfl) rfl rfl rfl (λS x0 x1 x2 x3 x4=>show(fi (KL P) 217).map (λfd=>peek (KL P) S (bindArgs fd ⟨[x0,x1,x2,x3,x4],[]⟩))=some (some ((kB.ps.map nmF).zip [x0,x1,x2,x3,x4])) from by kernel_rfl) (λS x0 x1 x2 x3=>show(fi (KL P) 217).map (λfd=>peek (KL P) S (bindArgs fd ⟨[x0,x1,x2,x3],[]⟩))=some (some ((kB.ps.map nmF).zip [x0,x1,x2,x3,.none])) from by kernel_rfl)
theorem Hf(X:(KL P).In cx.hs):∃fd body,FnK cx 259 fo fd body:=dI X (by kernel_rfl) rfl rfl (λS x0=>show(fi (KL P) 259).map (λfd=>peek (KL P) S (bindArgs fd ⟨[x0],[]⟩))=some (some ((fo.ps.map nmF).zip [x0])) from by kernel_rfl)
theorem IP(X:(KL P).In cx.hs):∃fd body,FnK cx 264 gk fd body:=dI X (by kernel_rfl) rfl rfl (λS x0=>show(fi (KL P) 264).map (λfd=>peek (KL P) S (bindArgs fd ⟨[x0],[]⟩))=some (some ((gk.ps.map nmF).zip [x0])) from by kernel_rfl)
theorem Jo(X:(KL P).In cx.hs):∃fd body,FnK cx 271 eS fd body:=dI X (by kernel_rfl) rfl rfl (λS x0=>show(fi (KL P) 271).map (λfd=>peek (KL P) S (bindArgs fd ⟨[x0],[]⟩))=some (some ((eS.ps.map nmF).zip [x0])) from by kernel_rfl)
theorem IX(X:(KL P).In cx.hs):∃fd body,FnK cx 278 kY fd body:=dI X (by kernel_rfl) rfl rfl (λS x0=>show(fi (KL P) 278).map (λfd=>peek (KL P) S (bindArgs fd ⟨[x0],[]⟩))=some (some ((kY.ps.map nmF).zip [x0])) from by kernel_rfl)
theorem Ja(X:(KL P).In cx.hs):∃fd body,FnK cx 285 jz fd body:=dI X (by kernel_rfl) rfl rfl (λS x0 x1=>show(fi (KL P) 285).map (λfd=>peek (KL P) S (bindArgs fd ⟨[x0,x1],[]⟩))=some (some ((jz.ps.map nmF).zip [x0,x1])) from by kernel_rfl)
theorem IY(X:(KL P).In cx.hs):∃fd body,FnK cx 290 fC fd body:=dI X (by kernel_rfl) rfl rfl (λS x0=>show(fi (KL P) 290).map (λfd=>peek (KL P) S (bindArgs fd ⟨[x0],[]⟩))=some (some ((fC.ps.map nmF).zip [x0])) from by kernel_rfl)
theorem JU(X:(KL P).In cx.hs):∃fd body,FnK cx 297 eE fd body:=dI X (by kernel_rfl) rfl rfl (λS x0 x1=>show(fi (KL P) 297).map (λfd=>peek (KL P) S (bindArgs fd ⟨[x0,x1],[]⟩))=some (some ((eE.ps.map nmF).zip [x0,x1])) from by kernel_rfl)
theorem JC(X:(KL P).In cx.hs):∃fd body,FnK cx 302 jf fd body:=dI X (by kernel_rfl) rfl rfl (λS x0 x1=>show(fi (KL P) 302).map (λfd=>peek (KL P) S (bindArgs fd ⟨[x0,x1],[]⟩))=some (some ((jf.ps.map nmF).zip [x0,x1])) from by kernel_rfl)
theorem JL(X:(KL P).In cx.hs):∃fd body,FnK cx 307 jY fd body:=dI X (by kernel_rfl) rfl rfl (λS x0=>show(fi (KL P) 307).map (λfd=>peek (KL P) S (bindArgs fd ⟨[x0],[]⟩))=some (some ((jY.ps.map nmF).zip [x0])) from by kernel_rfl)
theorem J3(X:(KL P).In cx.hs):∃fd body,FnK cx 312 gb fd body:=dI X (by kernel_rfl) rfl rfl (λS x0 x1 x2 x3 x4=>show(fi (KL P) 312).map (λfd=>peek (KL P) S (bindArgs fd ⟨[x0,x1,x2,x3,x4],[]⟩))=some (some ((gb.ps.map nmF).zip [x0,x1,x2,x3,x4])) from by kernel_rfl)
theorem Jg(X:(KL P).In cx.hs):∃fd body,FnK cx 317 lj fd body:=dI X (by kernel_rfl) rfl rfl (λS x0 x1 x2 x3 x4 x5=>show(fi (KL P) 317).map (λfd=>peek (KL P) S (bindArgs fd ⟨[x0,x1,x2,x3,x4,x5],[]⟩))=some (some ((lj.ps.map nmF).zip [x0,x1,x2,x3,x4,x5])) from by kernel_rfl)
theorem I4(X:(KL P).In cx.hs):∃fd body,FnK cx 322 dT fd body:=dI X (by kernel_rfl) rfl rfl (λS x0=>show(fi (KL P) 322).map (λfd=>peek (KL P) S (bindArgs fd ⟨[x0],[]⟩))=some (some ((dT.ps.map nmF).zip [x0])) from by kernel_rfl)
theorem IB(X:(KL P).In cx.hs):EO cx:=λa ft h=>j4 (M:=λa ft=>∃fd body,FnK cx a ft fd body) h (fc (Mr X) (fc (LF X) (fc (LK X) (fc (Mi X) (fc (KG X) (fc (LB X) (fc (LD X) (fc (MM X) (fc (JS X) (fc (JN X) (fc (H1 X) (fc (G8 X) (fc (Iy X) (fc (Iq X) (fc (JI X) (fc (Jx X) (fc (JQ X) (fc (It X) (fc (Hf X) (fc (IP X) (fc (Jo X) (fc (IX X) (fc (Ja X) (fc (IY X) (fc (JU X) (fc (JC X) (fc (JL X) (fc (J3 X) (fc (Jg X) (fc (I4 X) fn))))))))))))))))))))))))))))))
end
noncomputable def oQ(w:World)(σ:eO)(hs:Heap)(os:OsState)(q:Nat):Cx:=⟨w,σ,hs,os,k6,oN,gA q,0⟩
theorem Cm{n m:Nat}{l:List (Nat×List Nat)}{e:List Nat}(he:e.length<=m)(h:∀p∈l,p.2.length<=m):((lk n l).getD e).length<=m:=by
 cases q:lk n l with
 |none=>exact he
 |some x=>exact h _ (gW q)
theorem tL(q k:Nat):(gA q k).length<=24:=by
 unfold gA;cases Nat.ble k 3 with
 |true=>exact Cm (by decide) (by decide)
 |false=>cases Nat.ble k 7 with
  |true=>exact Cm (by decide) (by decide)
  |false=>exact bj _
section
variable {w:World} {σ:eO} {hs:Heap} {os:OsState} {q:Nat} {mg mb:Str->Option Value} {P:Params}
theorem xV{n k:Nat}:∀{m:Nat},Nat.ble n (m+k)=true->Nat.ble k n=true->∃i,i∈List.range (m+1)/\n=k+i:=λ{m} h1 h2=>⟨n - k,aT.mpr (Nat.lt_succ_of_le (Nat.sub_le_of_le_add (leb h1))),(cV (leb h2)).symm⟩
noncomputable def LE(o:Option (Option Value)):Bool:=match o with
 |some none=>true
 |_=>false
theorem Fg{o:Option (Option Value)}(h:LE o=true):o=some none:=by cases o with | none=>exact fT h | some x=>cases x with | none=>rfl | some _=>exact fT h
noncomputable def KS(P:Params)(o:Obj):Frag:=KL P++[(323,o)]
theorem mY{P:Params}{o:Obj}{hs:Heap}(X:(KS P o).In hs):(KL P).In hs:=λa ob e=>X a ob (by unfold KS;rw[List.lookup_append,e];rfl)
theorem M4(P:Params)(o:Obj):((List.range 20).all λi=>LE (findIn (KS P o) (.ref 241) (nmF (37+i))))=true:=by kernel_rfl
noncomputable abbrev MV(P:Params)(o:Obj)(n f:Nat):Prop:=findIn (KS P o) (.ref 241) (nmF n)=some (some (.ref f))/\typeIn (KS P o) (.ref f)=some (.type "function")/\specialIn (KS P o) (.ref f) "__get__"=some (some (.builtin "function.__get__"))/\takesIn (KS P o) (.ref f)=some false/\copiedNames.contains (nmF n)=false
theorem LT{o:Obj}(X:(KS w.params o).In hs):KC (oQ w σ hs os q) (KS w.params o) where
 inn:=X
 ga:=by kernel_rfl
 gh:=by kernel_rfl
 sa:=by kernel_rfl
 over:=by kernel_rfl
 dict:=by kernel_rfl
 own:=λn h=>by
  refine dm (xV (m:=19) (aa h).2 (aa h).1) λi hi e=>?_;rw[e];exact Fg (aA.mp (M4 _ o) i hi)
 meth:=λn f h=>j4 (M:=MV w.params o) h (fc ⟨by kernel_rfl,by kernel_rfl,by kernel_rfl,by kernel_rfl,by decide +kernel⟩ (fc ⟨by kernel_rfl,by kernel_rfl,by kernel_rfl,by kernel_rfl,by decide +kernel⟩ (fc ⟨by kernel_rfl,by kernel_rfl,by kernel_rfl,by kernel_rfl,by decide +kernel⟩
  (fc ⟨by kernel_rfl,by kernel_rfl,by kernel_rfl,by kernel_rfl,by decide +kernel⟩ (fc ⟨by kernel_rfl,by kernel_rfl,by kernel_rfl,by kernel_rfl,by decide +kernel⟩ (fc ⟨by kernel_rfl,by kernel_rfl,by kernel_rfl,by kernel_rfl,by decide +kernel⟩ fn))))))
theorem JK{o:Obj}(X:(KS w.params o).In hs):KC2 (oQ w σ hs os q) (KS w.params o):=⟨X,by kernel_rfl,by kernel_rfl,by kernel_rfl,by kernel_rfl⟩
noncomputable def sR(cx:Cx)(mg mb:Str->Option Value)(x:Nat)(a:AV):Prop:=∃V,(∀h ρ n,Is cx h ρ n a V)/\(mg (nmF x)=some V\/(mg (nmF x)=none/\mb (nmF x)=some V))
theorem gD{cx:Cx}(X:(KL P).In hs)(G:hs.Ns mainGlobals mg){x a:Nat}(h:nsIn (KL P) mainGlobals (nmF x)=some (some (.ref a))):sR cx mg mb x (.st a):=⟨.ref a,λ_ _ _=>rfl,.inl (mg_of X G h)⟩
theorem zg{cx:Cx}(X:(KL P).In hs)(G:hs.Ns mainGlobals mg)(bb:∀x:Str,x≠"__name__"->mb x=bootBuiltins x){x k:Nat}(h:nsIn (KL P) mainGlobals (nmF x)=some none)(h1:Fast.sEq (nmF x) "__name__"=false)(h2:bootBuiltins (nmF x)=some (.builtin (biN k))):sR cx mg mb x (.bi k):=
 ⟨_,λ_ _ _=>rfl,.inr ⟨mg_none_of X G h,(bb _ λe=>ah (h1.symm.trans (Fast.sEq_iff.mpr e))).trans h2⟩⟩
theorem yc{cx:Cx}(X:(KL P).In hs)(G:hs.Ns mainGlobals mg)(bb:∀x:Str,x≠"__name__"->mb x=bootBuiltins x){x k:Nat}(h:nsIn (KL P) mainGlobals (nmF x)=some none)(h1:Fast.sEq (nmF x) "__name__"=false)(h2:bootBuiltins (nmF x)=some (.type (tyN k))):sR cx mg mb x (.ty k):=
 ⟨_,λ_ _ _=>rfl,.inr ⟨mg_none_of X G h,(bb _ λe=>ah (h1.symm.trans (Fast.sEq_iff.mpr e))).trans h2⟩⟩
theorem DG{cx:Cx}(X:(KL P).In hs)(G:hs.Ns mainGlobals mg)(bb:∀x:Str,x≠"__name__"->mb x=bootBuiltins x):∀x a,Ap x=some a->sR cx mg mb x a:=λx a h=>j4 (M:=sR cx mg mb) h (fc (gD X G (by kernel_rfl)) (fc (gD X G (by kernel_rfl)) (fc (gD X G (by kernel_rfl)) (fc (gD X G (by kernel_rfl)) (fc (gD X G (by kernel_rfl)) (fc (gD X G (by kernel_rfl)) (fc (gD X G (by kernel_rfl)) (fc (gD X G (by kernel_rfl)) (fc (gD X G (by kernel_rfl)) (fc (gD X G (by kernel_rfl)) (fc (gD X G (by kernel_rfl)) (fc (gD X G (by kernel_rfl)) (fc (gD X G (by kernel_rfl)) (fc (gD X G (by kernel_rfl)) (fc (gD X G (by kernel_rfl)) (fc (gD X G (by kernel_rfl)) (fc (gD X G (by kernel_rfl)) (fc (gD X G (by kernel_rfl)) (fc (gD X G (by kernel_rfl)) (fc (gD X G (by kernel_rfl)) (fc (gD X G (by kernel_rfl)) (fc (gD X G (by kernel_rfl)) (fc (gD X G (by kernel_rfl)) (fc (gD X G (by kernel_rfl)) (fc (gD X G (by kernel_rfl)) (fc (gD X G (by kernel_rfl)) (fc (zg X G bb (by kernel_rfl) (by kernel_rfl) (by kernel_rfl)) (fc (zg X G bb (by kernel_rfl) (by kernel_rfl) (by kernel_rfl)) (fc (zg X G bb (by kernel_rfl) (by kernel_rfl) (by kernel_rfl)) (fc (zg X G bb (by kernel_rfl) (by kernel_rfl) (by kernel_rfl)) (fc (zg X G bb (by kernel_rfl) (by kernel_rfl) (by kernel_rfl)) (fc (yc X G bb (by kernel_rfl) (by kernel_rfl) (by kernel_rfl)) (fc (yc X G bb (by kernel_rfl) (by kernel_rfl) (by kernel_rfl)) (fc (yc X G bb (by kernel_rfl) (by kernel_rfl) (by kernel_rfl)) (fc (yc X G bb (by kernel_rfl) (by kernel_rfl) (by kernel_rfl)) (fc (yc X G bb (by kernel_rfl) (by kernel_rfl) (by kernel_rfl)) (fc (yc X G bb (by kernel_rfl) (by kernel_rfl) (by kernel_rfl)) fn)))))))))))))))))))))))))))))))))))))
theorem Mm(X:(KL w.params).In hs)(G:hs.Ns mainGlobals mg)(hb:∀k,hs.BuiltinsAt mg (hF k).2):Mk (oQ w σ hs os q) where
 clo:=rfl
 tab:=rfl
 hd:=λk=>by
  unfold hF;cases Nat.beq k 0 with
  |true=>exact codeHd_of_K (c:=121) (P:=117) X (by kernel_rfl)
  |false=>cases Nat.beq k 1 with
   |true=>exact codeHd_of_K (c:=128) (P:=124) X (by kernel_rfl)
   |false=>exact codeHd_of_K (c:=216) (P:=214) X (by kernel_rfl)
 mg:=⟨mg,G,hb⟩
end
noncomputable def LC(v:AV):List Nat×AV:=match v with
 | .tup [.str k,x]=>(k,x)
 |_=>([],.none)
noncomputable def vOk(v:Value)(u:AV):Bool:=match v,u with
 | .str x _,.str l=>x.cps.toList.all (Nat.blt · 1000)&&decide (x.cps.toList=l)
 |_,_=>false
noncomputable def Jn(e:String×Tok×Value)(p:List Nat×AV):Bool:=(Str.ofString e.1).cps.toList.all (Nat.blt · 1000)&&(decide ((Str.ofString e.1).cps.toList=p.1)&&vOk e.2.2 p.2)
noncomputable def wg:List (String×Tok×Value)->List (List Nat×AV)->Bool
 | [],[]=>true
 |e::r,p::q=>Jn e p&&wg r q
 |_,_=>false
section
variable {w:World} {σ:eO} {hs:Heap} {os:OsState} {q:Nat} {mg mb:Str->Option Value} {h:Shared} {ρ:Nat->Addr} {n:Nat} {cx:Cx}
noncomputable def VI(σ:eO)(v:Value)(u:AV):Prop:=∃l x t,u = .str l/\v = .str x t/\x=rs σ l
theorem Nx(v:Value)(u:AV):vOk v u=true->VI σ v u:=by
 cases v<;>first | exact fT | skip
 cases u<;>first | exact fT | skip
 exact λk3=>⟨_,_,_,rfl,rfl,by rw[<-dec (aa k3).2];exact iI σ (aa k3).1⟩
theorem enE{e:String×Tok×Value}{p:List Nat×AV}(h:Jn e p=true):Str.ofString e.1=rs σ p.1/\∃l x t,p.2 = .str l/\e.2.2 = .str x t/\x=rs σ l:=
 have k:=aa h;have k2:=aa k.2
 ⟨by rw[<-dec k2.1];exact iI σ k.1,Nx _ _ k2.2⟩
theorem wx:∀{es:List (String×Tok×Value)} {ps:List (List Nat×AV)},wg es ps=true->es.length=ps.length
 | [],[],_=>rfl
 | [],_::_,h=>absurd h ah
 |_::_,[],h=>absurd h ah
 |e::r,p::ps,h=>aB Nat.succ (wx (aa (p:=Jn e p) h).2)
theorem KJ:∀{es:List (String×Tok×Value)} {ps:List (List Nat×AV)},wg es ps=true->DR cx h ρ n ps (es.map λe=>(Str.ofString e.1,e.2.2))/\∀p∈ps,ja p.2=true
 | [],[],_=>⟨⟨rfl,rfl⟩,fn⟩
 | [],_::_,h=>absurd h ah
 |_::_,[],h=>absurd h ah
 |e::r,(k,v)::ps,hh=>by
  have a:=aa hh;refine sF (enE (σ:=cx.σ) (p:=(k,v)) a.1) λe1 OA=>?_;refine gw OA λl x t e2 e3 e4=>?_;have ih:=KJ a.2;have e2:v = .str l:=e2;refine⟨?_,fc (by rw[e2];rfl) ih.2⟩;rw[aM,e1];exact DR.cons (by rw[e3,e2,e4];exact⟨t,rfl⟩) ih.1
theorem Ff{es:List (String×Tok×Value)}{ep:Nat}{a:Addr}(ha:hs.get? a=some (dcO w.params (.type "dict") es ep))(hn:(es.map λe=>Str.ofString e.1).Nodup):hs.DictAt (PySem.strKind pw w) a (es.map λe=>(Str.ofString e.1,e.2.2)) ep:=by
 have pr:∀l:List (String×Tok×Value),Pairs (PySem.strKind pw w) (l.map λe=>(⟨PyData.keyHash w.params (Str.ofString e.1),S e.1 e.2.1,e.2.2⟩:DictEntry)) (l.map λe=>(Str.ofString e.1,e.2.2)):=λl=>by
  induction l with
  |nil=>exact .nil
  |cons p r ih=>exact .cons (ce _ _ _ _) rfl ih
 refine⟨_,_,ha,⟨rfl,rfl,rfl⟩,rfl,λe he=>?_,pr es,by rw[aV];exact hn⟩;refine dm (bx.mp (Array.mem_def.mp he)) λp _ e=>?_;rw[<-e];exact⟨Str.ofString p.1,ce _ _ _ _,rfl⟩
theorem zI(X:(KL w.params).In hs):NM (oQ w σ hs os q):=by
 have e:∃es ep,(KL w.params).lookup 135=some (dcO w.params (.type "dict") es ep)/\wg es (sV.map LC)=true/\(es.map λe=>Str.ofString e.1).Nodup:=⟨_,_,rfl,by kernel_rfl,by decide +kernel⟩;refine dx e λes ep ho hc hn=>?_;have k:=λN o (h:Shared) ρ n=>KJ (cx:=(oQ w σ hs os q).tk N o) (h:=h) (ρ:=ρ) (n:=n) hc;exact⟨_,ep,Ff (X _ _ ho) hn,by rw[aq,wx hc];rfl,λ{N o h ρ n}=>⟨sV.map LC,rfl,(k N o h ρ n).2,(k N o h ρ n).1⟩⟩
theorem Bl{o:Obj}(X:(KS w.params o).In hs)(G:hs.Ns mainGlobals mg)(B:hs.Ns builtinsNs mb)(lim:hs.NoLimit)(bb:∀x:Str,x≠"__name__"->mb x=bootBuiltins x)(mods:hs.get? sysModules≠none)(hb:∀k,hs.BuiltinsAt mg (hF k).2)(hq:q<6):dF (oQ w σ hs os q) (KS w.params o) where
 cok:={ DH (cx:=oQ w σ hs os q) rfl rfl (tL q) with
  lim:=lim
  mods:=mods
  nb:=dm lim λmc a _=>⟨mc,a,ns_none_of (mY X) a (by kernel_rfl)⟩
  glob:=⟨mg,mb,G,B,DG (mY X) G bb⟩}
 cod:=Mm (mY X) G hb
 kc:=LT X
 kc2:=JK X
 nm:=zI (mY X)
 fk:=IB (mY X)
 hnm:=kK (zI (σ:=σ) (os:=os) (q:=q) (mY X)) λ_ _ y _=>dx y λo _ e x _=>⟨o,e,x.1,x.2.1⟩
 op:=⟨q,hq,rfl⟩
 hdm:=kK (zI (σ:=σ) (os:=os) (q:=q) (mY X)) λkvs ep y _=>fA y λo es r=>⟨kvs,o,es,ep,r⟩
end
noncomputable def wo:Obj:={ cls:=.none,dict:=none,data:=.freed}
noncomputable def mH(h:Heap)(P:Addr->Prop):Heap:=by
 classical exact { objs:=(h.objs.mapIdx λa o=>if P a then wo else o),life:=h.life}
section
variable {h:Heap} {P:Addr->Prop} {a:Addr} {o:Obj}
theorem wd:(mH h P).objs[a]? = (h.objs[a]?).map λo=>open Classical in if P a then wo else o:=by unfold mH;exact Array.getElem?_mapIdx
theorem g7(e:(mH h P).get? a=some o):¬ P a/\h.get? a=some o:=by
 obtain⟨e1,e2⟩:=Heap.get?_some_iff.mp e;rw[wd]at e1;refine dm (bn.mp e1) λo' e3 e4=>?_
 by_cases p:P a
 ·rw[aI p]at e4;rw[<-e4]at e2;exact tF e2
 ·rw[aF p]at e4;rw[e4]at e3;exact⟨p,Heap.get?_some_iff.mpr ⟨e3,e2⟩⟩
theorem ig(p:¬ P a)(e:h.get? a=some o):(mH h P).get? a=some o:=by
 obtain⟨e1,e2⟩:=Heap.get?_some_iff.mp e;exact Heap.get?_some_iff.mpr ⟨by rw[wd,e1];exact aB some (aF p),e2⟩
end
structure fO (H:List AO) (is:List Nat) (T:List AO):Prop where
 len:is.length=T.length
 at_:∀(j:Nat) (o:AO),T[j]? = some o->∃i,is[j]? = some i/\H[i]? = some o/\dN o=true/\o.wf 0
 inj:∀(j k i:Nat),is[j]? = some i->is[k]? = some i->j=k
noncomputable def uS(ρ:Nat->Addr)(is:List Nat)(a:Addr):Prop:=∃i∈is,a=ρ i
noncomputable def cut(cx:Cx)(s:Shared)(ρ:Nat->Addr)(is:List Nat):Cx:=cx.at (mH s.heap (uS ρ is))
noncomputable def sub(ρ:Nat->Addr)(is:List Nat):Nat->Addr:=λj=>ρ (is.getD j 0)
noncomputable def ren(is:List Nat)(v:AV):AV:=match v with
 | .ref j=>.ref (is.getD j 0)
 |v=>v
noncomputable def jA(n:Nat)(v:AV):Prop:=match v with
 | .ref j=>j<n
 |v=>v.wf 0
section
variable {cx:Cx} {K:Frag} {d e j n n':Nat} {HL T T':List AO} {r v f:AV} {args:List AV} {s s':Shared} {ρ ρ' ρ'':Nat->Addr} {is:List Nat} {o:AO} {V:Value} {a:Addr}
theorem OR.flat(g:cx.Good)(x:OR cx s ρ n a o)(hw:o.wf 0):OR cx s ρ' n' a o:=
 (x.less g hw).ext g (⟨λi hi=>absurd hi (Nat.not_lt_zero i),λ_ _ e _=>e,ad _⟩:Ext ρ 0 s ρ' s) (bj _) λ_ _ e=>e
theorem Is.flat(g:cx.Good)(i:Is cx s ρ n v V)(hw:v.wf 0):Is cx s ρ' n' v V:=
 (i.less hw).ext g (⟨λi hi=>absurd hi (Nat.not_lt_zero i),λ_ _ e _=>e,ad _⟩:Ext ρ 0 s ρ' s) (bj _)
theorem fO.sub(p:fO HL is T)(e:T[j]? = some o):∃i,is[j]? = some i/\HL[i]? = some o/\dN o=true/\o.wf 0/\sub ρ is j=ρ i/\i∈is:=by
 refine tH (p.at_ j o e) λi e1 e2 e3 e4=>?_;exact⟨i,e1,e2,e3,e4,by unfold Mine.sub;rw[bg,e1];rfl,aQ e1⟩
theorem fO.mem(p:fO HL is T){i:Nat}(hi:i∈is):∃(j:Nat) (o:AO),is[j]? = some i/\T[j]? = some o/\HL[i]? = some o/\dN o=true:=by
 obtain⟨j,hj⟩:=List.getElem?_of_mem hi;have hl:j<T.length:=p.len▸(aG.mp hj).1;refine tH (p.at_ j _ (au hl)) λi' e1 e2 e3 _=>?_;rw[hj]at e1;obtain rfl:=ak e1;exact⟨j,_,hj,au hl,e2,e3⟩
theorem fO.own(p:fO HL is T)(S:SR cx ρ HL s){i:Nat}(hi:HL[i]? = some o)(al:dN o=true)(hs:uS ρ is (ρ i)):∃j:Nat,is[j]? = some i/\T[j]? = some o:=by
 refine dm hs λk hk e=>?_;refine fR (p.mem hk) λj o' hj hT hk' al'=>?_;have e:=S.inj _ _ _ _ hi hk' al al' e;rw[<-e]at hj hk';rw[hi]at hk';rw[ak hk'];exact⟨j,hj,hT⟩
theorem ir(g:cx.Good)(S:SR cx ρ HL s)(p:fO HL is T):SR (cut cx s ρ is) (sub ρ is) T s:=by
 refine⟨λa o e=>(g7 e).2,λj o e=>?_,λi j oi oj ei ej ai aj q=>?_,λj o e al=>?_,S.gens,S.os,S.tkn⟩
 ·refine nW (p.sub (ρ:=ρ) e) λi e1 e2 e3 e4 e5 e6=>?_
  rw[e5];exact OR.flat (cx:=cx) (ρ':=Mine.sub ρ is) (n':=T.length) g (S.own i o e2) e4
 ·refine nW (p.sub (ρ:=ρ) ei) λi1 a1 a2 a3 a4 a5 a6=>?_
  refine nW (p.sub (ρ:=ρ) ej) λi2 b1 b2 b3 b4 b5 b6=>?_;rw[a5,b5]at q;have e:=S.inj _ _ _ _ a2 b2 a3 b3 q;rw[<-e]at b1;exact p.inj _ _ _ a1 b1
 ·refine nW (p.sub (ρ:=ρ) e) λi e1 e2 e3 e4 e5 e6=>?_
  cases q:(cut cx s ρ is).hs.get? (sub ρ is j) with
  |none=>rfl
  |some o=>exact absurd ⟨i,e6,e5⟩ (g7 q).1
theorem pH(g:cx.Good)(S:SR cx ρ HL s)(p:fO HL is T)(S':SR (cut cx s ρ is) ρ'' T' s')(tk:s.toks<=s'.toks):(∀a o,s.heap.get? a=some o->¬ uS ρ is a->s'.heap.get? a=some o)/\Ext ρ HL.length s ρ s':=by
 have k:∀a o,s.heap.get? a=some o->¬ uS ρ is a->s'.heap.get? a=some o:=λa o e h=>S'.keep a o (ig h e);refine⟨k,λ_ _=>rfl,λa o e f=>k a o e λ⟨i,hi,q⟩=>?_,tk⟩;refine fR (p.mem hi) λj o' _ _ e2 e3=>?_;refine dm (S.ob g e2 e3) λob h1 h2=>?_;rw[q,h1]at e;rw[ak e,f]at h2;exact tF h2
theorem i8(g:cx.Good)(S:SR cx ρ HL s)(p:fO HL is T)(S':SR (cut cx s ρ is) ρ'' T' s')(E:Ext (sub ρ is) T.length s ρ'' s')(hT:∀(j:Nat),j<T.length->T'[j]? = T[j]?):SR cx ρ HL s'/\Ext ρ HL.length s ρ s':=by
 obtain⟨k,X⟩:=pH g S p S' E.tk;refine⟨⟨λa o e=>k a o (S.keep a o e) λ⟨i,hi,q⟩=>?_,λi o e=>?_,S.inj,S.new,S'.gens,S'.os,S.tk E.tk⟩,X⟩
 ·refine fR (p.mem hi) λj o' _ _ e2 e3=>?_
  rw[q,S.new _ _ e2 e3]at e;exact nS e
 ·cases al:dN o with
  |false=>exact nG al
  |true=>
   by_cases h:uS ρ is (ρ i)
   ·refine dm (p.own S e al h) λj hj hTj=>?_
    have hlt:=fM hTj;have own:=S'.own j o (by rw[hT j hlt];exact hTj);refine nW (p.sub (ρ:=ρ) hTj) λi' e1 e2 e3 e4 e5 e6=>?_;rw[hj]at e1;obtain rfl:=ak e1;rw[E.ag j hlt,e5]at own;exact OR.flat (cx:=cx) (ρ:=ρ'') (n:=T'.length) (ρ':=ρ) (n':=HL.length) g own e4
   ·exact(S.own i o e).ext g X (ad _) λ_ ob eo=>k _ _ eo h
theorem yv(g:cx.Good)(S:SR cx ρ HL s)(p:fO HL is T)(S':SR (cut cx s ρ is) ρ'' T' s')(E:Ext (sub ρ is) T.length s ρ'' s')(hT:∀(j:Nat),j<T.length->T'[j]? = T[j]?)
  (hj:T'[j]? = some o) (hlt:T.length<=j) (al:dN o=true) (hw:o.wf 0):SR cx (up ρ HL.length (ρ'' j)) (HL++[o]) s'/\Ext ρ HL.length s (up ρ HL.length (ρ'' j)) s':=by
 obtain⟨P8,X⟩:=i8 g S p S' E hT;have nk:¬ uS ρ is (ρ'' j):=λ⟨i,hi,q⟩=>by
  refine fR (p.mem hi) λk o' hk hTk e2 e3=>?_;have hl:=fM hTk;refine nW (p.sub (ρ:=ρ) hTk) λi' e1 _ _ _ e5 _=>?_;rw[hk]at e1;obtain rfl:=ak e1;have:k=j:=S'.inj k j _ _ (by rw[hT k hl];exact hTk) hj e3 al (by rw[E.ag k hl,e5];exact q.symm);exact absurd hl (bJ.mpr (this▸hlt))
 have nh:s.heap.get? (ρ'' j)=none:=by
  cases q:s.heap.get? (ρ'' j) with
  |none=>rfl
  |some ob=>exact nomatch (S'.new j o hj al).symm.trans (ig nk q)
 have key:=P8.add (hp:=s'.heap) (t:=s'.toks) (o:=o) (a:=ρ'' j) g (by
   cases q:cx.hs.get? (ρ'' j) with
   |none=>rfl
   |some ob=>exact nomatch nh.symm.trans (S.keep _ _ q)) (λi oi ei ai q=>by
   refine dm (S.ob g ei ai) λob h1 _=>?_;rw[q,nh]at h1;exact nS h1) (ad _) (λ_ _ e=>e) λ_=>OR.flat (cx:=cx) (ρ:=ρ'') (n:=T'.length) (ρ':=up ρ HL.length (ρ'' j)) (n':=HL.length+1) g (S'.own j o hj) hw
 exact⟨key.1,X.trans (ad _) key.2⟩
theorem Is.toPart(g:cx.Good)(p:fO HL is T)(i:Is cx s ρ HL.length (ren is v) V)(hv:jA T.length v):Is (cut cx s ρ is) s (sub ρ is) T.length v V:=by
 cases v with
 |ref j=>exact⟨i.1,hv⟩
 |_=>exact Is.flat (cx:=cx) (ρ:=ρ) (n:=HL.length) (ρ':=Mine.sub ρ is) (n':=T.length) g i hv
theorem IsL.toPart(g:cx.Good)(p:fO HL is T):∀{args:List AV} {Vs:List Value},IsL cx s ρ HL.length (args.map (ren is)) Vs->(∀v∈args,jA T.length v)->IsL (cut cx s ρ is) s (sub ρ is) T.length args Vs
 | [],Vs,i,_=>i
 |v::r,Vs,⟨V,Ws,e,i1,i2⟩,hv=>⟨V,Ws,e,Is.toPart g p i1 (hv v (.head _)),IsL.toPart g p i2 λx hx=>hv x (.tail _ hx)⟩
theorem dF.cut(X:dF cx K)(S:SR cx ρ HL s)(p:fO HL is T):dF (cut cx s ρ is) K:=X.at λa o e=>ig (λ⟨i,hi,q⟩=>by
 refine fR (p.mem hi) λj o' _ _ e2 e3=>?_;rw[q,S.new _ _ e2 e3]at e;exact nS e) (S.keep a o e)
theorem dE.lift{a:Nat}(X:dF cx K)(p:fO HL is T)(h:∀cx',dF cx' K->cx'.σ=cx.σ->cx'.opq=cx.opq->dE cx' d (.st a) args [] T r T')(hv:∀v∈args,jA T.length v)(hT:∀j,j<T.length->T'[j]? = T[j]?)(hr:r.wf 0):dE cx d (.st a) (args.map (ren is)) [] HL r HL:=
 ⟨ad _,λ{A s ρ Fv Vs Ks Q E} u i1 i2 i3 W=>by
  have g:=u.g.toGood;have Q8:=X.cut u.sr p;refine(h _ Q8 rfl rfl).2 ⟨Q8.cok,u.ok,ir g u.sr p⟩ i1 (IsL.toPart g p i2 hv) i3 λV s' ρ' S' i' E'=>?_;have f:=i8 g u.sr p S' E' hT;exact W V s' ρ f.1 (Is.flat (cx:=cx) (ρ:=ρ') (n:=T'.length) g i' hr) f.2⟩
theorem dE.liftN{a:Nat}(X:dF cx K)(p:fO HL is T)(h:∀cx',dF cx' K->cx'.σ=cx.σ->cx'.opq=cx.opq->dE cx' d (.st a) args [] T (.ref j) T')(hv:∀v∈args,jA T.length v)(hT:∀j,j<T.length->T'[j]? = T[j]?)
  (hj:T'[j]? = some o) (hlt:T.length<=j) (al:dN o=true) (hw:o.wf 0):dE cx d (.st a) (args.map (ren is)) [] HL (.ref HL.length) (HL++[o]):=
 ⟨eQ _ _,λ{A s ρ Fv Vs Ks Q E} u i1 i2 i3 W=>by
  have g:=u.g.toGood;have Q8:=X.cut u.sr p;refine(h _ Q8 rfl rfl).2 ⟨Q8.cok,u.ok,ir g u.sr p⟩ i1 (IsL.toPart g p i2 hv) i3 λV s' ρ' S' i' E'=>?_;have f:=yv g u.sr p S' E' hT hj hlt al hw;rw[i'.1];exact W _ s' _ f.1 (oK (by rw[az];exact aD _)) f.2⟩
theorem dE.mono{kws:List (Nat×AV)}{HL':List AO}(h:dE cx e f args kws HL r HL')(hl:e<=d):dE cx d f args kws HL r HL':=⟨h.1,λu i1 i2 i3 W=>h.2 ⟨u.g,u.ok.less hl,u.sr⟩ i1 i2 i3 W⟩
end
noncomputable def mkT(l:List AO):TH:=Option.rec ⟨0,.nil⟩ (λt=>t) (sf ⟨0,.nil⟩ l)
theorem wz:∀(l:List AO) (H:TH),H.n+l.length<=512->∃H',sf H l=some H'
 | [],H,_=>⟨H,rfl⟩
 |o::r,H,h=>by
  have h1:Nat.ble (Nat.succ H.n) 512=true:=a9 (ae (bO (bE (bj _)) _) h);have h2:psh H o=some ⟨Nat.succ H.n,Tr.set 9 H.tr H.n o⟩:=by unfold psh;rw[h1];rfl
  obtain⟨H',e⟩:=wz r ⟨Nat.succ H.n,Tr.set 9 H.tr H.n o⟩ (by rw[<-Nat.add_one,bf,bw 1];exact h);refine⟨H',?_⟩;show opt (psh H o) (λt=>sf t r)=_;rw[h2];exact e
theorem fS{l:List AO}(h:Nat.ble l.length 512=true):(mkT l).L=l:=by
 obtain⟨H',e⟩:=wz l ⟨0,.nil⟩ (by rw[aY];exact leb h);unfold mkT;rw[e];exact(mJ e).trans (List.nil_append l)
noncomputable def fin(v:AV)(H:TH):R:=some (.ret v,H)
noncomputable def g0(n:Nat)(x:R):Option (AF×List (Option AO)):=Option.rec none (λp=>some (p.1,(List.range n).map (gt p.2))) x
noncomputable def pB(n j:Nat)(x:R):Option (AF×Option AO×List (Option AO)):=Option.rec none (λp=>some (p.1,gt p.2 j,(List.range n).map (gt p.2))) x
theorem yZ{n:Nat}{x:R}{f:AF}{l:List (Option AO)}(h:g0 n x=some (f,l)):∃H,x=some (f,H)/\l=(List.range n).map (gt H):=by
 cases x with
 |none=>exact nS h
 |some p=>cases h;exact⟨p.2,rfl,rfl⟩
theorem K8{n j:Nat}{x:R}{f:AF}{o:Option AO}{l:List (Option AO)}(h:pB n j x=some (f,o,l)):∃H,x=some (f,H)/\o=gt H j/\l=(List.range n).map (gt H):=by
 cases x with
 |none=>exact nS h
 |some p=>cases h;exact⟨p.2,rfl,rfl,rfl⟩
theorem nA{T:List AO}{H:TH}(h:T.map some=(List.range T.length).map (gt H)):∀j,j<T.length->H.L[j]? = T[j]?:=λj hj=>by
 have:=aB (λl=>l[j]?) h;rw[aP,aP,List.getElem?_range hj,au hj]at this;have e:gt H j=some T[j]:=(ak this).symm;rw[dA e,au hj]
section
variable {cx:Cx} {K:Frag} {O:Orc} {d n a j:Nat} {HL T:List AO} {r:AV} {args:List AV} {is:List Nat} {o:AO} {f:AV} {H H':TH}
theorem gF{kws:List (Nat×AV)}(hO:gL K O)(X:dF cx K)(h:(fns O n).call d f args kws H fin=some (.ret r,H')):Kp cx f/\dE cx d f args kws H.L r H'.L:=
 (rD hO n cx X).call h λv O7 kp k h=>sp (P:=λ(R0:AF) (H₂:TH)=>∀r,R0 = .ret r->dE cx d f args kws H.L r H₂.L) h (λr e=>by cases e;exact k) r rfl |> λk=>⟨kp,k⟩
theorem gI(hO:gL K O)(X:dF cx K)(p:fO HL is T)(hl:Nat.ble T.length 512=true)(h:g0 T.length ((fns O n).call d (.st a) args [] (mkT T) fin)=some (.ret r,T.map some))(hv:∀v∈args,jA T.length v)(hr:r.wf 0):dE cx d (.st a) (args.map (ren is)) [] HL r HL:=by
 refine dm (yZ h) λH' e k=>?_;refine dE.lift X p (λcx' X' _ _=>?_) hv (nA k) hr;have:=(gF hO X' e).2;rw[fS hl]at this;exact this
theorem kh(hO:gL K O)(X:dF cx K)(p:fO HL is T)(hl:Nat.ble T.length 512=true)(h:pB T.length j ((fns O n).call d (.st a) args [] (mkT T) fin)=some (.ret (.ref j),some o,T.map some))(hv:∀v∈args,jA T.length v)(hj:Nat.ble T.length j=true)(al:dN o=true)(hw:o.wf 0):
  dE cx d (.st a) (args.map (ren is)) [] HL (.ref HL.length) (HL++[o]):=by
 refine dz (K8 h) λH' e e2 k=>?_;refine dE.liftN X p (λcx' X' _ _=>?_) hv (nA k) (dA e2.symm) (leb hj) al hw;have:=(gF hO X' e).2;rw[fS hl]at this;exact this
theorem lZ:fO HL [] []:=⟨rfl,λj o e=>(nomatch e),λj k i e=>(nomatch e)⟩
theorem fO.cons{i:Nat}(p:fO HL is T)(hi:HL[i]? = some o)(al:dN o=true)(hw:o.wf 0)(hn:i ∉ is):fO HL (i::is) (o::T) where
 len:=aB Nat.succ p.len
 at_:=λj q e=>by
  cases j with
  |zero=>obtain rfl:=ak e;exact⟨i,rfl,hi,al,hw⟩
  |succ j=>exact p.at_ j q e
 inj:=λj k i' e f=>by
  cases j with
  |zero=>cases k with
   |zero=>rfl
   |succ k=>
    have f:is[k]? = some i':=f;have e:i=i':=ak e;exact absurd (aQ (e▸f)) hn
  |succ j=>cases k with
   |zero=>
    have e:is[j]? = some i':=e;have f:i=i':=ak f;exact absurd (aQ (f▸e)) hn
   |succ k=>exact aB Nat.succ (p.inj j k i' e f)
theorem lL{i:Nat}(hi:HL[i]? = some o)(al:dN o=true)(hw:o.wf 0):fO HL [i] [o]:=lZ.cons hi al hw (λh=>nomatch h)
end
noncomputable abbrev OFn:=List AV->TH->(AV->TH->R)->R
noncomputable def OT(l:List (Nat×OFn))(a:Nat)(args:List AV)(H:TH)(k:AV->TH->R)(e:R):R:=Option.rec e (λf=>f args H k) (lk a l)
noncomputable def FOk(K:Frag)(lo a:Nat)(f:OFn):Prop:=∃ft,AB a=some ft/\∀cx,dF cx K->∀{d args H k z} {P:Prop},lo<=d->f args H k=some z->(∀r H',dE cx d (.st a) args [] H.L r H'.L->k r H'=some z->P)->P
theorem FOk.mono{K:Frag}{lo m a:Nat}{f:OFn}(h:FOk K lo a f)(hm:lo<=m):FOk K m a f:=let ⟨ft,e,k⟩:=h;⟨ft,e,λcx X {d args H r z} {P} hd=>k cx X (ae hm hd)⟩
theorem wF{K:Frag}{lo:Nat}{l:List (Nat×OFn)}(h:∀p∈l,FOk K lo p.1 p.2):BQ K lo (OT l):=λcx X d a args H k e z P hd hz w we=>by
 have hz:Option.rec e (λf=>f args H k) (lk a l)=some z:=hz;cases q:lk a l with
 |none=>rw[q]at hz;exact we hz
 |some f=>
  rw[q]at hz;refine dm (j4 (M:=FOk K lo) q h) λft hf ho=>?_;refine fA (X.fk a ft hf) λfd body Y=>?_;exact ho cx X (ae hd (aC d)) hz λr H' c hz=>w r H' Y.kp c hz
noncomputable def hdP(b:PE):PE:=match b with
 | .c x _=>x
 |_=>.no
noncomputable def tlP(b:PE):PE:=match b with
 | .c _ r=>r
 |_=>.no
noncomputable def fh(b:PE)(i:Nat):PE:=hdP (Nat.rec (motive:=λ_=>PE) b (λ_ ih=>tlP ih) i)
noncomputable def JB(s:PE):PE:=match s with
 | .for t _ _=>t
 |_=>.no
noncomputable def pu(s:PE):PE:=match s with
 | .for _ _ b=>b
 |_=>.no
noncomputable def Kz:OFn:=λargs H k=>l2 args λa b=>eh a λi=>eh b λj=>k (.int (Builtin.bitAnd i j)) H
noncomputable def LX:OFn:=λargs H k=>l2 args λa b=>eh a λi=>eh b λj=>k (.int (Builtin.bitXor i j)) H
noncomputable def MO:OFn:=λargs H k=>l1 args λa=>eh a λi=>k (.int (-i)) H
noncomputable def oLt:OFn:=λargs H k=>l2 args λa b=>dZ a λx=>dZ b λy=>opt (gu x y) λt=>k (.bool t) H
noncomputable def oGe:OFn:=λargs H k=>l2 args λa b=>dZ a λx=>dZ b λy=>opt (gu x y) λt=>k (.bool !t) H
noncomputable def oIn:OFn:=λargs H k=>l2 args λa v=>orO (eJ a λi=>dR H i λxs=>ifO (isI v || isS v) (opt (inL v xs) λt=>k (.bool t) H)) (dZ a λl=>dZ v λs=>opt (lw s l) λt=>k (.bool t) H)
section
variable {cx:Cx} {K:Frag} {d a i:Nat} {HL:List AO} {r v:AV} {args xs:List AV} {H:TH} {P:Prop} {l s:List Nat} {b:Bool}
theorem BF:∀v,jA 0 v->ren [] v=v:=λv=>by cases v<;>first | exact λ_=>rfl | exact λh=>absurd h (Nat.not_lt_zero _)
theorem wR:∀{args:List AV},(∀v∈args,jA 0 v)->args.map (ren [])=args
 | [],_=>rfl
 |x::r,h=>by rw[aM,BF x (h x (.head _)),wR λv hv=>h v (.tail _ hv)]
theorem i9(X:dF cx K)(hd:10<=d)(h:g0 0 ((fns eY 12).call 10 (.st a) args [] (mkT []) fin)=some (.ret r,[]))(hv:∀v∈args,jA 0 v)(hr:r.wf 0):dE cx d (.st a) args [] HL r HL:=by
 have:=gI (HL:=HL) (fw K) X lZ rfl h hv hr;rw[wR hv]at this;exact this.mono hd
theorem dE.of{args':List AV}{HL':List AO}(e:args=args')(h:dE cx d (.st a) args' [] HL r HL'):dE cx d (.st a) args [] HL r HL':=e▸h
theorem EH:FOk K 10 59 Kz:=⟨_,rfl,λcx X d args H k z P hd h w=>l2E h λa b e h=>dM h λi e1 h=>dM h λj e2 h=>w (.int (Builtin.bitAnd i j)) H (.of (args':=[.int i,.int j]) (by rw[e,e1,e2]) (i9 X hd (by kernel_rfl) (fc trivial (fc trivial fn)) trivial)) h⟩
theorem DX:FOk K 10 80 LX:=⟨_,rfl,λcx X d args H k z P hd h w=>l2E h λa b e h=>dM h λi e1 h=>dM h λj e2 h=>w (.int (Builtin.bitXor i j)) H (.of (args':=[.int i,.int j]) (by rw[e,e1,e2]) (i9 X hd (by kernel_rfl) (fc trivial (fc trivial fn)) trivial)) h⟩
theorem D6:FOk K 10 73 MO:=⟨_,rfl,λcx X d args H k z P hd h w=>l1E h λa e h=>dM h λi e1 h=>w (.int (-i)) H (.of (args':=[.int i]) (by rw[e,e1]) (i9 X hd (by kernel_rfl) (fc trivial fn) trivial)) h⟩
theorem Hd(x y:List Nat):g0 0 ((fns eY 12).call 10 (.st 45) [.str x,.str y] [] (mkT []) fin)=g0 0 (opt (gu x y) λt=>fin (.bool t) (mkT [.ns [(1,.str x),(2,.str y)]])):=by kernel_rfl
theorem Ih(x y:List Nat):g0 0 ((fns eY 12).call 10 (.st 52) [.str x,.str y] [] (mkT []) fin)=g0 0 (opt (opt (gu x y) λt=>some !t) λt=>fin (.bool t) (mkT [.ns [(1,.str x),(2,.str y)]])):=by kernel_rfl
theorem IQ(y s:List Nat):g0 0 ((fns eY 12).call 10 (.st 94) [.str y,.str s] [] (mkT []) fin)=g0 0 (opt (lw s y) λt=>fin (.bool t) (mkT [.ns [(1,.str y),(2,.str s)]])):=by kernel_rfl
theorem DO(xs:List AV)(i:Int):g0 1 ((fns eY 12).call 10 (.st 94) [.ref 0,.int i] [] (mkT [.list xs]) fin)=g0 1 (opt (orO (orO (inL (.int i) xs) none) none) λt=>fin (.bool t) (mkT [.list xs,.ns [(1,.ref 0),(2,.int i)]])):=by kernel_rfl
theorem Ef(xs:List AV)(s:List Nat):g0 1 ((fns eY 12).call 10 (.st 94) [.ref 0,.str s] [] (mkT [.list xs]) fin)=g0 1 (opt (orO (orO (inL (.str s) xs) none) none) λt=>fin (.bool t) (mkT [.list xs,.ns [(1,.ref 0),(2,.str s)]])):=by kernel_rfl
theorem Bw:FOk K 10 45 oLt:=⟨_,rfl,λcx X d args H k z P hd h w=>l2E h λa b e h=>dL h λx e1 h=>dL h λy e2 h=>dq h λt ht h=>w (.bool t) H (.of (args':=[.str x,.str y]) (by rw[e,e1,e2]) (i9 X hd ((Hd x y).trans (by rw[ht];rfl)) (fc trivial (fc trivial fn)) trivial)) h⟩
theorem Cf:FOk K 10 52 oGe:=⟨_,rfl,λcx X d args H k z P hd h w=>l2E h λa b e h=>dL h λx e1 h=>dL h λy e2 h=>dq h λt ht h=>w (.bool !t) H (.of (args':=[.str x,.str y]) (by rw[e,e1,e2]) (i9 X hd ((Ih x y).trans (by rw[ht];rfl)) (fc trivial (fc trivial fn)) trivial)) h⟩
theorem yH{a b:AV}{t:Bool}(h:rB a b=some t):a.wf 0:=
 orE h (λh=>dM h λi e _=>e▸trivial) λh=>orE h (λh=>dL h λi e _=>e▸trivial) λh=>orE h (λh=>kX h λi e _=>e▸trivial) λh=>io h λe _=>e▸trivial
theorem sL{v:AV}:∀{xs:List AV} {t:Bool},inL v xs=some t->∀x∈xs,x.wf 0
 | [],t,_=>fn
 |y::r,t,h=>dq h λp hp h=>dq h λq hq h=>fc (yH hp) (sL hq)
theorem Az:FOk K 10 94 oIn:=⟨_,rfl,λcx X d args H k z P hd h w=>l2E h λa v e h=>orE h
 (λh=>dP h λi e1 h=>dG h λxs hx h=>ifE h λq h=>dq h λt ht h=>w (.bool t) H (.of (args':=[.ref i,v]) (by rw[e,e1]) (by
  have p:=lL (dA hx) rfl (sL ht);rcases orb q with q | q
  ·obtain⟨j,ej⟩:=oe q
   rw[ej]at ht ⊢;exact(gI (r:=.bool t) (fw K) X p rfl (args:=[.ref 0,.int j]) ((DO xs j).trans (by rw[ht];rfl)) (fc cJ (fc trivial fn)) trivial).mono hd
  ·obtain⟨j,ej⟩:=mM q
   rw[ej]at ht ⊢;exact(gI (r:=.bool t) (fw K) X p rfl (args:=[.ref 0,.str j]) ((Ef xs j).trans (by rw[ht];rfl)) (fc cJ (fc trivial fn)) trivial).mono hd)) h)
 λh=>dL h λl e1 h=>dL h λs e2 h=>dq h λt ht h=>w (.bool t) H (.of (args':=[.str l,.str s]) (by rw[e,e1,e2]) (i9 (r:=.bool t) X hd ((IQ l s).trans (by rw[ht];rfl)) (fc trivial (fc trivial fn)) trivial)) h⟩
end
noncomputable def tkI(i:Int):AV:=.tok true (.inr i)
section
variable {α β:Type} {x:α} {n y:β} {f:α->β}
noncomputable def ll(n:β)(f:α->β)(x:Option α):β:=Option.rec n f x
theorem jN:ll n f (some x)=f x:=rfl
theorem jW:ll n f none=n:=rfl
theorem dJ{f:α->Option β}:opt (some x) f=f x:=rfl
theorem gX:ifB true y n=y:=rfl
theorem fG:ifB false y n=n:=rfl
theorem eN{y:Option β}:ifO true y=y:=rfl
theorem B3{lo:Bool}{p:List Nat ⊕ Int}{k:Bool->List Nat ⊕ Int->Option β}:vn (.tok lo p) k=k lo p:=rfl
end
noncomputable def fu(g:Nat):Nat:=g+20
noncomputable def jj:PE:=pu (fh fj.body 1)
noncomputable def mj:IE:=kG fj.names 1 [] .none
noncomputable def gf(v x:AV)(a:Int)(w:List (Nat×AV)):List (Nat×AV):=[(1,v),(2,x),(8,.int a)]++w
theorem s9{xs:List AV}{b a:Int}{k d g:Nat}{w:AV}{kk:AF->TH->R}:(fns eY (fu (g+1))).loop d (.nm 9) 2 jj mj (mkT [.list xs,.ns (gf (.ref 0) (.tok false (.inr b)) a [(9,w)]),.iter (.list 0 k)]) kk =
  ll (kk .next (mkT [.list xs,.ns (gf (.ref 0) (.tok false (.inr b)) a [(9,w)]),.dead])) (λx=>vn x λlo p=>ifO (lo != false) (opt (xC p (.inr b)) λt=>ifB t
   ((fns eY (fu g)).loop d (.nm 9) 2 jj mj (mkT [.list xs,.ns (gf (.ref 0) (.tok false (.inr b)) (a+1) [(9,x)]),.iter (.list 0 (k+1))]) kk)
   ((fns eY (fu g)).loop d (.nm 9) 2 jj mj (mkT [.list xs,.ns (gf (.ref 0) (.tok false (.inr b)) a [(9,x)]),.iter (.list 0 (k+1))]) kk))) xs[k]?:=by kernel_rfl
theorem qs{xs:List AV}{b a:Int}{k d g:Nat}{kk:AF->TH->R}:(fns eY (fu (g+1))).loop d (.nm 9) 2 jj mj (mkT [.list xs,.ns (gf (.ref 0) (.tok false (.inr b)) a []),.iter (.list 0 k)]) kk =
  ll (kk .next (mkT [.list xs,.ns (gf (.ref 0) (.tok false (.inr b)) a []),.dead])) (λx=>vn x λlo p=>ifO (lo != false) (opt (xC p (.inr b)) λt=>ifB t
   ((fns eY (fu g)).loop d (.nm 9) 2 jj mj (mkT [.list xs,.ns (gf (.ref 0) (.tok false (.inr b)) (a+1) [(9,x)]),.iter (.list 0 (k+1))]) kk)
   ((fns eY (fu g)).loop d (.nm 9) 2 jj mj (mkT [.list xs,.ns (gf (.ref 0) (.tok false (.inr b)) a [(9,x)]),.iter (.list 0 (k+1))]) kk))) xs[k]?:=by kernel_rfl
noncomputable def rt(b:Int)(ns:List Int):Int->Int:=List.rec (motive:=λ_=>Int->Int) (λa=>a) (λi _ ih a=>ih (ifB (decide (i=b)) (a+1) a)) ns
theorem Lo{b a:Int}:rt b [] a=a:=rfl
theorem gS{α:Type}{xs r:List α}{k:Nat}{x:α}(h:xs.drop k=x::r):xs[k]? = some x/\xs.drop (k+1)=r:=
 ⟨by have:=aB (λl=>l[0]?) h;rw[List.getElem?_drop]at this;exact this,by have:=aB (List.drop 1) h;rw[List.drop_drop]at this;exact this⟩
theorem fE{α:Type}{xs:List α}{k:Nat}(h:xs.drop k=[]):xs[k]? = none:=by have:=aB (λl=>l[0]?) h;rw[List.getElem?_drop]at this;exact this
theorem tf:(true != false)=true:=rfl
theorem sY{xs:List AV}{b:Int}{d:Nat}{kk:AF->TH->R}:∀{ns:List Int} {k:Nat} {a:Int} {w:List (Nat×AV)} {f:Nat},(w=[]\/∃v,w=[(9,v)])->xs.drop k=ns.map tkI->ns.all smallInt=true->ns.length<=f->
  ∃w',(fns eY (fu (f+1))).loop d (.nm 9) 2 jj mj (mkT [.list xs,.ns (gf (.ref 0) (.tok false (.inr b)) a w),.iter (.list 0 k)]) kk=kk .next (mkT [.list xs,.ns (gf (.ref 0) (.tok false (.inr b)) (rt b ns a) w'),.dead])
 | [],k,a,w,f,hw,hx,hs,hf=>⟨w,by
  rcases hw with e | ⟨v,e⟩
  ·rw[e,qs,fE hx,jW,Lo]
  ·rw[e,s9,fE hx,jW,Lo]⟩
 |i::r,k,a,w,0,hw,hx,hs,hf=>absurd hf (bH _)
 |i::r,k,a,w,f+1,hw,hx,hs,hf=>by
  obtain⟨e1,e2⟩:=gS hx;obtain⟨s1,s2⟩:=Bool.and_eq_true_iff.mp hs;have t:xC (.inr i) (.inr b)=some (decide (i=b)):=by show ifO (smallInt i) _=_;rw[s1];rfl
  have q:rt b (i::r) a=rt b r (ifB (decide (i=b)) (a+1) a):=rfl;have z:∀a,∃w',(fns eY (fu (f+1))).loop d (.nm 9) 2 jj mj (mkT [.list xs,.ns (gf (.ref 0) (.tok false (.inr b)) a [(9,tkI i)]),.iter (.list 0 (k+1))]) kk=kk .next (mkT [.list xs,.ns (gf (.ref 0) (.tok false (.inr b)) (rt b r a) w'),.dead]):=
   λa=>sY (.inr ⟨tkI i,rfl⟩) e2 s2 (aW hf)
  rw[q];generalize decide (i=b)=u at t;have e3:∀w',(w'=[]\/∃v,w'=[(9,v)])->(fns eY (fu (f+1+1))).loop d (.nm 9) 2 jj mj (mkT [.list xs,.ns (gf (.ref 0) (.tok false (.inr b)) a w'),.iter (.list 0 k)]) kk=(fns eY (fu (f+1))).loop d (.nm 9) 2 jj mj (mkT [.list xs,.ns (gf (.ref 0) (.tok false (.inr b)) (ifB u (a+1) a) [(9,tkI i)]),.iter (.list 0 (k+1))]) kk:=λw' hw=>by
   rcases hw with e | ⟨v,e⟩
   ·rw[e,qs,e1,jN,tkI,B3,tf,eN,t,dJ];cases u with
    |true=>rw[gX,gX]
    |false=>rw[fG,fG]
   ·rw[e,s9,e1,jN,tkI,B3,tf,eN,t,dJ];cases u with
    |true=>rw[gX,gX]
    |false=>rw[fG,fG]
  rw[e3 w hw];exact z _
theorem Cg{xs:List AV}{b:Int}{g:Nat}:(fns eY (fu (g+5))).call 5 (.st 101) [.ref 0,.tok false (.inr b)] [] (mkT [.list xs]) fin =
  (fns eY (fu (g+1))).loop 4 (.nm 9) 2 jj mj (mkT [.list xs,.ns (gf (.ref 0) (.tok false (.inr b)) 0 []),.iter (.list 0 0)]) λf H=>AF.casesOn f ((fns eY (fu (g+2))).exs 4 (tlP (tlP fj.body)) mj H λf H=>fin (gp f) H) (fin .none H) (fin .none H) λv=>fin v H:=by kernel_rfl
theorem EW{b:Int}{ns:List Int}(hs:ns.all smallInt=true):∃n w,(fns eY n).call 5 (.st 101) [.ref 0,.tok false (.inr b)] [] (mkT [.list (ns.map tkI)]) fin=some (.ret (.int (rt b ns 0)),mkT [.list (ns.map tkI),.ns (gf (.ref 0) (.tok false (.inr b)) (rt b ns 0) w),.dead]):=by
 obtain⟨w,h⟩:=sY (xs:=ns.map tkI) (b:=b) (d:=4) (k:=0) (a:=0) (w:=[]) (f:=ns.length) (kk:=λf H=>AF.casesOn f ((fns eY (fu (ns.length+2))).exs 4 (tlP (tlP fj.body)) mj H λf H=>fin (gp f) H) (fin .none H) (fin .none H) λv=>fin v H) (.inl rfl) rfl hs (ad _);exact⟨_,w,Cg.trans (h.trans (by kernel_rfl))⟩
noncomputable def AT(p:PE):Option Int:=match p with
 | .int i=>some i
 |_=>none
theorem I0{n:Nat}{e:Expr}{i:Int}(h:AT (cvE n e)=some i):∃kk pp,e = .Constant (.int i) kk pp:=by
 cases n with
 |zero=>exact nn h
 |succ n=>
  revert h;refine gd (M:=λe p=>AT p=some i->∃kk pp,e = .Constant (.int i) kk pp) ?_ (λx k p h=>so h λe=>⟨k,p,e▸rfl⟩) ?_ ?_ ?_ ?_ ?_ ?_ ?_ ?_ ?_ ?_ ?_ ?_ ?_ ?_ ?_ ?_ ?_ ?_ ?_ ?_ ?_ ?_ ?_ ?_ e<;>intros<;>exact nn (by assumption)
noncomputable def gl(xs:List AV):Option (List Int):=trv (λv=>eh v some) xs
theorem gU:∀{xs:List AV} {ns:List Int},gl xs=some ns->xs=ns.map AV.int
 | [],ns,h=>so h λe=>e▸rfl
 |y::r,ns,h=>dq h λk h1 h=>dq h λq h2 h=>so h λe=>dM h1 λl e1 h1=>so h1 λe2=>by rw[<-e,e1,e2,gU h2];rfl
section
variable {cx:Cx} {K:Frag} {d n i:Nat} {HL:List AO} {s:Shared} {ρ:Nat->Addr} {ns:List Int} {a:Addr} {o:AO} {N:Nat} {y:Nat->List Nat}
noncomputable def gOk(a:AV):Bool:=match a with
 | .st _=>true
 | .bi _=>true
 | .ty _=>true
 |_=>false
theorem EN{x:Nat}{v:AV}(h:Ap x=some v):gOk v=true:=j4 (M:=λ_ a=>gOk a=true) h λp hp=>aA.mp (show List.all _ (λp:Nat×AV=>gOk p.2)=true from rfl) p hp
theorem HJ{v:AV}{V:Value}(h:gOk v=true):Is cx s ρ n v V->Is (cx.tk N y) s ρ n v V:=by cases v<;>first | exact λi=>i | exact fT h
theorem dF.tk(X:dF cx K)(N:Nat){y:Nat->List Nat}{q:Nat}(hq:q<6)(hy:y=gA q):dF (cx.tk N y) K where
 cok:={ X.cok with opl:=hy▸tL q,glob:=dx X.cok.glob λmg mb a b r=>⟨mg,mb,a,b,λx v h=>dm (r x v h) λV i q=>⟨V,λh' ρ n=>HJ (EN h) (i h' ρ n),q⟩⟩}
 cod:={ X.cod with}
 kc:={ X.kc with}
 kc2:={ X.kc2 with}
 nm:=X.nm
 fk:=λn ft h=>fA (X.fk n ft h) λfd body Y=>⟨fd,body,{ Y with bind:=λM o=>Y.bind M o}⟩
 hnm:=X.hnm
 hdm:=X.hdm
 op:=⟨q,hq,hy⟩
theorem tD:∀{ns:List Int} {Vs:List Value},IsL cx s ρ n (ns.map .int) Vs->IsL (cx.tk s.toks y) { s with toks:=s.toks+1} ρ n (ns.map tkI) Vs
 | [],Vs,i=>i
 |k::r,Vs,i=>by
  refine dx i λV Ws e OA i2=>?_;refine dz OA λt i1 t0 t1=>?_;exact⟨V,Ws,e,⟨t,i1,⟨t0,bc t1⟩,λ_=>t1,λq=>absurd q.symm ah⟩,tD i2⟩
theorem tW:∀{ns:List Int} {Vs:List Value},IsL (cx.tk N y) s ρ n (ns.map tkI) Vs->IsL cx s ρ n (ns.map .int) Vs
 | [],Vs,i=>i
 |k::r,Vs,i=>by
  refine dx i λV Ws e OA i2=>?_;refine dz OA λt i1 t0 _=>?_;exact⟨V,Ws,e,⟨t,i1,t0⟩,tW i2⟩
theorem SR.one{cx':Cx}(hc:cx'.hs=cx.hs)(ho:cx'.os=cx.os)(S:SR cx ρ HL s){o':AO}(e:HL[0]? = some o')(al:dN o'=true)(h:cx'.tkN<=s.toks)(w:OR cx' s ρ 1 (ρ 0) o):SR cx' ρ [o] s where
 keep:=hc▸S.keep
 own:=λj p q=>by cases j with
  |zero=>obtain rfl:=ak q;exact w
  |succ j=>exact nS q
 inj:=λj k p q ej ek _ _ _=>by cases j with
  |zero=>cases k with
   |zero=>rfl
   |succ k=>exact nS ek
  |succ j=>exact nS ej
 new:=λj p q _=>by cases j with
  |zero=>exact hc▸S.new 0 _ e al
  |succ j=>exact nS q
 gens:=S.gens
 os:=ho▸S.os
 tkn:=⟨h,S.tkn.2⟩
theorem ku:∀ns:List Int,∀x∈ns.map AV.int,x.wf n
 | [],x,h=>nomatch h
 |i::r,x,h=>(aH.mp h).elim (λe=>e▸trivial) (ku r x)
theorem BJ{b:Int}{e:Expr}{kk pp}(X:dF cx K)(hd:5<=d)(hi:HL[i]? = some (.list (ns.map .int)))(hs:ns.all smallInt=true)(he:e = .Constant (.int b) kk pp):Et cx d (.ref i) e HL (.int (rt b ns 0)):=by
 refine fA (EW (b:=b) hs) λm w hr=>?_;refine⟨he▸rfl,λ{A s ρ V env Q E} u iV W=>?_⟩;have g:=u.g.toGood;have p:fO HL [i] [.list (ns.map .int)]:=lL hi rfl (ku ns);have P8:=ir g u.sr p;refine dm X.op λq hq hy=>?_;have Q9:=(X.cut u.sr p).tk s.toks hq (show(cut cx s ρ [i]).opq=_ from hy);refine dm (P8.own 0 _ rfl) λVs hp iVs=>?_;have P9:SR ((cut cx s ρ [i]).tk s.toks cx.opq) (sub ρ [i]) [.list (ns.map tkI)] { s with toks:=s.toks+1}:=SR.one (cx:=cut cx s ρ [i]) (cx':=(cut cx s ρ [i]).tk s.toks cx.opq) rfl rfl (P8.toks (X.cut u.sr p).cok.toGood (aC _)).1 rfl rfl (aC _) ⟨Vs,hp,tD iVs⟩;obtain⟨kp,C⟩:=gF (fw K) Q9 hr;rw[he];refine wpAny_Constant_int ⟨kp P9 rfl,?_⟩;rw[show V = .ref (ρ i) from iV.1];rw[fS rfl,fS rfl]at C;refine(C.mono hd).2 (Ks:=[]) ⟨Q9.cok,u.ok,P9⟩ rfl ⟨_,_,rfl,⟨rfl,cJ⟩,_,_,rfl,⟨_,rfl,⟨bl u.sr.tk0,aD _⟩,λq=>absurd q ah,λ_=>ad _⟩,rfl⟩ rfl λV' s' ρ' S' i' E'=>?_;refine dm (S'.own 0 _ rfl) λUs hp' iUs=>?_;have Q0:SR (cut cx s ρ [i]) ρ' [.list (ns.map .int)] s':=SR.one (cx:=(cut cx s ρ [i]).tk s.toks cx.opq) (cx':=cut cx s ρ [i]) rfl rfl S' rfl rfl (ae (dk u.sr.tkn.1) E'.tk) ⟨Us,hp',(tW (cx:=cut cx s ρ [i]) iUs).less (ku ns)⟩;have f:=i8 g u.sr p Q0 ⟨E'.ag,λa o h=>E'.fz a o h,ae (aC _) E'.tk⟩ λj hj=>rfl;exact W V' s' ρ f.1 i' f.2
end
noncomputable def eqS:AV:=.tok true (.inl [61])
noncomputable def pz:IE:=kG fj.names 0 [] .none
theorem pQ{l:List Nat}{a:Int}{k d g:Nat}{w:AV}{kk:AF->TH->R}:(fns eY (fu (g+1))).loop d (.nm 9) 1 jj pz (mkT [.ns (gf (.str l) eqS a [(9,w)]),.iter (.str l k)]) kk =
  ll (kk .next (mkT [.ns (gf (.str l) eqS a [(9,w)]),.dead])) (λc=>opt (eM [c] [61]) λt=>ifB t
   ((fns eY (fu g)).loop d (.nm 9) 1 jj pz (mkT [.ns (gf (.str l) eqS (a+1) [(9,.tok false (.inl [c]))]),.iter (.str l (k+1))]) kk)
   ((fns eY (fu g)).loop d (.nm 9) 1 jj pz (mkT [.ns (gf (.str l) eqS a [(9,.tok false (.inl [c]))]),.iter (.str l (k+1))]) kk)) l[k]?:=by kernel_rfl
theorem og{l:List Nat}{a:Int}{k d g:Nat}{kk:AF->TH->R}:(fns eY (fu (g+1))).loop d (.nm 9) 1 jj pz (mkT [.ns (gf (.str l) eqS a []),.iter (.str l k)]) kk =
  ll (kk .next (mkT [.ns (gf (.str l) eqS a []),.dead])) (λc=>opt (eM [c] [61]) λt=>ifB t
   ((fns eY (fu g)).loop d (.nm 9) 1 jj pz (mkT [.ns (gf (.str l) eqS (a+1) [(9,.tok false (.inl [c]))]),.iter (.str l (k+1))]) kk)
   ((fns eY (fu g)).loop d (.nm 9) 1 jj pz (mkT [.ns (gf (.str l) eqS a [(9,.tok false (.inl [c]))]),.iter (.str l (k+1))]) kk)) l[k]?:=by kernel_rfl
noncomputable def s6(l:List Nat):Int->Option Int:=List.rec (motive:=λ_=>Int->Option Int) some (λc _ ih a=>opt (eM [c] [61]) λt=>ih (ifB t (a+1) a)) l
theorem qk{x:List Nat}{d:Nat}{n:Int}{kk:AF->TH->R}:∀{l:List Nat} {k:Nat} {a:Int} {w:List (Nat×AV)} {f:Nat},(w=[]\/∃v,w=[(9,v)])->x.drop k=l->s6 l a=some n->l.length<=f->
  ∃w',(fns eY (fu (f+1))).loop d (.nm 9) 1 jj pz (mkT [.ns (gf (.str x) eqS a w),.iter (.str x k)]) kk=kk .next (mkT [.ns (gf (.str x) eqS n w'),.dead])
 | [],k,a,w,f,hw,hx,hs,hf=>⟨w,by
  have e:a=n:=ak hs;rw[<-e];rcases hw with e | ⟨v,e⟩
  ·rw[e,og,fE hx,jW]
  ·rw[e,pQ,fE hx,jW]⟩
 |c::r,k,a,w,0,hw,hx,hs,hf=>absurd hf (bH _)
 |c::r,k,a,w,f+1,hw,hx,hs,hf=>by
  obtain⟨e1,e2⟩:=gS hx;refine dq (f:=λt=>s6 r (ifB t (a+1) a)) hs λu t hs=>?_;obtain⟨w',z⟩:=qk (kk:=kk) (d:=d) (.inr ⟨.tok false (.inl [c]),rfl⟩) e2 hs (aW hf);refine⟨w',Eq.trans ?_ z⟩;rcases hw with e | ⟨v,e⟩
  ·rw[e,og,e1,jN,t,dJ];cases u with
   |true=>rw[gX,gX]
   |false=>rw[fG,fG]
  ·rw[e,pQ,e1,jN,t,dJ];cases u with
   |true=>rw[gX,gX]
   |false=>rw[fG,fG]
theorem yp{l:List Nat}{g:Nat}:(fns eY (fu (g+5))).call 5 (.st 101) [.str l,eqS] [] (mkT []) fin =
  dY (orO (ifO (kR l) (mo (mkT [.ns (gf (.str l) eqS 0 [])]) (.str l 0))) none) λi H=>(fns eY (fu (g+1))).loop 4 (.nm 9) i jj pz H λf H=>AF.casesOn f ((fns eY (fu (g+2))).exs 4 (tlP (tlP fj.body)) pz H λf H=>fin (gp f) H) (fin .none H) (fin .none H) λv=>fin v H:=by kernel_rfl
theorem C2{l:List Nat}{K:Nat->TH->R}:dY (orO (ifO true (mo (mkT [.ns (gf (.str l) eqS 0 [])]) (.str l 0))) none) K=K 1 (mkT [.ns (gf (.str l) eqS 0 []),.iter (.str l 0)]):=by kernel_rfl
theorem BR{l:List Nat}{n:Int}(ha:kR l=true)(hs:s6 l 0=some n):∃m w,(fns eY m).call 5 (.st 101) [.str l,eqS] [] (mkT []) fin=some (.ret (.int n),mkT [.ns (gf (.str l) eqS n w),.dead]):=by
 obtain⟨w,h⟩:=qk (x:=l) (d:=4) (k:=0) (a:=0) (w:=[]) (f:=l.length) (kk:=λf H=>AF.casesOn f ((fns eY (fu (l.length+2))).exs 4 (tlP (tlP fj.body)) pz H λf H=>fin (gp f) H) (fin .none H) (fin .none H) λv=>fin v H) (.inl rfl) rfl hs (ad _);refine⟨fu (l.length+5),w,yp.trans ?_⟩;rw[ha,C2];exact h.trans (by kernel_rfl)
section
variable {cx:Cx} {K:Frag} {d:Nat} {HL:List AO} {s:Shared} {ρ:Nat->Addr} {n:Int} {l:List Nat}
theorem SR.nil{cx':Cx}(hc:cx'.hs=cx.hs)(ho:cx'.os=cx.os)(S:SR cx ρ HL s)(h:cx'.tkN<=s.toks):SR cx' ρ [] s where
 keep:=hc▸S.keep
 own:=λj p q=>nomatch q
 inj:=λj k p q ej=>nomatch ej
 new:=λj p q=>nomatch q
 gens:=S.gens
 os:=ho▸S.os
 tkn:=⟨h,S.tkn.2⟩
theorem AP{e:Expr}(X:dF cx K)(hd:5<=d)(ha:kR l=true)(hl:s6 l 0=some n)(he:∃q kk pp,e = .Constant (.str q) kk pp/\q=rs cx.σ [61]):Et cx d (.str l) e HL (.int n):=by
 refine gv he λx kk pp he hx=>?_;refine fA (BR ha hl) λm w hr'=>?_;refine⟨he▸rfl,λ{A s ρ V env Q E} u iV W=>?_⟩;have g:=u.g.toGood;have p:fO HL [] []:=lZ;have P8:=ir g u.sr p;refine dm X.op λq hq hy=>?_;have Q9:=(X.cut u.sr p).tk (s.toks+1) hq (show(cut cx s ρ []).opq=_ from hy);have P9:SR ((cut cx s ρ []).tk (s.toks+1) cx.opq) (sub ρ []) [] { s with toks:=s.toks+1}:=SR.nil (cx:=cut cx s ρ []) (cx':=(cut cx s ρ []).tk (s.toks+1) cx.opq) rfl rfl (P8.toks (X.cut u.sr p).cok.toGood (aC _)).1 (ad _);obtain⟨kp,C⟩:=gF (fw K) Q9 hr';rw[he,eval_Constant];refine wpAny_mkText ⟨kp P9 rfl,?_⟩;obtain⟨t,eV⟩:=iV;rw[eV,hx];rw[fS rfl,fS rfl]at C;refine(C.mono hd).2 (Ks:=[]) ⟨Q9.cok,u.ok,P9⟩ rfl ⟨_,_,rfl,⟨t,rfl⟩,_,_,rfl,⟨_,rfl,⟨bl u.sr.tk0,aD _⟩,λ_=>aD _,λq=>absurd q.symm ah⟩,rfl⟩ rfl λV' s' ρ' S' i' E'=>?_;have Q0:SR (cut cx s ρ []) ρ' [] s':=SR.nil (cx:=(cut cx s ρ []).tk (s.toks+1) cx.opq) (cx':=cut cx s ρ []) rfl rfl S' (ae (dk u.sr.tkn.1) E'.tk);have f:=i8 g u.sr p Q0 ⟨E'.ag,λa o h=>E'.fz a o h,ae (aC _) E'.tk⟩ λj hj=>rfl;exact W V' s' ρ f.1 i' f.2
end
noncomputable def DI(v:AV)(p:PE)(H:TH)(k:AV->R):R:=orO (opt (AT p) λb=>eJ v λi=>dR H i λxs=>opt (gl xs) λns=>ifO (ns.all smallInt) (k (.int (rt b ns 0)))) (opt (pP p) λq=>ifO (decide (q=[61])) (dZ v λl=>ifO (kR l) (opt (s6 l 0) λn=>k (.int n))))
theorem rM(K:Frag):wY K DI:=λcx X d v n e H k z P hd h w=>orE h
 (λh=>dq h λb hb h=>dP h λi ei h=>dG h λxs hx h=>dq h λns hn h=>ifE h λhs h=>w _ (by
  refine fA (I0 hb) λkk pp he=>?_;rw[ei];exact BJ X (ae (by decide) hd) (gU hn▸dA hx) hs he) h)
 λh=>dq h λq hq h=>ifE h λhs h=>dL h λl el h=>ifE h λha h=>dq h λn hn h=>w _ (by
  rw[el];exact AP X (ae (by decide) hd) ha hn (vp (dec hs▸hq))) h
noncomputable def gE(O:Orc)(n d:Nat)(t b:PE)(i:Nat)(c:IE)(kk:AF->TH->R)(v:AV)(H:TH):R:=(fns O n).asg d t v c H λH=>(fns O n).exs d b c H λf H=>AF.casesOn f ((fns O n).loop d t i b c H kk) none ((fns O n).loop d t i b c H kk) λv=>kk (.ret v) H
theorem lt5{P:Nat->Prop}(h0:P 0)(h1:P 1)(h2:P 2)(h3:P 3)(h4:P 4):∀j,j<5->P j
 |0,_=>h0
 |1,_=>h1
 |2,_=>h2
 |3,_=>h3
 |4,_=>h4
 |j+5,h=>absurd h (bJ.mpr (bU 5 j))
theorem lt6{P:Nat->Prop}(h0:P 0)(h1:P 1)(h2:P 2)(h3:P 3)(h4:P 4)(h5:P 5):∀j,j<6->P j:=λj h=>(Nat.lt_succ_iff_lt_or_eq.mp h).elim (lt5 h0 h1 h2 h3 h4 j) λe=>e▸h5
noncomputable def A1:List (Nat×OFn):=[(59,Kz),(80,LX),(73,MO),(45,oLt),(52,oGe),(94,oIn)]
noncomputable def O1:Orc:=⟨OT A1,DI,10,λ_=>none⟩
theorem F8(K:Frag):∀p∈A1,FOk K 10 p.1 p.2:=fc EH (fc DX (fc D6 (fc Bw (fc Cf (fc Az fn)))))
theorem GI(K:Frag):gL K O1:=⟨wF (F8 K),rM K,λcx X i ns h=>nomatch h⟩
noncomputable def nwB:PE:=pu (fh fC.body 1)
noncomputable def nwT:PE:=JB (fh nwB 0)
noncomputable def nwI:PE:=pu (fh nwB 0)
noncomputable def nwC:IE:=kG fC.names 1 [] .none
noncomputable def nwH(xs ts:List AV)(m:List (Nat×AV))(i j:Nat)(tail:List AO):TH:=mkT ([.list xs,.ns ([(128,.ref 0),(129,.ref 2)]++m),.list ts,.iter (.list 0 i)]++(List.replicate j .dead++tail))
noncomputable def nwM(r:Int):List (Nat×AV):=[(120,.int r)]
noncomputable def nwN(r a b:Int):List (Nat×AV):=[(120,.int r),(130,.int a),(131,.int b)]
section
variable {xs ts:List AV} {r a b a' b':Int} {k f i:Nat} {kk:AF->TH->R} {m:List (Nat×AV)}
theorem Gg:∀j,j<5->(fns O1 (fu (f+1))).loop 19 nwT (4+j) nwI nwC (nwH xs ts m i j [.iter (.list 2 k)]) kk=ll (kk .next (nwH xs ts m i j [.dead])) (λv=>gE O1 (fu f) 19 nwT nwI (4+j) nwC kk v (nwH xs ts m i j [.iter (.list 2 (k+1))])) ts[k]?:=
 lt5 (by kernel_rfl) (by kernel_rfl) (by kernel_rfl) (by kernel_rfl) (by kernel_rfl)
theorem Fi:∀j,j<5->gE O1 (fu f) 19 nwT nwI (4+j) nwC kk (.tup [.int a,.int b]) (nwH xs ts (nwM r) i j [.iter (.list 2 k)])=ifB (!(Builtin.bitAnd r a == 0))
  ((fns O1 (fu f)).loop 19 nwT (4+j) nwI nwC (nwH xs ts (nwN (Builtin.bitXor r b) a b) i j [.iter (.list 2 k)]) kk) ((fns O1 (fu f)).loop 19 nwT (4+j) nwI nwC (nwH xs ts (nwN r a b) i j [.iter (.list 2 k)]) kk):=
 lt5 (by kernel_rfl) (by kernel_rfl) (by kernel_rfl) (by kernel_rfl) (by kernel_rfl)
theorem BM:∀j,j<5->gE O1 (fu f) 19 nwT nwI (4+j) nwC kk (.tup [.int a,.int b]) (nwH xs ts (nwN r a' b') i j [.iter (.list 2 k)])=ifB (!(Builtin.bitAnd r a == 0))
  ((fns O1 (fu f)).loop 19 nwT (4+j) nwI nwC (nwH xs ts (nwN (Builtin.bitXor r b) a b) i j [.iter (.list 2 k)]) kk) ((fns O1 (fu f)).loop 19 nwT (4+j) nwI nwC (nwH xs ts (nwN r a b) i j [.iter (.list 2 k)]) kk):=
 lt5 (by kernel_rfl) (by kernel_rfl) (by kernel_rfl) (by kernel_rfl) (by kernel_rfl)
noncomputable def jr(p:Int×Int):AV:=.tup [.int p.1,.int p.2]
noncomputable def jy(ts:List (Int×Int)):Int->Int:=List.rec (motive:=λ_=>Int->Int) (λr=>r) (λp _ ih r=>ih (ifB (!(Builtin.bitAnd r p.1 == 0)) (Builtin.bitXor r p.2) r)) ts
theorem yX{p:Int×Int}{ps:List (Int×Int)}:jy (p::ps) r=jy ps (ifB (!(Builtin.bitAnd r p.1 == 0)) (Builtin.bitXor r p.2) r):=rfl
noncomputable def nwR(r:Int)(m:List (Nat×AV)):Prop:=m=nwM r\/∃a b,m=nwN r a b
theorem qX{j:Nat}(hj:j<5):∀{ps:List (Int×Int)} {k:Nat} {r:Int} {m:List (Nat×AV)} {f:Nat},nwR r m->ts.drop k=ps.map jr->ps.length<=f->
  ∃m',nwR (jy ps r) m'/\(fns O1 (fu (f+1))).loop 19 nwT (4+j) nwI nwC (nwH xs ts m i j [.iter (.list 2 k)]) kk=kk .next (nwH xs ts m' i j [.dead])
 | [],k,r,m,f,hm,hx,hf=>⟨m,hm,by rw[Gg j hj,fE hx,jW]⟩
 |p::ps,k,r,m,0,hm,hx,hf=>absurd hf (bH _)
 |p::ps,k,r,m,f+1,hm,hx,hf=>by
  obtain⟨e1,e2⟩:=gS hx;refine dm (qX hj (k:=k+1) (r:=ifB (!(Builtin.bitAnd r p.1 == 0)) (Builtin.bitXor r p.2) r) (.inr ⟨p.1,p.2,rfl⟩) e2 (aW hf)) λm' h1 h2=>?_;rw[yX];refine⟨m',h1,Eq.trans ?_ h2⟩;generalize q:(!(Builtin.bitAnd r p.1 == 0))=u;rw[Gg j hj,e1,jN,jr];rcases hm with e | ⟨a,b,e⟩
  ·rw[e,Fi j hj,q];cases u with
   |true=>rw[gX,gX]
   |false=>rw[fG,fG]
  ·rw[e,BM j hj,q];cases u with
   |true=>rw[gX,gX]
   |false=>rw[fG,fG]
end
noncomputable def nwO(f:Nat)(kk:AF->TH->R)(g:AF)(H:TH):R:=AF.casesOn g ((fns O1 (fu f)).loop 19 (.nm 120) 3 nwB nwC H kk) none ((fns O1 (fu f)).loop 19 (.nm 120) 3 nwB nwC H kk) λv=>kk (.ret v) H
noncomputable def nwK(f:Nat)(kk:AF->TH->R)(g:AF)(H:TH):R:=AF.casesOn g ((fns O1 (fu (f+2))).exs 19 (tlP nwB) nwC H (nwO (f+3) kk)) (nwO (f+3) kk .brk H) (nwO (f+3) kk .cont H) λv=>nwO (f+3) kk (.ret v) H
section
variable {xs ts:List AV} {r a b:Int} {f i:Nat} {kk:AF->TH->R} {m:List (Nat×AV)}
theorem F4:∀j,j<6->(fns O1 (fu (f+1))).loop 19 (.nm 120) 3 nwB nwC (nwH xs ts m i j []) kk=ll (kk .next (st (nwH xs ts m i j []) 3 .dead)) (λv=>gE O1 (fu f) 19 (.nm 120) nwB 3 nwC kk v (nwH xs ts m (i+1) j [])) xs[i]?:=
 lt6 (by kernel_rfl) (by kernel_rfl) (by kernel_rfl) (by kernel_rfl) (by kernel_rfl) (by kernel_rfl)
theorem zM:∀j,j<5->gE O1 (fu (f+3)) 19 (.nm 120) nwB 3 nwC kk (.int r) (nwH xs ts [] i j [])=(fns O1 (fu (f+1))).loop 19 nwT (4+j) nwI nwC (nwH xs ts (nwM r) i j [.iter (.list 2 0)]) (nwK f kk):=
 lt5 (by kernel_rfl) (by kernel_rfl) (by kernel_rfl) (by kernel_rfl) (by kernel_rfl)
theorem yT:∀j,j<5->gE O1 (fu (f+3)) 19 (.nm 120) nwB 3 nwC kk (.int r) (nwH xs ts (nwM a) i j [])=(fns O1 (fu (f+1))).loop 19 nwT (4+j) nwI nwC (nwH xs ts (nwM r) i j [.iter (.list 2 0)]) (nwK f kk):=
 lt5 (by kernel_rfl) (by kernel_rfl) (by kernel_rfl) (by kernel_rfl) (by kernel_rfl)
theorem CN{a':Int}:∀j,j<5->gE O1 (fu (f+3)) 19 (.nm 120) nwB 3 nwC kk (.int r) (nwH xs ts (nwN a' a b) i j [])=(fns O1 (fu (f+1))).loop 19 nwT (4+j) nwI nwC (nwH xs ts (nwN r a b) i j [.iter (.list 2 0)]) (nwK f kk):=
 lt5 (by kernel_rfl) (by kernel_rfl) (by kernel_rfl) (by kernel_rfl) (by kernel_rfl)
noncomputable def K2(r:Int):AV:=.tup [.int (Builtin.bitAnd r (-r)),.int r]
theorem HD:∀j,j<5->nwK f kk .next (nwH xs ts (nwM r) i j [.dead])=dY (ifO (Nat.ble ts.length dn) (some (AV.none,nwH xs (ts++[K2 r]) (nwM r) i (j+1) []))) λ_ H=>(fns O1 (fu (f+3))).loop 19 (.nm 120) 3 nwB nwC H kk:=
 lt5 (by kernel_rfl) (by kernel_rfl) (by kernel_rfl) (by kernel_rfl) (by kernel_rfl)
theorem DK:∀j,j<5->nwK f kk .next (nwH xs ts (nwN r a b) i j [.dead])=dY (ifO (Nat.ble ts.length dn) (some (AV.none,nwH xs (ts++[K2 r]) (nwN r a b) i (j+1) []))) λ_ H=>(fns O1 (fu (f+3))).loop 19 (.nm 120) 3 nwB nwC H kk:=
 lt5 (by kernel_rfl) (by kernel_rfl) (by kernel_rfl) (by kernel_rfl) (by kernel_rfl)
end
noncomputable def lcE(p:PE):PE:=match p with
 | .lc e _ _=>e
 | .dc a b _ _=>.c a b
 |_=>.no
noncomputable def lcG(p:PE):PE:=match p with
 | .lc _ g _=>g
 | .dc _ _ g _=>g
 |_=>.no
noncomputable def lcN(p:PE):List (Nat×NameKind):=match p with
 | .lc _ _ n=>n
 | .dc _ _ _ n=>n
 |_=>[]
noncomputable def Mu(p:PE):PE:=match p with
 | .call _ a _ _=>hdP a
 | .meth _ _ a=>hdP a
 |_=>.no
noncomputable def rhs(p:PE):PE:=match p with
 | .set _ e=>e
 | .ret e=>e
 | .expr e=>e
 | .setc _ e=>e
 |_=>.no
noncomputable def eG(c:IE)(p:PE)(n:Nat):IE:=ll c (λc=>c) (ww c (lcN p) n)
noncomputable def jG(O:Orc)(n d:Nat)(isD:Bool)(p:PE)(i acc:Nat)(c:IE)(k:TH->R)(v:AV)(H:TH):R:=yg (hdP (lcG p)) λt it ifs=>(fns O n).asg d t v c H λH=>(fns O n).ands d ifs c H λok H=>
 ifB ok (qS (fns O n) d isD (lcE p) .n acc c H λH=>(fns O n).comp d isD (lcE p) (lcG p) i acc c H k) ((fns O n).comp d isD (lcE p) (lcG p) i acc c H k)
section
variable {xs ts:List AV} {r a b:Int} {k f i:Nat} {kk:AF->TH->R} {m:List (Nat×AV)}
noncomputable def jK(rs:List Int):List (Int×Int)->List (Int×Int):=List.rec (motive:=λ_=>List (Int×Int)->List (Int×Int)) (λts=>ts) (λr _ ih ts=>ih (ts++[(Builtin.bitAnd (jy ts r) (-jy ts r),jy ts r)])) rs
theorem vD{rs:List Int}{ts:List (Int×Int)}:jK (r::rs) ts=jK rs (ts++[(Builtin.bitAnd (jy ts r) (-jy ts r),jy ts r)]):=rfl
theorem C7{ts:List (Int×Int)}:jK [] ts=ts:=rfl
theorem qH:Nat.ble 5 dn=true:=by decide
theorem jh{a b:Nat}(h:a<=b)(k:Nat.ble b dn=true):Nat.ble a dn=true:=a9 (ae h (leb k))
theorem xf:∀{rs:List Int} {ts:List (Int×Int)} {j:Nat} {m:List (Nat×AV)} {f:Nat},(m=[]\/∃r,nwR r m)->xs.drop j=rs.map .int->ts.length=j->rs.length+j<=5->rs.length+8<=f->
  ∃m',(fns O1 (fu (f+1))).loop 19 (.nm 120) 3 nwB nwC (nwH xs (ts.map jr) m j j []) kk=kk .next (st (nwH xs ((jK rs ts).map jr) m' (rs.length+j) (rs.length+j) []) 3 .dead)
 | [],ts,j,m,f,hm,hx,ht,hj,hf=>⟨m,by rw[F4 j (Nat.lt_succ_of_le (ae (bU j _) hj)),fE hx,jW,C7,cG,aY]⟩
 |r::rs,ts,j,m,f,hm,hx,ht,hj,hf=>by
  have hl:rs.length+1+j=rs.length+(j+1):=bV _ _ _;have hj5:j<5:=av (av (aD j) (bU (j+1) rs.length)) (hl▸hj);obtain⟨g,eg⟩:∃g,f=g+3:=⟨f - 3,(Nat.sub_add_cancel (ae (ae (by decide) (bU 8 _)) hf)).symm⟩;have hg:rs.length+1+5<=g:=by rw[eg]at hf;exact Nat.le_of_add_le_add_right (show rs.length+1+5+3<=g+3 from hf)
  obtain⟨e1,e2⟩:=gS hx;have hg5:ts.length<=g:=ht▸ae (a7 hj5) (ae (bU 5 _) hg);have hb:Nat.ble (ts.map jr).length dn=true:=by rw[aq,ht];exact jh (a7 hj5) qH
  have turn:gE O1 (fu (g+3)) 19 (.nm 120) nwB 3 nwC kk (.int r) (nwH xs (ts.map jr) m (j+1) j [])=(fns O1 (fu (g+1))).loop 19 nwT (4+j) nwI nwC (nwH xs (ts.map jr) (nwM r) (j+1) j [.iter (.list 2 0)]) (nwK g kk)\/
   ∃a b,gE O1 (fu (g+3)) 19 (.nm 120) nwB 3 nwC kk (.int r) (nwH xs (ts.map jr) m (j+1) j [])=(fns O1 (fu (g+1))).loop 19 nwT (4+j) nwI nwC (nwH xs (ts.map jr) (nwN r a b) (j+1) j [.iter (.list 2 0)]) (nwK g kk):=by
   rcases hm with e | ⟨r',e | ⟨a,b,e⟩⟩
   ·rw[e];exact .inl (zM j hj5)
   ·rw[e];exact .inl (yT j hj5)
   ·rw[e];exact .inr ⟨a,b,CN j hj5⟩
  have inner:∃U1,nwR (jy ts r) U1/\gE O1 (fu (g+3)) 19 (.nm 120) nwB 3 nwC kk (.int r) (nwH xs (ts.map jr) m (j+1) j [])=nwK g kk .next (nwH xs (ts.map jr) U1 (j+1) j [.dead]):=by
   rcases turn with e | ⟨a,b,e⟩
   ·obtain⟨U1,h1,h2⟩:=qX (xs:=xs) (ts:=ts.map jr) (i:=j+1) (kk:=nwK g kk) hj5 (ps:=ts) (k:=0) (.inl rfl) rfl hg5
    exact⟨U1,h1,e.trans h2⟩
   ·obtain⟨U1,h1,h2⟩:=qX (xs:=xs) (ts:=ts.map jr) (i:=j+1) (kk:=nwK g kk) hj5 (ps:=ts) (k:=0) (.inr ⟨a,b,rfl⟩) rfl hg5
    exact⟨U1,h1,e.trans h2⟩
  refine dm inner λU1 h1 h2=>?_;have app:nwK g kk .next (nwH xs (ts.map jr) U1 (j+1) j [.dead])=(fns O1 (fu (g+3))).loop 19 (.nm 120) 3 nwB nwC (nwH xs ((ts++[(Builtin.bitAnd (jy ts r) (-jy ts r),jy ts r)]).map jr) U1 (j+1) (j+1) []) kk:=by
   rw[bh];rcases h1 with e | ⟨a,b,e⟩
   ·rw[e,HD j hj5,hb];rfl
   ·rw[e,DK j hj5,hb];rfl
  obtain⟨m',ih⟩:=xf (ts:=ts++[(Builtin.bitAnd (jy ts r) (-jy ts r),jy ts r)]) (m:=U1) (f:=g+2) (.inr ⟨_,h1⟩) e2 (by rw[az,ht];rfl) (hl▸hj) (aW (by rw[bV]at hg;exact bE (cE hg 2)));refine⟨m',?_⟩;rw[vD,a0,hl,eg,F4 j (bc hj5),e1,jN,h2,app];exact ih
end
noncomputable def stp(O:Orc)(k:Nat)(F:Fns):Fns:=Nat.rec F (λ_=>step O) k
theorem fus{O:Orc}{g:Nat}:∀k,fns O (fu (g+k))=stp O k (fns O (fu g))
 |0=>rfl
 |k+1=>aB (step O) (fus k)
noncomputable def Fns.wl(F:Fns)(L:Nat->PE->Nat->PE->IE->TH->(AF->TH->R)->R):Fns:={ F with loop:=L}
noncomputable def Fns.wc(F:Fns)(C:Nat->Bool->PE->PE->Nat->Nat->IE->TH->(TH->R)->R):Fns:={ F with comp:=C}
theorem GG{F:Fns}:F.wl F.loop=F:=rfl
theorem Gb{F:Fns}:F.wc F.comp=F:=rfl
noncomputable def nwQ(kr:AV->TH->R)(F:Fns)(f:AF)(H:TH):R:=AF.casesOn f ((step O1 F).exs 19 (tlP (tlP fC.body)) nwC H λf H=>kr (gp f) H) (kr .none H) (kr .none H) λv=>kr v H
noncomputable def nwP:PE:=Mu (rhs (hdP (tlP (tlP fC.body))))
noncomputable def nwX(xs ts:List AV)(m:List (Nat×AV))(n:Nat)(o:AO)(acc:List AV)(w:List (Nat×AV)):TH:=mkT ([.list xs,.ns ([(128,.ref 0),(129,.ref 2)]++m),.list ts,.dead]++(List.replicate n .dead++[o,.list acc,.ns w]))
noncomputable def nwG(kr:AV->TH->R)(n:Nat)(H:TH):R:=gNs H (6+n) λ_=>dY (gV 2 [.ref (5+n)] (st H (6+n) .dead)) kr
noncomputable def tG(p:Int×Int):AV:=.int (((p.1.toNat.log2+1:Nat):Int) - 1)
section
variable {xs ts acc ys:List AV} {r b:Int} {a k f g:Nat} {kk:TH->R} {kr:AV->TH->R} {m w:List (Nat×AV)} {u v:AV} {ps:List (Int×Int)}
theorem C0{F:Fns}{L:Nat->PE->Nat->PE->IE->TH->(AF->TH->R)->R}:(stp O1 4 ((stp O1 9 F).wl L)).call 20 (.st 290) [.ref 0] [] (mkT [.list xs]) kr=L 19 (.nm 120) 3 nwB nwC (nwH xs [] [] 0 0 []) (nwQ kr ((stp O1 9 F).wl L)):=by kernel_rfl
theorem Ds:(fns O1 (fu (g+13))).call 20 (.st 290) [.ref 0] [] (mkT [.list xs]) kr=(fns O1 (fu (g+9))).loop 19 (.nm 120) 3 nwB nwC (nwH xs [] [] 0 0 []) (nwQ kr (fns O1 (fu (g+9)))):=by
 rw[show fns O1 (fu (g+13))=stp O1 4 (fns O1 (fu (g+9))) from fus 4,fus 9];exact C0 (L:=(stp O1 9 (fns O1 (fu g))).loop)
theorem EL{F:Fns}{C:Nat->Bool->PE->PE->Nat->Nat->IE->TH->(TH->R)->R}:∀n,n<6->nwQ kr (stp O1 4 ((stp O1 9 F).wc C)) .next (st (nwH xs ts m n n []) 3 .dead)=C 19 false (lcE nwP) (lcG nwP) (4+n) (5+n) (eG nwC nwP (6+n)) (nwX xs ts m n (.iter (.list 2 0)) [] []) (nwG kr n):=
 lt6 (by kernel_rfl) (by kernel_rfl) (by kernel_rfl) (by kernel_rfl) (by kernel_rfl) (by kernel_rfl)
theorem Jp{n:Nat}(hn:n<6):nwQ kr (fns O1 (fu (g+13))) .next (st (nwH xs ts m n n []) 3 .dead)=(fns O1 (fu (g+9))).comp 19 false (lcE nwP) (lcG nwP) (4+n) (5+n) (eG nwC nwP (6+n)) (nwX xs ts m n (.iter (.list 2 0)) [] []) (nwG kr n):=by
 rw[show fns O1 (fu (g+13))=stp O1 4 (fns O1 (fu (g+9))) from fus 4,fus 9];exact EL (C:=(stp O1 9 (fns O1 (fu g))).comp) n hn
theorem Gw:∀n,n<6->(fns O1 (fu (g+1))).comp 19 false (lcE nwP) (lcG nwP) (4+n) (5+n) (eG nwC nwP (6+n)) (nwX xs ts m n (.iter (.list 2 k)) acc w) kk =
  ll (kk (nwX xs ts m n .dead acc w)) (λv=>jG O1 (fu g) 19 false nwP (4+n) (5+n) (eG nwC nwP (6+n)) kk v (nwX xs ts m n (.iter (.list 2 (k+1))) acc w)) ts[k]?:=
 lt6 (by kernel_rfl) (by kernel_rfl) (by kernel_rfl) (by kernel_rfl) (by kernel_rfl) (by kernel_rfl)
theorem EJ:∀n,n<6->jG O1 (fu g) 19 false nwP (4+n) (5+n) (eG nwC nwP (6+n)) kk (.tup [.int ((a+1:Nat):Int),.int b]) (nwX xs ts m n (.iter (.list 2 k)) acc []) =
  opt (ifO (Nat.ble acc.length dn) (some (nwX xs ts m n (.iter (.list 2 k)) (acc++[.int ((((a+1).log2+1:Nat):Int) - 1)]) [(130,.int ((a+1:Nat):Int)),(120,.int b)]))) λH=>(fns O1 (fu g)).comp 19 false (lcE nwP) (lcG nwP) (4+n) (5+n) (eG nwC nwP (6+n)) H kk:=lt6 (by kernel_rfl) (by kernel_rfl) (by kernel_rfl) (by kernel_rfl) (by kernel_rfl) (by kernel_rfl)
theorem Bu:∀n,n<6->jG O1 (fu g) 19 false nwP (4+n) (5+n) (eG nwC nwP (6+n)) kk (.tup [.int ((a+1:Nat):Int),.int b]) (nwX xs ts m n (.iter (.list 2 k)) acc [(130,u),(120,v)]) =
  opt (ifO (Nat.ble acc.length dn) (some (nwX xs ts m n (.iter (.list 2 k)) (acc++[.int ((((a+1).log2+1:Nat):Int) - 1)]) [(130,.int ((a+1:Nat):Int)),(120,.int b)]))) λH=>(fns O1 (fu g)).comp 19 false (lcE nwP) (lcG nwP) (4+n) (5+n) (eG nwC nwP (6+n)) H kk:=lt6 (by kernel_rfl) (by kernel_rfl) (by kernel_rfl) (by kernel_rfl) (by kernel_rfl) (by kernel_rfl)
theorem JV:∀n,n<6->nwG kr n (nwX xs ts m n .dead acc w)=dY (opt (mX acc) λys=>new (st (nwX xs ts m n .dead acc w) (6+n) .dead) (.list ys)) kr:=lt6 (by kernel_rfl) (by kernel_rfl) (by kernel_rfl) (by kernel_rfl) (by kernel_rfl) (by kernel_rfl)
theorem JG:∀n,n<6->pB 1 (7+n) (dY (opt (some ys) λys=>new (st (nwX xs ts m n .dead acc w) (6+n) .dead) (.list ys)) fin)=some (.ret (.ref (7+n)),some (.list ys),[some (.list xs)]):=lt6 (by kernel_rfl) (by kernel_rfl) (by kernel_rfl) (by kernel_rfl) (by kernel_rfl) (by kernel_rfl)
theorem wS{n:Nat}(hn:n<6):∀{ps:List (Int×Int)} {k:Nat} {acc:List AV} {w:List (Nat×AV)} {g:Nat},(w=[]\/∃u v,w=[(130,u),(120,v)])->ts.drop k=ps.map jr->(∀p∈ps,∃a:Nat,p.1=((a+1:Nat):Int))->acc.length+ps.length<=5->ps.length<=g->
  ∃w',(fns O1 (fu (g+1))).comp 19 false (lcE nwP) (lcG nwP) (4+n) (5+n) (eG nwC nwP (6+n)) (nwX xs ts m n (.iter (.list 2 k)) acc w) kk=kk (nwX xs ts m n .dead (acc++ps.map tG) w')
 | [],k,acc,w,g,hw,hx,hp,hl,hg=>⟨w,by rw[Gw n hn,fE hx,jW,List.map_nil,aU]⟩
 |p::ps,k,acc,w,0,hw,hx,hp,hl,hg=>absurd hg (bH _)
 |p::ps,k,acc,w,g+1,hw,hx,hp,hl,hg=>by
  obtain⟨e1,e2⟩:=gS hx;obtain⟨a,ha⟩:=hp p (.head _);have hb:Nat.ble acc.length dn=true:=jh (ae (aK _ _) hl) qH;obtain⟨w',h2⟩:=wS hn (acc:=acc++[tG p]) (w:=[(130,.int p.1),(120,.int p.2)]) (g:=g) (.inr ⟨_,_,rfl⟩) e2 (λq hq=>hp q (.tail _ hq)) (by rw[az,bf,bw [tG p].length];exact hl) (aW hg);refine⟨w',?_⟩;rw[aM,List.append_cons,<-h2,Gw n hn,e1,jN,jr,tG,ha];rcases hw with e | ⟨u,v,e⟩
  ·rw[e];refine Eq.trans (EJ n hn) ?_;rw[hb];rfl
  ·rw[e];refine Eq.trans (Bu n hn) ?_;rw[hb];rfl
theorem nX:∀{rs:List Int} {ts:List (Int×Int)},(jK rs ts).length=rs.length+ts.length
 | [],ts=>by rw[C7,cG,aY]
 |r::rs,ts=>by rw[vD,nX,az,a0];exact(bf _ _ 1).symm.trans (bV _ _ 1)
theorem BX{rs:List Int}(hl:rs.length<=5)(hp:∀p∈jK rs [],∃a:Nat,p.1=((a+1:Nat):Int))(hs:mX ((jK rs []).map tG)=some ys):
  pB 1 (7+rs.length) ((fns O1 (fu 25)).call 20 (.st 290) [.ref 0] [] (mkT [.list (rs.map .int)]) fin)=some (.ret (.ref (7+rs.length)),some (.list ys),[some (.list (rs.map .int))]):=by
 obtain⟨m,h1⟩:=xf (xs:=rs.map .int) (kk:=nwQ fin (fns O1 (fu (12+9)))) (rs:=rs) (ts:=[]) (j:=0) (m:=[]) (f:=20) (.inl rfl) rfl rfl hl (ae (cE hl 8) (by decide));have hn:rs.length<6:=Nat.lt_succ_of_le hl;obtain⟨w,h2⟩:=wS (xs:=rs.map .int) (ts:=(jK rs []).map jr) (m:=m) (kk:=nwG fin rs.length) hn (ps:=jK rs []) (k:=0) (acc:=[]) (w:=[]) (g:=16) (.inl rfl) rfl hp (by rw[nX];exact ae (aL (aY _)) hl) (by rw[nX];exact ae hl (by decide));have c1:=Ds (xs:=rs.map .int) (kr:=fin) (g:=12);have c2:=Jp (xs:=rs.map .int) (ts:=(jK rs []).map jr) (m:=m) (kr:=fin) (g:=8) hn;rw[c1];refine Eq.trans (aB _ (h1.trans (c2.trans h2))) ?_;rw[JV _ hn,List.nil_append,hs,JG _ hn]
end
theorem kZ{P:Nat->Prop}(a:P 0)(b:P 1)(c:P 2)(d:P 3)(e:P 4)(f:P 5)(g:P 6)(h:P 7)(i:P 8)(j:P 9)(k:P 10)(l:P 11)(m:P 12)(n:P 13)(o:P 14)(p:P 15):∀x,x<16->P x:=
 λx hx=>j4 (M:=λx _=>P x) (l:=(List.range 16).map λx=>(x,())) (v:=()) (by
  have:(List.range 16).all (λx=>(lk x ((List.range 16).map λx=>(x,()))).isSome)=true:=by decide +kernel
  have:=aA.mp this x (aT.mpr hx);cases q:lk x ((List.range 16).map λx=>(x,())) with
  |none=>rw[q]at this;exact fT this
  |some u=>rfl) (fc a (fc b (fc c (fc d (fc e (fc f (fc g (fc h (fc i (fc j (fc k (fc l (fc m (fc n (fc o (fc p fn))))))))))))))))
noncomputable def gR:List AO:=[.tab 0,.tab 1,.tab 2]
noncomputable def vj{β:Type}(H:TH)(k:Option β):Option β:=zp H 0 λa=>zp H 1 λb=>zp H 2 λc=>ifO (Nat.beq a 0&&Nat.beq b 1&&Nat.beq c 2) k
section
variable {β:Type} {z:β} {P:Prop} {H:TH} {k:Option β}
theorem qd(h:vj H k=some z)(w:H.L[0]? = some (.tab 0)->H.L[1]? = some (.tab 1)->H.L[2]? = some (.tab 2)->k=some z->P):P:=
 w6 h λa ha h=>w6 h λb hb h=>w6 h λc hc h=>ifE h λq h=>by
  obtain⟨q1,q2⟩:=aa q;obtain⟨q1,q3⟩:=aa q1;rw[nb q1]at ha;rw[nb q3]at hb;rw[nb q2]at hc;exact w (dA ha) (dA hb) (dA hc) h
theorem iu{HL T:List AO}{is:List Nat}(p:fO HL is T)(h0:HL[0]? = some (.tab 0))(h1:HL[1]? = some (.tab 1))(h2:HL[2]? = some (.tab 2))(hn:is.all (Nat.ble 3)=true):fO HL (0::1::2::is) (.tab 0 :: .tab 1 :: .tab 2::T):=by
 have no:∀j,j<3->j ∉ is:=λj hj h=>absurd (leb (aA.mp hn j h)) (Nat.not_le.mpr hj);refine .cons (.cons (.cons p h2 rfl trivial (no 2 (by decide))) h1 rfl trivial λh=>?_) h0 rfl trivial λh=>?_
 ·exact(aH.mp h).elim (λe=>absurd e (by decide)) (no 1 (by decide))
 ·exact(aH.mp h).elim (λe=>absurd e (by decide)) λh=>(aH.mp h).elim (λe=>absurd e (by decide)) (no 0 (by decide))
end
noncomputable def LY(f:Nat):Nat->List AV:=Nat.rec (motive:=λ_=>Nat->List AV) (λ_=>[]) (λ_ ih n=>ifB (Nat.beq n 0) [] (.int (Nat.mod n 2:Nat)::ih (Nat.div n 2))) f
noncomputable def dg(n:Nat):List AV:=LY 4 n
theorem JE:∀n:Nat,n<16->pB 3 8 ((fns eY (fu 20)).call 10 (.st 122) [.int (n:Int),.int 1] [] (mkT gR) fin)=some (.ret (.ref 8),some (.list (dg n)),gR.map some):=
 kZ (by kernel_rfl) (by kernel_rfl) (by kernel_rfl) (by kernel_rfl) (by kernel_rfl) (by kernel_rfl) (by kernel_rfl) (by kernel_rfl) (by kernel_rfl) (by kernel_rfl) (by kernel_rfl) (by kernel_rfl) (by kernel_rfl) (by kernel_rfl) (by kernel_rfl) (by kernel_rfl)
noncomputable def kN(i:Int):Bool:=decide (0<=i)&&decide (i<16)
noncomputable def Mc:OFn:=λargs H k=>l2 args λa b=>eh a λi=>eh b λj=>ifO (decide (j=1)&&kN i) (vj H (dY (new H (.list (dg i.toNat))) k))
noncomputable def gY(n:Nat):Nat:=(lk n [(0,1),(1,3),(2,5),(3,15),(4,17),(5,51),(6,85),(7,255),(8,257),(9,771),(10,1285),(11,3855),(12,4369),(13,13107),(14,21845)]).getD 65535
theorem Fx:∀n:Nat,n<16->g0 3 ((fns eY (fu 40)).call 17 (.st 278) [.int (n:Int)] [] (mkT gR) fin)=some (.ret (.int (gY n:Nat)),gR.map some):=
 kZ (by kernel_rfl) (by kernel_rfl) (by kernel_rfl) (by kernel_rfl) (by kernel_rfl) (by kernel_rfl) (by kernel_rfl) (by kernel_rfl) (by kernel_rfl) (by kernel_rfl) (by kernel_rfl) (by kernel_rfl) (by kernel_rfl) (by kernel_rfl) (by kernel_rfl) (by kernel_rfl)
noncomputable def Mg:OFn:=λargs H k=>l1 args λa=>eh a λi=>ifO (kN i) (vj H (k (.int (gY i.toNat:Nat)) H))
noncomputable def loC(k:Nat):List Nat:=ifB (Nat.ble 2 k) [1001] []++ifB (Nat.beq (Nat.mod k 2) 1) [1000] []++[95]
noncomputable def upC(k:Nat):List Nat:=ifB (Nat.ble 2 k) [1003] []++ifB (Nat.beq (Nat.mod k 2) 1) [1002] []++[95]
noncomputable def twC(n:Nat):List Nat:=[123]++upC (Nat.div n 4)++[125]++loC (Nat.mod n 4)
noncomputable def lW:List AV:=[.strb [1000],.strb [1001],.strb [1002],.strb [1003]]
theorem zi:∀n:Nat,n<16->g0 4 ((fns eY (fu 40)).call 17 (.st 285) [.int (gY n:Nat),.ref 3] [] (mkT (gR++[.list lW])) fin)=some (.ret (.str (twC n)),(gR++[AO.list lW]).map some):=
 kZ (by kernel_rfl) (by kernel_rfl) (by kernel_rfl) (by kernel_rfl) (by kernel_rfl) (by kernel_rfl) (by kernel_rfl) (by kernel_rfl) (by kernel_rfl) (by kernel_rfl) (by kernel_rfl) (by kernel_rfl) (by kernel_rfl) (by kernel_rfl) (by kernel_rfl) (by kernel_rfl)
section
variable {cx:Cx} {K:Frag} {d i n:Nat} {j:Int} {xs:List AV} {rs:List Int}
theorem lE(h:kN j=true):∃n:Nat,n<16/\j=(n:Int):=
 ⟨j.toNat,(Int.toNat_lt (dec (aa h).1)).mpr (dec (aa h).2),(Int.toNat_of_nonneg (dec (aa h).1)).symm⟩
theorem Bi(h:xs.all isI=true):∀x∈xs,x.wf n:=λx hx=>by obtain⟨j,e⟩:=oe (aA.mp h x hx);rw[e];trivial
theorem HC:∀n:Nat,n<16->(dg n).all isI=true:=kZ rfl rfl rfl rfl rfl rfl rfl rfl rfl rfl rfl rfl rfl rfl rfl rfl
theorem E0:FOk K 10 122 Mc:=⟨_,rfl,λcx X d args H k z P hd h w=>l2E h λa b e h=>dM h λi e1 h=>dM h λj e2 h=>ifE h λq h=>qd h λt0 t1 t2 h=>gx h λv H' hn h=>kI hn λev eH=>w v H' (by
 refine dm (lE (aa q).2) λn hn en=>?_;rw[e,e1,e2,dec (aa q).1,ev,eH,en];exact(kh (fw K) X (iu lZ t0 t1 t2 rfl) rfl (JE n hn) (fc trivial (fc trivial fn)) rfl rfl (Bi (HC n hn))).mono hd) h⟩
theorem DF:FOk K 20 278 Mg:=⟨_,rfl,λcx X d args H k z P hd h w=>l1E h λa e h=>dM h λi e1 h=>ifE h λq h=>qd h λt0 t1 t2 h=>w _ H (by
 refine dm (lE q) λn hn en=>?_;rw[e,e1,en];exact(gI (fw K) X (iu lZ t0 t1 t2 rfl) rfl (Fx n hn) (fc trivial fn) trivial).mono (ae (by decide) hd)) h⟩
noncomputable def xa(w:Int):Option Nat:=ifO (decide (0<=w)) (lk w.toNat ((List.range 16).map λn=>(gY n,n)))
theorem yM:∀n:Nat,n<16->xa (gY n:Nat)=some n:=kZ rfl rfl rfl rfl rfl rfl rfl rfl rfl rfl rfl rfl rfl rfl rfl rfl
theorem Cr(h:xa j=some n):n<16/\j=(gY n:Nat):=ifE h λq h=>by
 have:=gW h;refine dm (bx.mp this) λm hm e=>?_;have e1:=aB Prod.fst e;have e2:m=n:=aB Prod.snd e;rw[<-e2];exact⟨aT.mp hm,by rw[show gY m=j.toNat from e1];exact(Int.toNat_of_nonneg (dec q)).symm⟩
noncomputable def xg(xs:List AV):Option (List (List Nat)):=trv (λv=>tX v some) xs
theorem oa:∀{ys:List AV} {ks:List (List Nat)},xg ys=some ks->ys=ks.map AV.strb
 | [],ks,h=>so h λe=>e▸rfl
 |y::r,ks,h=>dq h λk h1 h=>dq h λq h2 h=>so h λe=>C8 h1 λl e1 h1=>so h1 λe2=>by rw[<-e,e1,e2,oa h2];rfl
noncomputable def MZ:List (List Nat):=[[1000],[1001],[1002],[1003]]
noncomputable def GW:OFn:=λargs H k=>l2 args λa b=>eh a λw=>eJ b λi=>dR H i λls=>ifO (Nat.ble 3 i&&decide (xg ls=some MZ)) (vj H (opt (xa w) λn=>k (.str (twC n)) H))
theorem zB:FOk K 20 285 GW:=⟨_,rfl,λcx X d args H k z P hd h w=>l2E h λa b e h=>dM h λj e1 h=>dP h λi e2 h=>dG h λls hl h=>ifE h λq h=>qd h λt0 t1 t2 h=>dq h λn hn h=>w _ H (by
 obtain⟨hn,en⟩:=Cr hn;have el:ls=lW:=oa (dec (aa q).2);rw[el]at hl;rw[e,e1,e2,en];have p:fO H.L [0,1,2,i] (gR++[.list lW]):=iu (lL (dA hl) rfl (fc trivial (fc trivial (fc trivial (fc trivial fn))))) t0 t1 t2 (by rw[List.all_cons,(aa q).1];rfl);exact(gI (args:=[.int (gY n:Nat),.ref 3]) (fw K) X p rfl (zi n hn) (fc trivial (fc (show 3<4 from aD 3) fn)) trivial).mono (ae (by decide) hd)) h⟩
noncomputable def Ha(p:Int×Int):Bool:=decide (1<=p.1)
noncomputable def tC:OFn:=λargs H k=>l1 args λa=>eJ a λi=>dR H i λxs=>opt (gl xs) λrs=>ifO (Nat.ble rs.length 5&&(jK rs []).all Ha) (opt (mX ((jK rs []).map tG)) λys=>ifO (ys.all isI) (dY (new H (.list ys)) k))
theorem EG{p:Int×Int}(h:Ha p=true):∃a:Nat,p.1=((a+1:Nat):Int):=Int.eq_succ_of_zero_lt (Int.lt_of_lt_of_le Int.zero_lt_one (dec h))
theorem Ca:FOk K 20 290 tC:=⟨_,rfl,λcx X d args H k z P hd h w=>l1E h λa e h=>dP h λi e1 h=>dG h λxs hx h=>dq h λrs hr h=>ifE h λq h=>dq h λys hs h=>ifE h λhw h=>gx h λv H' hn h=>kI hn λev eH=>w v H' (by
 rw[gU hr]at hx;rw[e,e1,ev,eH];exact(kh (args:=[.ref 0]) (GI K) X (lL (dA hx) rfl (ku rs)) rfl (BX (leb (aa q).1) (λp hp=>EG (aA.mp (aa q).2 p hp)) hs) (fc cJ fn) (a9 (ae (show 1<=7 by decide) (aK 7 _))) rfl (Bi hw)).mono hd) h⟩
end
section
set_option genSizeOf true
set_option genInjectivity true
set_option backward.match.sparseCases true
noncomputable def ew(n:Nat):Nat:=match n with
 |0=>1 | 1=>3 | 2=>5 | 3=>15 | 4=>17 | 5=>51 | 6=>85 | 7=>255 | 8=>257 | 9=>771 | 10=>1285 | 11=>3855 | 12=>4369 | 13=>13107 | 14=>21845 | _=>65535
noncomputable section
noncomputable def e8(x:Nat)(L:List Nat):Bool:=List.rec (motive:=λ_=>Bool) false (λy _ ih=>Bool.rec (motive:=λ_=>Bool) ih true (Nat.beq x y)) L
noncomputable def CW(f:Nat->Bool)(L:List Nat):Bool:=List.rec (motive:=λ_=>Bool) true (λy _ ih=>Bool.rec (motive:=λ_=>Bool) false ih (f y)) L
noncomputable def vi(m:Nat)(P L:List Nat):List Nat:=List.rec (motive:=λ_=>List Nat) [] (λy _ ih=>Bool.rec (motive:=λ_=>Nat) (Nat.land y m) y (e8 (Nat.land y m) P)::ih) L
noncomputable def eK(m:Nat)(L:List Nat):List Nat:=vi m L L
noncomputable def dv(L:List Nat):List Nat:=eK 14 (eK 13 (eK 11 (eK 7 L)))
noncomputable def tA(x:Nat):Nat:=Nat.sub x (Nat.land x (Nat.sub x 1))
noncomputable def hJ(x:Nat)(L:List Nat):Bool:=List.rec (motive:=λ_=>Bool) false (λy _ ih=>Bool.rec (motive:=λ_=>Bool) ih (Nat.beq (Nat.land x (Nat.pow 2 y)) (Nat.pow 2 y)) (Nat.beq (tA x) (Nat.pow 2 y))) L
noncomputable def okS(P:List Nat)(L:List Nat):Nat->Bool->Bool:=List.rec (motive:=λ_=>Nat->Bool->Bool)
 (λx b=>Bool.rec (motive:=λ_=>Bool) true (hJ x P) b)
 (λr _ ih x b=>Bool.rec (motive:=λ_=>Bool) false (ih (Nat.xor x (ew r)) true) (ih x b)) L
noncomputable def lb(k:Nat):Nat:=Nat.add (Nat.add (Nat.mod k 2) (Nat.mod (Nat.div k 2) 2)) (Nat.add (Nat.mod (Nat.div k 4) 2) (Nat.mod (Nat.div k 8) 2))
noncomputable def trs(k:Nat)(L:List Nat):List Nat->Nat->Bool:=List.rec (motive:=λ_=>List Nat->Nat->Bool)
 (λ_ c=>Nat.beq c (Nat.pow 2 (lb k)))
 (λn _ ih t c=>Bool.rec (motive:=λ_=>Bool) (ih (Nat.land k n::t) (Nat.succ c)) (ih t c) (e8 (Nat.land k n) t)) L
noncomputable def fL(L:List Nat):Nat:=List.rec (motive:=λ_=>Nat) 0 (λy _ ih=>Nat.lor (Nat.pow 2 y) ih) L
noncomputable def zO:List Nat:=[0,1,3,5,7,15,17,19,21,23,31,51,55,85,87,257,259,261,263,271,273,275,277,279,307,341,771,775,787,1285,1287,1301,4369,4371,4373]
noncomputable def sU(F P:List Nat):Bool:=Bool.rec (motive:=λ_=>Bool) false (Bool.rec (motive:=λ_=>Bool) false (e8 (fL P) zO) (CW (λk=>trs k F [] 0) P)) (okS P F 0 false)
noncomputable def chk(L:List Nat):Nat->List Nat->Bool:=List.rec (motive:=λ_=>Nat->List Nat->Bool)
 (λ_ acc=>sU acc (dv acc))
 (λx _ ih c acc=>Nat.rec (motive:=λ_=>Bool) (sU acc (dv acc)) (λc _=>Bool.rec (motive:=λ_=>Bool) false (ih (Nat.succ c) acc) (ih c (x::acc))) c) L
end
theorem iE{a:Bool}:(Bool.rec (motive:=λ_=>Bool) false a b:Bool)=(b&&a):=by cases b<;>rfl
theorem wG{a:Bool}:(Bool.rec (motive:=λ_=>Bool) a true b:Bool)=(b || a):=by cases b<;>rfl
theorem eu{x:Nat}:∀{L:List Nat},e8 x L=true↔x∈L
 | []=>by simp[e8]
 |y::r=>by
  show(Bool.rec (motive:=λ_=>Bool) (e8 x r) true (Nat.beq x y):Bool)=true↔_;rw[wG,Bool.or_eq_true,aH,eu];constructor
  ·rintro (h | h)
   ·exact .inl (bR h)
   ·exact .inr h
  ·rintro (h | h)
   ·exact .inl (by rw[h];exact Nat.beq_refl y)
   ·exact .inr h
theorem uA{f:Nat->Bool}:∀{L:List Nat},CW f L=true↔∀x∈L,f x=true
 | []=>by simp[CW]
 |y::r=>by
  show(Bool.rec (motive:=λ_=>Bool) false (CW f r) (f y):Bool)=true↔_;rw[iE,bF,uA];simp
theorem ot(m:Nat)(P:List Nat):∀L:List Nat,vi m P L=L.map λy=>if (y &&& m)∈P then y else y &&& m
 | []=>rfl
 |y::r=>by
  show(Bool.rec (motive:=λ_=>Nat) (Nat.land y m) y (e8 (Nat.land y m) P)::vi m P r)=_;rw[ot m P r,aM];congr 1
  by_cases h:(y &&& m)∈P
  ·rw[aI h,show e8 (Nat.land y m) P=true from eu.mpr h]
  ·rw[aF h]
   have:e8 (Nat.land y m) P=false:=by
    cases q:e8 (Nat.land y m) P with
    |false=>rfl
    |true=>exact absurd (eu.mp q) h
   rw[this];rfl
theorem mG(m:Nat)(L:List Nat):eK m L=L.map λy=>if (y &&& m)∈L then y else y &&& m:=ot m L L
theorem ji{m:Nat}{L F:List Nat}(h:L.Perm F):(eK m L).Perm (eK m F):=by
 rw[mG,mG];have:(λy=>if (y &&& m)∈L then y else y &&& m)=λy=>if (y &&& m)∈F then y else y &&& m:=by
  funext y;simp only[h.mem_iff]
 rw[this];exact h.map _
theorem kJ{L F:List Nat}(h:L.Perm F):(dv L).Perm (dv F):=ji (ji (ji (ji h)))
noncomputable def Sp:List Nat->Nat->Prop
 | [],x=>x=0
 |n::L,x=>Sp L x\/Sp L (x ^^^ ew n)
noncomputable def Nz:List Nat->Nat->Prop
 | [],_=>False
 |n::L,x=>Nz L x\/Sp L (x ^^^ ew n)
theorem Nz.sp:∀{L:List Nat} {x},Nz L x->Sp L x
 | [],x,h=>h.elim
 |n::L,x,h=>h.elim (λh=>.inl h.sp) .inr
theorem xx(a b:Nat):a ^^^ b ^^^ b=a:=by rw[b7,Nat.xor_self,Nat.xor_zero]
theorem Sp.zero:∀L:List Nat,Sp L 0
 | []=>rfl
 |n::L=>.inl (Sp.zero L)
theorem Sp.add:∀{L:List Nat} {x y:Nat},Sp L x->Sp L y->Sp L (x ^^^ y)
 | [],x,y,h1,h2=>by show x ^^^ y=0;rw[show x=0 from h1,show y=0 from h2];rfl
 |n::L,x,y,h1,h2=>by
  rcases h1 with h1 | h1<;>rcases h2 with h2 | h2
  ·exact .inl (h1.add h2)
  ·right;have:=h1.add h2;rw[<-b7]at this;exact this
  ·right;have:=h1.add h2;rw[b7,Nat.xor_comm (ew n) y,<-b7]at this;exact this
  ·left
   have:=h1.add h2;rw[b7,Nat.xor_comm y,<-b7 (ew n),Nat.xor_self,Nat.zero_xor]at this;exact this
theorem EZ{L F:List Nat}(h:L.Perm F):∀x,Sp L x↔Sp F x:=by
 induction h with
 |nil=>exact λx=>Iff.rfl
 |cons a _ ih=>exact λx=>or_congr (ih _) (ih _)
 |swap a b l=>
  intro x;show((Sp l x\/Sp l (x ^^^ ew a))\/Sp l (x ^^^ ew b)\/Sp l (x ^^^ ew b ^^^ ew a))↔((Sp l x\/Sp l (x ^^^ ew b))\/Sp l (x ^^^ ew a)\/Sp l (x ^^^ ew a ^^^ ew b));rw[show x ^^^ ew b ^^^ ew a=x ^^^ ew a ^^^ ew b by rw[b7,Nat.xor_comm (ew b),<-b7]];constructor<;>(rintro ((h | h) | h | h)<;>simp[h])
 |trans _ _ i1 i2=>exact λx=>(i1 x).trans (i2 x)
theorem lI{L F:List Nat}(h:L.Perm F):∀x,Nz L x↔Nz F x:=by
 induction h with
 |nil=>exact λx=>Iff.rfl
 |cons a h ih=>exact λx=>or_congr (ih _) (EZ h _)
 |swap a b l=>
  intro x;show((Nz l x\/Sp l (x ^^^ ew a))\/Sp l (x ^^^ ew b)\/Sp l (x ^^^ ew b ^^^ ew a))↔((Nz l x\/Sp l (x ^^^ ew b))\/Sp l (x ^^^ ew a)\/Sp l (x ^^^ ew a ^^^ ew b));rw[show x ^^^ ew b ^^^ ew a=x ^^^ ew a ^^^ ew b by rw[b7,Nat.xor_comm (ew b),<-b7]];constructor<;>(rintro ((h | h) | h | h)<;>simp[h])
 |trans _ _ i1 i2=>exact λx=>(i1 x).trans (i2 x)
theorem iM{x:Nat}:∀{P:List Nat},hJ x P=true->∃k,k∈P/\tA x=2 ^ k/\x &&& 2 ^ k=2 ^ k
 | [],h=>by cases h
 |y::r,h=>by
  have h:(Bool.rec (motive:=λ_=>Bool) (hJ x r) (Nat.beq (Nat.land x (Nat.pow 2 y)) (Nat.pow 2 y)) (Nat.beq (tA x) (Nat.pow 2 y)):Bool)=true:=h;cases q:Nat.beq (tA x) (Nat.pow 2 y) with
  |false=>
   rw[q]at h;obtain⟨k,h1,h2⟩:=iM h;exact⟨k,.tail _ h1,h2⟩
  |true=>
   rw[q]at h;exact⟨y,.head _,bR q,bR h⟩
theorem vl{P:List Nat}:∀{L:List Nat} {y:Nat} {b:Bool},okS P L y b=true->(∀x,Nz L x->hJ (y ^^^ x) P=true)/\(b=true->∀x,Sp L x->hJ (y ^^^ x) P=true)
 | [],y,b,h=>by
  refine⟨λx hx=>hx.elim,λhb x hx=>?_⟩;subst hb;rw[show x=0 from hx,Nat.xor_zero];exact h
 |r::L,y,b,h=>by
  have h:(Bool.rec (motive:=λ_=>Bool) false (okS P L (Nat.xor y (ew r)) true) (okS P L y b):Bool)=true:=h;rw[iE,bF]at h;obtain⟨h1,h2⟩:=h;have i1:=vl h1;have i2:=vl h2;have key:∀x,Sp L (x ^^^ ew r)->hJ (y ^^^ x) P=true:=λx hx=>by
   have:=i2.2 rfl _ hx;have e:Nat.xor y (ew r) ^^^ (x ^^^ ew r)=y ^^^ x:=by
    show y ^^^ ew r ^^^ (x ^^^ ew r)=_;rw[Nat.xor_comm x,<-b7,xx]
   rw[e]at this;exact this
  refine⟨λx hx=>hx.elim (i1.1 x) (key x),λhb x hx=>hx.elim (i1.2 hb x) (key x)⟩
theorem ux{F P:List Nat}(h:sU F P=true):(∀x,Nz F x->hJ x P=true)/\(∀k∈P,trs k F [] 0=true)/\fL P∈zO:=by
 have h:(Bool.rec (motive:=λ_=>Bool) false (Bool.rec (motive:=λ_=>Bool) false (e8 (fL P) zO) (CW (λk=>trs k F [] 0) P)) (okS P F 0 false):Bool)=true:=h;rw[iE,iE,bF,bF]at h;obtain⟨h1,h2,h3⟩:=h;refine⟨λx hx=>?_,uA.mp h2,eu.mp h3⟩;have:=(vl h1).1 x hx;rw[Nat.zero_xor]at this;exact this
theorem uI:∀{R:List Nat} {c:Nat} {acc:List Nat},chk R c acc=true->∀S:List Nat,S.Sublist R->S.length<=c->sU (S.reverse++acc) (dv (S.reverse++acc))=true
 | [],c,acc,h,S,hs,hl=>by
  cases hs;exact h
 |x::r,0,acc,h,S,hs,hl=>by
  have:S=[]:=List.length_eq_zero_iff.mp (Nat.le_zero.mp hl);subst this;exact h
 |x::r,c+1,acc,h,S,hs,hl=>by
  have h:(Bool.rec (motive:=λ_=>Bool) false (chk r (Nat.succ c) acc) (chk r c (x::acc)):Bool)=true:=h;rw[iE,bF]at h;cases hs with
  |cons _ hs=>exact uI h.2 S hs hl
  |cons_cons _ hs=>
   rename_i S';have:=uI h.1 S' hs (by simpa using hl);rw[cK,aZ];exact this
end
section
set_option genSizeOf true
set_option genInjectivity true
set_option backward.match.sparseCases true
noncomputable def fW(t:List (Nat×Nat))(x:Nat):Nat:=t.foldl (λr p=>if r &&& p.1≠0 then r ^^^ p.2 else r) x
noncomputable def jP(t:List (Nat×Nat))(x:Nat):List (Nat×Nat):=t++[(tA (fW t x),fW t x)]
noncomputable def n8(L:List Nat):List (Nat×Nat):=L.foldl (λt n=>jP t (ew n)) []
theorem kn{M:List Nat}:∀{t:List (Nat×Nat)} {x:Nat},(∀p∈t,Sp M p.2)->Sp M (fW t x ^^^ x)
 | [],x,h=>by show Sp M (x ^^^ x);rw[Nat.xor_self];exact Sp.zero M
 |p::t,x,h=>by
  show Sp M (fW t (if x &&& p.1≠0 then x ^^^ p.2 else x) ^^^ x);have ht:=λq hq=>h q (.tail _ hq)
  by_cases c:x &&& p.1≠0
  ·rw[aI c]
   have h1:=kn (x:=x ^^^ p.2) ht;have h2:=h1.add (h p (.head _));rw[<-b7,xx]at h2;exact h2
  ·rw[aF c];exact kn ht
theorem Di(x k:Nat):x &&& 2 ^ k=if x.testBit k=true then 2 ^ k else 0:=by
 refine Nat.eq_of_testBit_eq λi=>?_;rw[Nat.testBit_and,Nat.testBit_two_pow]
 by_cases h:k=i
 ·subst h
  cases q:x.testBit k<;>simp
 ·cases q:x.testBit k<;>simp[h,Nat.testBit_two_pow]
theorem n6:∀{t:List (Nat×Nat)} {x:Nat},(∀p∈t,∃k,p.1=2 ^ k/\p.2 &&& p.1=p.1)->t.Pairwise (λp q=>q.2 &&& p.1=0)->∀p∈t,fW t x &&& p.1=0
 |q::t,x,hb,hp,p,hm=>by
  rw[List.pairwise_cons]at hp;show fW t (if x &&& q.1≠0 then x ^^^ q.2 else x) &&& p.1=0;rcases aH.mp hm with rfl | hm
  ·have keep:∀{t:List (Nat×Nat)} {y:Nat},(∀r∈t,r.2 &&& p.1=0)->y &&& p.1=0->fW t y &&& p.1=0:=by
    intro t
    induction t with
    |nil=>exact λ_ h=>h
    |cons r t ih=>
     intro y h1 h2;refine ih (λs hs=>h1 s (.tail _ hs)) ?_;dsimp only
     split
     ·rw[Nat.and_xor_distrib_right,h1 r (.head _),h2];rfl
     ·exact h2
   refine keep hp.1 ?_;refine dm (hb p (.head _)) λk e1 e2=>?_
   split
   ·rename_i c
    rw[Nat.and_xor_distrib_right,e2];have:x &&& p.1=p.1:=by
     rw[e1]at c ⊢;rw[Di]at c ⊢;cases q:x.testBit k with
     |false=>rw[q]at c;simp at c
     |true=>simp
    rw[this,Nat.xor_self]
   ·rename_i c
    exact Classical.not_not.mp c
  ·exact n6 (λr hr=>hb r (.tail _ hr)) hp.2 p hm
structure xJ (P M:List Nat) (t:List (Nat×Nat)):Prop where
 len:t.length=M.length
 nz:∀p∈t,Nz M p.2/\p.1=tA p.2
 nd:(t.map (·.1)).Nodup
 pw:t.Pairwise (λp q=>q.2 &&& p.1=0)
theorem tY{P M:List Nat}{t:List (Nat×Nat)}{n:Nat}(hP:∀x,Nz (n::M) x->hJ x P=true)(i:xJ P M t):xJ P (n::M) (jP t (ew n)):=by
 have hlow:∀p∈t,∃k,p.1=2 ^ k/\p.2 &&& p.1=p.1:=λp hp=>by
  obtain⟨h1,h2⟩:=i.nz p hp;refine dz (iM (hP _ (.inl h1))) λk _ e1 e2=>?_;exact⟨k,h2.trans e1,by rw[h2,e1];exact e2⟩
 have hr:=n6 (x:=ew n) hlow i.pw;have hnz:Nz (n::M) (fW t (ew n)):=.inr (kn λp hp=>(i.nz p hp).1.sp);refine dz (iM (hP _ hnz)) λk _ e1 e2=>?_;refine⟨by simp[jP,i.len],λp hp=>?_,?_,?_⟩
 ·rcases bS.mp hp with hp | hp
  ·exact⟨.inl (i.nz p hp).1,(i.nz p hp).2⟩
  ·simp at hp;subst hp;exact⟨hnz,rfl⟩
 ·unfold jP
  rw[bh,List.nodup_append];refine⟨i.nd,by simp,λa ha b hb=>?_⟩;simp at hb;refine dm (bx.mp ha) λp hp OA=>?_;subst OA;subst hb;intro e;have h1:=hr p hp;rw[e,e1,e2]at h1;exact absurd h1 (bl (Nat.two_pow_pos k))
 ·unfold jP
  rw[List.pairwise_append];refine⟨i.pw,by simp,λp hp q hq=>?_⟩;simp at hq;subst hq;exact hr p hp
theorem xe{P:List Nat}:∀(L M:List Nat) (t:List (Nat×Nat)),(∀x,Nz (L.reverse++M) x->hJ x P=true)->xJ P M t->xJ P (L.reverse++M) (L.foldl (λt n=>jP t (ew n)) t)
 | [],M,t,_,i=>i
 |n::L,M,t,hP,i=>by
  have e:(n::L).reverse++M=L.reverse++(n::M):=by simp
  rw[e]at hP ⊢;have sub:∀(A B:List Nat) x,Nz B x->Nz (A++B) x:=by
   intro A
   induction A with
   |nil=>exact λ_ _ h=>h
   |cons a A ih=>exact λB x h=>.inl (ih B x h)
  exact xe L (n::M) _ hP (tY (λx hx=>hP x (sub _ _ _ hx)) i)
noncomputable def oV(L:List Nat):List Nat:=(n8 L).map λp=>p.1.log2
theorem zR{L P:List Nat}(hP:∀x,Nz L x->hJ x P=true):xJ P L.reverse (n8 L):=by
 have:=xe (P:=P) L [] [] (λx hx=>hP x ((lI (dl L) x).mp (by rw[aU]at hx;exact hx))) ⟨rfl,λp hp=>(by cases hp),.nil,.nil⟩;rw[aU]at this;exact this
theorem vb{A B:List Nat}(hA:A.Nodup)(hB:B.Nodup)(hs:∀x∈A,x∈B)(hl:B.length<=A.length):A.Perm B:=by
 refine(c9 hA hB).mpr λx=>⟨hs x,λhx=>?_⟩;refine Classical.byContradiction λhn=>?_;have:=List.Nodup.length_le_of_subset (bu.mpr ⟨hn,hA⟩) (l₂:=B) λy hy=>by
  rcases aH.mp hy with rfl | hy
  ·exact hx
  ·exact hs y hy
 simp at this;omega
theorem yl{L P:List Nat}(hP:∀x,Nz L x->hJ x P=true)(hn:P.Nodup)(hl:P.length=L.length):(oV L).Perm P/\∀p∈n8 L,∃k,k∈P/\p.1=2 ^ k:=by
 have i:=zR hP;have low:∀p∈n8 L,∃k,k∈P/\p.1=2 ^ k:=λp hp=>by
  obtain⟨h1,h2⟩:=i.nz p hp;refine dz (iM (hP _ ((lI (dl L) _).mp h1))) λk hk e1 _=>?_;exact⟨k,hk,h2.trans e1⟩
 refine⟨vb ?_ hn (λx hx=>?_) ?_,low⟩
 ·unfold oV
  have h2:=i.nd;rw[List.nodup_iff_pairwise_ne,List.pairwise_map]at h2 ⊢;refine h2.imp_of_mem λ{p q} hp hq hne e=>hne ?_;refine dm (low p hp) λk _ e1=>?_;refine dm (low q hq) λj _ e2=>?_;rw[e1,e2,Nat.log2_two_pow,Nat.log2_two_pow]at e;rw[e1,e2,e]
 ·refine dm (bx.mp hx) λp hp OA=>?_;subst OA
  refine dm (low p hp) λk hk e=>?_;rw[e,Nat.log2_two_pow];exact hk
 ·unfold oV;rw[aq,i.len,cW,hl];exact ad _
noncomputable def trL(k:Nat)(L t:List Nat):List Nat:=L.foldl (λt n=>if (k &&& n)∈t then t else t++[k &&& n]) t
theorem qL{k:Nat}:∀{L t u:List Nat},(∀x,x∈t↔x∈u)->trs k L t u.length=true->(trL k L u).length=2 ^ lb k
 | [],t,u,_,h=>bR h
 |n::L,t,u,hm,h=>by
  have h:(Bool.rec (motive:=λ_=>Bool) (trs k L (Nat.land k n::t) (Nat.succ u.length)) (trs k L t u.length) (e8 (Nat.land k n) t):Bool)=true:=h;show(trL k L (if (k &&& n)∈u then u else u++[k &&& n])).length=_
  by_cases c:(k &&& n)∈u
  ·rw[aI c]
   have:e8 (Nat.land k n) t=true:=eu.mpr ((hm _).mpr c);rw[this]at h;exact qL hm h
  ·rw[aF c]
   have:e8 (Nat.land k n) t=false:=by
    cases q:e8 (Nat.land k n) t with
    |false=>rfl
    |true=>exact absurd ((hm _).mp (eu.mp q)) c
   rw[this]at h;refine qL (t:=Nat.land k n::t) (λx=>?_) (by rw[az];exact h);rw[aH,bS,br,hm x];exact Or.comm
theorem nB{k:Nat}:∀{L t:List Nat},t.Nodup->(trL k L t).Nodup/\∀x,x∈trL k L t↔x∈t\/∃n∈L,k &&& n=x
 | [],t,h=>⟨h,λx=>by simp[trL]⟩
 |n::L,t,h=>by
  show(trL k L (if (k &&& n)∈t then t else t++[k &&& n])).Nodup/\∀x,x∈trL k L (if (k &&& n)∈t then t else t++[k &&& n])↔_
  by_cases c:(k &&& n)∈t
  ·rw[aI c]
   obtain⟨h1,h2⟩:=nB (L:=L) h;refine⟨h1,λx=>(h2 x).trans ?_⟩;constructor
   ·rintro (h | ⟨m,hm,e⟩)
    ·exact .inl h
    ·exact .inr ⟨m,.tail _ hm,e⟩
   ·rintro (h | ⟨m,hm,e⟩)
    ·exact .inl h
    ·rcases aH.mp hm with rfl | hm
     ·exact .inl (e▸c)
     ·exact .inr ⟨m,hm,e⟩
  ·rw[aF c]
   have hn:(t++[k &&& n]).Nodup:=by
    rw[List.nodup_append];refine⟨h,by simp,λa ha b hb=>?_⟩;simp at hb;subst hb;exact λe=>c (e▸ha)
   obtain⟨h1,h2⟩:=nB (L:=L) hn;refine⟨h1,λx=>(h2 x).trans ?_⟩;rw[bS,br];constructor
   ·rintro ((h | h) | ⟨m,hm,e⟩)
    ·exact .inl h
    ·exact .inr ⟨n,.head _,h.symm⟩
    ·exact .inr ⟨m,.tail _ hm,e⟩
   ·rintro (h | ⟨m,hm,e⟩)
    ·exact .inl (.inl h)
    ·rcases aH.mp hm with rfl | hm
     ·exact .inl (.inr e.symm)
     ·exact .inr ⟨m,hm,e⟩
theorem zl{k:Nat}{L F:List Nat}(h:L.Perm F):(trL k L []).length=(trL k F []).length:=by
 obtain⟨a1,a2⟩:=nB (k:=k) (L:=L) (t:=[]) .nil;obtain⟨b1,b2⟩:=nB (k:=k) (L:=F) (t:=[]) .nil;refine((c9 a1 b1).mpr λx=>?_).length_eq;rw[a2,b2];simp only[h.mem_iff]
end
section
set_option genSizeOf true
set_option genInjectivity true
set_option backward.match.sparseCases true
theorem MC:chk [1,2,3,4,5,6,7,8,9,10,11,12,13,14,15] 4 [0]=true:=by decide +kernel
theorem Mp:chk [2,3,4,5,6,7,8,9,10,11,12,13,14,15] 4 [1]=true:=by decide +kernel
theorem LR:chk [3,4,5,6,7,8,9,10,11,12,13,14,15] 4 [2]=true:=by decide +kernel
theorem LZ:chk [4,5,6,7,8,9,10,11,12,13,14,15] 4 [3]=true:=by decide +kernel
theorem MA:chk [5,6,7,8,9,10,11,12,13,14,15] 4 [4]=true:=by decide +kernel
theorem Ls:chk [6,7,8,9,10,11,12,13,14,15] 4 [5]=true:=by decide +kernel
theorem My:chk [7,8,9,10,11,12,13,14,15] 4 [6]=true:=by decide +kernel
theorem Ll:chk [8,9,10,11,12,13,14,15] 4 [7]=true:=by decide +kernel
theorem KY:chk [9,10,11,12,13,14,15] 4 [8]=true:=by decide +kernel
theorem Ka:chk [10,11,12,13,14,15] 4 [9]=true:=by decide +kernel
theorem JP:chk [11,12,13,14,15] 4 [10]=true:=by decide +kernel
theorem Jh:chk [12,13,14,15] 4 [11]=true:=by decide +kernel
theorem Jk:chk [13,14,15] 4 [12]=true:=by decide +kernel
theorem JA:chk [14,15] 4 [13]=true:=by decide +kernel
theorem Hy:chk [15] 4 [14]=true:=by decide +kernel
theorem I1:chk [] 4 [15]=true:=by decide +kernel
theorem dU{x:Nat}{r acc:List Nat}{c:Nat}(h1:chk r c (x::acc)=true)(h2:chk r (c+1) acc=true):chk (x::r) (c+1) acc=true:=by
 show(Bool.rec (motive:=λ_=>Bool) false (chk r (Nat.succ c) acc) (chk r c (x::acc)):Bool)=true;rw[iE,h1];exact h2
theorem Eb:chk [] 5 []=true:=by decide +kernel
theorem Lj:chk [0,1,2,3,4,5,6,7,8,9,10,11,12,13,14,15] 5 []=true:=by
 refine dU MC (dU Mp (dU LR (dU LZ (dU MA (dU Ls (dU My (dU Ll (dU KY (dU Ka (dU JP (dU Jh (dU Jk (dU JA (dU Hy (dU I1 (Eb))))))))))))))))
structure Fam (L:List Nat):Prop where
 nd:L.Nodup
 lt:∀n∈L,n<16
 le:L.length<=5
theorem Fam.sorted{L:List Nat}(f:Fam L):∃F,L.Perm F/\sU F (dv F)=true:=by
 have hp:((List.range 16).filter λn=>decide (n∈L)).Perm L:=by
  refine(c9 (List.nodup_range.sublist List.filter_sublist) f.nd).mpr λx=>?_;rw[List.mem_filter,aT,aR];exact⟨λh=>h.2,λh=>⟨f.lt x h,h⟩⟩
 have:=uI (R:=List.range 16) Lj _ List.filter_sublist (by rw[hp.length_eq];exact f.le);rw[aU]at this;exact⟨_,(hp.symm.trans (dl _).symm),this⟩
theorem iP:∀(L:List Nat) (k:Nat),(fL L).testBit k=decide (k∈L)
 | [],k=>by show Nat.testBit 0 k=_;simp
 |y::r,k=>by
  show(Nat.lor (Nat.pow 2 y) (fL r)).testBit k=_;have:(2 ^ y ||| fL r).testBit k=_:=Nat.testBit_or _ _ _;refine this.trans ?_;rw[iP r k,Nat.testBit_two_pow]
  by_cases h:k=y
  ·subst h;simp
  ·have h':y≠k:=λe=>h e.symm
   simp[h,h']
theorem oY{L F:List Nat}(h:L.Perm F):fL L=fL F:=by
 refine Nat.eq_of_testBit_eq λk=>?_;rw[iP,iP];simp only[h.mem_iff]
theorem Gs(m:Nat)(hm:m=7\/m=11\/m=13\/m=14){a b:Nat}(ha:a<16)(hb:b<16)(h:a &&& m=b &&& m):a=b\/a &&& m=a\/b &&& m=b:=by
 have key:(List.range 16).all (λa=>(List.range 16).all λb=>[7,11,13,14].all λm=>!(a &&& m == b &&& m) || a == b || a &&& m == a || b &&& m == b)=true:=by decide +kernel
 have h1:=aA.mp key a (aT.mpr ha);have h2:=aA.mp h1 b (aT.mpr hb);have h3:=aA.mp h2 m (by simp;omega);simp[h]at h3;rcases h3 with (h3 | h3) | h3
 ·exact .inl h3
 ·exact .inr (.inl (h.trans h3))
 ·exact .inr (.inr h3)
theorem Nu(m a:Nat):a &&& m &&& m=a &&& m:=by rw[Nat.and_assoc,Nat.and_self]
noncomputable def fP(m:Nat)(P:List Nat)(y:Nat):Nat:=if (y &&& m)∈P then y else y &&& m
theorem CG{m:Nat}(hm:m=7\/m=11\/m=13\/m=14){P:List Nat}(h16:∀n∈P,n<16){a b:Nat}(ha:a∈P)(hb:b∈P)(h:fP m P a=fP m P b):a=b:=by
 unfold fP at h
 split at h<;>split at h
 ·exact h
 ·rename_i h1 h2;exact absurd (h▸ha) h2
 ·rename_i h1 h2;exact absurd (h▸hb) h1
 ·rename_i h1 h2
  rcases Gs m hm (h16 a ha) (h16 b hb) h with e | e | e
  ·exact e
  ·exact absurd (by rw[e];exact ha) h1
  ·exact absurd (by rw[e];exact hb) h2
theorem lR(m:Nat)(L:List Nat):eK m L=L.map (fP m L):=mG m L
theorem zc{a m:Nat}(h:a<16):a &&& m<16:=aJ Nat.and_le_left h
structure Fm (L:List Nat):Prop where
 nd:L.Nodup
 lt:∀n∈L,n<16
theorem jS{m:Nat}(hm:m=7\/m=11\/m=13\/m=14){L:List Nat}(f:Fm L):Fm (eK m L):=by
 rw[lR];refine⟨?_,λn hn=>?_⟩
 ·have h2:=f.nd
  rw[List.nodup_iff_pairwise_ne,List.pairwise_map]at *;exact h2.imp_of_mem λ{a b} ha hb hne e=>hne (CG hm f.lt ha hb e)
 ·refine dm (bx.mp hn) λy hy OA=>?_;subst OA
  unfold fP
  split
  ·exact f.lt y hy
  ·exact zc (f.lt y hy)
theorem mS{L:List Nat}(f:Fm L):Fm (dv L):=jS (by simp) (jS (by simp) (jS (by simp) (jS (by simp) f)))
theorem gO(L:List Nat):(dv L).length=L.length:=by simp[dv,lR]
noncomputable def fV(m:Nat)(P:List Nat)(k:Nat):List Nat:=if (P.getD k 0 &&& m)∈P then P else P.set k (P.getD k 0 &&& m)
theorem nf{m:Nat}(hm:m=7\/m=11\/m=13\/m=14){P:List Nat}(f:Fm P):∀i,i<=P.length->(List.range i).foldl (fV m) P=(P.map (fP m P)).take i++P.drop i
 |0,_=>by simp
 |i+1,hi=>by
  rw[List.range_succ,List.foldl_append,nf hm f i (Nat.le_of_succ_le hi)];have hlt:i<P.length:=hi;have hlen:((P.map (fP m P)).take i).length=i:=by rw[List.length_take,aq];exact Nat.min_eq_left (Nat.le_of_succ_le hi)
  have hd:P.drop i=P[i]::P.drop (i+1):=cD hlt;have hget:((P.map (fP m P)).take i++P.drop i).getD i 0=P[i]:=by
   rw[hd,bg,cz (aL hlen),hlen];simp[au hlt]
  have htake:(P.map (fP m P)).take (i+1)=(P.map (fP m P)).take i++[fP m P P[i]]:=by
   rw[List.take_succ_eq_append_getElem (by simpa using hlt)];simp
  have hmem:(P[i] &&& m)∈((P.map (fP m P)).take i++P.drop i)↔(P[i] &&& m)∈P:=by
   have hiP:P[i]∈P:=ci hlt;constructor
   ·intro h
    rcases bS.mp h with h | h
    ·refine dm (bx.mp (List.mem_of_mem_take h)) λy hy e=>?_
     unfold fP at e
     split at e
     ·rw[<-e];exact hy
     ·rename_i hn
      rcases Gs m hm (f.lt y hy) (f.lt _ hiP) e with e1 | e1 | e1
      ·-- the same one: it stands twice
       exfalso;subst e1;obtain⟨j,hj,ej⟩:=List.getElem_of_mem h;have hj2:j<i:=by rw[hlen]at hj;exact hj
       rw[List.getElem_take,List.getElem_map]at ej;have hq:fP m P P[j]=fP m P P[i]:=by
        rw[ej];unfold fP;rw[aF hn]
       have:=CG hm f.lt (ci (cu hj2 hlt)) hiP hq;exact aO hj2 ((List.getElem_inj f.nd).mp this)
      ·rw[e1]at e;exact e▸hy
      ·rw[e1];exact hiP
    ·exact List.mem_of_mem_drop h
   ·intro h
    obtain⟨j,hj,ej⟩:=List.getElem_of_mem h;have hf:fP m P P[j]=P[j]:=by unfold fP;rw[ej,Nu,aI h]
    by_cases c:j<i
    ·refine bS.mpr (.inl ?_)
     rw[<-ej,<-hf];have:(List.take i (List.map (fP m P) P))[j]'(by rw[hlen];exact c)=fP m P P[j]:=by rw[List.getElem_take,List.getElem_map]
     rw[<-this];exact ci _
    ·refine bS.mpr (.inr ?_)
     rw[<-ej];have:(P.drop i)[j - i]'(by rw[List.length_drop];exact Nat.sub_lt_sub_right (bo c) hj)=P[j]:=by rw[List.getElem_drop];congr 1;exact cV (bo c)
     rw[<-this];exact ci _
  show fV m _ i=_;unfold fV;rw[hget,htake]
  by_cases c:(P[i] &&& m)∈P
  ·rw[aI (hmem.mpr c)]
   have:fP m P P[i]=P[i]:=by unfold fP;rw[aI c]
   rw[this,aZ,hd];rfl
  ·rw[aF (λh=>c (hmem.mp h))]
   have:fP m P P[i]=P[i] &&& m:=by unfold fP;rw[aF c]
   rw[this,hd,List.set_append_right _ _ (aL hlen),hlen,Nat.sub_self,List.set_cons_zero,aZ];rfl
theorem ui{m:Nat}(hm:m=7\/m=11\/m=13\/m=14){P:List Nat}(f:Fm P):(List.range P.length).foldl (fV m) P=eK m P:=by
 rw[nf hm f _ (ad _),lR,b8 (by simp),List.drop_length,aU]
theorem Fam.fm{L:List Nat}(f:Fam L):Fm L:=⟨f.nd,f.lt⟩
theorem mE{L:List Nat}(f:Fam L):(oV L).Perm (dv L)/\(∀p∈n8 L,∃k,k∈dv L/\p.1=2 ^ k)/\(∀k∈dv L,(trL k L []).length=2 ^ lb k)/\fL (dv L)∈zO:=by
 refine dm f.sorted λF hp ht=>?_;refine kL (ux ht) λh1 h2 h3=>?_;have pp:=kJ hp;have low:∀x,Nz L x->hJ x (dv F)=true:=λx hx=>h1 x ((lI hp x).mp hx);have fmF:=mS (L:=F) ⟨(hp.nodup_iff).mp f.nd,λn hn=>f.lt n (hp.mem_iff.mpr hn)⟩;obtain⟨n1,n2⟩:=yl low fmF.nd (by rw[gO,hp.length_eq]);refine⟨n1.trans pp.symm,λp hpp=>?_,λk hk=>?_,?_⟩
 ·refine dm (n2 p hpp) λk hk e=>?_
  exact⟨k,pp.mem_iff.mpr hk,e⟩
 ·rw[zl hp]
  exact qL (t:=[]) (u:=[]) (λ_=>Iff.rfl) (h2 k (pp.mem_iff.mp hk))
 ·rw[oY pp];exact h3
end
noncomputable def A1b:List (Nat×OFn):=(122,Mc)::A1
noncomputable def O1b:Orc:=⟨OT A1b,DI,10,λ_=>none⟩
theorem Hv(K:Frag):gL K O1b:=⟨wF (fc E0 (F8 K)),rM K,λcx X i ns h=>nomatch h⟩
noncomputable def shC:IE:=kG eE.names 4 [] .none
noncomputable def shB:PE:=pu (fh eE.body 1)
noncomputable def shH(xs:List AV)(p:Int)(ds tr:List AV)(w:List (Nat×AV))(o:AO):TH:=mkT (gR++[.list xs,.ns ([(135,.int p),(136,.ref 3),(119,.ref 6),(137,.ref 5)]++w),.list tr,.list ds,o])
noncomputable def shQ(kr:AV->TH->R)(F:Fns)(f:AF)(H:TH):R:=AF.casesOn f ((step O1b F).exs 19 (tlP (tlP eE.body)) shC H λf H=>kr (gp f) H) (kr .none H) (kr .none H) λv=>kr v H
noncomputable def shT(xs ds tr:List AV)(p n:Int)(k f:Nat)(kk:AF->TH->R):R:=orO (opt (inL (.int (Builtin.bitAnd p n)) tr) λt=>ifB (!t)
  (dY (ifO (Nat.ble tr.length dn) (some (AV.none,shH xs p ds (tr++[.int (Builtin.bitAnd p n)]) [(114,.int n)] (.iter (.list 3 k))))) λ_ H=>(fns O1b (fu f)).loop 19 (.nm 114) 7 shB shC H kk)
  ((fns O1b (fu f)).loop 19 (.nm 114) 7 shB shC (shH xs p ds tr [(114,.int n)] (.iter (.list 3 k))) kk)) none
section
variable {xs ds tr:List AV} {p n:Int} {u:AV} {k f g:Nat} {kk:AF->TH->R} {kr:AV->TH->R} {w:List (Nat×AV)} {F:Fns} {L:Nat->PE->Nat->PE->IE->TH->(AF->TH->R)->R}
theorem BP:∀n:Nat,n<16->(stp O1b 4 ((stp O1b 9 F).wl L)).call 20 (.st 297) [.int (n:Int),.ref 3] [] (mkT (gR++[.list xs])) kr=L 19 (.nm 114) 7 shB shC (shH xs (n:Int) (dg n) [] [] (.iter (.list 3 0))) (shQ kr ((stp O1b 9 F).wl L)):=
 kZ (by kernel_rfl) (by kernel_rfl) (by kernel_rfl) (by kernel_rfl) (by kernel_rfl) (by kernel_rfl) (by kernel_rfl) (by kernel_rfl) (by kernel_rfl) (by kernel_rfl) (by kernel_rfl) (by kernel_rfl) (by kernel_rfl) (by kernel_rfl) (by kernel_rfl) (by kernel_rfl)
theorem D9{n:Nat}(hn:n<16):(fns O1b (fu (g+13))).call 20 (.st 297) [.int (n:Int),.ref 3] [] (mkT (gR++[.list xs])) kr=(fns O1b (fu (g+9))).loop 19 (.nm 114) 7 shB shC (shH xs (n:Int) (dg n) [] [] (.iter (.list 3 0))) (shQ kr (fns O1b (fu (g+9)))):=by
 rw[show fns O1b (fu (g+13))=stp O1b 4 (fns O1b (fu (g+9))) from fus 4,fus 9];exact BP (L:=(stp O1b 9 (fns O1b (fu g))).loop) n hn
theorem G0:(fns O1b (fu (f+1))).loop 19 (.nm 114) 7 shB shC (shH xs p ds tr w (.iter (.list 3 k))) kk=ll (kk .next (shH xs p ds tr w .dead)) (λv=>gE O1b (fu f) 19 (.nm 114) shB 7 shC kk v (shH xs p ds tr w (.iter (.list 3 (k+1))))) xs[k]?:=by kernel_rfl
theorem z9:gE O1b (fu f) 19 (.nm 114) shB 7 shC kk (.int n) (shH xs p ds tr [] (.iter (.list 3 k)))=shT xs ds tr p n k f kk:=by kernel_rfl
theorem FP:gE O1b (fu f) 19 (.nm 114) shB 7 shC kk (.int n) (shH xs p ds tr [(114,u)] (.iter (.list 3 k)))=shT xs ds tr p n k f kk:=by kernel_rfl
end
noncomputable def pA(x:Int)(l:List Int):Bool:=List.rec (motive:=λ_=>Bool) false (λy _ ih=>(y == x) || ih) l
theorem xk{x:Int}:∀{l:List Int},inL (.int x) (l.map .int)=some (pA x l)
 | []=>rfl
 |y::r=>by show opt (some (y == x)) (λp=>opt (inL (.int x) (r.map .int)) λq=>some (p || q))=_;rw[xk];rfl
noncomputable def qF(p:Int)(ns:List Int):List Int->List Int:=List.rec (motive:=λ_=>List Int->List Int) (λtr=>tr) (λn _ ih tr=>ih (ifB (pA (Builtin.bitAnd p n) tr) tr (tr++[Builtin.bitAnd p n]))) ns
section
variable {xs ds:List AV} {p:Int} {kk:AF->TH->R}
theorem hZ{β:Type}{x:β}{y:Option β}:orO (some x) y=some x:=rfl
theorem r0{β:Type}{x:Option β}:orO x none=x:=by cases x<;>rfl
theorem wb:∀{ns tr:List Int} {k:Nat} {w:List (Nat×AV)} {f:Nat},(w=[]\/∃u,w=[(114,u)])->xs.drop k=ns.map .int->tr.length+ns.length<=5->ns.length<=f->
  ∃w',(fns O1b (fu (f+1))).loop 19 (.nm 114) 7 shB shC (shH xs p ds (tr.map .int) w (.iter (.list 3 k))) kk=kk .next (shH xs p ds ((qF p ns tr).map .int) w' .dead)
 | [],tr,k,w,f,hw,hx,hl,hf=>⟨w,by rw[G0,fE hx,jW];rfl⟩
 |n::ns,tr,k,w,0,hw,hx,hl,hf=>absurd hf (bH _)
 |n::ns,tr,k,w,f+1,hw,hx,hl,hf=>by
  obtain⟨e1,e2⟩:=gS hx;have hb:Nat.ble (tr.map AV.int).length dn=true:=by rw[aq];exact jh (ae (aK _ _) hl) qH
  have hl':(ifB (pA (Builtin.bitAnd p n) tr) tr (tr++[Builtin.bitAnd p n])).length+ns.length<=5:=by
   cases pA (Builtin.bitAnd p n) tr with
   |true=>exact ae (bO (aC _) _) hl
   |false=>show(tr++[_]).length+_<=5;rw[az];show tr.length+1+ns.length<=5;rw[bf,bw 1];exact hl
  obtain⟨w',ih⟩:=wb (k:=k+1) (w:=[(114,.int n)]) (f:=f) (.inr ⟨_,rfl⟩) e2 hl' (aW hf);refine⟨w',Eq.trans ?_ ih⟩;have turn:gE O1b (fu (f+1)) 19 (.nm 114) shB 7 shC kk (.int n) (shH xs p ds (tr.map .int) w (.iter (.list 3 (k+1))))=shT xs ds (tr.map .int) p n (k+1) (f+1) kk:=hw.elim (λe=>e▸z9) λ⟨u,e⟩=>e▸FP;rw[G0,e1,jN,turn,shT,xk,dJ,r0,hb,eN];cases pA (Builtin.bitAnd p n) tr with
  |true=>rw[gX];rfl
  |false=>rw[fG,bh];rfl
end
theorem ex1{α:Type}{l:List α}(h:l.length=1):∃a,l=[a]:=List.length_eq_one_iff.mp h
theorem exS{α:Type}{l:List α}{n:Nat}(h:l.length=n+1):∃a r,l=a::r/\r.length=n:=by
 cases l with
 |nil=>cases h
 |cons a r=>exact⟨a,r,rfl,Nat.succ.inj h⟩
theorem ex2{α:Type}{l:List α}(h:l.length=2):∃a b,l=[a,b]:=let ⟨a,r,e,h⟩:=exS h;let ⟨b,e'⟩:=ex1 h;⟨a,b,e' ▸ e⟩
theorem ex4{α:Type}{l:List α}(h:l.length=4):∃a b c d,l=[a,b,c,d]:=let ⟨a,r,e,h⟩:=exS h;let ⟨b,r',e',h'⟩:=exS h;let ⟨c,d,e''⟩:=ex2 h';⟨a,b,c,d,e.trans (e' ▸ e'' ▸ rfl)⟩
noncomputable abbrev shE(n:Nat)(tr:List AV):Prop:=∀{xs w},g0 4 (shQ fin (fns O1b (fu 9)) .next (shH xs (n:Int) (dg n) tr w .dead))=some (.ret (.bool true),(gR++[AO.list xs]).map some)
noncomputable abbrev shP(n:Nat):Prop:=∀tr:List AV,tr.length=2 ^ lb n->tr.length<=5->shE n tr
theorem sh1{n:Nat}(hp:lb n=0)(h:∀a,shE n [a]):shP n:=λtr e _=>by rw[hp]at e;obtain⟨a,e⟩:=ex1 e;rw[e];exact h a
theorem sh2{n:Nat}(hp:lb n=1)(h:∀a b,shE n [a,b]):shP n:=λtr e _=>by rw[hp]at e;obtain⟨a,b,e⟩:=ex2 e;rw[e];exact h a b
theorem sh4{n:Nat}(hp:lb n=2)(h:∀a b c d,shE n [a,b,c,d]):shP n:=λtr e _=>by rw[hp]at e;obtain⟨a,b,c,d,e⟩:=ex4 e;rw[e];exact h a b c d
theorem sh8{n:Nat}(hp:3<=lb n):shP n:=λtr e hl=>absurd (e▸hl:2 ^ lb n<=5) (Nat.not_le.mpr (av (by decide) (Nat.pow_le_pow_right (by decide) hp)))
theorem JH:∀n:Nat,n<16->shP n:=kZ (sh1 rfl λa xs w=>by kernel_rfl) (sh2 rfl λa b xs w=>by kernel_rfl) (sh2 rfl λa b xs w=>by kernel_rfl) (sh4 rfl λa b c d xs w=>by kernel_rfl) (sh2 rfl λa b xs w=>by kernel_rfl) (sh4 rfl λa b c d xs w=>by kernel_rfl) (sh4 rfl λa b c d xs w=>by kernel_rfl) (sh8 (ad 3))
 (sh2 rfl λa b xs w=>by kernel_rfl) (sh4 rfl λa b c d xs w=>by kernel_rfl) (sh4 rfl λa b c d xs w=>by kernel_rfl) (sh8 (ad 3)) (sh4 rfl λa b c d xs w=>by kernel_rfl) (sh8 (ad 3)) (sh8 (ad 3)) (sh8 (aC 3))
theorem xq{p:Int}:∀{ns tr:List Int},(qF p ns tr).length<=tr.length+ns.length
 | [],tr=>ad _
 |n::ns,tr=>by
  refine ae (xq (ns:=ns) (tr:=ifB (pA (Builtin.bitAnd p n) tr) tr (tr++[Builtin.bitAnd p n]))) ?_;rw[a0];cases pA (Builtin.bitAnd p n) tr with
  |true=>exact bO (aC _) _
  |false=>show(tr++[_]).length+_<=_;rw[az];show tr.length+1+ns.length<=_;rw[bf,bw 1];exact ad _
theorem J6{n:Nat}{ns:List Int}(hn:n<16)(hl:ns.length<=5)(ht:(qF n ns []).length=2 ^ lb n):g0 4 ((fns O1b (fu 13)).call 20 (.st 297) [.int (n:Int),.ref 3] [] (mkT (gR++[.list (ns.map .int)])) fin)=some (.ret (.bool true),(gR++[AO.list (ns.map .int)]).map some):=by
 obtain⟨w,h⟩:=wb (xs:=ns.map .int) (ds:=dg n) (p:=(n:Int)) (kk:=shQ fin (fns O1b (fu (0+9)))) (ns:=ns) (tr:=[]) (k:=0) (w:=[]) (f:=8) (.inl rfl) rfl (by rw[cG,aY];exact hl) (ae hl (by decide));have c:=D9 (xs:=ns.map .int) (kr:=fin) (g:=0) hn;rw[show fu 13=fu (0+13) from rfl,c];refine Eq.trans (aB _ h) (JH n hn _ (by rw[aq];exact ht) (by rw[aq];exact ae xq (by rw[cG,aY];exact hl)))
noncomputable def vY:OFn:=λargs H k=>l2 args λa b=>eh a λj=>eJ b λi=>dR H i λxs=>opt (gl xs) λns=>ifO (Nat.ble 3 i&&(kN j&&(Nat.ble ns.length 5&&Nat.beq (qF j ns []).length (2 ^ lb j.toNat)))) (vj H (k (.bool true) H))
theorem zQ{K:Frag}:FOk K 20 297 vY:=⟨_,rfl,λcx X d args H k z P hd h w=>l2E h λa b e h=>dM h λj e1 h=>dP h λi e2 h=>dG h λxs hx h=>dq h λns hs h=>ifE h λq h=>qd h λt0 t1 t2 h=>w _ H (by
 obtain⟨q1,q⟩:=aa q;obtain⟨q2,q⟩:=aa q;refine dm (lE q2) λn hn en=>?_;rw[gU hs]at hx;rw[en]at q;rw[e,e1,e2,en];have p:fO H.L [0,1,2,i] (gR++[.list (ns.map .int)]):=iu (lL (dA hx) rfl (ku ns)) t0 t1 t2 (by rw[List.all_cons,q1];rfl);exact(gI (args:=[.int (n:Int),.ref 3]) (Hv K) X p rfl (J6 hn (leb (aa q).1) (nb (aa q).2)) (fc trivial (fc (show 3<4 from aD 3) fn)) trivial).mono hd) h⟩
noncomputable def leC:IE:=kG eS.names 0 [] .none
noncomputable def leB:PE:=pu (fh eS.body 1)
noncomputable def leH(num code:Int)(acc:List AV)(w:List (Nat×AV))(o:AO):TH:=mkT [.ns ([(114,.int num),(116,.int code),(115,.ref 1)]++w),.list acc,o]
noncomputable def leQ(kr:AV->TH->R)(F:Fns)(f:AF)(H:TH):R:=AF.casesOn f ((step O1 F).exs 19 (tlP (tlP eS.body)) leC H λf H=>kr (gp f) H) (kr .none H) (kr .none H) λv=>kr v H
noncomputable def sA(c:Int):Bool:=decide (0<=c)&&decide (c<1000)
section
variable {α β γ:Type}
theorem fq{a:α}{b:β}{k:α->β->Option γ}:dY (some (a,b)) k=k a b:=rfl
end
noncomputable def leT(num code j:Int)(acc:List AV)(f n:Nat)(kk:AF->TH->R):R:=dY (ifO (sA (code+(1+num.fmod 5))) (some (AV.strb [(code+(1+num.fmod 5)).toNat],leH (num.fdiv 5) (code+(1+num.fmod 5)) acc [(117,.int j)] (.iter (.rng (j+1) 1 n))))) λv H=>dY (gV 5 [.ref 1,v] H) λ_ H=>(fns O1 (fu f)).loop 19 (.nm 117) 2 leB leC H kk
section
variable {num code j:Int} {acc:List AV} {u v:AV} {f g n:Nat} {kk:AF->TH->R} {kr:AV->TH->R} {w:List (Nat×AV)} {F:Fns} {L:Nat->PE->Nat->PE->IE->TH->(AF->TH->R)->R} {o:AO}
theorem AY{i:Int}:(stp O1 4 ((stp O1 9 F).wl L)).call 20 (.st 271) [.int i] [] (mkT []) kr=L 19 (.nm 117) 2 leB leC (leH i 96 [] [] (.iter (.rng 0 1 4))) (leQ kr ((stp O1 9 F).wl L)):=by kernel_rfl
theorem Ea{i:Int}:(fns O1 (fu (g+13))).call 20 (.st 271) [.int i] [] (mkT []) kr=(fns O1 (fu (g+9))).loop 19 (.nm 117) 2 leB leC (leH i 96 [] [] (.iter (.rng 0 1 4))) (leQ kr (fns O1 (fu (g+9)))):=by
 rw[show fns O1 (fu (g+13))=stp O1 4 (fns O1 (fu (g+9))) from fus 4,fus 9];exact AY (L:=(stp O1 9 (fns O1 (fu g))).loop)
theorem zz:(fns O1 (fu (f+1))).loop 19 (.nm 117) 2 leB leC (leH num code acc [] (.iter (.rng j 1 (n+1)))) kk =
  leT num code j acc f n kk:=by kernel_rfl
theorem Ej:(fns O1 (fu (f+1))).loop 19 (.nm 117) 2 leB leC (leH num code acc [(117,u)] (.iter (.rng j 1 (n+1)))) kk =
  leT num code j acc f n kk:=by kernel_rfl
theorem Ie:gV 5 [.ref 1,v] (leH num code acc w o)=ifO (Nat.ble acc.length dn) (some (.none,leH num code (acc++[v]) w o)):=by kernel_rfl
theorem nE(hw:w=[]\/∃u,w=[(117,u)])(hc:sA (code+(1+num.fmod 5))=true)(hb:Nat.ble acc.length dn=true):(fns O1 (fu (f+1))).loop 19 (.nm 117) 2 leB leC (leH num code acc w (.iter (.rng j 1 (n+1)))) kk =
  (fns O1 (fu f)).loop 19 (.nm 117) 2 leB leC (leH (num.fdiv 5) (code+(1+num.fmod 5)) (acc++[.strb [(code+(1+num.fmod 5)).toNat]]) [(117,.int j)] (.iter (.rng (j+1) 1 n))) kk:=by
 have turn:(fns O1 (fu (f+1))).loop 19 (.nm 117) 2 leB leC (leH num code acc w (.iter (.rng j 1 (n+1)))) kk=leT num code j acc f n kk:=hw.elim (λe=>e▸zz) λ⟨u,e⟩=>e▸Ej;rw[turn,leT,hc,eN,fq,Ie,hb,eN,fq]
theorem Js:(fns O1 (fu (f+1))).loop 19 (.nm 117) 2 leB leC (leH num code acc w (.iter (.rng j 1 0))) kk=kk .next (leH num code acc w .dead):=by kernel_rfl
theorem IM:pB 0 1 (leQ fin (fns O1 (fu 9)) .next (leH num code acc w o))=some (.ret (.ref 1),some (.list acc),[]):=by kernel_rfl
end
noncomputable def leN(i:Int)(k:Nat):Int:=Nat.rec i (λ_ x=>x.fdiv 5) k
noncomputable def leE(i:Int)(k:Nat):Int:=Nat.rec (96+(1+i.fmod 5)) (λk c=>c+(1+(leN i (k+1)).fmod 5)) k
noncomputable def leL(i:Int):List AV:=[.strb [(leE i 0).toNat],.strb [(leE i 1).toNat],.strb [(leE i 2).toNat],.strb [(leE i 3).toNat]]
noncomputable def za(i:Int):Bool:=sA (leE i 0)&&(sA (leE i 1)&&(sA (leE i 2)&&sA (leE i 3)))
theorem IG{i:Int}(h:za i=true):pB 0 1 ((fns O1 (fu 13)).call 20 (.st 271) [.int i] [] (mkT []) fin)=some (.ret (.ref 1),some (.list (leL i)),[]):=by
 obtain⟨h0,h⟩:=aa h;obtain⟨h1,h⟩:=aa h;obtain⟨h2,h3⟩:=aa h;rw[show fu 13=fu (0+13) from rfl,Ea,show fu (0+9)=fu (8+1) from rfl];have s0:∀{kk},(fns O1 (fu (8+1))).loop 19 (.nm 117) 2 leB leC (leH i 96 [] [] (.iter (.rng 0 1 4))) kk=(fns O1 (fu 8)).loop 19 (.nm 117) 2 leB leC (leH (leN i 1) (leE i 0) [.strb [(leE i 0).toNat]] [(117,.int 0)] (.iter (.rng 1 1 3))) kk:=nE (n:=3) (.inl rfl) h0 rfl;have s1:∀{kk},(fns O1 (fu (7+1))).loop 19 (.nm 117) 2 leB leC (leH (leN i 1) (leE i 0) [.strb [(leE i 0).toNat]] [(117,.int 0)] (.iter (.rng 1 1 3))) kk=(fns O1 (fu 7)).loop 19 (.nm 117) 2 leB leC (leH (leN i 2) (leE i 1) [.strb [(leE i 0).toNat],.strb [(leE i 1).toNat]] [(117,.int 1)] (.iter (.rng 2 1 2))) kk:=nE (n:=2) (.inr ⟨_,rfl⟩) h1 rfl;have s2:∀{kk},(fns O1 (fu (6+1))).loop 19 (.nm 117) 2 leB leC (leH (leN i 2) (leE i 1) [.strb [(leE i 0).toNat],.strb [(leE i 1).toNat]] [(117,.int 1)] (.iter (.rng 2 1 2))) kk=(fns O1 (fu 6)).loop 19 (.nm 117) 2 leB leC (leH (leN i 3) (leE i 2) [.strb [(leE i 0).toNat],.strb [(leE i 1).toNat],.strb [(leE i 2).toNat]] [(117,.int 2)] (.iter (.rng 3 1 1))) kk:=nE (n:=1) (.inr ⟨_,rfl⟩) h2 rfl;have s3:∀{kk},(fns O1 (fu (5+1))).loop 19 (.nm 117) 2 leB leC (leH (leN i 3) (leE i 2) [.strb [(leE i 0).toNat],.strb [(leE i 1).toNat],.strb [(leE i 2).toNat]] [(117,.int 2)] (.iter (.rng 3 1 1))) kk=(fns O1 (fu 5)).loop 19 (.nm 117) 2 leB leC (leH (leN i 4) (leE i 3) (leL i) [(117,.int 3)] (.iter (.rng 4 1 0))) kk:=nE (n:=0) (.inr ⟨_,rfl⟩) h3 rfl
 rw[s0,show fu 8=fu (7+1) from rfl,s1,show fu 7=fu (6+1) from rfl,s2,show fu 6=fu (5+1) from rfl,s3,show fu 5=fu (4+1) from rfl,Js];exact IM
noncomputable def MH:OFn:=λargs H k=>l1 args λa=>eh a λi=>ifO (za i) (dY (new H (.list (leL i))) k)
theorem EB{K:Frag}:FOk K 20 271 MH:=⟨_,rfl,λcx X d args H k z P hd h w=>l1E h λa e h=>dM h λi e1 h=>ifE h λq h=>gx h λv H' hn h=>kI hn λev eH=>w v H' (by
 rw[e,e1,ev,eH];exact(kh (args:=[.int i]) (GI K) X lZ rfl (IG q) (fc trivial fn) rfl rfl (fc trivial (fc trivial (fc trivial (fc trivial fn))))).mono hd) h⟩
noncomputable def gr(q:Nat)(l:List Nat):List Nat:=l.flatMap λc=>ifB (Nat.blt c 2000) [c] (gA q (c - 2000))
theorem I8{cx:Cx}{q:Nat}(hq:cx.opq=gA q)(h:∀k c,c∈gA q k->c<1000):∀l,rq cx l=rs cx.σ (gr q l):=λl=>by
 have:l.flatMap (pc cx)=(gr q l).map (ph cx.σ):=by
  unfold gr;rw[List.map_flatMap];refine aB (λf=>l.flatMap f) (funext λc=>?_);unfold pc
  by_cases hc:c<2000
  ·rw[aI hc,show Nat.blt c 2000=true from a9 hc];rfl
  ·have hb:Nat.blt c 2000=false:=by cases e:Nat.blt c 2000 with | false=>rfl | true=>exact absurd (jx e) hc
   rw[aF hc,hb,hq];show _=(gA q (c - 2000)).map (ph cx.σ);rw[bP (g:=λx=>x) λx hx=>jI cx.σ (h _ x hx),List.map_id']
 unfold rq rs;rw[this]
theorem vV{n:Nat}{l:List (Nat×List Nat)}{e:List Nat}{Q:Nat->Prop}(he:∀c∈e,Q c)(h:∀p∈l,∀c∈p.2,Q c):∀c∈(lk n l).getD e,Q c:=by
 cases q:lk n l with
 |none=>exact he
 |some x=>exact h _ (gW q)
theorem EA{q k:Nat}:∀c∈gA q k,c<1000:=by
 unfold gA;cases Nat.ble k 3 with
 |true=>exact vV (by decide) (by decide)
 |false=>cases Nat.ble k 7 with
  |true=>exact vV (by decide) (by decide)
  |false=>exact fn
theorem ru{cx:Cx}{q:Nat}(hq:cx.opq=gA q){l:List Nat}:rq cx l=rs cx.σ (gr q l):=I8 hq (λk=>EA) l
noncomputable def uP(l:List Nat):AV:=ifB (nl l) (.str l) (.rop l)
theorem qn{q:Nat}:∀{l:List Nat},nl l=true->gr q l=l
 | [],_=>rfl
 |c::r,h=>by
  show ifB (Nat.blt c 2000) [c] _++gr q r=_;rw[qn (aa h).2,show Nat.blt c 2000=true from(aa h).1];rfl
theorem FI{cx:Cx}{q n:Nat}{s:Shared}{ρ:Nat->Addr}{l:List Nat}{V:Value}(hq:cx.opq=gA q)(i:Is cx s ρ n (uP l) V):∃t,V = .str (rs cx.σ (gr q l)) t:=by
 unfold uP at i;cases h:nl l with
 |true=>
  rw[h]at i;obtain⟨t,e⟩:=i;exact⟨t,by rw[e,qn h]⟩
 |false=>
  rw[h]at i;obtain⟨t,e⟩:=i;exact⟨t,by rw[e,ru hq]⟩
noncomputable def zo(q:Nat)(v v':AV):Prop:=∀(cx:Cx) N s ρ n n' V,Is cx s ρ n v V↔Is (cx.tk N (gA q)) s ρ n' v' V
noncomputable def oq(q:Nat)(o o':AO):Prop:=dN o=true/\dN o'=true/\∀(cx:Cx) N s ρ n n' a,OR cx s ρ n a o↔OR (cx.tk N (gA q)) s ρ n' a o'
noncomputable def mK{α β:Type}(R:α->β->Prop)(l:List α):List β->Prop:=List.rec (motive:=λ_=>List β->Prop) (λm=>m=[]) (λa _ ih m=>∃b r,m=b::r/\R a b/\ih r) l
section
variable {α β:Type} {R:α->β->Prop} {q:Nat} {cx:Cx} {s:Shared} {ρ:Nat->Addr} {n n' N:Nat}
theorem mK.nil:mK R [] []:=rfl
theorem mK.cons{a:α}{b:β}{l:List α}{m:List β}(h:R a b)(k:mK R l m):mK R (a::l) (b::m):=⟨b,m,rfl,h,k⟩
theorem mK.get:∀{l:List α} {m:List β},mK R l m->∀(j:Nat),(∀b,m[j]? = some b->∃a,l[j]? = some a/\R a b)/\(∀a,l[j]? = some a->∃b,m[j]? = some b/\R a b)
 | [],m,h,j=>by have h:m=[]:=h;rw[h];exact⟨λb e=>(nomatch e),λa e=>(nomatch e)⟩
 |a::l,m,⟨b,r,e,h,k⟩,j=>by
  rw[e];cases j with
  |zero=>exact⟨λb' e'=>⟨a,rfl,(ak e':b=b')▸h⟩,λa' e'=>⟨b,rfl,(ak e':a=a')▸h⟩⟩
  |succ j=>exact mK.get k j
theorem Ac{γ:Type}{f f':γ->AV}:∀{ys:List γ} {Vs:List Value},(∀y∈ys,zo q (f y) (f' y))->(IsL cx s ρ n (ys.map f) Vs↔IsL (cx.tk N (gA q)) s ρ n' (ys.map f') Vs)
 | [],Vs,h=>Iff.rfl
 |y::r,Vs,h=>by
  have ih:=λVs=>Ac (ys:=r) (Vs:=Vs) λx hx=>h x (.tail _ hx);exact⟨λ⟨V,Ws,e,i,k⟩=>⟨V,Ws,e,(h y (.head _) cx N s ρ n n' V).mp i,(ih Ws).mp k⟩,λ⟨V,Ws,e,i,k⟩=>⟨V,Ws,e,(h y (.head _) cx N s ρ n n' V).mpr i,(ih Ws).mpr k⟩⟩
theorem AN{γ:Type}{f f':γ->AV}{ys:List γ}(h:∀y∈ys,zo q (f y) (f' y)):oq q (.list (ys.map f)) (.list (ys.map f')):=
 ⟨rfl,rfl,λcx N s ρ n n' a=>⟨λ⟨Vs,p,i⟩=>⟨Vs,p,(Ac h).mp i⟩,λ⟨Vs,p,i⟩=>⟨Vs,p,(Ac h).mpr i⟩⟩⟩
theorem iH{k:Nat}:oq q (.tab k) (.tab k):=⟨rfl,rfl,λcx N s ρ n n' a=>Iff.rfl⟩
theorem jZ{γ:Type}{f:γ->List Nat}{ys:List γ}:oq q (.list (ys.map λy=>.str (f y))) (.list (ys.map λy=>.str (f y))):=AN λy _ cx N s ρ n n' V=>Iff.rfl
theorem Bs{ys:List Int}:oq q (.list (ys.map .int)) (.list (ys.map .int)):=AN λy _ cx N s ρ n n' V=>Iff.rfl
noncomputable def mkQ(q b:Nat):List AV:=(List.range 4).map λj=>.str (gA q (b+j))
noncomputable def mkC(b:Nat):List AV:=(List.range 4).map λj=>.rop [2000+(b+j)]
theorem Kl{q k:Nat}:gr q [2000+k]=gA q k:=by
 show ifB (Nat.blt (2000+k) 2000) [2000+k] (gA q (2000+k - 2000))++[]=_;have:Nat.blt (2000+k) 2000=false:=by cases e:Nat.blt (2000+k) 2000 with | false=>rfl | true=>exact absurd (jx e) (bJ.mpr (aK _ _))
 rw[this,aU,cQ];rfl
theorem wm{b:Nat}:oq q (.list (mkQ q b)) (.list (mkC b)):=AN λy _ cx N s ρ n n' V=>by
 show(∃t,V = .str (rs cx.σ (gA q (b+y))) t)↔∃t,V = .str (rq (cx.tk N (gA q)) [2000+(b+y)]) t;rw[ru (cx:=cx.tk N (gA q)) rfl,Kl]
theorem SR.retell{cx':Cx}{T T':List AO}(S:SR cx ρ T s)(h:∀(j:Nat) o',T'[j]? = some o'->∃o,T[j]? = some o/\dN o=true/\(OR cx s ρ T.length (ρ j) o->OR cx' s ρ T'.length (ρ j) o'))(hc:cx'.hs=cx.hs)(ho:cx'.os=cx.os)(hn:cx'.tkN<=s.toks):SR cx' ρ T' s where
 keep:=hc▸S.keep
 own:=λj o' e=>let ⟨o,e',_,k⟩:=h j o' e;k (S.own j o e')
 inj:=λi j oi oj ei ej _ _ e=>let ⟨o,e1,a1,_⟩:=h i oi ei;let ⟨p,e2,a2,_⟩:=h j oj ej;S.inj i j o p e1 e2 a1 a2 e
 new:=λj o' e _=>let ⟨o,e1,a1,_⟩:=h j o' e;hc▸S.new j o e1 a1
 gens:=S.gens
 os:=ho▸S.os
 tkn:=⟨hn,S.tkn.2⟩
end
section
variable {cx:Cx} {K:Frag} {d a q:Nat} {HL T T' T'':List AO} {is:List Nat} {args:List AV} {l:List Nat}
theorem dE.ring(X:dF cx K)(p:fO HL is T)(hq:q<6)(hT:mK (oq q) T T')(hl:T'.length=T.length)(h:∀cx',dF cx' K->dE cx' d (.st a) args [] T' (uP l) T'')(hv:∀v∈args,jA T.length v)(ha:∀v∈args,(∃j,v = .ref j)\/zo q v v)(hk:∀j,j<T'.length->T''[j]? = T'[j]?):
  dE cx d (.st a) (args.map (ren is)) [] HL (.str (gr q l)) HL:=
 ⟨ad _,λ{A s ρ Fv Vs Ks Q E} u i1 i2 i3 W=>by
  have g:=u.g.toGood;have Q8:=X.cut u.sr p;have Q9:=Q8.tk cx.tkN hq rfl;have P7:=ir g u.sr p;have P8:SR ((cut cx s ρ is).tk cx.tkN (gA q)) (sub ρ is) T' s:=P7.retell (cx':=(cut cx s ρ is).tk cx.tkN (gA q)) (λj o' e=>let ⟨o,e1,k⟩:=(hT.get j).1 o' e;⟨o,e1,k.1,(k.2.2 _ _ _ _ _ _ _).mp⟩) rfl rfl u.sr.tkn.1;have i2':=IsL.toPart g p i2 hv;have iA:IsL ((cut cx s ρ is).tk cx.tkN (gA q)) s (sub ρ is) T'.length args Vs:=by
   rw[hl];exact L2.mono i2' λx hx V i=>by
    rcases ha x hx with ⟨j,e⟩ | e
    ·rw[e]at i ⊢;exact i
    ·exact(e _ _ _ _ _ _ _).mp i
  refine(h _ Q9).2 ⟨Q9.cok,u.ok,P8⟩ i1 iA i3 λV s' ρ' S' i' E'=>?_;have Q0:SR (cut cx s ρ is) ρ' T s':=S'.retell (cx':=cut cx s ρ is) (λj o e=>let ⟨o',e1,k⟩:=(hT.get j).2 o e;⟨o',by rw[hk j (fM e1)];exact e1,k.2.1,(k.2.2 _ _ _ _ _ _ _).mpr⟩) rfl rfl (ae u.sr.tkn.1 E'.tk);have f:=i8 g u.sr p Q0 ⟨λj hj=>E'.ag j (hl▸hj),E'.fz,E'.tk⟩ λj hj=>rfl;exact W V s' ρ f.1 (FI (cx:=(cut cx s ρ is).tk cx.tkN (gA q)) rfl i') f.2⟩
end
noncomputable def Mt(k:Nat):List Nat:=(List.range 4).filter λj=>Nat.beq (Nat.mod (Nat.div k (Nat.pow 2 j)) 2) 1
noncomputable def Jv(b k:Nat):List Nat:=(Mt k).map λj=>2000+(b+j)
noncomputable def pD(b k:Nat):AV:=ifB (Nat.beq k 0) (.str []) (.rop (Jv b k))
theorem Fk{b:Nat}:∀n:Nat,n<16->g0 1 ((fns eY (fu 20)).call 10 (.st 302) [.int (n:Int),.ref 0] [] (mkT [.list (mkC b)]) fin)=some (.ret (pD b n),[.list (mkC b)].map some):=
 kZ (by kernel_rfl) (by kernel_rfl) (by kernel_rfl) (by kernel_rfl) (by kernel_rfl) (by kernel_rfl) (by kernel_rfl) (by kernel_rfl) (by kernel_rfl) (by kernel_rfl) (by kernel_rfl) (by kernel_rfl) (by kernel_rfl) (by kernel_rfl) (by kernel_rfl) (by kernel_rfl)
noncomputable def AA(xs:List AV):Option (List (List Nat)):=trv (λv=>vB v some) xs
theorem pJ:∀{ys:List AV} {ks:List (List Nat)},AA ys=some ks->ys=ks.map AV.rop
 | [],ks,h=>so h λe=>e▸rfl
 |y::r,ks,h=>dq h λk h1 h=>dq h λq h2 h=>so h λe=>tK h1 λl e1 h1=>so h1 λe2=>by rw[<-e,e1,e2,pJ h2];rfl
noncomputable def Jm(b:Nat)(ms:List AV):Bool:=decide (AA ms=some [[2000+b],[2001+b],[2002+b],[2003+b]])
theorem wA{b:Nat}{ms:List AV}(h:Jm b ms=true):ms=[.rop [2000+b],.rop [2001+b],.rop [2002+b],.rop [2003+b]]:=pJ (dec h)
noncomputable def Lx:OFn:=λargs H k=>l2 args λa c=>eh a λi=>eJ c λj=>dR H j λms=>ifO (kN i) (orO (ifO (Jm 0 ms) (k (pD 0 i.toNat) H)) (ifO (Jm 4 ms) (k (pD 4 i.toNat) H)))
theorem Fl{b k n:Nat}:(pD b k).wf n:=by unfold pD;cases Nat.beq k 0<;>trivial
section
variable {K:Frag}
theorem E5:FOk K 10 302 Lx:=⟨_,rfl,λcx X d args H k z P hd h w=>l2E h λa c e h=>dM h λi e1 h=>dP h λj e2 h=>dG h λms hm h=>ifE h λq h=>by
 refine dm (lE q) λn hn en=>?_;have key:∀b,gt H j=some (.list (mkC b))->dE cx d (.st 302) args [] H.L (pD b n) H.L:=λb hm=>by
  rw[e,e1,e2,en];exact(gI (args:=[.int (n:Int),.ref 0]) (fw K) X (lL (dA hm) rfl (fc trivial (fc trivial (fc trivial (fc trivial fn))))) rfl (Fk n hn) (fc trivial (fc cJ fn)) Fl).mono hd
 rw[en]at h;exact orE h (λh=>ifE h λq h=>w _ H (key 0 (by rw[wA q]at hm;exact hm)) h) λh=>ifE h λq h=>w _ H (key 4 (by rw[wA q]at hm;exact hm)) h⟩
noncomputable def cod(k:Nat):List Nat:=Jv 0 (k+1)
noncomputable def MJ(x:R):Option (List Nat):=opt x λp=>AF.casesOn p.1 none none none λv=>dZ v some
theorem Ey:((List.range 6).all λq=>(List.range 15).all λk=>decide (MJ ((fns eY (fu 20)).call 10 (.st 259) [.str (gr q (cod k))] [] (mkT []) fin)=some (gr q ((cod k).map (· + 4)))))=true:=by kernel_rfl
theorem Dd{x:R}{l:List Nat}(h:MJ x=some l):∃H,x=some (.ret (.str l),H):=dq h λp e h=>by
 obtain⟨f,H⟩:=p;refine⟨H,?_⟩;cases f with
 |ret v=>exact dL h λy ey h=>so h λel=>by rw[e,ey,el]
 |_=>exact nS h
noncomputable def uU(j:Nat):List Nat:=ifB (Nat.beq j 4) [] (upC j)
noncomputable def Lw:OFn:=λargs H k=>l1 args λa=>orO (vB a λl=>ifO ((List.range 15).any λj=>decide (l=cod j)) (k (.rop (l.map (· + 4))) H)) (dZ a λl=>ifO ((List.range 5).any λj=>decide (l=uU j)) (k (.str l) H))
theorem KW:∀j,j<5->g0 0 ((fns eY (fu 5)).call 10 (.st 259) [.str (uU j)] [] (mkT []) fin)=some (.ret (.str (uU j)),[]):=lt5 (by kernel_rfl) (by kernel_rfl) (by kernel_rfl) (by kernel_rfl) (by kernel_rfl)
theorem EX:FOk K 10 259 Lw:=⟨_,rfl,λcx X d args H k z P hd h w=>l1E h λa e h=>orE h (λh=>tK h λl e1 h=>ifE h λhl h=>w _ H (by
 refine dm (List.any_eq_true.mp hl) λj hj ej=>?_;have ej:l=cod j:=dec ej;refine dm X.op λq hq hy=>?_;obtain⟨H',hr⟩:=Dd (dec (aA.mp (aA.mp Ey q (aT.mpr hq)) j hj));rw[<-ej]at hr;have C:dE cx 10 (.st 259) [.str (gr q l)] [] H.L (.str (gr q (l.map (· + 4)))) H.L:=dE.lift (T':=H'.L) (args:=[.str (gr q l)]) X lZ (λcx' X' _ _=>(gF (fw K) X' hr).2) (fc trivial fn) (λj hj=>absurd hj (Nat.not_lt_zero _)) trivial;rw[e,e1];refine⟨ad _,λ{A s ρ Fv Vs Ks Q E} u i1 i2 i3 W=>(C.mono hd).2 u i1 ?_ i3 λV s' ρ' S' i' E'=>W V s' ρ' S' ?_ E'⟩
 ·refine dx i2 λV Ws eV OA r=>?_;refine mN OA λt iV=>?_
  exact⟨V,Ws,eV,⟨t,by rw[iV,ru hy]⟩,r⟩
 ·obtain⟨t,e⟩:=i'
  exact⟨t,by rw[e,ru hy]⟩) h) λh=>dL h λl e1 h=>ifE h λhl h=>w _ H (by
 refine dm (List.any_eq_true.mp hl) λj hj ej=>?_;have ej:l=uU j:=dec ej;rw[e,e1,ej];exact(gI (args:=[.str (uU j)]) (r:=.str (uU j)) (HL:=H.L) (fw K) X lZ rfl (KW j (aT.mp hj)) (fc trivial fn) trivial).mono hd) h⟩
noncomputable def AV1:List (Nat×OFn):=[(302,Lx),(259,Lw)]
noncomputable def OV:Orc:=⟨OT AV1,λ_ _ _ _=>none,10,λ_=>none⟩
theorem GP:gL K OV:=⟨wF (fc E5 (fc EX fn)),λcx X d v n e H k z P _ h _=>nn h,λcx X i ns h=>nomatch h⟩
end
noncomputable def m8:List AV:=(List.range 4).map λk=>.str (upC k)
noncomputable def mt:List AV:=(List.range 4).map λk=>.str (loC k)
noncomputable def gi:List AV:=(List.range 16).map λn=>.str (twC n)
noncomputable def pgT(names:List AV):List AO:=[.tab 0,.tab 1,.tab 2,.list names,.list gi,.list m8,.list (mkC 0)]
noncomputable def pgC:IE:={ kd:=gb.names,L:=7,cells:=[(150,11),(140,10),(147,9),(146,8)],cd:=.none}
noncomputable def M0:List AO:=[.ns [(145,AV.ref 3),(148,AV.bool true),(149,AV.ref 12),(151,AV.ref 24)],.cell (some (AV.ref 4)),.cell (some (AV.ref 5)),.cell (some (AV.ref 6)),.cell (some (AV.ref 14)),.list [],.idn [(37,AV.bm (.bi 5) (.ref 12)),(38,AV.ref 16),(39,AV.bool false),(40,AV.bool false),(41,AV.none),(42,AV.none),(43,AV.bool true),(44,AV.none),(45,AV.none),(47,AV.ref 18),(48,AV.ref 19),(51,AV.ref 21),(52,AV.ref 22),(53,AV.none),(54,AV.bool false),(55,AV.bool false),(56,AV.int 0),(67,AV.st 307)],.inst 241 13,.ns [(25,AV.ref 14),(26,AV.bm (.bi 5) (.ref 12)),(27,AV.bool false),(28,AV.bool false),(29,AV.bool true),(30,AV.none),(31,AV.none),(32,AV.none),(33,AV.none)],.list [],.list [.tup [.str [104,116,116,112,58,47,47,119,119,119,46,119,51,46,111,114,103,47,88,77,76,47,49,57,57,56,47,110,97,109,101,115,112,97,99,101],.str [120,109,108]]],.list [AV.ref 17],.list [AV.ref 20],.list [.tup [.str [95],.str [115]],.tup [.str [1002,95],.str [114]],.tup [.str [1003,95],.str [113]],.tup [.str [1003,1002,95],.str [112]]],.dict [],.list [AV.bool false],.dead,.list [AV.none,AV.none,AV.none,AV.none],.dead,.ns [(25,AV.ref 14),(61,.str [115]),(63,.str [95])],.ns [(25,AV.ref 14),(61,.str [114]),(63,.str [1002,95])],.ns [(25,AV.ref 14),(61,.str [113]),(63,.str [1003,95])],.ns [(25,AV.ref 14),(61,.str [112]),(63,.str [1003,1002,95])]]
noncomputable def MR:List AO:=[.ns [(145,AV.ref 3),(148,AV.bool false),(149,AV.ref 12),(151,AV.ref 25)],.cell (some (AV.ref 4)),.cell (some (AV.ref 5)),.cell (some (AV.ref 6)),.cell (some (AV.ref 14)),.list [],.idn [(37,AV.bm (.bi 5) (.ref 12)),(38,AV.ref 16),(39,AV.bool false),(40,AV.bool false),(41,AV.none),(42,AV.none),(43,AV.bool false),(44,AV.none),(45,AV.none),(47,AV.ref 18),(48,AV.ref 19),(51,AV.ref 22),(52,AV.ref 23),(53,AV.none),(54,AV.bool false),(55,AV.bool false),(56,AV.int 0),(67,AV.st 307)],.inst 241 13,.ns [(25,AV.ref 14),(26,AV.bm (.bi 5) (.ref 12)),(27,AV.bool false),(28,AV.bool false),(29,AV.bool false),(30,AV.none),(31,AV.none),(32,AV.none),(33,AV.none)],.list [],.list [.tup [.str [104,116,116,112,58,47,47,119,119,119,46,119,51,46,111,114,103,47,88,77,76,47,49,57,57,56,47,110,97,109,101,115,112,97,99,101],.str [120,109,108]]],.list [AV.ref 17],.list [AV.ref 20,AV.ref 21],.list [.tup [.str [104,116,116,112,58,47,47,119,119,119,46,119,51,46,111,114,103,47,88,77,76,47,49,57,57,56,47,110,97,109,101,115,112,97,99,101],.str [120,109,108]],.tup [.str [104,116,116,112,58,47,47,119,119,119,46,119,51,46,111,114,103,47,49,57,57,57,47,120,104,116,109,108],.str [104,116,109,108]],.tup [.str [104,116,116,112,58,47,47,119,119,119,46,119,51,46,111,114,103,47,49,57,57,57,47,48,50,47,50,50,45,114,100,102,45,115,121,110,116,97,120,45,110,115,35],.str [114,100,102]],.tup [.str [104,116,116,112,58,47,47,115,99,104,101,109,97,115,46,120,109,108,115,111,97,112,46,111,114,103,47,119,115,100,108,47],.str [119,115,100,108]],.tup [.str [104,116,116,112,58,47,47,119,119,119,46,119,51,46,111,114,103,47,50,48,48,49,47,88,77,76,83,99,104,101,109,97],.str [120,115]],.tup [.str [104,116,116,112,58,47,47,119,119,119,46,119,51,46,111,114,103,47,50,48,48,49,47,88,77,76,83,99,104,101,109,97,45,105,110,115,116,97,110,99,101],.str [120,115,105]],.tup [.str [104,116,116,112,58,47,47,112,117,114,108,46,111,114,103,47,100,99,47,101,108,101,109,101,110,116,115,47,49,46,49,47],.str [100,99]]],.list [.tup [.str [95],.str [115]],.tup [.str [1002,95],.str [114]],.tup [.str [1003,95],.str [113]],.tup [.str [1003,1002,95],.str [112]]],.dict [],.list [AV.bool false],.dead,.list [AV.none,AV.none,AV.none,AV.none],.dead,.ns [(25,AV.ref 14),(61,.str [115]),(63,.str [95])],.ns [(25,AV.ref 14),(61,.str [114]),(63,.str [1002,95])],.ns [(25,AV.ref 14),(61,.str [113]),(63,.str [1003,95])],.ns [(25,AV.ref 14),(61,.str [112]),(63,.str [1003,1002,95])]]
noncomputable def pgA(names:List AV)(rw:Bool):List AO:=pgT names++ifB rw M0 MR
noncomputable def Mo(p:PE):PE:=match p with
 | .meth _ _ a=>a
 |_=>.no
noncomputable def pgS:PE:=fh gb.body 4
noncomputable def pgD:PE:=hdP (tlP (Mo (Mu (rhs pgS))))
noncomputable def Fns.we(F:Fns)(E:Nat->PE->IE->TH->(AF->TH->R)->R):Fns:={ F with exs:=E}
noncomputable def pgR:PE:=tlP (tlP (tlP (tlP gb.body)))
noncomputable def pgN(rw:Bool):Nat:=ifB rw 30 31
noncomputable def Np(rw:Bool):Nat:=ifB rw 24 25
noncomputable def pgX(names:List AV)(rw:Bool)(o:AO)(es:List (List Nat×AV))(w:List (Nat×AV)):TH:=mkT (pgA names rw++[o,.dict es,.ns w])
noncomputable def pgY(names:List AV)(rw:Bool)(es:List (List Nat×AV)):TH:=mkT (pgA names rw++[.dead,.bag es,.dead])
noncomputable def pgK(kf:AF->TH->R)(F:Fns)(rw:Bool)(H:TH):R:=(stp OV 3 F).call 29 (.st 211) [.ref 14,.str [123,95,125,114],.ref (pgN rw+1)] [] H λv H=>dY (gV 5 [.ref (Np rw),v] H) λ_ H=>(stp OV 7 F).exs 29 (tlP pgR) pgC H kf
noncomputable def pgE(kf:AF->TH->R)(F:Fns)(rw:Bool)(H:TH):R:=gNs H (pgN rw+2) λ_=>hK (st H (pgN rw+2) .dead) (pgN rw+1) λes=>opt (vU es) λes'=>pgK kf F rw (st (st H (pgN rw+2) .dead) (pgN rw+1) (.bag es'))
section
variable {names:List AV} {kr:AV->TH->R} {kf:AF->TH->R} {kk:TH->R} {k f:Nat} {F:Fns} {es:List (List Nat×AV)} {w:List (Nat×AV)} {v:AV}
theorem xu{E:Nat->PE->IE->TH->(AF->TH->R)->R}:∀rw,(stp OV 5 ((stp OV 30 F).we E)).call 30 (.st 312) [.ref 3,.ref 4,.ref 5,.ref 6,.bool rw] [] (mkT (pgT names)) kr=E 29 pgR pgC (mkT (pgA names rw)) λf H=>kr (gp f) H
 |true=>by kernel_rfl
 |false=>by kernel_rfl
theorem AE{C:Nat->Bool->PE->PE->Nat->Nat->IE->TH->(TH->R)->R}:∀rw,(stp OV 8 ((stp OV 30 F).wc C)).exs 29 pgR pgC (mkT (pgA names rw)) kf=C 29 true (lcE pgD) (lcG pgD) (pgN rw) (pgN rw+1) (eG pgC pgD (pgN rw+2)) (pgX names rw (.iter (.list 3 0)) [] []) (pgE kf ((stp OV 30 F).wc C) rw)
 |true=>by kernel_rfl
 |false=>by kernel_rfl
theorem GZ:∀rw,(fns OV (fu (f+1))).comp 29 true (lcE pgD) (lcG pgD) (pgN rw) (pgN rw+1) (eG pgC pgD (pgN rw+2)) (pgX names rw (.iter (.list 3 k)) es w) kk=ll (kk (pgX names rw .dead es w)) (λv=>jG OV (fu f) 29 true pgD (pgN rw) (pgN rw+1) (eG pgC pgD (pgN rw+2)) kk v (pgX names rw (.iter (.list 3 (k+1))) es w)) names[k]?
 |true=>by kernel_rfl
 |false=>by kernel_rfl
end
noncomputable def pgO(names:List AV)(rw:Bool)(es:List (List Nat×AV))(t:List Nat)(k f:Nat)(kk:TH->R):R:=
 dY (ifO (gi.all λy=>(rB y (.str t)).isSome) (opt (BI (.str t) gi 0) λi=>some (AV.int i,pgX names rw (.iter (.list 3 k)) es [(62,.str t)]))) λv H=>opt (name (eG pgC pgD (pgN rw+2)) H 140) λm=>(fns OV (fu f)).call 29 (.st 302) [v,m] [] H λb H=>
  opt (l8 (.str t) b (pgN rw+1) H) λH=>(fns OV (fu (f+1))).comp 29 true (lcE pgD) (lcG pgD) (pgN rw) (pgN rw+1) (eG pgC pgD (pgN rw+2)) H kk
section
variable {names:List AV} {kf:AF->TH->R} {kk:TH->R} {kb:AV->TH->R} {k f p:Nat} {F:Fns} {es:List (List Nat×AV)} {w:List (Nat×AV)} {t:List Nat} {u v:AV} {o:AO}
theorem zW:∀rw,jG OV (fu (f+1)) 29 true pgD (pgN rw) (pgN rw+1) (eG pgC pgD (pgN rw+2)) kk (.str t) (pgX names rw (.iter (.list 3 k)) es [])=pgO names rw es t k f kk
 |true=>by kernel_rfl
 |false=>by kernel_rfl
theorem Dn:∀rw,jG OV (fu (f+1)) 29 true pgD (pgN rw) (pgN rw+1) (eG pgC pgD (pgN rw+2)) kk (.str t) (pgX names rw (.iter (.list 3 k)) es [(62,u)])=pgO names rw es t k f kk
 |true=>by kernel_rfl
 |false=>by kernel_rfl
theorem Mv:∀rw,name (eG pgC pgD (pgN rw+2)) (pgX names rw o es w) 140=some (.ref 6)
 |true=>by kernel_rfl
 |false=>by kernel_rfl
theorem I7:∀rw,(fns OV (fu f)).call 29 (.st 302) [.int (p:Nat),.ref 6] [] (pgX names rw o es w) kb=ifO (kN (p:Nat)) (orO (kb (pD 0 p) (pgX names rw o es w)) none)
 |true=>by kernel_rfl
 |false=>by kernel_rfl
theorem Ik:∀rw,l8 (.str t) v (pgN rw+1) (pgX names rw o es w)=ifO (Nat.ble es.length dn) (opt (put t v es) λes'=>some (pgX names rw o es' w))
 |true=>by kernel_rfl
 |false=>by kernel_rfl
theorem Ij:∀rw,pgE kf F rw (pgX names rw .dead es w)=opt (vU es) λes'=>pgK kf F rw (pgY names rw es')
 |true=>by kernel_rfl
 |false=>by kernel_rfl
end
noncomputable def esC(Q:List Nat):List (List Nat×AV):=Q.map λp=>(twC p,pD 0 p)
noncomputable def dK(Q:List Nat):List AV:=Q.map λp=>.str (twC p)
theorem BB:((List.range 16).all λa=>(List.range 16).all λb=>decide (eM (twC a) (twC b)=some (Nat.beq a b))&&decide (gu (twC a) (twC b)=some (Nat.blt a b)))=true:=by kernel_rfl
theorem GL{a b:Nat}(ha:a<16)(hb:b<16):eM (twC a) (twC b)=some (Nat.beq a b):=dec (aa (aA.mp (aA.mp BB a (aT.mpr ha)) b (aT.mpr hb))).1
theorem LH{a b:Nat}(ha:a<16)(hb:b<16):gu (twC a) (twC b)=some (Nat.blt a b):=dec (aa (aA.mp (aA.mp BB a (aT.mpr ha)) b (aT.mpr hb))).2
theorem H4:∀p:Nat,p<16->(gi.all λy=>(rB y (.str (twC p))).isSome)=true:=kZ (by kernel_rfl) (by kernel_rfl) (by kernel_rfl) (by kernel_rfl) (by kernel_rfl) (by kernel_rfl) (by kernel_rfl) (by kernel_rfl) (by kernel_rfl) (by kernel_rfl) (by kernel_rfl) (by kernel_rfl) (by kernel_rfl) (by kernel_rfl) (by kernel_rfl) (by kernel_rfl)
theorem IW:∀p:Nat,p<16->BI (.str (twC p)) gi 0=some (p:Int):=kZ (by kernel_rfl) (by kernel_rfl) (by kernel_rfl) (by kernel_rfl) (by kernel_rfl) (by kernel_rfl) (by kernel_rfl) (by kernel_rfl) (by kernel_rfl) (by kernel_rfl) (by kernel_rfl) (by kernel_rfl) (by kernel_rfl) (by kernel_rfl) (by kernel_rfl) (by kernel_rfl)
theorem qT{p:Nat}(h:p<16):kN (p:Int)=true:=by
 unfold kN;rw[aS (bX p),show decide ((p:Int)<16)=true from aS (cF.mpr h)];rfl
theorem Ib{a b:Nat}(h:a≠b):Nat.beq a b=false:=by cases e:Nat.beq a b with | false=>rfl | true=>exact absurd (nb e) h
theorem xj{p:Nat}{v:AV}(hp:p<16):∀{Q:List Nat},(∀q∈Q,q<16)->p ∉ Q->put (twC p) v (esC Q)=some (esC Q++[(twC p,v)])
 | [],_,_=>rfl
 |q::Q,h16,hn=>by
  have e1:eM (twC q) (twC p)=some false:=by rw[GL (h16 q (.head _)) hp,Ib λe=>hn (by rw[e];exact .head _)]
  show tri (eM (twC q) (twC p)) _ _ _=_;rw[e1];show Option.map _ (put (twC p) v (esC Q))=_;rw[xj hp (λx hx=>h16 x (.tail _ hx)) λhm=>hn (.tail _ hm)];rfl
section
variable {names:List AV} {kk:TH->R} {rw':Bool}
theorem DY{p f k:Nat}{Q:List Nat}{w:List (Nat×AV)}(hw:w=[]\/∃u,w=[(62,u)])(hp:p<16)(hQ:∀q∈Q,q<16)(hn:p ∉ Q)(hl:Nat.ble (esC Q).length dn=true):
  jG OV (fu (f+1)) 29 true pgD (pgN rw') (pgN rw'+1) (eG pgC pgD (pgN rw'+2)) kk (.str (twC p)) (pgX names rw' (.iter (.list 3 k)) (esC Q) w)=(fns OV (fu (f+1))).comp 29 true (lcE pgD) (lcG pgD) (pgN rw') (pgN rw'+1) (eG pgC pgD (pgN rw'+2)) (pgX names rw' (.iter (.list 3 k)) (esC (Q++[p])) [(62,.str (twC p))]) kk:=by
 have turn:jG OV (fu (f+1)) 29 true pgD (pgN rw') (pgN rw'+1) (eG pgC pgD (pgN rw'+2)) kk (.str (twC p)) (pgX names rw' (.iter (.list 3 k)) (esC Q) w)=pgO names rw' (esC Q) (twC p) k f kk:=hw.elim (λe=>e▸zW rw') λ⟨u,e⟩=>e▸Dn rw';rw[turn,pgO,H4 p hp,eN,IW p hp,dJ,fq,Mv rw',dJ,I7 rw',qT hp,eN,r0,Ik rw',hl,eN,xj hp hQ hn,dJ,dJ,show esC (Q++[p])=esC Q++[(twC p,pD 0 p)] from bh]
theorem wV:∀{P Q:List Nat} {k f:Nat} {w:List (Nat×AV)},(w=[]\/∃u,w=[(62,u)])->names.drop k=dK P->(∀p∈Q++P,p<16)->(Q++P).Nodup->Q.length+P.length<=5->P.length<=f->
  ∃w',(fns OV (fu (f+1))).comp 29 true (lcE pgD) (lcG pgD) (pgN rw') (pgN rw'+1) (eG pgC pgD (pgN rw'+2)) (pgX names rw' (.iter (.list 3 k)) (esC Q) w) kk=kk (pgX names rw' .dead (esC (Q++P)) w')
 | [],Q,k,f,w,hw,hx,h16,hn,hl,hf=>⟨w,by rw[GZ rw',fE hx,jW,aU]⟩
 |p::P,Q,k,0,w,hw,hx,h16,hn,hl,hf=>absurd hf (bH _)
 |p::P,Q,k,f+1,w,hw,hx,h16,hn,hl,hf=>by
  obtain⟨e1,e2⟩:=gS (r:=dK P) hx;have e:Q++p::P=(Q++[p])++P:=List.append_cons Q p P;have hnp:p ∉ Q:=λhm=>(List.nodup_append.mp hn).2.2 p hm p (.head _) rfl;have hb:Nat.ble (esC Q).length dn=true:=by unfold esC;rw[aq];exact jh (ae (aK _ _) hl) qH
  obtain⟨w',ih⟩:=wV (P:=P) (Q:=Q++[p]) (k:=k+1) (f:=f) (w:=[(62,.str (twC p))]) (.inr ⟨_,rfl⟩) e2 (e▸h16) (e▸hn) (by rw[az,bf,bw [p].length];exact hl) (aW hf);refine⟨w',?_⟩;rw[e,GZ rw',e1,jN,DY hw (h16 p (List.mem_append_right _ (.head _))) (λq hq=>h16 q (List.mem_append_left _ hq)) hnp hb];exact ih
end
noncomputable def dH(m:Nat):List Nat:=(List.range 16).filter λk=>m.testBit k
noncomputable def iG:List Nat:=zO.tail
noncomputable def fK(fam:List Nat):List Nat:=(List.range 4).filter λk=>fam.any λp=>Nat.beq (Nat.div p 4) k
noncomputable def Ng(k:Nat)(l:List Nat):Nat:=List.rec (motive:=λ_=>Nat) 0 (λy _ ih=>ifB (Nat.beq y k) 0 (Nat.succ ih)) l
noncomputable def Hc(fam:List Nat)(rw:Bool)(k:Nat):List Nat:=ifB (rw&&e8 k (fK fam)) [110,48+Ng k (fK fam)] [[115,114,113,112].getD k 0]
noncomputable def iB(fam:List Nat)(rw:Bool):List Nat:=[60]++Hc fam rw 0++[58,114]++
 ((ifB rw (fK fam) (fK fam).reverse).flatMap λk=>[32,120,109,108,110,115,58]++Hc fam rw k++[61,34]++upC k++[34])++
 (fam.flatMap λp=>[32]++Hc fam rw (Nat.div p 4)++[58]++loC (Nat.mod p 4)++[61,34]++Jv 4 p++[34])++[62]
noncomputable def pgZ(f:AF)(H:TH):R:=fin (gp f) H
noncomputable abbrev qO(m:Nat):Prop:=∀(names:List AV),g0 7 (pgK pgZ (fns OV (fu 150)) true (pgY names true (esC (dH m))))=some (.ret (uP (iB (dH m) true)),(pgT names).map some)/\g0 7 (pgK pgZ (fns OV (fu 150)) false (pgY names false (esC (dH m))))=some (.ret (uP (iB (dH m) false)),(pgT names).map some)
theorem M6:∀m ∈ [1,3,5,7,15],qO m:=fc (λnames=>⟨by kernel_rfl,by kernel_rfl⟩) (fc (λnames=>⟨by kernel_rfl,by kernel_rfl⟩) (fc (λnames=>⟨by kernel_rfl,by kernel_rfl⟩) (fc (λnames=>⟨by kernel_rfl,by kernel_rfl⟩) (fc (λnames=>⟨by kernel_rfl,by kernel_rfl⟩) fn))))
theorem Nd:∀m ∈ [17,19,21,23,31],qO m:=fc (λnames=>⟨by kernel_rfl,by kernel_rfl⟩) (fc (λnames=>⟨by kernel_rfl,by kernel_rfl⟩) (fc (λnames=>⟨by kernel_rfl,by kernel_rfl⟩) (fc (λnames=>⟨by kernel_rfl,by kernel_rfl⟩) (fc (λnames=>⟨by kernel_rfl,by kernel_rfl⟩) fn))))
theorem Nv:∀m ∈ [51,55,85,87,257],qO m:=fc (λnames=>⟨by kernel_rfl,by kernel_rfl⟩) (fc (λnames=>⟨by kernel_rfl,by kernel_rfl⟩) (fc (λnames=>⟨by kernel_rfl,by kernel_rfl⟩) (fc (λnames=>⟨by kernel_rfl,by kernel_rfl⟩) (fc (λnames=>⟨by kernel_rfl,by kernel_rfl⟩) fn))))
theorem Ny:∀m ∈ [259,261,263,271,273],qO m:=fc (λnames=>⟨by kernel_rfl,by kernel_rfl⟩) (fc (λnames=>⟨by kernel_rfl,by kernel_rfl⟩) (fc (λnames=>⟨by kernel_rfl,by kernel_rfl⟩) (fc (λnames=>⟨by kernel_rfl,by kernel_rfl⟩) (fc (λnames=>⟨by kernel_rfl,by kernel_rfl⟩) fn))))
theorem Nk:∀m ∈ [275,277,279,307,341],qO m:=fc (λnames=>⟨by kernel_rfl,by kernel_rfl⟩) (fc (λnames=>⟨by kernel_rfl,by kernel_rfl⟩) (fc (λnames=>⟨by kernel_rfl,by kernel_rfl⟩) (fc (λnames=>⟨by kernel_rfl,by kernel_rfl⟩) (fc (λnames=>⟨by kernel_rfl,by kernel_rfl⟩) fn))))
theorem Nt:∀m ∈ [771,775,787,1285,1287],qO m:=fc (λnames=>⟨by kernel_rfl,by kernel_rfl⟩) (fc (λnames=>⟨by kernel_rfl,by kernel_rfl⟩) (fc (λnames=>⟨by kernel_rfl,by kernel_rfl⟩) (fc (λnames=>⟨by kernel_rfl,by kernel_rfl⟩) (fc (λnames=>⟨by kernel_rfl,by kernel_rfl⟩) fn))))
theorem MP:∀m ∈ [1301,4369,4371,4373],qO m:=fc (λnames=>⟨by kernel_rfl,by kernel_rfl⟩) (fc (λnames=>⟨by kernel_rfl,by kernel_rfl⟩) (fc (λnames=>⟨by kernel_rfl,by kernel_rfl⟩) (fc (λnames=>⟨by kernel_rfl,by kernel_rfl⟩) fn)))
theorem eF{α:Type}{Q:α->Prop}{l m:List α}(h:∀x∈l,Q x)(k:∀x∈m,Q x):∀x∈l++m,Q x:=λx hx=>(bS.mp hx).elim (h x) (k x)
theorem Gm:∀m∈iG,qO m:=show ∀m ∈ [1,3,5,7,15]++([17,19,21,23,31]++([51,55,85,87,257]++([259,261,263,271,273]++([275,277,279,307,341]++([771,775,787,1285,1287]++([1301,4369,4371,4373])))))),qO m from(eF M6 (eF Nd (eF Nv (eF Ny (eF Nk (eF Nt MP))))))
section
variable {β:Type} {lt:β->β->Option Bool} {f:Nat->β} {D:Nat->Prop}
theorem B5(hlt:∀a b,D a->D b->lt (f a) (f b)=some (Nat.blt a b)){x:Nat}(hx:D x):∀{r:List Nat},(∀y∈r,D y)->r.Pairwise (· < ·)->x ∉ r->∃s:List Nat,uh lt (f x) (r.map f)=some (s.map f)/\s.Perm (x::r)/\s.Pairwise (· < ·)
 | [],_,_,_=>⟨[x],rfl,.refl _,List.pairwise_singleton _ _⟩
 |y::r,hD,hp,hn=>by
  have hp:=List.pairwise_cons.mp hp;show ∃s:List Nat,tri (lt (f x) (f y)) (some (f x::f y::r.map f)) (opt (uh lt (f x) (r.map f)) λq=>some (f y::q)) none=some (s.map f)/\_;rw[hlt x y hx (hD y (.head _))];cases e:Nat.blt x y with
  |true=>exact⟨x::y::r,rfl,.refl _,List.pairwise_cons.mpr ⟨λz hz=>(aH.mp hz).elim (λq=>q▸jx e) λhz=>cu (jx e) (hp.1 z hz),List.pairwise_cons.mpr hp⟩⟩
  |false=>
   have hyx:y<x:=cZ (bo λh=>absurd (a9 h) (by rw[show Nat.ble (Nat.succ x) y=Nat.blt x y from rfl,e];exact ah)) λq=>hn (q ▸ .head _);refine dz (B5 hlt hx (λz hz=>hD z (.tail _ hz)) hp.2 λhm=>hn (.tail _ hm)) λs h1 h2 h3=>?_;rw[h1];exact⟨y::s,rfl,(h2.cons y).trans (.swap _ _ _),List.pairwise_cons.mpr ⟨λz hz=>(aH.mp (h2.mem_iff.mp hz)).elim (λq=>q▸hyx) (hp.1 z),h3⟩⟩
theorem vZ(hlt:∀a b,D a->D b->lt (f a) (f b)=some (Nat.blt a b)):∀{l:List Nat},(∀y∈l,D y)->l.Nodup->∃s:List Nat,jR lt (l.map f)=some (s.map f)/\s.Perm l/\s.Pairwise (· < ·)
 | [],_,_=>⟨[],rfl,.refl _,.nil⟩
 |x::r,hD,hn=>by
  have hn:=bu.mp hn;refine dz (vZ hlt (λy hy=>hD y (.tail _ hy)) hn.2) λs h1 h2 h3=>?_;refine dz (B5 hlt (hD x (.head _)) (λy hy=>hD y (.tail _ (h2.mem_iff.mp hy))) h3 λhm=>hn.1 (h2.mem_iff.mp hm)) λu k1 k2 k3=>?_;exact⟨u,by show opt (jR lt (r.map f)) (uh lt (f x))=_;rw[h1];exact k1,k2.trans (h2.cons x),k3⟩
theorem w4(hlt:∀a b,D a->D b->lt (f a) (f b)=some (Nat.blt a b)){l N:List Nat}(hD:∀y∈l,D y)(hn:l.Nodup)(hp:l.Perm N)(hN:N.Pairwise (· < ·)):jR lt (l.map f)=some (N.map f):=by
 refine dz (vZ hlt hD hn) λs h1 h2 h3=>?_;rw[h1,(h2.trans hp).eq_of_pairwise (λa b _ _ h1 h2=>absurd h1 (Nat.lt_asymm h2)) h3 hN]
end
theorem ss{m k:Nat}:k∈dH m↔k<16/\m.testBit k=true:=by unfold dH;rw[List.mem_filter,aT]
theorem mV(m:Nat):(dH m).Pairwise (· < ·):=List.Pairwise.filter _ List.pairwise_lt_range
theorem oM(m:Nat):(dH m).Nodup:=List.nodup_range.sublist List.filter_sublist
theorem xG{P:List Nat}{m:Nat}(h16:∀p∈P,p<16)(hn:P.Nodup)(hp:P.Perm (dH m)):vU (esC P)=some (esC (dH m)):=
 w4 (D:=λp=>p<16) (f:=λp=>(twC p,pD 0 p)) (λa b ha hb=>LH ha hb) h16 hn hp (mV m)
structure Ge (P:List Nat) (m:Nat):Prop where
 h16:∀p∈P,p<16
 nd:P.Nodup
 le:P.length<=5
 pp:P.Perm (dH m)
 mem:m∈iG
theorem CC{P:List Nat}{m:Nat}(p:Ge P m)(rw':Bool):∃n,g0 7 ((fns OV n).call 30 (.st 312) [.ref 3,.ref 4,.ref 5,.ref 6,.bool rw'] [] (mkT (pgT (dK P))) fin)=some (.ret (uP (iB (dH m) rw')),(pgT (dK P)).map some):=by
 refine⟨fu (128+35),?_⟩;have c1:(fns OV (fu (128+35))).call 30 (.st 312) [.ref 3,.ref 4,.ref 5,.ref 6,.bool rw'] [] (mkT (pgT (dK P))) fin=(fns OV (fu (128+30))).exs 29 pgR pgC (mkT (pgA (dK P) rw')) pgZ:=by
  rw[show fns OV (fu (128+35))=stp OV 5 (fns OV (fu (128+30))) from fus (g:=158) 5,fus (g:=128) 30];exact xu (E:=(stp OV 30 (fns OV (fu 128))).exs) rw'
 have c2:(fns OV (fu (128+30))).exs 29 pgR pgC (mkT (pgA (dK P) rw')) pgZ=(fns OV (fu (149+1))).comp 29 true (lcE pgD) (lcG pgD) (pgN rw') (pgN rw'+1) (eG pgC pgD (pgN rw'+2)) (pgX (dK P) rw' (.iter (.list 3 0)) (esC []) []) (pgE pgZ (fns OV (fu 150)) rw'):=by
  rw[show fns OV (fu (128+30))=stp OV 8 (fns OV (fu (120+30))) from fus (g:=150) 8,show fns OV (fu 150)=fns OV (fu (120+30)) from rfl,show fns OV (fu (149+1))=fns OV (fu (120+30)) from rfl,fus (g:=120) 30];exact AE (C:=(stp OV 30 (fns OV (fu 120))).comp) rw'
 obtain⟨w,h⟩:=wV (names:=dK P) (kk:=pgE pgZ (fns OV (fu 150)) rw') (rw':=rw') (P:=P) (Q:=[]) (k:=0) (f:=149) (w:=[]) (.inl rfl) rfl p.h16 p.nd (by rw[cG,aY];exact p.le) (ae p.le (by decide));rw[c1,c2,h,Ij rw',List.nil_append,xG p.h16 p.nd p.pp,dJ];exact rw'.casesOn (Gm m p.mem (dK P)).2 (Gm m p.mem (dK P)).1
noncomputable def xd(t:List Nat):Option Nat:=List.rec (motive:=λ_=>Option Nat) none (λn _ ih=>ifB (decide (twC n=t)) (some n) ih) (List.range 16)
noncomputable def oT(xs:List AV):Option (List Nat):=trv (λv=>dZ v xd) xs
theorem C9{t:List Nat}{n:Nat}(h:xd t=some n):n<16/\t=twC n:=by
 have key:∀l:List Nat,(∀n∈l,n<16)->(List.rec (motive:=λ_=>Option Nat) none (λn _ ih=>ifB (decide (twC n=t)) (some n) ih) l:Option Nat)=some n->n<16/\t=twC n:=λl=>by
  induction l with
  |nil=>exact λ_ h=>nomatch h
  |cons k r ih=>exact λhl h=>gC h (λq h=>so h λe=>e▸⟨hl k (.head _),(dec q).symm⟩) λ_ h=>ih (λn hn=>hl n (.tail _ hn)) h
 exact key _ (λn hn=>aT.mp hn) h
theorem AJ:∀n:Nat,n<16->xd (twC n)=some n:=kZ (by kernel_rfl) (by kernel_rfl) (by kernel_rfl) (by kernel_rfl) (by kernel_rfl) (by kernel_rfl) (by kernel_rfl) (by kernel_rfl) (by kernel_rfl) (by kernel_rfl) (by kernel_rfl) (by kernel_rfl) (by kernel_rfl) (by kernel_rfl) (by kernel_rfl) (by kernel_rfl)
theorem p6:∀{xs:List AV} {P:List Nat},oT xs=some P->xs=dK P/\∀p∈P,p<16
 | [],P,h=>so h λe=>e▸⟨rfl,fn⟩
 |y::r,P,h=>dq h λk h1 h=>dq h λq h2 h=>so h λe=>dL h1 λl e1 h1=>by
  obtain⟨k1,k2⟩:=C9 h1;obtain⟨k3,k4⟩:=p6 h2;rw[<-e,e1,k2,k3];exact⟨rfl,fc k1 k4⟩
noncomputable def yA(l:List Nat):Bool:=List.rec (motive:=λ_=>Bool) true (λx r ih=>!e8 x r&&ih) l
theorem lF:∀{l:List Nat},yA l=true->l.Nodup
 | [],_=>.nil
 |x::r,h=>bu.mpr ⟨λhm=>(by have:=(aa h).1;rw[eu.mpr hm]at this;exact fT this),lF (aa h).2⟩
noncomputable def tN(P:List Nat):Option Nat:=ifO (yA P&&(Nat.ble P.length 5&&e8 (fL P) iG)) (some (fL P))
theorem nv{P:List Nat}(hn:P.Nodup)(h16:∀p∈P,p<16):P.Perm (dH (fL P)):=by
 refine(c9 hn (oM _)).mpr λk=>?_;rw[ss,iP,aR];exact⟨λh=>⟨h16 k h,h⟩,λh=>h.2⟩
theorem Ba{P:List Nat}{m:Nat}(h:tN P=some m)(h16:∀p∈P,p<16):Ge P m:=ifE h λq h=>so h λe=>by
 obtain⟨q1,q⟩:=aa q;obtain⟨q2,q3⟩:=aa q;rw[<-e];exact⟨h16,lF q1,leb q2,nv (lF q1) h16,eu.mp q3⟩
noncomputable def Ga(q b:Nat):List (List Nat):=(List.range 4).map λj=>gA q (b+j)
noncomputable def kU(b:Nat)(ms:List AV):Option Nat:=List.rec (motive:=λ_=>Option Nat) none (λq _ ih=>ifB (decide (jV ms=some (Ga q b))) (some q) ih) (List.range 6)
theorem qx{b:Nat}{ms:List AV}{q:Nat}(h:kU b ms=some q):q<6/\ms=mkQ q b:=by
 have key:∀l:List Nat,(∀n∈l,n<6)->(List.rec (motive:=λ_=>Option Nat) none (λq _ ih=>ifB (decide (jV ms=some (Ga q b))) (some q) ih) l:Option Nat)=some q->q<6/\ms=mkQ q b:=λl=>by
  induction l with
  |nil=>exact λ_ h=>nomatch h
  |cons k r ih=>exact λhl h=>gC h (λz h=>so h λe=>e▸⟨hl k (.head _),(gT (dec z)).trans (aV ..)⟩) λ_ h=>ih (λn hn=>hl n (.tail _ hn)) h
 exact key _ (λn hn=>aT.mp hn) h
noncomputable def l5{α β:Type}(xs:List α)(k:α->α->α->α->α->Option β):Option β:=List.casesOn xs none λa r=>List.casesOn r none λb r=>l3 r (k a b)
theorem l5E{α β:Type}{xs:List α}{k:α->α->α->α->α->Option β}{z:β}{P:Prop}(h:l5 xs k=some z)(w:∀a b c d e,xs=[a,b,c,d,e]->k a b c d e=some z->P):P:=by
 cases xs with
 |nil=>exact nS h
 |cons a r=>cases r with
  |nil=>exact nS h
  |cons b r=>exact l3E (k:=k a b) h λc d e q h=>w a b c d e (by rw[q]) h
noncomputable def MI(ts:List AV):Bool:=decide (jV ts=some ((List.range 16).map twC))
noncomputable def IA(us:List AV):Bool:=decide (jV us=some ((List.range 4).map upC))
theorem EM{ts:List AV}(h:MI ts=true):ts=gi:=(gT (dec h)).trans (aV ..)
theorem wu{ts:List AV}(h:IA ts=true):ts=m8:=(gT (dec h)).trans (aV ..)
noncomputable def sQ:OFn:=λargs H k=>l5 args λa b c m r=>eJ a λi3=>eJ b λi4=>eJ c λi5=>eJ m λi6=>m5 r λrw=>dR H i3 λns=>dR H i4 λts=>dR H i5 λus=>dR H i6 λms=>
 vj H (ifO (MI ts&&(IA us&&(yA [i3,i4,i5,i6] && [i3,i4,i5,i6].all (Nat.ble 3)))) (opt (oT ns) λP=>opt (tN P) λf=>opt (kU 0 ms) λq=>k (.str (gr q (iB (dH f) rw))) H))
section
variable {K:Frag}
theorem jo{γ:Type}{f:γ->List Nat}:∀{ys:List γ},∀x∈ys.map (λy=>AV.str (f y)),x.wf 0:=λx hx=>by refine dm (bx.mp hx) λy _ e=>?_;rw[<-e];trivial
theorem CX:FOk K 30 312 sQ:=⟨_,rfl,λcx X d args H k z Pr hd h w=>l5E h λa b c m r e h=>dP h λi3 e3 h=>dP h λi4 e4 h=>dP h λi5 e5 h=>dP h λi6 e6 h=>kX h λrw' er h=>dG h λns h3 h=>dG h λts h4 h=>dG h λus h5 h=>dG h λms h6 h=>
 qd h λt0 t1 t2 h=>ifE h λz1 h=>dq h λP hP h=>dq h λf hf h=>dq h λq hq h=>w _ H (by
  obtain⟨z2,z1⟩:=aa z1;obtain⟨z3,z1⟩:=aa z1;obtain⟨z4,z5⟩:=aa z1;obtain⟨k1,k2⟩:=p6 hP;obtain⟨q6,eq⟩:=qx hq;have pp:=Ba hf k2;rw[k1]at h3;rw[EM z2]at h4;rw[wu z3]at h5;rw[eq]at h6;obtain⟨n,hr⟩:=CC pp rw';refine dm (yZ hr) λH' hx hk=>?_;have nd:=bu.mp (lF z4);have nd2:=bu.mp nd.2;have nd3:=bu.mp nd2.2;have p:fO H.L [0,1,2,i3,i4,i5,i6] [.tab 0,.tab 1,.tab 2,.list (dK P),.list gi,.list m8,.list (mkQ q 0)]:=
   iu (.cons (.cons (.cons (lL (dA h6) rfl jo) (dA h5) rfl jo nd3.1) (dA h4) rfl jo nd2.1) (dA h3) rfl jo nd.1) t0 t1 t2 z5
  have C:=dE.ring (d:=30) (a:=312) (q:=q) (l:=iB (dH f) rw') (T':=pgT (dK P)) (T'':=H'.L) (args:=[.ref 3,.ref 4,.ref 5,.ref 6,.bool rw']) X p q6
   (.cons iH (.cons iH (.cons iH (.cons jZ (.cons jZ (.cons jZ (.cons wm .nil))))))) rfl (λcx' X'=>by
    have:=(gF GP X' hx).2;rw[fS rfl]at this;exact this) (fc (show 3<7 by decide) (fc (show 4<7 by decide) (fc (show 5<7 by decide) (fc (show 6<7 by decide) (fc trivial fn))))) (fc (.inl ⟨_,rfl⟩) (fc (.inl ⟨_,rfl⟩) (fc (.inl ⟨_,rfl⟩) (fc (.inl ⟨_,rfl⟩) (fc (.inr λcx N s ρ n n' V=>Iff.rfl) fn))))) (nA hk)
  rw[e,e3,e4,e5,e6,er];exact C.mono hd) h⟩
end
noncomputable def dw(l:List Nat):List AV:=l.map λ(k:Nat)=>.int (k:Int)
noncomputable def IH(m:Nat):List AO:=[.tab 0,.tab 1,.tab 2,.list (dw (dH m)),.list (dw (fK (dH m))),.list m8,.list mt,.list (mkC 4)]
noncomputable abbrev mf(m:Nat):Prop:=∀rw:Bool,g0 8 ((fns OV (fu 100)).call 30 (.st 317) [.ref 3,.ref 4,.ref 5,.ref 6,.ref 7,.bool rw] [] (mkT (IH m)) fin)=some (.ret (uP (iB (dH m) rw)),(IH m).map some)
theorem fI{Q:Bool->Prop}(t:Q true)(f:Q false):∀b,Q b
 |true=>t
 |false=>f
theorem Le:∀m ∈ [1,3,5,7,15],mf m:=fc (fI (by kernel_rfl) (by kernel_rfl)) (fc (fI (by kernel_rfl) (by kernel_rfl)) (fc (fI (by kernel_rfl) (by kernel_rfl)) (fc (fI (by kernel_rfl) (by kernel_rfl)) (fc (fI (by kernel_rfl) (by kernel_rfl)) fn))))
theorem LA:∀m ∈ [17,19,21,23,31],mf m:=fc (fI (by kernel_rfl) (by kernel_rfl)) (fc (fI (by kernel_rfl) (by kernel_rfl)) (fc (fI (by kernel_rfl) (by kernel_rfl)) (fc (fI (by kernel_rfl) (by kernel_rfl)) (fc (fI (by kernel_rfl) (by kernel_rfl)) fn))))
theorem Kn:∀m ∈ [51,55,85,87,257],mf m:=fc (fI (by kernel_rfl) (by kernel_rfl)) (fc (fI (by kernel_rfl) (by kernel_rfl)) (fc (fI (by kernel_rfl) (by kernel_rfl)) (fc (fI (by kernel_rfl) (by kernel_rfl)) (fc (fI (by kernel_rfl) (by kernel_rfl)) fn))))
theorem KT:∀m ∈ [259,261,263,271,273],mf m:=fc (fI (by kernel_rfl) (by kernel_rfl)) (fc (fI (by kernel_rfl) (by kernel_rfl)) (fc (fI (by kernel_rfl) (by kernel_rfl)) (fc (fI (by kernel_rfl) (by kernel_rfl)) (fc (fI (by kernel_rfl) (by kernel_rfl)) fn))))
theorem Kt:∀m ∈ [275,277,279,307,341],mf m:=fc (fI (by kernel_rfl) (by kernel_rfl)) (fc (fI (by kernel_rfl) (by kernel_rfl)) (fc (fI (by kernel_rfl) (by kernel_rfl)) (fc (fI (by kernel_rfl) (by kernel_rfl)) (fc (fI (by kernel_rfl) (by kernel_rfl)) fn))))
theorem LO:∀m ∈ [771,775,787,1285,1287],mf m:=fc (fI (by kernel_rfl) (by kernel_rfl)) (fc (fI (by kernel_rfl) (by kernel_rfl)) (fc (fI (by kernel_rfl) (by kernel_rfl)) (fc (fI (by kernel_rfl) (by kernel_rfl)) (fc (fI (by kernel_rfl) (by kernel_rfl)) fn))))
theorem LQ:∀m ∈ [1301,4369,4371,4373],mf m:=fc (fI (by kernel_rfl) (by kernel_rfl)) (fc (fI (by kernel_rfl) (by kernel_rfl)) (fc (fI (by kernel_rfl) (by kernel_rfl)) (fc (fI (by kernel_rfl) (by kernel_rfl)) fn)))
theorem Iw:∀m∈iG,mf m:=show ∀m ∈ [1,3,5,7,15]++([17,19,21,23,31]++([51,55,85,87,257]++([259,261,263,271,273]++([275,277,279,307,341]++([771,775,787,1285,1287]++([1301,4369,4371,4373])))))),mf m from(eF Le (eF LA (eF Kn (eF KT (eF Kt (eF LO LQ))))))
noncomputable def tw(ns:List Int):Option Nat:=opt (some (fL (ns.map Int.toNat))) λm=>ifO (e8 m iG&&decide (ns=(dH m).map λ(k:Nat)=>(k:Int))) (some m)
theorem y9{ns:List Int}{m:Nat}(h:tw ns=some m):m∈iG/\ns=(dH m).map λ(k:Nat)=>(k:Int):=ifE h λq h=>so h λe=>e▸⟨eu.mp (aa q).1,dec (aa q).2⟩
noncomputable def Kw(us:List AV):Bool:=decide (jV us=some ((List.range 4).map loC))
theorem EP{ts:List AV}(h:Kw ts=true):ts=mt:=(gT (dec h)).trans (aV ..)
noncomputable def l6{α β:Type}(xs:List α)(k:α->α->α->α->α->α->Option β):Option β:=List.casesOn xs none λa r=>l5 r (k a)
theorem l6E{α β:Type}{xs:List α}{k:α->α->α->α->α->α->Option β}{z:β}{P:Prop}(h:l6 xs k=some z)(w:∀a b c d e f,xs=[a,b,c,d,e,f]->k a b c d e f=some z->P):P:=by
 cases xs with
 |nil=>exact nS h
 |cons a r=>exact l5E (k:=k a) h λb c d e f q h=>w a b c d e f (by rw[q]) h
noncomputable def FM:OFn:=λargs H k=>l6 args λa b c t m r=>eJ a λi3=>eJ b λi4=>eJ c λi5=>eJ t λi6=>eJ m λi7=>m5 r λrw=>dR H i3 λns=>dR H i4 λus=>dR H i5 λvs=>dR H i6 λts=>dR H i7 λms=>
 vj H (ifO (IA vs&&(Kw ts&&(yA [i3,i4,i5,i6,i7] && [i3,i4,i5,i6,i7].all (Nat.ble 3)))) (opt (gl ns) λn=>opt (tw n) λf=>opt (gl us) λu=>ifO (decide (u=(fK (dH f)).map λ(k:Nat)=>(k:Int))) (opt (kU 4 ms) λq=>k (.str (gr q (iB (dH f) rw))) H)))
theorem nC{l:List Nat}:(l.map λ(k:Nat)=>(k:Int)).map AV.int=dw l:=aV ..
section
variable {K:Frag}
theorem tP{q:Nat}{l:List Nat}:oq q (.list (dw l)) (.list (dw l)):=nC▸Bs
theorem Au{l:List Nat}{n:Nat}:∀x∈dw l,x.wf n:=nC▸ku _
theorem ES:FOk K 30 317 FM:=⟨_,rfl,λcx X d args H k z Pr hd h w=>l6E h λa b c t m r e h=>dP h λi3 e3 h=>dP h λi4 e4 h=>dP h λi5 e5 h=>dP h λi6 e6 h=>dP h λi7 e7 h=>kX h λrw' er h=>dG h λns h3 h=>dG h λus h4 h=>dG h λvs h5 h=>dG h λts h6 h=>dG h λms h7 h=>
 qd h λt0 t1 t2 h=>ifE h λz1 h=>dq h λn hn h=>dq h λf hf h=>dq h λu hu h=>ifE h λhu2 h=>dq h λq hq h=>w _ H (by
  obtain⟨z2,z1⟩:=aa z1;obtain⟨z3,z1⟩:=aa z1;obtain⟨z4,z5⟩:=aa z1;obtain⟨q6,eq⟩:=qx hq;obtain⟨fm,en⟩:=y9 hf;rw[gU hn,en,nC]at h3;rw[gU hu,show u=_ from dec hu2,nC]at h4;rw[wu z2]at h5;rw[EP z3]at h6;rw[eq]at h7;refine dm (yZ (Iw f fm rw')) λH' hx hk=>?_;have nd:=bu.mp (lF z4);have nd2:=bu.mp nd.2;have nd3:=bu.mp nd2.2;have nd4:=bu.mp nd3.2;have p:fO H.L [0,1,2,i3,i4,i5,i6,i7] [.tab 0,.tab 1,.tab 2,.list (dw (dH f)),.list (dw (fK (dH f))),.list m8,.list mt,.list (mkQ q 4)]:=
   iu (.cons (.cons (.cons (.cons (lL (dA h7) rfl jo) (dA h6) rfl jo nd4.1) (dA h5) rfl jo nd3.1) (dA h4) rfl Au nd2.1) (dA h3) rfl Au nd.1) t0 t1 t2 z5
  have C:=dE.ring (d:=30) (a:=317) (q:=q) (l:=iB (dH f) rw') (T':=IH f) (T'':=H'.L) (args:=[.ref 3,.ref 4,.ref 5,.ref 6,.ref 7,.bool rw']) X p q6
   (.cons iH (.cons iH (.cons iH (.cons tP (.cons tP (.cons jZ (.cons jZ (.cons wm .nil)))))))) rfl (λcx' X'=>by
    have:=(gF GP X' hx).2;rw[fS rfl]at this;exact this) (fc (show 3<8 by decide) (fc (show 4<8 by decide) (fc (show 5<8 by decide) (fc (show 6<8 by decide) (fc (show 7<8 by decide) (fc trivial fn)))))) (fc (.inl ⟨_,rfl⟩) (fc (.inl ⟨_,rfl⟩) (fc (.inl ⟨_,rfl⟩) (fc (.inl ⟨_,rfl⟩) (fc (.inl ⟨_,rfl⟩) (fc (.inr λcx N s ρ n n' V=>Iff.rfl) fn)))))) (nA hk)
  rw[e,e3,e4,e5,e6,e7,er];exact C.mono hd) h⟩
end
noncomputable def yO(ns:List Int)(i:Nat):Option (List Int):=ifB (Nat.beq i 323) (some ns) none
noncomputable def OE(ns:List Int):Orc:=⟨λ_ _ _ _ e=>e,λ_ _ _ _=>none,0,yO ns⟩
theorem K9{K:Frag}{ns:List Int}(hE:ut K (yO ns)):gL K (OE ns):=⟨(fw K).1,(fw K).2.1,hE⟩
noncomputable def ceC:IE:=kG gk.names 0 [] .none
noncomputable def ceP:PE:=rhs (fh gk.body 1)
noncomputable def ceS(j:Nat):Int:=[155,9,6,14,3,8].getD j 0
noncomputable def u5(ns:List Int)(j:Nat):List AV:=lX (some (j:Int)) none (some 6) (ns.map .inu)
noncomputable def ceM(ns:List Int)(j:Nat):Option (List Int):=trv (λv=>orO (eh v some) (um v some)) (u5 ns j)
noncomputable def ceX(o:AO)(acc:List AV)(w:List (Nat×AV))(ns:List Int)(j:Nat):TH:=mkT ([.ns [],.cell (some (.st 323)),.cell (some (.ref 3)),.list [.int 155,.int 9,.int 6,.int 14,.int 3,.int 8],o,.list acc,.ns w]++(List.range j).map λj=>.list (u5 ns j))
noncomputable def ceR(ns:List Int)(j f:Nat)(kk:TH->R)(v:AV)(H:TH):R:=dY (gV 1 [v] H) λv H=>dY (p4 .Add (.int (ceS j)) (unb v) H) λv H=>opt (iD v 5 H) λH=>(fns (OE ns) (fu f)).comp 19 false (lcE ceP) (lcG ceP) 4 5 (eG ceC ceP 6) H kk
section
variable {ns ms:List Int} {acc:List AV} {w:List (Nat×AV)} {u v:AV} {f g n:Nat} {kk:TH->R} {kr:AV->TH->R} {F:Fns} {o:AO}
theorem y0{C:Nat->Bool->PE->PE->Nat->Nat->IE->TH->(TH->R)->R}:(stp (OE ns) 5 ((stp (OE ns) 9 F).wc C)).call 20 (.st 264) [.st 323] [] (mkT []) kr=C 19 false (lcE ceP) (lcG ceP) 4 5 (eG ceC ceP 6) (ceX (.iter (.rng 0 1 6)) [] [] ns 0) λH=>gNs H 6 λ_=>kr (.ref 5) (st H 6 .dead):=by kernel_rfl
theorem FF:(fns (OE ns) (fu (g+14))).call 20 (.st 264) [.st 323] [] (mkT []) kr=(fns (OE ns) (fu (g+9))).comp 19 false (lcE ceP) (lcG ceP) 4 5 (eG ceC ceP 6) (ceX (.iter (.rng 0 1 6)) [] [] ns 0) λH=>gNs H 6 λ_=>kr (.ref 5) (st H 6 .dead):=by
 rw[show fns (OE ns) (fu (g+14))=stp (OE ns) 5 (fns (OE ns) (fu (g+9))) from fus 5,fus 9];exact y0 (C:=(stp (OE ns) 9 (fns (OE ns) (fu g))).comp)
theorem y5:(fns (OE ns) (fu (f+1))).comp 19 false (lcE ceP) (lcG ceP) 4 5 (eG ceC ceP 6) (ceX (.iter (.rng 0 1 (n+1))) acc [] ns 0) kk =
  dY (ifO (Nat.ble (ns.map AV.inu).length dn&&decide (some (6:Int)≠some 0)) (new (ceX (.iter (.rng 1 1 n)) acc [(0,.int 0)] ns 0) (.list (u5 ns 0)))) (ceR ns 0 f kk):=by kernel_rfl
theorem Dv:∀j:Nat,j<6->(fns (OE ns) (fu (f+1))).comp 19 false (lcE ceP) (lcG ceP) 4 5 (eG ceC ceP 6) (ceX (.iter (.rng (j:Int) 1 (n+1))) acc [(0,u)] ns j) kk =
  dY (ifO (Nat.ble (ns.map AV.inu).length dn&&decide (some (6:Int)≠some 0)) (new (ceX (.iter (.rng ((j+1:Nat):Int) 1 n)) acc [(0,.int (j:Int))] ns j) (.list (u5 ns j)))) (ceR ns j f kk):=
 lt6 (by kernel_rfl) (by kernel_rfl) (by kernel_rfl) (by kernel_rfl) (by kernel_rfl) (by kernel_rfl)
theorem H6:∀j:Nat,j<6->new (ceX o acc w ns j) (.list (u5 ns j))=some (.ref (7+j),ceX o acc w ns (j+1)):=lt6 (by kernel_rfl) (by kernel_rfl) (by kernel_rfl) (by kernel_rfl) (by kernel_rfl) (by kernel_rfl)
theorem HR:∀j:Nat,j<6->gV 1 [.ref (7+j)] (ceX o acc w ns (j+1))=opt (ceM ns j) λms=>some (.inu ms.sum,ceX o acc w ns (j+1)):=lt6 (by kernel_rfl) (by kernel_rfl) (by kernel_rfl) (by kernel_rfl) (by kernel_rfl) (by kernel_rfl)
theorem JM:∀j:Nat,j<6->iD v 5 (ceX o acc w ns (j+1))=ifO (Nat.ble acc.length dn) (some (ceX o (acc++[v]) w ns (j+1))):=lt6 (by kernel_rfl) (by kernel_rfl) (by kernel_rfl) (by kernel_rfl) (by kernel_rfl) (by kernel_rfl)
theorem Ig{H:TH}{i t:Int}:p4 .Add (.int i) (unb (.inu t)) H=some (.int (i+t),H):=rfl
theorem kC{j:Nat}(hj:j<6)(hl:Nat.ble (ns.map AV.inu).length dn=true)(hm:ceM ns j=some ms)(hb:Nat.ble acc.length dn=true)(hw:(w=[]/\j=0)\/∃u,w=[(0,u)]):(fns (OE ns) (fu (f+1))).comp 19 false (lcE ceP) (lcG ceP) 4 5 (eG ceC ceP 6) (ceX (.iter (.rng (j:Int) 1 (n+1))) acc w ns j) kk =
  (fns (OE ns) (fu f)).comp 19 false (lcE ceP) (lcG ceP) 4 5 (eG ceC ceP 6) (ceX (.iter (.rng ((j+1:Nat):Int) 1 n)) (acc++[.int (ceS j+ms.sum)]) [(0,.int (j:Int))] ns (j+1)) kk:=by
 have turn:(fns (OE ns) (fu (f+1))).comp 19 false (lcE ceP) (lcG ceP) 4 5 (eG ceC ceP 6) (ceX (.iter (.rng (j:Int) 1 (n+1))) acc w ns j) kk =
   dY (ifO (Nat.ble (ns.map AV.inu).length dn&&decide (some (6:Int)≠some 0)) (new (ceX (.iter (.rng ((j+1:Nat):Int) 1 n)) acc [(0,.int (j:Int))] ns j) (.list (u5 ns j)))) (ceR ns j f kk):=by
  rcases hw with ⟨e,ej⟩ | ⟨u,e⟩
  ·rw[e,ej];exact y5
  ·rw[e];exact Dv j hj
 rw[turn,hl,show(true&&decide (some (6:Int)≠some 0))=true from rfl,eN,H6 j hj,fq,ceR,HR j hj,hm,dJ,fq,Ig,fq,JM j hj,hb,eN,dJ]
theorem IZ:(fns (OE ns) (fu (f+1))).comp 19 false (lcE ceP) (lcG ceP) 4 5 (eG ceC ceP 6) (ceX (.iter (.rng 6 1 0)) acc w ns 6) kk=kk (ceX .dead acc w ns 6):=by kernel_rfl
theorem Jc:pB 0 5 (gNs (ceX .dead acc w ns 6) 6 λ_=>fin (.ref 5) (st (ceX .dead acc w ns 6) 6 .dead))=some (.ret (.ref 5),some (.list acc),[]):=by kernel_rfl
end
noncomputable def ceL(ns:List Int)(k:List AV->Option (AF×TH)):R:=opt (ceM ns 0) λa=>opt (ceM ns 1) λb=>opt (ceM ns 2) λc=>opt (ceM ns 3) λd=>opt (ceM ns 4) λe=>opt (ceM ns 5) λf=>k [.int (155+a.sum),.int (9+b.sum),.int (6+c.sum),.int (14+d.sum),.int (3+e.sum),.int (8+f.sum)]
theorem IR{ns a b c d e f:List Int}(hl:Nat.ble (ns.map AV.inu).length dn=true)(h0:ceM ns 0=some a)(h1:ceM ns 1=some b)(h2:ceM ns 2=some c)(h3:ceM ns 3=some d)(h4:ceM ns 4=some e)(h5:ceM ns 5=some f):
  pB 0 5 ((fns (OE ns) (fu 23)).call 20 (.st 264) [.st 323] [] (mkT []) fin)=some (.ret (.ref 5),some (.list [.int (155+a.sum),.int (9+b.sum),.int (6+c.sum),.int (14+d.sum),.int (3+e.sum),.int (8+f.sum)]),[]):=by
 have s0:=λkk=>kC (f:=17) (n:=5) (acc:=[]) (kk:=kk) (j:=0) (by decide) hl h0 rfl (.inl ⟨rfl,rfl⟩);have s1:=λkk=>kC (f:=16) (n:=4) (acc:=[]++[.int (ceS 0+a.sum)]) (kk:=kk) (j:=1) (by decide) hl h1 rfl (.inr ⟨.int ((0:Nat):Int),rfl⟩);have s2:=λkk=>kC (f:=15) (n:=3) (acc:=[]++[.int (ceS 0+a.sum)]++[.int (ceS 1+b.sum)]) (kk:=kk) (j:=2) (by decide) hl h2 rfl (.inr ⟨.int ((1:Nat):Int),rfl⟩);have s3:=λkk=>kC (f:=14) (n:=2) (acc:=[]++[.int (ceS 0+a.sum)]++[.int (ceS 1+b.sum)]++[.int (ceS 2+c.sum)]) (kk:=kk) (j:=3) (by decide) hl h3 rfl (.inr ⟨.int ((2:Nat):Int),rfl⟩);have s4:=λkk=>kC (f:=13) (n:=1) (acc:=[]++[.int (ceS 0+a.sum)]++[.int (ceS 1+b.sum)]++[.int (ceS 2+c.sum)]++[.int (ceS 3+d.sum)]) (kk:=kk) (j:=4) (by decide) hl h4 rfl (.inr ⟨.int ((3:Nat):Int),rfl⟩);have s5:=λkk=>kC (f:=12) (n:=0) (acc:=[]++[.int (ceS 0+a.sum)]++[.int (ceS 1+b.sum)]++[.int (ceS 2+c.sum)]++[.int (ceS 3+d.sum)]++[.int (ceS 4+e.sum)]) (kk:=kk) (j:=5) (by decide) hl h5 rfl (.inr ⟨.int ((4:Nat):Int),rfl⟩);have c:=FF (ns:=ns) (kr:=fin) (g:=9);refine(aB (pB 0 5) (c.trans ((s0 _).trans ((s1 _).trans ((s2 _).trans ((s3 _).trans ((s4 _).trans ((s5 _).trans (IZ (f:=11)))))))))).trans Jc
noncomputable def Bm(ns:List Int):OFn:=λargs H k=>l1 args λa=>sSt a λi=>ifO (Nat.beq i 323&&Nat.ble (ns.map AV.inu).length dn) (ceL ns λcs=>dY (new H (.list cs)) k)
theorem yW{K:Frag}{ns:List Int}(hE:ut K (yO ns)):FOk K 30 264 (Bm ns):=⟨_,rfl,λcx X d args H k z P hd h w=>l1E h λa ea h=>yN h λi ei h=>ifE h λq h=>dq h λa h0 h=>dq h λb h1 h=>dq h λc h2 h=>dq h λd' h3 h=>dq h λe h4 h=>dq h λf h5 h=>gx h λv H' hn h=>kI hn λev eH=>w v H' (by
 rw[ea,ei,nb (aa q).1,ev,eH];exact(kh (args:=[.st 323]) (K9 hE) X lZ rfl (IR (aa q).2 h0 h1 h2 h3 h4 h5) (fc trivial fn) rfl rfl (fc trivial (fc trivial (fc trivial (fc trivial (fc trivial (fc trivial fn))))))).mono (ae (by decide) hd)) h⟩
section
variable {cx:Cx} {K:Frag} {d i:Nat} {HL T':List AO} {r v f:AV} {args:List AV} {s s':Shared} {ρ ρ'':Nat->Addr} {o o':AO}
theorem xI(g:cx.Good)(S:SR cx ρ HL s)(p:fO HL [i] [o])(S':SR (cut cx s ρ [i]) ρ'' T' s')(E:Ext (sub ρ [i]) 1 s ρ'' s')(e':T'[0]? = some o')(al':dN o'=true)(hw:o'.wf 0):SR cx ρ (HL.set i o') s'/\Ext ρ HL.length s ρ s':=by
 obtain⟨k,X⟩:=pH g S p S' E.tk;refine tH (p.at_ 0 o rfl) λi' h1 hi al _=>?_;obtain rfl:=ak h1;have ns:∀a,uS ρ [i] a->a=ρ i:=λa ⟨j,hj,q⟩=>(br.mp hj)▸q;have back:∀j q,(HL.set i o')[j]? = some q->dN q=true->∃q',HL[j]? = some q'/\dN q'=true:=λj q e a=>
  (jO e).elim (λz=>⟨q,z.2,a⟩) λz=>⟨o,z.1▸hi,al⟩
 refine⟨⟨λa ob e=>k a ob (S.keep a ob e) λz=>?_,λj q e=>?_,λx y ox oy ex ey ax ay q=>?_,λx ox ex ax=>?_,S'.gens,S'.os,S.tk E.tk⟩,X⟩
 ·rw[ns a z,S.new _ _ hi al]at e;exact nS e
 ·rw[aE]
  refine(jO e).elim (λz=>?_) λz=>?_
  ·exact(S.own j q z.2).ext g X (ad _) λap ob eo=>k _ _ eo λw=>z.1 (S.inj i j _ _ hi z.2 al ap (ns _ w).symm)
  ·rw[<-z.1,z.2.1]
   have own:=S'.own 0 o' e';rw[E.ag 0 (aD 0)]at own;exact OR.flat (cx:=cx) (ρ:=ρ'') (n:=T'.length) (ρ':=ρ) (n':=HL.length) g own hw
 ·exact(back x ox ex ax).elim λpx h1=>(back y oy ey ay).elim λpy h2=>S.inj x y _ _ h1.1 h2.1 h1.2 h2.2 q
 ·exact(back x ox ex ax).elim λpx h1=>S.new x _ h1.1 h1.2
theorem dE.upd{a:Nat}(X:dF cx K)(p:fO HL [i] [o])(h:∀cx',dF cx' K->dE cx' d (.st a) args [] [o] r T')(hv:∀v∈args,jA 1 v)(e':T'[0]? = some o')(al':dN o'=true)(hw:o'.wf 0)(hr:r.wf 0):dE cx d (.st a) (args.map (ren [i])) [] HL r (HL.set i o'):=
 ⟨aL (aE ..).symm,λ{A s ρ Fv Vs Ks Q E} u i1 i2 i3 W=>by
  have g:=u.g.toGood;have Q8:=X.cut u.sr p;refine(h _ Q8).2 ⟨Q8.cok,u.ok,ir g u.sr p⟩ i1 (IsL.toPart g p i2 hv) i3 λV s' ρ' S' i' E'=>?_;have f:=xI g u.sr p S' E' e' al' hw;exact W V s' ρ f.1 (Is.flat (cx:=cx) (ρ:=ρ') (n:=T'.length) g i' hr) f.2⟩
end
noncomputable def wH:OFn:=λargs H k=>l3 args λa b v=>eJ a λr=>eh b λj=>dZ v λl=>dR H r λxs=>ifO (xs.all isS&&(fZ j&&decide (0<=j)&&decide (j.toNat<xs.length))) (k .none (st H r (.list (xs.set j.toNat (.str l)))))
theorem Hz{xs:List AV}{j:Int}{l:List Nat}:(fns eY 12).call 10 (.st 115) [.ref 0,.int j,.str l] [] (mkT [.list xs]) fin =
  opt (orO (ifO (fZ j&&decide (0<=j)&&decide (j.toNat<xs.length)) (some (mkT [.list (xs.set j.toNat (.str l)),.ns [(1,.ref 0),(2,.int j),(10,.str l)]]))) none) λH=>fin .none H:=by kernel_rfl
theorem Hb{xs:List AV}{j:Nat}{l:List Nat}{n:Nat}(h:xs.all isS=true):∀x∈xs.set j (.str l),x.wf n:=λx hx=>(List.mem_or_eq_of_mem_set hx).elim (λhx=>by obtain⟨i,e⟩:=mM (aA.mp h x hx);rw[e];trivial) λe=>e▸trivial
theorem HA{xs:List AV}{n:Nat}(h:xs.all isS=true):∀x∈xs,x.wf n:=λx hx=>by obtain⟨i,e⟩:=mM (aA.mp h x hx);rw[e];trivial
theorem DL{K:Frag}:FOk K 10 115 wH:=⟨_,rfl,λcx X d args H k z P hd h w=>l3E h λa b v e h=>dP h λr e1 h=>dM h λj e2 h=>dL h λl e3 h=>dG h λxs hx h=>ifE h λq h=>w .none _ (by
 obtain⟨q1,q2⟩:=aa q;have hr:=Hz (xs:=xs) (j:=j) (l:=l);rw[q2]at hr;rw[e,e1,e2,e3,gN hx];have C:=dE.upd (d:=10) (a:=115) (args:=[.ref 0,.int j,.str l]) (o':=.list (xs.set j.toNat (.str l))) X (lL (dA hx) rfl (HA q1)) (λcx' X'=>(gF (fw K) X' hr).2) (fc cJ (fc trivial (fc trivial fn))) rfl rfl (Hb q1) trivial;exact C.mono hd) h⟩
noncomputable def AL(ns:List Int):List (Nat×OFn):=[(264,Bm ns),(271,MH),(278,Mg),(285,GW),(94,oIn),(115,wH),(45,oLt),(52,oGe),(290,tC),(312,sQ),(317,FM),(297,vY)]
noncomputable def OL(ns:List Int):Orc:=⟨OT (AL ns),DI,30,yO ns⟩
theorem m10:10<=30:=by decide
theorem m20:20<=30:=by decide
theorem L8{K:Frag}{ns:List Int}(hE:ut K (yO ns)):gL K (OL ns):=
 ⟨wF (fc (yW hE) (fc (EB.mono m20) (fc (DF.mono m20) (fc (zB.mono m20) (fc (Az.mono m10) (fc (DL.mono m10) (fc (Bw.mono m10) (fc (Cf.mono m10) (fc (Ca.mono m20) (fc CX (fc ES (fc (zQ.mono m20) fn)))))))))))),rM K,hE⟩
noncomputable def Gi(n:Nat):PE->PE:=Nat.rec (motive:=λ_=>PE->PE) (λ_=>.n) (λ_ ih p=>match p with | .c h t=>.c h (ih t) | _=>.n) n
noncomputable def BW(n:Nat):PE->PE:=Nat.rec (motive:=λ_=>PE->PE) (λp=>p) (λ_ ih p=>ih (match p with | .c _ r=>r | p=>p)) n
theorem w2{α:Type}{f:α->PE}:∀(n:Nat) (l:List α),cvL f (l.take n)=Gi n (cvL f l)
 |0,l=>rfl
 |n+1,[]=>rfl
 |n+1,x::l=>aB (PE.c (f x)) (w2 n l)
theorem nL{α:Type}{f:α->PE}:∀(n:Nat) (l:List α),cvL f (l.drop n)=BW n (cvL f l)
 |0,l=>rfl
 |n+1,[]=>by rw[List.drop_nil];exact(List.drop_nil (α:=α)▸nL (f:=f) n [] :)
 |n+1,x::l=>nL n l
noncomputable def l7(i n:Nat):PE:=Gi n (BW i dT.body)
noncomputable def dy:IE:=kG dT.names 3 [] .none
noncomputable def lw0:List AO:=gR++[.ns [(110,.st 323)],.cell none,.cell none,.cell none,.cell none,.cell none,.cell none,.cell none]
noncomputable def lwA(c0 c1 c2 c3 c4 c5:Int)(rw:Bool):List AO:=gR++[.ns [(110,.st 323),(148,.bool rw),(115,.ref 12)],.cell (some (.ref 11)),.cell none,.cell none,.cell none,.cell none,.cell none,.cell none,.list [.int c0,.int c1,.int c2,.int c3,.int c4,.int c5],.list lW]
noncomputable def uw(f:AF)(H:TH):R:=some (f,H)
noncomputable def ifA(p:PE):PE:=match p with
 | .if _ a _=>a
 |_=>.no
noncomputable def bd1:PE:=pu (fh dT.body 6)
noncomputable def bdA:PE:=ifA (fh bd1 4)
noncomputable def lwH(m:List (Nat×AV))(cl nm row nu sl cls:List AV)(tl:List AO):TH:=mkT (gR++([.ns ([(110,.st 323)]++m),.cell (some (.ref 11)),.cell (some (.ref 13)),.cell (some (.ref 14)),.cell (some (.ref 24)),.cell none,.cell none,.cell none,.list cl,.list lW,.list mt,.list m8,.dead,.list gi,.dead,.dead,.dead,.dead,.dead,.list nm,.list row,.list nu,.list sl,.dead,.list cls,.dead]++tl))
noncomputable def frB(rw:Bool):List (Nat×AV):=[(148,.bool rw),(115,.ref 12),(146,.ref 16),(145,.ref 22),(128,.ref 23)]
noncomputable def frN(rw:Bool)(a b c d:AV):List (Nat×AV):=frB rw++[(114,a),(120,b),(62,c),(165,d)]
noncomputable abbrev LoK:=Nat->PE->Nat->PE->IE->TH->(AF->TH->R)->R
section
variable {ns:List Int} {rw:Bool} {cl nm row nu sl cls:List AV} {j:Int} {k f g:Nat} {kk:AF->TH->R} {a b c d:AV}
noncomputable def loA(ns:List Int)(f:Nat)(kk:AF->TH->R)(g:AF)(H:TH):R:=AF.casesOn g ((fns (OL ns) (fu f)).loop 40 (.nm 114) 29 bd1 dy H kk) none ((fns (OL ns) (fu f)).loop 40 (.nm 114) 29 bd1 dy H kk) λv=>kk (.ret v) H
noncomputable def loT(ns:List Int)(rw:Bool)(cl nm row nu sl cls:List AV)(k f:Nat)(j:Int)(kk:AF->TH->R):R:=ifO (kN j) (opt (xa (gY j.toNat:Nat)) λm=>orO (opt (inL (.str (twC m)) nm) λt=>(λH:TH=>
 opt (xO (.ref 16) (.int j) H) λw=>opt (iN (eqB H (.str (twC m)) w)) λb=>ifB b (kk (.ret (.bool false)) H) (opt (uV H (.int j) (.ref 24)) λu=>opt (iN (isB (.bool t) (.bool u))) λe=>ifB e (kk (.ret (.bool false)) H)
  (ifB (!t) ((fns (OL ns) (f+14)).exs 40 bdA dy H (loA ns f kk)) ((fns (OL ns) (fu f)).loop 40 (.nm 114) 29 bd1 dy H kk)))) (lwH (frN rw (.int j) (.int (gY j.toNat:Nat)) (.str (twC m)) (.bool t)) cl nm row nu sl cls [.iter (.list 27 k)])) none)
theorem GC{m:List (Nat×AV)}:(fns (OL ns) (fu (f+1))).loop 40 (.nm 114) 29 bd1 dy (lwH m cl nm row nu sl cls [.iter (.list 27 k)]) kk=ll (kk .next (lwH m cl nm row nu sl cls [.dead])) (λv=>gE (OL ns) (fu f) 40 (.nm 114) bd1 29 dy kk v (lwH m cl nm row nu sl cls [.iter (.list 27 (k+1))])) cls[k]?:=by kernel_rfl
theorem Ay:gE (OL ns) (fu f) 40 (.nm 114) bd1 29 dy kk (.int j) (lwH (frB rw) cl nm row nu sl cls [.iter (.list 27 k)])=loT ns rw cl nm row nu sl cls k f j kk:=by kernel_rfl
theorem Ex:gE (OL ns) (fu f) 40 (.nm 114) bd1 29 dy kk (.int j) (lwH (frN rw a b c d) cl nm row nu sl cls [.iter (.list 27 k)])=loT ns rw cl nm row nu sl cls k f j kk:=by kernel_rfl
end
noncomputable def fv(x:AV):Bool:=match x with
 | .tup _=>false
 | .bm _ _=>false
 | .clo _ _=>false
 | .rng _ _ _=>false
 | .itm _=>false
 | .sitm _=>false
 |_=>true
noncomputable def fvM(m:List (Nat×AV)):Bool:=m.all λp=>fv p.2
noncomputable def dW(Q:List Nat):List AV:=Q.map λq=>.int (gY q:Nat)
noncomputable def kW(Q:List Nat)(n:Nat):List Nat:=ifB (e8 n Q) Q (Q++[n])
theorem Bd(a b:Nat):Nat.beq a b=Nat.beq b a:=by rw[kg,kg];exact decide_eq_decide.mpr eq_comm
theorem uR{x y:Nat}{L:List Nat}:e8 x (y::L)=(Nat.beq y x || e8 x L):=by
 show(Bool.rec (motive:=λ_=>Bool) (e8 x L) true (Nat.beq x y):Bool)=_;rw[wG,Bd]
theorem nI{n:Nat}(hn:n<16):∀{Q:List Nat},(∀q∈Q,q<16)->inL (.str (twC n)) (dK Q)=some (e8 n Q)
 | [],_=>rfl
 |q::Q,h=>by
  show opt (orO (eM (twC q) (twC n)) none) (λp=>opt (inL (.str (twC n)) (dK Q)) λq=>some (p || q))=_;rw[nI hn λx hx=>h x (.tail _ hx),GL (h q (.head _)) hn,uR];rfl
theorem qU{n:Nat}:∀{Q:List Nat},inL (.int n) (dw Q)=some (e8 n Q)
 | []=>rfl
 |q::Q=>by
  show opt (some ((q:Int) == (n:Int))) (λp=>opt (inL (.int n) (dw Q)) λq=>some (p || q))=_;have e:((q:Int) == (n:Int))=Nat.beq q n:=by rw[kg];exact decide_eq_decide.mpr Int.ofNat_inj
  rw[qU,e,uR];rfl
section
variable {ns:List Int} {rw':Bool} {cl nm row nu sl cls:List AV} {k f n:Nat} {kk:AF->TH->R} {O:Orc} {a b c d:AV} {Q:List Nat} {o:AO} {m:List (Nat×AV)} {v:AV}
theorem IO:∀n:Nat,n<16->xO (.ref 16) (.int n) (lwH m cl nm row nu sl cls [o])=some (.str (twC n)):=kZ (by kernel_rfl) (by kernel_rfl) (by kernel_rfl) (by kernel_rfl) (by kernel_rfl) (by kernel_rfl) (by kernel_rfl) (by kernel_rfl) (by kernel_rfl) (by kernel_rfl) (by kernel_rfl) (by kernel_rfl) (by kernel_rfl) (by kernel_rfl) (by kernel_rfl) (by kernel_rfl)
theorem Ec{H:TH}:∀n:Nat,n<16->iN (eqB H (.str (twC n)) (.str (twC n)))=some false:=kZ (by kernel_rfl) (by kernel_rfl) (by kernel_rfl) (by kernel_rfl) (by kernel_rfl) (by kernel_rfl) (by kernel_rfl) (by kernel_rfl) (by kernel_rfl) (by kernel_rfl) (by kernel_rfl) (by kernel_rfl) (by kernel_rfl) (by kernel_rfl) (by kernel_rfl) (by kernel_rfl)
theorem Hg:uV (lwH m cl nm row nu sl cls [o]) v (.ref 24)=orO (orO (inL v nu) (dZ v λk=>none)) (none:Option Bool):=by kernel_rfl
theorem qA:∀t:Bool,iN (isB (.bool t) (.bool t))=some false
 |true=>rfl
 |false=>rfl
theorem M3:(fns O (f+14)).exs 40 bdA dy (lwH (frN rw' a b c d) cl nm row nu sl cls [o]) kk=dY (ifO (Nat.ble nm.length dn) (some (AV.none,lwH (frN rw' a b c d) cl (nm++[c]) row nu sl cls [o]))) λ_ H=>(fns O (f+13)).exs 40 (tlP bdA) dy H kk:=by kernel_rfl
theorem Nc:(fns O (f+13)).exs 40 (tlP bdA) dy (lwH (frN rw' a b c d) cl nm row nu sl cls [o]) kk=dY (ifO (Nat.ble row.length dn) (some (AV.none,lwH (frN rw' a b c d) cl nm (row++[b]) nu sl cls [o]))) λ_ H=>(fns O (f+12)).exs 40 (tlP (tlP bdA)) dy H kk:=by kernel_rfl
theorem No:(fns O (f+12)).exs 40 (tlP (tlP bdA)) dy (lwH (frN rw' a b c d) cl nm row nu sl cls [o]) kk=dY (ifO (Nat.ble nu.length dn) (some (AV.none,lwH (frN rw' a b c d) cl nm row (nu++[a]) sl cls [o]))) λ_ H=>kk .next H:=by kernel_rfl
theorem D3(hn:n<16)(hQ:∀q∈Q,q<16)(hl:Q.length<=5):∃a b c d,fvM (frN rw' a b c d)=true/\loT ns rw' cl (dK Q) (dW Q) (dw Q) sl cls k f n kk=(fns (OL ns) (fu f)).loop 40 (.nm 114) 29 bd1 dy (lwH (frN rw' a b c d) cl (dK (kW Q n)) (dW (kW Q n)) (dw (kW Q n)) sl cls [.iter (.list 27 k)]) kk:=by
 refine⟨.int n,.int (gY n:Nat),.str (twC n),.bool (e8 n Q),rfl,?_⟩;have hb:Nat.ble Q.length dn=true:=jh hl qH;unfold loT kW;rw[qT hn,eN,bv,yM n hn,dJ,nI hn hQ,dJ];dsimp only;rw[IO n hn,dJ,Ec n hn,dJ,fG,Hg,qU,hZ,hZ,dJ,qA,dJ,fG,r0];cases e8 n Q with
 |true=>rfl
 |false=>
  show(fns (OL ns) (f+14)).exs 40 bdA dy _ _=_;rw[M3,show(dK Q).length=Q.length from aq ..,hb,eN,fq,Nc,show(dW Q).length=Q.length from aq ..,hb,eN,fq,No,show(dw Q).length=Q.length from aq ..,hb,eN,fq,fG];unfold dK dW dw;rw[bh,bh,bh];rfl
theorem wT(hQ:∀q∈Q,q<16)(hn:n<16):∀q∈kW Q n,q<16:=by
 unfold kW;cases e8 n Q with
 |true=>exact hQ
 |false=>exact λq hq=>(bS.mp hq).elim (hQ q) λh=>(br.mp h)▸hn
theorem sW:(kW Q n).length<=Q.length+1:=by
 unfold kW;cases e8 n Q with
 |true=>exact aC _
 |false=>show(Q++[n]).length<=_;rw[az];exact ad _
theorem DB(h:Q.Nodup):(kW Q n).Nodup:=by
 unfold kW;cases e:e8 n Q with
 |true=>exact h
 |false=>exact List.nodup_append.mpr ⟨h,List.pairwise_singleton _ _,λa ha b hb q=>by rw[br.mp hb]at q;rw[q]at ha;rw[eu.mpr ha]at e;exact tF e⟩
noncomputable def g5(T:List Nat):List Nat->List Nat:=List.rec (motive:=λ_=>List Nat->List Nat) (λQ=>Q) (λn _ ih Q=>ih (kW Q n)) T
theorem wa:∀{T Q:List Nat} {k f:Nat} {m:List (Nat×AV)},(m=frB rw'\/∃a b c d,m=frN rw' a b c d)->cls.drop k=dw T->(∀q∈Q,q<16)->(∀q∈T,q<16)->Q.length+T.length<=5->T.length<=f->
  ∃m',((m'=m/\T=[])\/∃a b c d,fvM (frN rw' a b c d)=true/\m'=frN rw' a b c d)/\(fns (OL ns) (fu (f+1))).loop 40 (.nm 114) 29 bd1 dy (lwH m cl (dK Q) (dW Q) (dw Q) sl cls [.iter (.list 27 k)]) kk=kk .next (lwH m' cl (dK (g5 T Q)) (dW (g5 T Q)) (dw (g5 T Q)) sl cls [.dead])
 | [],Q,k,f,m,hm,hx,hQ,hT,hl,hf=>⟨m,.inl ⟨rfl,rfl⟩,by rw[GC,fE hx,jW];rfl⟩
 |n::T,Q,k,0,m,hm,hx,hQ,hT,hl,hf=>absurd hf (bH _)
 |n::T,Q,k,f+1,m,hm,hx,hQ,hT,hl,hf=>by
  obtain⟨e1,e2⟩:=gS (r:=dw T) hx;have hl5:(kW Q n).length+T.length<=5:=ae (cE sW _) (by rw[bf,bw 1];exact hl);refine jL (D3 (ns:=ns) (rw':=rw') (cl:=cl) (sl:=sl) (cls:=cls) (k:=k+1) (f:=f+1) (kk:=kk) (n:=n) (Q:=Q) (hT n (.head _)) hQ (ae (aK _ _) hl)) λa b c d hv s=>?_;refine dm (wa (T:=T) (Q:=kW Q n) (k:=k+1) (f:=f) (m:=frN rw' a b c d) (.inr ⟨a,b,c,d,rfl⟩) e2 (wT hQ (hT n (.head _))) (λq hq=>hT q (.tail _ hq)) hl5 (aW hf)) λm' h1 h2=>?_;refine⟨m',.inr (h1.elim (λe=>⟨a,b,c,d,hv,e.1⟩) id),Eq.trans ?_ h2⟩;rw[GC,e1,jN];refine Eq.trans ?_ s;rcases hm with e | ⟨a',b',c',d',e⟩
  ·rw[e];exact Ay
  ·rw[e];exact Ex
end
noncomputable def bd2:PE:=pu (fh dT.body 7)
noncomputable def bd3:PE:=pu (fh bd2 0)
noncomputable def J4:List AV:=[.int 3,.int 2,.int 1,.int 0]
noncomputable def lwP(m:List (Nat×AV))(cl nm row nu sl cls:List AV)(o:AO)(t:Nat)(its:List AO):TH:=lwH m cl nm row nu sl cls ([.dead,o]++(List.replicate t .dead++its))
noncomputable def w1(j:Nat):List (Nat×AV):=[(117,.int (j:Nat))]
noncomputable def w3(j:Nat)(e p:AV):List (Nat×AV):=[(117,.int (j:Nat)),(0,e),(166,p)]
theorem lt4{P:Nat->Prop}(h0:P 0)(h1:P 1)(h2:P 2)(h3:P 3):∀j,j<4->P j
 |0,_=>h0
 |1,_=>h1
 |2,_=>h2
 |3,_=>h3
 |j+4,h=>absurd h (bJ.mpr (bU 4 j))
noncomputable def prK(O:Orc)(f:Nat)(kk:AF->TH->R)(g:AF)(H:TH):R:=AF.casesOn g ((fns O (fu f)).loop 40 (.nm 117) 30 bd2 dy H kk) none ((fns O (fu f)).loop 40 (.nm 117) 30 bd2 dy H kk) λv=>kk (.ret v) H
noncomputable def prO(O:Orc)(g:Nat)(kk:AF->TH->R)(H:TH):R:=dY (gV 0 [.ref 22] H) λv H=>dY (rV 0 [v] H) λv H=>dY (my v H) λi H=>(fns O (fu g)).loop 40 (.nm 0) i bd3 dy H (prK O (g+2) kk)
noncomputable def prT(ns:List Int)(fr:AV->List (Nat×AV))(cl nm row nu sl cls:List AV)(o:AO)(q j k f n:Nat)(kk:AF->TH->R):R:=
 (λ(H:List Nat->Bool->TH) (Z:TH->R)=>opt (xO (.ref 22) (.int (k:Nat)) (H [] true)) λa=>dZ a λx=>ifO (Nat.ble 0 10&&Nat.ble x.length dn&&no (eM [1000+j] [])) (opt (u8 (1000+j) [] x) λl=>orO (opt (inL (.str l) nm) λt=>opt (uV (H l t) (.str l) (.ref 22)) λu=>opt (iN (isB (.bool t) (.bool u))) λe=>ifB e (kk (.ret (.bool false)) (H l t))
  (ifB (!t) (wH [.ref 22,.int (k:Nat),.str l] (H l t) λv H=>opt (iN (isB v .none)) λt=>ifB t (kk (.ret (.bool false)) H) (Z H)) (Z (H l t)))) none))
 (λl b=>lwP (fr (.bool b)++w3 j (.int (k:Nat)) (.str l)) cl nm row nu sl cls o q [.iter (.rng ((k+1:Nat):Int) 1 n)]) λH=>(fns (OL ns) (fu f)).loop 40 (.nm 0) (31+q) bd3 dy H kk
section
variable {ns:List Int} {rw:Bool} {cl nm row nu sl cls:List AV} {k f g n:Nat} {kk:AF->TH->R} {O:Orc} {a b c d e p:AV} {o:AO} {m:List (Nat×AV)} {i:Int}
theorem BZ:∀q,q<4->(fns (OL ns) (fu (f+1))).loop 40 (.nm 0) (31+q) bd3 dy (lwP (frN rw a b c d++w1 (3 - q)) cl nm row nu sl cls o q [.iter (.rng (k:Nat) 1 (n+1))]) kk=prT ns (frN rw a b c) cl nm row nu sl cls o q (3 - q) k f n kk:=lt4 (by kernel_rfl) (by kernel_rfl) (by kernel_rfl) (by kernel_rfl)
theorem E3:∀q,q<4->(fns (OL ns) (fu (f+1))).loop 40 (.nm 0) (31+q) bd3 dy (lwP (frN rw a b c d++w3 (3 - q) e p) cl nm row nu sl cls o q [.iter (.rng (k:Nat) 1 (n+1))]) kk=prT ns (frN rw a b c) cl nm row nu sl cls o q (3 - q) k f n kk:=lt4 (by kernel_rfl) (by kernel_rfl) (by kernel_rfl) (by kernel_rfl)
theorem Iz:∀q,q<4->(fns O (fu (f+1))).loop 40 (.nm 0) (31+q) bd3 dy (lwP m cl nm row nu sl cls o q [.iter (.rng i 1 0)]) kk=kk .next (lwP m cl nm row nu sl cls o (q+1) []):=lt4 (by kernel_rfl) (by kernel_rfl) (by kernel_rfl) (by kernel_rfl)
theorem CH:(fns O (fu (g+3))).loop 40 (.nm 117) 30 bd2 dy (lwP (frN rw a b c d) cl nm row nu sl cls (.iter (.tup J4 0)) 0 []) kk=prO O g kk (lwP (frN rw a b c d++w1 3) cl nm row nu sl cls (.iter (.tup J4 1)) 0 []):=by kernel_rfl
theorem ER:∀q,q<4->(fns O (fu (g+3))).loop 40 (.nm 117) 30 bd2 dy (lwP (frN rw a b c d++w3 n e p) cl nm row nu sl cls (.iter (.tup J4 q)) q []) kk=prO O g kk (lwP (frN rw a b c d++w3 (3 - q) e p) cl nm row nu sl cls (.iter (.tup J4 (q+1))) q []):=lt4 (by kernel_rfl) (by kernel_rfl) (by kernel_rfl) (by kernel_rfl)
theorem IS:(fns O (fu (g+1))).loop 40 (.nm 117) 30 bd2 dy (lwP m cl nm row nu sl cls (.iter (.tup J4 4)) 4 []) kk=kk .next (lwP m cl nm row nu sl cls .dead 4 []):=by kernel_rfl
theorem He:∀q,q<4->gV 0 [.ref 22] (lwP m cl nm row nu sl cls o q [])=orO (ifO (Nat.ble nm.length dn) (some (.int nm.length,lwP m cl nm row nu sl cls o q []))) none:=lt4 (by kernel_rfl) (by kernel_rfl) (by kernel_rfl) (by kernel_rfl)
theorem K1:∀q,q<4->mo (lwP m cl nm row nu sl cls o q []) (.rng 0 1 n)=some (31+q,lwP m cl nm row nu sl cls o q [.iter (.rng 0 1 n)]):=lt4 (by kernel_rfl) (by kernel_rfl) (by kernel_rfl) (by kernel_rfl)
theorem JY:∀q,q<4->xO (.ref 22) (.int i) (lwP m cl nm row nu sl cls o q [.iter (.rng k 1 n)])=orO (orO (ifO (fZ i&&decide (0<=kQ nm.length i)) nm[(kQ nm.length i).toNat]?) none) (ifO (fZ i&&decide (0<=i)) none):=lt4 (by kernel_rfl) (by kernel_rfl) (by kernel_rfl) (by kernel_rfl)
theorem H8{l:List Nat}:∀q,q<4->uV (lwP m cl nm row nu sl cls o q [.iter (.rng k 1 n)]) (.str l) (.ref 22)=orO (orO (inL (.str l) nm) none) none:=lt4 (by kernel_rfl) (by kernel_rfl) (by kernel_rfl) (by kernel_rfl)
theorem IJ{l:List Nat}{K:AV->TH->R}:∀q,q<4->wH [.ref 22,.int i,.str l] (lwP m cl nm row nu sl cls o q [.iter (.rng k 1 n)]) K=ifO (nm.all isS&&(fZ i&&decide (0<=i)&&decide (i.toNat<nm.length))) (K .none (lwP m cl (nm.set i.toNat (.str l)) row nu sl cls o q [.iter (.rng k 1 n)])):=lt4 (by kernel_rfl) (by kernel_rfl) (by kernel_rfl) (by kernel_rfl)
end
noncomputable def mkP(j:Nat):Nat:=[14,13,11,7].getD j 0
theorem Bt:((List.range 4).all λj=>(List.range 16).all λp=>decide (u8 (1000+j) [] (twC p)=some (twC (p &&& mkP j)))&&(Nat.ble (twC p).length 10&&no (eM [1000+j] [])))=true:=by kernel_rfl
theorem FW{j p:Nat}(hj:j<4)(hp:p<16):u8 (1000+j) [] (twC p)=some (twC (p &&& mkP j))/\(Nat.ble 0 10&&Nat.ble (twC p).length dn&&no (eM [1000+j] []))=true:=by
 obtain⟨h1,h2⟩:=aa (aA.mp (aA.mp Bt j (aT.mpr hj)) p (aT.mpr hp));obtain⟨h2,h3⟩:=aa h2;exact⟨dec h1,by rw[h3,a9 (ae (leb h2) (by decide))];rfl⟩
theorem yw{n k:Nat}:kQ n (k:Int)=k:=by unfold kQ;rw[bM (Int.not_lt.mpr (bX k))];rfl
theorem rY{k:Nat}(h:k<=5):(fZ (k:Int)&&decide (0<=(k:Int)))=true:=by
 unfold fZ;rw[aS (bX k),aS (aJ h (by decide):(k:Int).natAbs<_)];rfl
theorem uz:∀P:List Nat,(dK P).all isS=true
 | []=>rfl
 |p::P=>uz P
theorem FU{P:List Nat}{k x:Nat}(h:P[k]? = some x):(dK P)[k]? = some (.str (twC x)):=by unfold dK;rw[aP,h];rfl
theorem HS{β:Type}{l:List Nat}{k:List Nat->Option β}:dZ (.str l) k=k l:=rfl
theorem xK{H:TH}{i:Int}:rV 0 [.int i] H=ifO (decide (0<=i)&&decide (i<4611686018427387904)) (some (.rng 0 i 1,H)):=by kernel_rfl
theorem CE{H:TH}{i:Int}:my (.rng 0 i 1) H=ifO (decide ((0:Int)=0)&&decide ((1:Int)=1)&&decide (0<=i)&&decide (i<4611686018427387904)) (mo H (.rng 0 1 i.toNat)):=by kernel_rfl
section
variable {ns:List Int} {rw':Bool} {cl row nu sl cls:List AV} {k f g n x q:Nat} {kk:AF->TH->R} {a b c d e p:AV} {o:AO} {m:List (Nat×AV)} {P:List Nat}
theorem Dg(hv:fvM (frN rw' a b c .none)=true)(hq:q<4)(hk:P[k]? = some x)(hP:∀p∈P,p<16)(hl:P.length<=5):∃d e p,fvM (frN rw' a b c d++w3 (3 - q) e p)=true/\prT ns (frN rw' a b c) cl (dK P) row nu sl cls o q (3 - q) k f n kk =
  (fns (OL ns) (fu f)).loop 40 (.nm 0) (31+q) bd3 dy (lwP (frN rw' a b c d++w3 (3 - q) e p) cl (dK (fV (mkP (3 - q)) P k)) row nu sl cls o q [.iter (.rng ((k+1:Nat):Int) 1 n)]) kk:=by
 have hx:x<16:=hP x (aQ hk);have hlt:k<P.length:=(aG.mp hk).1;have hk5:k<=5:=ae (a7 hlt) hl;obtain⟨r1,r2⟩:=FW (aJ (Nat.sub_le 3 q) (by decide)) hx;have hy:x &&& mkP (3 - q)<16:=aJ Nat.and_le_left hx;have hg:P.getD k 0=x:=by rw[bg,hk];rfl
 refine⟨.bool (e8 (x &&& mkP (3 - q)) P),.int (k:Nat),.str (twC (x &&& mkP (3 - q))),hv,?_⟩;unfold prT;dsimp only;rw[JY q hq,yw,rY hk5,eN,bv,FU hk,hZ,hZ,dJ,HS,r2,eN,r1,dJ,nI hy hP,dJ,H8 q hq,nI hy hP,hZ,hZ,dJ,qA,dJ,fG];unfold fV;rw[hg];cases h:e8 (x &&& mkP (3 - q)) P with
 |true=>rw[aI (eu.mp h),Bool.not_true,fG];exact r0
 |false=>
  rw[aF λz=>ah (h.symm.trans (eu.mpr z)),Bool.not_false,gX];refine r0.trans ?_;rw[IJ q hq,uz,rY hk5,bv,show decide (k<(dK P).length)=true from aS (by unfold dK;rw[aq];exact hlt)];rw[Bool.and_self,Bool.and_self,eN,show iN (isB .none .none)=some false from rfl,dJ,fG];unfold dK;rw[List.map_set]
theorem vc{m:Nat}(h:∀p∈P,p<16):∀p∈fV m P k,p<16:=by
 unfold fV
 by_cases c:(P.getD k 0 &&& m)∈P
 ·rw[aI c];exact h
 ·rw[aF c]
  intro p hp;refine(List.mem_or_eq_of_mem_set hp).elim (h p) λe=>?_;rw[e,bg];refine aJ Nat.and_le_left ?_;cases e:P[k]? with
  |none=>exact(by decide:(0:Nat)<16)
  |some y=>exact h y (aQ e)
theorem mZ{m:Nat}:(fV m P k).length=P.length:=by
 unfold fV
 by_cases c:(P.getD k 0 &&& m)∈P
 ·rw[aI c]
 ·rw[aF c,aE]
theorem v5(hv:fvM (frN rw' a b c .none)=true)(hq:q<4):∀{n k f:Nat} {P:List Nat} {m:List (Nat×AV)},(m=frN rw' a b c d++w1 (3 - q)\/∃d e p,m=frN rw' a b c d++w3 (3 - q) e p)->k+n=P.length->(∀p∈P,p<16)->P.length<=5->n<=f->
  ∃m',((m'=m/\n=0)\/∃d e p,fvM (frN rw' a b c d++w3 (3 - q) e p)=true/\m'=frN rw' a b c d++w3 (3 - q) e p)/\(fns (OL ns) (fu (f+1))).loop 40 (.nm 0) (31+q) bd3 dy (lwP m cl (dK P) row nu sl cls o q [.iter (.rng (k:Nat) 1 n)]) kk=kk .next (lwP m' cl (dK ((List.range' k n).foldl (fV (mkP (3 - q))) P)) row nu sl cls o (q+1) [])
 |0,k,f,P,m,hm,hl,hP,h5,hf=>⟨m,.inl ⟨rfl,rfl⟩,Iz q hq⟩
 |n+1,k,0,P,m,hm,hl,hP,h5,hf=>absurd hf (bH _)
 |n+1,k,f+1,P,m,hm,hl,hP,h5,hf=>by
  have hk:k<P.length:=hl▸bt (bI n);refine gv (Dg (ns:=ns) (rw':=rw') (cl:=cl) (row:=row) (nu:=nu) (sl:=sl) (cls:=cls) (f:=f+1) (n:=n) (kk:=kk) (a:=a) (b:=b) (c:=c) (o:=o) hv hq (au hk) hP h5) λd' e' p' hv' s=>?_;refine dm (v5 hv hq (n:=n) (k:=k+1) (f:=f) (P:=fV (mkP (3 - q)) P k) (m:=frN rw' a b c d'++w3 (3 - q) e' p') (.inr ⟨d',e',p',rfl⟩) (by rw[mZ,bV];exact hl) (vc hP) (by rw[mZ];exact h5) (aW hf)) λm' h1 h2=>?_;refine⟨m',.inr (h1.elim (λz=>⟨d',e',p',hv',z.1⟩) id),Eq.trans ?_ h2⟩;refine Eq.trans ?_ s;rcases hm with z | ⟨d'',e'',p'',z⟩
  ·rw[z];exact BZ q hq
  ·rw[z];exact E3 q hq
theorem zA:∀q,q<4->mkP q=7\/mkP q=11\/mkP q=13\/mkP q=14:=lt4 (.inr (.inr (.inr rfl))) (.inr (.inr (.inl rfl))) (.inr (.inl rfl)) (.inl rfl)
theorem wB(hv:fvM (frN rw' a b c .none)=true)(hq:q<4)(hm:m=frN rw' a b c d++w1 (3 - q)\/∃d e p,m=frN rw' a b c d++w3 (3 - q) e p)(F:Fm P)(h0:0<P.length)(h5:P.length<=5)(hg:6<=g):
  ∃d e p,fvM (frN rw' a b c d++w3 (3 - q) e p)=true/\prO (OL ns) g kk (lwP m cl (dK P) row nu sl cls o q [])=(fns (OL ns) (fu (g+2))).loop 40 (.nm 117) 30 bd2 dy (lwP (frN rw' a b c d++w3 (3 - q) e p) cl (dK (eK (mkP (3 - q)) P)) row nu sl cls o (q+1) []) kk:=by
 obtain⟨f,ef⟩:∃f,g=f+1:=⟨g - 1,(Nat.sub_add_cancel (ae (by decide) hg)).symm⟩;refine dm (v5 (ns:=ns) (cl:=cl) (row:=row) (nu:=nu) (sl:=sl) (cls:=cls) (o:=o) (kk:=prK (OL ns) (g+2) kk) hv hq (n:=P.length) (k:=0) (f:=f) hm (aY _) F.lt h5 (ae h5 (aW (ae hg (aL ef))))) λm' h1 h2=>?_;refine gv (h1.elim (λz=>absurd z.2 (bl h0)) id) λd' e' p' hv' em=>?_;refine⟨d',e',p',hv',?_⟩;unfold prO;have hlen:(dK P).length=P.length:=aq ..;rw[He q hq,hlen,jh h5 qH,eN,hZ,fq,xK];have hb:(decide (0<=(P.length:Int))&&decide ((P.length:Int)<4611686018427387904))=true:=by
  have hh:P.length<4611686018427387904:=aJ h5 (by decide);rw[aS (bX _),show decide ((P.length:Int)<4611686018427387904)=true from aS (cF.mpr hh)];rfl
 rw[hb,eN,fq,CE,Bool.and_assoc,hb,bv,K1 q hq,show(decide ((0:Int)=0)&&decide ((1:Int)=1)&&true)=true from rfl,eN,fq];rw[<-List.range_eq_range',ui (zA _ (aJ (Nat.sub_le 3 q) (by decide))) F]at h2;rw[ef]at h2 ⊢;rw[<-em];exact h2
end
noncomputable def sbK(kk:AF->TH->R)(x:TH->R)(g:AF)(H:TH):R:=AF.casesOn g (x H) (kk .brk H) (kk .cont H) λv=>kk (.ret v) H
section
variable {ns:List Int} {rw':Bool} {cl nm row nu sl cls:List AV} {c0 c1 c2 c3 c4 c5:Int} {k f g n:Nat} {kk:AF->TH->R} {F:Fns} {L:LoK} {a b c d:AV} {O:Orc} {m:List (Nat×AV)}
theorem M8:(stp (OL ns) 6 ((stp (OL ns) 30 F).wl L)).exs 40 (l7 2 6) dy (mkT (lwA c0 c1 c2 c3 c4 c5 rw')) kk=L 40 (.nm 114) 29 bd1 dy (lwH (frB rw') [.int c0,.int c1,.int c2,.int c3,.int c4,.int c5] [] [] [] [.int c1,.int c2,.int c3,.int c4,.int c5] [.int (c1.fmod 16),.int (c2.fmod 16),.int (c3.fmod 16),.int (c4.fmod 16),.int (c5.fmod 16)] [.iter (.list 27 0)])
  (sbK kk λH=>(stp (OL ns) 1 ((stp (OL ns) 30 F).wl L)).exs 40 (l7 7 1) dy H kk):=by kernel_rfl
theorem M1:(stp O 2 ((stp O 29 F).wl L)).exs 40 (l7 7 1) dy (lwH m cl nm row nu sl cls [.dead]) kk=L 40 (.nm 117) 30 bd2 dy (lwP m cl nm row nu sl cls (.iter (.tup J4 0)) 0 []) (sbK kk (kk .next)):=by kernel_rfl
theorem Ce(i:Int):∃n:Nat,n<16/\i.fmod 16=(n:Int):=⟨(i.fmod 16).toNat,(Int.toNat_lt (ca i (by decide))).mpr (Int.fmod_lt_of_pos i (by decide)),(Int.toNat_of_nonneg (ca i (by decide))).symm⟩
theorem qg:∀{T Q:List Nat},(∀q∈T,q<16)->(∀q∈Q,q<16)->Q.Nodup->Q.length+T.length<=5->Fam (g5 T Q)/\Q.length<=(g5 T Q).length
 | [],Q,hT,hQ,hn,hl=>⟨⟨hn,hQ,hl⟩,ad _⟩
 |n::T,Q,hT,hQ,hn,hl=>by
  have h:=qg (T:=T) (Q:=kW Q n) (λq hq=>hT q (.tail _ hq)) (wT hQ (hT n (.head _))) (DB hn) (ae (cE sW _) (by rw[bf,bw 1];exact hl));refine⟨h.1,ae ?_ h.2⟩;unfold kW;cases e8 n Q with
  |true=>exact ad _
  |false=>show _<=(Q++[n]).length;rw[az];exact aK _ _
theorem n7{P:List Nat}{q:Nat}(hq:q<4)(F:Fm P)(h0:0<P.length)(h5:P.length<=5):Fm (eK (mkP q) P)/\0<(eK (mkP q) P).length/\(eK (mkP q) P).length<=5:=by
 have e:(eK (mkP q) P).length=P.length:=by rw[lR,aq]
 exact⟨jS (zA q hq) F,e▸h0,e▸h5⟩
theorem IF{T:List Nat}(hc:cls=dw T)(h0:0<T.length)(hT:∀q∈T,q<16)(h5:T.length<=5):∃a b c d,fvM (frN rw' a b c d)=true/\(fns (OL ns) (fu 30)).loop 40 (.nm 114) 29 bd1 dy (lwH (frB rw') cl [] [] [] sl cls [.iter (.list 27 0)]) kk=kk .next (lwH (frN rw' a b c d) cl (dK (g5 T [])) (dW (g5 T [])) (dw (g5 T [])) sl cls [.dead]):=by
 refine dm (wa (ns:=ns) (rw':=rw') (cl:=cl) (sl:=sl) (cls:=cls) (kk:=kk) (T:=T) (Q:=[]) (k:=0) (f:=29) (m:=frB rw') (.inl rfl) hc fn hT (ae (aL (aY _)) h5) (ae h5 (by decide))) λm h1 h2=>?_;refine jL (h1.elim (λz=>absurd h0 (by rw[z.2];exact cO 0)) id) λa b c d hv e=>?_;exact⟨a,b,c,d,hv,e▸h2⟩
noncomputable def lpO(ns:List Int)(g:Nat)(kk:AF->TH->R)(H:TH):R:=(fns (OL ns) (fu g)).loop 40 (.nm 117) 30 bd2 dy H kk
theorem rh(hv:fvM (frN rw' a b c .none)=true){e p:AV}{P:List Nat}{q:Nat}(hq:q<4)(F:Fm P)(h0:0<P.length)(h5:P.length<=5)(hg:6<=g):∃d' e' p',fvM (frN rw' a b c d'++w3 (3 - q) e' p')=true/\lpO ns (g+3) kk (lwP (frN rw' a b c d++w3 n e p) cl (dK P) row nu sl cls (.iter (.tup J4 q)) q []) =
  lpO ns (g+2) kk (lwP (frN rw' a b c d'++w3 (3 - q) e' p') cl (dK (eK (mkP (3 - q)) P)) row nu sl cls (.iter (.tup J4 (q+1))) (q+1) []):=by
 refine gv (wB (ns:=ns) (rw':=rw') (cl:=cl) (row:=row) (nu:=nu) (sl:=sl) (cls:=cls) (a:=a) (b:=b) (c:=c) (d:=d) (o:=.iter (.tup J4 (q+1))) (kk:=kk) (q:=q) (g:=g) hv hq (.inr ⟨d,e,p,rfl⟩) F h0 h5 hg) λd' e' p' hv' s=>?_;exact⟨d',e',p',hv',(ER q hq).trans s⟩
theorem Ix(hv:fvM (frN rw' a b c .none)=true){P:List Nat}(F:Fm P)(h0:0<P.length)(h5:P.length<=5):∃d' e p,fvM (frN rw' a b c d'++w3 3 e p)=true/\lpO ns 29 kk (lwP (frN rw' a b c d) cl (dK P) row nu sl cls (.iter (.tup J4 0)) 0 [])=lpO ns 28 kk (lwP (frN rw' a b c d'++w3 3 e p) cl (dK (eK (mkP 3) P)) row nu sl cls (.iter (.tup J4 1)) 1 []):=by
 refine gv (wB (ns:=ns) (rw':=rw') (cl:=cl) (row:=row) (nu:=nu) (sl:=sl) (cls:=cls) (a:=a) (b:=b) (c:=c) (d:=d) (o:=.iter (.tup J4 1)) (kk:=kk) (q:=0) (g:=26) hv (by decide) (.inl rfl) F h0 h5 (by decide)) λd0 e0 f0 hv0 s0=>?_;exact⟨d0,e0,f0,hv0,(CH (g:=26)).trans s0⟩
theorem Ia(hv:fvM (frN rw' a b c .none)=true){P:List Nat}(F:Fm P)(h0:0<P.length)(h5:P.length<=5):∃d' e p,fvM (frN rw' a b c d'++w3 0 e p)=true/\lpO ns 29 kk (lwP (frN rw' a b c d) cl (dK P) row nu sl cls (.iter (.tup J4 0)) 0 [])=kk .next (lwP (frN rw' a b c d'++w3 0 e p) cl (dK (eK (mkP 0) (eK (mkP 1) (eK (mkP 2) (eK (mkP 3) P))))) row nu sl cls .dead 4 []):=by
 have p0:=n7 (q:=3) (by decide) F h0 h5;have p1:=n7 (q:=2) (by decide) p0.1 p0.2.1 p0.2.2;have p2:=n7 (q:=1) (by decide) p1.1 p1.2.1 p1.2.2;refine gv (Ix (ns:=ns) (rw':=rw') (cl:=cl) (row:=row) (nu:=nu) (sl:=sl) (cls:=cls) (a:=a) (b:=b) (c:=c) (d:=d) (kk:=kk) hv F h0 h5) λd0 e0 f0 hv0 s0=>?_;refine gv (rh (ns:=ns) (rw':=rw') (cl:=cl) (row:=row) (nu:=nu) (sl:=sl) (cls:=cls) (a:=a) (b:=b) (c:=c) (d:=d0) (n:=3) (e:=e0) (p:=f0) (kk:=kk) (q:=1) (g:=25) hv (by decide) p0.1 p0.2.1 p0.2.2 (by decide)) λd1 e1 f1 hv1 s1=>?_;refine gv (rh (ns:=ns) (rw':=rw') (cl:=cl) (row:=row) (nu:=nu) (sl:=sl) (cls:=cls) (a:=a) (b:=b) (c:=c) (d:=d1) (n:=2) (e:=e1) (p:=f1) (kk:=kk) (q:=2) (g:=24) hv (by decide) p1.1 p1.2.1 p1.2.2 (by decide)) λd2 e2 f2 hv2 s2=>?_;refine gv (rh (ns:=ns) (rw':=rw') (cl:=cl) (row:=row) (nu:=nu) (sl:=sl) (cls:=cls) (a:=a) (b:=b) (c:=c) (d:=d2) (n:=1) (e:=e2) (p:=f2) (kk:=kk) (q:=3) (g:=23) hv (by decide) p2.1 p2.2.1 p2.2.2 (by decide)) λd3 e3 f3 hv3 s3=>?_;exact⟨d3,e3,f3,hv3,s0.trans (s1.trans (s2.trans (s3.trans (IS (g:=24)))))⟩
theorem fv3(h:fvM (frN rw' a b c d)=true):fvM (frN rw' a b c .none)=true:=by
 have h:(fv a&&(fv b&&(fv c&&(fv d&&true))))=true:=h;obtain⟨h1,h⟩:=aa h;obtain⟨h2,h⟩:=aa h;show(fv a&&(fv b&&(fv c&&true)))=true;rw[h1,h2,(aa h).1];rfl
theorem s31{O:Orc}:stp O 1 (stp O 30 (fns O (fu 0)))=stp O 2 (stp O 29 (fns O (fu 0))):=((aB (stp O 1) (fus (g:=0) 30).symm).trans (fus (g:=30) 1).symm).trans ((fus (g:=29) 2).trans (aB (stp O 2) (fus (g:=0) 29)))
theorem lm{x:TH->R}{H:TH}:sbK kk x .next H=x H:=rfl
theorem LJ{n1 n2 n3 n4 n5:Nat}(h:∀n ∈ [n1,n2,n3,n4,n5],n<16)(e1:c1.fmod 16=n1)(e2:c2.fmod 16=n2)(e3:c3.fmod 16=n3)(e4:c4.fmod 16=n4)(e5:c5.fmod 16=n5):∃D m,Fam D/\0<D.length/\fvM m=true/\(∃a b c d e p,m=frN rw' a b c d++w3 0 e p)/\
  (fns (OL ns) (fu 36)).exs 40 (l7 2 6) dy (mkT (lwA c0 c1 c2 c3 c4 c5 rw')) kk=kk .next (lwP m [.int c0,.int c1,.int c2,.int c3,.int c4,.int c5] (dK (eK (mkP 0) (eK (mkP 1) (eK (mkP 2) (eK (mkP 3) D))))) (dW D) (dw D) [.int c1,.int c2,.int c3,.int c4,.int c5] [.int n1,.int n2,.int n3,.int n4,.int n5] .dead 4 []):=by
 have fD:=qg (T:=[n2,n3,n4,n5]) (Q:=[n1]) (λq hq=>h q (.tail _ hq)) (fc (h n1 (.head _)) fn) (List.pairwise_singleton _ _) (ad _);have b1:=M8 (ns:=ns) (rw':=rw') (c0:=c0) (c1:=c1) (c2:=c2) (c3:=c3) (c4:=c4) (c5:=c5) (kk:=kk) (F:=fns (OL ns) (fu 0)) (L:=(stp (OL ns) 30 (fns (OL ns) (fu 0))).loop);rw[GG,e1,e2,e3,e4,e5]at b1;refine jL (IF (ns:=ns) (rw':=rw') (cl:=[.int c0,.int c1,.int c2,.int c3,.int c4,.int c5]) (sl:=[.int c1,.int c2,.int c3,.int c4,.int c5]) (cls:=[.int n1,.int n2,.int n3,.int n4,.int n5]) (kk:=sbK kk λH=>(stp (OL ns) 1 (stp (OL ns) 30 (fns (OL ns) (fu 0)))).exs 40 (l7 7 1) dy H kk) (T:=[n1,n2,n3,n4,n5]) rfl (bI _) h (ad _)) λa b c d hv l1=>?_;rw[show g5 [n1,n2,n3,n4,n5] []=g5 [n2,n3,n4,n5] [n1] from rfl,lm,s31]at l1;generalize g5 [n2,n3,n4,n5] [n1]=D at fD l1;have b2:=M1 (O:=OL ns) (m:=frN rw' a b c d) (cl:=[.int c0,.int c1,.int c2,.int c3,.int c4,.int c5]) (nm:=dK D) (row:=dW D) (nu:=dw D) (sl:=[.int c1,.int c2,.int c3,.int c4,.int c5]) (cls:=[.int n1,.int n2,.int n3,.int n4,.int n5]) (kk:=kk) (F:=fns (OL ns) (fu 0)) (L:=(stp (OL ns) 29 (fns (OL ns) (fu 0))).loop);rw[GG]at b2;refine gv (Ia (ns:=ns) (rw':=rw') (cl:=[.int c0,.int c1,.int c2,.int c3,.int c4,.int c5]) (row:=dW D) (nu:=dw D) (sl:=[.int c1,.int c2,.int c3,.int c4,.int c5]) (cls:=[.int n1,.int n2,.int n3,.int n4,.int n5]) (kk:=sbK kk (kk .next)) (a:=a) (b:=b) (c:=c) (d:=d) (fv3 hv) fD.1.fm (av cJ fD.2) fD.1.le) λd' e p hv' l2=>?_;refine⟨D,_,fD.1,av cJ fD.2,hv',⟨a,b,c,d',e,p,rfl⟩,?_⟩
 unfold lpO at l2;rw[lm,show fns (OL ns) (fu 29)=stp (OL ns) 29 (fns (OL ns) (fu 0)) from fus (g:=0) 29]at l2;rw[show fns (OL ns) (fu 30)=stp (OL ns) 30 (fns (OL ns) (fu 0)) from fus (g:=0) 30]at l1;rw[show fns (OL ns) (fu 36)=stp (OL ns) 6 (stp (OL ns) 30 (fns (OL ns) (fu 0))) from(fus (g:=30) 6).trans (aB (stp (OL ns) 6) (fus (g:=0) 30)),b1];rw[s31,l1,b2,l2]
end
noncomputable def foB(o:AO):Bool:=match o with
 | .dead=>true
 | .list xs=>xs.all fv
 | .ns m=>fvM m
 | .cell v=>v.all fv
 | .tab _=>true
 |_=>false
theorem JD{o:AO}(h:foB o=true):o.all λx=>fv x=true:=by
 cases o with
 |list xs=>exact λx hx=>aA.mp h x hx
 |ns m=>exact λy x e=>aA.mp h _ (gW e)
 |cell v=>exact λx e=>by rw[e]at h;exact h
 |dead=>trivial
 |tab _=>trivial
 |_=>exact fT h
section
variable {cx:Cx} {N M i0 n0 k:Nat} {H H':List AO} {s:Shared} {ρ:Nat->Addr} {h h':Heap} {a z TI TO i1 i2 l1 l2:Addr} {x:AV} {V:Value} {W:Addr->Prop} {o o1 o2:AO} {f0 u v:Value} {n k1 k2:Nat} {xs ys:Array Value}
theorem Is.poke(hx:fv x=true)(i:Is cx s ρ n x V):Is cx { s with heap:=h'} ρ n x V:=by cases x<;>first | exact i | exact fT hx
structure Lp (W:Addr->Prop) (h h':Heap):Prop where
 ke:∀c o,¬ W c->h.get? c=some o->h'.get? c=some o
 co:∀c o vs q t,W c->h.get? c=some o->o.data = .fields vs->vs[1]?≠some (.str q t)
theorem OR.poke(m:Mk cx)(g:cx.Good)(P:Lp W s.heap h')(hw:¬ W a)(hf:foB o=true)(al:dN o=true)(x:OR cx s ρ n a o):OR cx { s with heap:=h'} ρ n a o:=
 (OR.told g x al).elim λob T=>T.re rfl rfl (λk t=>by
  rw[m.tab]at t ⊢;obtain⟨t1,t2⟩:=t;exact⟨t1,t2.elim (λe=>.inl (P.ke _ _ hw e)) λ⟨c',e1,c,o,vs,t,e2,e3,e4,e5⟩=>.inr ⟨c',P.ke _ _ hw e1,c,o,vs,t,e2,P.ke _ _ (λw=>P.co c o vs _ t w e3 e4 e5) e3,e4,e5⟩⟩) (AO.all_imp (λx hx V i=>Is.poke hx i) (JD hf)) (P.ke _ _ hw T.at_)
theorem SR.poke(m:Mk cx)(g:cx.Good)(S:SR cx ρ H s)(P:Lp W s.heap h')(hs:∀c,W c->cx.hs.get? c=Option.none)(hl:H'.length=H.length)
  (ho:∀i o,H'[i]? = some o->dN o=true->(H[i]? = some o/\foB o=true/\¬ W (ρ i))\/(OR cx { s with heap:=h'} ρ H.length (ρ i) o/\∃o',H[i]? = some o'/\dN o'=true)):SR cx ρ H' { s with heap:=h'}:=by
 have old:∀i o,H'[i]? = some o->dN o=true->∃o',H[i]? = some o'/\dN o'=true:=λi o e al=>(ho i o e al).elim (λq=>⟨o,q.1,al⟩) λq=>q.2;refine⟨λc o e=>P.ke c o (λw=>by rw[hs c w]at e;exact nS e) (S.keep c o e),λi o e=>?_,λi j oi oj ei ej ai aj q=>?_,λi o e al=>?_,S.gens,S.os,S.tkn⟩
 ·rw[hl]
  cases al:dN o with
  |false=>exact nG al
  |true=>exact(ho i o e al).elim (λq=>(S.own i o q.1).poke m g P q.2.2 q.2.1 al) λq=>q.1
 ·exact(old i oi ei ai).elim λ_ p=>(old j oj ej aj).elim λ_ p'=>S.inj i j _ _ p.1 p'.1 p.2 p'.2 q
 ·exact(old i o e al).elim λ_ p=>S.new i _ p.1 p.2
theorem fN{b:Addr}{o1 o2:Obj}(e1:h.get? a=some o1)(e2:h.get? b=some o2)(hc:o1.cls≠o2.cls):a≠b:=λe=>by
 rw[e,e2]at e1;obtain rfl:=ak e1;exact hc rfl
noncomputable def Wz(z TO i1 i2:Addr)(a:Addr):Prop:=a=z\/a=TO\/a=i1\/a=i2
theorem o0(v:Array Value):ff { cls:=.type "zip",dict:=none,data:=.fields v,slots:=#[]}=true:=by
 show(mD v || false || false || false || true || false || false)=true;cases mD v<;>rfl
theorem HQ(hz:IsZip h z TI TO f0)(hTO:IsPair h TO u v)(h1:h.IsListIter i1 l1 k1)(h2:h.IsListIter i2 l2 k2):
  ∀c o vs q t,Wz z TO i1 i2 c->h.get? c=some o->o.data = .fields vs->vs[1]?≠some (.str q t):=by
 intro c o vs q t w e hd hq;rcases w with w | w | w | w
 ·rw[w,hz]at e;cases e;cases hd;cases hq
 ·rw[w,hTO]at e;obtain rfl:=ak e;cases hd
 ·refine dz h1 λo1 e1 _ d1=>?_
  rw[w,e1]at e;cases e;rw[d1]at hd;cases hd;cases hq
 ·refine dz h2 λo1 e1 _ d1=>?_
  rw[w,e1]at e;cases e;rw[d1]at hd;cases hd;cases hq
theorem xW(hz:IsZip h z TI TO f0)(hTI:IsPair h TI (.ref i1) (.ref i2))(hTO:IsPair h TO u v)(h1:h.IsListIter i1 l1 k1)(h2:h.IsListIter i2 l2 k2)(hl1:h.IsList l1 xs)(hl2:h.IsList l2 ys)(hT:TI≠TO)(hi:i1≠i2):ZipApart z TI TO i1 i2 l1 l2:=by
 refine dz h1 λo1 e1 c1 _=>?_;refine dz h2 λo2 e2 c2 _=>?_;refine dz hl1 λo3 e3 c3 _=>?_;refine dz hl2 λo4 e4 c4 _=>?_;have tz:("tuple" : String)≠"zip":=by decide
 have iz:("list_iterator" : String)≠"zip":=by decide
 have ti:("tuple" : String)≠"list_iterator":=by decide
 have lz:("list" : String)≠"zip":=by decide
 have lt:("list" : String)≠"tuple":=by decide
 have li:("list" : String)≠"list_iterator":=by decide
 have ne:∀{p q:String},p≠q->Value.type p≠.type q:=λn e=>n (Value.type.inj e);exact⟨fN hTI hz (ne tz),fN hTO hz (ne tz),fN e1 hz (by rw[c1];exact ne iz),fN e2 hz (by rw[c2];exact ne iz),hT,fN hTI e1 (by rw[c1];exact ne ti),fN hTI e2 (by rw[c2];exact ne ti),fN hTO e1 (by rw[c1];exact ne ti),fN hTO e2 (by rw[c2];exact ne ti),hi,
  fN e3 hz (by rw[c3];exact ne lz),fN e3 hTO (by rw[c3];exact ne lt),fN e3 e1 (by rw[c3,c1];exact ne li),fN e3 e2 (by rw[c3,c2];exact ne li),fN e4 hz (by rw[c4];exact ne lz),fN e4 hTO (by rw[c4];exact ne lt),fN e4 e1 (by rw[c4,c1];exact ne li),fN e4 e2 (by rw[c4,c2];exact ne li)⟩
theorem th(m:Mk cx)(g:cx.Good)(hN:H[N]? = some (.iter (.list i0 k)))(hM:H[M]? = some (.iter (.list n0 k)))(hfl:∀j o,N≠j->M≠j->H[j]? = some o->foB o=true)(S:SR cx ρ H s)(hz:IsZip s.heap z TI TO f0)(hTO:IsPair s.heap TO u v)
  (hs:∀c,Wz z TO (ρ N) (ρ M) c->cx.hs.get? c=none) (hk:∀c o,¬ Wz z TO (ρ N) (ρ M) c->s.heap.get? c=some o->h'.get? c=some o) (ho1:dN o1=true->OR cx { s with heap:=h'} ρ H.length (ρ N) o1) (ho2:dN o2=true->OR cx { s with heap:=h'} ρ H.length (ρ M) o2) :
  SR cx ρ ((H.set N o1).set M o2) { s with heap:=h'}:=by
 refine dm (S.own _ _ hN) λ_ h1 _=>?_;refine dm (S.own _ _ hM) λ_ h2 _=>?_;refine S.poke m g ⟨hk,HQ hz hTO h1 h2⟩ hs (by rw[aE,aE]) λj o e al=>?_;refine(jO e).elim (λq=>(jO q.2).elim (λq'=>.inl ⟨q'.2,hfl j o q'.1 q.1 q'.2,λw=>?_⟩) λq'=>.inr ?_) λq=>.inr ?_
 ·refine dm (S.ob g q'.2 al) λob eo fz=>?_
  rcases w with w | w | w | w
  ·rw[w,hz]at eo;obtain rfl:=ak eo;rw[o0]at fz;exact tF fz
  ·rw[w,hTO]at eo;obtain rfl:=ak eo;exact tF fz
  ·exact q'.1 (S.inj j N _ _ q'.2 hN al rfl w).symm
  ·exact q.1 (S.inj j M _ _ q'.2 hM al rfl w).symm
 ·rw[<-q'.1]
  exact⟨q'.2.1▸ho1 (q'.2.1▸al),_,hN,rfl⟩
 ·rw[<-q.1]
  exact⟨q.2.1▸ho2 (q.2.1▸al),_,hM,rfl⟩
end
section
variable {cx:Cx} {d N i0 n0 n:Nat} {c:IE} {xs ys:List AV} {B:Nat->List AO} {A:Around} {env:Env} {R:Result->Shared->Prop} {z TI TO i1 i2:Addr} {s0:Shared} {ρ0:Nat->Addr} {els:List Expr} {kq:Nat} {pos:Pos} {bd:List Stmt}
noncomputable def nxB(B:List AO)(N:Nat)(o1 o2:AO):List AO:=(B.set N o1).set (N+1) o2
structure ZB (B:Nat->List AO) (N i0 n0 n:Nat) (xs ys:List AV):Prop where
 hN:∀k,(B k)[N]? = some (.iter (.list i0 k))
 hM:∀k,(B k)[N+1]? = some (.iter (.list n0 k))
 len:∀k,(B k).length=N+2
 hx:∀k,(B k)[i0]? = some (.list xs)
 hy:∀k,(B k)[n0]? = some (.list ys)
 fl:∀k j o,N≠j->N+1≠j->(B k)[j]? = some o->foB o=true
 fx:xs.all fv=true
 fy:ys.all fv=true
 ly:ys.length=n
 lx:n<=xs.length
structure ZS (cx:Cx) (B:Nat->List AO) (N:Nat) (z TI TO i1 i2:Addr) (s0:Shared) (ρ0:Nat->Addr) (c:IE) (env:Env) (k:Nat) (s:Shared) (ρ:Nat->Addr):Prop where
 sr:SR cx ρ (B k) s
 e1:ρ N=i1
 e2:ρ (N+1)=i2
 hz:IsZip s.heap z TI TO .none
 hTI:IsPair s.heap TI (.ref i1) (.ref i2)
 hTO:∃a b,IsPair s.heap TO a b
 ext:Ext ρ0 N s0 ρ s
 en:iZ ρ (N+2) c env
theorem uC(b:ZB B N i0 n0 n xs ys){k:Nat}{s:Shared}{ρ:Nat->Addr}(Z:ZS cx B N z TI TO i1 i2 s0 ρ0 c env k s ρ)(hT:TI≠TO){u v:Value}(hTO:IsPair s.heap TO u v):∃(Vs Ws:Array Value),L2 (Is cx s ρ (N+2)) xs Vs.toList/\L2 (Is cx s ρ (N+2)) ys Ws.toList/\s.heap.IsListIter i1 (ρ i0) k/\s.heap.IsListIter i2 (ρ n0) k/\s.heap.IsList (ρ i0) Vs/\s.heap.IsList (ρ n0) Ws/\ZipApart z TI TO i1 i2 (ρ i0) (ρ n0)/\i0<N+2/\n0<N+2:=by
 refine dm (Z.sr.own _ _ (b.hx k)) λVs p1 l1=>?_;refine dm (Z.sr.own _ _ (b.hy k)) λWs p2 l2=>?_;refine dm (Z.sr.own _ _ (b.hN k)) λa1 h1 j1=>?_;refine dm (Z.sr.own _ _ (b.hM k)) λa2 h2 j2=>?_;have hne:ρ N≠ρ (N+1):=λe=>absurd (Z.sr.inj N (N+1) _ _ (b.hN k) (b.hM k) rfl rfl e) (aO (aD N));have q1:=j1.1;have q2:=j2.1;cases q1;cases q2;rw[b.len k]at l1 l2 j1 j2;rw[Z.e1]at h1 hne;rw[Z.e2]at h2 hne;exact⟨Vs,Ws,l1,l2,h1,h2,p1.isList,p2.isList,xW Z.hz Z.hTI hTO h1 h2 p1.isList p2.isList hT hne,j1.2,j2.2⟩
theorem uq(m:Mk cx)(gc:Cok cx)(b:ZB B N i0 n0 n xs ys)(turn:∀k x y,xs[k]? = some x->ys[k]? = some y->∃H2,AsE cx d (.Tuple els kq pos) (.tup [x,y]) c (nxB (B k) N (.iter (.list i0 (k+1))) (.iter (.list n0 (k+1)))) H2/\ExB cx d bd c H2 .next (B (k+1)))
  (O:Ok A d) (hW:∀a,Wz z TO i1 i2 a->s0.heap.get? a=none/\cx.hs.get? a=none) (hTT:TI≠TO) (fin:∀s' ρ',SR cx ρ' (nxB (B n) N .dead .dead) s'->Ext ρ0 N s0 ρ' s'->R (.ok .next) s') :
  ∀r k,r+k=n->∀s ρ,ZS cx B N z TI TO i1 i2 s0 ρ0 c env k s ρ->codeAny (model pw cx.w) A (.forLoop (.Tuple els kq pos) (.ref z) bd [] env) R s
 |0,k,hk,s,ρ,Z=>by
  have hk:k=n:=(aY k).symm.trans hk;refine fA Z.hTO λu v hTO=>?_;refine GM (uC b Z hTT hTO) λVs Ws l1 l2 h1 h2 p1 p2 D hi hn=>?_;refine gP (wpAny_pyNext_zip_end O.hd D Z.hz Z.hTI hTO h1 h2 p1 p2 (.inr ?_) λh' hk7=>?_)
  ·have:=l2.len
   rw[b.ly]at this;exact cw (by rw[hk,this,be];exact ad _)
  ·have hk':∀c o,¬ Wz z TO i1 i2 c->s.heap.get? c=some o->h'.get? c=some o:=λc o w e=>hk7 c o (λq=>w (.inl q)) (λq=>w (.inr (.inl q))) (λq=>w (.inr (.inr (.inl q)))) (λq=>w (.inr (.inr (.inr q)))) e
   refine fin _ ρ ?_ ⟨Z.ext.ag,λc o e fz=>hk' c o (λw=>by rw[(hW c w).1]at e;exact nS e) (Z.ext.fz c o e fz),Z.ext.tk⟩;have hWn:∀a,Wz z TO (ρ N) (ρ (N+1)) a->s0.heap.get? a=none/\cx.hs.get? a=none:=by rw[Z.e1,Z.e2];exact hW
   have hk3:∀c o,¬ Wz z TO (ρ N) (ρ (N+1)) c->s.heap.get? c=some o->h'.get? c=some o:=by rw[Z.e1,Z.e2];exact hk'
   rw[<-hk];exact th m gc.toGood (b.hN k) (b.hM k) (b.fl k) Z.sr Z.hz hTO (λc w=>(hWn c w).2) hk3 (λh=>nomatch h) (λh=>nomatch h)
 |r+1,k,hk,s,ρ,Z=>by
  refine fA Z.hTO λu v hTO=>?_;refine GM (uC b Z hTT hTO) λVs Ws l1 l2 h1 h2 p1 p2 D hi hn=>?_;have hkn:k<n:=hk▸av (aD k) (by rw[bV,bf];exact bU _ _);obtain⟨x,ex⟩:∃x,xs[k]? = some x:=⟨_,au (av hkn b.lx)⟩;obtain⟨y,ey⟩:∃y,ys[k]? = some y:=⟨_,au (av hkn (aL b.ly.symm))⟩;refine l1.getE ex λV eV iV=>l2.getE ey λU eU iU=>?_;have fx:=aA.mp b.fx _ (aQ ex);have fy:=aA.mp b.fy _ (aQ ey);refine dm (turn k _ _ ex ey) λH2 T1 T2=>?_;refine gP (wpAny_pyNext_zip_item D Z.hz Z.hTI hTO h1 h2 p1 p2 (by rw[<-eV,bz]) (by rw[<-eU,bz]) λh' a1 a2 a3 a4 a5 a6 hk7=>?_);have hk':∀c o,¬ Wz z TO i1 i2 c->s.heap.get? c=some o->h'.get? c=some o:=λc o w e=>hk7 c o (λq=>w (.inl q)) (λq=>w (.inr (.inl q))) (λq=>w (.inr (.inr (.inl q)))) (λq=>w (.inr (.inr (.inr q)))) e;refine wpAny_letOwnedTupleGo_zip a1 λh'' hz' hs'=>?_;have hk2:∀c o,¬ Wz z TO i1 i2 c->s.heap.get? c=some o->h''.get? c=some o:=λc o w e=>hs'.extBut c o (λq=>w (.inl q)) (hk' c o w e);have hTI2:IsPair h'' TI (.ref i1) (.ref i2):=hs'.extBut _ _ D.TIz (hk7 _ _ D.TIz D.TITO D.TIi1 D.TIi2 Z.hTI);have hTO2:IsPair h'' TO V U:=hs'.extBut _ _ D.TOz a2;have hP2:IsPair h'' s.heap.objs.size V U:=hs'.extBut _ _ (bl (bk Z.hz)) a5;have b1:h''.IsListIter i1 (ρ i0) (k+1):=a3.extBut hs'.extBut D.i1z;have b2:h''.IsListIter i2 (ρ n0) (k+1):=a4.extBut hs'.extBut D.i2z;have E2:Ext ρ0 N s0 ρ { s with heap:=h''}:=⟨Z.ext.ag,λc o e fz=>hk2 c o (λw=>by rw[(hW c w).1]at e;exact nS e) (Z.ext.fz c o e fz),Z.ext.tk⟩;rw[<-Z.e1]at b1;rw[<-Z.e2]at b2
  have hWn:∀a,Wz z TO (ρ N) (ρ (N+1)) a->s0.heap.get? a=none/\cx.hs.get? a=none:=by rw[Z.e1,Z.e2];exact hW
  have hk3:∀c o,¬ Wz z TO (ρ N) (ρ (N+1)) c->s.heap.get? c=some o->h''.get? c=some o:=by rw[Z.e1,Z.e2];exact hk2
  have S2:=th (o1:=.iter (.list i0 (k+1))) (o2:=.iter (.list n0 (k+1))) m gc.toGood (b.hN k) (b.hM k) (b.fl k) Z.sr Z.hz hTO (λc w=>(hWn c w).2) hk3 (λ_=>⟨ρ i0,b1,rfl,by rw[b.len];exact hi⟩) (λ_=>⟨ρ n0,b2,rfl,by rw[b.len];exact hn⟩);have len2:(nxB (B k) N (.iter (.list i0 (k+1))) (.iter (.list n0 (k+1)))).length=N+2:=by unfold nxB;rw[aE,aE,b.len]
  have iT:Is cx { s with heap:=h''} ρ (nxB (B k) N (.iter (.list i0 (k+1))) (.iter (.list n0 (k+1)))).length (.tup [x,y]) (.ref s.heap.objs.size):=by
   rw[len2];have ja:∀{x:AV} {V:Value},fv x=true->Is cx s ρ (N+2) x V->Is0 cx { s with heap:=h''} ρ (N+2) x V:=λ{x V} hf i=>by cases x<;>first | exact i | exact fT hf
   exact⟨_,#[V,U],0,rfl,hP2,_,_,rfl,ja fx iV,_,_,rfl,ja fy iU,rfl⟩
  have at2:At cx d c (nxB (B k) N (.iter (.list i0 (k+1))) (.iter (.list n0 (k+1)))) A { s with heap:=h''} ρ env:=⟨gc,O,S2,by rw[len2];exact Z.en⟩;refine T1.2 at2 iT λ_ U6 ρ₂ P9 _ N7=>?_;have at3:=at2.next P9 N7 T1.1;refine T2.2 at3 λfl U7 V5 Q0 T6 N9=>?_;have l1':=T1.1;rw[len2]at N7 l1';have E23:=N7.trans l1' N9;rw[show fl = .next from T6];have hNlt:N<N+2:=bc (aD N);exact uq m gc b turn O hW hTT fin r (k+1) (by rw[<-hk,bV,bf]) U7 V5 ⟨Q0,(E23.ag N hNlt).trans Z.e1,(E23.ag (N+1) (aD _)).trans Z.e2,E23.fz _ _ hz' (o0 _),E23.fz _ _ hTI2 rfl,⟨V,U,E23.fz _ _ hTO2 rfl⟩,E2.trans (ad N) (E23.less (a7 hNlt)),Z.en.ext E23 (ad _)⟩
end
section
variable {cx:Cx} {K:Frag} {d N i0 n0 n:Nat} {c:IE} {xs ys:List AV} {B:Nat->List AO} {els:List Expr} {kq:Nat} {tp pos pos2 P1 P2:Pos} {bd:List Stmt} {HL HM:List AO} {e:Expr}
theorem Ft(X:dF cx K)(k0:EvE cx d (.Name (nmF 176) P1) c HL (.ty 4) HL)(k1:EvE cx d (.Name (nmF 146) P2) c HL (.ref i0) HL)(he:dD e=false)(k2:EvE cx d e c HL (.ref n0) HM)(hl:HM.length=N)(hB:B 0=(HM++[.iter (.list i0 0)])++[.iter (.list n0 0)])(hx:HM[i0]? = some (.list xs))(hy:HM[n0]? = some (.list ys))(b:ZB B N i0 n0 n xs ys)
  (turn:∀k x y,xs[k]? = some x->ys[k]? = some y->∃H2,AsE cx d (.Tuple els kq tp) (.tup [x,y]) c (nxB (B k) N (.iter (.list i0 (k+1))) (.iter (.list n0 (k+1)))) H2/\ExB cx d bd c H2 .next (B (k+1))) :
  ExS cx d (.For (.Tuple els kq tp) (.Call (.Name (nmF 176) P1) [.Name (nmF 146) P2,e] [] pos2) bd [] pos) c HL .next (nxB (B n) N .dead .dead):=by
 have l2:=k2.1;have lB:(nxB (B n) N .dead .dead).length=N+2:=by unfold nxB;rw[aE,aE,b.len]
 refine⟨by rw[lB,<-hl];exact ae l2 (aK _ _),λ{A s ρ env Q E} z W=>wpAny_For ?_ (jd rfl _)⟩;rw[pf _ rfl];refine ab (k0.run z λFv U4 V4 V0 T3 N0=>?_);have hst:∀x' ∈ [Expr.Name (nmF 146) P2,e],dD x'=false:=λx' hx=>(aH.mp hx).elim (λq=>q▸rfl) λhx=>br.mp hx▸he;rw[gH hst,show Fv = .type "zip" from T3];refine callWith_of (P:=λh=>∃k,(k=Keeper.frame\/k=Keeper.machine\/k=Keeper.boundFrame)/\Looks (model pw cx.w) h (keeperOf (.type "zip")) k) ?_ (λh x=>x) (gQ (keywords:=[]) rfl ?_)
 ·rw[List.any_map];exact Bool.or_eq_false_iff.mpr ⟨di.mpr λx _=>ah,rfl⟩
 refine spliced_cons (k1.run V0 λV U6 ρ₂ V1 T5 N7=>spliced_cons (k2.run V1 λU U7 V5 V2 T6 N9=>spliced_nil (wpAny_evalAll_nil ⟨Gj 4 V2.sr rfl,?_⟩)));have g:=X.cok.toGood;have N3:=N0.trans (ad _) N7;have N4:=N3.trans (ad _) N9;have Q0:=V2.sr;have i0N:i0<N:=hl▸fM hx;have n0N:n0<N:=hl▸fM hy;have hV:V = .ref (V5 i0):=by rw[T5.1,N9.ag _ T5.2]
 rw[hV,T6.1];refine dm (Q0.own _ _ hx) λVs p1 l1=>?_;refine dm (Q0.own _ _ hy) λWs p2 l2'=>?_;show wpAny (model pw cx.w) A (call (.type "zip") [.ref (V5 i0),.ref (V5 n0)]) _ _ U7;refine call_zip_2 p1.isList p2.isList λh' q1 q2 q3 q4 q5 q6 hk=>?_;refine wpAny_pyIter_zip q1 ?_;have none_at:∀j,U7.heap.get? (U7.heap.objs.size+j)=none:=λj=>by
  cases q:U7.heap.get? (U7.heap.objs.size+j) with
  |none=>rfl
  |some o=>exact absurd (bk q) (bJ.mpr (aK _ _))
 have hs_none:∀j,cx.hs.get? (U7.heap.objs.size+j)=none:=λj=>Q0.none_at (aK _ _);have R1:=Q0.add (hp:=h') (t:=U7.toks) (o:=.iter (.list i0 0)) (a:=U7.heap.objs.size) g (hs_none 0) (λi o ei al=>aO (Q0.lt g ei al)) (ad _) hk λ_=>⟨V5 i0,q4,by rw[gM (hl▸i0N)],by rw[hl];exact bc i0N⟩;rw[hl]at R1;have lA:(HM++[AO.iter (.list i0 0)]).length=N+1:=by rw[az,hl];rfl
 have R2:=R1.1.add (hp:=h') (t:=U7.toks) (o:=.iter (.list n0 0)) (a:=U7.heap.objs.size+1) g (hs_none 1) (λi o ei al q=>by
  have hi:=fM ei;rw[lA]at hi
  by_cases hiN:i=N
  ·rw[hiN,g9]at q;exact absurd q (aO (aD _))
  ·have hi':i<N:=cZ (dh hi) hiN
   rw[gM hi']at q;rw[cb (hl▸hi')]at ei;have:=Q0.lt g ei al;rw[q]at this;exact absurd this (bJ.mpr (aC _))) (ad _) (λ_ _ e=>e) λ_=>by
  rw[lA];exact⟨V5 n0,q5,by rw[gM (bc n0N),gM n0N],bc (bc n0N)⟩
 rw[lA,<-hB]at R2;have E45:=R1.2.trans (aC _) R2.2;refine uq (N:=N) (i0:=i0) (n0:=n0) (n:=n) (s0:=U7) (ρ0:=V5) (z:=U7.heap.objs.size+4) (TI:=U7.heap.objs.size+2) (TO:=U7.heap.objs.size+3) (i1:=U7.heap.objs.size) (i2:=U7.heap.objs.size+1) X.cod X.cok b turn z.ok ?_ (aO (aD _)) ?_ n 0 (Nat.add_zero n) { U7 with heap:=h',toks:=U7.toks} _ ⟨R2.1,?_,?_,q1,q2,⟨_,_,q3⟩,E45,?_⟩
 ·intro a ha
  rcases ha with w | w | w | w<;>rw[w]
  ·exact⟨none_at 4,hs_none 4⟩
  ·exact⟨none_at 3,hs_none 3⟩
  ·exact⟨none_at 0,hs_none 0⟩
  ·exact⟨none_at 1,hs_none 1⟩
 ·exact λs' ρ' S' E'=>W .next s' ρ' S' rfl (N4.trans l2 (hl.symm▸E'))
 ·rw[gM (aD N),g9]
 ·rw[g9]
 ·have en:=V2.en
  rw[hl]at en;exact en.ext E45 (aK _ _)
end
noncomputable def BN:List Stmt:=match stN 36 with
 | .FunctionDef _ _ b ..=>b
 |_=>[]
noncomputable def st8:PE:=fh dT.body 8
noncomputable def sl8:PE:=hdP (tlP (argsC (itC st8)))
 where
 itC (p:PE):PE:=match p with
  | .for _ it _=>it
  |_=>.no
 argsC (p:PE):PE:=match p with
  | .call _ a _ _=>a
  |_=>.no
theorem C6:∃els kq tp P1 P2 e pos2 bd pos,BN[8]? = some (.For (.Tuple els kq tp) (.Call (.Name (nmF 176) P1) [.Name (nmF 146) P2,e] [] pos2) bd [] pos)/\dD e=false/\cvE 19 e=sl8/\cvT (cvE 20) 9 (.Tuple els kq tp)=JB st8/\cvL (cvS (cvE 20) 19) bd=pu st8:=⟨_,_,_,_,_,_,_,_,_,rfl,rfl,by kernel_rfl,by kernel_rfl,by kernel_rfl⟩
noncomputable def nq:List AV:=(List.range 15).map λn=>.str (twC (n+1))
noncomputable def zF(k:Nat):List (Nat×AV):=Nat.casesOn k [] λj=>[(167,.str (twC j)),(168,.str (twC (j+1)))]
noncomputable def lf(m:List (Nat×AV))(cl nm row nu sl cls:List AV):List AO:=gR++[.ns ([(110,.st 323)]++m),.cell (some (.ref 11)),.cell (some (.ref 13)),.cell (some (.ref 14)),.cell (some (.ref 24)),.cell none,.cell none,.cell none,.list cl,.list lW,.list mt,.list m8,.dead,.list gi,.dead,.dead,.dead,.dead,.dead,.list nm,.list row,.list nu,.list sl,.dead,.list cls,.dead,.dead,.dead,.dead,.dead,.dead,.dead]
section
variable {ns:List Int} {rw:Bool} {cl nm row nu sl cls:List AV} {a b c d e p:AV} {k i:Nat} {m:List (Nat×AV)}
noncomputable def zL(m:List (Nat×AV))(cl nm row nu sl cls:List AV)(k i:Nat):List AO:=lf (m++zF k) cl nm row nu sl cls++[.list nq,.iter (.list 16 i),.iter (.list 35 i)]
noncomputable def frZ(rw:Bool)(a b c d e p:AV):List (Nat×AV):=frN rw a b c d++w3 0 e p
theorem HE:(fns (OL ns) (fu 20)).ev 40 sl8 dy (mkT (lf (frZ rw a b c d e p) cl nm row nu sl cls)) (λv H=>some (.ret v,H))=some (.ret (.ref 35),mkT (lf (frZ rw a b c d e p) cl nm row nu sl cls++[.list nq])):=by kernel_rfl
noncomputable def zT(ns:List Int)(H:TH)(k:Nat):R:=(fns (OL ns) (fu 20)).asg 40 (JB st8) (.tup [.str (twC k),.str (twC (k+1))]) dy H λH=>(fns (OL ns) (fu 20)).exs 40 (pu st8) dy H uw
theorem Nn{P:Nat->Prop}(h0:P 0)(h1:P 1)(h2:P 2)(h3:P 3)(h4:P 4)(h5:P 5)(h6:P 6)(h7:P 7)(h8:P 8)(h9:P 9)(h10:P 10)(h11:P 11)(h12:P 12)(h13:P 13)(h14:P 14):∀j,j<15->P j:=λj h=>kZ (P:=λj=>j<15->P j) (λ_=>h0) (λ_=>h1) (λ_=>h2) (λ_=>h3) (λ_=>h4) (λ_=>h5) (λ_=>h6) (λ_=>h7) (λ_=>h8) (λ_=>h9) (λ_=>h10) (λ_=>h11) (λ_=>h12) (λ_=>h13) (λ_=>h14) (λh=>absurd h (by decide)) j (bc h) h
theorem J2:∀k,k<15->zT ns (mkT (zL (frZ rw a b c d e p) cl nm row nu sl cls k (k+1))) k=some (.next,mkT (zL (frZ rw a b c d e p) cl nm row nu sl cls (k+1) (k+1))):=Nn (by kernel_rfl) (by kernel_rfl) (by kernel_rfl) (by kernel_rfl) (by kernel_rfl) (by kernel_rfl) (by kernel_rfl) (by kernel_rfl) (by kernel_rfl) (by kernel_rfl) (by kernel_rfl) (by kernel_rfl) (by kernel_rfl) (by kernel_rfl) (by kernel_rfl)
theorem Nr:nxB (zL m cl nm row nu sl cls k k) 36 (.iter (.list 16 (k+1))) (.iter (.list 35 (k+1)))=zL m cl nm row nu sl cls k (k+1):=rfl
theorem MT(hv:fvM (frZ rw a b c d e p)=true)(h1:cl.all fv=true)(h2:nm.all fv=true)(h3:row.all fv=true)(h4:nu.all fv=true)(h5:sl.all fv=true)(h6:cls.all fv=true):(lf (frZ rw a b c d e p++zF k) cl nm row nu sl cls++[AO.list nq]).all foB=true:=by
 have ee:(lf (frZ rw a b c d e p++zF k) cl nm row nu sl cls++[AO.list nq]).all foB=(fvM (frZ rw a b c d e p++zF k)&&(cl.all fv&&(nm.all fv&&(row.all fv&&(nu.all fv&&(sl.all fv&&(cls.all fv&&true))))))):=by kernel_rfl
 have ez:fvM (zF k)=true:=by cases k<;>rfl
 rw[ee,h1,h2,h3,h4,h5,h6,show fvM (frZ rw a b c d e p++zF k)=(fvM (frZ rw a b c d e p)&&fvM (zF k)) from List.all_append,hv,ez];rfl
theorem qW{α:Type}{f:α->AV}(h:∀a,fv (f a)=true)(l:List α):(l.map f).all fv=true:=aA.mpr λx hx=>by refine dm (bx.mp hx) λa _ e=>?_;rw[<-e];exact h a
theorem Ht{k:Nat}{x:AV}(h:gi[k]? = some x):k<16/\x = .str (twC k):=by
 have hk:k<16:=by have:=(aG.mp h).1;unfold gi at this;rw[aq,cp]at this;exact this
 unfold gi at h;rw[aP,List.getElem?_range hk]at h;exact⟨hk,(ak h).symm⟩
theorem D7{k:Nat}{x:AV}(h:nq[k]? = some x):k<15/\x = .str (twC (k+1)):=by
 have hk:k<15:=by have:=(aG.mp h).1;unfold nq at this;rw[aq,cp]at this;exact this
 unfold nq at h;rw[aP,List.getElem?_range hk]at h;exact⟨hk,(ak h).symm⟩
end
section
variable {cx:Cx} {K:Frag} {ns:List Int} {rw':Bool} {c0 c1 c2 c3 c4 c5:Int} {a b c d e p:AV} {P D T:List Nat} {st:Stmt}
theorem zb(hv:fvM (frZ rw' a b c d e p)=true):ZB (λk=>zL (frZ rw' a b c d e p) [.int c0,.int c1,.int c2,.int c3,.int c4,.int c5] (dK P) (dW D) (dw D) [.int c1,.int c2,.int c3,.int c4,.int c5] (dw T) k k) 36 16 35 15 gi nq where
 hN:=λk=>rfl
 hM:=λk=>rfl
 len:=λk=>rfl
 hx:=λk=>rfl
 hy:=λk=>rfl
 fl:=λk j o h1 h2 h=>by
  have hj:=fM h;have hj:j<38:=hj;have hj:j<36:=cZ (dh (cZ (dh hj) (cL h2))) (cL h1);have e:zL (frZ rw' a b c d e p) [.int c0,.int c1,.int c2,.int c3,.int c4,.int c5] (dK P) (dW D) (dw D) [.int c1,.int c2,.int c3,.int c4,.int c5] (dw T) k k=(lf (frZ rw' a b c d e p++zF k) [.int c0,.int c1,.int c2,.int c3,.int c4,.int c5] (dK P) (dW D) (dw D) [.int c1,.int c2,.int c3,.int c4,.int c5] (dw T)++[.list nq])++[.iter (.list 16 k),.iter (.list 35 k)]:=rfl;rw[e,cb (by exact hj)]at h;exact aA.mp (MT hv rfl (qW (λ_=>rfl) _) (qW (λ_=>rfl) _) (qW (λ_=>rfl) _) rfl (qW (λ_=>rfl) _)) o (aQ h)
 fx:=rfl
 fy:=rfl
 ly:=rfl
 lx:=by decide
theorem IC(hO:gL K (OL ns))(X:dF cx K)(hv:fvM (frZ rw' a b c d e p)=true)(hst:BN[8]? = some st):
  ExS cx 40 st dy (lf (frZ rw' a b c d e p) [.int c0,.int c1,.int c2,.int c3,.int c4,.int c5] (dK P) (dW D) (dw D) [.int c1,.int c2,.int c3,.int c4,.int c5] (dw T)) .next (lf (frZ rw' a b c d e p++zF 15) [.int c0,.int c1,.int c2,.int c3,.int c4,.int c5] (dK P) (dW D) (dw D) [.int c1,.int c2,.int c3,.int c4,.int c5] (dw T)++[.list nq,.dead,.dead]):=by
 refine GK C6 λels kq tp P1 P2 x pos2 bd pos h1 h2 h3 h4 h5=>?_;obtain rfl:=ak (h1.symm.trans hst);have KF:=rD hO (fu 20) cx X;have hH:(mkT (lf (frZ rw' a b c d e p) [.int c0,.int c1,.int c2,.int c3,.int c4,.int c5] (dK P) (dW D) (dw D) [.int c1,.int c2,.int c3,.int c4,.int c5] (dw T))).L=_:=fS rfl;have k0:=jl (cx:=cx) (d:=40) (c:=dy) (pos:=P1) (H:=mkT (lf (frZ rw' a b c d e p) [.int c0,.int c1,.int c2,.int c3,.int c4,.int c5] (dK P) (dW D) (dw D) [.int c1,.int c2,.int c3,.int c4,.int c5] (dw T))) (y:=176) (v:=.ty 4) (by decide) (by kernel_rfl);have k1:=jl (cx:=cx) (d:=40) (c:=dy) (pos:=P2) (H:=mkT (lf (frZ rw' a b c d e p) [.int c0,.int c1,.int c2,.int c3,.int c4,.int c5] (dK P) (dW D) (dw D) [.int c1,.int c2,.int c3,.int c4,.int c5] (dw T))) (y:=146) (v:=.ref 16) (by decide) (by kernel_rfl);have k2:EvE cx 40 x dy (lf (frZ rw' a b c d e p) [.int c0,.int c1,.int c2,.int c3,.int c4,.int c5] (dK P) (dW D) (dw D) [.int c1,.int c2,.int c3,.int c4,.int c5] (dw T)) (.ref 35) (lf (frZ rw' a b c d e p) [.int c0,.int c1,.int c2,.int c3,.int c4,.int c5] (dK P) (dW D) (dw D) [.int c1,.int c2,.int c3,.int c4,.int c5] (dw T)++[.list nq]):=by
  have h:=HE (ns:=ns) (rw:=rw') (a:=a) (b:=b) (c:=c) (d:=d) (e:=e) (p:=p) (cl:=[.int c0,.int c1,.int c2,.int c3,.int c4,.int c5]) (nm:=dK P) (row:=dW D) (nu:=dw D) (sl:=[.int c1,.int c2,.int c3,.int c4,.int c5]) (cls:=dw T);rw[<-h3]at h;refine KF.ev h λv H' kv h=>?_;rw[hH]at kv;cases h;rw[fS rfl]at kv;exact kv
 rw[hH]at k0 k1;refine Ft (B:=λk=>zL (frZ rw' a b c d e p) [.int c0,.int c1,.int c2,.int c3,.int c4,.int c5] (dK P) (dW D) (dw D) [.int c1,.int c2,.int c3,.int c4,.int c5] (dw T) k k) (N:=36) (n:=15) X k0 k1 h2 k2 rfl rfl rfl rfl (zb hv) λk x y hx hy=>?_;obtain⟨_,ex⟩:=Ht hx;obtain⟨hk,ey⟩:=D7 hy;have h:=J2 (ns:=ns) (rw:=rw') (a:=a) (b:=b) (c:=c) (d:=d) (e:=e) (p:=p) (cl:=[.int c0,.int c1,.int c2,.int c3,.int c4,.int c5]) (nm:=dK P) (row:=dW D) (nu:=dw D) (sl:=[.int c1,.int c2,.int c3,.int c4,.int c5]) (cls:=dw T) k hk;unfold zT at h;rw[<-h4,<-h5]at h;rw[ex,ey,Nr];refine KF.asg h λH2 a1 h=>KF.exs h λf H3 e1 h=>?_;rw[fS rfl]at a1;cases h;rw[fS rfl]at e1;exact⟨_,a1,e1⟩
end
theorem JW(a b:Nat):Builtin.bitAnd (a:Int) (b:Int)=((a &&& b:Nat):Int):=by
 unfold Builtin.bitAnd;rw[aS (bX a),aS (bX b)];rfl
theorem G6(a b:Nat):(a ||| b) % 2=(a ^^^ b) % 2+(a &&& b) % 2:=by
 rw[show(2:Nat)=2 ^ 1 from rfl,Nat.or_mod_two_pow,Nat.xor_mod_two_pow,Nat.and_mod_two_pow,Nat.pow_one];rcases c8 a with ea | ea<;>rcases c8 b with eb | eb<;>rw[ea,eb]<;>rfl
theorem EY{x y z:Nat}(h:x / 2=y / 2+z / 2)(m:x % 2=y % 2+z % 2):x=y+z:=by
 have e:=(Nat.div_add_mod x 2).symm;rw[h,m,Nat.mul_add,Nat.add_add_add_comm,Nat.div_add_mod,Nat.div_add_mod]at e;exact e
theorem sH:∀n a b:Nat,a<2 ^ n->b<2 ^ n->a ||| b=(a ^^^ b)+(a &&& b)
 |0,a,b,ha,hb=>by
  rw[Nat.lt_one_iff.mp ha,Nat.lt_one_iff.mp hb];rfl
 |n+1,a,b,ha,hb=>by
  have ih:=sH n (a / 2) (b / 2) (ET ha) (ET hb);rw[<-Nat.or_div_two,<-Nat.xor_div_two,<-Nat.and_div_two]at ih;exact EY ih (G6 a b)
theorem G5(a:Nat):Builtin.bitNot (a:Int)=Int.negSucc a:=by unfold Builtin.bitNot;omega
theorem orN(a b:Nat):Builtin.bitOr (a:Int) (b:Int)=((a ||| b:Nat):Int):=by
 unfold Builtin.bitOr;rw[G5,G5];show Builtin.bitNot (Builtin.bitNot (Int.ofNat (Nat.lor (Builtin.bitNot (Int.negSucc a)).toNat (Builtin.bitNot (Int.negSucc b)).toNat)))=_;have h:∀c:Nat,Builtin.bitNot (Int.negSucc c)=c:=λc=>by unfold Builtin.bitNot;omega
 rw[h a,h b,bv,bv];show Builtin.bitNot (Builtin.bitNot ((Nat.lor a b:Nat):Int))=_;rw[G5,h];rfl
theorem Nl(a b:Nat):Builtin.bitXor (a:Int) (b:Int)=((a ^^^ b:Nat):Int):=by
 unfold Builtin.bitXor;have hlt:∀x:Nat,x<=a+b->x<2 ^ (a+b):=λx h=>aJ h Nat.lt_two_pow_self;rw[orN,JW,sH (a+b) a b (hlt a (aK _ _)) (hlt b (bU _ _)),Int.natCast_add];exact Int.add_sub_cancel _ _
theorem Dc(x:Nat):Builtin.bitAnd ((x+1:Nat):Int) (-((x+1:Nat):Int))=((tA (x+1):Nat):Int):=by
 show Builtin.bitAnd (Int.ofNat (x+1)) (Int.negSucc x)=_;unfold Builtin.bitAnd;show((x+1:Nat):Int) - ((Nat.land (x+1) (Builtin.bitNot (Int.negSucc x)).toNat:Nat):Int)=_;have h:Builtin.bitNot (Int.negSucc x)=x:=by unfold Builtin.bitNot;omega
 rw[h,bv];have h4:Nat.land (x+1) x<=x+1:=Nat.and_le_left;show _=((x+1 - Nat.land (x+1) (x+1 - 1):Nat):Int);rw[Nat.add_sub_cancel,Int.ofNat_sub h4]
noncomputable def Fo:List Nat->List (Nat×Nat)->Prop
 | [],_=>True
 |n::r,ts=>fW ts (ew n)≠0/\Fo r (jP ts (ew n))
theorem uG{B:List Nat}{x:Nat}(h:Nz B x):∀A:List Nat,Nz (A++B) x
 | []=>h
 |a::A=>.inl (uG h A)
theorem sI{P:List Nat}:∀(L M:List Nat) (t:List (Nat×Nat)),(∀x,Nz (L.reverse++M) x->hJ x P=true)->xJ P M t->Fo L t
 | [],M,t,_,i=>trivial
 |n::L,M,t,hP,i=>by
  rw[cK,aZ]at hP;have hnz:Nz (n::M) (fW t (ew n)):=.inr (kn λp hp=>(i.nz p hp).1.sp);refine dz (iM (hP _ (uG hnz _))) λk _ e1 _=>?_;exact⟨λh=>absurd (h▸e1:tA 0=2 ^ k).symm (bl (Nat.two_pow_pos k)),sI L (n::M) _ hP (tY (λx hx=>hP x (uG hx _)) i)⟩
noncomputable def nV(p:Nat×Nat):Int×Int:=((p.1:Int),(p.2:Int))
theorem eq0(n:Nat):(((n:Nat):Int) == 0)=Nat.beq n 0:=by rw[kg];exact decide_eq_decide.mpr Int.natCast_eq_zero
theorem o5:∀{ts:List (Nat×Nat)} {x:Nat},jy (ts.map nV) (x:Int)=(fW ts x:Nat)
 | [],x=>rfl
 |p::ts,x=>by
  rw[aM,yX];show jy _ (ifB (!(Builtin.bitAnd (x:Int) (p.1:Int) == 0)) (Builtin.bitXor (x:Int) (p.2:Int)) (x:Int))=((fW ts (if x &&& p.1≠0 then x ^^^ p.2 else x):Nat):Int);rw[JW,Nl,eq0,kg]
  by_cases c:x &&& p.1=0
  ·rw[aS c,aF λh=>h c];exact o5
  ·rw[bM c,aI c];exact o5
theorem Md:∀n:Nat,n<16->gY n=ew n:=kZ rfl rfl rfl rfl rfl rfl rfl rfl rfl rfl rfl rfl rfl rfl rfl rfl
noncomputable def uJ(D:List Nat):List Int:=D.map λn=>((gY n:Nat):Int)
theorem sX:∀{L:List Nat} {ts:List (Nat×Nat)},(∀n∈L,n<16)->Fo L ts->jK (uJ L) (ts.map nV)=(L.foldl (λt n=>jP t (ew n)) ts).map nV
 | [],ts,_,_=>rfl
 |n::L,ts,h,z=>by
  obtain⟨k,hk⟩:=Nat.exists_eq_succ_of_ne_zero z.1;show jK (((gY n:Nat):Int)::uJ L) (ts.map nV)=(L.foldl (λt n=>jP t (ew n)) (jP ts (ew n))).map nV;rw[vD,Md n (h n (.head _)),o5,hk,show k.succ=k+1 from rfl,Dc,<-sX (λn hn=>h n (.tail _ hn)) z.2];unfold jP;rw[bh,hk];rfl
structure Dk (D:List Nat) (m:Nat):Prop where
 fam:Fam D
 ne:0<D.length
 hm:m=fL (dv D)
 mem:m∈iG
theorem Dk.fm{D:List Nat}{m:Nat}(k:Dk D m):Fm (dv D):=mS k.fam.fm
theorem Gc{D:List Nat}(f:Fam D)(h:0<D.length):Dk D (fL (dv D)):=⟨f,h,rfl,by
 have h4:fL (dv D)∈0::iG:=(mE f).2.2.2;refine(aH.mp h4).elim (λe=>?_) id;cases hL:dv D with
 |nil=>have:=gO D;rw[hL]at this;exact absurd h (by rw[<-this];exact cO 0)
 |cons x r=>
  have:=iP (x::r) x;rw[<-hL,e,Nat.zero_testBit,hL,aS (List.mem_cons_self ..)]at this;exact fT this⟩
theorem Id{D:List Nat}{m:Nat}(k:Dk D m):Dk D.reverse m:=by
 have f:Fam D.reverse:=⟨(dl D).nodup_iff.mpr k.fam.nd,λn hn=>k.fam.lt n (List.mem_reverse.mp hn),by rw[cW];exact k.fam.le⟩;have:=Gc f (by rw[cW];exact k.ne);rw[oY (kJ (dl D)),<-k.hm]at this;exact this
theorem Ep:(iG.all λm=>(gB ltK (dw (dH m))&&o7 (dw (dH m))&&Nat.ble (dw (dH m)).length 6)&&(dw (dH m)).all isI)=true:=by kernel_rfl
theorem D5{a b:Nat}:ltK (.int (a:Int)) (.int (b:Int))=some (Nat.blt a b):=by
 have e:decide ((a:Int)<b)=Nat.blt a b:=by
  cases h:Nat.blt a b with
  |true=>exact aS (cF.mpr (jx h))
  |false=>exact bM λq=>by rw[show Nat.blt a b=true from a9 (cF.mp q)]at h;exact tF h
 rw[<-e];rfl
theorem Br{D:List Nat}{m:Nat}(k:Dk D m):(jK (uJ D) []).all Ha=true/\mX ((jK (uJ D) []).map tG)=some (dw (dH m))/\(dw (dH m)).all isI=true:=by
 refine dm k.fam.sorted λF hpF ht=>?_;have low:∀x,Nz D x->hJ x (dv F)=true:=λx hx=>(ux ht).1 x ((lI hpF x).mp hx);have nz:Fo D []:=sI (P:=dv F) D [] [] (λx hx=>low x ((lI (dl D) x).mp (by rw[aU]at hx;exact hx))) ⟨rfl,fn,.nil,.nil⟩;have e:jK (uJ D) []=(n8 D).map nV:=sX (ts:=[]) k.fam.lt nz;refine KP (mE k.fam) λh1 h2 _ _=>?_;have pp:(oV D).Perm (dH m):=h1.trans (k.hm▸nv k.fm.nd k.fm.lt);obtain⟨t1,t2⟩:=aa (aA.mp Ep m k.mem);have e2:((n8 D).map nV).map tG=dw (oV D):=by
  unfold dw oV;rw[aV,aV];exact bP λp _=>aB AV.int (Int.add_sub_cancel (p.1.log2:Int) 1)
 refine⟨?_,?_,t2⟩
 ·rw[e]
  refine aA.mpr λp hp=>?_;refine dm (bx.mp hp) λq hq eq=>?_;refine dm (h2 q hq) λj _ ej=>?_;rw[<-eq];exact aS (Int.ofNat_le.mpr (ej▸Nat.two_pow_pos j))
 ·rw[e,e2]
  unfold mX dw;rw[w4 (D:=λ_=>True) (f:=λk:Nat=>AV.int (k:Int)) (λa b _ _=>D5) (λ_ _=>trivial) (pp.nodup_iff.mpr (oM m)) pp (mV m),dJ];show ifO (gB ltK (dw (dH m))&&o7 (dw (dH m))&&Nat.ble (dw (dH m)).length 6) _=_;rw[t1];rfl
theorem ya(D:List Nat):gl (dW D)=some (uJ D):=by
 induction D with
 |nil=>rfl
 |cons n D ih=>show opt (some _) (λb=>opt (gl (dW D)) λr=>some (b::r))=_;rw[ih];rfl
theorem uF{D:List Nat}{m i:Nat}{H:TH}{k:AV->TH->R}(q:Dk D m)(h:gt H i=some (.list (dW D))):tC [.ref i] H k=dY (new H (.list (dw (dH m)))) k:=by
 refine kL (Br q) λh1 h2 h3=>?_;show dR H i _=_;unfold dR;rw[h,dJ];show opt (gl (dW D)) _=_;rw[ya,dJ,show(uJ D).length=D.length from aq ..,a9 q.fam.le,h1,Bool.and_self,eN,h2,dJ,h3,eN]
noncomputable def lwB(q8 q9 q10:Option AV)(m:List (Nat×AV))(cl nm row nu sl cls:List AV)(tl:List AO):List AO:=gR++([.ns ([(110,.st 323)]++m),.cell (some (.ref 11)),.cell (some (.ref 13)),.cell (some (.ref 14)),.cell (some (.ref 24)),.cell q8,.cell q9,.cell q10,.list cl,.list lW,.list mt,.list m8,.dead,.list gi,.dead,.dead,.dead,.dead,.dead,.list nm,.list row,.list nu,.list sl,.dead,.list cls,.dead,.dead,.dead,.dead,.dead,.dead,.dead,.list nq,.dead,.dead]++tl)
noncomputable def frY(rw:Bool)(a b c d e p:AV):List (Nat×AV):=frZ rw a b c d e p++zF 15
section
variable {ns:List Int} {rw:Bool} {cl nm row nu sl cls:List AV} {a b c d e p v:AV} {g:Nat} {m:List (Nat×AV)} {kk:AF->TH->R} {xs:List AV}
theorem De:(fns (OL ns) (g+20)).ex 40 (fh dT.body 9) dy (mkT (lwB none none none (frY rw a b c d e p) cl nm row nu sl cls [])) kk=tC [.ref 23] (mkT (lwB none none none (frY rw a b c d e p) cl nm row nu sl cls [])) λv H=>opt (jD dy H 158 v) λH=>kk .next H:=by kernel_rfl
theorem DQ:new (mkT (lwB none none none m cl nm row nu sl cls [])) (.list xs)=some (.ref 38,mkT (lwB none none none m cl nm row nu sl cls [.list xs])):=by kernel_rfl
theorem FD:jD dy (mkT (lwB none none none m cl nm row nu sl cls [.list xs])) 158 v=some (mkT (lwB (some v) none none m cl nm row nu sl cls [.list xs])):=by kernel_rfl
end
noncomputable def inn(m j:Nat):List AV:=dw ((dH m).filter λp=>Nat.beq (Nat.div p 4) j)
noncomputable def tlU(m:Nat):List AO:=[.list (dw (dH m)),.dead,.list (dw (fK (dH m))),.dead,.cell (some (.int 3)),.dead,.list (inn m 0),.dead,.list [],.dead,.list (inn m 1),.dead,.list [],.dead,.list (inn m 2),.dead,.list [],.dead,.list (inn m 3),.dead,.list []]
noncomputable def dQ(m:Nat):Prop:=∀(ns:List Int) (rw:Bool) (cl nm row nu sl cls:List AV) (a b c d e p:AV) (kk:AF->TH->R),(fns (OL ns) 60).ex 40 (fh dT.body 10) dy (mkT (lwB (some (.ref 38)) none none (frY rw a b c d e p) cl nm row nu sl cls [.list (dw (dH m))])) kk=kk .next (mkT (lwB (some (.ref 38)) (some (.ref 40)) none (frY rw a b c d e p) cl nm row nu sl cls (tlU m)))
theorem us0:∀m ∈ [1,3,5,7,15],dQ m:=fc (by unfold dQ;intros;kernel_rfl) (fc (by unfold dQ;intros;kernel_rfl) (fc (by unfold dQ;intros;kernel_rfl) (fc (by unfold dQ;intros;kernel_rfl) (fc (by unfold dQ;intros;kernel_rfl) fn))))
theorem us1:∀m ∈ [17,19,21,23,31],dQ m:=fc (by unfold dQ;intros;kernel_rfl) (fc (by unfold dQ;intros;kernel_rfl) (fc (by unfold dQ;intros;kernel_rfl) (fc (by unfold dQ;intros;kernel_rfl) (fc (by unfold dQ;intros;kernel_rfl) fn))))
theorem us2:∀m ∈ [51,55,85,87,257],dQ m:=fc (by unfold dQ;intros;kernel_rfl) (fc (by unfold dQ;intros;kernel_rfl) (fc (by unfold dQ;intros;kernel_rfl) (fc (by unfold dQ;intros;kernel_rfl) (fc (by unfold dQ;intros;kernel_rfl) fn))))
theorem us3:∀m ∈ [259,261,263,271,273],dQ m:=fc (by unfold dQ;intros;kernel_rfl) (fc (by unfold dQ;intros;kernel_rfl) (fc (by unfold dQ;intros;kernel_rfl) (fc (by unfold dQ;intros;kernel_rfl) (fc (by unfold dQ;intros;kernel_rfl) fn))))
theorem us4:∀m ∈ [275,277,279,307,341],dQ m:=fc (by unfold dQ;intros;kernel_rfl) (fc (by unfold dQ;intros;kernel_rfl) (fc (by unfold dQ;intros;kernel_rfl) (fc (by unfold dQ;intros;kernel_rfl) (fc (by unfold dQ;intros;kernel_rfl) fn))))
theorem us5:∀m ∈ [771,775,787,1285,1287],dQ m:=fc (by unfold dQ;intros;kernel_rfl) (fc (by unfold dQ;intros;kernel_rfl) (fc (by unfold dQ;intros;kernel_rfl) (fc (by unfold dQ;intros;kernel_rfl) (fc (by unfold dQ;intros;kernel_rfl) fn))))
theorem us6:∀m ∈ [1301,4369,4371,4373],dQ m:=fc (by unfold dQ;intros;kernel_rfl) (fc (by unfold dQ;intros;kernel_rfl) (fc (by unfold dQ;intros;kernel_rfl) (fc (by unfold dQ;intros;kernel_rfl) fn)))
theorem JZ:∀m∈iG,dQ m:=show ∀m ∈ [1,3,5,7,15]++([17,19,21,23,31]++([51,55,85,87,257]++([259,261,263,271,273]++([275,277,279,307,341]++([771,775,787,1285,1287]++[1301,4369,4371,4373]))))),dQ m from(eF us0 (eF us1 (eF us2 (eF us3 (eF us4 (eF us5 us6))))))
noncomputable def Ci(c:Int):List AV:=[.int (c.fdiv 1250+0),.int (c.fdiv 1250+(0+1)),.int (c.fdiv 1250+(0+1+1)),.int (c.fdiv 1250+(0+1+1+1))]
theorem yY{ns:List Int}{rw:Bool}{cl nm row nu sl cls:List AV}{a b c d e p:AV}{c0:Int}{m g:Nat}{kk:AF->TH->R}:(fns (OL ns) (g+40)).ex 40 (fh dT.body 11) dy (mkT (lwB (some (.ref 38)) (some (.ref 40)) none (frY rw a b c d e p) (.int c0::cl) nm row nu sl cls (tlU m))) kk =
  kk .next (mkT (lwB (some (.ref 38)) (some (.ref 40)) none (frY rw a b c d e p++[(169,.ref 60)]) (.int c0::cl) nm row nu sl cls (tlU m++[.dead,.list (Ci c0),.dead]))):=by kernel_rfl
noncomputable def Gt(q:Nat):List AV:=[.oi q 0,.oi q 1,.oi q 2,.oi q 3]
noncomputable def xb:List AV:=[.str [38],.str [60],.str [34],.str [9],.str [10],.str [13]]
noncomputable def v7:List AV:=[.str [38,97,109,112,59],.str [38,108,116,59],.str [38,113,117,111,116,59],.str [38,35,120,57,59],.str [38,35,120,65,59],.str [38,35,120,68,59]]
noncomputable def tlR(q m:Nat):List AO:=tlU m++[.dead,.list (Gt q),.dead]
noncomputable def tlM(q m:Nat):List AO:=tlR q m++[.dead,.list (mkQ q 0),.dead,.list xb,.list xb,.list xb,.list xb]
noncomputable def tlE(q m:Nat):List AO:=tlM q m++[.dead,.list (mkQ q 4),.dead,.list v7,.list v7,.list v7,.list v7]
noncomputable def frX(rw:Bool)(a b c d e p:AV)(w:List (Nat×AV)):List (Nat×AV):=frY rw a b c d e p++([(169,.ref 60)]++w)
noncomputable def lwX(q10:Option AV)(rw:Bool)(a b c d e p:AV)(w:List (Nat×AV))(cl nm row nu sl cls:List AV)(tl:List AO):List AO:=lwB (some (.ref 38)) (some (.ref 40)) q10 (frX rw a b c d e p w) cl nm row nu sl cls tl
noncomputable def Ma:PE:=orP (ifT (fh dT.body 15))
 where
 ifT (p:PE):PE:=match p with
  | .if t _ _=>t
  |_=>.no
 orP (p:PE):PE:=match p with
  | .or xs=>xs
  |_=>.no
noncomputable def K15(F:Fns)(kk:AF->TH->R)(t:Bool)(H:TH):R:=ifB t (F.exs 40 (ifA (fh dT.body 15)) dy H kk) (F.exs 40 .n dy H kk)
section
variable {ns:List Int} {rw:Bool} {cl nm row nu sl cls:List AV} {a b c d e p v:AV} {g m:Nat} {kk:AF->TH->R} {K:AV->TH->R}
theorem Bn:∀q,q<6->(fns (OL ns) (g+40)).ex 40 (fh dT.body 12) dy (mkT (lwX none rw a b c d e p [] cl nm row nu sl cls (tlR q m))) kk=kk .next (mkT (lwX none rw a b c d e p [(140,.ref 63)] cl nm row nu sl cls (tlM q m))):=lt6 (by kernel_rfl) (by kernel_rfl) (by kernel_rfl) (by kernel_rfl) (by kernel_rfl) (by kernel_rfl)
theorem Cz{q:Nat}:(fns (OL ns) (g+20)).ex 40 (fh dT.body 13) dy (mkT (lwX none rw a b c d e p [(140,.ref 63)] cl nm row nu sl cls (tlM q m))) kk=sQ [.ref 22,.ref 16,.ref 14,.ref 63,.bool rw] (mkT (lwX none rw a b c d e p [(140,.ref 63)] cl nm row nu sl cls (tlM q m))) λv H=>opt (jD dy H 170 v) λH=>kk .next H:=by kernel_rfl
theorem yD{q:Nat}:sQ [.ref 22,.ref 16,.ref 14,.ref 63,.bool rw] (mkT (lwX none rw a b c d e p [(140,.ref 63)] cl nm row nu sl cls (tlM q m))) K=opt (oT nm) λP=>opt (tN P) λf=>opt (kU 0 (mkQ q 0)) λq'=>K (.str (gr q' (iB (dH f) rw))) (mkT (lwX none rw a b c d e p [(140,.ref 63)] cl nm row nu sl cls (tlM q m))):=by kernel_rfl
theorem B6{q:Nat}:jD dy (mkT (lwX none rw a b c d e p [(140,.ref 63)] cl nm row nu sl cls (tlM q m))) 170 v=some (mkT (lwX (some v) rw a b c d e p [(140,.ref 63)] cl nm row nu sl cls (tlM q m))):=by kernel_rfl
theorem zC:∀q,q<6->(fns (OL ns) (g+40)).ex 40 (fh dT.body 14) dy (mkT (lwX (some v) rw a b c d e p [(140,.ref 63)] cl nm row nu sl cls (tlM q m))) kk=kk .next (mkT (lwX (some v) rw a b c d e p [(140,.ref 70)] cl nm row nu sl cls (tlE q m))):=lt6 (by kernel_rfl) (by kernel_rfl) (by kernel_rfl) (by kernel_rfl) (by kernel_rfl) (by kernel_rfl)
theorem BH{q:Nat}:(fns (OL ns) (g+20)).ex 40 (fh dT.body 15) dy (mkT (lwX (some v) rw a b c d e p [(140,.ref 70)] cl nm row nu sl cls (tlE q m))) kk =
  dY (orO (orO (ifO (Nat.ble row.length dn&&decide (some (-1:Int)≠some 0)) (new (mkT (lwX (some v) rw a b c d e p [(140,.ref 70)] cl nm row nu sl cls (tlE q m))) (.list (lX none none (some (-1)) row)))) none) none) λu H=>tC [u] H λu H=>opt (iN (eqB H (.ref 38) u)) λt=>ifB t (K15 (fns (OL ns) (g+19)) kk true H) ((fns (OL ns) (g+17)).ors 40 (tlP Ma) dy H (K15 (fns (OL ns) (g+19)) kk)):=by kernel_rfl
end
section
variable {ns:List Int} {rw':Bool} {cl nm row nu sl cls xs:List AV} {a b c d e p:AV} {g m q:Nat} {K:AV->TH->R} {T:Bool->TH->R} {X:List Nat} {P D:List Nat} {H:TH}
theorem nN:∀{P:List Nat},(∀p∈P,p<16)->oT (dK P)=some P
 | [],_=>rfl
 |p::P,h=>by
  show opt (xd (twC p)) (λb=>opt (oT (dK P)) λr=>some (b::r))=_;rw[AJ p (h p (.head _)),nN λx hx=>h x (.tail _ hx)];rfl
theorem w5:∀{P:List Nat},P.Nodup->yA P=true
 | [],_=>rfl
 |x::r,h=>by
  have h:=bu.mp h;have e:e8 x r=false:=by cases q:e8 x r with | false=>rfl | true=>exact absurd (eu.mp q) h.1
  show(!e8 x r&&yA r)=true;rw[e,w5 h.2];rfl
theorem zD:∀q,q<6->kU 0 (mkQ q 0)=some q/\kU 4 (mkQ q 4)=some q:=lt6 ⟨by kernel_rfl,by kernel_rfl⟩ ⟨by kernel_rfl,by kernel_rfl⟩ ⟨by kernel_rfl,by kernel_rfl⟩ ⟨by kernel_rfl,by kernel_rfl⟩ ⟨by kernel_rfl,by kernel_rfl⟩ ⟨by kernel_rfl,by kernel_rfl⟩
theorem Af(k:Dk D m):tN (dv D)=some m:=by
 unfold tN;rw[w5 k.fm.nd,gO,a9 k.fam.le,<-k.hm,eu.mpr k.mem];rfl
theorem Ee(k:Dk D m)(hq:q<6):sQ [.ref 22,.ref 16,.ref 14,.ref 63,.bool rw'] (mkT (lwX none rw' a b c d e p [(140,.ref 63)] cl (dK (dv D)) row nu sl cls (tlM q m))) K=K (.str (gr q (iB (dH m) rw'))) (mkT (lwX none rw' a b c d e p [(140,.ref 63)] cl (dK (dv D)) row nu sl cls (tlM q m))):=by
 rw[yD,nN k.fm.lt,dJ,Af k,dJ,(zD q hq).1,dJ]
theorem lD:∀{l:List Nat},gl (dw l)=some (l.map λ(k:Nat)=>(k:Int))
 | []=>rfl
 |n::l=>by show opt (some _) (λb=>opt (gl (dw l)) λr=>some (b::r))=_;rw[lD];rfl
theorem yq:(iG.all λm=>decide (tw ((dH m).map λ(k:Nat)=>(k:Int))=some m))=true:=by kernel_rfl
theorem Cp{X:List Nat}:(fns (OL ns) (g+20)).ors 40 (tlP Ma) dy (mkT (lwX (some (.str X)) rw' a b c d e p [(140,.ref 70)] cl nm row nu sl cls (tlE q m++[.list xs,.list (dw (dH m))]))) T =
  FM [.ref 38,.ref 40,.ref 14,.ref 13,.ref 70,.bool rw'] (mkT (lwX (some (.str X)) rw' a b c d e p [(140,.ref 70)] cl nm row nu sl cls (tlE q m++[.list xs,.list (dw (dH m))]))) λu H=>opt (iN (eqB H (.str X) u)) λt=>ifB t (T true H) (T false H):=by kernel_rfl
theorem xr{q':Nat}(eq:q'=q){X:List Nat}:FM [.ref 38,.ref 40,.ref 14,.ref 13,.ref 70,.bool rw'] (mkT (lwX (some (.str X)) rw' a b c d e p [(140,.ref 70)] cl nm row nu sl cls (tlE q m++[.list xs,.list (dw (dH m))]))) K =
  opt (gl (dw (dH m))) λn=>opt (tw n) λf=>opt (gl (dw (fK (dH m)))) λu=>ifO (decide (u=(fK (dH f)).map λ(k:Nat)=>(k:Int))) (opt (kU 4 (mkQ q 4)) λq=>K (.str (gr q (iB (dH f) rw'))) (mkT (lwX (some (.str X)) rw' a b c d e p [(140,.ref 70)] cl nm row nu sl cls (tlE q' m++[.list xs,.list (dw (dH m))])))):=by subst eq;kernel_rfl
end
section
variable {ns:List Int} {rw':Bool} {cl nm row nu sl cls xs:List AV} {a b c d e p v:AV} {g m q:Nat} {kk:AF->TH->R} {T:Bool->TH->R} {X:List Nat} {D:List Nat} {H:TH} {l:List Nat}
theorem nU:∀l:List Nat,eM l l=some true
 | []=>rfl
 |x::l=>by
  show tri (rz x x) (eM l l) _ _=_;unfold rz;rw[Nat.beq_refl,nU l];rfl
theorem Ii:iN (eqB H (.str l) (.str l))=some false:=by
 show opt (orO none (orO none (orO (eM l l) none))) _=_;rw[nU];rfl
theorem wD:∀l:List Nat,vf (dw l) (dw l)=some true
 | []=>rfl
 |n::l=>by
  show LG (some (decide ((n:Int)=n))) (vf (dw l) (dw l))=_;rw[wD l,aS rfl];rfl
theorem zS(h:D.length<=5):lX none none (some (-1)) (dW D)=dW D.reverse:=by
 rcases D with _ | ⟨a,_ | ⟨b,_ | ⟨c,_ | ⟨d,_ | ⟨e,_ | ⟨f,r⟩⟩⟩⟩⟩⟩
 ·kernel_rfl
 ·kernel_rfl
 ·kernel_rfl
 ·kernel_rfl
 ·kernel_rfl
 ·kernel_rfl
 ·exact absurd h (Nat.not_le.mpr (bU 6 r.length))
theorem Fd:new (mkT (lwX (some v) rw' a b c d e p [(140,.ref 70)] cl nm row nu sl cls (tlE q m))) (.list xs)=some (.ref 76,mkT (lwX (some v) rw' a b c d e p [(140,.ref 70)] cl nm row nu sl cls (tlE q m++[.list xs]))):=by kernel_rfl
theorem CY{ys:List AV}:new (mkT (lwX (some v) rw' a b c d e p [(140,.ref 70)] cl nm row nu sl cls (tlE q m++[.list xs]))) (.list ys)=some (.ref 77,mkT (lwX (some v) rw' a b c d e p [(140,.ref 70)] cl nm row nu sl cls (tlE q m++[.list xs,.list ys]))):=by kernel_rfl
theorem Jj:gt (mkT (lwX (some v) rw' a b c d e p [(140,.ref 70)] cl nm row nu sl cls (tlE q m++[.list xs]))) 76=some (.list xs):=by kernel_rfl
theorem I9{ys:List AV}:eqB (mkT (lwX (some v) rw' a b c d e p [(140,.ref 70)] cl nm row nu sl cls (tlE q m++[.list xs,.list ys]))) (.ref 38) (.ref 77)=orO (vf (dw (dH m)) ys) none:=by kernel_rfl
theorem FE{F:Fns}:K15 (step (OL ns) F) kk false H=kk .next H:=rfl
theorem Dw(k:Dk D m)(hq:q<6):(fns (OL ns) (g+23)).ex 40 (fh dT.body 15) dy (mkT (lwX (some (.str (gr q (iB (dH m) rw')))) rw' a b c d e p [(140,.ref 70)] cl nm (dW D) nu sl cls (tlE q m))) kk =
  kk .next (mkT (lwX (some (.str (gr q (iB (dH m) rw')))) rw' a b c d e p [(140,.ref 70)] cl nm (dW D) nu sl cls (tlE q m++[.list (dW D.reverse),.list (dw (dH m))]))):=by
 have hb:Nat.ble (dW D).length dn=true:=by rw[show(dW D).length=D.length from aq ..];exact jh k.fam.le qH
 have e1:=BH (ns:=ns) (rw:=rw') (a:=a) (b:=b) (c:=c) (d:=d) (e:=e) (p:=p) (v:=.str (gr q (iB (dH m) rw'))) (cl:=cl) (nm:=nm) (row:=dW D) (nu:=nu) (sl:=sl) (cls:=cls) (g:=g+3) (m:=m) (kk:=kk) (q:=q);rw[hb,zS k.fam.le,Fd,show(true&&decide (some (-1:Int)≠some 0))=true from rfl,eN,hZ,hZ,fq,uF (Id k) Jj,CY,fq,I9,wD,hZ,show iN (some true)=some false from rfl,dJ,fG]at e1;have e2:=Cp (ns:=ns) (rw':=rw') (a:=a) (b:=b) (c:=c) (d:=d) (e:=e) (p:=p) (cl:=cl) (nm:=nm) (row:=dW D) (nu:=nu) (sl:=sl) (cls:=cls) (xs:=dW D.reverse) (g:=g) (m:=m) (q:=q) (T:=K15 (fns (OL ns) (g+3+19)) kk) (X:=gr q (iB (dH m) rw'));rw[xr rfl,lD,dJ,show tw _=some m from dec (aA.mp yq m k.mem),dJ,lD,dJ,show decide _=true from aS rfl,eN,(zD q hq).2,dJ,Ii,dJ,fG]at e2;exact e1.trans (e2.trans (FE (F:=fns (OL ns) (g+3+18))))
end
noncomputable def srU(k:Nat):List Nat:=61::34::(upC k++[34])
noncomputable def Cb(q m:Nat)(rw:Bool):Bool:=(λX:List Nat=>kR X&&(decide (s6 X 0=some (((dH m).length+(fK (dH m)).length:Nat):Int))&&(List.range 4).all λk=>decide (lw (srU k) X=some (e8 k (fK (dH m)))))) (gr q (iB (dH m) rw))
theorem H7:((List.range 6).all λq=>iG.all λm=>Cb q m true&&Cb q m false)=true:=by kernel_rfl
structure PgX (q m:Nat) (X:List Nat):Prop where
 as:kR X=true
 cn:s6 X 0=some (((dH m).length+(fK (dH m)).length:Nat):Int)
 sb:∀k,k<4->lw (srU k) X=some (e8 k (fK (dH m)))
theorem pgx{q m:Nat}(hq:q<6)(hm:m∈iG)(rw':Bool):PgX q m (gr q (iB (dH m) rw')):=by
 have h:Cb q m rw'=true:=by
  have:=aa (aA.mp (aA.mp H7 q (aT.mpr hq)) m hm);cases rw' with
  |true=>exact this.1
  |false=>exact this.2
 obtain⟨h1,h⟩:=aa h;obtain⟨h2,h3⟩:=aa h;exact⟨h1,dec h2,λk hk=>dec (aA.mp h3 k (aT.mpr hk))⟩
theorem fnk{O:Orc}{g:Nat}:∀k,fns O (g+k)=stp O k (fns O g)
 |0=>rfl
 |k+1=>aB (step O) (fnk k)
noncomputable def La(p:PE):PE:=match p with
 | .cmp _ l _=>l
 |_=>.no
noncomputable def ifC(p:PE):PE:=match p with
 | .if t _ _=>t
 |_=>.no
noncomputable def P16:PE:=La (ifC (fh dT.body 16))
noncomputable def B16(X:List Nat)(rw:Bool)(a b c d e p:AV)(cl nm row nu sl cls:List AV)(q m:Nat)(xs:List AV)(tl:List AO):List AO:=lwX (some (.str X)) rw a b c d e p [(140,.ref 70)] cl nm row nu sl cls (tlE q m++([.list xs,.list (dw (dH m))]++tl))
section
variable {ns:List Int} {rw':Bool} {cl nm row nu sl cls xs:List AV} {a b c d e p v:AV} {f g m q n:Nat} {kk:AF->TH->R} {kc:TH->R} {X:List Nat} {F:Fns} {C:Nat->Bool->PE->PE->Nat->Nat->IE->TH->(TH->R)->R} {w:List (Nat×AV)} {acc:List AV}
noncomputable def cT(X:List Nat)(k:Nat)(used:List AV)(y z:R):R:=opt (lw (srU k) X) λt=>opt (orO (orO (inL (.int (k:Nat)) used) none) none) λu=>opt (iN (isB (.bool t) (.bool u))) λe=>ifB e y z
theorem Aw:(stp (OL ns) 3 ((stp (OL ns) 20 F).wc C)).ex 40 (fh dT.body 16) dy (mkT (B16 X rw' a b c d e p cl nm row nu sl cls q m xs [])) kk=C 40 false (lcE P16) (lcG P16) 78 79 (eG dy P16 80) (mkT (B16 X rw' a b c d e p cl nm row nu sl cls q m xs [.iter (.rng ((0:Nat):Int) 1 4),.list [],.ns []]))
  λH=>gNs H 80 λ_=>(stp (OL ns) 1 ((stp (OL ns) 20 F).wc C)).ev 40 (.lst .n) dy (st H 80 .dead) λb H=>opt (iN (eqB H (.ref 79) b)) λt=>ifB t ((stp (OL ns) 2 ((stp (OL ns) 20 F).wc C)).exs 40 (ifA (fh dT.body 16)) dy H kk) (kk .next H):=by kernel_rfl
theorem Il:(fns (OL ns) (fu (f+1))).comp 40 false (lcE P16) (lcG P16) 78 79 (eG dy P16 80) (mkT (B16 X rw' a b c d e p cl nm row nu sl cls q m xs [.iter (.rng ((0:Nat):Int) 1 (n+1)),.list acc,.ns []])) kc =
  cT X 0 (dw (fK (dH m))) (opt (iD (.int (0:Nat)) 79 (mkT (B16 X rw' a b c d e p cl nm row nu sl cls q m xs [.iter (.rng ((0+1:Nat):Int) 1 n),.list acc,.ns [(0,.int (0:Nat))]]))) λH=>(fns (OL ns) (fu f)).comp 40 false (lcE P16) (lcG P16) 78 79 (eG dy P16 80) H kc)
   ((fns (OL ns) (fu f)).comp 40 false (lcE P16) (lcG P16) 78 79 (eG dy P16 80) (mkT (B16 X rw' a b c d e p cl nm row nu sl cls q m xs [.iter (.rng ((0+1:Nat):Int) 1 n),.list acc,.ns [(0,.int (0:Nat))]])) kc):=by kernel_rfl
noncomputable def tk(k:Nat):Prop:=∀{ns:List Int} {rw':Bool} {cl nm row nu sl cls xs:List AV} {a b c d e p v:AV} {f m q n:Nat} {kc:TH->R} {X:List Nat} {acc:List AV},(fns (OL ns) (fu (f+1))).comp 40 false (lcE P16) (lcG P16) 78 79 (eG dy P16 80) (mkT (B16 X rw' a b c d e p cl nm row nu sl cls q m xs [.iter (.rng (k:Nat) 1 (n+1)),.list acc,.ns [(0,v)]])) kc =
  cT X k (dw (fK (dH m))) (opt (iD (.int (k:Nat)) 79 (mkT (B16 X rw' a b c d e p cl nm row nu sl cls q m xs [.iter (.rng ((k+1:Nat):Int) 1 n),.list acc,.ns [(0,.int (k:Nat))]]))) λH=>(fns (OL ns) (fu f)).comp 40 false (lcE P16) (lcG P16) 78 79 (eG dy P16 80) H kc)
   ((fns (OL ns) (fu f)).comp 40 false (lcE P16) (lcG P16) 78 79 (eG dy P16 80) (mkT (B16 X rw' a b c d e p cl nm row nu sl cls q m xs [.iter (.rng ((k+1:Nat):Int) 1 n),.list acc,.ns [(0,.int (k:Nat))]])) kc)
theorem KR:∀k,k<4->tk k:=lt4 (by unfold tk;intros;kernel_rfl) (by unfold tk;intros;kernel_rfl) (by unfold tk;intros;kernel_rfl) (by unfold tk;intros;kernel_rfl)
theorem Lv:(fns (OL ns) (fu (f+1))).comp 40 false (lcE P16) (lcG P16) 78 79 (eG dy P16 80) (mkT (B16 X rw' a b c d e p cl nm row nu sl cls q m xs [.iter (.rng ((4:Nat):Int) 1 0),.list acc,.ns w])) kc=kc (mkT (B16 X rw' a b c d e p cl nm row nu sl cls q m xs [.dead,.list acc,.ns w])):=by kernel_rfl
theorem Gv{k:Nat}{y z:R}(h:PgX q m X)(hk:k<4):cT X k (dw (fK (dH m))) y z=z:=by
 unfold cT;rw[h.sb k hk,dJ,qU,hZ,hZ,dJ,qA,dJ,fG]
theorem E8:(λH=>gNs H 80 λ_=>(stp (OL ns) 1 (stp (OL ns) 20 F)).ev 40 (.lst .n) dy (st H 80 .dead) λb H=>opt (iN (eqB H (.ref 79) b)) λt=>ifB t ((stp (OL ns) 2 (stp (OL ns) 20 F)).exs 40 (ifA (fh dT.body 16)) dy H kk) (kk .next H)) (mkT (B16 X rw' a b c d e p cl nm row nu sl cls q m xs [.dead,.list [],.ns w]))=kk .next (mkT (B16 X rw' a b c d e p cl nm row nu sl cls q m xs [.dead,.list [],.dead,.list []])):=by kernel_rfl
noncomputable def uQ(ns:List Int)(g:Nat)(kc:TH->R)(H:TH):R:=(fns (OL ns) (fu g)).comp 40 false (lcE P16) (lcG P16) 78 79 (eG dy P16 80) H kc
theorem D2(h:PgX q m X):uQ ns (f+1) kc (mkT (B16 X rw' a b c d e p cl nm row nu sl cls q m xs [.iter (.rng ((0:Nat):Int) 1 (n+1)),.list [],.ns []]))=uQ ns f kc (mkT (B16 X rw' a b c d e p cl nm row nu sl cls q m xs [.iter (.rng ((0+1:Nat):Int) 1 n),.list [],.ns [(0,.int (0:Nat))]])):=Il.trans (Gv h (by decide))
theorem vC{k:Nat}(hk:k<4)(h:PgX q m X):uQ ns (f+1) kc (mkT (B16 X rw' a b c d e p cl nm row nu sl cls q m xs [.iter (.rng (k:Nat) 1 (n+1)),.list [],.ns [(0,v)]]))=uQ ns f kc (mkT (B16 X rw' a b c d e p cl nm row nu sl cls q m xs [.iter (.rng ((k+1:Nat):Int) 1 n),.list [],.ns [(0,.int (k:Nat))]])):=(KR k hk).trans (Gv h hk)
theorem zy:uQ ns 6 kc (mkT (B16 X rw' a b c d e p cl nm row nu sl cls q m xs [.iter (.rng ((4:Nat):Int) 1 0),.list [],.ns w]))=kc (mkT (B16 X rw' a b c d e p cl nm row nu sl cls q m xs [.dead,.list [],.ns w])):=Lv (f:=5)
theorem B4(h:PgX q m X):uQ ns 10 kc (mkT (B16 X rw' a b c d e p cl nm row nu sl cls q m xs [.iter (.rng ((0:Nat):Int) 1 4),.list [],.ns []]))=kc (mkT (B16 X rw' a b c d e p cl nm row nu sl cls q m xs [.dead,.list [],.ns [(0,.int (3:Nat))]])):=
 (D2 (f:=9) (n:=3) h).trans ((vC (f:=8) (n:=2) (k:=1) (by decide) h).trans ((vC (f:=7) (n:=1) (k:=2) (by decide) h).trans ((vC (f:=6) (n:=0) (k:=3) (by decide) h).trans zy)))
theorem E4(h:PgX q m X):(fns (OL ns) (fu 13)).ex 40 (fh dT.body 16) dy (mkT (B16 X rw' a b c d e p cl nm row nu sl cls q m xs [])) kk=kk .next (mkT (B16 X rw' a b c d e p cl nm row nu sl cls q m xs [.dead,.list [],.dead,.list []])):=by
 have c0:=Aw (ns:=ns) (rw':=rw') (a:=a) (b:=b) (c:=c) (d:=d) (e:=e) (p:=p) (cl:=cl) (nm:=nm) (row:=row) (nu:=nu) (sl:=sl) (cls:=cls) (xs:=xs) (m:=m) (q:=q) (X:=X) (kk:=kk) (F:=fns (OL ns) 10) (C:=(stp (OL ns) 20 (fns (OL ns) 10)).comp);rw[Gb]at c0;have e30:fns (OL ns) (fu 10)=stp (OL ns) 20 (fns (OL ns) 10):=fnk (g:=10) 20;have e33:fns (OL ns) (fu 13)=stp (OL ns) 3 (stp (OL ns) 20 (fns (OL ns) 10)):=(fus (g:=10) 3).trans (aB (stp (OL ns) 3) e30);have c1:=B4 (ns:=ns) (rw':=rw') (a:=a) (b:=b) (c:=c) (d:=d) (e:=e) (p:=p) (cl:=cl) (nm:=nm) (row:=row) (nu:=nu) (sl:=sl) (cls:=cls) (xs:=xs) (kc:=λH=>gNs H 80 λ_=>(stp (OL ns) 1 (stp (OL ns) 20 (fns (OL ns) 10))).ev 40 (.lst .n) dy (st H 80 .dead) λb H=>opt (iN (eqB H (.ref 79) b)) λt=>ifB t ((stp (OL ns) 2 (stp (OL ns) 20 (fns (OL ns) 10))).exs 40 (ifA (fh dT.body 16)) dy H kk) (kk .next H)) h;unfold uQ at c1;rw[e30]at c1;rw[e33,c0,c1];exact E8
end
noncomputable def M7(p:PE):PE:=match p with
 | .and xs=>xs
 |_=>.no
noncomputable def MX(p:PE):PE:=match p with
 | .cmp _ _ r=>r
 |_=>.no
noncomputable def Nj(p:PE):PE:=match p with
 | .bin _ _ r=>r
 |_=>.no
noncomputable def A17:PE:=M7 (rhs (fh dT.body 17))
noncomputable def L17:PE:=Nj (MX (hdP A17))
noncomputable def R17:PE:=hdP (tlP A17)
noncomputable def P17:PE:=La R17
section
variable {ns:List Int} {rw':Bool} {cl nm row nu sl cls xs:List AV} {a b c d e p v:AV} {f g m q n k:Nat} {kk:AF->TH->R} {kc:TH->R} {K:AV->TH->R} {X:List Nat} {F:Fns} {C:Nat->Bool->PE->PE->Nat->Nat->IE->TH->(TH->R)->R} {w:List (Nat×AV)} {tl:List AV} {j:Int}
noncomputable def B17(X:List Nat)(rw:Bool)(a b c d e p:AV)(cl nm row nu sl cls:List AV)(q m:Nat)(xs:List AV)(tl:List AO):List AO:=B16 X rw a b c d e p cl nm row nu sl cls q m xs ([.dead,.list [],.dead,.list []]++tl)
theorem L7:(fns (OL ns) (g+20)).ex 40 (fh dT.body 17) dy (mkT (B17 X rw' a b c d e p cl nm row nu sl cls q m xs [])) kk=ifO (kR X) (opt (s6 X 0) λn=>dY (gV 0 [.ref 24] (mkT (B17 X rw' a b c d e p cl nm row nu sl cls q m xs []))) λu H=>(fns (OL ns) (g+16)).ev 40 L17 dy H λw H=>dY (p4 .Add (unb u) (unb w) H) λs H=>opt (eqB H (.int n) s) λt=>ifB t ((fns (OL ns) (g+18)).ev 40 R17 dy H λv H=>kk (.ret v) H) (kk (.ret (.bool t)) H)):=by kernel_rfl
theorem Ml:(fns (OL ns) (g+16)).ev 40 L17 dy (mkT (B17 X rw' a b c d e p cl nm row nu sl cls q m xs [])) K=dY (gV 0 [.ref 40] (mkT (B17 X rw' a b c d e p cl nm row nu sl cls q m xs []))) K:=by kernel_rfl
theorem FO:gV 0 [.ref 24] (mkT (B17 X rw' a b c d e p cl nm row nu sl cls q m xs []))=orO (ifO (Nat.ble nu.length dn) (some (.int nu.length,mkT (B17 X rw' a b c d e p cl nm row nu sl cls q m xs [])))) none:=by kernel_rfl
theorem Ab:gV 0 [.ref 40] (mkT (B17 X rw' a b c d e p cl nm row nu sl cls q m xs []))=orO (ifO (Nat.ble (dw (fK (dH m))).length dn) (some (.int (dw (fK (dH m))).length,mkT (B17 X rw' a b c d e p cl nm row nu sl cls q m xs [])))) none:=by kernel_rfl
theorem B0:(stp (OL ns) 2 ((stp (OL ns) 20 F).wc C)).ev 40 R17 dy (mkT (B17 X rw' a b c d e p cl nm row nu sl cls q m xs [])) K=C 40 false (lcE P17) (lcG P17) 82 83 (eG dy P17 84) (mkT (B17 X rw' a b c d e p cl nm row nu sl cls q m xs [.iter (.list 38 0),.list [],.ns []]))
  λH=>gNs H 84 λ_=>(stp (OL ns) 1 ((stp (OL ns) 20 F).wc C)).ev 40 (.lst .n) dy (st H 84 .dead) λb H=>opt (eqB H (.ref 83) b) λt=>K (.bool t) H:=by kernel_rfl
noncomputable def xz(ns:List Int)(g:Nat)(kc:TH->R)(H:TH):R:=(fns (OL ns) (fu g)).comp 40 false (lcE P17) (lcG P17) 82 83 (eG dy P17 84) H kc
theorem Bo:xz ns (f+1) kc (mkT (B17 X rw' a b c d e p cl nm row nu sl cls q m xs [.iter (.list 38 k),.list [],.ns w]))=ll (kc (mkT (B17 X rw' a b c d e p cl nm row nu sl cls q m xs [.dead,.list [],.ns w])))
  (λv=>jG (OL ns) (fu f) 40 false P17 82 83 (eG dy P17 84) kc v (mkT (B17 X rw' a b c d e p cl nm row nu sl cls q m xs [.iter (.list 38 (k+1)),.list [],.ns w]))) (dw (dH m))[k]?:=by kernel_rfl
noncomputable def t17(ns:List Int)(f:Nat)(kc:TH->R)(j:Int)(H:TH):R:=vY [.int j,.ref 24] H λv H=>opt (oW H v) λt=>ifB (!t) (qS (fns (OL ns) (fu f)) 40 false (lcE P17) .n 83 (eG dy P17 84) H λH=>xz ns f kc H) (xz ns f kc H)
theorem Kc:jG (OL ns) (fu f) 40 false P17 82 83 (eG dy P17 84) kc (.int j) (mkT (B17 X rw' a b c d e p cl nm row nu sl cls q m xs [.iter (.list 38 k),.list [],.ns []]))=t17 ns f kc j (mkT (B17 X rw' a b c d e p cl nm row nu sl cls q m xs [.iter (.list 38 k),.list [],.ns [(0,.int j)]])):=by kernel_rfl
theorem K6:jG (OL ns) (fu f) 40 false P17 82 83 (eG dy P17 84) kc (.int j) (mkT (B17 X rw' a b c d e p cl nm row nu sl cls q m xs [.iter (.list 38 k),.list [],.ns [(0,v)]]))=t17 ns f kc j (mkT (B17 X rw' a b c d e p cl nm row nu sl cls q m xs [.iter (.list 38 k),.list [],.ns [(0,.int j)]])):=by kernel_rfl
theorem J0:vY [.int j,.ref 24] (mkT (B17 X rw' a b c d e p cl nm row nu sl cls q m xs [.iter (.list 38 k),.list [],.ns w])) K=opt (gl nu) λns=>ifO (Nat.ble 3 24&&(kN j&&(Nat.ble ns.length 5&&Nat.beq (qF j ns []).length (2 ^ lb j.toNat)))) (K (.bool true) (mkT (B17 X rw' a b c d e p cl nm row nu sl cls q m xs [.iter (.list 38 k),.list [],.ns w]))):=by kernel_rfl
theorem FJ:(λH=>gNs H 84 λ_=>(stp (OL ns) 1 (stp (OL ns) 20 F)).ev 40 (.lst .n) dy (st H 84 .dead) λb H=>opt (eqB H (.ref 83) b) λt=>K (.bool t) H) (mkT (B17 X rw' a b c d e p cl nm row nu sl cls q m xs [.dead,.list [],.ns w]))=K (.bool true) (mkT (B17 X rw' a b c d e p cl nm row nu sl cls q m xs [.dead,.list [],.dead,.list []])):=by kernel_rfl
end
noncomputable def lg(l:List Nat):List Int:=l.map λ(k:Nat)=>(k:Int)
theorem EF(a b:Nat):((a:Int) == (b:Int))=Nat.beq a b:=by rw[kg];exact decide_eq_decide.mpr Int.ofNat_inj
theorem sn{x:Nat}:∀{l:List Nat},pA (x:Int) (lg l)=e8 x l
 | []=>rfl
 |y::l=>by
  show(((y:Int) == (x:Int)) || pA (x:Int) (lg l))=_;rw[EF,sn,uR]
theorem uv{p:Nat}:∀{D t:List Nat},qF (p:Int) (lg D) (lg t)=lg (trL p D t)
 | [],t=>rfl
 |n::D,t=>by
  show qF (p:Int) (lg D) (ifB (pA (Builtin.bitAnd (p:Int) (n:Int)) (lg t)) (lg t) (lg t++[Builtin.bitAnd (p:Int) (n:Int)]))=lg (trL p D (if (p &&& n)∈t then t else t++[p &&& n]));rw[JW,sn,<-uv];cases h:e8 (p &&& n) t with
  |true=>rw[aI (eu.mp h)];rfl
  |false=>rw[aF λz=>ah (h.symm.trans (eu.mpr z)),fG];unfold lg;rw[bh];rfl
section
variable {ns:List Int} {rw':Bool} {cl nm row nu sl cls xs:List AV} {a b c d e p v:AV} {f g m q n k:Nat} {kk:AF->TH->R} {kc:TH->R} {K:AV->TH->R} {X:List Nat} {w:List (Nat×AV)} {D:List Nat}
noncomputable def Sh(D:List Nat)(x:Nat):Prop:=x<16/\(trL x D []).length=2 ^ lb x
theorem CU{x:Nat}(hD:D.length<=5)(h:Sh D x):t17 ns f kc (x:Nat) (mkT (B17 X rw' a b c d e p cl nm row (dw D) sl cls q m xs [.iter (.list 38 k),.list [],.ns w]))=xz ns f kc (mkT (B17 X rw' a b c d e p cl nm row (dw D) sl cls q m xs [.iter (.list 38 k),.list [],.ns w])):=by
 have e1:qF (x:Int) (lg D) []=lg (trL x D []):=uv (t:=[]);have e2:(lg (trL x D [])).length=2 ^ lb x:=(aq ..).trans h.2;unfold t17;rw[J0,lD,dJ,qT h.1,show(D.map λ(k:Nat)=>(k:Int)).length=D.length from aq ..,a9 hD,bv];show ifO (true&&(true&&(true&&Nat.beq (qF (x:Int) (lg D) []).length (2 ^ lb x)))) _=_;rw[e1,e2,Nat.beq_refl];rfl
theorem sG(hD:D.length<=5):∀{ps:List Nat} {k f:Nat} {w:List (Nat×AV)},(w=[]\/∃v,w=[(0,v)])->(dw (dH m)).drop k=dw ps->(∀x∈ps,Sh D x)->ps.length<=f->
  ∃w',xz ns (f+1) kc (mkT (B17 X rw' a b c d e p cl nm row (dw D) sl cls q m xs [.iter (.list 38 k),.list [],.ns w]))=kc (mkT (B17 X rw' a b c d e p cl nm row (dw D) sl cls q m xs [.dead,.list [],.ns w']))
 | [],k,f,w,hw,hx,hs,hf=>⟨w,by rw[Bo,fE hx,jW]⟩
 |x::ps,k,0,w,hw,hx,hs,hf=>absurd hf (bH _)
 |x::ps,k,f+1,w,hw,hx,hs,hf=>by
  obtain⟨e1,e2⟩:=gS (r:=dw ps) hx;obtain⟨w',ih⟩:=sG hD (ps:=ps) (k:=k+1) (f:=f) (w:=[(0,.int (x:Nat))]) (.inr ⟨_,rfl⟩) e2 (λy hy=>hs y (.tail _ hy)) (aW hf);refine⟨w',?_⟩;rw[Bo,e1,jN];rcases hw with e | ⟨v,e⟩
  ·rw[e,Kc,CU hD (hs x (.head _))];exact ih
  ·rw[e,K6,CU hD (hs x (.head _))];exact ih
theorem Ju{H:TH}{x y:Int}:p4 .Add (unb (.int x)) (unb (.int y)) H=some (.int (x+y),H):=rfl
theorem Mb{H:TH}{x y:Int}:eqB H (.int x) (.int y)=some (x == y):=rfl
theorem wW(k:Dk D m):(dH m).length=D.length:=by rw[k.hm,<-(nv k.fm.nd k.fm.lt).length_eq,gO]
theorem FS(k:Dk D m)(h:PgX q m X):∃T,(T.L[0]? = some (.tab 0)/\T.L[1]? = some (.tab 1)/\T.L[2]? = some (.tab 2))/\(fns (OL ns) 40).ex 40 (fh dT.body 17) dy (mkT (B17 X rw' a b c d e p cl nm row (dw D) sl cls q m xs [])) kk=kk (.ret (.bool true)) T:=by
 have h5:=k.fam.le;have lu:(dw (fK (dH m))).length=(fK (dH m)).length:=aq ..;have lu4:(fK (dH m)).length<=5:=ae (List.length_filter_le _ _) (by decide);have ln:(dw D).length=D.length:=aq ..;have sh:∀x∈dH m,Sh D x:=λx hx=>⟨(ss.mp hx).1,(mE k.fam).2.2.1 x ((k.hm▸nv k.fm.nd k.fm.lt:(dv D).Perm (dH m)).mem_iff.mpr hx)⟩;obtain⟨w,l1⟩:=sG (ns:=ns) (rw':=rw') (a:=a) (b:=b) (c:=c) (d:=d) (e:=e) (p:=p) (cl:=cl) (nm:=nm) (row:=row) (sl:=sl) (cls:=cls) (xs:=xs) (m:=m) (q:=q) (X:=X) (kc:=λH=>gNs H 84 λ_=>(stp (OL ns) 1 (stp (OL ns) 20 (fns (OL ns) 16))).ev 40 (.lst .n) dy (st H 84 .dead) λb H=>opt (eqB H (.ref 83) b) λt=>kk (.ret (.bool t)) H) h5 (ps:=dH m) (k:=0) (f:=15) (w:=[]) (.inl rfl) rfl sh (by rw[wW k];exact ae h5 (by decide));refine⟨mkT (B17 X rw' a b c d e p cl nm row (dw D) sl cls q m xs [.dead,.list [],.dead,.list []]),by rw[fS rfl];exact⟨rfl,rfl,rfl⟩,L7.trans ?_⟩;have c0:=B0 (ns:=ns) (rw':=rw') (a:=a) (b:=b) (c:=c) (d:=d) (e:=e) (p:=p) (cl:=cl) (nm:=nm) (row:=row) (nu:=dw D) (sl:=sl) (cls:=cls) (xs:=xs) (m:=m) (q:=q) (X:=X) (K:=λv H=>kk (.ret v) H) (F:=fns (OL ns) 16) (C:=(stp (OL ns) 20 (fns (OL ns) 16)).comp);rw[Gb]at c0;unfold xz at l1;rw[show fns (OL ns) (fu (15+1))=stp (OL ns) 20 (fns (OL ns) 16) from fnk (g:=16) 20]at l1;rw[h.as,eN,h.cn,dJ,FO,ln,jh h5 qH,eN,hZ,fq,Ml,Ab,lu,jh lu4 qH,eN,hZ,fq]
 rw[Ju,fq,Mb,wW k,Int.natCast_add,beq_self_eq_true,dJ,gX,show fns (OL ns) (20+18)=stp (OL ns) 2 (stp (OL ns) 20 (fns (OL ns) 16)) from(fnk (g:=36) 2).trans (aB (stp (OL ns) 2) (fnk (g:=16) 20)),c0,l1];exact FJ (K:=λv H=>kk (.ret v) H) (F:=fns (OL ns) 16)
end
noncomputable def Kv(c0 c1 c2 c3 c4 c5:Int):List AO:=gR++[.ns [(110,.st 323),(148,.bool ((c0.fdiv 625).fmod 2 == 1)),(115,.ref 12)],.cell (some (.ref 11)),.cell none,.cell none,.cell none,.cell none,.cell none,.cell none,.list [.int c0,.int c1,.int c2,.int c3,.int c4,.int c5],.list (leL c0)]
section
variable {ns:List Int} {g:Nat} {kk:AF->TH->R}
theorem Hw:(fns (OL ns) (g+20)).exs 40 (l7 0 2) dy (mkT lw0) kk=ifO (Nat.beq 323 323&&Nat.ble (ns.map AV.inu).length dn) (opt (ceM ns 0) λa=>opt (ceM ns 1) λb=>opt (ceM ns 2) λc=>opt (ceM ns 3) λd=>opt (ceM ns 4) λe=>opt (ceM ns 5) λf=>
  ifO (za (155+a.sum)) (kk .next (mkT (Kv (155+a.sum) (9+b.sum) (6+c.sum) (14+d.sum) (3+e.sum) (8+f.sum))))):=by kernel_rfl
theorem xp:∀{l:List AV},(∀x∈l,∃i,x = .inu i)->∃a,trv (λv=>orO (eh v some) (um v some)) l=some a
 | [],_=>⟨[],rfl⟩
 |x::l,h=>by
  obtain⟨i,e⟩:=h x (.head _);obtain⟨a,ih⟩:=xp λy hy=>h y (.tail _ hy);exact⟨i::a,by show opt (orO (eh x some) (um x some)) (λb=>opt (trv _ l) λr=>some (b::r))=_;rw[ih,e];rfl⟩
theorem mA(j:Nat):∃a,ceM ns j=some a:=xp λx hx=>by
 unfold u5 lX at hx;refine dm (List.mem_filterMap.mp hx) λi _ e=>?_;refine dm (bx.mp (aQ e)) λy _ e'=>?_;exact⟨y,e'.symm⟩
theorem rI(i:Int):∀k:Nat,97+(k:Int)<=leE i k/\leE i k<=101+5 * (k:Int)
 |0=>by
  have f0:0<=i.fmod 5:=ca _ (by decide);have f1:i.fmod 5<5:=Int.fmod_lt_of_pos _ (by decide);show _<=96+(1+i.fmod 5)/\96+(1+i.fmod 5)<=_;rw[<-Int.add_assoc];exact⟨Int.add_le_add_left f0 97,(Int.add_le_add_left (Int.lt_add_one_iff.mp f1) 97:97+i.fmod 5<=97+4)⟩
 |k+1=>by
  have f0:0<=(leN i (k+1)).fmod 5:=ca _ (by decide);have f1:(leN i (k+1)).fmod 5<5:=Int.fmod_lt_of_pos _ (by decide);have ih:=rI i k;show _<=leE i k+(1+(leN i (k+1)).fmod 5)/\leE i k+(1+(leN i (k+1)).fmod 5)<=_;rw[Int.natCast_succ,Int.mul_add,<-Int.add_assoc,<-Int.add_assoc 101];exact⟨Int.add_le_add ih.1 (Int.le_add_of_nonneg_right f0),Int.add_le_add ih.2 (Int.add_le_add_left (Int.lt_add_one_iff.mp f1) 1:1+(leN i (k+1)).fmod 5<=1+4)⟩
theorem Km(i:Int)(k:Nat):leE i k<leE i (k+1):=by
 have f0:0<=(leN i (k+1)).fmod 5:=ca _ (by decide);show _<leE i k+(1+(leN i (k+1)).fmod 5);exact Int.lt_add_of_pos_right _ (Int.lt_add_one_iff.mpr f0 |> λh=>by rw[Int.add_comm];exact h)
theorem nD{i:Int}{k:Nat}(h:k<=3):sA (leE i k)=true:=by
 have q:=rI i k;unfold sA;rw[aS (by omega),aS (by omega)];rfl
theorem DZ{i:Int}:za i=true:=by
 unfold za;rw[nD (by decide),nD (by decide),nD (by decide),nD (by decide)];rfl
noncomputable def ltN(i:Int)(k:Nat):Nat:=(leE i k).toNat
theorem F9(i:Int)(k:Nat):97<=leE i k:=Int.le_trans (Int.le_add_of_nonneg_right (bX k)) (rI i k).1
theorem Ak(i:Int)(k:Nat):ltN i k<ltN i (k+1):=(Int.toNat_lt_toNat (Int.lt_of_lt_of_le (by decide) (F9 i (k+1)))).mpr (Km i k)
theorem wj(i:Int)(k:Nat):97<=ltN i k/\ltN i k<=101+5 * k:=
 ⟨Int.toNat_le_toNat (F9 i k),Int.toNat_le.mpr (rI i k).2⟩
noncomputable def qR(i:Int):eO:=⟨ltN i 0,ltN i 1,ltN i 2,ltN i 3,(wj i 0).1,Ak i 0,Ak i 1,Ak i 2,(wj i 1).2,(wj i 3).2⟩
theorem Lq(hl:Nat.ble ns.length dn=true):∃c0 c1 c2 c3 c4 c5,(∀g kk,(fns (OL ns) (g+20)).exs 40 (l7 0 2) dy (mkT lw0) kk=kk .next (mkT (Kv c0 c1 c2 c3 c4 c5)))/\c0=155+((ceM ns 0).getD []).sum:=by
 obtain⟨a,h0⟩:=mA (ns:=ns) 0;obtain⟨b,h1⟩:=mA (ns:=ns) 1;obtain⟨c,h2⟩:=mA (ns:=ns) 2;obtain⟨d,h3⟩:=mA (ns:=ns) 3;obtain⟨e,h4⟩:=mA (ns:=ns) 4;obtain⟨f,h5⟩:=mA (ns:=ns) 5;refine⟨155+a.sum,9+b.sum,6+c.sum,14+d.sum,3+e.sum,8+f.sum,λg kk=>?_,by rw[h0];rfl⟩;rw[Hw,aq,hl,show(Nat.beq 323 323&&true)=true from rfl,eN,h0,dJ,h1,dJ,h2,dJ,h3,dJ,h4,dJ,h5,dJ,DZ,eN]
end
section
variable {cx:Cx} {s:Shared} {ρ:Nat->Addr} {n:Nat} {HL:List AO} {xs ys:List AV}
noncomputable def qj(cx:Cx)(s:Shared)(ρ:Nat->Addr)(n:Nat)(x y:AV):Prop:=∀V,Is cx s ρ n x V->Is cx s ρ n y V
theorem IsL.re:∀{xs ys:List AV} {Vs:List Value},mK (qj cx s ρ n) xs ys->IsL cx s ρ n xs Vs->IsL cx s ρ n ys Vs:=λ{xs}=>by
 induction xs with
 |nil=>intro ys Vs h i;rw[show ys=[] from h];exact i
 |cons x xs ih=>exact λ{ys Vs} h i=>dx h λy r e h k=>dx i λV Ws eV i l=>e▸⟨V,Ws,eV,h V i,ih k l⟩
theorem SR.lst(S:SR cx ρ HL s){i:Nat}(hi:HL[i]? = some (.list xs))(h:mK (qj cx s ρ HL.length) xs ys):SR cx ρ (HL.set i (.list ys)) s:=S.conv hi rfl λ⟨Vs,p,l⟩=>⟨Vs,p,IsL.re h l⟩
theorem qE{a c:Nat}(h:ph cx.σ a=ph cx.σ c):qj cx s ρ n (.strb [a]) (.strb [c]):=λV ⟨t,e,q⟩=>⟨t,by rw[e];show Value.str ⟨[ph cx.σ a].toArray⟩ t=_;rw[h];rfl,q⟩
theorem E1{i:Int}(hσ:cx.σ=qR i):mK (qj cx s ρ n) (leL i) lW:=by
 have pl:∀k:Nat,k<4->ph cx.σ (leE i k).toNat=ltN i k:=λk hk=>jI cx.σ (aJ (wj i k).2 (aJ (bO (ct 5 (dh hk)) 101) (by decide)));exact .cons (qE ((pl 0 (by decide)).trans (by rw[hσ];rfl))) (.cons (qE ((pl 1 (by decide)).trans (by rw[hσ];rfl))) (.cons (qE ((pl 2 (by decide)).trans (by rw[hσ];rfl))) (.cons (qE ((pl 3 (by decide)).trans (by rw[hσ];rfl))) .nil)))
theorem wZ{q j:Nat}{i:Int}(h:i.fmod 6=(((q+j) % 6:Nat):Int)):qj cx s ρ n (.int i) (.oi q j):=λV ⟨t,e,t0,t1⟩=>⟨i,t,e,⟨t0,t1⟩,h⟩
theorem md{d:Int}{q:Nat}(hq:(q:Int)=d.fmod 6)(j:Nat)(i:Int)(e:i=(j:Int)):(d+i).fmod 6=(((q+j) % 6:Nat):Int):=by
 rw[Int.fmod_eq_emod_of_nonneg _ (by decide)]at hq ⊢;rw[e,Int.natCast_emod,Int.natCast_add,hq];exact(Int.emod_add_emod _ _ _).symm
theorem Dy{c:Int}{q:Nat}(hq:(q:Int)=(c.fdiv 1250).fmod 6):mK (qj cx s ρ n) (Ci c) (Gt q):=
 .cons (wZ (md hq 0 _ rfl)) (.cons (wZ (md hq 1 _ rfl)) (.cons (wZ (md hq 2 _ rfl)) (.cons (wZ (md hq 3 _ rfl)) .nil)))
end
theorem qf{M:Model}{Γ:PySem.Ctx}{b2:List Stmt}{env:Env}{Q:Flow->Pos->Shared->Prop}{E:Value->Pos->Shared->Prop}:∀(b1:List Stmt) (p:Pos) (s:Shared),
  Sem.wp M Γ (execs b1 env) (λf p' s'=>match f with | .next=>Sem.wp M Γ (execs b2 env) Q E p' s' | f=>Q f p' s') E p s->Sem.wp M Γ (execs (b1++b2) env) Q E p s
 | [],p,s,h=>h
 |st::r,p,s,h=>by
  rw[List.cons_append,execs_cons,Sem.wp_bind'];rw[execs_cons,Sem.wp_bind']at h;refine Sem.wp_mono M Γ _ (λf p' s' h'=>?_) (λ_ _ _ h'=>h') _ _ h;cases f with
  |next=>exact qf r p' s' h'
  |_=>exact h'
section
variable {cx:Cx} {K:Frag} {d:Nat} {c:IE} {HL O7 H₂:List AO} {f:AF} {b b1 b2:List Stmt} {st:Stmt}
theorem ExB.app(h1:ExB cx d b1 c HL .next O7)(h2:ExB cx d b2 c O7 f H₂):ExB cx d (b1++b2) c HL f H₂:=
 ⟨ae h1.1 h2.1,λ{A s ρ env Q E} z W Γ p hΓ=>by
  refine qf b1 p s ?_;have key:=h1.2 (Q:=λf' s'=>(f' = .next->∀p',Sem.wp (model pw cx.w) Γ (execs b2 env) (λa _ s=>Q a s) (λe _ s=>E e s) p' s')/\(f'≠.next->Q f' s')) (E:=E) z (λF U4 V4 P8 T3 N0=>by
   have T3:F = .next:=T3;exact⟨λ_ p'=>h2.2 (z.next P8 N0 h1.1) (W.on N0 h1.1) Γ p' hΓ,λh=>absurd T3 h⟩) Γ p hΓ
  refine Sem.wp_mono _ Γ _ (λf' p' s' h'=>?_) (λ_ _ _ h'=>h') _ _ key;cases f' with
  |next=>exact h'.1 rfl p'
  |_=>exact h'.2 (λq=>nomatch q)⟩
theorem ExB.wk(h:ExB cx d b c HL .next O7)(hl:H₂.length=O7.length)(hw:∀s ρ,SR cx ρ O7 s->SR cx ρ H₂ s):ExB cx d b c HL .next H₂:=
 ⟨hl▸h.1,λ{A s ρ env Q E} z W=>h.2 z λF U4 V4 P8 T3 N0=>W F U4 V4 (hw U4 V4 P8) T3 N0⟩
theorem ExB.one(h:ExS cx d st c HL .next O7):ExB cx d [st] c HL .next O7:=.cons h .nil
theorem seg{ns:List Int}{N i n:Nat}{l:List AO}{T:TH}(hO:gL K (OL ns))(X:dF cx K)(hb:dT.body=cvB b)(hl:Nat.ble l.length 512=true)(h:(fns (OL ns) N).exs 40 (l7 i n) dy (mkT l) uw=some (f,T)):ExB cx 40 ((b.drop i).take n) dy l f T.L:=by
 have e:cvL (cvS (cvE 20) 20) ((b.drop i).take n)=l7 i n:=by rw[w2,nL];unfold l7;rw[hb];rfl
 rw[<-e]at h;refine(rD hO N cx X).exs h λf' H' k1 h=>?_;cases h;rw[fS hl]at k1;exact k1
end
noncomputable def exq(ns:List Int)(N:Nat)(p:PE)(H:TH)(kk:AF->TH->R):R:=(fns (OL ns) N).exs 40 p dy H kk
section
variable {ns:List Int} {rw':Bool} {cl nm nu sl cls:List AV} {a b c d e p:AV} {m q:Nat} {kk:AF->TH->R} {D:List Nat} {c0:Int} {N:Nat} {s r:PE} {H:TH}
theorem lK:exq ns (N+1) (.c s r) H kk=(fns (OL ns) N).ex 40 s dy H (sbK kk λH=>exq ns N r H kk):=rfl
theorem GJ:exq ns (N+1) .n H kk=kk .next H:=rfl
theorem L1(k:Dk D m):exq ns 62 (l7 9 3) (mkT (lwB none none none (frY rw' a b c d e p) (.int c0::cl) nm (dW D) nu sl cls [])) kk=kk .next (mkT (lwB (some (.ref 38)) (some (.ref 40)) none (frY rw' a b c d e p++[(169,.ref 60)]) (.int c0::cl) nm (dW D) nu sl cls (tlU m++[.dead,.list (Ci c0),.dead]))):=by
 have hg:gt (mkT (lwB none none none (frY rw' a b c d e p) (.int c0::cl) nm (dW D) nu sl cls [])) 23=some (.list (dW D)):=by kernel_rfl
 rw[show l7 9 3 = .c (fh dT.body 9) (.c (fh dT.body 10) (.c (fh dT.body 11) .n)) from rfl,lK,show(61:Nat)=41+20 from rfl,De,uF k hg,DQ,fq,FD,dJ,lm,show(41+20:Nat)=60+1 from rfl,lK,JZ m k.mem,lm,show(60:Nat)=59+1 from rfl,lK,show(59:Nat)=19+40 from rfl,yY,lm,show(19+40:Nat)=58+1 from rfl,GJ]
theorem Li(k:Dk D m)(hq:q<6):exq ns 60 (l7 12 4) (mkT (lwX none rw' a b c d e p [] cl (dK (dv D)) (dW D) nu sl cls (tlR q m))) kk=kk .next (mkT (B16 (gr q (iB (dH m) rw')) rw' a b c d e p cl (dK (dv D)) (dW D) nu sl cls q m (dW D.reverse) [])):=by
 rw[show l7 12 4 = .c (fh dT.body 12) (.c (fh dT.body 13) (.c (fh dT.body 14) (.c (fh dT.body 15) .n))) from rfl,show(60:Nat)=19+40+1 from rfl,lK,Bn q hq,lm,show(19+40:Nat)=38+20+1 from rfl,lK,Cz,Ee k hq,B6,dJ,lm,show(38+20:Nat)=17+40+1 from rfl,lK,zC q hq,lm,show(17+40:Nat)=33+23+1 from rfl,lK,Dw k hq,lm,show(33+23:Nat)=55+1 from rfl,GJ];rfl
end
theorem spl{α:Type}(b:List α)(i n:Nat):b.drop i=(b.drop i).take n++b.drop (i+n):=by rw[<-List.drop_drop,List.take_append_drop]
theorem Kg{α:Type}{f:α->PE}{l:List α}(h:cvL f l = .n):l=[]:=by cases l with | nil=>rfl | cons x r=>cases h
theorem K7{α:Type}{b:List α}{i:Nat}{x:α}(h:b[i]? = some x):(b.drop i).take 1=[x]:=by
 obtain⟨hl,e⟩:=aG.mp h;rw[cD hl,e];rfl
theorem fm6(i:Int):∃q:Nat,q<6/\(q:Int)=i.fmod 6:=⟨(i.fmod 6).toNat,(Int.toNat_lt (ca i (by decide))).mpr (Int.fmod_lt_of_pos i (by decide)),Int.toNat_of_nonneg (ca i (by decide))⟩
section
variable {cx:Cx} {K:Frag} {body:List Stmt} {ns:List Int}
theorem y8(hO:gL K (OL ns))(X:dF cx K)(hl:Nat.ble ns.length dn=true)(hb:dT.body=cvB body)(h8:body[8]? = BN[8]?)(hσ:cx.σ=qR (155+((ceM ns 0).getD []).sum)):∃HF,(HF[0]? = some (.tab 0)/\HF[1]? = some (.tab 1)/\HF[2]? = some (.tab 2))/\ExB cx 40 body dy lw0 (.ret (.bool true)) HF:=by
 refine KV (Lq hl) λc0 c1 c2 c3 c4 c5 sa hc=>?_;rw[<-hc]at hσ;refine dm (Ce c1) λn1 b1 e1=>?_;refine dm (Ce c2) λn2 b2 e2=>?_;refine dm (Ce c3) λn3 b3 e3=>?_;refine dm (Ce c4) λn4 b4 e4=>?_;refine dm (Ce c5) λn5 b5 e5=>?_;refine dm (fm6 (c0.fdiv 1250)) λq hq eq=>?_;have eA:=seg (i:=0) (n:=2) hO X hb (l:=lw0) rfl (sa 0 uw);rw[fS rfl]at eA;have eA':=eA.wk (H₂:=lwA c0 c1 c2 c3 c4 c5 ((c0.fdiv 625).fmod 2 == 1)) rfl λs ρ S=>S.lst (i:=12) rfl (E1 hσ);refine AG (LJ (ns:=ns) (rw':=((c0.fdiv 625).fmod 2 == 1)) (c0:=c0) (kk:=uw) (fc b1 (fc b2 (fc b3 (fc b4 (fc b5 fn))))) e1 e2 e3 e4 e5) λD m' fD D0 hv OA hB=>?_;refine KZ OA λa b c d e p em=>?_;have eB:=seg (i:=2) (n:=6) hO X hb (l:=lwA c0 c1 c2 c3 c4 c5 ((c0.fdiv 625).fmod 2 == 1)) rfl hB;rw[em]at eB hv;have eL:(lwP (frN ((c0.fdiv 625).fmod 2 == 1) a b c d++w3 0 e p) [.int c0,.int c1,.int c2,.int c3,.int c4,.int c5] (dK (eK (mkP 0) (eK (mkP 1) (eK (mkP 2) (eK (mkP 3) D))))) (dW D) (dw D) [.int c1,.int c2,.int c3,.int c4,.int c5] [.int n1,.int n2,.int n3,.int n4,.int n5] .dead 4 []).L=lf (frZ ((c0.fdiv 625).fmod 2 == 1) a b c d e p) [.int c0,.int c1,.int c2,.int c3,.int c4,.int c5] (dK (dv D)) (dW D) (dw D) [.int c1,.int c2,.int c3,.int c4,.int c5] (dw [n1,n2,n3,n4,n5]):=fS (l:=lf (frZ ((c0.fdiv 625).fmod 2 == 1) a b c d e p) [.int c0,.int c1,.int c2,.int c3,.int c4,.int c5] (dK (dv D)) (dW D) (dw D) [.int c1,.int c2,.int c3,.int c4,.int c5] (dw [n1,n2,n3,n4,n5])) rfl;rw[eL]at eB;refine Go C6 λels kq tp P1 P2 x pos2 bd pos h1 _=>?_
 have eZ:=ExB.one (IC (ns:=ns) (rw':=((c0.fdiv 625).fmod 2 == 1)) (c0:=c0) (c1:=c1) (c2:=c2) (c3:=c3) (c4:=c4) (c5:=c5) (P:=dv D) (D:=D) (T:=[n1,n2,n3,n4,n5]) hO X hv h1);rw[<-K7 (h8.trans h1)]at eZ;have k:=Gc fD D0;have eC:=seg (i:=9) (n:=3) hO X hb (l:=lwB none none none (frY ((c0.fdiv 625).fmod 2 == 1) a b c d e p) [.int c0,.int c1,.int c2,.int c3,.int c4,.int c5] (dK (dv D)) (dW D) (dw D) [.int c1,.int c2,.int c3,.int c4,.int c5] (dw [n1,n2,n3,n4,n5]) []) rfl (L1 (kk:=uw) k);rw[fS rfl]at eC;have eC':=eC.wk (H₂:=lwX none ((c0.fdiv 625).fmod 2 == 1) a b c d e p [] [.int c0,.int c1,.int c2,.int c3,.int c4,.int c5] (dK (dv D)) (dW D) (dw D) [.int c1,.int c2,.int c3,.int c4,.int c5] (dw [n1,n2,n3,n4,n5]) (tlR q (fL (dv D)))) rfl λs ρ S=>S.lst (i:=60) rfl (Dy eq);have eD:=seg (i:=12) (n:=4) hO X hb (l:=lwX none ((c0.fdiv 625).fmod 2 == 1) a b c d e p [] [.int c0,.int c1,.int c2,.int c3,.int c4,.int c5] (dK (dv D)) (dW D) (dw D) [.int c1,.int c2,.int c3,.int c4,.int c5] (dw [n1,n2,n3,n4,n5]) (tlR q (fL (dv D)))) rfl (Li (kk:=uw) k hq);rw[fS rfl]at eD;have px:=pgx hq k.mem ((c0.fdiv 625).fmod 2 == 1);have e16:=seg (N:=fu 13+1) (i:=16) (n:=1) hO X hb (l:=B16 (gr q (iB (dH (fL (dv D))) ((c0.fdiv 625).fmod 2 == 1))) ((c0.fdiv 625).fmod 2 == 1) a b c d e p [.int c0,.int c1,.int c2,.int c3,.int c4,.int c5] (dK (dv D)) (dW D) (dw D) [.int c1,.int c2,.int c3,.int c4,.int c5] (dw [n1,n2,n3,n4,n5]) q (fL (dv D)) (dW D.reverse) []) rfl (lK.trans (E4 px));rw[fS rfl]at e16
 refine dm (FS (ns:=ns) (rw':=((c0.fdiv 625).fmod 2 == 1)) (a:=a) (b:=b) (c:=c) (d:=d) (e:=e) (p:=p) (cl:=[.int c0,.int c1,.int c2,.int c3,.int c4,.int c5]) (nm:=dK (dv D)) (row:=dW D) (sl:=[.int c1,.int c2,.int c3,.int c4,.int c5]) (cls:=dw [n1,n2,n3,n4,n5]) (xs:=dW D.reverse) (kk:=sbK uw λH=>exq ns 40 .n H uw) k px) λT hT r17=>?_;have e17:=seg (N:=40+1) (i:=17) (n:=1) hO X hb (l:=B17 (gr q (iB (dH (fL (dv D))) ((c0.fdiv 625).fmod 2 == 1))) ((c0.fdiv 625).fmod 2 == 1) a b c d e p [.int c0,.int c1,.int c2,.int c3,.int c4,.int c5] (dK (dv D)) (dW D) (dw D) [.int c1,.int c2,.int c3,.int c4,.int c5] (dw [n1,n2,n3,n4,n5]) q (fL (dv D)) (dW D.reverse) []) rfl (lK.trans r17);have z18:body.drop 18=[]:=Kg (f:=cvS (cvE 20) 20) (by rw[nL];show BW 18 (cvB body)=_;rw[<-hb];rfl);have z17:(body.drop 17).take 1=body.drop 17:=by
  have z:=spl body 17 1;rw[z18,aU]at z;exact z.symm
 rw[z17]at e17;have j16:=e16.app e17;rw[<-spl body 16 1]at j16;have j12:=eD.app j16;rw[<-spl body 12 4]at j12;have j9:=eC'.app j12;rw[<-spl body 9 3]at j9;have j8:=eZ.app j9;rw[<-spl body 8 1]at j8;have j2:=eB.app j8;rw[<-spl body 2 6]at j2;have j0:=eA'.app j2;rw[<-spl body 0 2]at j0;exact⟨_,hT,j0⟩
end
section
open PySem.W.X
noncomputable def PX(a:Addr):Prop:=a=117\/a=124\/a=214
noncomputable def scO(its:Array Value):Obj:={ cls:=.type "list",data:=.seq its}
theorem CD:∀a∈KA++[323],¬ PX a:=by
 have h:∀a∈KA++[323],(!(Nat.beq a 117 || (Nat.beq a 124 || Nat.beq a 214)))=true:=aA.mp (by decide);intro a ha p;have:=h a ha;rcases p with e | e | e<;>rw[e]at this<;>exact fT this
theorem Lz(P:Params)(o:Obj):KA++[323]=(KS P o).map (·.1):=rfl
theorem Dh{P:Params}{o ob:Obj}{a:Addr}(e:(KS P o).lookup a=some ob):a∈KA++[323]:=by
 rw[Lz P o];have:∀{l:Frag},l.lookup a=some ob->a∈l.map (·.1):=λ{l}=>by
  induction l with
  |nil=>exact λh=>nomatch h
  |cons p r ih=>
   obtain⟨b,x⟩:=p;rw[List.lookup_cons];intro h
   split at h
   ·rename_i q;rw[bZ.mp q];exact .head _
   ·exact .tail _ (ih h)
 exact this e
theorem BO{cx:Cx}{s:Shared}{ρ:Nat->Addr}{n:Nat}{Vs:List Value}{ns:List Int}(h:IntsAre Vs ns):IsL cx s ρ n (ns.map .inu) Vs:=by
 induction h with
 |nil=>rfl
 |cons i t _ ih=>exact⟨_,_,rfl,⟨t,rfl⟩,ih⟩
theorem Hk{P:Params}{its:Array Value}{ns:List Int}(hI:IntsAre its.toList ns):ut (KS P (scO its)) (yO ns):=λcx X i ns' h=>gC h (λq h=>so h λe=>by
 rw[nb q,<-e];exact⟨its,⟨scO its,_,X.kc.inn 323 (scO its) rfl,rfl,rfl,rfl⟩,λ{s ρ n}=>BO hI⟩) λ_ h=>nomatch h
section
variable {cx:Cx} {K:Frag} {ns:List Int}
theorem HX:p7 dy [(110,.st 323)] (mkT (gR++(.ns []::fp dT.names)))=some (mkT lw0):=by kernel_rfl
theorem Am(hO:gL K (OL ns))(X:dF cx K)(XK:(KL cx.w.params).In cx.hs)(hl:Nat.ble ns.length dn=true)(hσ:cx.σ=qR (155+((ceM ns 0).getD []).sum)):∃HF,(HF[0]? = some (.tab 0)/\HF[1]? = some (.tab 1)/\HF[2]? = some (.tab 2))/\dE cx 41 (.st 322) [.st 323] [] gR (.bool true) HF:=by
 refine fA (X.fk 322 dT rfl) λfd body Y=>?_;have hbody:body=BN:=by
  refine dm Y.ob λo e1 e2=>?_;have e3:=XK 322 _ (show(KL cx.w.params).lookup 322=some (fnO (stN 36) "law" .none .none 3 321) from rfl);rw[e1]at e3;obtain rfl:=ak e3;have e4:∃fd',(fnO (stN 36) "law" .none .none 3 321).data = .func fd'/\fd'.body = .stmts BN:=⟨_,rfl,rfl⟩;refine dm e4 λfd' e5 e6=>?_;rw[e2]at e5;cases e5;rw[Y.bd]at e6;cases e6;rfl
 refine dm (y8 (body:=body) hO X hl Y.cv (by rw[hbody]) hσ) λHF h3 hB=>?_;refine⟨HF,h3,?_⟩;have e2:=iJ (cx:=cx) HX;rw[fS rfl,fS rfl]at e2;refine⟨ae (by decide) hB.1,λ{A s ρ Fv Vs Ks Q E} u i iV iK W=>?_⟩;rw[show Fv=Value.ref 322 from i];refine dm (Y.bind cx.tkN cx.opq [.st 323] [] [(110,.st 323)] rfl rfl _ _ _ _ _ u.sr.keep iV iK) λWs iW hb=>?_;exact wpAny_call (mR (H:=gR) (names:=dT.names) (clo:=[]) (tag:=.none) (.inl rfl) u.g u.ok u.sr (Y.at_ u.sr) hb iW e2 hB W)
end
end
section
open PySem.W.X
noncomputable abbrev rwL:OpenLaw:=PySem.Challenge.rw_xj0036_01
noncomputable abbrev rwR:RowW:=rwL.row.toRowW
theorem Eu{w:World}{s₀ U4:Shared}{args:List WData}{vals:List Value}{as:List Addr}(L:Laid rwR.records w s₀ U4 args vals as)(hpre:rwR.claim.pre args=true)(hlay:WData.layableAll args=true)(hrd:ReadsAllW rwR.records (classAt s₀.heap) U4.heap vals args as)(hwl:WellAll w.params U4.heap vals args)(hlo:∀a∈as,(a == sysModules)=false):
  ∃(ns:List Int) (a:Addr) (vs:List Value),args=[ofPy (PyData.list (ns.map PyData.int))]/\vals=[.ref a]/\U4.heap.IsList a vs.toArray/\IntsAre vs ns/\ns.length<=63:=by
 wrow_args hpre hlay hrd hwl hlo
 rename_i a hL _ _ _ hI _ hc _;exact⟨_,_,_,rfl,rfl,hL,hI,by have h:=Int.not_lt.mp hc;exact Int.ofNat_le.mp h⟩
noncomputable def ρ0(i:Nat):Addr:=[117,124,214].getD i 0
section
variable {w:World} {s₀ U4 s':Shared} {q:Nat} {σ:eO}
theorem zx(hg:U4.gens=#[])(ht:0<U4.toks)(h0:U4.heap.get? 117=some (tabObj #[]))(h1:U4.heap.get? 124=some (tabObj #[]))(h2:U4.heap.get? 214=some (tabObj #[])):SR (oQ w σ (mH U4.heap PX) U4.os q) ρ0 gR U4 where
 keep:=λa o e=>(g7 e).2
 own:=λj o e=>by
  match j,e with
  |0,e=>obtain rfl:=ak e;exact⟨rfl,.inl h0⟩
  |1,e=>obtain rfl:=ak e;exact⟨rfl,.inl h1⟩
  |2,e=>obtain rfl:=ak e;exact⟨rfl,.inl h2⟩
  |j+3,e=>exact nS e
 inj:=λi j oi oj ei ej _ _ e=>by
  have hi:=fM ei;have hj:=fM ej;have key:∀i,i<3->∀j,j<3->ρ0 i=ρ0 j->i=j:=by decide
  exact key i hi j hj e
 new:=λj o e _=>by
  have hp:∀j,j<3->PX (ρ0 j):=λj h=>by
   match j,h with
   |0,_=>exact .inl rfl
   |1,_=>exact .inr (.inl rfl)
   |2,_=>exact .inr (.inr rfl)
   |j+3,h=>exact absurd h (bJ.mpr (bU 3 j))
  cases z:(mH U4.heap PX).get? (ρ0 j) with
  |none=>exact z
  |some ob=>exact absurd (hp j (fM e)) (g7 z).1
 gens:=hg
 os:=rfl
 tkn:=⟨bj _,ht⟩
variable {K:Frag} {HF:List AO} {ρ':Nat->Addr}
theorem rk{cx:Cx}(X:dF cx K)(hs:∀a o,cx.hs.get? a=some o->U4.heap.get? a=some o)(S:SR cx ρ' HF s')(k:Nat)(hk:HF[k]? = some (.tab k))(h0:U4.heap.get? (hF k).2=some (tabObj #[])):asItWas U4.heap s'.heap (hF k).2 (tabObj #[])/\∃o',s'.heap.get? (hF k).2=some o':=by
 have T:=nt X.cod S hk;obtain⟨e,t⟩:=T;rw[e]at t;refine GK (X.cod.hd k) λo vs _ _ _ _ _ _ _ h1 h2 h3 h4 _=>?_;rcases t with t | ⟨c',t,_⟩
 ·exact⟨.inl t,_,t⟩
 ·exact⟨.inr (.inl ⟨⟨_,o,vs,hs _ _ h1,h2,h3,h4⟩,rfl,#[],_,rfl,by rw[Array.empty_append];exact t⟩),_,t⟩
theorem L9(X:dF (oQ w σ (mH U4.heap PX) U4.os q) K)(S:SR (oQ w σ (mH U4.heap PX) U4.os q) ρ' HF s')(hT:HF[0]? = some (.tab 0)/\HF[1]? = some (.tab 1)/\HF[2]? = some (.tab 2))(h0:U4.heap.get? 117=some (tabObj #[]))(h1:U4.heap.get? 124=some (tabObj #[]))(h2:U4.heap.get? 214=some (tabObj #[])):OldK U4.heap s'.heap:=by
 have key:∀b o,U4.heap.get? b=some o->asItWas U4.heap s'.heap b o/\∃o',s'.heap.get? b=some o':=λb o e=>by
  by_cases p:PX b
  ·rcases p with p | p | p<;>rw[p]at e ⊢
   ·rw[h0]at e;obtain rfl:=ak e;exact rk X (λa o e=>(g7 e).2) S 0 hT.1 h0
   ·rw[h1]at e;obtain rfl:=ak e;exact rk X (λa o e=>(g7 e).2) S 1 hT.2.1 h1
   ·rw[h2]at e;obtain rfl:=ak e;exact rk X (λa o e=>(g7 e).2) S 2 hT.2.2 h2
  ·have:=S.keep b o (ig p e)
   exact⟨.inl this,o,this⟩
 exact⟨λb o e=>(key b o e).1,λb o e=>(key b o e).2⟩
theorem qz{h:Heap}{a:Addr}{m:Str->Option Value}(p:¬ PX a)(n:h.Ns a m):(mH h PX).Ns a m:=by
 refine gv n λo es ep e r=>?_;exact⟨o,es,ep,ig p e,r⟩
theorem okA:Ok callerA 41:=⟨by decide,by decide,rfl⟩
theorem sZ{mg mb:Str->Option Value}{its:Array Value}(G:Ground sz jJ rwR.records (λ_ _=>True) w s₀ mg mb U4.heap)(L:∀b o,s₀.heap.get? b=some o->U4.heap.get? b=some o)(y:obs s₀=val w)(hsc:U4.heap.get? 323=some (scO its))(hq:q<6):
  dF (oQ w σ (mH U4.heap PX) U4.os q) (KS w.params (scO its))/\(KL w.params).In (mH U4.heap PX)/\mg (Str.ofString "law")=some (.ref 322):=by
 have y1:KA.map s₀.heap.get? = (KL w.params).map λp=>some p.2:=aB Prod.fst y;have X0:(KL w.params).In U4.heap:=(Frag.in_of (K:=KL w.params) rfl y1).keeps L;have XS:(KS w.params (scO its)).In (mH U4.heap PX):=λa ob e=>ig (CD a (Dh e)) (by
  unfold KS at e;rw[List.lookup_append]at e;cases z:(KL w.params).lookup a with
  |some o=>rw[z]at e;obtain rfl:=ak e;exact X0 _ _ z
  |none=>
   rw[z]at e;have e:List.lookup a [(323,scO its)]=some ob:=e;rw[List.lookup_cons]at e
   split at e
   ·rename_i q;obtain rfl:=ak e;rw[bZ.mp q];exact hsc
   ·exact nS e)
 have n3:¬ PX mainGlobals:=CD _ (by decide);have nb:¬ PX builtinsNs:=λp=>by rcases p with p | p | p<;>exact absurd p (by decide)
 have nc:¬ PX cStatics:=CD _ (by decide);have nm:¬ PX sysModules:=λp=>by rcases p with p | p | p<;>exact absurd p (by decide)
 refine dm G.T.nolimit λmc c1 c2=>?_;refine dm ((G.T.seer (by rfl)).mods) λmm OA _=>?_;refine gv OA λom _ _ hm _=>?_;refine wq G.T.bmain λbm ob b1 b2 b3 b4 b5 b6=>?_;have hmain:=X0 mainGlobals _ (show(KL w.params).lookup mainGlobals=some _ from rfl);have F:=Bl (w:=w) (σ:=σ) (os:=U4.os) XS (qz n3 G.T.g) (qz nb G.T.b) ⟨mc,qz nc c1,c2⟩ G.T.builtins (by rw[ig nm hm];exact λh=>nomatch h) (λk=>?_) hq
 ·exact⟨F,mY XS,mg_of X0 G.T.g (by kernel_rfl)⟩
 ·have nbm:¬ PX bm:=λp=>by
   have t:U4.heap.get? bm=some (tabObj #[]):=by
    have y2 : [117,124,214].map s₀.heap.get? = [some (tabObj #[]),some (tabObj #[]),some (tabObj #[])]:=aB (λx=>x.2.1) y;injection y2 with q1 y2
    injection y2 with q2 y2
    injection y2 with q3 y2
    rcases p with p | p | p<;>rw[p]
    ·exact L _ _ q1
    ·exact L _ _ q2
    ·exact L _ _ q3
   rw[b3]at t;obtain rfl:=ak t;cases b4
  refine⟨bm,ob,b1,b2,λe=>?_,λe=>?_,ig nbm b3,b4,b5,b6⟩
  ·rw[e,hmain]at b3
   obtain rfl:=ak b3;exact absurd (Value.type.inj b4) (by decide)
  ·have:∀k,PX (hF k).2:=λk=>by
    unfold hF;cases Nat.beq k 0 with
    |true=>exact .inl rfl
    |false=>cases Nat.beq k 1 with
     |true=>exact .inr (.inl rfl)
     |false=>exact .inr (.inr rfl)
   exact nbm (e▸this k)
end
end
section
open PySem.W.X
theorem yr(ns:List Int):rwR.claim.post [ofPy (PyData.list (ns.map PyData.int))] (.bool true) [ofPy (PyData.list (ns.map PyData.int))]=true:=by
 wrow_post
theorem FR(w:World)(s₀ U4:Shared)(mg mb:Str->Option Value)(G:Ground sz jJ rwR.records (λ_ _=>True) w s₀ mg mb U4.heap)(y:obs s₀=val w)(fa:Addr)(hmg:mg (Str.ofString "law")=some (.ref fa))(hg:U4.gens=#[])
  (args:List WData) (vals:List Value) (as:List Addr) (L:Laid rwR.records w s₀ U4 args vals as) (hpre:rwR.claim.pre args=true) (hlay:WData.layableAll args=true) (hrd:ReadsAllW rwR.records (classAt s₀.heap) U4.heap vals args as) (hwl:WellAll w.params U4.heap vals args) (hlo:∀a∈as,(a == sysModules)=false) :
  wpAny (model pw w) callerA (call (.ref fa) vals) (λv s'=>GoodWG rwR.claim (classAt s₀.heap) (ExcName.means s₀.heap) args U4 (.ok (.ret v)) s')
   (λe s'=>GoodWG rwR.claim (classAt s₀.heap) (ExcName.means s₀.heap) args U4 (.error e) s') U4:=by
 refine tZ (Eu L hpre hlay hrd hwl hlo) λns a vs e1 e2 hL hI hl=>?_;rw[e1,e2]at L ⊢;obtain⟨hat,hsz⟩:=script_at L;have y3:s₀.heap.objs.size=323:=aB (λx=>x.2.2.1) y;have y4:s₀.toks=743:=aB (λx=>x.2.2.2) y;have y2 : [117,124,214].map s₀.heap.get? = [some (tabObj #[]),some (tabObj #[]),some (tabObj #[])]:=aB (λx=>x.2.1) y;injection y2 with q1 y2
 injection y2 with q2 y2
 injection y2 with q3 y2
 have hsc:=script_obj L hL;have ha:a=323:=hat.trans y3;rw[ha]at hsc ⊢;have ht:=script_toks L y4;refine kL (sZ (σ:=qR (155+((ceM ns 0).getD []).sum)) (q:=0) G L.keeps y hsc (by decide)) λX XL m=>?_;rw[hmg]at m;cases m;refine dm (Am (L8 (Hk (P:=w.params) (its:=vs.toArray) hI)) X XL (a9 (ae hl (by decide))) rfl) λHF hT C=>?_;refine C.2 (Ks:=[]) ⟨X.cok,okA,zx hg (av (by decide) ht) (L.keeps _ _ q1) (L.keeps _ _ q2) (L.keeps _ _ q3)⟩ rfl ⟨_,_,rfl,rfl,rfl⟩ rfl λV s' ρ' S' i' E'=>?_;rw[show V = .bool true from i'];exact⟨.inl ⟨_,_,[],rfl,λ_=>rfl,ReadsW.bool true,yr ns,λ_=>⟨List.nodup_nil,λ_ hm=>nomatch hm⟩⟩,L9 X S' hT (L.keeps _ _ q1) (L.keeps _ _ q2) (L.keeps _ _ q3),S'.os,.of_eq S'.gens⟩
theorem ws:rwL.wellSaid=true:=by kernel_rfl
theorem Kk:rwL.Holds:=holds_law ws λk1=>holds_openX (q:=sz) (loose:=jJ) (Xt:=λ_=>true) (XP:=λ_ _=>True) (Yf:=obs) (Ya:=val) (N:=3000) left (λ_ _=>trivial) (λ_ _ _ _ _=>trivial) (by rfl) (by rfl) (by rfl) (λs e=>recFacts_of rfl) (by rfl) k1 (by decide +kernel) ⟨rfl,rfl,rfl,rfl,rfl,by decide +kernel⟩ ⟨[ofPy (PyData.list [])],by decide +kernel,by decide +kernel⟩
 λw s₀ U4 mg mb G y fa o pm cd doc dV kV ho hd hcd hD hmg hg args vals as L hpre hlay hrd hwl hlo=>FR w s₀ U4 mg mb G y fa hmg hg args vals as L hpre hlay hrd hwl hlo
end
end Mine
theorem PySem.Challenge.cw_xj0036_01_holds : PySem.Challenge.rw_xj0036_01.Holds :=
Mine.Kk