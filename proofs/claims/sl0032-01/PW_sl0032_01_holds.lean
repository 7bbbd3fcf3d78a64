import PyProof.Rows.All
import PyProof.FactsAll.set
import PyProof.GenRules
import PyProof.GenQ
import PyProof.Rows.EnumRows
import PyProof.Rows.PlainObj
import PyProof.Rows.SortStr
import PyProof.Rows.SetFrom
import OpenK.KCls
import KE.KDictLaws
import Wide.FinOn
import OpenK.AllK
import Wide.All
import Lean
import PySem.Challenge.RW_sl0032_01
open PySem PySem.W PySem.Calls PyProof.Rows
set_option Elab.async false
set_option linter.all false
set_option maxRecDepth 100000
set_option maxHeartbeats 0
set_option backward.eqns.nonrecursive false
set_option backward.eqns.deepRecursiveSplit false
set_option tactic.hygienic false
namespace Mine
noncomputable section
local macro_rules | `(tactic| omega) => `(tactic| lia)
abbrev ar:= @wpAny_bind
abbrev au:= @wpAny_mono
abbrev aw:= @if_pos
abbrev az:= @if_neg
abbrev aA:= @Nat.le_trans
abbrev bd:= @wpAny_pure
abbrev bi:= @List.length_map
abbrev bp:= @List.mem_cons
abbrev cf:= @List.cons_ne_nil
abbrev cr:= @List.mem_append
abbrev bj:= @List.mem_append_left
abbrev bn:= @List.map_cons
abbrev bw:= @List.mem_append_right
abbrev bA:= @List.length_cons
abbrev bD:= @Heap.get?_push_size
abbrev bK:= @Heap.get?_push_of_some
abbrev bL:= @List.getElem?_map
abbrev bM:= @List.size_toArray
abbrev bP:= @List.mem_map
abbrev cw:= @List.mem_cons_of_mem
abbrev cD:= @List.all_eq_true
abbrev cF:= @Nat.le_refl
abbrev cN:= @List.mem_singleton
abbrev dI:= @Bool.and_eq_true
abbrev dJ:= @List.mem_cons_self
abbrev dK:= @List.map_map
abbrev dU:= @Nat.zero_le
abbrev dW:= @Ne.symm
abbrev dX:= @List.getElem?_eq_getElem
abbrev eI:= @if_true
abbrev eJ:= @List.foldl_cons
abbrev eK:= @decide_eq_true
abbrev eV:= @wpAny_Name
abbrev eW:= @if_false
abbrev eX:= @List.getElem?_eq_some_iff
abbrev eY:= @Nat.le_of_lt
abbrev eZ:= @List.length_nil
abbrev f5:= @Heap.lt_size
abbrev gn:= @List.append_nil
abbrev gq:= @Nat.zero_add
abbrev gr:= @List.flatten_append
abbrev gz:= @Bool.false_eq_true
abbrev gA:= @List.flatten_cons
abbrev gB:= @wpAny_holding
abbrev gC:= @List.nodup_cons
abbrev gD:= @List.mem_range
abbrev gQ:= @sizeLine_eq
abbrev gR:= @Nat.lt_of_le_of_lt
abbrev iH:= @decide_eq_true_eq
abbrev iI:= @List.getElem?_eq_none
abbrev iJ:= @Nat.le_of_eq
abbrev i5:= @Nat.le_succ
abbrev i6:= @Nat.le_succ_of_le
abbrev i7:= @Nat.succ_le_succ
abbrev jQ:= @Prod.mk.inj
abbrev jR:= @wpAny_items_nil
abbrev jS:= @wpAny_items_cons
abbrev jT:= @beq_iff_eq
abbrev jU:= @Nat.ne_of_lt
abbrev jV:= @PySem.W.Fast.te14364793385576792824
abbrev jW:= @seg_execs_cons
abbrev jX:= @List.length_range
abbrev kG:= @wpAny_loadName_local
abbrev kH:= @wpAny_Call_Name_kw
abbrev kI:= @List.mem_filter
abbrev kJ:= @Nat.not_lt
abbrev kK:= @List.nil_append
abbrev kL:= @List.nodup_append
abbrev kM:= @Option.getD_some
abbrev mx:= @Eq.trans
abbrev my:= @List.mem_of_getElem?
abbrev mz:= @Int.natCast_nonneg
abbrev mB:= @decide_eq_false
abbrev mC:= @of_decide_eq_true
abbrev mU:= @wpAny_execs_nil
abbrev mV:= @Nat.lt_succ_self
abbrev mW:= @Option.bind_some
abbrev mX:= @Bool.false_ne_true
abbrev mY:= @Nat.add_zero
abbrev mZ:= @List.length_drop
abbrev m3:= @Option.map_some
abbrev m4:= @List.foldl_append
abbrev o8:= @wpAny_truthy_bool
abbrev pb:= @Option.map_eq_some_iff
abbrev pd:= @beq_eq_false_iff_ne
abbrev pe:= @Heap.SameBut.update
abbrev pf:= @List.drop_eq_getElem_cons
abbrev pg:= @Int.le_trans
abbrev ph:= @wpAny_call_entry
abbrev pi:= @List.map_congr_left
abbrev qD:= @wpAny_Assign_Name
abbrev qE:= @wpAny_standAt
abbrev qF:= @Heap.size_push
abbrev qG:= @List.reverse_cons
abbrev qH:= @List.not_mem_nil
abbrev qI:= @Int.ofNat_le
abbrev qJ:= @PySem.W.Fast.te10110043849684766642
abbrev qK:= @List.nodup_nil
abbrev qM:= @segRun_of
abbrev qN:= @Int.toNat_natCast
abbrev m5:= @Bool.or_eq_true
abbrev m6:= @Option.bind_eq_some_iff
abbrev m7:= @Nat.add_le_add_right
abbrev m8:= @Heap.get?_update_self
abbrev na:= @wpAny_assign_Name
abbrev nb:= @List.lookup_cons
abbrev nc:= @List.zip_cons_cons
abbrev nf:= @List.filterMap_cons
abbrev ni:= @Nat.lt_succ_of_lt
abbrev nk:= @codeAny_builtin
abbrev np:= @Sem.wrap_wrap
abbrev nq:= @List.map_nil
abbrev nr:= @Nat.le_add_right
abbrev nu:= @piece_app
abbrev nv:= @Nat.succ_pos
abbrev ny:= @or_false
abbrev nz:= @F.called_set
abbrev nA:= @List.mem_map_of_mem
abbrev nB:= @List.length_take
abbrev nC:= @Int.ofNat_lt
abbrev nD:= @List.flatten_singleton
abbrev nE:= @List.map_drop
abbrev nF:= @List.length_dropLast
abbrev nG:= @List.foldr_cons
abbrev pI:= @Nat.lt_irrefl
abbrev pJ:= @beq_self_eq_true
abbrev pK:= @List.forIn_cons
abbrev pL:= @Nat.succ_ne_self
abbrev pM:= @wpAny_newObj_type
abbrev pN:= @List.mem_reverse
abbrev pO:= @List.length_reverse
abbrev pP:= @Int.not_le
abbrev pQ:= @intKind_is
abbrev pR:= @wpAny_callSpecial?_slot
abbrev pS:= @Around.under_plainId
abbrev pT:= @Nat.mul_zero
abbrev pU:= @List.length_singleton
abbrev pV:= @typeLookup_type
abbrev pW:= @builtinLookup_eq_fast
abbrev pX:= @wpAny_setState_of
abbrev pY:= @List.foldl_nil
abbrev pZ:= @Nat.add_le_add
abbrev rJ:= @callWith_builtin
abbrev rK:= @call_meets
abbrev rL:= @wpAny_storeName_local
abbrev rM:= @wpAny_execs_cons
abbrev rN:= @Nat.sub_add_cancel
abbrev rO:= @List.take_of_length_le
abbrev rP:= @Nat.succ.inj
abbrev rQ:= @List.reverse_perm
abbrev rR:= @plainId_quiet
abbrev rS:= @wpAny_rule
abbrev rT:= @List.dropLast_concat_getLast
abbrev rU:= @Nat.lt_of_lt_of_le
abbrev rV:= @Int.ofNat.inj
abbrev rW:= @List.filterMap_cons_some
abbrev rX:= @wpAny_setField_rec
abbrev rY:= @Int.max_eq_right
abbrev rZ:= @Nat.sub_le
abbrev r0:= @List.all_cons
abbrev uP:= @wpAny_Constant_str
abbrev uQ:= @wpAny_Constant_bool
abbrev uR:= @wpAny_isTrue_Compare1
abbrev uS:= @wpAny_isTrue_value
abbrev uT:= @List.exists_cons_of_ne_nil
abbrev uU:= @evalArgs_plain
abbrev uV:= @decide_eq_false_iff_not
abbrev uW:= @PySem.F.slot_list_pop
abbrev uX:= @List.length_pos_iff
abbrev uY:= @List.drop_eq_nil_of_le
abbrev uZ:= @List.length_zip
abbrev u0:= @Nat.min_self
abbrev u1:= @PySem.F.slot_dict_get
abbrev u2:= @call_meetsIn
abbrev u3:= @wpAny_isInstance
abbrev u4:= @List.mergeSort_perm
abbrev u5:= @List.singleton_append
abbrev u6:= @Heap.get?_eq_some
abbrev u7:= @wpAny_field
abbrev u8:= @Nat.le_of_succ_le
abbrev u9:= @List.drop_length
abbrev va:= @List.getElem_mem
abbrev vb:= @fits_of_scanBound
abbrev vc:= @List.eq_nil_of_length_eq_zero
abbrev vd:= @List.ext_getElem?
abbrev ve:= @Nat.add_sub_cancel'
abbrev vf:= @Nat.add_le_add_left
abbrev vg:= @List.cons.inj
abbrev vh:= @List.getLast?_eq_some_getLast
abbrev yF:= @PySem.callWith_type
abbrev yG:= @List.replicate_succ
abbrev yH:= @Bool.eq_iff_iff
abbrev yI:= @wpAny_Call_method_lateS
abbrev yJ:= @Array.getElem?_eq_some_iff
abbrev yK:= @Nat.le_of_not_lt
abbrev yL:= @wpAny_pyIter_list
abbrev yM:= @Bool.and_eq_true_iff
abbrev yN:= @Nat.exists_eq_add_of_lt
abbrev yO:= @wpAny_specialOf
abbrev yP:= @List.zipWith_cons_cons
abbrev yQ:= @PySem.F.plainAttrs_dict
abbrev yR:= @F.plain_list_iadd
abbrev yS:= @isSubtype_type
abbrev yT:= @wpAny_updateSeq
abbrev yU:= @Heap.get?_update_other
abbrev yV:= @List.forIn_nil
abbrev yW:= @wpAny_attempt
abbrev yX:= @seg_execs_nil
abbrev yY:= @Array.getElem?_eq_none
abbrev yZ:= @List.mem_of_mem_take
abbrev y0:= @List.range_succ
abbrev y3:= @Nat.le_of_not_le
abbrev y4:= @Nat.min_eq_left
abbrev y5:= @Int.emod_nonneg
abbrev y6:= @Int.emod_lt_of_pos
abbrev y7:= @Nat.le_add_left
abbrev y8:= @List.length_replicate
abbrev y9:= @Function.comp_def
abbrev Dj:= @List.append_toArray
abbrev Dk:= @PySem.F.plainAttrs_list
abbrev Dl:= @wpAny_list_append_plain
abbrev Dm:= @PySem.F.entry_list_pop
abbrev Do:= @List.take_succ_cons
abbrev Dp:= @wpAny_assign_Tuple
abbrev Dq:= @List.findIdx?_eq_none_iff
abbrev Dr:= @List.getElem?_range
abbrev Ds:= @List.getElem_of_mem
abbrev Dt:= @List.contains_cons
abbrev Du:= @Int.lt_of_lt_of_le
abbrev Dv:= @Int.eq_ofNat_of_zero_le
abbrev Dw:= @PySem.F.entry_dict_get
abbrev Dx:= @PySem.W.Fast.te11892475500146522536
abbrev Dy:= @List.getElem?_drop
abbrev Dz:= @PySem.Pv.callWith_type1
abbrev DA:= @List.pairwise_iff_getElem
abbrev DB:= @List.mem_iff_getElem?
abbrev DC:= @arm_eval_Attribute
abbrev DD:= @List.filterMap_cons_none
abbrev DE:= @PyProof.Rows.F.plain_set_update_loop
abbrev DF:= @List.length_eraseIdx_of_lt
abbrev DG:= @Nat.pos_of_ne_zero
abbrev DH:= @Array.getElem?_toList
abbrev DI:= @Int.add_sub_cancel
abbrev DJ:= @Nat.lt_add_of_pos_right
abbrev DK:= @List.length_take_le
abbrev DL:= @List.getLast?_concat
abbrev DM:= @List.dropLast_concat
abbrev DN:= @List.getElem_range
abbrev DO:= @List.getElem?_cons_succ
abbrev DP:= @List.filter_append
abbrev IW:= @PyProof.Rows.F.entry_set_update_loop
noncomputable def s0:Str:=⟨#[95,95,110,97,109,101,95,95]⟩
noncomputable def s1:Str:=⟨#[99,112,121,51,49,51,46,115,116,114,105,110,103,112,114,101,112]⟩
noncomputable def s2:Str:=⟨#[95,95,100,111,99,95,95]⟩
noncomputable def s3:Str:=⟨#[47,99,108,97,105,109,47,99,117,116,46,112,121]⟩
noncomputable def s4:Str:=⟨#[95,119,97,108,108]⟩
noncomputable def s5:Str:=⟨#[95,105,116,101,114,95,101,115,99,97,112,101,100,95,99,104,97,114,115]⟩
noncomputable def s6:Str:=⟨#[95,115,116,114,105,112,95,113,117,111,116,101,100,95,114,101,97,108,110,97,109,101,115]⟩
noncomputable def s7:Str:=⟨#[95,99,104,101,99,107,95,112,97,114,101,110,116,104,101,115,105,115]⟩
noncomputable def s8:Str:=⟨#[98,49,95,115,101,116]⟩
noncomputable def s9:Str:=⟨#[105,110,95,116,97,98,108,101,95,98,49]⟩
noncomputable def WJ:Str:=⟨#[98,51,95,101,120,99,101,112,116,105,111,110,115]⟩
noncomputable def IK:Str:=⟨#[99,112,121,51,49,51,46,116,97,98,110,97,110,110,121]⟩
noncomputable def MQ:Str:=⟨#[109,97,112,95,116,97,98,108,101,95,98,51]⟩
noncomputable def DQ:Str:=⟨#[87,104,105,116,101,115,112,97,99,101]⟩
noncomputable def TX:Str:=⟨#[83]⟩
noncomputable def TY:Str:=⟨#[84]⟩
noncomputable def WK:Str:=⟨#[95,95,105,110,105,116,95,95]⟩
noncomputable def Pg:Str:=⟨#[108,111,110,103,101,115,116,95,114,117,110,95,111,102,95,115,112,97,99,101,115]⟩
noncomputable def MR:Str:=⟨#[105,110,100,101,110,116,95,108,101,118,101,108]⟩
noncomputable def Ph:Str:=⟨#[101,113,117,97,108]⟩
noncomputable def Pi:Str:=⟨#[110,111,116,95,101,113,117,97,108,95,119,105,116,110,101,115,115]⟩
noncomputable def WL:Str:=⟨#[108,101,115,115]⟩
noncomputable def WM:Str:=⟨#[110,111,116,95,108,101,115,115,95,119,105,116,110,101,115,115]⟩
noncomputable def WN:Str:=⟨#[69,88,65,67,84,95,84,79,75,69,78,95,84,89,80,69,83]⟩
noncomputable def s24:Str:=⟨#[60,109,111,100,117,108,101,62]⟩
noncomputable def s25:Str:=⟨#[95,95,109,97,105,110,95,95]⟩
noncomputable def Ql:Str:=⟨#[107]⟩
noncomputable def Qm:Str:=⟨#[97,100,100,114]⟩
noncomputable def TZ:Str:=⟨#[112,111,115]⟩
noncomputable def Qn:Str:=⟨#[99,104]⟩
noncomputable def X6:Str:=⟨#[99,112,121,51,49,51,46,101,109,97,105,108,46,117,116,105,108,115]⟩
noncomputable def T0:Str:=⟨#[115,116,97,114,116]⟩
noncomputable def s32:Str:=⟨#[111,112,101,110,95,112,111,115]⟩
noncomputable def s33:Str:=⟨#[114,101,115,117,108,116]⟩
noncomputable def Fs:Str:=⟨#[111,112,101,110,115]⟩
noncomputable def WO:Str:=⟨#[99,111,100,101]⟩
noncomputable def AP:Str:=⟨#[115,101,108,102]⟩
noncomputable def Tr:Str:=⟨#[99,111,117,110,116]⟩
noncomputable def T1:Str:=⟨#[110]⟩
noncomputable def X7:Str:=⟨#[87,104,105,116,101,115,112,97,99,101,46,95,95,105,110,105,116,95,95]⟩
noncomputable def WP:Str:=⟨#[116,114,97,105,108,105,110,103]⟩
noncomputable def X8:Str:=⟨#[87,104,105,116,101,115,112,97,99,101,46,108,111,110,103,101,115,116,95,114,117,110,95,111,102,95,115,112,97,99,101,115]⟩
noncomputable def X9:Str:=⟨#[116,97,98,115,105,122,101]⟩
noncomputable def Yb:Str:=⟨#[87,104,105,116,101,115,112,97,99,101,46,105,110,100,101,110,116,95,108,101,118,101,108]⟩
noncomputable def Pj:Str:=⟨#[111,116,104,101,114]⟩
noncomputable def Yc:Str:=⟨#[87,104,105,116,101,115,112,97,99,101,46,101,113,117,97,108]⟩
noncomputable def Yd:Str:=⟨#[87,104,105,116,101,115,112,97,99,101,46,110,111,116,95,101,113,117,97,108,95,119,105,116,110,101,115,115]⟩
noncomputable def Ye:Str:=⟨#[87,104,105,116,101,115,112,97,99,101,46,108,101,115,115]⟩
noncomputable def Yg:Str:=⟨#[87,104,105,116,101,115,112,97,99,101,46,110,111,116,95,108,101,115,115,95,119,105,116,110,101,115,115]⟩
noncomputable def s49:Str:=⟨#[95,95,100,105,99,116,95,95]⟩
noncomputable def s50:Str:=⟨#[95,95,119,101,97,107,114,101,102,95,95]⟩
noncomputable def M0:Str:=⟨#[108,97,119,95,115,108,48,48,51,50,95,48,49]⟩
noncomputable def IL:Str:=⟨#[95,108,97,119,95,114,111,119]⟩
noncomputable def IM:Str:=⟨#[95,108,97,119,95,110,97,109,101]⟩
noncomputable def G4:Str:=⟨#[95,108,97,119,95,114,101,109,97,114,107]⟩
noncomputable def MS:Str:=⟨#[95,108,97,119,95,114,101,97,100]⟩
noncomputable def IN:Str:=⟨#[95,108,97,119,95,114,117,110,115]⟩
noncomputable def IO:Str:=⟨#[95,108,97,119,95,115,112,97,110,115]⟩
noncomputable def IP:Str:=⟨#[95,108,97,119,95,110,101,115,116,101,100]⟩
noncomputable def Qo:Str:=⟨#[108,97,119]⟩
noncomputable def M1:Str:=⟨#[100,114,97,119]⟩
noncomputable def WQ:Str:=⟨#[112,105,101,99,101]⟩
noncomputable def Yh:Str:=⟨#[110,97,109,101]⟩
noncomputable def Yi:Str:=⟨#[115,101,101,110]⟩
noncomputable def Ts:Str:=⟨#[112,108,97,99,101]⟩
noncomputable def s65:Str:=⟨#[110,117,109,98,101,114]⟩
noncomputable def IX:Str:=⟨#[114,111,119]⟩
noncomputable def WR:Str:=⟨#[112,105,108,101]⟩
noncomputable def IQ:Str:=⟨#[107,105,110,100]⟩
noncomputable def Tt:Str:=⟨#[115,99,114,105,112,116]⟩
noncomputable def Qp:Str:=⟨#[116,111,116,97,108]⟩
noncomputable def Yj:Str:=⟨#[105,116,101,109,115]⟩
noncomputable def vi:Str:=⟨#[108,101,110]⟩
noncomputable def Yk:Str:=⟨#[108,105,115,116]⟩
noncomputable def AQ:Str:=⟨#[114,97,110,103,101]⟩
noncomputable def WS:Str:=⟨#[99,104,114]⟩
noncomputable def Yl:Str:=⟨#[111,114,100]⟩
noncomputable def Ym:Str:=⟨#[115,116,114]⟩
noncomputable def Tu:Str:=⟨#[115,117,109]⟩
noncomputable def M2:Str:=⟨#[109,97,120]⟩
noncomputable def MT:Str:=⟨#[115,111,114,116,101,100]⟩
noncomputable def T2:Str:=⟨#[115,101,116]⟩
noncomputable def Yn:Str:=⟨#[116,117,112,108,101]⟩
noncomputable def WT:Str:=⟨#[112,105,108,101,115]⟩
noncomputable def Qq:Str:=⟨#[115,112,97,110,115]⟩
noncomputable def s85:Str:=⟨#[111,112,101,110,101,100]⟩
noncomputable def WU:Str:=⟨#[100,114,97,119,110]⟩
noncomputable def Yo:Str:=⟨#[112,105,101,99,101,115]⟩
noncomputable def Yp:Str:=⟨#[115,105,103,110]⟩
noncomputable def Tv:Str:=⟨#[116,111,108,100]⟩
noncomputable def Yq:Str:=⟨#[98,97,114,101]⟩
noncomputable def Yr:Str:=⟨#[100,114,101,115,115,101,100]⟩
noncomputable def WV:Str:=⟨#[119,104,111,108,101]⟩
noncomputable def WW:Str:=⟨#[112,97,114,116,115]⟩
noncomputable def T3:Str:=⟨#[116,97,103]⟩
noncomputable def Ys:Str:=⟨#[111,112,101,110,101,114,115]⟩
noncomputable def Yt:Str:=⟨#[102,105,114,115,116]⟩
noncomputable def Yu:Str:=⟨#[115,101,99,111,110,100]⟩
noncomputable def Yv:Str:=⟨#[111,116,104,101,114,115]⟩
noncomputable def Yw:Str:=⟨#[97,112,97,114,116]⟩
noncomputable def IY:Str:=⟨#[115,105,122,101]⟩
noncomputable def Qr:Str:=⟨#[104,101,114,101]⟩
noncomputable def Qs:Str:=⟨#[116,104,101,114,101]⟩
theorem ir{A B:Sort _}{f:A->B}(a:A):f a=f a:=rfl
theorem cp{A:Sort _}{B:A->Sort _}{C:Sort _}{f:(a:A)->B a->C}(a:A)(b:B a):f a b=f a b:=rfl
section
theorem ah{α β:Type _}{o:Option α}{f:α->Option β}{z:β}{G:Prop}(h:o.bind f=some z)(k:∀a,o=some a->f a=some z->G):G:=by
 cases o with
 |none=>cases h
 |some a=>exact k a rfl h
theorem bV{α β:Type _}{o:Option α}{f:α->β}{z:β}{G:Prop}(h:o.map f=some z)(k:∀a,o=some a->f a=z->G):G:=by
 cases o with
 |none=>cases h
 |some a=>exact k a rfl (Option.some.inj h)
@[elab_as_elim] theorem pair_inv {α β:Type _} {a x:α} {b y:β} {G:α->β->Prop} (h:(a,b)=(x,y)) (k:G a b):G x y:=by
 obtain⟨rfl,rfl⟩:=jQ h;exact k
theorem DR{M:Model}{A:Around}{α:Type}{c:Sem α}{Q:α->Shared->Prop}{E:Value->Shared->Prop}{s:Shared}(h:∀(Q₁:α->Shared->Prop) (AR:Value->Shared->Prop),(∀r s',Q r s'->Q₁ r s')->(∀e s',E e s'->AR e s')->wpAny M A c Q₁ AR s):wpAny M A c Q E s:=
 h Q E (fun ø ø q=>q) fun ø ø q=>q
inductive V where
 |none
 |bool (b:Bool)
 |int (i:Int)
 |str (s:List Nat)
 |tup (l:List V)
 |list (l:List V)
 |dict (ks:List Int) (vs:List V)
 |obj (l:List V)
 deriving Inhabited
noncomputable abbrev pyStr(s:List Nat):Str:=⟨s.toArray⟩
noncomputable def za(h:Heap)(a:Addr)(items:Array Value):Prop:=∃n,h.get? a=some {cls:=.type "tuple",data:=.seq items n}
theorem za.isTup{h:Heap}{a items}(x:za h a items):IsTup h a items:=let⟨n,e⟩:=x;⟨_,e,rfl,n,rfl⟩
theorem za.zb{h:Heap}{a items}(x:za h a items):h.IsTuple a items:=let⟨n,e⟩:=x;⟨_,e,rfl,n,rfl⟩
section
variable(prog:Program)(w:World)(OB:Heap->Addr->List Value->(Addr->Prop)->Prop)
mutual
noncomputable def r4(h:Heap)(T:Addr->Prop):V->Value->Prop
 | .none,v=>v= .none
 | .bool b,v=>v= .bool b
 | .int i,v=>∃t,v= .int i t
 | .str s,v=>∃t,v= .str (pyStr s) t
 | .tup l,v=>∃a vs,v= .ref a/\T a/\za h a vs.toArray/\aV h T l vs
 | .list l,v=>∃a vs,v= .ref a/\T a/\h.PlainList a vs.toArray/\aV h T l vs
 | .dict ks l,v=>∃a vs,v= .ref a/\T a/\vs.length=ks.length/\(a==sysModules)=false/\h.DictOf (intKind prog w) a (ks.zip vs)/\aV h T l vs
 | .obj l,v=>∃a vs,v= .ref a/\OB h a vs T/\aV h T l vs
noncomputable def aV(h:Heap)(T:Addr->Prop):List V->List Value->Prop
 |[],vs=>vs=[]
 |x::xs,vs=>∃v r,vs=v::r/\r4 h T x v/\aV h T xs r
end
end
noncomputable def IZ(OB:Heap->Addr->List Value->(Addr->Prop)->Prop):Prop:=
 ∀(h h':Heap) (T T':Addr->Prop) a vs,(∀a o,T a->h.get? a=some o->h'.get? a=some o)->(∀a o,T a->h.get? a=some o->T' a)->OB h a vs T->OB h' a vs T'
section
variable{prog:Program}{w:World}{OB:Heap->Addr->List Value->(Addr->Prop)->Prop}(ok:IZ OB)
include ok
mutual
theorem r4.mono{h h':Heap}{T T':Addr->Prop}(hk:∀a o,T a->h.get? a=some o->h'.get? a=some o)(hT:∀a o,T a->h.get? a=some o->T' a):
  ∀(x:V) (v:Value),r4 prog w OB h T x v->r4 prog w OB h' T' x v
 | .none,v,e| .bool b,v,e| .int i,v,e| .str s,v,e=>e
 | .tup l,v,e=>by
   obtain⟨a,vs,rfl,ha,hl,hr⟩:=e;obtain⟨o,ho⟩:=id hl;exact⟨a,vs,rfl,hT a _ ha ho,⟨o,hk a _ ha ho⟩,aV.mono hk hT l vs hr⟩
 | .list l,v,e=>by
   obtain⟨a,vs,rfl,ha,hl,hr⟩:=e;obtain⟨o,ho⟩:=id hl;exact⟨a,vs,rfl,hT a _ ha ho,⟨o,hk a _ ha ho⟩,aV.mono hk hT l vs hr⟩
 | .dict ks l,v,e=>by
   obtain⟨a,vs,rfl,ha,hlen,ly,hl,hr⟩:=e;obtain⟨o,es,ep,ho,Tw⟩:=id hl;exact⟨a,vs,rfl,hT a o ha ho,hlen,ly,⟨o,es,ep,hk a o ha ho,Tw⟩,aV.mono hk hT l vs hr⟩
 | .obj l,v,e=>by
   obtain⟨a,vs,rfl,ho,hr⟩:=e;exact⟨a,vs,rfl,ok _ _ _ _ _ _ hk hT ho,aV.mono hk hT l vs hr⟩
theorem aV.mono{h h':Heap}{T T':Addr->Prop}(hk:∀a o,T a->h.get? a=some o->h'.get? a=some o)(hT:∀a o,T a->h.get? a=some o->T' a):
  ∀(x:List V) (v:List Value),aV prog w OB h T x v->aV prog w OB h' T' x v
 |[],vs,e=>e
 |x::xs,vs,e=>by
  obtain⟨v,r,rfl,h1,h2⟩:=e;exact⟨v,r,rfl,r4.mono hk hT x v h1,aV.mono hk hT xs r h2⟩
end
end
section
variable{prog:Program}{w:World}{OB:Heap->Addr->List Value->(Addr->Prop)->Prop}{h:Heap}{T:Addr->Prop}
theorem aV.length:∀{l:List V} {vs:List Value},aV prog w OB h T l vs->vs.length=l.length
 |[],_,e=>by obtain rfl:_=[]:=e;rfl
 |x::xs,_,e=>by
  obtain⟨v,r,rfl,_,h2⟩:=e;simp[aV.length h2]
theorem aV.get:∀{l:List V} {vs:List Value} {i:Nat} {x:V},aV prog w OB h T l vs->l[i]?=some x->∃v,vs[i]?=some v/\r4 prog w OB h T x v
 |[],_,_,_,_,hx=>by simp at hx
 |y::ys,_,0,x,e,hx=>by
  obtain⟨v,r,rfl,h1,h2⟩:=e;simp at hx;subst hx;exact⟨v,by simp,h1⟩
 |y::ys,_,i+1,x,e,hx=>by
  obtain⟨v,r,rfl,h1,h2⟩:=e;simpa using aV.get h2 (by simpa using hx)
theorem aV.get':∀{l:List V} {vs:List Value} {i:Nat} {v:Value},aV prog w OB h T l vs->vs[i]?=some v->∃x,l[i]?=some x/\r4 prog w OB h T x v
 |[],_,_,_,e,hx=>by obtain rfl:_=[]:=e;simp at hx
 |y::ys,_,0,x,e,hx=>by
  obtain⟨v,r,rfl,h1,h2⟩:=e;simp at hx;subst hx;exact⟨y,by simp,h1⟩
 |y::ys,_,i+1,x,e,hx=>by
  obtain⟨v,r,rfl,h1,h2⟩:=e;simpa using aV.get' h2 (by simpa using hx)
theorem aV.app:∀{l l':List V} {vs gS:List Value},aV prog w OB h T l vs->aV prog w OB h T l' gS->aV prog w OB h T (l++l') (vs++gS)
 |[],_,_,_,e,e'=>by obtain rfl:_=[]:=e;exact e'
 |x::xs,_,_,_,e,e'=>by
  obtain⟨v,r,rfl,h1,h2⟩:=e;exact⟨v,_,rfl,h1,h2.app e'⟩
theorem aV.one{x:V}{v:Value}(e:r4 prog w OB h T x v):aV prog w OB h T [x] [v]:=⟨v,[],rfl,e,rfl⟩
theorem aV.cons{x:V}{v:Value}{l vs}(e:r4 prog w OB h T x v)(e':aV prog w OB h T l vs):aV prog w OB h T (x::l) (v::vs):=⟨v,vs,rfl,e,e'⟩
theorem aV.nil:aV prog w OB h T [] []:=rfl
theorem aV.of{l:List V}{vs:List Value}:vs.length=l.length->(∀(i:Nat) x v,l[i]?=some x->vs[i]?=some v->r4 prog w OB h T x v)->aV prog w OB h T l vs:=by
 induction l generalizing vs with
 |nil=>intro hl _;simp at hl;subst hl;exact .nil
 |cons x xs ih=>
  intro hl r5
  cases vs with
  |nil=>simp at hl
  |cons v r=>exact .cons (r5 0 x v rfl rfl) (ih (by simpa using hl) fun i y u h1 h2=>r5 (i+1) y u (by simpa using h1) (by simpa using h2))
end
noncomputable def GX(g g':Array GenState):Prop:=(∀(i:Nat) x,g[i]?=some x->g'[i]?=some x)/\(AllBare g->AllBare g')
theorem GX.refl(g):GX g g:=⟨fun ø ø h=>h,id⟩
theorem GX.trans{a b c}(x:GX a b)(y:GX b c):GX a c:=⟨fun i z h=>y.1 i z (x.1 i z h),fun h=>y.2 (x.2 h)⟩
structure Kp(s s':Shared):Prop where
 keep:∀b o,s.heap.get? b=some o->s'.heap.get? b=some o
 gens:GX s.gens s'.gens
 os:s'.os=s.os
theorem Kp.refl(s:Shared):Kp s s:=⟨fun ø ø h=>h,.refl _,rfl⟩
theorem Kp.trans{a b c:Shared}(x:Kp a b)(y:Kp b c):Kp a c:=⟨fun b o h=>y.keep b o (x.keep b o h),x.gens.trans y.gens,y.os.trans x.os⟩
theorem Kp.toks(s:Shared)(tk:Nat):Kp s {s with toks:=tk}:=⟨fun ø ø h=>h,.refl _,rfl⟩
theorem Kp.push(s:Shared)(o:Obj)(tk:Nat):Kp s {s with heap:=s.heap.push o,toks:=tk}:=⟨fun ø ø h=>bK o h,.refl _,rfl⟩
theorem Kp.heap{s:Shared}{h':Heap}{tk:Nat}(k:∀b o,s.heap.get? b=some o->h'.get? b=some o):Kp s {s with heap:=h',toks:=tk}:=⟨k,.refl _,rfl⟩
noncomputable def cx(h:Heap)(hid:List Addr):Prop:=∀a∈hid,∃o,h.get? a=some o
theorem cx.kp{s s':Shared}{hid}(l:cx s.heap hid)(k:Kp s s'):cx s'.heap hid:=fun a h=>let⟨o,e⟩:=l a h;⟨o,k.keep a o e⟩
theorem cx.not{h:Heap}{hid}(l:cx h hid){a:Addr}(e:h.get? a=none):a∉hid:=fun q=>by obtain⟨o,q⟩:=l a q;rw[e]at q;cases q
theorem aP(h:Heap):h.get? h.objs.size=none:=by
 cases e:h.get? h.objs.size with
 |none=>rfl
 |some o=>exact absurd (f5 e) (pI _)
structure bW(n:Nat)(A:Around):Prop where
 handled:A.handled=none
 depth:A.depth+n<=900
 units:A.units+10*n+10<=9000
theorem bW.deeper{n:Nat}{A:Around}(r:bW (n+1) A)(env:Env):bW n (A.deeper env):=
 ⟨r.handled,by have:=r.depth;simp only[depth_deeper];omega,by have:=r.units;simp only[Around.deeper_units];omega⟩
theorem bW.less{n m:Nat}{A:Around}(r:bW n A)(h:m<=n):bW m A:=⟨r.handled,by have:=r.depth;omega,by have:=r.units;omega⟩
end
structure Pk where
 prog:Program
 w:World
 OB:Heap->Addr->List Value->(Addr->Prop)->Prop
 ok:IZ OB
 G:Heap->Prop
 Gk:∀{h h':Heap},G h->(∀b o,h.get? b=some o->h'.get? b=some o)->G h'
 glob:Str->Option Value
 nolim:∀{h:Heap},G h->h.NoLimit
 aM:∀{h:Heap},G h->∃mg mb,h.Ns mainGlobals mg/\h.Ns builtinsNs mb/\∀x v,glob x=some v->mg x=some v\/(mg x=none/\mb x=some v)
noncomputable abbrev Dn(P:Pk)(h:Heap)(hid:List Addr)(x:V)(v:Value):Prop:=r4 P.prog P.w P.OB h (· ∉hid) x v
noncomputable abbrev aU(P:Pk)(h:Heap)(hid:List Addr)(x:List V)(v:List Value):Prop:=aV P.prog P.w P.OB h (· ∉hid) x v
theorem Dn.grow{P:Pk}{h h':Heap}{hid ao:List Addr}{x:V}{v:Value}(e:Dn P h hid x v)(hk:∀a o,a∉hid->h.get? a=some o->h'.get? a=some o)
  (hn:∀a∈ao,a∈hid\/h.get? a=none):Dn P h' ao x v:=
 r4.mono P.ok hk (fun a o ha ho hm=>(hn a hm).elim ha fun q=>by rw[q]at ho;cases ho) x v e
theorem aU.grow{P:Pk}{h h':Heap}{hid ao:List Addr}{x:List V}{v:List Value}(e:aU P h hid x v)(hk:∀a o,a∉hid->h.get? a=some o->h'.get? a=some o)
  (hn:∀a∈ao,a∈hid\/h.get? a=none):aU P h' ao x v:=
 aV.mono P.ok hk (fun a o ha ho hm=>(hn a hm).elim ha fun q=>by rw[q]at ho;cases ho) x v e
theorem Dn.kp{P:Pk}{s s':Shared}{hid:List Addr}{x:V}{v:Value}(e:Dn P s.heap hid x v)(k:Kp s s'):Dn P s'.heap hid x v:=e.grow (fun a o ø h=>k.keep a o h) fun a h=>.inl h
theorem aU.kp{P:Pk}{s s':Shared}{hid:List Addr}{x:List V}{v:List Value}(e:aU P s.heap hid x v)(k:Kp s s'):aU P s'.heap hid x v:=e.grow (fun a o ø h=>k.keep a o h) fun a h=>.inl h
theorem Dn.less{P:Pk}{h:Heap}{hid ao:List Addr}{x:V}{v:Value}(e:Dn P h hid x v)(hn:∀a∈ao,a∈hid):Dn P h ao x v:=
 r4.mono P.ok (fun ø ø ø h=>h) (fun a o ha ho hm=>ha (hn a hm)) x v e
theorem aU.less{P:Pk}{h:Heap}{hid ao:List Addr}{x:List V}{v:List Value}(e:aU P h hid x v)(hn:∀a∈ao,a∈hid):aU P h ao x v:=
 aV.mono P.ok (fun ø ø ø h=>h) (fun a o ha ho hm=>ha (hn a hm)) x v e
structure Cx where
 vars:List (Str×NameKind×Bool)
 aM:List Str
noncomputable def fc(P:Pk)(L:Addr)(h:Heap)(out hid:List Addr):V->Value->Prop
 | .list l,v=>∃a vs,v= .ref a/\a∈hid/\a∉out/\a≠L/\h.PlainList a vs.toArray/\aU P h hid l vs
 | .dict ks l,v=>∃a vs,v= .ref a/\a∈hid/\a∉out/\a≠L/\(a==sysModules)=false/\vs.length=ks.length/\h.DictOf (intKind P.prog P.w) a (ks.zip vs)/\aU P h hid l vs
 |_,_=>False
noncomputable def qO(P:Pk)(L:Addr)(h:Heap)(out hid:List Addr)(b:Bool)(ov:Option Value):Option V->Prop
 |none=>True
 |some x=>∃v,ov=some v/\(if b then fc P L h out hid x v else Dn P h hid x v)
noncomputable def At(env:Env)(m:Str->Option Value)(h:Heap)(out hid:List Addr)(x:Str):NameKind->Option Value->Prop
 | .local,ov=>m x=ov
 | .cell,ov| .free,ov=>∃c,env.cells.lookup x=some c/\c∈hid/\c∉out/\h.IsCell c ov
 |_,_=>False
structure aB(P:Pk)(K:Cx)(env:Env)(out hid:List Addr)(m:Str->Option Value)(B s:Shared)(ρ:Nat->Option V):Prop where
 fn:env.scope.kind= .function
 gl:env.globals=mainGlobals
 bl:env.builtins=builtinsNs
 kind:∀(i:Nat) x k b,K.vars[i]?=some (x,k,b)->env.kindOf x=some k
 pj:∀x∈K.aM,env.kindOf x=some .globalImplicit
 nodup:∀(i j:Nat) x k b k' b',K.vars[i]?=some (x,k,b)->K.vars[j]?=some (x,k',b')->i=j
 i8:∀x y c,env.cells.lookup x=some c->env.cells.lookup y=some c->x=y
 live:cx s.heap hid
 oh:∀a∈out,a∈hid
 Lh:env.locals∈hid
 Lo:env.locals∉out
 ns:s.heap.Ns env.locals m
 slot:∀(i:Nat) x k b,K.vars[i]?=some (x,k,b)->∃ov,At env m s.heap out hid x k ov/\qO P env.locals s.heap out hid b ov (ρ i)
 apart:∀(i j:Nat) x y k k' a,i≠j->K.vars[i]?=some (x,k,true)->K.vars[j]?=some (y,k',true)->At env m s.heap out hid x k (some (.ref a))->At env m s.heap out hid y k' (some (.ref a))->ρ i=none\/ρ j=none
 gb:P.G B.heap
 kp:Kp B s
 own:∀a∈hid,a∉out->B.heap.get? a=none
theorem IsCell.fun{h:Heap}{c:Addr}{u v:Option Value}(x:h.IsCell c u)(y:h.IsCell c v):u=v:=by
 obtain⟨o,ho,hd⟩:=x;obtain⟨o',MU,iY⟩:=y;rw[ho]at MU;cases MU;rw[hd]at iY;cases iY;rfl
theorem At.fun2{env m h out hid out' ao x k u v}(a:At env m h out hid x k u)(b:At env m h out' ao x k v):u=v:=by
 cases k
 case «local» =>exact mx (Eq.symm a) b
 case cell=>obtain⟨c,h1,_,_,h2⟩:=a;obtain⟨c',IR,_,_,M3⟩:=b;rw[h1]at IR;cases IR;exact IsCell.fun h2 M3
 case free=>obtain⟨c,h1,_,_,h2⟩:=a;obtain⟨c',IR,_,_,M3⟩:=b;rw[h1]at IR;cases IR;exact IsCell.fun h2 M3
 all_goals exact a.elim
theorem At.fun{env m h out hid x k u v}(a:At env m h out hid x k u)(b:At env m h out hid x k v):u=v:=a.fun2 b
theorem At.map{env m m'}{h h':Heap}{out hid out' ao:List Addr}{x k u}(a:At env m h out hid x k u)(hm:m x=u->m' x=u)
  (f:∀c,env.cells.lookup x=some c->c∈hid->c∉out->h.IsCell c u->c∈ao/\c∉out'/\h'.IsCell c u):At env m' h' out' ao x k u:=by
 cases k
 case «local» =>exact hm a
 case cell=>obtain⟨c,h1,h2,h3,h4⟩:=a;exact⟨c,h1,f c h1 h2 h3 h4⟩
 case free=>obtain⟨c,h1,h2,h3,h4⟩:=a;exact⟨c,h1,f c h1 h2 h3 h4⟩
 all_goals exact a.elim
theorem At.grow{env m}{h h':Heap}{out hid ao:List Addr}{x k u}(a:At env m h out hid x k u)(hk:∀c v,h.IsCell c v->h'.IsCell c v)(hh:∀a∈hid,a∈ao):At env m h' out ao x k u:=
 a.map id fun c ø h2 h3 h4=>⟨hh _ h2,h3,hk _ _ h4⟩
theorem At.back{env m}{h h':Heap}{out hid ao:List Addr}{x k u}(a:At env m h' out ao x k u){v}(b:At env m h out hid x k v)(hk:∀c v,h.IsCell c v->h'.IsCell c v):u=v:=
 a.fun2 (At.map (out':=out) (ao:=hid) b id fun c ø h2 h3 h4=>⟨h2,h3,hk _ _ h4⟩)
theorem IsCell.T4{h h':Heap}{c:Addr}{u:Option Value}(x:h.IsCell c u)(k:∀o,h.get? c=some o->h'.get? c=some o):h'.IsCell c u:=by
 obtain⟨o,ho,hd⟩:=x;exact⟨o,k o ho,hd⟩
theorem fc.map{P:Pk}{L L':Addr}{h h':Heap}{out hid out' ao:List Addr}{x:V}{v:Value}(e:fc P L h out hid x v)
  (f:∀a,v= .ref a->a∈hid->a∉out->a≠L->a∈ao/\a∉out'/\a≠L'/\∀o,h.get? a=some o->h'.get? a=some o) (g:∀{l vs},aU P h hid l vs->aU P h' ao l vs):fc P L' h' out' ao x v:=by
 cases x
 case list=>
  obtain⟨a,vs,rfl,h1,h2,h3,⟨k,h4⟩,h5⟩:=e;obtain⟨q1,q2,q3,q4⟩:=f a rfl h1 h2 h3;exact⟨a,vs,rfl,q1,q2,q3,⟨k,q4 _ h4⟩,g h5⟩
 case dict=>
  obtain⟨a,vs,rfl,h1,h2,h3,h4,h5,⟨o,es,ep,ho,hr⟩,h7⟩:=e;obtain⟨q1,q2,q3,q4⟩:=f a rfl h1 h2 h3;exact⟨a,vs,rfl,q1,q2,q3,h4,h5,⟨o,es,ep,q4 o ho,hr⟩,g h7⟩
 all_goals exact e.elim
theorem fc.grow{P:Pk}{L:Addr}{h h':Heap}{out hid ao:List Addr}{x:V}{v:Value}(e:fc P L h out hid x v)(hk:∀a o,h.get? a=some o->h'.get? a=some o)
  (hh:∀a∈hid,a∈ao) (hn:∀a∈ao,a∈hid\/h.get? a=none):fc P L h' out ao x v:=
 e.map (fun a ø h1 h2 h3=>⟨hh _ h1,h2,h3,hk a⟩) fun d=>d.grow (fun a o ø q=>hk a o q) hn
theorem qO.map{P:Pk}{L L':Addr}{h h':Heap}{out hid out' ao:List Addr}{b ov r}(e:qO P L h out hid b ov r)
  (f:b=true->∀a,ov=some (.ref a)->a∈hid->a∉out->a≠L->a∈ao/\a∉out'/\a≠L'/\∀o,h.get? a=some o->h'.get? a=some o) (d:∀{x v},Dn P h hid x v->Dn P h' ao x v) (g:∀{l vs},aU P h hid l vs->aU P h' ao l vs):qO P L' h' out' ao b ov r:=by
 cases r with
 |none=>trivial
 |some x=>
  obtain⟨v,rfl,e⟩:=e
  cases b with
  |false=>exact⟨v,rfl,d e⟩
  |true=>exact⟨v,rfl,fc.map (P:=P) e (fun a q=>f rfl a (congrArg some q)) g⟩
theorem qO.grow{P:Pk}{L:Addr}{h h':Heap}{out hid ao:List Addr}{b ov r}(e:qO P L h out hid b ov r)(hk:∀a o,h.get? a=some o->h'.get? a=some o)
  (hh:∀a∈hid,a∈ao) (hn:∀a∈ao,a∈hid\/h.get? a=none):qO P L h' out ao b ov r:=
 e.map (fun ø a ø h1 h2 h3=>⟨hh _ h1,h2,h3,hk a⟩) (fun d=>d.grow (fun a o ø q=>hk a o q) hn) fun d=>d.grow (fun a o ø q=>hk a o q) hn
theorem aB.map{P:Pk}{K:Cx}{env:Env}{out hid out' ao:List Addr}{m}{B s s':Shared}{ρ}(S:aB P K env out hid m B s ρ)
  (live:cx s'.heap ao) (oh:∀a∈out',a∈ao) (ns:s'.heap.Ns env.locals m) (kp:Kp B s') (own:∀a∈ao,a∉out'->B.heap.get? a=none)
  (move:∀a,a∈hid->a∉out->a∈ao/\a∉out'/\∀o,s.heap.get? a=some o->s'.heap.get? a=some o)
  (old:∀a o,a∉hid->s.heap.get? a=some o->s'.heap.get? a=some o) (new:∀a∈ao,a∈hid\/s.heap.get? a=none):aB P K env out' ao m B s' ρ:=by
 have Tx:∀{x k u},At env m s.heap out hid x k u->At env m s'.heap out' ao x k u:=fun h=>h.map id fun c ø h1 h2 h3=>⟨(move c h1 h2).1,(move c h1 h2).2.1,IsCell.T4 h3 (move c h1 h2).2.2⟩
 exact {fn:=S.fn,gl:=S.gl,bl:=S.bl,kind:=S.kind,pj:=S.pj,nodup:=S.nodup,i8:=S.i8,live:=live,oh:=oh,Lh:=(move _ S.Lh S.Lo).1,Lo:=(move _ S.Lh S.Lo).2.1,ns:=ns,gb:=S.gb,kp:=kp,own:=own
        slot:=fun i x k b hi=>(S.slot i x k b hi).elim fun ov q=>⟨ov,Tx q.1,q.2.map (fun ø a ø h1 h2 h3=>⟨(move a h1 h2).1,(move a h1 h2).2.1,h3,(move a h1 h2).2.2⟩) (fun e=>Dn.grow (P:=P) e old new) fun e=>aU.grow (P:=P) e old new⟩
        apart:=fun i j x y k k' a Ty hi hj h1 h2=>(S.slot i x k true hi).elim fun ov q1=>(S.slot j y k' true hj).elim fun Yx q2=>by
         have e1:=At.fun (Tx q1.1) h1
         have e2:=At.fun (Tx q2.1) h2
         subst e1;subst e2;exact S.apart i j x y k k' a Ty hi hj q1.1 q2.1}
theorem aB.grow{P:Pk}{K:Cx}{env:Env}{out hid ao:List Addr}{m}{B s s':Shared}{ρ}(r:aB P K env out hid m B s ρ)(k:Kp s s')
  (hh:∀a∈hid,a∈ao) (hn:∀a∈ao,a∈hid\/s.heap.get? a=none) (hl:cx s'.heap ao):aB P K env out ao m B s' ρ:=
 r.map hl (fun a h=>hh a (r.oh a h)) (r.ns.keeps k.keep) (r.kp.trans k) (fun a h ho=>(hn a h).elim (fun q=>r.own a q ho) fun q=>by
  cases e:B.heap.get? a with
  |none=>rfl
  |some o=>rw[r.kp.keep a o e]at q;cases q) (fun a h ho=>⟨hh a h,ho,k.keep a⟩) (fun a o ø h=>k.keep a o h) hn
theorem aB.after{P:Pk}{K:Cx}{env:Env}{out hid:List Addr}{m}{B s s':Shared}{ρ}(r:aB P K env out hid m B s ρ)(k:Kp s s'):aB P K env out hid m B s' ρ:=
 r.grow k (fun ø h=>h) (fun ø h=>.inl h) (r.live.kp k)
theorem aB.G{P:Pk}{K:Cx}{env:Env}{out hid:List Addr}{m}{B s:Shared}{ρ}(r:aB P K env out hid m B s ρ):P.G s.heap:=P.Gk r.gb r.kp.keep
noncomputable abbrev al:=Nat->Option V
noncomputable abbrev av(lo:Bool)(out hid:List Addr):List Addr:=if lo then out else hid
noncomputable def eM(P:Pk)(n:Nat)(K:Cx)(lo:Bool)(e:Expr)(f:al->Option V):Prop:=
 ∀(A:Around) (env:Env) (out hid:List Addr) (m:Str->Option Value) (B s:Shared) (ρ:al) (x:V) (E:Value->Shared->Prop),bW n A->aB P K env out hid m B s ρ->f ρ=some x->
  wpAny (model P.prog P.w) A (eval e env) (fun v s'=>Kp s s'/\Dn P s'.heap (av lo out hid) x v) E s
noncomputable def lz(P:Pk)(n:Nat)(K:Cx)(lo:Bool)(es:List Expr)(f:al->Option (List V)):Prop:=
 ∀(A:Around) (env:Env) (out hid:List Addr) (m:Str->Option Value) (B s:Shared) (ρ:al) (x:List V) (E:Value->Shared->Prop) (pos:Pos),bW n A->aB P K env out hid m B s ρ->f ρ=some x->
  wpAny (model P.prog P.w) A (spliced (backTo pos (starEach es env))) (fun v s'=>Kp s s'/\aU P s'.heap (av lo out hid) x v) E s
noncomputable def AS(P:Pk)(n:Nat)(K:Cx)(e:Expr)(f:al->Option Bool):Prop:=
 ∀(A:Around) (env:Env) (out hid:List Addr) (m:Str->Option Value) (B s:Shared) (ρ:al) (b:Bool) (E:Value->Shared->Prop),bW n A->aB P K env out hid m B s ρ->f ρ=some b->
  wpAny (model P.prog P.w) A (isTrue e env (eval e env)) (fun c s'=>Kp s s'/\c=b) E s
theorem aB.G5{P:Pk}{K:Cx}{env:Env}{out hid:List Addr}{m}{B s:Shared}{ρ}(r:aB P K env out hid m B s ρ)(lo:Bool):cx s.heap (av lo out hid):=by
 cases lo
 ·exact r.live
 ·exact fun a h=>r.live a (r.oh a h)
section
variable{P:Pk}{n:Nat}{K:Cx}{lo:Bool}
noncomputable def V.scalar:V->Bool
 | .none| .bool _| .int _| .str _=>true
 |_=>false
theorem V.I0(i:Int):(V.int i).scalar=true:=rfl
theorem Dn.scalar{h h':Heap}{hid ao:List Addr}{x:V}{v:Value}(e:Dn P h hid x v)(hx:x.scalar=true):Dn P h' ao x v:=by
 cases x<;>first|exact e|cases hx
theorem ae{e f}(h:eM P n K false e f):eM P n K true e f:=fun A env out hid m B s ρ x E r S hf=>
 au (h A env out hid m B s ρ x E r S hf) (fun v s' q=>⟨q.1,q.2.less S.oh⟩) fun ø ø q=>q
set_option tactic.hygienic true in
theorem qP{e f}(h:eM P n K true e f):eM P n K lo e (fun ρ=>(f ρ).bind fun x=>if x.scalar then some x else none):=fun A env out hid m B s ρ x E r S hf=>by
 refine ah hf fun y hy hx=>?_
 split at hx
 ·rename_i T6
  obtain rfl:=Option.some.inj hx;exact au (h A env out hid m B s ρ y E r S hy) (fun v s' q=>⟨q.1,q.2.scalar T6⟩) fun ø ø q=>q
 ·cases hx
theorem aa{i k pos}:eM P n K lo (.Constant (.int i) k pos) fun ø=>some (.int i):=fun A env out hid m B s ρ x E r S hf=>by
 cases hf;exact wpAny_Constant_int ⟨Kp.toks s _,_,rfl⟩
theorem aC{x:Str}{k pos}{l:List Nat}(hl:x=pyStr l):eM P n K lo (.Constant (.str x) k pos) fun ø=>some (.str l):=fun A env out hid m B s ρ y E r S hf=>by
 cases hf;subst hl;exact uP ⟨Kp.toks s _,_,rfl⟩
theorem df{b k pos}:eM P n K lo (.Constant (.bool b) k pos) fun ø=>some (.bool b):=fun A env out hid m B s ρ y E r S hf=>by
 cases hf;exact uQ ⟨Kp.refl s,rfl⟩
theorem lC{k pos}:eM P n K lo (.Constant .none k pos) fun ø=>some .none:=fun A env out hid m B s ρ y E r S hf=>by
 cases hf;exact wpAny_Constant_none ⟨Kp.refl s,rfl⟩
theorem aB.load{env:Env}{out hid:List Addr}{m}{B s:Shared}{ρ}(S:aB P K env out hid m B s ρ){i:Nat}{x:Str}{k:NameKind}{b:Bool}(hi:K.vars[i]?=some (x,k,b)){y:V}(hy:ρ i=some y)
  (hd:(x==("__debug__":Str))=false) (hc:(x==("__classdict__":Str))=false) {A:Around} {E:Value->Shared->Prop} {M:Model} {Q:Value->Shared->Prop}
  (h:∀v,(if b then fc P env.locals s.heap out hid y v else Dn P s.heap hid y v)->At env m s.heap out hid x k (some v)->Q v s):wpAny M A (loadName env x) Q E s:=by
 obtain⟨ov,h1,h2⟩:=S.slot i x k b hi;rw[hy]at h2;obtain⟨v,rfl,h2⟩:=h2;have hk:=S.kind i x k b hi;have h0:=h v h2 h1;cases k<;>simp only[At]at h1
 ·exact kG S.fn hk S.ns h1 h0
 all_goals first
  |exact h1.elim
  |(obtain⟨c,e1,_,_,e2⟩:=h1
    first
     |exact wpAny_loadName_cell S.fn hk e1 e2 h0
     |exact wpAny_loadName_free S.fn hk e1 e2 h0 hc)
theorem fc.loose{L h out hid}{x:V}{v:Value}(e:fc P L h out hid x v)(oh:∀a∈out,a∈hid):Dn P h out x v:=by
 cases x with
 |list l=>
  obtain⟨a,vs,rfl,h1,h2,h3,h4,h5⟩:=e;exact⟨a,vs,rfl,h2,h4,aU.less (P:=P) h5 oh⟩
 |dict ks l=>
  obtain⟨a,vs,rfl,h1,h2,h3,h4,h5,h6,h7⟩:=e;exact⟨a,vs,rfl,h2,h5,h4,h6,aU.less (P:=P) h7 oh⟩
 |_=>exact e.elim
theorem Z(i:Nat){x:Str}{k:NameKind}{pos:Pos}(hi:K.vars[i]?=some (x,k,false))(hd:(x==("__debug__":Str))=false)(hc:(x==("__classdict__":Str))=false):
  eM P n K false (.Name x pos) fun ρ=>ρ i:=fun A env out hid m B s ρ y E r S hf=>
 eV (S.load hi hf hd hc fun v hv ø=>⟨Kp.refl s,hv⟩) hd
theorem cG(i:Nat){x:Str}{k:NameKind}{pos:Pos}(hi:K.vars[i]?=some (x,k,true))(hd:(x==("__debug__":Str))=false)(hc:(x==("__classdict__":Str))=false):
  eM P n K true (.Name x pos) fun ρ=>ρ i:=fun A env out hid m B s ρ y E r S hf=>
 eV (S.load hi hf hd hc fun v hv ø=>⟨Kp.refl s,fc.loose hv S.oh⟩) hd
noncomputable def vj(P:Pk)(op:Operator)(F:V->V->Option V):Prop:=
 ∀(A:Around) (s:Shared) (hid:List Addr) (x y z:V) (u v:Value) (E:Value->Shared->Prop),bW 0 A->cx s.heap hid->Dn P s.heap hid x u->Dn P s.heap hid y v->F x y=some z->
  wpAny (model P.prog P.w) A (binaryOp op u v) (fun r s'=>Kp s s'/\Dn P s'.heap hid z r) E s
noncomputable def mD(P:Pk)(op:CmpOp)(F:V->V->Option Bool):Prop:=
 ∀(A:Around) (s:Shared) (hid:List Addr) (x y:V) (b:Bool) (u v:Value) (E:Value->Shared->Prop),bW 0 A->P.G s.heap->cx s.heap hid->Dn P s.heap hid x u->Dn P s.heap hid y v->F x y=some b->
  wpAny (model P.prog P.w) A (compareOp op u v) (fun r s'=>Kp s s'/\r= .bool b) E s
noncomputable def dA(F:V->V->Option V)(f g:al->Option V):al->Option V:=fun ρ=>(f ρ).bind fun x=>(g ρ).bind fun y=>F x y
noncomputable def qQ(F:V->V->Option Bool)(f g:al->Option V):al->Option Bool:=fun ρ=>(f ρ).bind fun x=>(g ρ).bind fun y=>F x y
theorem ai{l r:Expr}{op:Operator}{pos:Pos}{F f g}(ho:vj P op F)(hl:eM P n K lo l f)(hr:eM P n K lo r g):eM P n K lo (.BinOp l op r pos) (dA F f g):=fun A env out hid m B s ρ z E rm S hf=>by
 refine ah hf fun x hx gg=>?_
 clear hf;rename _=>hf
 refine ah hf fun y hy gg=>?_
 clear hf;rename _=>hf
 refine wpAny_BinOp (au (hl A env out hid m B s ρ x E rm S hx) (fun u s₁ ag=>?_) fun ø ø q=>q);refine au (hr A env out hid m B s₁ ρ y E rm (S.after ag.1) hy) (fun v s₂ aH=>?_) fun ø ø q=>q
 exact au (ho A s₂ (av lo out hid) x y z u v E (rm.less (dU _)) (((S.after ag.1).after aH.1).G5 lo) (ag.2.kp aH.1) aH.2 hf) (fun w cB eh=>⟨ag.1.trans (aH.1.trans eh.1),eh.2⟩) fun ø ø q=>q
theorem kN{l r:Expr}{op:CmpOp}{pos:Pos}{F f g}(ho:mD P op F)(hl:eM P n K true l f)(hr:eM P n K true r g)(hm:behindInMarks op r=false):
  eM P n K lo (.Compare l [op] [r] pos) (fun ρ=>(qQ F f g ρ).map .bool):=fun A env out hid m B s ρ z E rm S hf=>by
 refine bV hf ?_;clear hf;rintro b Yy rfl;replace hf:=Yy;refine ah hf fun x hx gg=>?_
 clear hf;rename _=>hf
 refine ah hf fun y hy gg=>?_
 clear hf;rename _=>hf
 refine wpAny_Compare1 (au (hl A env out hid m B s ρ x E rm S hx) (fun u s₁ ag=>?_) fun ø ø q=>q) hm;refine au (hr A env out hid m B s₁ ρ y E rm (S.after ag.1) hy) (fun v s₂ aH=>?_) fun ø ø q=>q
 exact au (ho A s₂ out x y b u v E (rm.less (dU _)) ((S.after ag.1).after aH.1).G (((S.after ag.1).after aH.1).G5 true) (ag.2.kp aH.1) aH.2 hf) (fun w cB eh=>⟨ag.1.trans (aH.1.trans eh.1),eh.2⟩) fun ø ø q=>q
theorem aR{l r:Expr}{op:CmpOp}{pos:Pos}{F f g}(ho:mD P op F)(hl:eM P n K true l f)(hr:eM P n K true r g)(hm:behindInMarks op r=false):
  AS P n K (.Compare l [op] [r] pos) (qQ F f g):=fun A env out hid m B s ρ b E rm S hf=>by
 refine ah hf fun x hx gg=>?_
 clear hf;rename _=>hf
 refine ah hf fun y hy gg=>?_
 clear hf;rename _=>hf
 refine uR (au (hl A env out hid m B s ρ x E rm S hx) (fun u s₁ ag=>?_) fun ø ø q=>q) hm;refine au (hr A env out hid m B s₁ ρ y E rm (S.after ag.1) hy) (fun v s₂ aH=>?_) fun ø ø q=>q
 refine au (ho A s₂ out x y b u v E (rm.less (dU _)) ((S.after ag.1).after aH.1).G (((S.after ag.1).after aH.1).G5 true) (ag.2.kp aH.1) aH.2 hf) (fun w cB eh=>?_) fun ø ø q=>q
 rw[eh.2];exact o8 ⟨ag.1.trans (aH.1.trans eh.1),rfl⟩
noncomputable def lE:V->Option Bool
 | .bool b=>some b
 |_=>none
theorem fP{e:Expr}{f}(h:eM P n K true e f)(he:∀env whole,isTrue e env whole=(do let v <-whole;standAt e.pos;holding [v] (truthy v))):AS P n K e (fun ρ=>(f ρ).bind lE):=fun A env out hid m B s ρ b E rm S hf=>by
 refine ah hf fun x hx gg=>?_
 clear hf;rename _=>hf
 refine uS (au (h A env out hid m B s ρ x E rm S hx) (fun v s₁ ag=>?_) fun ø ø q=>q) (he _ _);cases x<;>simp only[lE]at hf<;>try cases hf
 obtain rfl:v= .bool _:=ag.2;exact o8 ⟨ag.1,rfl⟩
theorem xV{e:Expr}{pos:Pos}{f}(h:AS P n K e f):AS P n K (.UnaryOp .Not e pos) (fun ρ=>(f ρ).map (!·)):=fun A env out hid m B s ρ b E rm S hf=>by
 refine bV hf ?_;clear hf;rintro c Yy rfl;replace hf:=Yy;exact wpAny_isTrue_Not (au (h A env out hid m B s ρ c E rm S hf) (fun c' s₁ ag=>⟨ag.1,by rw[ag.2]⟩) fun ø ø q=>q)
noncomputable def M4(f g:al->Option Bool):al->Option Bool:=fun ρ=>(f ρ).bind fun a=>if a then g ρ else some false
noncomputable def Yz(f g:al->Option Bool):al->Option Bool:=fun ρ=>(f ρ).bind fun a=>if a then some true else g ρ
theorem r6{a b:Expr}{pos:Pos}{f g}(ha:AS P n K a f)(hb:AS P n K b g):AS P n K (.BoolOp .And [a,b] pos) (M4 f g):=fun A env out hid m B s ρ c E rm S hf=>by
 refine ah hf fun x hx gg=>?_
 clear hf;rename _=>hf
 refine wpAny_isTrue_BoolOp (wpAny_allTrue_And_cons (au (ha A env out hid m B s ρ x E rm S hx) (fun x' s₁ ag=>?_) fun ø ø q=>q));rw[ag.2];cases x
 ·simp only[gz,eW]at hf ⊢
  exact⟨ag.1,(Option.some.inj hf)⟩
 ·simp only[eI]at hf ⊢
  refine wpAny_allTrue_And_cons (au (hb A env out hid m B s₁ ρ c E rm (S.after ag.1) hf) (fun y' s₂ aH=>?_) fun ø ø q=>q);rw[aH.2];cases c
  ·exact⟨ag.1.trans aH.1,rfl⟩
  ·exact wpAny_allTrue_And_nil ⟨ag.1.trans aH.1,rfl⟩
theorem AS.or{a b:Expr}{pos:Pos}{f g}(ha:AS P n K a f)(hb:AS P n K b g):AS P n K (.BoolOp .Or [a,b] pos) (Yz f g):=fun A env out hid m B s ρ c E rm S hf=>by
 refine ah hf fun x hx gg=>?_
 clear hf;rename _=>hf
 refine wpAny_isTrue_BoolOp (wpAny_allTrue_Or_cons (au (ha A env out hid m B s ρ x E rm S hx) (fun x' s₁ ag=>?_) fun ø ø q=>q));rw[ag.2];cases x
 ·simp only[gz,eW]at hf ⊢
  refine wpAny_allTrue_Or_cons (au (hb A env out hid m B s₁ ρ c E rm (S.after ag.1) hf) (fun y' s₂ aH=>?_) fun ø ø q=>q);rw[aH.2];cases c
  ·exact wpAny_allTrue_Or_nil ⟨ag.1.trans aH.1,rfl⟩
  ·exact⟨ag.1.trans aH.1,rfl⟩
 ·simp only[eI]at hf ⊢
  exact⟨ag.1,(Option.some.inj hf)⟩
noncomputable def G6(t:al->Option Bool)(f g:al->Option V):al->Option V:=fun ρ=>(t ρ).bind fun b=>if b then f ρ else g ρ
theorem r7{t a b:Expr}{pos:Pos}{c f g}(ht:AS P n K t c)(ha:eM P n K lo a f)(hb:eM P n K lo b g):eM P n K lo (.IfExp t a b pos) (G6 c f g):=fun A env out hid m B s ρ z E rm S hf=>by
 refine ah hf fun x hx gg=>?_
 clear hf;rename _=>hf
 refine wpAny_IfExp (au (ht A env out hid m B s ρ x E rm S hx) (fun x' s₁ ag=>?_) fun ø ø q=>q);rw[ag.2];cases x
 ·simp only[gz,eW]at hf ⊢
  exact au (hb A env out hid m B s₁ ρ z E rm (S.after ag.1) hf) (fun v s₂ aH=>⟨ag.1.trans aH.1,aH.2⟩) fun ø ø q=>q
 ·simp only[eI]at hf ⊢
  exact au (ha A env out hid m B s₁ ρ z E rm (S.after ag.1) hf) (fun v s₂ aH=>⟨ag.1.trans aH.1,aH.2⟩) fun ø ø q=>q
theorem ab:lz P n K lo [] fun ø=>some []:=fun A env out hid m B s ρ x E pos rm S hf=>by
 cases hf;exact jR ⟨Kp.refl s,aV.nil⟩
noncomputable def aQ(f:al->Option V)(g:al->Option (List V)):al->Option (List V):=fun ρ=>(f ρ).bind fun x=>(g ρ).bind fun y=>some (x::y)
theorem O{e:Expr}{es:List Expr}{f g}(h:eM P n K lo e f)(hs:lz P n K lo es g)(he:∀env,starEach (e::es) env=(false,eval e env)::starEach es env):lz P n K lo (e::es) (aQ f g):=
 fun A env out hid m B s ρ x E pos rm S hf=>by
 refine ah hf fun y hy gg=>?_
 clear hf;rename _=>hf
 refine ah hf fun ys Qt gg=>?_
 clear hf;rename _=>hf
 cases hf;refine jS (au (h A env out hid m B s ρ y E rm S hy) (fun v s₁ ag=>?_) fun ø ø q=>q) (he env);exact au (hs A env out hid m B s₁ ρ ys E pos rm (S.after ag.1) Qt) (fun vs s₂ aH=>⟨ag.1.trans aH.1,.cons (ag.2.kp aH.1) aH.2⟩) fun ø ø q=>q
theorem ux{hid:List Addr}{s:Shared}(h:cx s.heap hid):s.heap.objs.size∉hid:=h.not (aP _)
theorem ct{es:List Expr}{k:Nat}{pos:Pos}{f}(hs:lz P n K lo es f)(hl:es.length<=100)(hlen:∀ρ x,f ρ=some x->x.length=es.length):eM P n K lo (.Tuple es k pos) (fun ρ=>(f ρ).map .tup):=fun A env out hid m B s ρ x E rm S hf=>by
 refine bV hf ?_;clear hf;rintro y hy rfl;refine wpAny_Tuple (au (hs A env out hid m B s ρ y E pos rm S hy) (fun vs s₁ ag=>⟨?_,ag.1.trans (Kp.push s₁ _ _),?_⟩) fun ø ø q=>q)
 ·rw[ag.2.length,hlen _ _ hy,gQ];omega
 ·exact⟨_,vs,rfl,ux ((S.after ag.1).G5 lo),⟨0,bD _ rfl⟩,aU.kp (P:=P) ag.2 (Kp.push s₁ _ s₁.toks)⟩
theorem eR{es:List Expr}{pos:Pos}{f}(hs:lz P n K lo es f)(hl:es.length<=100)(hlen:∀ρ x,f ρ=some x->x.length=es.length):eM P n K lo (.List es pos) (fun ρ=>(f ρ).map .list):=fun A env out hid m B s ρ x E rm S hf=>by
 refine bV hf ?_;clear hf;rintro y hy rfl;refine wpAny_List (au (hs A env out hid m B s ρ y E pos rm S hy) (fun vs s₁ ag=>⟨?_,ag.1.trans (Kp.push s₁ _ _),?_⟩) fun ø ø q=>q)
 ·rw[ag.2.length,hlen _ _ hy,gQ];omega
 ·exact⟨_,vs,rfl,ux ((S.after ag.1).G5 lo),⟨0,bD _ rfl⟩,aU.kp (P:=P) ag.2 (Kp.push s₁ _ s₁.toks)⟩
theorem af{f g k}(hg:∀ρ x,g ρ=some x->x.length=k):∀ρ x,aQ f g ρ=some x->x.length=k+1:=fun ρ x hf=>by
 refine ah hf fun y hy gg=>?_
 clear hf;rename _=>hf
 refine ah hf fun ys Qt gg=>?_
 clear hf;rename _=>hf
 cases hf;simp[hg _ _ Qt]
noncomputable def aZ(P:Pk)(n:Nat)(fv:Value)(F:List V->Option V):Prop:=
 ∀(A:Around) (s:Shared) (hid:List Addr) (xs:List V) (x:V) (vs:List Value) (E:Value->Shared->Prop),bW n A->P.G s.heap->cx s.heap hid->aU P s.heap hid xs vs->F xs=some x->
  wpAny (model P.prog P.w) A (call fv vs) (fun v s'=>Kp s s'/\Dn P s'.heap hid x v) E s
theorem bH{env:Env}{out hid:List Addr}{m}{B s:Shared}{ρ}(S:aB P K env out hid m B s ρ){x:Str}{pos:Pos}{v:Value}(hx:K.aM.contains x=true)(hv:P.glob x=some v)
  (hd:(x==("__debug__":Str))=false) {A:Around} {E:Value->Shared->Prop} {M:Model} {Q:Value->Shared->Prop} (h:Q v s):wpAny M A (eval (.Name x pos) env) Q E s:=by
 obtain⟨mg,mb,h1,h2,h3⟩:=P.aM S.G;refine Name_function_global S.fn (S.pj x (List.contains_iff_mem.mp hx)) ?_ hd;rcases h3 x v hv with q|⟨q,q'⟩
 ·exact loadGlobal_global (S.gl▸h1) q h
 ·exact loadGlobal_builtin (S.gl▸h1) q (S.bl▸h2) q' h
noncomputable def eD(F:List V->Option V)(f:al->Option (List V)):al->Option V:=fun ρ=>(f ρ).bind F
theorem dg{es:List Expr}{pos:Pos}{env:Env}(h:∀env,starEach es env=es.map fun e=>(false,eval e env)):(backTo pos (starEach es env)).any (·.1)=false:=by
 rw[h];unfold backTo;simp
theorem aI{id:Str}{p pos:Pos}{es:List Expr}{b:String}{F f}(hx:K.aM.contains id=true)(hv:P.glob id=some (.builtin b))(hd:(id==("__debug__":Str))=false)
  (hc:aZ P n (.builtin b) F) (hs:lz P n K lo es f) (eF:∀env,starEach es env=es.map fun e=>(false,eval e env)) (bN:es≠[]):eM P n K lo (.Call (.Name id p) es [] pos) (eD F f):=
 fun A env out hid m B s ρ x E rm S hf=>by
 refine ah hf fun y hy gg=>?_
 clear hf;rename _=>hf
 refine kH (bH S hx hv hd ?_);refine rJ (dg eF) ?_;obtain⟨iE,es',rfl⟩:=uT bN;have key:=hs A env out hid m B s ρ y E pos rm S hy;have hb:backTo pos (starEach (iE::es') env)=(false,eval iE env)::(backTo pos (starEach (iE::es') env)).tail:=by rw[eF];rfl
 rw[hb]at key ⊢;refine uU (au key (fun vs s₁ ag=>?_) fun ø ø q=>q);exact au (hc A s₁ (av lo out hid) y x vs E rm (S.after ag.1).G ((S.after ag.1).G5 lo) ag.2 hf) (fun v s₂ aH=>⟨ag.1.trans aH.1,aH.2⟩) fun ø ø q=>q
theorem AT{id:Str}{p pos:Pos}{es:List Expr}{b:String}{F f}(hx:K.aM.contains id=true)(hv:P.glob id=some (.type b))(hd:(id==("__debug__":Str))=false)
  (hc:aZ P n (.type b) F) (hs:lz P n K lo es f) (eF:∀env,starEach es env=es.map fun e=>(false,eval e env)) (bN:es≠[]):eM P n K lo (.Call (.Name id p) es [] pos) (eD F f):=
 fun A env out hid m B s ρ x E rm S hf=>by
 refine ah hf fun y hy gg=>?_
 clear hf;rename _=>hf
 refine kH (bH S hx hv hd ?_);refine yF (dg eF) ?_;obtain⟨iE,es',rfl⟩:=uT bN;have key:=hs A env out hid m B s ρ y E pos rm S hy;have hb:backTo pos (starEach (iE::es') env)=(false,eval iE env)::(backTo pos (starEach (iE::es') env)).tail:=by rw[eF];rfl
 rw[hb]at key ⊢;refine uU (au key (fun vs s₁ ag=>?_) fun ø ø q=>q);exact au (hc A s₁ (av lo out hid) y x vs E rm (S.after ag.1).G ((S.after ag.1).G5 lo) ag.2 hf) (fun v s₂ aH=>⟨ag.1.trans aH.1,aH.2⟩) fun ø ø q=>q
theorem bq{id:Str}{p pos:Pos}{es:List Expr}{a:Addr}{F f}(hx:K.aM.contains id=true)(hv:P.glob id=some (.ref a))(hd:(id==("__debug__":Str))=false)
  (De:∀h,P.G h->∃o fd,h.get? a=some o/\o.data= .func fd)
  (hc:aZ P n (.ref a) F) (hs:lz P n K lo es f) (eF:∀env,starEach es env=es.map fun e=>(false,eval e env)) (bN:es≠[]):eM P n K lo (.Call (.Name id p) es [] pos) (eD F f):=
 fun A env out hid m B s ρ x E rm S hf=>by
 refine ah hf fun y hy gg=>?_
 clear hf;rename _=>hf
 obtain⟨o,fd,ho,Qu⟩:=De _ S.G;refine kH (bH S hx hv hd ?_);refine callWith_function (o:=o) (fd:=fd) ?_;obtain⟨iE,es',rfl⟩:=uT bN;have key:=hs A env out hid m B s ρ y E pos rm S hy;have hb:backTo pos (starEach (iE::es') env)=(false,eval iE env)::(backTo pos (starEach (iE::es') env)).tail:=by rw[eF];rfl
 rw[hb]at key ⊢;refine uU (au key (fun vs s₁ ag=>⟨⟨ag.1.keep _ _ ho,Qu⟩,?_⟩) fun ø ø q=>q);exact au (hc A s₁ (av lo out hid) y x vs E rm (S.after ag.1).G ((S.after ag.1).G5 lo) ag.2 hf) (fun v s₂ aH=>⟨ag.1.trans aH.1,aH.2⟩) fun ø ø q=>q
end
section
variable{P:Pk}{n:Nat}{K:Cx}{lo:Bool}
noncomputable def most:Nat:=1000000
theorem cZ:most<=sizeLine:=by rw[gQ];decide
noncomputable def V.int?:V->Option Int
 | .int a=>some a
 |_=>Option.none
noncomputable def V.jL:V->Option (List Nat)
 | .str a=>some a
 |_=>Option.none
noncomputable def V.gE:V->Option (List V)
 | .list a=>some a
 |_=>Option.none
theorem V.kO{x:V}{a}(h:x.int?=some a):x= .int a:=by
 cases x<;>first|exact congrArg _ (Option.some.inj h)|cases h
theorem V.kP{x:V}{a}(h:x.jL=some a):x= .str a:=by
 cases x<;>first|exact congrArg _ (Option.some.inj h)|cases h
theorem V.fQ{x:V}{a}(h:x.gE=some a):x= .list a:=by
 cases x<;>first|exact congrArg _ (Option.some.inj h)|cases h
noncomputable def V.Qv:V->Option (List V)
 | .tup a=>some a
 |_=>Option.none
theorem V.AU{x:V}{a}(h:x.Qv=some a):x= .tup a:=by
 cases x<;>first|exact congrArg _ (Option.some.inj h)|cases h
noncomputable def V.Qw:V->Option (List V)
 | .obj a=>some a
 |_=>Option.none
theorem V.AV{x:V}{a}(h:x.Qw=some a):x= .obj a:=by
 cases x<;>first|exact congrArg _ (Option.some.inj h)|cases h
noncomputable def r8{α β γ:Type}(p:V->Option α)(q:V->Option β)(F:α->β->Option γ)(x y:V):Option γ:=(p x).bind fun a=>(q y).bind (F a)
theorem bI{α β γ:Type}{p:V->Option α}{q:V->Option β}{F:α->β->Option γ}{x y:V}{z:γ}{G:Prop}(h:r8 p q F x y=some z)(k:∀a b,p x=some a->q y=some b->F a b=some z->G):G:=by
 refine ah h fun a ha gg=>?_
 clear h;rename _=>h
 refine ah h fun b hb gg=>?_
 clear h;rename _=>h
 exact k a b ha hb h
theorem lF{γ:Type}{o o':Option γ}{z:γ}{G:Prop}(h:o.or o'=some z)(k:o=some z->G)(k':o'=some z->G):G:=by
 cases o with
 |none=>exact k' h
 |some a=>exact k h
@[elab_as_elim] theorem ite_inv {γ:Type} {c:Prop} [Decidable c] {a z:γ} {G:γ->Prop} (h:(if c then some a else none)=some z) (k:c->G a):G z:=by
 by_cases q:c
 ·rw[aw q]at h;cases h;exact k q
 ·rw[az q]at h;cases h
theorem eN{γ:Type}{c:Prop}[Decidable c]{a z:γ}{G:Prop}(h:(if c then some a else none)=some z)(k:c->a=z->G):G:=by
 by_cases q:c
 ·rw[aw q]at h;exact k q (Option.some.inj h)
 ·rw[az q]at h;cases h
@[elab_as_elim] theorem some_inv {γ:Type} {a z:γ} {G:γ->Prop} (h:some a=some z) (k:G a):G z:=Option.some.inj h▸k
noncomputable def nH(x y:V):Option V:=(r8 V.int? V.int? (fun a b=>some (.int (a+b))) x y).or
 ((r8 V.jL V.jL (fun a b=>if a.length+b.length<=most then some (.str (a++b))else none) x y).or
 (r8 V.gE V.gE (fun a b=>if a.length+b.length<=most then some (.list (a++b))else none) x y))
noncomputable def zc:V->V->Option V:=r8 V.int? V.int? fun a b=>some (.int (a-b))
noncomputable def xv(x y:V):Option V:=(r8 V.int? V.int? (fun a b=>if-(2^64)<b/\b<2^64 then some (.int (a*b))else none) x y).or
 ((r8 V.jL V.int? (fun a b=>if 0<=b/\a.length=1/\b<=1000000 then some (.str (List.replicate b.toNat a).flatten)else none) x y).or
 (r8 V.gE V.int? (fun a b=>if 0<=b/\a.length=1/\b<=1000000 then some (.list (List.replicate b.toNat a).flatten)else none) x y))
noncomputable def p0:V->V->Option V:=r8 V.int? V.int? fun a b=>if 0<b/\b<1073741824 then some (.int (a.fmod b))else none
noncomputable def M5:V->V->Option V:=r8 V.int? V.int? fun a b=>if 0<b/\b<1073741824 then some (.int (a.fdiv b))else none
noncomputable def Qx:V->V->Option V:=r8 V.int? V.int? fun a b=>if a=10/\0<=b/\b<=20 then some (.int (10^b.toNat))else none
theorem M6(a:List Nat)(b:Int)(h:0<=b/\a.length=1/\b<=1000000):xv (.str a) (.int b)=some (.str (List.replicate b.toNat a).flatten):=by
 show Option.or (if _ then _ else _) _=_;rw[aw h];rfl
theorem M7(a:List V)(b:Int)(h:0<=b/\a.length=1/\b<=1000000):xv (.list a) (.int b)=some (.list (List.replicate b.toNat a).flatten):=by
 show(if _ then _ else _)=_;rw[aw h]
theorem M8(a b:Int):zc (.int a) (.int b)=some (.int (a-b)):=rfl
theorem Dn.int_inv{h:Heap}{hid i v}(e:Dn P h hid (.int i) v):∃t,v= .int i t:=e
theorem Dn.str_inv{h:Heap}{hid i v}(e:Dn P h hid (.str i) v):∃t,v= .str (pyStr i) t:=e
theorem Dn.bool_inv{h:Heap}{hid i v}(e:Dn P h hid (.bool i) v):v= .bool i:=e
theorem Dn.none_inv{h:Heap}{hid v}(e:Dn P h hid .none v):v= .none:=e
theorem Dn.em{h:Heap}{hid l v}(e:Dn P h hid (.list l) v):∃a vs,v= .ref a/\a∉hid/\h.PlainList a vs.toArray/\aU P h hid l vs:=e
theorem Dn.oA{h:Heap}{hid l v}(e:Dn P h hid (.tup l) v):∃a vs,v= .ref a/\a∉hid/\za h a vs.toArray/\aU P h hid l vs:=e
theorem Dn.fe{h:Heap}{hid ks l v}(e:Dn P h hid (.dict ks l) v):∃a vs,v= .ref a/\a∉hid/\vs.length=ks.length/\(a==sysModules)=false/\h.DictOf (intKind P.prog P.w) a (ks.zip vs)/\aU P h hid l vs:=e
theorem Dn.ofInt{h:Heap}{hid}(i:Int)(t:Tok):Dn P h hid (.int i) (.int i t):=⟨t,rfl⟩
theorem Dn.ofStr{h:Heap}{hid}(i:List Nat)(t:Tok):Dn P h hid (.str i) (.str (pyStr i) t):=⟨t,rfl⟩
theorem Dn.ofBool{h:Heap}{hid}(b:Bool):Dn P h hid (.bool b) (.bool b):=rfl
theorem Dn.r9{h:Heap}{hid}:Dn P h hid .none .none:=rfl
theorem Dn.ofList{h:Heap}{hid l a vs}(h1:a∉hid)(h2:h.PlainList a vs.toArray)(h3:aU P h hid l vs):Dn P h hid (.list l) (.ref a):=⟨a,vs,rfl,h1,h2,h3⟩
theorem Dn.Pl{h:Heap}{hid l a vs}(h1:a∉hid)(h2:za h a vs.toArray)(h3:aU P h hid l vs):Dn P h hid (.tup l) (.ref a):=⟨a,vs,rfl,h1,h2,h3⟩
@[elab_as_elim] theorem Dn.int_k {h:Heap} {hid x a v} {C:Value->Prop} (e:Dn P h hid x v) (q:x.int?=some a) (k:∀t,C (.int a t)):C v:=by
 cases V.kO q;obtain⟨t,rfl⟩:=e.int_inv;exact k t
@[elab_as_elim] theorem Dn.str_k {h:Heap} {hid x a v} {C:Value->Prop} (e:Dn P h hid x v) (q:x.jL=some a) (k:∀t,C (.str (pyStr a) t)):C v:=by
 cases V.kP q;obtain⟨t,rfl⟩:=e.str_inv;exact k t
@[elab_as_elim] theorem Dn.i9 {h:Heap} {hid x l v} {C:Value->Prop} (e:Dn P h hid x v) (q:x.gE=some l) (k:∀a vs n,a∉hid->h.get? a=some {cls:=.type "list",data:=.seq vs.toArray n}->h.PlainList a vs.toArray->aU P h hid l vs->C (.ref a)):C v:=by
 cases V.fQ q;obtain⟨a,vs,rfl,h1,⟨n,h2⟩,h3⟩:=e.em;exact k a vs n h1 h2 ⟨n,h2⟩ h3
theorem Dn.newList{s:Shared}{hid l vs}(hh:cx s.heap hid)(h3:aU P s.heap hid l vs):
  Dn P (s.heap.push {cls:=.type "list",data:=.seq vs.toArray}) hid (.list l) (.ref s.heap.objs.size):=
 .ofList (ux hh) ⟨0,bD _ rfl⟩ (aU.kp (P:=P) h3 (Kp.push s _ s.toks))
@[elab_as_elim] theorem aU.one_k {h:Heap} {hid x vs} {C:List Value->Prop} (e:aU P h hid [x] vs) (k:∀v,Dn P h hid x v->C [v]):C vs:=by
 obtain⟨v,r,rfl,h1,rfl⟩:=e;exact k v h1
@[elab_as_elim] theorem aU.two_k {h:Heap} {hid x y vs} {C:List Value->Prop} (e:aU P h hid [x,y] vs) (k:∀v w,Dn P h hid x v->Dn P h hid y w->C [v,w]):C vs:=by
 obtain⟨v,r,rfl,h1,w,r',rfl,h2,rfl⟩:=e;exact k v w h1 h2
@[elab_as_elim] theorem aU.three_k {h:Heap} {hid x y z vs} {C:List Value->Prop} (e:aU P h hid [x,y,z] vs) (k:∀v w u,Dn P h hid x v->Dn P h hid y w->Dn P h hid z u->C [v,w,u]):C vs:=by
 obtain⟨v,r,rfl,h1,w,r',rfl,h2,u,r'',rfl,h3,rfl⟩:=e;exact k v w u h1 h2 h3
theorem oB(a b:List Nat):pyStr a++pyStr b=pyStr (a++b):=by
 show Str.append _ _=_;simp[Str.append,pyStr]
theorem eu(a:List Nat):(pyStr a).length=a.length:=by simp[Str.length,pyStr]
theorem cy:vj P .Add nH:=fun A s hid x y z u v E rm hh hx hy hf=>lF hf
 (fun hf=>bI hf fun a b ha hb hz=>some_inv hz <| hx.int_k ha fun t=>hy.int_k hb fun t'=>PyProof.Rows.add_int ⟨Kp.toks s _,.ofInt _ _⟩) fun hf=>lF hf
 (fun hf=>bI hf fun a b ha hb hz=>ite_inv hz fun hc=>hx.str_k ha fun t=>hy.str_k hb fun t'=>
  PyProof.Rows.add_str (fun t' tk=>⟨Kp.toks s _,by rw[oB];exact .ofStr _ _⟩) (by rw[eu,eu];exact aA hc cZ))
 (fun hf=>bI hf fun l l' ha hb hz=>ite_inv hz fun hc=>hx.i9 ha fun a vs n₁ h1 h2 ø h3=>hy.i9 hb fun a' gS Qy IR M3 ø WX=>
  PySem.P.add_list (n:=n₁) (n2:=Qy) h2 M3 ⟨Kp.push s _ s.toks,by rw[Dj];exact Dn.newList hh (h3.app WX)⟩ (by rw[bM,bM,h3.length,WX.length];exact aA hc cZ))
theorem tA:vj P .Sub zc:=fun A s hid x y z u v E rm hh hx hy hf=>bI hf fun a b ha hb hz=>some_inv hz <|
 hx.int_k ha fun t=>hy.int_k hb fun t'=>PyProof.Rows.sub_int ⟨Kp.toks s _,.ofInt _ _⟩
theorem f6:vj P .Mod p0:=fun A s hid x y z u v E rm hh hx hy hf=>bI hf fun a b ha hb hz=>ite_inv hz fun hc=>
 hx.int_k ha fun t=>hy.int_k hb fun t'=>PyProof.Rows.mod_int (Int.ne_of_gt hc.1) ⟨Kp.toks s _,.ofInt _ _⟩
theorem ja:vj P .FloorDiv M5:=fun A s hid x y z u v E rm hh hx hy hf=>bI hf fun a b ha hb hz=>ite_inv hz fun hc=>
 hx.int_k ha fun t=>hy.int_k hb fun t'=>PyProof.Rows.floordiv_int (Int.ne_of_gt hc.1) ⟨Kp.toks s _,.ofInt _ _⟩ (.inl (PyProof.noPylong_small (by have:=hc.1;have:=hc.2;clear hx hy hz hf;omega)))
theorem Pm:vj P .Pow Qx:=fun A s hid x y z u v E rm hh hx hy hf=>bI hf fun a b ha hb hz=>ite_inv hz fun hc=>
 hx.int_k ha fun t=>hy.int_k hb fun t'=>by
  obtain⟨rfl,h0,h1⟩:=hc;refine PyProof.Rows.pow_int h0 ?_ ⟨Kp.toks s _,.ofInt _ _⟩;have:(Builtin.Int.intBits 10:Int)=4:=by decide+kernel
  rw[this];clear hx hy hz hf;omega
theorem I1(a:List Nat)(k:Nat):List.foldl (fun x1 x2=>x1++x2) #[] (List.replicate k a.toArray)=(List.replicate k a).flatten.toArray:=by
 have h:∀(k:Nat) (acc:List Nat),List.foldl (fun x1 x2=>x1++x2) acc.toArray (List.replicate k a.toArray)=(acc++(List.replicate k a).flatten).toArray:=by
  intro k
  induction k with
  |zero=>intro acc;simp
  |succ k ih=>intro acc;simp only[yG,eJ,Dj,ih,gA,List.append_assoc]
 simpa using h k []
theorem aU.rep{h:Heap}{hid l vs}(e:aU P h hid l vs):∀k,aU P h hid (List.replicate k l).flatten (List.replicate k vs).flatten
 |0=>by simpa using aV.nil
 |k+1=>by simp only[yG,gA];exact e.app (aU.rep e k)
set_option maxHeartbeats 1000000 in
set_option tactic.hygienic true in
theorem tB:vj P .Mult xv:=fun A s hid x y z u v E rm hh hx hy hf=>by
 refine lF hf (fun hf=>bI hf fun a b ha hb hz=>ite_inv hz fun hc=>hx.int_k ha fun t=>hy.int_k hb fun t'=>PyProof.Rows.mul_int ⟨Kp.toks s _,.ofInt _ _⟩ (.of_right (intBits_le_64 hc.1 hc.2)))
  fun hf=>lF hf (fun hf=>bI hf fun a b ha hb hz=>ite_inv hz fun hc=>hx.str_k ha fun t=>hy.int_k hb fun t'=>?_)
  (fun hf=>bI hf fun a b ha hb hz=>ite_inv hz fun hc=>hx.i9 ha fun l vs k g1 g2 ø g3=>hy.int_k hb fun t'=>?_)
 ·clear hx hy hz hf ha hb
  obtain⟨h0,h1,h2⟩:=hc;refine PySem.P.mul_str ?_ ?_ ?_ ?_
  ·simp only[Bool.or_eq_false_iff,uV];omega
  ·intro _ _;rw[eu,h1]
   have:(1:Int)<=(2^63-1)/b:=by
    refine(Int.le_ediv_iff_mul_le (by omega)).mpr ?_;omega
   simp only[Int.natCast_one];omega
  ·intro _ _
   rw[eu,h1];unfold Builtin.Str.tooLong;rw[uV,gQ];omega
  ·split
   ·have:b=0:=by omega
    subst this;exact⟨dU _,Kp.toks s _,.ofStr [] _⟩
   ·split
    ·rename_i hq
     simp only[eu,h1,m5,jT]at hq;have:b=1:=by rcases hq with q|q;exact q;omega
     subst this;refine⟨Kp.toks s _,?_⟩;simpa using Dn.ofStr (P:=P) a t
    ·have e:=I1 a b.toNat
     have e1:(List.replicate b.toNat a).flatten.length=b.toNat:=by simp[h1]
     refine⟨?_,Kp.toks s _,?_⟩
     ·simp only[pyStr]at e ⊢
      rw[e];simp only[Str.length,bM,e1];rw[gQ];omega
     ·simp only[pyStr]
      rw[e];exact .ofStr _ _
 ·clear hx hy hz hf ha hb
  obtain⟨h0,h1,h2⟩:=hc;have hlen:vs.length=1:=by rw[g3.length,h1]
  refine wpAny_binaryOp_repeat_ref (T:="list") (U:="int") (by decide) ⟨_,g2,rfl⟩ (fun s'=>typeIs_int s' b t') noFill_list_mul F.fills_int_mul F.slot_int_rmul repeat_list F.slot_int_index.lookup
   (rK F.slot_int_rmul (typeIs_int s b t') F.entry_int_rmul (F.args_int_rmul_2 _ _) (lm_int_rmul_list_any b t' l vs.toArray k none #[]) ⟨g2,rfl,⟨_,g2,rfl⟩,?_⟩)
  refine rK F.slot_list_mul ⟨_,g2,rfl⟩ F.entry_list_mul (F.args_list_mul_2 _ _)
   (lm_list_mul_any l vs.toArray k none #[] b t' (by simp[Builtin.List.listFitsIndex];omega) (by rw[bM,hlen];omega) (by rw[bM,hlen];unfold Builtin.List.listTooLong;rw[iH,gQ];omega)) ⟨g2,Kp.push s _ _,?_⟩
  have e:=listMul_foldl_if vs.toArray b.toNat;rw[e];exact Dn.newList hh (aU.rep g3 b.toNat)
end
section
variable{P:Pk}{n:Nat}{K:Cx}{lo:Bool}
mutual
noncomputable def V.py:V->Option PyData
 | .none=>some .none
 | .bool b=>some (.bool b)
 | .int i=>some (.int i)
 | .tup l=>(V.Ft l).map .tuple
 | .list l=>(V.Ft l).map .list
 |_=>Option.none
noncomputable def V.Ft:List V->Option (List PyData)
 |[]=>some []
 |x::xs=>(V.py x).bind fun a=>(V.Ft xs).bind fun r=>some (a::r)
end
theorem V.tC:V.py .none=some .none:=rfl
theorem V.tD(b:Bool):V.py (.bool b)=some (.bool b):=rfl
theorem V.tE(i:Int):V.py (.int i)=some (.int i):=rfl
theorem V.tF(l:List V):V.py (.tup l)=(V.Ft l).map .tuple:=rfl
theorem V.tG(l:List V):V.py (.list l)=(V.Ft l).map .list:=rfl
theorem V.sa:V.Ft []=some []:=rfl
theorem V.sb(x:V)(xs:List V):V.Ft (x::xs)=(V.py x).bind fun a=>(V.Ft xs).bind fun r=>some (a::r):=rfl
mutual
theorem nI{h:Heap}{hid:List Addr}:∀{x:V} {v:Value} {d:PyData},Dn P h hid x v->x.py=some d->(∃as,Reads h v d as)/\d.canLay0=true
 | .none,v,d,e,q=>by obtain rfl:=Option.some.inj q;rw[e.none_inv];exact⟨⟨_,.none⟩,rfl⟩
 | .bool b,v,d,e,q=>by obtain rfl:=Option.some.inj q;rw[e.bool_inv];exact⟨⟨_,.bool b⟩,rfl⟩
 | .int i,v,d,e,q=>by obtain rfl:=Option.some.inj q;obtain⟨t,rfl⟩:=e.int_inv;exact⟨⟨_,.int i t⟩,rfl⟩
 | .str s,v,d,e,q=>nomatch(q:(Option.none:Option PyData)=some d)
 | .dict ks l,v,d,e,q=>nomatch(q:(Option.none:Option PyData)=some d)
 | .obj l,v,d,e,q=>nomatch(q:(Option.none:Option PyData)=some d)
 | .tup l,v,d,e,q=>by
   obtain⟨ds,q1,rfl⟩:=pb.mp q;obtain⟨a,vs,rfl,_,⟨k,h1⟩,h2⟩:=e.oA;obtain⟨⟨as,h3⟩,h4⟩:=sd h2 q1;exact⟨⟨_,.tuple h1 rfl rfl h3⟩,h4⟩
 | .list l,v,d,e,q=>by
   obtain⟨ds,q1,rfl⟩:=pb.mp q;obtain⟨a,vs,rfl,_,⟨k,h1⟩,h2⟩:=e.em;obtain⟨⟨as,h3⟩,h4⟩:=sd h2 q1;exact⟨⟨_,.list h1 rfl rfl h3⟩,h4⟩
theorem sd{h:Heap}{hid:List Addr}:∀{x:List V} {v:List Value} {d:List PyData},aU P h hid x v->V.Ft x=some d->(∃as,ReadsAll h v d as)/\PyData.canLayAll0 d=true
 |[],v,d,e,q=>by obtain rfl:=Option.some.inj q;obtain rfl:v=[]:=e;exact⟨⟨_,.nil⟩,rfl⟩
 |x::xs,v,d,e,q=>by
  obtain⟨a,q1,q⟩:=m6.mp q;obtain⟨r,q2,q3⟩:=m6.mp q;obtain rfl:=Option.some.inj q3;obtain⟨u,vs,rfl,e1,e2⟩:=e;obtain⟨⟨as,h1⟩,h2⟩:=nI e1 q1;obtain⟨⟨bs,h3⟩,h4⟩:=sd e2 q2;exact⟨⟨_,.cons h1 h3⟩,by simp[PyData.canLayAll0,h2,h4]⟩
end
noncomputable def AW(x y:V):Option Bool:=x.py.bind fun a=>y.py.bind fun b=>if a.depth<=50 then some (PyData.eqv a b)else none
noncomputable def G7(x y:V):Option Bool:=(r8 V.jL V.jL (fun a b=>some (a==b)) x y).or (AW x y)
noncomputable def Df(x y:V):Option Bool:=(G7 x y).map (!·)
noncomputable def ltV:V->V->Option Bool:=r8 V.int? V.int? fun a b=>some (decide (a<b))
noncomputable def leV(x y:V):Option Bool:=(r8 V.int? V.int? (fun a b=>some (decide (a<=b))) x y).or (r8 V.jL V.jL (fun a b=>some (!decide (b<a))) x y)
noncomputable def gtV:V->V->Option Bool:=r8 V.int? V.int? fun a b=>some (decide (b<a))
noncomputable def geV:V->V->Option Bool:=r8 V.int? V.int? fun a b=>some (decide (b<=a))
noncomputable def V.isNone:V->Bool
 | .none=>true
 |_=>false
noncomputable def V.bool?:V->Option Bool
 | .bool a=>some a
 |_=>Option.none
noncomputable def Tz(x y:V):Option Bool:=if y.isNone=true then some x.isNone else r8 V.bool? V.bool? (fun a b=>some (a==b)) x y
noncomputable def I2(x y:V):Option Bool:=(Tz x y).map (!·)
noncomputable def YA(x:V)(l:List V):Option Bool:=x.py.bind fun a=>(V.Ft l).bind fun b=>if PyData.depthAll b<=50 then some (b.any fun y=>PyData.eqv y a)else none
noncomputable def Qz(l:List Nat):Option Nat:=match l with
 |[c]=>some c
 |_=>none
noncomputable def inV(x y:V):Option Bool:=(r8 V.jL V.jL (fun a b=>(Qz a).map fun c=>decide (c∈b)) x y).or (y.gE.bind (YA x))
noncomputable def QA(x y:V):Option Bool:=(inV x y).map (!·)
theorem V.DS{x:V}(h:x.isNone=true):x= .none:=by
 cases x<;>first|rfl|cases h
theorem V.xW{x:V}{a}(h:x.bool?=some a):x= .bool a:=by
 cases x<;>first|exact congrArg _ (Option.some.inj h)|cases h
theorem AX:∀{l:List Nat} {c},Qz l=some c->l=[c]
 |[c],_,h=>congrArg (fun x=>[x]) (Option.some.inj h)
 |[],_,h|_::_::_,_,h=>nomatch h
@[elab_as_elim] theorem Dn.bool_k {h:Heap} {hid x a v} {C:Value->Prop} (e:Dn P h hid x v) (q:x.bool?=some a) (k:C (.bool a)):C v:=by
 cases V.xW q;exact e.bool_inv▸k
@[elab_as_elim] theorem map_inv {γ δ:Type} {f:γ->δ} {o:Option γ} {z:δ} {G:δ->Prop} (h:o.map f=some z) (k:∀b,o=some b->G (f b)):G z:=by
 cases o with
 |none=>cases h
 |some b=>exact Option.some.inj h▸k b rfl
theorem vk(x y:V)(h:x.jL=none):G7 x y=AW x y:=by
 unfold G7 r8;rw[h];rfl
theorem QB(a b:Bool):Tz (.bool a) (.bool b)=some (a==b):=rfl
theorem sf(a b:List Nat):(pyStr a==pyStr b)=(a==b):=by
 rw[yH];simp[pyStr]
theorem I3{h:Heap}{hid x y u v b}{G:Prop}(hx:Dn P h hid x u)(hy:Dn P h hid y v)(hf:AW x y=some b)
  (k:∀a c as bs,Reads h u a as->Reads h v c bs->a.canLay0=true->c.canLay0=true->a.depth<=50->PyData.eqv a c=b->G):G:=by
 refine ah hf fun a ha gg=>?_
 clear hf;rename _=>hf
 refine ah hf fun c hc gg=>?_
 clear hf;rename _=>hf
 refine ite_inv (G:=fun b=>(∀a c as bs,Reads h u a as->Reads h v c bs->a.canLay0=true->c.canLay0=true->a.depth<=50->PyData.eqv a c=b->G)->G) hf (fun hd k=>?_) k;obtain⟨⟨as,r1⟩,c1⟩:=nI hx ha;obtain⟨⟨bs,r2⟩,c2⟩:=nI hy hc;exact k a c as bs r1 r2 c1 c2 hd rfl
theorem bW.py{A:Around}(rm:bW 0 A){d:Nat}(h:d<=50)(e:Nat):A.units+1+min d e<cLine:=by
 have:=rm.units;have:=Nat.min_le_left d e;rw[cLine_is];clear rm;omega
theorem qR:mD P .Eq G7:=fun A s hid x y b u v E rm G hh hx hy hf=>lF hf
 (fun hf=>bI hf fun a b ha hb hz=>some_inv hz <| hx.str_k ha fun t=>hy.str_k hb fun t'=>PyProof.Rows.eq_str ⟨Kp.refl s,by rw[sf]⟩)
 fun hf=>I3 hx hy hf fun a c as bs r1 r2 c1 c2 hd e=>SeqAt.compareEq_reads r1 r2 c1 c2 (gR (m7 (i5 _) _) (rm.py hd _)) ⟨Kp.refl s,congrArg Value.bool e⟩
theorem vl:mD P .NotEq Df:=fun A s hid x y b u v E rm G hh hx hy hf=>map_inv hf fun b hf=>lF hf
 (fun hf=>bI hf fun a b ha hb hz=>some_inv hz <| hx.str_k ha fun t=>hy.str_k hb fun t'=>PyProof.Rows.ne_str ⟨Kp.refl s,by simp only[bne,sf]⟩)
 fun hf=>I3 hx hy hf fun a c as bs r1 r2 c1 c2 hd e=>SeqAt.compareNe_reads r1 r2 c1 c2 (gR (m7 (i5 _) _) (rm.py hd _)) ⟨Kp.refl s,by rw[e]⟩
theorem M9:mD P .Lt ltV:=fun A s hid x y b u v E rm G hh hx hy hf=>bI hf fun a b ha hb hz=>some_inv hz <| hx.int_k ha fun t=>hy.int_k hb fun t'=>PyProof.Rows.lt_int ⟨Kp.refl s,rfl⟩
theorem YB:mD P .Gt gtV:=fun A s hid x y b u v E rm G hh hx hy hf=>bI hf fun a b ha hb hz=>some_inv hz <| hx.int_k ha fun t=>hy.int_k hb fun t'=>PyProof.Rows.gt_int ⟨Kp.refl s,rfl⟩
theorem YC:mD P .GtE geV:=fun A s hid x y b u v E rm G hh hx hy hf=>bI hf fun a b ha hb hz=>some_inv hz <| hx.int_k ha fun t=>hy.int_k hb fun t'=>PyProof.Rows.ge_int ⟨Kp.refl s,rfl⟩
theorem YD:mD P .LtE leV:=fun A s hid x y b u v E rm G hh hx hy hf=>lF hf
 (fun hf=>bI hf fun a b ha hb hz=>some_inv hz <| hx.int_k ha fun t=>hy.int_k hb fun t'=>PyProof.Rows.le_int ⟨Kp.refl s,rfl⟩)
 fun hf=>bI hf fun a b ha hb hz=>some_inv hz <| hx.str_k ha fun t=>hy.str_k hb fun t'=>PySem.P.le_str ⟨Kp.refl s,by simp[pyStr]⟩
theorem Dn.isNone{h:Heap}{hid x v}(e:Dn P h hid x v):(v==Value.none)=x.isNone:=by
 cases x with
 |none=>rw[e.none_inv];rfl
 |bool b=>rw[e.bool_inv];rfl
 |int i=>obtain⟨t,rfl⟩:=e.int_inv;rfl
 |str i=>obtain⟨t,rfl⟩:=e.str_inv;rfl
 |tup l=>obtain⟨a,vs,rfl,_⟩:=e.oA;rfl
 |list l=>obtain⟨a,vs,rfl,_⟩:=e.em;rfl
 |dict ks l=>obtain⟨a,vs,rfl,_⟩:=e.fe;rfl
 |obj l=>obtain⟨a,vs,rfl,_⟩:=e;rfl
theorem Pn{h:Heap}{hid x y u v b}{G:Value->Value->Bool->Prop}(hx:Dn P h hid x u)(hy:Dn P h hid y v)(hf:Tz x y=some b)
  (k1:∀u,(u==Value.none)=b->G u .none b) (k2:∀a c,G (.bool a) (.bool c) (a==c)):G u v b:=by
 by_cases q:y.isNone=true
 ·cases V.DS q
  rw[Tz,aw q]at hf;rw[hy.none_inv];exact k1 u (hx.isNone.trans (Option.some.inj hf))
 ·rw[Tz,az q]at hf
  exact bI hf fun a c ha hc hz=>some_inv hz <| hx.bool_k ha <| hy.bool_k hc (k2 a c)
theorem T7:mD P .Is Tz:=fun A s hid x y b u v E rm G hh hx hy hf=>Pn (G:=fun u v b=>wpAny _ _ (compareOp .Is u v) (fun r s'=>Kp s s'/\r= .bool b) _ _) hx hy hf
 (fun u e=>is_none ⟨Kp.refl s,congrArg Value.bool e⟩) fun a c=>wpAny_is_plain rfl ⟨Kp.refl s,by cases a<;>cases c<;>rfl⟩
theorem Fu:mD P .IsNot I2:=fun A s hid x y b u v E rm G hh hx hy hf=>map_inv hf fun b hf=>Pn (G:=fun u v b=>wpAny _ _ (compareOp .IsNot u v) (fun r s'=>Kp s s'/\r= .bool !b) _ _) hx hy hf
 (fun u e=>isNot_none ⟨Kp.refl s,by rw[<-e]⟩) fun a c=>wpAny_isNot_plain rfl ⟨Kp.refl s,by cases a<;>cases c<;>rfl⟩
theorem Na{A:Around}{s:Shared}{hid:List Addr}{x y:V}{b:Bool}{u v:Value}{E:Value->Shared->Prop}(rm:bW 0 A)(hx:Dn P s.heap hid x u)(hy:Dn P s.heap hid y v)(hf:inV x y=some b)(neg:Bool):
  wpAny (model P.prog P.w) A (compareOp (if neg then .NotIn else .In) u v) (fun r s'=>Kp s s'/\r= .bool (if neg then !b else b)) E s:=lF hf
 (fun hf=>bI hf fun c l hc hl hz=>map_inv hz fun c' e=>by
  cases AX e;refine hx.str_k hc fun t=>hy.str_k hl fun t'=>?_
  have e:=StrLaws.found_one (pyStr l) c';clear hx hy hz hf hc hl;cases neg
  ·refine PySem.P.in_str ⟨Kp.refl s,?_⟩
   simp only[pyStr]at e ⊢;rw[e];simp
  ·refine PySem.P.notIn_str ⟨Kp.refl s,?_⟩
   simp only[pyStr]at e ⊢;rw[e];simp)
 fun hf=>by
  refine ah hf fun l hl gg=>?_
  clear hf;rename _=>hf
  refine ah hf fun a ha gg=>?_
  clear hf;rename _=>hf
  refine ah hf fun ds hd gg=>?_
  clear hf;rename _=>hf
  refine ite_inv hf fun hdp=>?_
  cases V.fQ hl;obtain⟨⟨as,r1⟩,c1⟩:=nI hx ha;obtain⟨⟨bs,r2⟩,c2⟩:=nI (d:=.list ds) hy (show(V.Ft l).map _=_ by rw[hd];rfl);cases neg
  ·exact SeqAt.in_list_reads r2 r1 c2 c1 (rm.py hdp _) ⟨Kp.refl s,rfl⟩
  ·exact SeqAt.notIn_list_reads r2 r1 c2 c1 (rm.py hdp _) ⟨Kp.refl s,rfl⟩
theorem Nb:mD P .NotIn QA:=fun A s hid x y b u v E rm G hh hx hy hf=>map_inv hf fun b hf=>Na rm hx hy hf true
end
section
variable{P:Pk}{n:Nat}{K:Cx}{lo:Bool}
structure Ks(out hid ao:List Addr)(s s':Shared):Prop where
 keep:∀b o,(b∉hid\/b∈out)->s.heap.get? b=some o->s'.heap.get? b=some o
 new:∀a∈ao,a∈hid\/s.heap.get? a=none
 sub:∀a∈hid,a∈ao
 gens:GX s.gens s'.gens
 os:s'.os=s.os
theorem Ks.gT{out hid s s'}(k:Kp s s'):Ks out hid hid s s':=⟨fun b o ø h=>k.keep b o h,fun a h=>.inl h,fun a h=>h,k.gens,k.os⟩
theorem Ks.refl(out hid s):Ks out hid hid s s:=.gT (.refl s)
theorem Ks.trans{out hid ao Po s s' hZ}(x:Ks out hid ao s s')(y:Ks out ao Po s' hZ):Ks out hid Po s hZ where
 keep:=fun b o hb h=>y.keep b o (hb.imp (fun q hm=>(x.new b hm).elim q fun z=>by rw[h]at z;cases z) id) (x.keep b o hb h)
 new:=fun a h=>(y.new a h).elim (x.new a) fun z=>by
  by_cases q:a∈hid
  ·exact .inl q
  ·right
   cases e:s.heap.get? a with
   |none=>rfl
   |some o=>rw[x.keep a o (.inl q) e]at z;cases z
 sub:=fun a h=>y.sub a (x.sub a h)
 gens:=x.gens.trans y.gens
 os:=y.os.trans x.os
theorem Dn.ks{out hid ao}{s s':Shared}{x:V}{v:Value}(e:Dn P s.heap hid x v)(k:Ks out hid ao s s'):Dn P s'.heap ao x v:=e.grow (fun a o h q=>k.keep a o (.inl h) q) k.new
theorem aU.ks{out hid ao}{s s':Shared}{x:List V}{v:List Value}(e:aU P s.heap hid x v)(k:Ks out hid ao s s'):aU P s'.heap ao x v:=e.grow (fun a o h q=>k.keep a o (.inl h) q) k.new
noncomputable def upd(ρ:al)(i:Nat)(y:V):al:=fun j=>cond (j==i) (some y) (ρ j)
theorem jb(ρ:al)(i:Nat)(y:V):upd ρ i y i=some y:=by unfold upd;rw[pJ];rfl
theorem gX(ρ:al){i j:Nat}(y:V)(h:j≠i):upd ρ i y j=ρ j:=by unfold upd;rw[pd.mpr h];rfl
noncomputable def nJ(h:Heap)(a:Addr):Prop:=∃o,h.get? a=some o/\((∃xs n,o.data= .seq xs n)\/∃es n,o.data= .dict es n)
theorem nJ.lG{h:Heap}{a:Addr}{v}(x:nJ h a)(y:h.IsCell a v):False:=by
 obtain⟨o,ho,hd⟩:=x;obtain⟨o',MU,iY⟩:=y;rw[ho]at MU;cases MU;rcases hd with⟨xs,n,hd⟩|⟨xs,n,hd⟩<;>rw[hd]at iY<;>cases iY
theorem PlainList.boxed{h:Heap}{a vs}(x:h.PlainList a vs):nJ h a:=let⟨n,e⟩:=x;⟨_,e,.inl ⟨_,_,rfl⟩⟩
theorem DictOf.boxed{h:Heap}{a jJ}(x:h.DictOf (intKind P.prog P.w) a jJ):nJ h a:=by
 obtain⟨o,es,ep,ho,_,hd,_⟩:=x;exact⟨o,ho,.inr ⟨es,ep,hd⟩⟩
theorem Ns.lG{h:Heap}{a:Addr}{m v}(x:h.Ns a m)(y:h.IsCell a v):False:=by
 obtain⟨o,es,ep,ho,hd,_⟩:=x;obtain⟨o',MU,iY⟩:=y;rw[ho]at MU;cases MU;rw[hd]at iY;cases iY
theorem fc.addr{L h out hid}{x:V}{v:Value}(e:fc P L h out hid x v):∃a,v= .ref a/\a∈hid/\a∉out/\a≠L/\nJ h a:=by
 cases x with
 |list l=>
  obtain⟨a,vs,rfl,h1,h2,h3,h4,h5⟩:=e;exact⟨a,rfl,h1,h2,h3,PlainList.boxed h4⟩
 |dict ks l=>
  obtain⟨a,vs,rfl,h1,h2,h3,h4,h5,h6,h7⟩:=e;exact⟨a,rfl,h1,h2,h3,DictOf.boxed h6⟩
 |_=>exact e.elim
theorem fc.keep{L:Addr}{h h':Heap}{out hid ao:List Addr}{x:V}{a:Addr}(e:fc P L h out hid x (.ref a))(ha:∀o,h.get? a=some o->h'.get? a=some o)(hk:∀a o,a∉hid->h.get? a=some o->h'.get? a=some o)
  (hh:∀a∈hid,a∈ao) (hn:∀a∈ao,a∈hid\/h.get? a=none):fc P L h' out ao x (.ref a):=
 e.map (fun b q h1 h2 h3=>⟨hh _ h1,h2,h3,fun o=>by cases q;exact ha o⟩) fun d=>d.grow hk hn
theorem kQ{l l':List (Str×NameKind×Bool)}{i:Nat}{x:Str}{k:NameKind}{b:Bool}(hi:l[i]?=some (x,k,b))(hv:l'=l.set i (x,k,false)){j:Nat}{z kd c}(h:l'[j]?=some (z,kd,c)):(j=i/\z=x/\kd=k/\c=false)\/(j≠i/\l[j]?=some (z,kd,c)):=by
 rw[hv,List.getElem?_set]at h;by_cases e:i=j
 ·rw[aw e,aw (eX.mp hi).1]at h
  cases h;exact .inl ⟨e.symm,rfl,rfl,rfl⟩
 ·rw[az e]at h
  exact .inr ⟨fun z=>e z.symm,h⟩
theorem aB.unbox{K':Cx}{env:Env}{out hid out' ao:List Addr}{m}{B s:Shared}{ρ aY:al}(S:aB P K env out hid m B s ρ){i:Nat}{x:Str}{k:NameKind}(hi:K.vars[i]?=some (x,k,true))(hv:K'.vars=K.vars.set i (x,k,false))(hg:K'.aM=K.aM){y y':V}(hy:ρ i=some y)
  {a:Addr} (TA:At env m s.heap out hid x k (some (.ref a))) (bx:nJ s.heap a) (oh:∀b∈out',b∈ao) (own:∀b∈ao,b∉out'->B.heap.get? b=none) (mv:∀b,b∈hid->b∉out->b≠a->b∈ao/\b∉out') (ha:a≠env.locals) (sub:∀b∈ao,b∈hid)
  (tH:∀{kd z u},At env m s.heap out hid z kd u->At env m s.heap out' ao z kd u) (YE:∀j,j≠i->aY j=ρ j) (Nc:aY i=some y') (d:Dn P s.heap ao y' (.ref a)):aB P K' env out' ao m B s aY where
 fn:=S.fn
 gl:=S.gl
 bl:=S.bl
 kind:=fun j z kd b h=>(kQ hi hv h).elim (fun q=>by obtain⟨_,rfl,rfl,_⟩:=q;exact S.kind i _ _ _ hi) fun q=>S.kind j z kd b q.2
 pj:=fun z h=>S.pj z (hg▸h)
 nodup:=fun j l z kd b MV b' h1 h2=>by
  have n1:∃b,K.vars[j]?=some (z,kd,b):=(kQ hi hv h1).elim (fun q=>by obtain⟨rfl,rfl,rfl,_⟩:=q;exact⟨_,hi⟩) fun q=>⟨_,q.2⟩
  have n2:∃b,K.vars[l]?=some (z,MV,b):=(kQ hi hv h2).elim (fun q=>by obtain⟨rfl,rfl,rfl,_⟩:=q;exact⟨_,hi⟩) fun q=>⟨_,q.2⟩
  exact n1.elim fun ø n1=>n2.elim fun ø n2=>S.nodup _ _ _ _ _ _ _ n1 n2
 i8:=S.i8
 live:=fun b h=>S.live b (sub b h)
 oh:=oh
 Lh:=(mv _ S.Lh S.Lo (dW ha)).1
 Lo:=(mv _ S.Lh S.Lo (dW ha)).2
 ns:=S.ns
 gb:=S.gb
 kp:=S.kp
 own:=own
 slot:=fun j z kd b h=>(kQ hi hv h).elim (fun q=>by
  obtain⟨rfl,rfl,rfl,rfl⟩:=q;exact⟨_,tH TA,by rw[Nc];exact⟨_,rfl,d⟩⟩) fun q=>(S.slot j z kd b q.2).elim fun ov w=>⟨ov,tH w.1,by
  rw[YE j q.1]
  cases e:ρ j with
  |none=>trivial
  |some t=>
   refine qO.map (e▸w.2) (fun hb a' e' h1 h2 h3=>?_) (fun e=>Dn.less (P:=P) e sub) fun e=>aU.less (P:=P) e sub
   have bN:a'≠a:=fun z'=>by
    subst hb;subst e';subst z';rcases S.apart i j x z k kd a' (dW q.1) hi q.2 TA w.1 with r|r
    ·rw[hy]at r;cases r
    ·rw[e]at r;cases r
   exact⟨(mv a' h1 h2 bN).1,(mv a' h1 h2 bN).2,h3,fun ø e=>e⟩⟩
 apart:=fun j l z w kd MV b Nd h1 h2 a1 a2=>by
  have q1:=(kQ hi hv h1).resolve_left fun q=>nomatch q.2.2.2
  have q2:=(kQ hi hv h2).resolve_left fun q=>nomatch q.2.2.2
  obtain⟨ov,p1,_⟩:=S.slot j z kd true q1.2;obtain⟨Yx,p2,_⟩:=S.slot l w MV true q2.2;have e1:=At.fun (tH p1) a1
  have e2:=At.fun (tH p2) a2
  subst e1;subst e2;rw[YE j q1.1,YE l q2.1];exact S.apart j l z w kd MV b Nd q1.2 q2.2 p1 p2
theorem aB.fill{env:Env}{out hid ao:List Addr}{m m':Str->Option Value}{B s s':Shared}{ρ:al}(S:aB P K env out hid m B s ρ){i:Nat}{x:Str}{k:NameKind}{b:Bool}(hi:K.vars[i]?=some (x,k,b)){y:V}{v:Value}{c:Addr}
  (ch:c∈hid) (co:c∉out) (hs:∀a o,a≠c->s.heap.get? a=some o->s'.heap.get? a=some o) (hg:GX s.gens s'.gens) (xX:s'.os=s.os)
  (sub:∀a∈hid,a∈ao) (new:∀a∈ao,a∈hid\/s.heap.get? a=none) (live:cx s'.heap ao)
  (ns:s'.heap.Ns env.locals m') (YF:∀(j:Nat) x' k' z a,j≠i->K.vars[j]?=some (x',k',true)->ρ j=some z->At env m s.heap out hid x' k' (some (.ref a))->fc P env.locals s.heap out hid z (.ref a)->a≠c)
  (oO:At env m' s'.heap out ao x k (some v)) (I4:∀(j:Nat) x' k' b' u,j≠i->K.vars[j]?=some (x',k',b')->At env m s.heap out hid x' k' u->At env m' s'.heap out ao x' k' u)
  (hv:if b then fc P env.locals s'.heap out ao y v else Dn P s'.heap ao y v)
  (oP:b=true->∀(j:Nat) x' k' a,j≠i->K.vars[j]?=some (x',k',true)->v= .ref a->At env m s.heap out hid x' k' (some (.ref a))->ρ j=none):
  aB P K env out ao m' B s' (upd ρ i y)/\Ks out hid ao s s':=by
 have keep:∀a o,a∉hid->s.heap.get? a=some o->s'.heap.get? a=some o:=fun a o h=>hs a o fun e=>h (e▸ch)
 have K1:Ks out hid ao s s':=⟨fun a o h=>hs a o (by rintro rfl;exact h.elim (fun z=>z ch) co),new,sub,hg,xX⟩;have TB:∀(j:Nat) x' k' b' u,j≠i->K.vars[j]?=some (x',k',b')->At env m' s'.heap out ao x' k' u->At env m s.heap out hid x' k' u:=fun j x' k' b' u hj tI h=>by
  obtain⟨ov,q1,_⟩:=S.slot j x' k' b' tI;have:=At.fun (I4 j x' k' b' ov hj tI q1) h
  subst this;exact q1
 refine⟨{fn:=S.fn,gl:=S.gl,bl:=S.bl,kind:=S.kind,pj:=S.pj,nodup:=S.nodup,i8:=S.i8,live:=live,oh:=fun a h=>sub a (S.oh a h),Lh:=sub _ S.Lh,Lo:=S.Lo,ns:=ns,slot:=?_,apart:=?_,gb:=S.gb,kp:=?_,own:=?_},K1⟩
 ·intro j x' k' b' hj
  by_cases DT:j=i
  ·subst DT
   rw[hi]at hj;cases hj;exact⟨some v,oO,by rw[jb];exact⟨v,rfl,hv⟩⟩
  ·obtain⟨ov,q1,q2⟩:=S.slot j x' k' b' hj
   refine⟨ov,I4 j x' k' b' ov DT hj q1,?_⟩;rw[gX _ _ DT]
   cases e:ρ j with
   |none=>trivial
   |some z=>
    rw[e]at q2;obtain⟨u,rfl,q2⟩:=q2;refine⟨u,rfl,?_⟩;cases b'
    ·exact Dn.ks (P:=P) q2 K1
    ·obtain⟨a,rfl,h1,h2,h3,h4⟩:=fc.addr (P:=P) q2
     exact fc.keep (P:=P) q2 (fun o h=>hs a o (YF j x' k' z a DT hj e q1 q2) h) keep sub new
 ·intro j l x' y' k' WY a Nd hj hl h1 h2
  by_cases DT:j=i
  ·subst DT
   rw[hi]at hj;cases hj;right;have e:=At.fun oO h1
   cases e;rw[gX _ _ (dW Nd)];exact oP rfl l y' WY a (dW Nd) hl rfl (TB l y' WY true _ (dW Nd) hl h2)
  ·by_cases WZ:l=i
   ·subst WZ
    rw[hi]at hl;cases hl;left;have e:=At.fun oO h2
    cases e;rw[gX _ _ DT];exact oP rfl j x' k' a DT hj rfl (TB j x' k' true _ DT hj h1)
   ·rw[gX _ _ DT,gX _ _ WZ]
    exact S.apart j l x' y' k' WY a Nd hj hl (TB j x' k' true _ DT hj h1) (TB l y' WY true _ WZ hl h2)
 ·exact⟨fun a o h=>hs a o (by rintro rfl;rw[S.own a ch co]at h;cases h) (S.kp.keep a o h),S.kp.gens.trans hg,xX.trans S.kp.os⟩
 ·intro a h ho
  rcases new a h with q|q
  ·exact S.own a q ho
  ·cases e:B.heap.get? a with
   |none=>rfl
   |some o=>rw[S.kp.keep a o e]at q;cases q
theorem cx.extBut{h h':Heap}{c:Addr}{hid}(l:cx h hid)(hs:∀a o,a≠c->h.get? a=some o->h'.get? a=some o)(hc:∃o,h'.get? c=some o):cx h' hid:=fun a ha=>by
 by_cases e:a=c
 ·subst e;exact hc
 ·obtain⟨o,ho⟩:=l a ha
  exact⟨o,hs a o e ho⟩
theorem aB.store{env:Env}{out hid:List Addr}{m:Str->Option Value}{B s:Shared}{ρ:al}(S:aB P K env out hid m B s ρ){i:Nat}{x:Str}{k:NameKind}{b:Bool}(hi:K.vars[i]?=some (x,k,b)){y:V}{v:Value}
  (hv:if b then fc P env.locals s.heap out hid y v else Dn P s.heap hid y v)
  (oP:b=true->∀(j:Nat) x' k' a,j≠i->K.vars[j]?=some (x',k',true)->v= .ref a->At env m s.heap out hid x' k' (some (.ref a))->ρ j=none) (kR:k≠ .free)
  {A:Around} {E:Value->Shared->Prop} {M:Model} {Q:Unit->Shared->Prop} (h:∀m' s',aB P K env out hid m' B s' (upd ρ i y)->Ks out hid hid s s'->((k= .local->∀a o,a≠env.locals->s.heap.get? a=some o->s'.heap.get? a=some o)/\(∀(j:Nat) x' k' b' u,j≠i->K.vars[j]?=some (x',k',b')->At env m' s'.heap out hid x' k' u->At env m s.heap out hid x' k' u)/\(∀a o,nJ s.heap a->a≠env.locals->s.heap.get? a=some o->s'.heap.get? a=some o)/\At env m' s'.heap out hid x k (some v))->Q () s'):
  wpAny M A (storeName env x v) Q E s:=by
 obtain⟨ov,oO,_⟩:=S.slot i x k b hi;have hk:=S.kind i x k b hi;obtain⟨oL,_,_,hL,_⟩:=id S.ns;have fin:∀(c:Addr) (m':Str->Option Value) (s':Shared),(k= .local->c=env.locals)->c∈hid->c∉out->(∀a o,a≠c->s.heap.get? a=some o->s'.heap.get? a=some o)->(∃o,s'.heap.get? c=some o)->s'.gens=s.gens->s'.os=s.os->s'.heap.Ns env.locals m'->
   (∀a,nJ s.heap a->a≠env.locals->a≠c)->At env m' s'.heap out hid x k (some v)->(∀(j:Nat) x' k' b' u,j≠i->K.vars[j]?=some (x',k',b')->At env m s.heap out hid x' k' u->At env m' s'.heap out hid x' k' u)->Q () s':=by
  intro c m' s' YG ch co hs hc hg xX ns W1 G8 I4;have T8:if b then fc P env.locals s'.heap out hid y v else Dn P s'.heap hid y v:=by
   cases b
   ·exact Dn.grow (P:=P) hv (fun a o ha q=>hs a o (fun e=>ha (e▸ch)) q) fun a q=>.inl q
   ·obtain⟨a,rfl,h1,h2,h3,h4⟩:=fc.addr (P:=P) hv
    exact fc.keep (P:=P) hv (fun o q=>hs a o (W1 a h4 h3) q) (fun a o ha q=>hs a o (fun e=>ha (e▸ch)) q) (fun ø q=>q) fun a q=>.inl q
  obtain⟨r1,r2⟩:=aB.fill (m':=m') (s':=s') S hi ch co hs (by rw[hg];exact .refl _) xX (fun ø q=>q) (fun ø q=>.inl q) (S.live.extBut hs hc) ns (fun j x' k' z a ø ø ø ø q=>by
   obtain⟨a',e,h1,h2,h3,h4⟩:=fc.addr (P:=P) q;cases e;exact W1 a h4 h3) G8 I4 T8 oP
  exact h m' s' r1 r2 ⟨fun hk a o ha q=>hs a o (fun e=>ha (e.trans (YG hk))) q,fun j x' k' b' u hj tI hu=>by
   obtain⟨ov,q1,_⟩:=S.slot j x' k' b' tI;have:=At.fun (I4 j x' k' b' ov hj tI q1) hu
   subst this;exact q1,fun a o ha bN q=>hs a o (W1 a ha bN) q,G8⟩
 cases k
 case «local» =>
  refine rL hk S.ns (fun h' vm uy=>?_) (by simp[S.fn]);have hs:∀a o,a≠env.locals->s.heap.get? a=some o->h'.get? a=some o:=fun a o ha q=>(uy.2 a ha).trans q
  refine fin env.locals _ {s with heap:=h',toks:=s.toks+1} (fun ø=>rfl) S.Lh S.Lo hs ?_ rfl rfl vm (fun a ø ha=>ha) (by simp[At]) ?_
  ·obtain⟨o,_,_,ho,_⟩:=vm;exact⟨o,ho⟩
  ·intro j x' k' b' u hj tI hu
   have bN:x'≠x:=by
    rintro rfl
    exact hj (S.nodup j i x' k' b' _ _ tI hi)
   exact hu.map (fun e=>(az bN).trans e) fun c ø q2 q3 q4=>⟨q2,q3,q4.sameBut uy fun e=>Ns.lG (e▸S.ns) q4⟩
 case cell=>
  obtain⟨c,q1,q2,q3,q4⟩:=oO;refine wpAny_storeName_cell S.fn hk q1 q4 (fun h' Nf uy=>?_);have hs:∀a o,a≠c->s.heap.get? a=some o->h'.get? a=some o:=fun a o ha q=>(uy.2 a ha).trans q
  refine fin c m {s with heap:=h'} (fun e=>by cases e) q2 q3 hs ?_ rfl rfl (S.ns.sameBut uy fun e=>Ns.lG S.ns (e▸q4)) (fun a ha ø e=>nJ.lG ha (e▸q4)) (by simp only[At];exact⟨c,q1,q2,q3,Nf⟩) ?_
  ·obtain⟨o,ho,_⟩:=Nf;exact⟨o,ho⟩
  ·intro j x' k' b' u hj tI hu
   have bN:x'≠x:=by
    rintro rfl
    exact hj (S.nodup j i x' k' b' _ _ tI hi)
   exact hu.map id fun c' z1 z2 z3 z4=>⟨z2,z3,z4.sameBut uy fun e=>bN (S.i8 x' x c (e▸z1) q1)⟩
 case free=>exact absurd rfl kR
 all_goals exact oO.elim
noncomputable def Ng(P:Pk)(s s':Shared)(hid:List Addr):V->Value->Prop
 | .list l,v=>∃a vs,v= .ref a/\s.heap.get? a=none/\s'.heap.PlainList a vs.toArray/\aU P s'.heap (a::hid) l vs
 | .dict ks l,v=>∃a vs,v= .ref a/\s.heap.get? a=none/\(a==sysModules)=false/\vs.length=ks.length/\s'.heap.DictOf (intKind P.prog P.w) a (ks.zip vs)/\aU P s'.heap (a::hid) l vs
 |_,_=>False
theorem Ng.box{s s':Shared}{hid out:List Addr}{x:V}{v:Value}{L:Addr}(e:Ng P s s' hid x v)(live:cx s.heap hid)(oh:∀a∈out,a∈hid)(Lh:L∈hid):∃a,v= .ref a/\s.heap.get? a=none/\a∉hid/\fc P L s'.heap out (a::hid) x v/\∃o,s'.heap.get? a=some o:=by
 cases x with
 |list l=>
  obtain⟨a,vs,rfl,h1,h2,h3⟩:=e;have hn:=live.not h1;refine⟨a,rfl,h1,hn,?_,?_⟩
  ·exact⟨a,vs,rfl,by simp,fun q=>hn (oh a q),fun q=>hn (q▸Lh),h2,h3⟩
  ·obtain⟨o,ho⟩:=h2;exact⟨_,ho⟩
 |dict ks l=>
  obtain⟨a,vs,rfl,h1,h2,h3,h4,h5⟩:=e;have hn:=live.not h1;refine⟨a,rfl,h1,hn,?_,?_⟩
  ·exact⟨a,vs,rfl,by simp,fun q=>hn (oh a q),fun q=>hn (q▸Lh),h2,h3,h4,h5⟩
  ·obtain⟨o,es,ep,ho,_⟩:=h4;exact⟨_,ho⟩
 |_=>exact e.elim
theorem Ng.dn{s s':Shared}{hid:List Addr}{x:V}{v:Value}(e:Ng P s s' hid x v)(live:cx s.heap hid):Dn P s'.heap hid x v:=by
 cases x with
 |list l=>
  obtain⟨a,vs,rfl,h1,h2,h3⟩:=e;exact .ofList (live.not h1) h2 (aU.less (P:=P) h3 fun a q=>cw _ q)
 |dict ks l=>
  obtain⟨a,vs,rfl,h1,h2,h3,h4,h5⟩:=e;exact⟨a,vs,rfl,live.not h1,h3,h2,h4,aU.less (P:=P) h5 fun a q=>cw _ q⟩
 |_=>exact e.elim
noncomputable def MW(P:Pk)(n:Nat)(K:Cx)(e:Expr)(f:al->Option V):Prop:=
 ∀(A:Around) (env:Env) (out hid:List Addr) (m:Str->Option Value) (B s:Shared) (ρ:al) (x:V) (E:Value->Shared->Prop),bW n A->aB P K env out hid m B s ρ->f ρ=some x->
  wpAny (model P.prog P.w) A (eval e env) (fun v s'=>Kp s s'/\Ng P s s' hid x v) E s
theorem dL{e f}(h:MW P n K e f):eM P n K lo e f:=fun A env out hid m B s ρ x E r S hf=>
 au (h A env out hid m B s ρ x E r S hf) (fun v s' q=>⟨q.1,by
  have:=Ng.dn (P:=P) q.2 S.live;cases lo
  ·exact this
  ·exact this.less S.oh⟩) fun ø ø q=>q
inductive Fl where
 |next|brk|cont
 |ret (x:V)
noncomputable def TC(P:Pk)(h:Heap)(out:List Addr):Fl->Flow->Prop
 | .next,f=>f= .next
 | .brk,f=>f= .brk
 | .cont,f=>f= .cont
 | .ret x,f=>∃v,f= .ret v/\Dn P h out x v
inductive I5(P:Pk)(K:Cx)(env:Env)(out hid:List Addr)(B s s':Shared)(aY:al)(fl:Fl)(cV:Flow):Prop
 |mk (ao:List Addr) (m':Str->Option Value) (S:aB P K env out ao m' B s' aY) (k:Ks out hid ao s s') (f:TC P s'.heap out fl cV):I5 P K env out hid B s s' aY fl cV
theorem I5.pre{env:Env}{out hid ck:List Addr}{B s s₁ s':Shared}{aY:al}{fl:Fl}{cV:Flow}(q:I5 P K env out ck B s₁ s' aY fl cV)(k:Ks out hid ck s s₁):I5 P K env out hid B s s' aY fl cV:=by
 obtain⟨a,b,c,d,e⟩:=q;exact⟨a,b,c,k.trans d,e⟩
noncomputable def uk(P:Pk)(n:Nat)(K:Cx)(st:Stmt)(f:al->Option (al×Fl)):Prop:=
 ∀(A:Around) (env:Env) (out hid:List Addr) (m:Str->Option Value) (B s:Shared) (ρ aY:al) (fl:Fl) (E:Value->Shared->Prop),bW n A->aB P K env out hid m B s ρ->f ρ=some (aY,fl)->
  wpAny (model P.prog P.w) A (exec st env) (fun cV s'=>I5 P K env out hid B s s' aY fl cV) E s
noncomputable def p5(P:Pk)(n:Nat)(K:Cx)(st:List Stmt)(f:al->Option (al×Fl)):Prop:=
 ∀(A:Around) (env:Env) (out hid:List Addr) (m:Str->Option Value) (B s:Shared) (ρ aY:al) (fl:Fl) (E:Value->Shared->Prop),bW n A->aB P K env out hid m B s ρ->f ρ=some (aY,fl)->
  wpAny (model P.prog P.w) A (execs st env) (fun cV s'=>I5 P K env out hid B s s' aY fl cV) E s
theorem aj:p5 P n K [] fun ρ=>some (ρ,.next):=fun A env out hid m B s ρ aY fl E r S hf=>by
 cases hf;exact mU ⟨hid,m,S,.refl ..,rfl⟩
noncomputable def eO(f g:al->Option (al×Fl)):al->Option (al×Fl):=fun ρ=>(f ρ).bind fun r=>match r.2 with
 | .next=>g r.1
 |fl=>some (r.1,fl)
theorem ac{st:Stmt}{rest:List Stmt}{f g}(h:uk P n K st f)(hr:p5 P n K rest g):p5 P n K (st::rest) (eO f g):=fun A env out hid m B s ρ aY fl E r S hf=>by
 refine ah hf ?_;clear hf;rintro⟨am,Pq⟩ h1 hf;refine rM (au (h A env out hid m B s ρ am Pq E r S h1) (fun cV s₁ q=>?_) fun ø ø q=>q);obtain⟨ck,m₁,bc,gh,uz⟩:=q;cases Pq<;>dsimp only at hf
 ·obtain rfl:=uz
  exact au (hr A env out ck m₁ B s₁ am aY fl E r bc hf) (fun cV s₂ q=>q.pre gh) fun ø ø q=>q
 ·cases hf;obtain rfl:=uz;exact⟨ck,m₁,bc,gh,rfl⟩
 ·cases hf;obtain rfl:=uz;exact⟨ck,m₁,bc,gh,rfl⟩
 ·cases hf;obtain⟨v,rfl,hv⟩:=uz;exact⟨ck,m₁,bc,gh,v,rfl,hv⟩
theorem xY{pos}:uk P n K (.Break pos) fun ρ=>some (ρ,.brk):=fun A env out hid m B s ρ aY fl E r S hf=>by
 cases hf;exact wpAny_Break ⟨hid,m,S,.refl ..,rfl⟩
theorem aX{e pos f}(h:eM P n K true e f):uk P n K (.Return (some e) pos) fun ρ=>(f ρ).map fun x=>(ρ,.ret x):=fun A env out hid m B s ρ aY fl E r S hf=>by
 refine bV hf fun x hx e=>?_
 clear hf
 first|refine pair_inv e ?_;clear e|cases e
 exact wpAny_Return_some (au (h A env out hid m B s ρ x E r S hx) (fun v s₁ q=>⟨hid,m,S.after q.1,.gT q.1,v,rfl,q.2⟩) fun ø ø q=>q)
theorem aT{t a b pos c f g}(ht:AS P n K t c)(ha:p5 P n K a f)(hb:p5 P n K b g):uk P n K (.If t a b pos) (fun ρ=>(c ρ).bind fun z=>if z then f ρ else g ρ):=fun A env out hid m B s ρ aY fl E r S hf=>by
 refine ah hf fun z hz gg=>?_
 clear hf;rename _=>hf
 refine wpAny_If (au (ht A env out hid m B s ρ z E r S hz) (fun z' s₁ ag=>?_) fun ø ø q=>q);rw[ag.2];have bc:=S.after ag.1;cases z
 ·simp only[gz,eW]at hf ⊢
  exact au (hb A env out hid m B s₁ ρ aY fl E r bc hf) (fun cV s₂ q=>q.pre (Ks.gT ag.1)) fun ø ø q=>q
 ·simp only[eI]at hf ⊢
  exact au (ha A env out hid m B s₁ ρ aY fl E r bc hf) (fun cV s₂ q=>q.pre (Ks.gT ag.1)) fun ø ø q=>q
theorem aD(i:Nat){x:Str}{k:NameKind}{p pos:Pos}{e:Expr}{f}(hi:K.vars[i]?=some (x,k,false))(kR:k≠ .free)(h:eM P n K false e f)(hs:∀env,env.kindOf x=some k->swapsWith e (some (.Name x p)) pos.line env=pure false):
  uk P n K (.Assign [.Name x p] e pos) fun ρ=>(f ρ).map fun y=>(upd ρ i y,.next):=fun A env out hid m B s ρ aY fl E r S hf=>by
 refine bV hf fun y hy e=>?_
 clear hf
 first|refine pair_inv e ?_;clear e|cases e
 refine qD (au (h A env out hid m B s ρ y E r S hy) (fun v s₁ ag=>?_) fun ø ø q=>q) (hs env (S.kind i x k _ hi));exact(S.after ag.1).store hi ag.2 (fun q=>by cases q) kR fun m' s' S' K' ø=>⟨hid,m',S',(Ks.gT ag.1).trans K',rfl⟩
theorem dh(i:Nat){x:Str}{k:NameKind}{p pos:Pos}{e:Expr}{f}(hi:K.vars[i]?=some (x,k,true))(kR:k≠ .free)(h:MW P n K e f)(hs:∀env,env.kindOf x=some k->swapsWith e (some (.Name x p)) pos.line env=pure false):
  uk P n K (.Assign [.Name x p] e pos) fun ρ=>(f ρ).map fun y=>(upd ρ i y,.next):=fun A env out hid m B s ρ aY fl E r S hf=>by
 refine bV hf fun y hy e=>?_
 clear hf
 first|refine pair_inv e ?_;clear e|cases e
 refine qD (au (h A env out hid m B s ρ y E r S hy) (fun v s₁ ag=>?_) fun ø ø q=>q) (hs env (S.kind i x k _ hi));obtain⟨a,rfl,ha,hah,QC,TD⟩:=Ng.box (P:=P) (out:=out) (L:=env.locals) ag.2 S.live S.oh S.Lh;have new:∀b∈a::hid,b∈hid\/s.heap.get? b=none:=fun b hb=>(bp.mp hb).elim (fun q=>.inr (q▸ha)) .inl
 have live:cx s₁.heap (a::hid):=fun b hb=>(bp.mp hb).elim (fun q=>q▸TD) (S.live.kp ag.1 b)
 have bc:=S.grow ag.1 (fun b q=>cw _ q) new live;refine bc.store hi QC (fun ø j x' k' a' hj tI e oO=>?_) kR fun m' s' S' K' ø=>⟨a::hid,m',S',?_,rfl⟩
 ·cases e
  obtain⟨ov,q1,q2⟩:=S.slot j x' k' true tI;have:=At.back oO q1 fun c v q=>q.keeps ag.1.keep
  subst this
  cases er:ρ j with
  |none=>rfl
  |some z=>
   rw[er]at q2;obtain⟨u,e,q2⟩:=q2;cases e;obtain⟨a'',e,z1,_⟩:=fc.addr (P:=P) q2;cases e;exact absurd z1 hah
 ·exact⟨fun b o hb q=>K'.keep b o (hb.imp (fun z hm=>(bp.mp hm).elim (fun w=>by rw[w,ha]at q;cases q) z) id) (ag.1.keep b o q),new,fun b q=>cw _ q,ag.1.gens.trans K'.gens,K'.os.trans ag.1.os⟩
end
section
variable{P:Pk}{n:Nat}{K:Cx}{lo:Bool}
theorem dM{M:Model}{A:Around}{E:Value->Shared->Prop}{s:Shared}{f:Value}{l:List (Bool×Sem Value)}{Q:Args->Shared->Prop}(hp:l.any (·.1)=false)
  (h:wpAny M A (spliced l) (fun vs s'=>Q ⟨vs,[]⟩ s') E s):wpAny M A (evalArgs f true l []) Q E s:=by
 cases l with
 |cons a l=>
  obtain⟨b,x⟩:=a;cases b
  ·exact Calls.evalArgs_plain h
  ·simp at hp
 |nil=>
  unfold evalArgs;show wpAny M A (spliced []>>= _) Q E s;refine ar (au h (fun vs s' h'=>?_) fun ø ø x=>x);refine gB ?_;exact ar (bd (ar (bd (bd h'))))
theorem aB.mut{env:Env}{out hid:List Addr}{m:Str->Option Value}{B s s':Shared}{ρ:al}(S:aB P K env out hid m B s ρ){i:Nat}{x:Str}{k:NameKind}(hi:K.vars[i]?=some (x,k,true)){y y':V}{a:Addr}
  (oO:At env m s.heap out hid x k (some (.ref a))) (hy:ρ i=some y) (hb:fc P env.locals s.heap out hid y (.ref a)) (hs:∀b o,b≠a->s.heap.get? b=some o->s'.heap.get? b=some o) (hg:GX s.gens s'.gens) (xX:s'.os=s.os)
  (hb':fc P env.locals s'.heap out hid y' (.ref a)):aB P K env out hid m B s' (upd ρ i y')/\Ks out hid hid s s':=by
 obtain⟨YH,e,h1,h2,h3,h4⟩:=fc.addr (P:=P) hb;cases e;obtain⟨YH,e,_,_,_,h4'⟩:=fc.addr (P:=P) hb';cases e;have tH:∀c v,s.heap.IsCell c v->s'.heap.IsCell c v:=fun c v q=>by
  obtain⟨o,ho,hd⟩:=id q;exact⟨o,hs c o (fun e=>nJ.lG h4 (e▸q)) ho,hd⟩
 have vm:s'.heap.Ns env.locals m:=by
  obtain⟨o,es,ep,ho,hr⟩:=S.ns;exact⟨o,es,ep,hs _ o (dW h3) ho,hr⟩
 have Tx:∀x' k' u,At env m s.heap out hid x' k' u->At env m s'.heap out hid x' k' u:=fun x' k' u q=>q.grow tH fun ø z=>z
 refine S.fill (m':=m) (s':=s') hi (v:=.ref a) h1 h2 hs hg xX (fun ø q=>q) (fun ø q=>.inl q) (S.live.extBut hs ?_) vm ?_ (Tx _ _ _ oO) (fun j x' k' b' u ø ø q=>Tx _ _ _ q) hb' ?_
 ·obtain⟨o,ho,_⟩:=h4';exact⟨o,ho⟩
 ·intro j x' k' z a' hj tI hz G8 W1 e
  subst e;rcases S.apart j i x' x k' k a' hj tI hi G8 oO with q|q
  ·rw[hz]at q;cases q
  ·rw[hy]at q;cases q
 ·intro _ j x' k' a' hj tI e G8
  cases e;rcases S.apart j i x' x k' k a hj tI hi G8 oO with q|q
  ·exact q
  ·rw[hy]at q;cases q
inductive YI(P:Pk)(K:Cx)(env:Env)(out hid:List Addr)(B s s':Shared)(aY:al)(x:V)(v:Value):Prop
 |mk (ao:List Addr) (m':Str->Option Value) (S:aB P K env out ao m' B s' aY) (k:Ks out hid ao s s') (f:Dn P s'.heap ao x v):YI P K env out hid B s s' aY x v
noncomputable def W2(P:Pk)(n:Nat)(K:Cx)(e:Expr)(f:al->Option (al×V)):Prop:=
 ∀(A:Around) (env:Env) (out hid:List Addr) (m:Str->Option Value) (B s:Shared) (ρ aY:al) (x:V) (E:Value->Shared->Prop),bW n A->aB P K env out hid m B s ρ->f ρ=some (aY,x)->
  wpAny (model P.prog P.w) A (eval e env) (fun v s'=>YI P K env out hid B s s' aY x v) E s
inductive MeQ(P:Pk)(name:Str)(s:Shared)(L:Addr)(out hid:List Addr)(y:V)(v:Value)(xs:List V)(y' r:V):Prop
 |mk (T id:String) (p:PlainAttrs T) (sl:Slot T name id) (t:typeOf (.builtin id)=pure (.type "method_descriptor")) (ty:s.TypeIs v T) (nd:∀a,v= .ref a->∃ob,s.heap.get? a=some ob/\ob.dict=none)
  (h:∀(A:Around) (s₁:Shared) (vs:List Value) (E:Value->Shared->Prop),bW 0 A->P.G s₁.heap->cx s₁.heap hid->fc P L s₁.heap out hid y v->aU P s₁.heap hid xs vs->
   wpAny (model P.prog P.w) A (call (.builtin id) (v::vs)) (fun u s'=>(∀a,v= .ref a->∀b o,b≠a->s₁.heap.get? b=some o->s'.heap.get? b=some o)/\GX s₁.gens s'.gens/\s'.os=s₁.os/\fc P L s'.heap out hid y' v/\Dn P s'.heap hid r u) E s₁):MeQ P name s L out hid y v xs y' r
noncomputable def G9(P:Pk)(name:Str)(F:V->List V->Option (V×V)):Prop:=
 ∀(s:Shared) (L:Addr) (out hid:List Addr) (y:V) (v:Value) (xs:List V) (y' r:V),fc P L s.heap out hid y v->F y xs=some (y',r)->MeQ P name s L out hid y v xs y' r
noncomputable def jc(F:V->List V->Option (V×V))(i:Nat)(g:al->Option (List V)):al->Option (al×V):=fun ρ=>(ρ i).bind fun y=>(g ρ).bind fun xs=>(F y xs).map fun r=>(upd ρ i r.1,r.2)
theorem nK{args:List Expr}{pos:Pos}{env:Env}(cL:(backTo pos (starEach args env)).any (·.1)=false)(bN:args.length<20):((backTo pos (starEach args env)).all (fun x=>!x.1)&&(backToKw pos (keywordEach [] env)).all (fun x=>x.1.isSome)
  &&decide (args.length+([]:List Keyword).length+(if([]:List Keyword).isEmpty then 0 else 1)<30))=true:=by
 have h1:(backTo pos (starEach args env)).all (fun x=>!x.1)=true:=by
  rw[cD];intro q hq;have:=List.any_eq_false.mp cL q hq;simpa using this
 rw[h1];show(true&&true&&decide (args.length+0+0<30))=true;exact eK (show args.length+0+0<30 from Nat.lt_trans bN (by decide))
theorem cu(i:Nat){x:Str}{k:NameKind}{p apos pos:Pos}{name:Str}{args:List Expr}{F g}(hi:K.vars[i]?=some (x,k,true))(hd:(x==("__debug__":Str))=false)(hc:(x==("__classdict__":Str))=false)
  (hm:G9 P name F) (ha:lz P n K false args g) (eF:∀env,starEach args env=args.map fun e=>(false,eval e env)) (bN:args.length<20) (jd:(apos.endLine==pos.line)=true) (je:∀env,attributeBase (.Name x p) name env (eval (.Name x p) env)=eval (.Name x p) env):
  W2 P n K (.Call (.Attribute (.Name x p) name apos) args [] pos) (jc F i g):=fun A env out hid m B s ρ aY z E r S hf=>by
 refine ah hf fun y hy gg=>?_
 clear hf;rename _=>hf
 refine ah hf fun xs xu gg=>?_
 clear hf;rename _=>hf
 refine bV hf ?_;clear hf;rintro⟨y',r'⟩ hF hf;cases hf;have cL:(backTo pos (starEach args env)).any (·.1)=false:=dg eF;refine yI (je env) (nK cL bN) jd ?_;refine eV (S.load hi hy hd hc fun v hv oO=>?_) hd;rw[aw rfl]at hv;obtain⟨T,id,c1,c2,c3,c4,c5,c6⟩:=hm s env.locals out hid y v xs y' r' hv hF;refine⟨T,id,c1,c2,c3,c4,c5,rJ cL ?_⟩;obtain⟨a,rfl,h1,h2,h3,h4⟩:=fc.addr (P:=P) hv;have key:=ha A env out hid m B s ρ xs E pos r S xu;have fin:∀vs s₁,(Kp s s₁/\aU P s₁.heap hid xs vs)->wpAny (model P.prog P.w) A (call (.builtin id) ([Value.ref a]++vs) []) (fun v s'=>YI P K env out hid B s s' (upd ρ i y') r' v) E s₁:=by
  intro vs s₁ ag;have bc:=S.after ag.1;have xZ:fc P env.locals s₁.heap out hid y (.ref a):=fc.grow (P:=P) hv ag.1.keep (fun ø q=>q) fun ø q=>.inl q
  have QD:At env m s₁.heap out hid x k (some (.ref a)):=oO.grow (fun c v q=>q.keeps ag.1.keep) fun ø q=>q
  refine au (c6 A s₁ vs E (r.less (dU _)) bc.G bc.live xZ ag.2) (fun u s' q=>?_) fun ø ø q=>q
  obtain⟨q1,q2,q3,q4,q5⟩:=q;obtain⟨z1,z2⟩:=bc.mut hi QD hy xZ (q1 a rfl) q2 q3 q4;exact⟨hid,m,z1,(Ks.gT ag.1).trans z2,q5⟩
 exact dM cL (au key fin fun ø ø q=>q)
theorem di{e:Expr}{pos:Pos}{f}(h:W2 P n K e f)(hi:∀ρ r,f ρ=some r->r.2= .none)(hs:∀env,swapsWith e none pos.line env=pure false):uk P n K (.Expr e pos) (fun ρ=>(f ρ).map fun r=>(r.1,.next)):=fun A env out hid m B s ρ aY fl E r S hf=>by
 refine bV hf ?_;clear hf;rintro⟨am,x⟩ hx e;cases e;have hn:x= .none:=hi _ _ hx;subst hn;refine wpAny_Expr (au (h A env out hid m B s ρ am .none E r S hx) (fun v s₁ q=>?_) fun ø ø q=>q) ?_ (hs env)
 ·obtain⟨ao,m',S',K',hv⟩:=q
  obtain rfl:=hv.none_inv;exact⟨ao,m',S',K',rfl⟩
 ·unfold interactive;simp[S.fn]
theorem DU(i:Nat){x:Str}{k:NameKind}{p pos:Pos}{e:Expr}{f}(hi:K.vars[i]?=some (x,k,false))(kR:k≠ .free)(h:W2 P n K e f)(hs:∀env,env.kindOf x=some k->swapsWith e (some (.Name x p)) pos.line env=pure false):
  uk P n K (.Assign [.Name x p] e pos) fun ρ=>(f ρ).map fun r=>(upd r.1 i r.2,.next):=fun A env out hid m B s ρ aY fl E r S hf=>by
 refine bV hf ?_;clear hf;rintro⟨am,y⟩ hy e;cases e;refine qD (au (h A env out hid m B s ρ am y E r S hy) (fun v s₁ ag=>?_) fun ø ø q=>q) (hs env (S.kind i x k _ hi));obtain⟨ao,m',S',K',hv⟩:=ag;exact S'.store hi hv (fun q=>by cases q) kR fun m'' hZ YJ K'' ø=>⟨ao,m'',YJ,K'.trans K'',rfl⟩
end
section
variable{P:Pk}{n:Nat}{K:Cx}{lo:Bool}
theorem fc.em{L h out hid l v}(e:fc P L h out hid (.list l) v):∃a vs,v= .ref a/\a∈hid/\a∉out/\a≠L/\h.PlainList a vs.toArray/\aU P h hid l vs:=e
theorem fc.ofList{L h out hid l a vs}(h1:a∈hid)(h2:a∉out)(h3:a≠L)(h4:h.PlainList a vs.toArray)(h5:aU P h hid l vs):fc P L h out hid (.list l) (.ref a):=⟨a,vs,rfl,h1,h2,h3,h4,h5⟩
theorem fc.fe{L h out hid ks l v}(e:fc P L h out hid (.dict ks l) v):∃a vs,v= .ref a/\a∈hid/\a∉out/\a≠L/\(a==sysModules)=false/\vs.length=ks.length/\h.DictOf (intKind P.prog P.w) a (ks.zip vs)/\aU P h hid l vs:=e
theorem aU.cons_inv{h:Heap}{hid x xs vs}(e:aU P h hid (x::xs) vs):∃v r,vs=v::r/\Dn P h hid x v/\aU P h hid xs r:=e
theorem aU.nil_inv{h:Heap}{hid vs}(e:aU P h hid [] vs):vs=[]:=e
theorem aU.but{h h':Heap}{hid l vs}{a:Addr}(e:aU P h hid l vs)(ha:a∈hid)(hs:Heap.SameBut a h h'):aU P h' hid l vs:=e.grow (fun b o hb q=>(hs.2 b fun z=>hb (z▸ha)).trans q) fun ø q=>.inl q
theorem Dn.but{h h':Heap}{hid l vs}{a:Addr}(e:Dn P h hid l vs)(ha:a∈hid)(hs:Heap.SameBut a h h'):Dn P h' hid l vs:=e.grow (fun b o hb q=>(hs.2 b fun z=>hb (z▸ha)).trans q) fun ø q=>.inl q
theorem jf{h:Heap}{a:Addr}{xs ys:Array Value}{k:Nat}{f:Array Value->Array Value}(e:h.get? a=some {cls:=.type "list",data:=.seq xs k})(hf:f xs=ys):(h.update a (Obj.mapSeq f)).PlainList a ys:=by
 subst hf;refine⟨if(f xs).size==xs.size then k else k+1,?_⟩;have:Obj.mapSeq f {cls:=.type "list",data:=.seq xs k}={cls:=.type "list",data:=.seq (f xs) (if(f xs).size==xs.size then k else k+1)}:=rfl;rw[m8 _ e (by rw[this];rfl),this]
theorem DV{name:Str}{id:String}{F:V->List V->Option (V×V)}(hF0:∀y xs r,F y xs=some r->∃l,y= .list l)(slot:Slot "list" name id)(W3:typeOf (.builtin id)=pure (.type "method_descriptor"))
  (h:∀(A:Around) (s:Shared) (hid:List Addr) (a:Addr) (l:List V) (ws vs:List Value) (xs:List V) (l' r:V) (E:Value->Shared->Prop),bW 0 A->a∈hid->s.heap.PlainList a ws.toArray->aU P s.heap hid l ws->aU P s.heap hid xs vs->F (.list l) xs=some (l',r)->
   wpAny (model P.prog P.w) A (call (.builtin id) (.ref a::vs)) (fun u s'=>Heap.SameBut a s.heap s'.heap/\GX s.gens s'.gens/\s'.os=s.os/\(∃l₂ DW,l'= .list l₂/\s'.heap.PlainList a DW.toArray/\aU P s'.heap hid l₂ DW)/\Dn P s'.heap hid r u) E s):G9 P name F:=
 fun s L out hid y v xs y' r hb hF=>by
 obtain⟨l,rfl⟩:=hF0 _ _ _ hF;obtain⟨a,vs,rfl,h1,h2,h3,h4,h5⟩:=fc.em hb;refine⟨"list",id,Dk,slot,W3,h4.isList.typeIs,fun b e=>?_,fun A s₁ gS E rm G live hb hx=>?_⟩
 ·cases e;obtain⟨k,e⟩:=h4;exact⟨_,e,rfl⟩
 ·obtain⟨a',ws,e,c1,c2,c3,c4,c5⟩:=fc.em hb
  cases e;refine au (h A s₁ hid a l ws gS xs y' r E rm c1 c4 c5 hx hF) (fun u s' q=>?_) fun ø ø q=>q
  obtain⟨q1,q2,q3,⟨l₂,DW,rfl,q4,q5⟩,q6⟩:=q;exact⟨fun b e c o bN z=>by cases e;exact(q1.2 c bN).trans z,q2,q3,fc.ofList c1 c2 c3 q4 q5,q6⟩
theorem vn{y:V}{γ:Type}{f:List V->Option γ}{r:γ}(h:y.gE.bind f=some r):∃l,y= .list l:=ah h fun l hl ø=>⟨l,V.fQ hl⟩
noncomputable def V.AY:V->Option (List Int×List V)
 | .dict ks vs=>some (ks,vs)
 |_=>Option.none
theorem V.oC{x:V}{a}(h:x.AY=some a):x= .dict a.1 a.2:=by
 cases x<;>first|exact congrArg (fun p:List Int×List V=>V.dict p.1 p.2) (Option.some.inj h)|cases h
noncomputable def V.one?:List V->Option V
 |[x]=>some x
 |_=>Option.none
theorem V.gF:∀{xs:List V} {x},V.one? xs=some x->xs=[x]
 |[_],_,h=>congrArg (fun x=>[x]) (Option.some.inj h)
 |[],_,h|_::_::_,_,h=>nomatch h
noncomputable def DX(y:V)(xs:List V):Option (V×V):=y.gE.bind fun l=>(V.one? xs).bind fun x=>if l.length<most then some (.list (l++[x]),.none)else none
theorem Nh(l:List V)(x:V):DX (.list l) [x]=if l.length<most then some (.list (l++[x]),.none)else none:=id rfl
theorem qS:G9 P "append" DX:=DV (id:="list.append") (fun y xs r h=>vn h) PySem.F.slot_list_append PySem.F.type_list_append fun A s hid a l ws vs xs l' r E rm ha hl hd hx hF=>
 ah (o:=V.one? xs) hF fun x IS hF=>eN hF fun hlen e=>by
 cases V.gF IS;obtain⟨rfl,rfl⟩:=jQ e;refine hx.one_k fun u hu=>?_
 refine Dl hl (fun h' jK hs=>⟨hs,.refl _,rfl,⟨_,ws++[u],rfl,by simpa using jK,(aU.but hd ha hs).app (.one (Dn.but hu ha hs))⟩,.r9⟩) ?_;rw[bM,hd.length];exact aA (eY hlen) cZ
theorem aU.erase{h:Heap}{hid}:∀{l:List V} {ws:List Value} (k:Nat),aU P h hid l ws->aU P h hid (l.eraseIdx k) (ws.eraseIdx k)
 |[],ws,k,e=>by obtain rfl:=aU.nil_inv e;simpa using e
 |x::l,ws,0,e=>by
  obtain⟨v,r,rfl,h1,h2⟩:=aU.cons_inv e;simpa using h2
 |x::l,ws,k+1,e=>by
  obtain⟨v,r,rfl,h1,h2⟩:=aU.cons_inv e;simp only[List.eraseIdx_cons_succ];exact .cons h1 (aU.erase k h2)
theorem sh(ws:List Value)(k:Nat):ws.toArray.eraseIdxIfInBounds k=(ws.eraseIdx k).toArray:=by
 simp
noncomputable def ff(i:Int)(n:Nat):Option Nat:=if 0<=i then(if i<n then some i.toNat else none)else if 0<=i+n then some (i+n).toNat else none
noncomputable def T9(l:List V):List V->Option (V×V)
 |[]=>l.getLast?.bind fun x=>if l.length<=most then some (.list l.dropLast,x)else none
 |[y]=>y.int?.bind fun i=>(ff i l.length).bind fun k=>l[k]?.bind fun x=>if l.length<=most then some (.list (l.eraseIdx k),x)else none
 |_=>none
noncomputable def DY(y:V)(xs:List V):Option (V×V):=y.gE.bind fun l=>T9 l xs
theorem QE(l:List V):DY (.list l) []=l.getLast?.bind fun x=>if l.length<=most then some (.list l.dropLast,x)else none:=id rfl
theorem QF(l:List V)(i:Int):DY (.list l) [.int i]=(ff i l.length).bind fun k=>l[k]?.bind fun x=>if l.length<=most then some (.list (l.eraseIdx k),x)else none:=id rfl
theorem AZ{i:Int}{n k:Nat}(h:ff i n=some k)(hn:n<=1000000):seqIndex? i n=some k/\Builtin.List.listFitsIndex i=true:=by
 unfold ff at h;unfold seqIndex? Builtin.List.listFitsIndex;by_cases h0:0<=i
 ·rw[aw h0]at h
  refine eN h fun h1 e=>?_
  subst e;clear h;simp[show ¬i<0 by omega];omega
 ·rw[az h0]at h
  refine eN h fun h1 e=>?_
  subst e;clear h;simp[show i<0 by omega];omega
theorem Pr:G9 P "pop" DY:=DV (id:="list.pop") (fun y xs r h=>vn h) uW PySem.F.type_list_pop fun A s hid a l ws vs xs l' r E rm ha hl hd hx hF=>by
 obtain⟨e0,DZ⟩:=id hl;have hlen:=hd.length;replace hF:T9 l xs=some (l',r):=hF
 cases xs with
 |nil=>
  obtain rfl:=aU.nil_inv hx;refine ah hF fun x hg hF=>eN hF fun hle e=>?_
  obtain⟨rfl,rfl⟩:=jQ e;clear hF hx;have bN:l≠[]:=by rintro rfl;simp at hg
  have QG:l[l.length-1]?=some x:=by rw[<-List.getLast?_eq_getElem?];exact hg
  obtain⟨v,hv,QH⟩:=aV.get hd QG;have I6:0<l.length:=uX.mpr bN;refine rK uW hl.isList.typeIs Dm (PySem.F.args_list_pop_1 _) (PySem.MeetsSeq.list_pop_last a ws.toArray e0 v (by simpa[hlen]using hv) (by rw[bM,hlen];exact aA hle cZ)) ⟨DZ,?_⟩;have hs:Heap.SameBut a s.heap (s.heap.update a (Obj.mapSeq fun xs=>xs.eraseIdxIfInBounds (ws.toArray.size-1))):=pe ..;refine⟨hs,.refl _,rfl,⟨_,ws.eraseIdx (ws.length-1),rfl,jf DZ (by rw[bM,sh]),?_⟩,Dn.but QH ha hs⟩;have:=aU.but (aU.erase (ws.length-1) hd) ha hs;rw[hlen]at this ⊢;rwa[List.eraseIdx_eq_dropLast (rN I6)]at this
 |cons y xs=>cases xs with
  |cons _ _=>cases hF
  |nil=>
   refine ah hF fun i hi hF=>ah hF fun k hp hF=>ah hF fun x hg hF=>eN hF fun hle e=>?_
   obtain⟨rfl,rfl⟩:=jQ e;refine hx.one_k fun u hu=>hu.int_k hi fun t=>?_
   obtain⟨v,hv,QH⟩:=aV.get hd hg;have TE:=AZ hp (aA hle (cF 1000000));refine rK uW hl.isList.typeIs Dm (PySem.F.args_list_pop_2 _ _) (PySem.MeetsSeq.list_pop_at a ws.toArray e0 i t k v TE.2 (by rw[bM,hlen];exact TE.1) (by simpa using hv) (by rw[bM,hlen];exact aA hle cZ)) ⟨DZ,?_⟩;have hs:Heap.SameBut a s.heap (s.heap.update a (Obj.mapSeq fun xs=>xs.eraseIdxIfInBounds k)):=pe ..;exact⟨hs,.refl _,rfl,⟨_,ws.eraseIdx k,rfl,jf DZ (sh ..),aU.but (aU.erase k hd) ha hs⟩,Dn.but QH ha hs⟩
noncomputable def V.Ni:List V->Option (V×V)
 |[x,y]=>some (x,y)
 |_=>Option.none
theorem V.A0:∀{xs:List V} {x},V.Ni xs=some x->xs=[x.1,x.2]
 |[_,_],_,h=>congrArg (fun x=>[x.1,x.2]) (Option.some.inj h)
 |[],_,h|[_],_,h|_::_::_::_,_,h=>nomatch h
noncomputable def Nj(y:V)(xs:List V):Option (V×V):=y.gE.bind fun l=>(V.Ni xs).bind fun p=>p.1.int?.bind fun i=>if 0<=i/\i<=1000/\l.length<most then some (.list (l.insertIdx (min i.toNat l.length) p.2),.none)else none
theorem QI(l:List V)(i:Int)(x:V):Nj (.list l) [.int i,x]=if 0<=i/\i<=1000/\l.length<most then some (.list (l.insertIdx (min i.toNat l.length) x),.none)else none:=id rfl
theorem aU.insert{h:Heap}{hid}{x:V}{v:Value}(hx:Dn P h hid x v):∀{l:List V} {ws:List Value} (k:Nat),k<=l.length->aU P h hid l ws->aU P h hid (l.insertIdx k x) (ws.take k++v::ws.drop k)
 |l,ws,0,_,e=>by simpa using aV.cons hx e
 |[],ws,k+1,hk,e=>by simp at hk
 |y::l,ws,k+1,hk,e=>by
  obtain⟨u,r,rfl,h1,h2⟩:=aU.cons_inv e;simp only[List.insertIdx_succ_cons,Do,List.drop_succ_cons,List.cons_append];exact .cons h1 (aU.insert hx k (by simpa using hk) h2)
theorem Ua:G9 P "insert" Nj:=DV (id:="list.insert") (fun y xs r h=>vn h) PySem.F.slot_list_insert PySem.F.type_list_insert fun A s hid a l ws vs xs l' r E rm ha hl hd hx hF=>
 ah (o:=V.Ni xs) hF fun p hp hF=>ah hF fun i hi hF=>eN hF fun hc e=>by
 cases V.A0 hp;obtain⟨rfl,rfl⟩:=jQ e;obtain⟨e0,DZ⟩:=id hl;have hlen:=hd.length;refine hx.two_k fun u u' hu YK=>hu.int_k hi fun t=>?_
 clear hx hF hp hu;refine rK PySem.F.slot_list_insert hl.isList.typeIs PySem.F.entry_list_insert (PySem.F.args_list_insert_3 _ _ _) (AutoSeq1.list_insert_list_int_val_1 a ws.toArray e0 i t u' (by unfold Builtin.List.listFitsIndex;have:=hc.1;have:=hc.2.1;clear hd DZ hl;simp;omega) (by rw[bM,hlen];exact aA (eY hc.2.2) cZ)) ⟨DZ,?_⟩;have hs:∀f,Heap.SameBut a s.heap (s.heap.update a (Obj.mapSeq f)):=fun f=>pe ..
 refine⟨hs _,.refl _,rfl,⟨_,ws.take (min i.toNat l.length)++u'::ws.drop (min i.toNat l.length),rfl,jf DZ ?_,?_⟩,.r9⟩
 ·dsimp only
  rw[az (Int.not_lt.mpr hc.1),bM,hlen];apply Array.toList_inj.mp;simp;rw[rO (by simp[hlen])]
 ·exact aU.but (aU.insert YK _ (Nat.min_le_right _ _) hd) ha (hs _)
end
section
variable{P:Pk}{n:Nat}{K:Cx}{lo:Bool}
structure Mv0(W:List Addr)(gi:Option Nat)(s s':Shared):Prop where
 keep:∀b o,b∉W->s.heap.get? b=some o->s'.heap.get? b=some o
 gens:∀(i:Nat) x,gi≠some i->s.gens[i]?=some x->s'.gens[i]?=some x
 bare:AllBare s.gens->AllBare s'.gens
 os:s'.os=s.os
structure Mv(W:List Addr)(gi:Option Nat)(s s':Shared):Prop extends Mv0 W gi s s' where
 live:cx s'.heap W
noncomputable def owners:List String:=["enumerate","zip","dict_itemiterator","dict_reverseitemiterator","odict_iterator","itertools.zip_longest","itertools.pairwise"]
noncomputable def Quiet(s:Shared)(I:Addr):Prop:=∃o T,s.heap.get? I=some o/\o.cls= .type T/\owners.contains T=false
inductive Ub(P:Pk)(hid:List Addr)(x:V)(St:List Addr->Nat->Shared->Prop)(i:Nat)(I:Addr)(W:List Addr)(gi:Option Nat)(s s':Shared)(r:Option Value):Prop
 |mk (v:Value) (e:r=some v) (d:Dn P s'.heap hid x v) (st:St hid i s') (q:Quiet s' I) (mv:Mv W gi s s'):Ub P hid x St i I W gi s s' r
structure uA(P:Pk)(A:Around)(I:Addr)(W:List Addr)(gi:Option Nat)(xs:List V)(St:List Addr->Nat->Shared->Prop):Prop where
 frame:∀hid ao i s s',(∀a∈W,a∈hid)->St hid i s->Ks W hid ao s s'->St ao i s'
 self:∀hid i s (Q:Value->Shared->Prop) (E:Value->Shared->Prop),St hid i s->Q (.ref I) s->wpAny (model P.prog P.w) A (pyIter (.ref I)) Q E s
 item:∀hid i s x (E:Value->Shared->Prop),xs[i]?=some x->(∀a∈W,a∈hid)->P.G s.heap->cx s.heap hid->St hid i s->
  wpAny (model P.prog P.w) A (pyNext (.ref I)) (fun r s'=>Ub P hid x St (i+1) I W gi s s' r) E s
 done:∀hid s (E:Value->Shared->Prop),(∀a∈W,a∈hid)->P.G s.heap->cx s.heap hid->St hid xs.length s->wpAny (model P.prog P.w) A (pyNext (.ref I)) (fun r s'=>r=none/\Mv0 W gi s s') E s
theorem vo{M:Model}{A:Around}{E:Value->Shared->Prop}{s:Shared}{target:Expr}{I:Addr}{v:Value}{Q:Unit->Shared->Prop}(h:Quiet s I)(hQ:Q () s):wpAny M A (letOwnedTupleGo target (.ref I) v) Q E s:=by
 obtain⟨o,T,ho,hc,hT⟩:=h;unfold letOwnedTupleGo;have aux:wpAny M A (do
   let(.ref r,.ref a):=(Value.ref I,v)|return
   let o <-load r
   match o.cls,o.data with
   | .type n,.fields vs=>
     if owners.contains n&&vs[0]?==some (rawInt a)then
      rule "for.unpacks-the-owned-tuple"
      updateField r 0 .none
   |_,_=>pure ():Sem Unit) Q E s:=by
  cases v<;>try exact bd hQ
  refine ar (wpAny_load ho ?_);rw[hc];cases hd:o.data<;>try exact bd hQ
  dsimp only;rw[hT];exact bd hQ
 cases target<;>first|exact aux|exact bd hQ
inductive TF(P:Pk)(K:Cx)(lc:Bool)(env:Env)(out hid:List Addr)(B s s':Shared)(aY:al):Prop
 |mk (ao:List Addr) (m':Str->Option Value) (S:aB P K env out ao m' B s' aY) (k:Ks out hid ao s s') (l:lc=true->∀b o,b≠env.locals->s.heap.get? b=some o->s'.heap.get? b=some o):TF P K lc env out hid B s s' aY
theorem TF.pre{lc:Bool}{env:Env}{out hid ck:List Addr}{B s s₁ s':Shared}{aY:al}(q:TF P K lc env out ck B s₁ s' aY)(k:Ks out hid ck s s₁)(l:lc=true->∀b o,b≠env.locals->s.heap.get? b=some o->s₁.heap.get? b=some o):TF P K lc env out hid B s s' aY:=by
 obtain⟨a,b,c,d,e⟩:=q;exact⟨a,b,c,k.trans d,fun h b o hb q=>e h b o hb (l h b o hb q)⟩
noncomputable def zd(P:Pk)(K:Cx)(lc:Bool)(t:Expr)(a:al->V->Option al):Prop:=
 ∀(A:Around) (env:Env) (out hid:List Addr) (m:Str->Option Value) (B s:Shared) (ρ aY:al) (x:V) (v:Value) (E:Value->Shared->Prop),A.handled=none->aB P K env out hid m B s ρ->a ρ x=some aY->Dn P s.heap hid x v->
  wpAny (model P.prog P.w) A (assign t env v) (fun ø s'=>TF P K lc env out hid B s s' aY) E s
theorem ap{lc:Bool}(i:Nat){x:Str}{k:NameKind}{p:Pos}(hi:K.vars[i]?=some (x,k,false))(kR:k≠ .free)(YL:lc=true->k= .local):zd P K lc (.Name x p) fun ρ y=>some (upd ρ i y):=fun A env out hid m B s ρ aY y v E hh S hf hv=>by
 cases hf;exact na (S.store hi hv (fun q=>by cases q) kR fun m' s' S' K' hl=>⟨hid,m',S',K',fun e=>hl.1 (YL e)⟩)
noncomputable def I7(P:Pk)(K:Cx)(lc:Bool)(ts:List Expr)(a:al->List V->Option al):Prop:=
 ∀(A:Around) (env:Env) (out hid:List Addr) (m:Str->Option Value) (B s:Shared) (ρ aY:al) (xs:List V) (vs:List Value) (E:Value->Shared->Prop),A.handled=none->aB P K env out hid m B s ρ->a ρ xs=some aY->aU P s.heap hid xs vs->
  wpAny (model P.prog P.w) A (assignInOrder (ts.map fun t=>assign t env) vs) (fun ø s'=>TF P K lc env out hid B s s' aY) E s
noncomputable def pk:al->List V->Option al:=fun ρ xs=>match xs with|[]=>some ρ|_=>none
noncomputable def dP(a:al->V->Option al)(b:al->List V->Option al):al->List V->Option al:=fun ρ xs=>match xs with|x::xs=>(a ρ x).bind fun aY=>b aY xs|[]=>none
theorem bX{lc:Bool}:I7 P K lc [] pk:=fun A env out hid m B s ρ aY xs vs E hh S hf hv=>by
 cases xs with
 |nil=>
  cases hf;obtain rfl:=aU.nil_inv hv;exact wpAny_assignInOrder_none ⟨hid,m,S,.refl ..,fun ø ø ø ø h=>h⟩
 |cons=>cases hf
theorem ay{lc:Bool}{t:Expr}{ts:List Expr}{a b}(h:zd P K lc t a)(hs:I7 P K lc ts b):I7 P K lc (t::ts) (dP a b):=fun A env out hid m B s ρ aY xs vs E hh S hf hv=>by
 cases xs with
 |nil=>cases hf
 |cons x xs=>
  refine ah hf ?_;rintro am h1 h2;obtain⟨v,r,rfl,hv1,YM⟩:=aU.cons_inv hv;refine wpAny_assignInOrder_more (au (h A env out hid m B s ρ am x v E hh S h1 hv1) (fun ø s₁ q=>?_) fun ø ø q=>q);obtain⟨ck,m₁,bc,gh,YN⟩:=q;exact au (hs A env out ck m₁ B s₁ am aY xs r E hh bc h2 (YM.ks gh)) (fun ø s₂ q=>q.pre gh YN) fun ø ø q=>q
theorem cH:∀ρ xs aY,pk ρ xs=some aY->xs.length=0:=fun ρ xs aY h=>by cases xs<;>first|rfl|cases h
theorem aE{a b k}(hb:∀ρ xs aY,b ρ xs=some aY->xs.length=k):∀ρ xs aY,dP a b ρ xs=some aY->xs.length=k+1:=fun ρ xs aY h=>by
 cases xs with
 |nil=>cases h
 |cons x xs=>
  refine ah h ?_;rintro am _ h2;simp[hb _ _ _ h2]
noncomputable def tJ(b:al->List V->Option al):al->V->Option al:=fun ρ x=>x.Qv.bind (b ρ)
theorem Nk(b:al->List V->Option al)(ρ:al)(l:List V):tJ b ρ (.tup l)=b ρ l:=rfl
theorem I8(a:al->V->Option al)(b:al->List V->Option al)(ρ:al)(x:V)(xs:List V):dP a b ρ (x::xs)=(a ρ x).bind fun aY=>b aY xs:=rfl
theorem Nl(ρ:al):pk ρ []=some ρ:=rfl
theorem da{lc:Bool}{ts:List Expr}{k:Nat}{p:Pos}{b}(h:I7 P K lc ts b)(hl:∀ρ xs aY,b ρ xs=some aY->xs.length=ts.length)(he:∀env,assignEach ts env=ts.map fun t=>(false,assign t env)):zd P K lc (.Tuple ts k p) (tJ b):=
 fun A env out hid m B s ρ aY x v E hh S hf hv=>by
 refine ah hf fun l jK hf=>?_
 cases V.AU jK;obtain⟨a,vs,rfl,ha,ht,hd⟩:=hv.oA;refine Dp hh ht.zb ?_ ?_ fun h' hx=>?_
 ·rw[he,bi,bM,hd.length,hl _ _ _ hf]
 ·rw[he]
  rw[Dq];intro q hq;obtain⟨t,_,rfl⟩:=bP.mp hq;rfl
 ·have e:(assignEach ts env).map (·.2)=ts.map fun t=>assign t env:=by rw[he];simp
  rw[e];have k1:Kp s {s with heap:=h'}:=.heap fun b o q=>hx b o (fun z=>by rw[z,aP]at q;cases q) q
  refine au (h A env out hid m B {s with heap:=h'} ρ aY l vs E hh (S.after k1) hf (hd.kp k1)) (fun ø s₂ q=>q.pre (Ks.gT k1) fun ø b o ø q=>k1.keep b o q) fun ø ø q=>q
inductive TG(P:Pk)(A:Around)(hid:List Addr)(xs:List V)(s s₂:Shared)(it:Value):Prop
 |mk (I:Addr) (W:List Addr) (gi:Option Nat) (St:List Addr->Nat->Shared->Prop) (e:it= .ref I) (k:Kp s s₂) (h:uA P A I W gi xs St) (f:∀a∈W,s.heap.get? a=none) (l:cx s₂.heap W) (g:∀g,gi=some g->s.gens.size<=g) (st:St (W++hid) 0 s₂):TG P A hid xs s s₂ it
noncomputable def QJ(P:Pk)(n:Nat)(K:Cx)(e:Expr)(f:al->Option (List V)):Prop:=
 ∀(A:Around) (env:Env) (out hid:List Addr) (m:Str->Option Value) (B s:Shared) (ρ:al) (xs:List V) (E:Value->Shared->Prop),bW n A->aB P K env out hid m B s ρ->f ρ=some xs->
  wpAny (model P.prog P.w) A (eval e env) (fun v s₁=>wpAny (model P.prog P.w) A (pyIter v) (fun it s₂=>TG P A hid xs s s₂ it) E s₁) E s
noncomputable def fg(asg:al->V->Option al)(body:al->Option (al×Fl)):List V->al->Option (al×Fl)
 |[],ρ=>some (ρ,.next)
 |x::xs,ρ=>(asg ρ x).bind fun am=>(body am).bind fun r=>match r.2 with
  | .next| .cont=>fg asg body xs r.1
  | .brk=>some (r.1,.next)
  | .ret v=>some (r.1,.ret v)
theorem vp(asg:al->V->Option al)(body:al->Option (al×Fl))(x:V)(xs:List V)(ρ:al):fg asg body (x::xs) ρ=(asg ρ x).bind fun am=>(body am).bind fun r=>match r.2 with
 | .next| .cont=>fg asg body xs r.1
 | .brk=>some (r.1,.next)
 | .ret v=>some (r.1,.ret v):=rfl
noncomputable def Ha(it:al->Option (List V))(asg:al->V->Option al)(body:al->Option (al×Fl)):al->Option (al×Fl):=fun ρ=>(it ρ).bind fun xs=>fg asg body xs ρ
theorem aB.I9{env:Env}{out hid W X:List Addr}{m}{B s:Shared}{ρ}(S:aB P K env out hid m B s ρ){s':Shared}(k:Kp s s')(hW:∀a∈W,s.heap.get? a=none)(lW:cx s'.heap W)(hX:∀a∈X,s.heap.get? a=none)(lX:cx s'.heap X):aB P K env (W++out) (W++(X++hid)) m B s' ρ:=by
 have hn:∀a,a∈hid->a∉W:=fun a h q=>by obtain⟨o,e⟩:=S.live a h;rw[hW a q]at e;cases e
 have toB:∀a,s.heap.get? a=none->B.heap.get? a=none:=fun a h=>by
  cases e:B.heap.get? a with
  |none=>rfl
  |some o=>rw[S.kp.keep a o e]at h;cases h
 exact S.map (fun a h=>(cr.mp h).elim (lW a) fun h=>(cr.mp h).elim (lX a) (S.live.kp k a)) (fun a h=>(cr.mp h).elim (fun q=>bj _ q) fun q=>bw _ (bw _ (S.oh a q)))
  (S.ns.keeps k.keep) (S.kp.trans k) (fun a h ho=>(cr.mp h).elim (fun q=>absurd (bj _ q) ho) fun h=>(cr.mp h).elim (fun q=>toB a (hX a q)) fun q=>S.own a q fun z=>ho (bw _ z))
  (fun a h ho=>⟨bw _ (bw _ h),fun q=>(cr.mp q).elim (hn a h) ho,k.keep a⟩) (fun a o ø e=>k.keep a o e)
  fun a h=>(cr.mp h).elim (fun q=>.inr (hW a q)) fun h=>(cr.mp h).elim (fun q=>.inr (hX a q)) .inl
theorem aB.outer{env:Env}{out hid W:List Addr}{m}{B s:Shared}{ρ}(S:aB P K env out hid m B s ρ){s':Shared}(k:Kp s s')(hW:∀a∈W,s.heap.get? a=none)(lW:cx s'.heap W):aB P K env (W++out) (W++hid) m B s' ρ:=
 S.I9 (X:=[]) k hW lW (fun a h=>nomatch h) fun a h=>nomatch h
theorem aB.inner{env:Env}{out hid W:List Addr}{m}{B s:Shared}{ρ}(S:aB P K env (W++out) hid m B s ρ)(hW:∀a∈W,B.heap.get? a=none):aB P K env out hid m B s ρ:=
 S.map S.live (fun a h=>S.oh a (bw _ h)) S.ns S.kp (fun a h ho=>by
  by_cases q:a∈W
  ·exact hW a q
  ·exact S.own a h fun z=>(cr.mp z).elim q ho) (fun a h ho=>⟨h,fun q=>ho (bw _ q),fun ø e=>e⟩) (fun ø ø ø e=>e) fun ø h=>.inl h
theorem Fv{W:List Addr}{gi:Option Nat}{g0:Array GenState}{s s':Shared}(v:Mv0 W gi s s')(hg:∀g,gi=some g->g0.size<=g)(k:GX g0 s.gens):GX g0 s'.gens:=
 ⟨fun i x h=>v.gens i x (fun e=>by
  have:=hg i e;have:i<g0.size:=(yJ.mp h).1;omega) (k.1 i x h),fun h=>v.bare (k.2 h)⟩
theorem GX.size{g g':Array GenState}(h:GX g g'):g.size<=g'.size:=
 yK fun h1=>pI _ (yJ.mp (h.1 g'.size g[g'.size] (Array.getElem?_eq_getElem h1))).1
theorem aB.step{env:Env}{out hid W:List Addr}{gi:Option Nat}{m}{B s s':Shared}{ρ}(S:aB P K env out hid m B s ρ)(TH:∀a∈W,a∈out)(v:Mv W gi s s')(hW:∀a∈W,B.heap.get? a=none)(hg:∀g,gi=some g->B.gens.size<=g):aB P K env out hid m B s' ρ:=
 have vq:∀a∈W,a∈hid:=fun a h=>S.oh a (TH a h)
 S.map (fun a h=>by
  by_cases q:a∈W
  ·exact v.live a q
  ·obtain⟨o,ho⟩:=S.live a h
   exact⟨o,v.keep a o q ho⟩) S.oh (S.ns.elim fun o q=>q.elim fun es q=>q.elim fun ep q=>⟨o,es,ep,v.keep _ o (fun z=>S.Lo (TH _ z)) q.1,q.2⟩)
  ⟨fun b o h=>v.keep b o (fun z=>by rw[hW b z]at h;cases h) (S.kp.keep b o h),Fv v.toMv0 hg S.kp.gens,v.os.trans S.kp.os⟩ S.own (fun a h ho=>⟨h,ho,fun o=>v.keep a o fun z=>ho (TH a z)⟩) (fun a o h=>v.keep a o fun z=>h (vq a z)) fun ø h=>.inl h
theorem Ks.mv{out lH hid W:List Addr}{gi:Option Nat}{aW s s':Shared}(k:Ks out lH hid aW s)(v:Mv0 W gi s s')(hW:∀a∈W,aW.heap.get? a=none)(hg:∀g,gi=some g->aW.gens.size<=g):Ks out lH hid aW s' where
 keep:=fun b o hb h=>v.keep b o (fun z=>by rw[hW b z]at h;cases h) (k.keep b o hb h)
 new:=k.new
 sub:=k.sub
 gens:=Fv v hg k.gens
 os:=v.os.trans k.os
theorem aB.last{env:Env}{out hid W:List Addr}{gi:Option Nat}{m}{B s s':Shared}{ρ}(S:aB P K env (W++out) hid m B s ρ)(v:Mv0 W gi s s')(hW:∀a∈W,B.heap.get? a=none)(hg:∀g,gi=some g->B.gens.size<=g)(QK:∀a∈out,a∉W):
  aB P K env out (hid.filter fun a=>!W.contains a) m B s' ρ:=by
 have mem:∀a,a∈hid.filter (fun a=>!W.contains a)<->a∈hid/\a∉W:=fun a=>by simp[kI]
 have vq:∀a∈W,a∈hid:=fun a h=>S.oh a (bj _ h)
 have hLW:env.locals∉W:=fun z=>S.Lo (bj _ z)
 exact S.map (fun a h=>(S.live a ((mem a).mp h).1).elim fun o ho=>⟨o,v.keep a o ((mem a).mp h).2 ho⟩) (fun a h=>(mem a).mpr ⟨S.oh a (bw _ h),QK a h⟩)
  (S.ns.elim fun o q=>q.elim fun es q=>q.elim fun ep q=>⟨o,es,ep,v.keep _ o hLW q.1,q.2⟩)
  ⟨fun b o h=>v.keep b o (fun z=>by rw[hW b z]at h;cases h) (S.kp.keep b o h),Fv v hg S.kp.gens,v.os.trans S.kp.os⟩ (fun a h ho=>S.own a ((mem a).mp h).1 fun z=>(cr.mp z).elim ((mem a).mp h).2 ho)
  (fun a h ho=>⟨(mem a).mpr ⟨h,fun z=>ho (bj _ z)⟩,fun q=>ho (bw _ q),fun o=>v.keep a o fun z=>ho (bj _ z)⟩) (fun a o h=>v.keep a o fun z=>h (vq a z)) fun a h=>.inl ((mem a).mp h).1
theorem Ks.last{out lH hid W:List Addr}{aW s:Shared}(k:Ks out lH hid aW s)(hW:∀a∈W,a∉lH):Ks out lH (hid.filter fun a=>!W.contains a) aW s where
 keep:=k.keep
 new:=fun a h=>k.new a (kI.mp h).1
 sub:=fun a h=>kI.mpr ⟨k.sub a h,by have:a∉W:=fun z=>hW a z h;simp[this]⟩
 gens:=k.gens
 os:=k.os
theorem Ks.only{out W hid ao s s'}(k:Ks out hid ao s s')(h:∀a∈W,a∈out):Ks W hid ao s s':=⟨fun b o hb q=>k.keep b o (hb.imp id (h b)) q,k.new,k.sub,k.gens,k.os⟩
theorem Ks.behind{out lH hid ao W:List Addr}{aW s s':Shared}(k:Ks out lH hid aW s)(v:Ks (W++out) hid ao s s'):Ks out lH ao aW s':=
 k.trans ⟨fun b o hb h=>v.keep b o (hb.imp id fun q=>bw _ q) h,v.new,v.sub,v.gens,v.os⟩
theorem aB.fresh{env:Env}{out hid:List Addr}{m}{B s:Shared}{ρ}(S:aB P K env out hid m B s ρ){a:Addr}(h:s.heap.get? a=none):B.heap.get? a=none:=by
 induction e:B.heap.get? a with
 |none=>rfl
 |some o=>exact nomatch(S.kp.keep a o e).symm.trans h
noncomputable def FE(P:Pk)(A:Around)(E:Value->Shared->Prop)(env:Env):Value->Shared->Prop:=notedBy (model P.prog P.w) A env fun e s'=>cameBackBy (model P.prog P.w) A env E e s'
noncomputable def FB(Q:Flow->Shared->Prop)(J:Shared->Prop)(f:Flow)(s:Shared):Prop:=match f with
 | .next| .cont=>J s
 | .brk=>Q .next s
 | .ret v=>Q (.ret v) s
noncomputable def FA(P:Pk)(A:Around)(E:Value->Shared->Prop)(env:Env)(Q:Flow->Shared->Prop)(target:Expr)(body:List Stmt)(J:Shared->Prop)(v:Value)(_:Unit)(s:Shared):Prop:=
 wpAny (model P.prog P.w) A (assign target env v) (fun ø=>wpAny (model P.prog P.w) A (execs body env) (FB Q J) (FE P A E env)) (FE P A E env) s
noncomputable def FT(P:Pk)(A:Around)(E:Value->Shared->Prop)(env:Env)(Q:Flow->Shared->Prop)(target:Expr)(body:List Stmt)(J:Shared->Prop)(it:Value)(r:Option Value)(s:Shared):Prop:=
 r.elim (Q .next s) fun v=>wpAny (model P.prog P.w) A (letOwnedTupleGo target it v) (FA P A E env Q target body J v) (FE P A E env) s
inductive FG(P:Pk)(A:Around)(E:Value->Shared->Prop)(env:Env)(Q:Flow->Shared->Prop)(target:Expr)(body:List Stmt)(it:Value)(s:Shared):Prop
 |mk (I:Nat->Shared->Prop) (n:Nat) (h:I n s) (turn:∀n s,I n s->wpAny (model P.prog P.w) A (pyNext it) (FT P A E env Q target body (fun t=>∃m,m<n/\I m t) it) (FE P A E env) s):FG P A E env Q target body it s
theorem A1{A:Around}{E:Value->Shared->Prop}{env:Env}{Q:Flow->Shared->Prop}{target iter:Expr}{body:List Stmt}{pos:Pos}{s:Shared}(hs:∀x,foldedSetIterable iter env x=pure x)
  (h:wpAny (model P.prog P.w) A (eval iter env) (fun v s₁=>wpAny (model P.prog P.w) A (pyIter v) (FG P A E env Q target body) E s₁) E s):wpAny (model P.prog P.w) A (exec (.For target iter body [] pos) env) Q E s:=by
 refine wpAny_For (au h (fun v s₁ ag=>au ag (fun it s₂ aH=>?_) fun ø ø q=>q) fun ø ø q=>q) hs;obtain⟨I,n,h,turn⟩:=aH;refine codeAny_forLoop_any I (fun n s hI=>au (turn n s hI) (fun r s₁ ag=>?_) fun ø ø q=>q) n h
 induction r with
 |none=>exact mU ag
 |some v=>exact au ag (fun ø s₂ aH=>au aH (fun ø cB eh=>au eh (fun f gP A2=>by cases f<;>exact A2) fun ø ø q=>q) fun ø ø q=>q) fun ø ø q=>q
end
section
variable{P:Pk}{n:Nat}{K:Cx}{lo:Bool}
theorem uA.of{A:Around}{I:Addr}{fp:List Addr}{xs:List V}{Pp:Nat->Value->Prop}{YO:Nat->Heap->Prop}(W:Walks P.prog P.w A I fp [I] xs.length Pp YO)(R:List Addr->Shared->Prop)
  (hR:∀out hid ao s s',Ks out hid ao s s'->R hid s->R ao s') (hR2:∀hid s h' tk,(∀b o,b≠I->s.heap.get? b=some o->h'.get? b=some o)->I∈hid->R hid s->R hid {s with heap:=h',toks:=tk})
  (rel:∀hid i x v s,R hid s->xs[i]?=some x->Pp i v->Dn P s.heap hid x v) (cls:∀i h,YO i h->∃o T,h.get? I=some o/\o.cls= .type T/\owners.contains T=false):
  uA P A I [I] none xs (fun hid i s=>YO i s.heap/\R hid s/\(∀b∈fp,b≠I->b∉hid/\∃o,s.heap.get? b=some o)/\I∈hid)where
 frame:=fun hid ao i s s' hh ⟨h1,h2,h3,h4⟩ k=>by
  refine⟨W.frame i _ _ h1 fun b hb o e=>k.keep b o ?_ e,hR _ hid ao s s' k h2,fun b hb bN=>⟨fun hm=>?_,?_⟩,k.sub I h4⟩
  ·by_cases q:b=I
   ·exact .inr (by simp[q])
   ·exact .inl (h3 b hb q).1
  ·obtain⟨z,o,e⟩:=h3 b hb bN
   exact(k.new b hm).elim z fun w=>by rw[e]at w;cases w
  ·obtain⟨z,o,e⟩:=h3 b hb bN
   exact⟨o,k.keep b o (.inl z) e⟩
 self:=fun hid i s Q E ⟨h1,_⟩ hQ=>W.self i s Q E h1 hQ
 item:=fun hid i s x E hx hW hG live ⟨h1,h2,h3,h4⟩=>by
  have hi:i<xs.length:=by
   by_cases q:i<xs.length
   ·exact q
   ·rw[iI (by omega)]at hx;cases hx
  refine W.item i s _ E hi h1 fun v h' tk hv st hk=>?_
  have ze:∀b o,b≠I->s.heap.get? b=some o->h'.get? b=some o:=fun b o hb e=>hk b o (by simpa using hb) e
  have r2:=hR2 hid s h' tk ze h4 h2;obtain⟨o,T,c1,c2,c3⟩:=cls (i+1) h' st;refine⟨v,rfl,rel hid i x v {s with heap:=h',toks:=tk} r2 hx hv,⟨st,r2,fun b hb bN=>⟨(h3 b hb bN).1,let⟨o,e⟩:=(h3 b hb bN).2;⟨o,ze b o bN e⟩⟩,h4⟩,⟨o,T,c1,c2,c3⟩,⟨⟨fun b o hb e=>ze b o (by simpa using hb) e,fun i x ø e=>e,id,rfl⟩,fun a ha=>?_⟩⟩;obtain rfl:a=I:=by simpa using ha
  exact⟨o,c1⟩
 done:=fun hid s E hW hG live ⟨h1,h2,h3,h4⟩=>by
  refine W.done s _ E h1 fun h' tk hk=>⟨rfl,fun b o hb e=>hk b o hb e,fun i x ø e=>e,id,rfl⟩
theorem aU.other{hid:List Addr}{s:Shared}{h':Heap}{I:Addr}{xs:List V}{vs:List Value}(e:aU P s.heap hid xs vs)(hI:I∈hid)(hk:∀b o,b≠I->s.heap.get? b=some o->h'.get? b=some o):aU P h' hid xs vs:=
 e.grow (fun a o ha q=>hk a o (fun z=>ha (z▸hI)) q) fun a h=>.inl h
theorem uA.list{A:Around}(hh:A.handled=none){I ax:Addr}(bN:ax≠I){xs:List V}{vs:List Value}(hl:vs.length=xs.length):
  uA P A I [I] none xs (fun hid i s=>(s.heap.IsListIter I ax i/\s.heap.IsList ax vs.toArray)/\aU P s.heap hid xs vs/\(∀b∈[I,ax],b≠I->b∉hid/\∃o,s.heap.get? b=some o)/\I∈hid):=by
 have W:=Walks.list (prog:=P.prog) (w:=P.w) hh I ax bN vs.toArray;rw[bM,hl]at W;refine uA.of W (fun hid s=>aU P s.heap hid xs vs) (fun out hid ao s s' k h=>aU.ks (P:=P) h k) (fun hid s h' tk hk hI h=>aU.other (P:=P) h hI hk) (fun hid i x v s hd hx hv=>?_) fun i h st=>?_
 ·obtain⟨u,hu,hr⟩:=aV.get hd hx
  have hv:vs[i]?=some v:=by simpa using hv
  rw[hu]at hv;cases hv;exact hr
 ·obtain⟨⟨o,ho,hc,_⟩,_⟩:=st
  exact⟨o,"list_iterator",ho,hc,by decide⟩
theorem uA.tuple{A:Around}(hh:A.handled=none){I ax:Addr}(bN:ax≠I){xs:List V}{vs:List Value}(hl:vs.length=xs.length):
  uA P A I [I] none xs (fun hid i s=>(s.heap.IsTupleIter I ax i/\s.heap.IsTuple ax vs.toArray)/\aU P s.heap hid xs vs/\(∀b∈[I,ax],b≠I->b∉hid/\∃o,s.heap.get? b=some o)/\I∈hid):=by
 have W:=Walks.tuple (prog:=P.prog) (w:=P.w) hh I ax bN vs.toArray;rw[bM,hl]at W;refine uA.of W (fun hid s=>aU P s.heap hid xs vs) (fun out hid ao s s' k h=>aU.ks (P:=P) h k) (fun hid s h' tk hk hI h=>aU.other (P:=P) h hI hk) (fun hid i x v s hd hx hv=>?_) fun i h st=>?_
 ·obtain⟨u,hu,hr⟩:=aV.get hd hx
  have hv:vs[i]?=some v:=by simpa using hv
  rw[hu]at hv;cases hv;exact hr
 ·obtain⟨⟨o,ho,hc,_⟩,_⟩:=st
  exact⟨o,"tuple_iterator",ho,hc,by decide⟩
noncomputable def elems:V->Option (List V)
 | .list l=>some l
 | .tup l=>some l
 | .str l=>some (l.map fun c=>.str [c])
 |_=>none
set_option tactic.hygienic true in
theorem bQ{e:Expr}{f}(h:eM P n K false e f):QJ P n K e (fun ρ=>(f ρ).bind elems):=fun A env out hid m B s ρ xs E rm S hf=>by
 refine ah hf fun x hx gg=>?_
 clear hf;rename _=>hf
 refine au (h A env out hid m B s ρ x E rm S hx) (fun v s₁ ag=>?_) fun ø ø q=>q
 have bc:=S.after ag.1;have eG:s.heap.get? s₁.heap.objs.size=none:=by
  cases e:s.heap.get? s₁.heap.objs.size with
  |none=>rfl
  |some o=>have:=ag.1.keep _ _ e;rw[aP]at this;cases this
 have nh:s₁.heap.objs.size∉hid:=ux bc.live;cases x<;>simp only[elems]at hf<;>try cases hf
 ·rename_i l
  obtain⟨t,rfl⟩:=ag.2.str_inv;have hsz:(pyStr l).cps.size=(l.map fun c=>V.str [c]).length:=by simp
  have rel:∀hid i x v (s:Shared),True->(l.map fun c=>V.str [c])[i]?=some x->SignAt (pyStr l) i v->Dn P s.heap hid x v:=fun hid i x v s ø hx hv=>by
   obtain⟨c,u,hc,rfl⟩:=hv;rw[bL]at hx;have Ja:l[i]?=some c:=by simpa using hc
   rw[Ja]at hx;cases hx;exact .ofStr [c] u
  cases ha:(pyStr l).cps.all (· <128)
  ·have W:=Walks.strWide (prog:=P.prog) (w:=P.w) rm.handled s₁.heap.objs.size (pyStr l) t
   rw[hsz]at W;refine wpAny_pyIter_wide ha ⟨s₁.heap.objs.size,[s₁.heap.objs.size],none,_,rfl,ag.1.trans (Kp.push s₁ _ _),uA.of W (fun ø ø=>True) (fun ø ø ø ø ø ø ø=>trivial) (fun ø ø ø ø ø ø ø=>trivial) rel (fun i h st=>?_),fun b hb=>?_,fun b hb=>?_,fun g q=>(nomatch q),?_⟩
   ·obtain⟨o,ho,hc,_⟩:=st
    exact⟨o,"str_iterator",ho,hc,by decide⟩
   ·obtain rfl:b=s₁.heap.objs.size:=by simpa using hb
    exact eG
   ·obtain rfl:b=s₁.heap.objs.size:=by simpa using hb
    exact⟨_,bD _ rfl⟩
   ·refine⟨⟨_,bD _ rfl,rfl,rfl⟩,trivial,fun b hb D1=>absurd (by simpa using hb) D1,by simp⟩
  ·have W:=Walks.strAscii (prog:=P.prog) (w:=P.w) rm.handled s₁.heap.objs.size (pyStr l) t
   rw[hsz]at W;refine wpAny_pyIter_ascii ha ⟨s₁.heap.objs.size,[s₁.heap.objs.size],none,_,rfl,ag.1.trans (Kp.push s₁ _ _),uA.of W (fun ø ø=>True) (fun ø ø ø ø ø ø ø=>trivial) (fun ø ø ø ø ø ø ø=>trivial) rel (fun i h st=>?_),fun b hb=>?_,fun b hb=>?_,fun g q=>(nomatch q),?_⟩
   ·obtain⟨o,ho,hc,_⟩:=st
    exact⟨o,"str_ascii_iterator",ho,hc,by decide⟩
   ·obtain rfl:b=s₁.heap.objs.size:=by simpa using hb
    exact eG
   ·obtain rfl:b=s₁.heap.objs.size:=by simpa using hb
    exact⟨_,bD _ rfl⟩
   ·refine⟨⟨_,bD _ rfl,rfl,rfl⟩,trivial,fun b hb D1=>absurd (by simpa using hb) D1,by simp⟩
 ·obtain⟨a,vs,rfl,ha,ht,hd⟩:=ag.2.oA
  have bN:a≠s₁.heap.objs.size:=fun e=>by obtain⟨k,z⟩:=ht;rw[e,aP]at z;cases z
  refine wpAny_pyIter_tuple ht.zb ⟨s₁.heap.objs.size,[s₁.heap.objs.size],none,_,rfl,ag.1.trans (Kp.push s₁ _ _),uA.tuple rm.handled bN hd.length,fun b hb=>?_,fun b hb=>?_,fun g q=>(nomatch q),?_⟩
  ·obtain rfl:b=s₁.heap.objs.size:=by simpa using hb
   exact eG
  ·obtain rfl:b=s₁.heap.objs.size:=by simpa using hb
   exact⟨_,bD _ rfl⟩
  ·refine⟨⟨⟨_,bD _ rfl,rfl,rfl⟩,ht.zb.push _⟩,?_,fun b hb D1=>?_,by simp⟩
   ·exact aU.grow (P:=P) hd (fun a o ø q=>bK _ q) fun b hb=>by
     rcases cr.mp hb with q|q
     ·right;obtain rfl:b=s₁.heap.objs.size:=by simpa using q
      exact aP _
     ·exact .inl q
   ·have:b=a:=by
     rcases bp.mp hb with q|q
     ·exact absurd q D1
     ·simpa using q
    subst this;obtain⟨k,z⟩:=ht;exact⟨fun q=>(cr.mp q).elim (fun w=>D1 (by simpa using w)) ha,_,bK _ z⟩
 ·obtain⟨a,vs,rfl,ha,ht,hd⟩:=ag.2.em
  have bN:a≠s₁.heap.objs.size:=fun e=>by obtain⟨k,z⟩:=ht;rw[e,aP]at z;cases z
  refine yL ht.isList ⟨s₁.heap.objs.size,[s₁.heap.objs.size],none,_,rfl,ag.1.trans (Kp.push s₁ _ _),uA.list rm.handled bN hd.length,fun b hb=>?_,fun b hb=>?_,fun g q=>(nomatch q),?_⟩
  ·obtain rfl:b=s₁.heap.objs.size:=by simpa using hb
   exact eG
  ·obtain rfl:b=s₁.heap.objs.size:=by simpa using hb
   exact⟨_,bD _ rfl⟩
  ·refine⟨⟨⟨_,bD _ rfl,rfl,rfl⟩,ht.isList.at fun o q=>bK _ q⟩,?_,fun b hb D1=>?_,by simp⟩
   ·exact aU.grow (P:=P) hd (fun a o ø q=>bK _ q) fun b hb=>by
     rcases cr.mp hb with q|q
     ·right;obtain rfl:b=s₁.heap.objs.size:=by simpa using q
      exact aP _
     ·exact .inl q
   ·have:b=a:=by
     rcases bp.mp hb with q|q
     ·exact absurd q D1
     ·simpa using q
    subst this;obtain⟨k,z⟩:=ht;exact⟨fun q=>(cr.mp q).elim (fun w=>D1 (by simpa using w)) ha,_,bK _ z⟩
noncomputable def eH(a:Int):Bool:=decide (-1000000<=a)&&decide (a<=1000000)
noncomputable def IT(a b c:Int):List V:=(List.range (Builtin.Range.rangeSize a b c).toNat).map fun(i:Nat)=>.int (a+(i:Int)*c)
noncomputable def si:List V->Option (List V)
 |[x]=>x.int?.bind fun b=>if eH b=true then some (IT 0 b 1)else none
 |[x,y]=>r8 V.int? V.int? (fun a b=>if(eH a&&eH b)=true then some (IT a b 1)else none) x y
 |[x,y,z]=>x.int?.bind fun a=>r8 V.int? V.int? (fun b c=>if(eH a&&eH b&&c== -1)=true then some (IT a b (-1))else none) y z
 |_=>none
theorem D2(b:Int):si [.int b]=if eH b=true then some (IT 0 b 1)else none:=id rfl
theorem D3(a b:Int):si [.int a,.int b]=if(eH a&&eH b)=true then some (IT a b 1)else none:=id rfl
theorem Jb(a b c:Int):si [.int a,.int b,.int c]=if(eH a&&eH b&&c== -1)=true then some (IT a b (-1))else none:=id rfl
theorem jg{a:Int}(h:eH a=true): -1000000<=a/\a<=1000000:=by
 rw[eH,dI,iH,iH]at h;exact h
theorem A3{a b:Int}(h: -1000000<=a/\a<=1000000)(h': -1000000<=b/\b<=1000000):Builtin.Range.small a b 1=true:=
 small_one (by omega) (by omega) (by omega) (by omega)
theorem A4(a b:Int):((Builtin.Range.rangeSize a b 1).toNat:Int)=Builtin.Range.rangeSize a b 1:=by
 rw[rangeSize_one];split<;>omega
theorem pn(a b:Int):Builtin.Range.rangeSize a b (-1)=if a>b then a-b else 0:=by
 unfold Builtin.Range.rangeSize;rw[az (by omega)];split
 ·simp only[Int.neg_neg,Int.ediv_one];omega
 ·rfl
theorem Hb{a b:Int}(h: -1000000<=a/\a<=1000000)(h': -1000000<=b/\b<=1000000):Builtin.Range.small a b (-1)=true:=
 small_down (by omega) (by omega) (by omega) (by omega)
theorem Jc(a b:Int):((Builtin.Range.rangeSize a b (-1)).toNat:Int)=Builtin.Range.rangeSize a b (-1):=by
 rw[pn];split<;>omega
theorem A5{A:Around}{E:Value->Shared->Prop}{s:Shared}{xs l:List V}{vs:List Value}{hid:List Addr}(hd:aU P s.heap hid xs vs)(hf:si xs=some l){Q:Value->Shared->Prop}
  (h:∀(a b c:Int) (t u v:Tok) (k:Nat) s',l=(List.range k).map (fun(i:Nat)=>V.int (a+(i:Int)*c))->(k:Int)=Builtin.Range.rangeSize a b c->Builtin.Range.small a b c=true->IsRange s'.heap s.heap.objs.size a b c t u v->Kp s s'->Q (.ref s.heap.objs.size) s'):
  wpAny (model P.prog P.w) A (call (.type "range") vs) Q E s:=by
 cases xs with
 |nil=>cases hf
 |cons x xs=>cases xs with
  |nil=>
   exact ah hf fun b hb hf=>eN hf fun hc e=>hd.one_k fun u hu=>hu.int_k hb fun t=>
    call_range_1 (h 0 b 1 _ _ _ _ _ e.symm (A4 0 b) (A3 (by decide) (jg hc)) (bD _ rfl) (Kp.push s _ _))
  |cons y xs=>cases xs with
   |nil=>
    exact bI hf fun a b ha hb hf=>eN hf fun hc e=>hd.two_k fun u v hu hv=>hu.int_k ha fun t=>hv.int_k hb fun t'=>
     call_range_2 (h a b 1 _ _ _ _ _ e.symm (A4 a b) (A3 (jg (yM.mp hc).1) (jg (yM.mp hc).2)) (bD _ rfl) (Kp.push s _ _))
   |cons z xs=>cases xs with
    |nil=>
     exact ah hf fun a ha hf=>bI hf fun b c hb Ja hf=>eN hf fun hc e=>by
      obtain⟨hq,hm⟩:=yM.mp hc;obtain rfl:=eq_of_beq hm;have hw:=yM.mp hq;have h1:=jg hw.1;have h2:=jg hw.2;exact hd.three_k fun u v w hu hv hw=>hu.int_k ha fun t=>hv.int_k hb fun t'=>hw.int_k Ja fun YQ=>
       call_range_3 (by decide) (h a b (-1) _ _ _ _ _ e.symm (Jc a b) (Hb h1 h2) (bD _ rfl) (Kp.push s _ _)) (Or.inl (PyProof.noPylong_small (by decide)))
    |cons _ _=>cases hf
theorem fh{p pos:Pos}{es:List Expr}{f}(hx:K.aM.contains "range"=true)(hv:P.glob "range"=some (.type "range"))
  (hs:lz P n K false es f) (eF:∀env,starEach es env=es.map fun e=>(false,eval e env)) (bN:es≠[]):QJ P n K (.Call (.Name "range" p) es [] pos) (fun ρ=>(f ρ).bind si):=fun A env out hid m B s ρ xs E rm S hf=>by
 refine ah hf fun y hy gg=>?_
 clear hf;rename _=>hf
 refine kH (bH S hx hv (by decide) ?_);refine yF (dg eF) ?_;refine dM (dg eF) (au (hs A env out hid m B s ρ y E pos rm S hy) (fun vs s₁ ag=>?_) fun ø ø q=>q);have bc:=S.after ag.1;refine A5 (vs:=[]++vs) ag.2 hf fun a b c t u v k s₂ hl hk ly hr kp=>?_
 subst hl;refine wpAny_pyIter_range hr ly ?_;have eG:s.heap.get? s₂.heap.objs.size=none:=by
  cases e:s.heap.get? s₂.heap.objs.size with
  |none=>rfl
  |some o=>have:=kp.keep _ _ (ag.1.keep _ _ e);rw[aP]at this;cases this
 have W:=Walks.range (prog:=P.prog) (w:=P.w) rm.handled s₂.heap.objs.size a c k;have hsz:k=((List.range k).map fun(i:Nat)=>V.int (a+(i:Int)*c)).length:=by simp
 rw[show Walks P.prog P.w A s₂.heap.objs.size [s₂.heap.objs.size] [s₂.heap.objs.size] k _ _=Walks P.prog P.w A s₂.heap.objs.size [s₂.heap.objs.size] [s₂.heap.objs.size] ((List.range k).map fun(i:Nat)=>V.int (a+(i:Int)*c)).length _ _ from by rw[<-hsz]]at W;refine⟨s₂.heap.objs.size,[s₂.heap.objs.size],none,_,rfl,ag.1.trans (kp.trans (Kp.push s₂ _ s₂.toks)),uA.of W (fun ø ø=>True) (fun ø ø ø ø ø ø ø=>trivial) (fun ø ø ø ø ø ø ø=>trivial) (fun hid i x v s ø hx hv=>?_) (fun i h st=>⟨_,"range_iterator",st,rfl,by decide⟩),fun b hb=>?_,fun b hb=>?_,fun g q=>(nomatch q),?_⟩
 ·obtain⟨t,rfl⟩:=hv
  rw[bL]at hx;by_cases hi:i<k
  ·rw[Dr hi]at hx
   cases hx;exact .ofInt _ _
  ·rw[iI (by simpa using hi)]at hx;cases hx
 ·obtain rfl:b=s₂.heap.objs.size:=by simpa using hb
  exact eG
 ·obtain rfl:b=s₂.heap.objs.size:=by simpa using hb
  exact⟨_,bD _ rfl⟩
 ·refine⟨?_,trivial,fun b hb D1=>absurd (by simpa using hb) D1,by simp⟩
  show IsRangeIter _ _ (a+((0:Nat):Int)*c) ((k:Int)-((0:Nat):Int)) c;have e1:a+((0:Nat):Int)*c=a:=by simp
  have e2:(k:Int)-((0:Nat):Int)=k:=by simp
  rw[e1,e2,hk];exact bD _ rfl
end
section
variable{P:Pk}{n:Nat}{K K':Cx}{lo:Bool}
noncomputable def dQ(cells:List (Str×Addr)):List (Str×NameKind)->List (Str×Addr)->List (Str×Addr)
 |[],acc=>acc
 |(x,k)::r,acc=>if k== .free then(match cells.lookup x with|some c=>dQ cells r ((x,c)::acc)|none=>dQ cells r acc)else dQ cells r acc
theorem x0(cells:List (Str×Addr))(acc:List (Str×Addr)):dQ cells [] acc=acc:=rfl
theorem kS(cells:List (Str×Addr))(x:Str)(k:NameKind)(r:List (Str×NameKind))(acc:List (Str×Addr)):dQ cells ((x,k)::r) acc=if k== .free then(match cells.lookup x with|some c=>dQ cells r ((x,c)::acc)|none=>dQ cells r acc)else dQ cells r acc:=rfl
theorem xw{scope:Scope}{env:Env}(h:∀y∈scope.names,y.2= .free->∃c,env.cells.lookup y.1=some c):closureFor scope env=pure (dQ env.cells scope.names []):=by
 unfold closureFor;have key:∀(l:List (Str×NameKind)) (acc:List (Str×Addr)),(∀y∈l,y.2= .free->∃c,env.cells.lookup y.1=some c)->
   (forIn l acc fun(x:Str×NameKind) (cs:List (Str×Addr))=>(if(x.2== .free)=true then(do let c <-cellOf env x.1;pure (ForInStep.yield ((x.1,c)::cs)))else pure (ForInStep.yield cs):Sem (ForInStep (List (Str×Addr)))))=pure (dQ env.cells l acc):=by
  intro l
  induction l with
  |nil=>intro acc _;rfl
  |cons y l ih=>
   intro acc hl;obtain⟨x,k⟩:=y;rw[pK]
   cases hk:(k==NameKind.free)with
   |false=>
    simp only[hk,gz,eW,x0,kS];exact ih acc fun y hy=>hl y (by simp[hy])
   |true=>
    obtain⟨c,hc⟩:=hl (x,k) (by simp) (eq_of_beq hk);have e:cellOf env x=pure c:=by unfold cellOf;rw[hc]
    simp only[hk,eI,x0,kS,e,hc];exact ih ((x,c)::acc) fun y hy=>hl y (by simp[hy])
 have:=key scope.names [] h;simpa using this
set_option tactic.hygienic true in
theorem lI{cells:List (Str×Addr)}:∀{l:List (Str×NameKind)} {acc:List (Str×Addr)} {x c},(x,c)∈dQ cells l acc->(x,c)∈acc\/cells.lookup x=some c
 |[],acc,x,c,h=>.inl h
 |(y,k)::r,acc,x,c,h=>by
  rw[kS]at h;split at h
  ·split at h
   ·rename_i c' hc
    rcases lI h with q|q
    ·rcases bp.mp q with q|q
     ·cases q;exact .inr hc
     ·exact .inl q
    ·exact .inr q
   ·exact lI h
  ·exact lI h
theorem lJ{cells:List (Str×Addr)}:∀{l:List (Str×NameKind)} {acc:List (Str×Addr)} {x c},(x,c)∈acc->(x,c)∈dQ cells l acc
 |[],acc,x,c,h=>h
 |(y,k)::r,acc,x,c,h=>by
  rw[kS];split
  ·split
   ·exact lJ (cw _ h)
   ·exact lJ h
  ·exact lJ h
theorem lK{cells:List (Str×Addr)}{x:Str}{c:Addr}(hc:cells.lookup x=some c):∀{l:List (Str×NameKind)} {acc:List (Str×Addr)},(x,NameKind.free)∈l->(x,c)∈dQ cells l acc
 |(y,k)::r,acc,h=>by
  rw[kS];rcases bp.mp h with q|q
  ·cases q
   simp only[hc];rw[aw (by rfl)];exact lJ (by simp)
  ·split
   ·split
    ·exact lK hc q
    ·exact lK hc q
   ·exact lK hc q
theorem lookup_mem{l:List (Str×Addr)}:∀{x:Str} {c:Addr},l.lookup x=some c->(x,c)∈l:=by
 induction l with
 |nil=>intro x c h;simp at h
 |cons y l ih=>
  intro x c h;obtain⟨z,d⟩:=y;rw[nb]at h
  cases hx:x==z with
  |true=>rw[hx]at h;cases h;rw[eq_of_beq hx];simp
  |false=>rw[hx]at h;exact cw _ (ih h)
theorem mem_lookup{l:List (Str×Addr)}:∀{x:Str} {c:Addr},(x,c)∈l->∃d,l.lookup x=some d:=by
 induction l with
 |nil=>intro x c h;cases h
 |cons y l ih=>
  intro x c h;obtain⟨z,d⟩:=y;rw[nb]
  cases hx:x==z with
  |true=>exact⟨d,rfl⟩
  |false=>
   rcases bp.mp h with q|q
   ·cases q;simp at hx
   ·exact ih q
theorem vr{cells l x c}(h:(dQ cells l []).lookup x=some c):cells.lookup x=some c:=by
 rcases lI (lookup_mem h)with q|q
 ·cases q
 ·exact q
theorem A6{cells:List (Str×Addr)}{l:List (Str×NameKind)}{x:Str}{c:Addr}(hc:cells.lookup x=some c)(hx:(x,NameKind.free)∈l):(dQ cells l []).lookup x=some c:=by
 obtain⟨d,hd⟩:=mem_lookup (lK (acc:=[]) hc hx);rw[hd];have:=vr hd;rw[hc]at this;exact this.symm
theorem nL{l:List (Str×NameKind)}:∀{x:Str} {c:NameKind},l.lookup x=some c->(x,c)∈l:=by
 induction l with
 |nil=>intro x c h;simp at h
 |cons y l ih=>
  intro x c h;obtain⟨z,d⟩:=y;rw[nb]at h
  cases hx:x==z with
  |true=>rw[hx]at h;cases h;rw[eq_of_beq hx];simp
  |false=>rw[hx]at h;exact cw _ (ih h)
theorem jh{env:Env}{x:Str}{k:NameKind}:∀{names:List (Str×NameKind)},names.lookup x=some k->
  (names.map fun(n,k)=>if(k==NameKind.free&&env.scope.kind== .function&&env.kindOf n==some .cell)then(n,NameKind.cell)else(n,k)).lookup x=some (if(k==NameKind.free&&env.scope.kind== .function&&env.kindOf x==some .cell)=true then .cell else k)
 |[],h=>by simp at h
 |(z,d)::r,h=>by
  have ih:= @jh env x k r;show List.lookup x ((if(d==NameKind.free&&env.scope.kind== .function&&env.kindOf z==some .cell)=true then(z,NameKind.cell)else(z,d))::_)=_;rw[nb]at h
  cases hx:x==z with
  |true=>
   rw[hx]at h;cases h;have e:=eq_of_beq hx;subst e;by_cases hc:(k==NameKind.free&&env.scope.kind== .function&&env.kindOf x==some .cell)=true
   ·rw[aw hc,aw hc,nb,hx]
   ·rw[az hc,az hc,nb,hx]
  |false=>
   rw[hx]at h;by_cases hc:(d==NameKind.free&&env.scope.kind== .function&&env.kindOf z==some .cell)=true
   ·rw[aw hc,nb,hx];exact ih h
   ·rw[az hc,nb,hx];exact ih h
structure x3(K K':Cx)(nt:Nat)(mT:List Nat)(scope:Scope):Prop where
 kind:scope.kind= .function
 ncell:∀y∈scope.names,y.2≠ .cell
 names:∀y∈scope.names,y.2= .local->scope.names.lookup y.1=some .local
 glob:∀x∈K'.aM,scope.names.lookup x=some .globalImplicit
 tv:∀(j:Nat) x k b,j<nt->K'.vars[j]?=some (x,k,b)->k= .local/\b=false/\scope.names.lookup x=some .local
 cv:∀(j:Nat) x k b,nt<=j->K'.vars[j]?=some (x,k,b)->∃i:Nat,mT[j-nt]?=some i/\K.vars[i]?=some (x,k,b)/\(k= .cell\/k= .free)/\scope.names.lookup x=some .free
 nodup:∀(i j:Nat) x k b k' b',K'.vars[i]?=some (x,k,b)->K'.vars[j]?=some (x,k',b')->i=j
 free:∀y∈scope.names,y.2= .free->∃(i:Nat) (k:NameKind) (b:Bool),K.vars[i]?=some (y.1,k,b)/\(k= .cell\/k= .free)
noncomputable def Ps(K K':Cx)(nt:Nat)(mT:List Nat)(scope:Scope):Bool:=
 scope.kind== .function&&(scope.names.all fun y=>y.2 != .cell&&(y.2 != .local||scope.names.lookup y.1==some .local)&&(y.2 != .free||(K.vars.any fun z=>z.1==y.1&&(z.2.1== .cell||z.2.1== .free))))&&
 (K'.aM.all fun x=>scope.names.lookup x==some .globalImplicit)&&
 ((List.range K'.vars.length).all fun j=>match K'.vars[j]? with
  |some (x,k,b)=>if j<nt then k== .local&&!b&&scope.names.lookup x==some .local else(match mT[j-nt]? with|some i=>K.vars[i]?==some (x,k,b)&&(k== .cell||k== .free)&&scope.names.lookup x==some .free|none=>false)
  |none=>false)&&decide (K'.vars.map (·.1)).Nodup
theorem bB{nt:Nat}{mT:List Nat}{scope:Scope}(h:Ps K K' nt mT scope=true):x3 K K' nt mT scope:=by
 simp only[Ps,dI,cD,jT,m5,bne_iff_ne,List.any_eq_true,iH]at h;obtain⟨⟨⟨⟨h1,h2⟩,h3⟩,h4⟩,h5⟩:=h;have at4:∀(j:Nat) x k b,K'.vars[j]?=some (x,k,b)->_:=fun j x k b hj=>h4 j (by
  have:j<K'.vars.length:=by
   by_cases q:j<K'.vars.length
   ·exact q
   ·rw[iI (by omega)]at hj;cases hj
  simpa using this)
 refine⟨h1,fun y hy=>(h2 y hy).1.1,fun y hy hl=>(h2 y hy).1.2.resolve_left (fun q=>q hl),h3,fun j x k b hj hv=>?_,fun j x k b hj hv=>?_,fun i j x k b k' b' hi hj=>?_,fun y hy hl=>?_⟩
 ·have:=at4 j x k b hv
  rw[hv]at this;simp only[hj,eI,dI,jT,Bool.not_eq_true']at this;exact⟨this.1.1,this.1.2,this.2⟩
 ·have:=at4 j x k b hv
  rw[hv]at this;simp only[show ¬j<nt by omega,eW]at this
  cases hc:mT[j-nt]? with
  |none=>rw[hc]at this;cases this
  |some i=>
   rw[hc]at this;simp only[dI,jT,m5]at this;exact⟨i,rfl,this.1.1,this.1.2,this.2⟩
 ·have e1:(K'.vars.map (·.1))[i]?=some x:=by rw[bL,hi];rfl
  have e2:(K'.vars.map (·.1))[j]?=some x:=by rw[bL,hj];rfl
  have Nc:i<(K'.vars.map (·.1)).length:=by
   by_cases q:i<(K'.vars.map (·.1)).length
   ·exact q
   ·rw[iI (by omega)]at e1;cases e1
  exact(List.getElem?_inj Nc h5).mp (e1.trans e2.symm)
 ·obtain⟨z,hz,hz1,hz2⟩:=(h2 y hy).2.resolve_left (fun q=>q hl)
  obtain⟨i,hi,e⟩:=Ds hz;obtain⟨x,k,b⟩:=z;exact⟨i,k,b,by rw[dX hi,e,<-hz1],hz2⟩
noncomputable def sj(nt:Nat)(mT:List Nat)(ρ:al):al:=fun j=>if j<nt then none else(mT[j-nt]?).bind ρ
theorem aB.comp{env:Env}{out hid W:List Addr}{m}{B s:Shared}{ρ}(S:aB P K env out hid m B s ρ){nt:Nat}{mT:List Nat}{scope:Scope}(ok:x3 K K' nt mT scope){s':Shared}{C D:Addr}(k:Kp s s')
  (hW:∀a∈W,s.heap.get? a=none) (hC:s.heap.get? C=none) (hD:s.heap.get? D=none) (IU:C≠D) (hCW:C∉W) (lW:cx s'.heap W) (lD:∃o,s'.heap.get? D=some o) {m':Str->Option Value} (ns:s'.heap.Ns C m'):
  aB P K' (compEnvC scope (dQ env.cells scope.names []) C env) (W++(D::out)) (C::D::(W++hid)) m' B s' (sj nt mT ρ):=by
 have hn:∀a,a∈hid->s.heap.get? a≠none:=fun a h q=>by obtain⟨o,e⟩:=S.live a h;rw[q]at e;cases e
 have YR:∀a∈hid,a∉W:=fun a h q=>hn a h (hW a q)
 have Hc:∀a,a∈W++(D::out)<->a∈W\/a=D\/a∈out:=fun a=>by simp
 have new:∀a∈C::D::(W++hid),a∈hid\/s.heap.get? a=none:=fun a h=>by
  rcases bp.mp h with rfl|h
  ·exact .inr hC
  ·rcases bp.mp h with rfl|h
   ·exact .inr hD
   ·exact(cr.mp h).elim (fun q=>.inr (hW a q)) .inl
 have sub:∀a∈hid,a∈C::D::(W++hid):=fun a h=>cw _ (cw _ (bw _ h))
 have Fw:∀c,c∈hid->c∉out->c∉W++(D::out):=fun c h ho z=>((Hc c).mp z).elim (YR c h) fun z=>z.elim (fun e=>hn _ h (e▸hD)) ho
 have Uc:∀(j:Nat) x kd b,K'.vars[j]?=some (x,kd,b)->(compEnvC scope (dQ env.cells scope.names []) C env).kindOf x=some kd:=fun j x kd b hj=>by
  show(relabel scope env).names.lookup x=some kd;by_cases de:j<nt
  ·obtain⟨rfl,rfl,hl⟩:=ok.tv j x kd b de hj
   exact lookup_relabel_local hl
  ·obtain⟨i,_,hi,hk,hl⟩:=ok.cv j x kd b (by omega) hj
   have:=S.kind i x kd b hi;show List.lookup x (scope.names.map _)=_;rw[jh hl,this,S.fn];rcases hk with rfl|rfl<;>rfl
 have atC:∀(i:Nat) x kd b u,K.vars[i]?=some (x,kd,b)->(kd= .cell\/kd= .free)->scope.names.lookup x=some .free->At env m s.heap out hid x kd u->At (compEnvC scope (dQ env.cells scope.names []) C env) m' s'.heap (W++(D::out)) (C::D::(W++hid)) x kd u:=fun i x kd b u hi hk hl h=>by
  have hm:(x,NameKind.free)∈scope.names:=nL hl;rcases hk with rfl|rfl
  ·obtain⟨c,q1,q2,q3,q4⟩:=h
   exact⟨c,A6 q1 hm,sub c q2,Fw c q2 q3,q4.keeps k.keep⟩
  ·obtain⟨c,q1,q2,q3,q4⟩:=h
   exact⟨c,A6 q1 hm,sub c q2,Fw c q2 q3,q4.keeps k.keep⟩
 refine {fn:=ok.kind,gl:=S.gl,bl:=S.bl,kind:=Uc,pj:=fun x hx=>?_,nodup:=ok.nodup,i8:=fun x y c h1 h2=>S.i8 x y c (vr h1) (vr h2),live:=?_,oh:=?_,Lh:=by simp[compEnvC],Lo:=?_,ns:=ns,slot:=?_,apart:=?_,gb:=S.gb,kp:=S.kp.trans k,own:=?_}
 ·show List.lookup x (scope.names.map _)=_
  rw[jh (ok.glob x hx)];rfl
 ·intro a h
  rcases bp.mp h with rfl|h
  ·obtain⟨o,_,_,ho,_⟩:=ns;exact⟨o,ho⟩
  ·rcases bp.mp h with rfl|h
   ·exact lD
   ·exact(cr.mp h).elim (lW a) (S.live.kp k a)
 ·intro a h
  rcases(Hc a).mp h with q|rfl|q
  ·simp[q]
  ·simp
  ·simp[S.oh a q]
 ·show C∉_
  intro h;rcases(Hc C).mp h with q|q|q
  ·exact hCW q
  ·exact IU q
  ·exact hn C (S.oh C q) hC
 ·intro j x kd b hj
  by_cases de:j<nt
  ·obtain⟨rfl,rfl,hl⟩:=ok.tv j x kd b de hj
   exact⟨m' x,by simp[At],by simp[sj,de,qO]⟩
  ·obtain⟨i,hc,hi,hk,hl⟩:=ok.cv j x kd b (by omega) hj
   obtain⟨ov,h1,h2⟩:=S.slot i x kd b hi;refine⟨ov,atC i x kd b ov hi hk hl h1,?_⟩;have hr:sj nt mT ρ j=ρ i:=by simp[sj,de,hc]
   rw[hr];exact h2.map (fun ø a ø q1 q2 q3=>⟨sub a q1,Fw a q1 q2,fun e=>hn a q1 (e▸hC),k.keep a⟩) (fun e=>Dn.grow (P:=P) e (fun a o ø q=>k.keep a o q) new) fun e=>aU.grow (P:=P) e (fun a o ø q=>k.keep a o q) new
 ·intro i j x y kd MV a Ty hi hj h1 h2
  by_cases de:i<nt
  ·obtain⟨_,q,_⟩:=ok.tv i x kd true de hi;cases q
  ·by_cases Ud:j<nt
   ·obtain⟨_,q,_⟩:=ok.tv j y MV true Ud hj;cases q
   ·obtain⟨i',c1,v1,k1,l1⟩:=ok.cv i x kd true (by omega) hi
    obtain⟨j',c2,v2,k2,l2⟩:=ok.cv j y MV true (by omega) hj;have e1:sj nt mT ρ i=ρ i':=by simp[sj,de,c1]
    have e2:sj nt mT ρ j=ρ j':=by simp[sj,Ud,c2]
    rw[e1,e2];obtain⟨ov,q1,_⟩:=S.slot i' x kd true v1;obtain⟨Yx,q2,_⟩:=S.slot j' y MV true v2;have f1:=At.fun (atC i' x kd true ov v1 k1 l1 q1) h1
    have f2:=At.fun (atC j' y MV true Yx v2 k2 l2 q2) h2
    subst f1;subst f2;refine S.apart i' j' x y kd MV a (fun e=>?_) v1 v2 q1 q2;subst e;rw[v1]at v2;cases v2;exact Ty (ok.nodup i j x kd true kd true hi hj)
 ·intro a h ho
  rcases bp.mp h with rfl|h
  ·cases e:B.heap.get? a with
   |none=>rfl
   |some o=>have:=S.kp.keep a o e;rw[hC]at this;cases this
  ·rcases bp.mp h with rfl|h
   ·exact absurd ((Hc a).mpr (.inr (.inl rfl))) ho
   ·rcases cr.mp h with q|q
    ·exact absurd ((Hc a).mpr (.inl q)) ho
    ·exact S.own a q fun z=>ho ((Hc a).mpr (.inr (.inr z)))
end
section
variable{P:Pk}{n:Nat}{K K':Cx}{lo:Bool}
theorem Kp.mv0{W:List Addr}{gi:Option Nat}{aW s s':Shared}(k:Kp aW s)(v:Mv0 W gi s s')(hW:∀a∈W,aW.heap.get? a=none)(hg:∀g,gi=some g->aW.gens.size<=g):Kp aW s':=
 ⟨fun b o h=>v.keep b o (fun z=>nomatch(hW b z).symm.trans h) (k.keep b o h),Fv v hg k.gens,v.os.trans k.os⟩
noncomputable def Fx(ifs:List Expr)(env:Env):Sem Bool:=forIn ifs true fun c r=>if r=true then do let ok <-isTrue c env (eval c env);pure (ForInStep.yield ok)else pure (ForInStep.yield r)
noncomputable def CE(P:Pk)(A:Around)(R:Result->Shared->Prop)(env:Env):Value->Shared->Prop:=notedBy (model P.prog P.w) A env fun e s'=>R (.error e) s'
noncomputable def CX(P:Pk)(A:Around)(R:Result->Shared->Prop)(elt:Expr)(acc:Value)(env:Env)(J:Shared->Prop)(ok:Bool)(s:Shared):Prop:=
 if ok=true then wpAny (model P.prog P.w) A (eval elt env) (fun x gP=>wpAny (model P.prog P.w) A (call (.builtin "list.append") [acc,x]) (fun ø=>J) (CE P A R env) gP) (CE P A R env) s else J s
noncomputable def CA(P:Pk)(A:Around)(R:Result->Shared->Prop)(elt target:Expr)(ifs:List Expr)(acc:Value)(env:Env)(J:Shared->Prop)(v:Value)(_:Unit)(s:Shared):Prop:=
 wpAny (model P.prog P.w) A (assign target env v) (fun ø=>wpAny (model P.prog P.w) A (Fx ifs env) (CX P A R elt acc env J) (CE P A R env)) (CE P A R env) s
noncomputable def CT(P:Pk)(A:Around)(R:Result->Shared->Prop)(elt target:Expr)(ifs:List Expr)(acc:Value)(env:Env)(J:Shared->Prop)(it:Value)(r:Option Value)(s:Shared):Prop:=
 r.elim (R (.ok .next) s) fun v=>wpAny (model P.prog P.w) A (letOwnedTupleGo target it v) (CA P A R elt target ifs acc env J v) (CE P A R env) s
theorem oQ{A:Around}{R:Result->Shared->Prop}{s:Shared}{elt target iter:Expr}{ifs:List Expr}{scope:Scope}{pos:Pos}{it acc:Value}{env:Env}(I:Nat->Shared->Prop)
  (turn:∀n s,I n s->wpAny (model P.prog P.w) A (pyNext it) (CT P A R elt target ifs acc env (fun s=>∃m,m<n/\I m s) it) (CE P A R env) s)
  (n:Nat) (h:I n s):codeAny (model P.prog P.w) A (.compLoop (.ListComp elt [⟨target,iter,ifs,0⟩] scope pos) 0 it acc env) R s:=by
 refine codeAny_loop rfl I (fun n s hI=>?_) n h;show wpAny _ A ((compTurn (.ListComp elt [⟨target,iter,ifs,0⟩] scope pos) 0 it acc env).onRaise (fun x=>do noteFrame x env;theTreesLotGoes x)) _ _ s;refine wpAny_noted ?_;rw[compTurn_list];refine ar (qE (ar (au (turn n s hI) (fun r s₁ ag=>?_) fun ø ø h'=>h')))
 cases r with
 |none=>exact bd ag
 |some v=>
  refine ar (au ag (fun ø ad1 Ue=>?_) fun ø ø h'=>h');refine ar (au Ue (fun ø s₂ aH=>ar (au aH (fun ok cB eh=>?_) fun ø ø h'=>h')) fun ø ø h'=>h')
  cases ok with
  |false=>exact bd ⟨rfl,eh⟩
  |true=>
   exact ar (ar (au eh (fun x gP A2=>ar (au A2 (fun ø nM vt=>bd (bd ⟨rfl,vt⟩)) fun ø ø h'=>h')) fun ø ø h'=>h'))
theorem At.Pt{env m}{h h':Heap}{out out' hid ao:List Addr}{x k u}(a:At env m h' out' ao x k u){v}(b:At env m h out hid x k v)(hk:∀c v,h.IsCell c v->h'.IsCell c v):u=v:=by
 cases k<;>simp only[At]at a b
 ·exact a.symm.trans b
 all_goals first
  |exact a.elim
  |(obtain⟨c,h1,_,_,h2⟩:=a;obtain⟨c',IR,_,_,M3⟩:=b;rw[h1]at IR;cases IR;exact IsCell.fun h2 (hk _ _ M3))
noncomputable def A7(P:Pk)(n:Nat)(K:Cx)(ifs:List Expr)(f:al->Option Bool):Prop:=
 ∀(A:Around) (env:Env) (out hid:List Addr) (m:Str->Option Value) (B s:Shared) (ρ:al) (b:Bool) (E:Value->Shared->Prop),bW n A->aB P K env out hid m B s ρ->f ρ=some b->
  wpAny (model P.prog P.w) A (Fx ifs env) (fun c s'=>Kp s s'/\c=b) E s
theorem bY:A7 P n K [] fun ø=>some true:=fun A env out hid m B s ρ b E r S hf=>by
 cases hf;exact bd ⟨.refl s,rfl⟩
theorem p6{c:Expr}{f}(h:AS P n K c f):A7 P n K [c] f:=fun A env out hid m B s ρ b E r S hf=>wpAny_tests_one (h A env out hid m B s ρ b E r S hf)
noncomputable def nN(asg:al->V->Option al)(tf:al->Option Bool)(ef:al->Option V):List V->al->Option (List V)
 |[],_=>some []
 |x::xs,ρ=>(asg ρ x).bind fun am=>(tf am).bind fun ok=>if ok then(ef am).bind fun y=>(nN asg tf ef xs am).map (y:: ·)else nN asg tf ef xs am
theorem Jd(asg:al->V->Option al)(tf:al->Option Bool)(ef:al->Option V)(x:V)(xs:List V)(ρ:al):nN asg tf ef (x::xs) ρ=(asg ρ x).bind fun am=>(tf am).bind fun ok=>if ok then(ef am).bind fun y=>(nN asg tf ef xs am).map (y:: ·)else nN asg tf ef xs am:=rfl
noncomputable def fj(it:al->Option (List V))(asg:al->V->Option al)(tf:al->Option Bool)(ef:al->Option V)(nt:Nat)(mT:List Nat):al->Option V:=fun ρ=>
 (it ρ).bind fun xs=>if xs.length<most then(nN asg tf ef xs (sj nt mT ρ)).map .list else none
inductive D4(P:Pk)(K':Cx)(ce:Env)(out hid:List Addr)(B s:Shared)(C D:Addr)(W:List Addr)(St:List Addr->Nat->Shared->Prop)(i:Nat)(ρ:al)(l:List V)(s':Shared):Prop
 |mk (ao:List Addr) (m':Str->Option Value) (vs:List Value) (S:aB P K' ce (W++(D::out)) ao m' B s' ρ) (p:s'.heap.PlainList D vs.toArray) (d:aU P s'.heap ao l vs) (st:St ao i s') (kp:Kp s s') (sub:∀a∈C::D::(W++hid),a∈ao)
structure vu(P:Pk)(K':Cx)(A:Around)(ce:Env)(B s:Shared)(xs:List V)(I C D:Addr)(W:List Addr)(gi:Option Nat)(St:List Addr->Nat->Shared->Prop):Prop where
 hI:uA P A I W gi xs St
 hW:∀a∈W,s.heap.get? a=none
 hg:∀g,gi=some g->s.gens.size<=g
 hB:∀a,s.heap.get? a=none->B.heap.get? a=none
 Hd:∀g,gi=some g->B.gens.size<=g
 sC:s.heap.get? C=none
 sD:s.heap.get? D=none
 CD:C≠D
 WC:C∉W
 WD:D∉W
 lc:ce.locals=C
section
variable{A:Around}{ce:Env}{out hid:List Addr}{B s s' hZ:Shared}{xs:List V}{I C D:Addr}{W:List Addr}{gi:Option Nat}{St:List Addr->Nat->Shared->Prop}{i:Nat}{ρ aY:al}{l:List V}
theorem D4.kp(c:vu P K' A ce B s xs I C D W gi St)(h:D4 P K' ce out hid B s C D W St i ρ l s')(k:Kp s' hZ):D4 P K' ce out hid B s C D W St i ρ l hZ:=by
 obtain⟨ao,m',vs,S,p,d,st,kp,sub⟩:=h;exact⟨ao,m',vs,S.after k,p.at fun o e=>k.keep D o e,aU.kp d k,c.hI.frame ao ao i s' hZ (fun a h=>sub a (.tail _ (.tail _ (bj _ h)))) st (.gT k),kp.trans k,sub⟩
theorem D4.assign(c:vu P K' A ce B s xs I C D W gi St){ao gj:List Addr}{m₂:Str->Option Value}{vs:List Value}(p:s'.heap.PlainList D vs.toArray)(d:aU P s'.heap ao l vs)(st:St ao i s')(kp:Kp s s')(sub:∀a∈C::D::(W++hid),a∈ao)
  (cC:aB P K' ce (W++(D::out)) gj m₂ B hZ aY) (p7:Ks (W++(D::out)) ao gj s' hZ) (QL:∀b o,b≠ce.locals->s'.heap.get? b=some o->hZ.heap.get? b=some o):D4 P K' ce out hid B s C D W St i aY l hZ:=
 have kC:∀b o,b≠C->s'.heap.get? b=some o->hZ.heap.get? b=some o:=fun b o h=>QL b o (c.lc▸h)
 ⟨gj,m₂,vs,cC,p.at fun o e=>kC D o (dW c.CD) e,aU.ks d p7,c.hI.frame ao gj i s' hZ (fun a h=>sub a (.tail _ (.tail _ (bj _ h)))) st (p7.only fun a h=>bj _ h),
  ⟨fun b o h=>kC b o (fun z=>nomatch(z▸c.sC).symm.trans h) (kp.keep b o h),kp.gens.trans p7.gens,p7.os.trans kp.os⟩,fun a h=>p7.sub a (sub a h)⟩
theorem D4.app(c:vu P K' A ce B s xs I C D W gi St){ao:List Addr}{m':Str->Option Value}{vs:List Value}{h':Heap}{y:V}{u:Value}(S:aB P K' ce (W++(D::out)) ao m' B s' ρ)(d:aU P s'.heap ao l vs)(st:St ao i s')(kp:Kp s s')(sub:∀a∈C::D::(W++hid),a∈ao)
  (k:Kp s' hZ) (hu:Dn P hZ.heap ao y u) (hp:h'.PlainList D (vs++[u]).toArray) (uy:Heap.SameBut D hZ.heap h'):D4 P K' ce out hid B s C D W St i ρ (l++[y]) {hZ with heap:=h'}:=by
 have kD:∀b o,b≠D->hZ.heap.get? b=some o->h'.get? b=some o:=fun b o hb e=>(uy.2 b hb).trans e
 have hD:D∈ao:=sub D (.tail _ (.head _));have vq:∀a∈W,a∈ao:=fun a h=>sub a (.tail _ (.tail _ (bj _ h)))
 have one:∀a∈[D],a=D:=fun a h=>cN.mp h
 have mv:Mv [D] none hZ {hZ with heap:=h'}:=⟨⟨fun b o hb e=>kD b o (fun z=>hb (z▸ .head _)) e,fun j x ø h=>h,id,rfl⟩,fun a ha=>by
  rw[one a ha];exact hp.elim fun k e=>⟨_,e⟩⟩
 exact⟨ao,m',vs++[u],(S.after k).step (W:=[D]) (fun a h=>bw _ (one a h▸ .head _)) mv (fun a h=>one a h▸c.hB D c.sD) (fun g q=>nomatch q),hp,(aU.but (aU.kp d k) hD uy).app (.one (Dn.but hu hD uy)),
  c.hI.frame ao ao i s' _ vq st ⟨fun b o hb e=>kD b o (fun z=>hb.elim (fun w=>w (z▸hD)) (z▸c.WD)) (k.keep b o e),fun a h=>.inl h,fun a h=>h,k.gens,k.os⟩,
  ⟨fun b o h=>kD b o (fun z=>nomatch(z▸c.sD).symm.trans h) ((kp.trans k).keep b o h),(kp.trans k).gens,(kp.trans k).os⟩,sub⟩
end
inductive CompI(P:Pk)(K':Cx)(ce:Env)(out hid:List Addr)(B s:Shared)(xs l:List V)(asg:al->V->Option al)(tf:al->Option Bool)(ef:al->Option V)(C D:Addr)(W:List Addr)(St:List Addr->Nat->Shared->Prop)(k:Nat)(s':Shared):Prop
 |mk (i:Nat) (am:al) (l₁ rest:List V) (e:k+i=xs.length) (le:l₁.length<=i) (S:D4 P K' ce out hid B s C D W St i am l₁ s') (c:nN asg tf ef (xs.drop i) am=some rest) (el:l=l₁++rest):CompI P K' ce out hid B s xs l asg tf ef C D W St k s'
theorem He{elt:Expr}{ef}(he:eM P n K' false elt ef){A:Around}{ce:Env}{out hid:List Addr}{B s s':Shared}{xs l:List V}{I C D:Addr}{W:List Addr}{gi:Option Nat}{St:List Addr->Nat->Shared->Prop}{R:Result->Shared->Prop}{i:Nat}{ρ:al}{J:Shared->Prop}{ok:Bool}
  (rm:bW n A) (hl:l.length<most) (c:vu P K' A ce B s xs I C D W gi St) (h:D4 P K' ce out hid B s C D W St i ρ l s') (hJ:(ok=false->J s')/\(ok=true->∃y,ef ρ=some y/\∀A8,D4 P K' ce out hid B s C D W St i ρ (l++[y]) A8->J A8)):
  CX P A R elt (.ref D) ce J ok s':=by
 cases ok with
 |false=>exact hJ.1 rfl
 |true=>
  obtain⟨y,hy,hJ⟩:=hJ.2 rfl;obtain⟨ao,m',vs,S,p,d,st,kp,sub⟩:=h;refine au (he A ce (W++(D::out)) ao m' B s' ρ y _ rm S hy) (fun u nM vt=>?_) fun ø ø q=>q
  obtain⟨Uf,hu⟩:=vt;refine Dl (p.at fun o e=>Uf.keep D o e) (fun h' jK uy=>hJ _ (D4.app c S d st kp sub Uf hu (List.push_toArray vs u▸jK) uy)) ?_;have:=d.length;have hm:=cZ;rw[bM,this];omega
theorem Hf{elt target:Expr}{ifs:List Expr}{asg tf ef}(ha:zd P K' true target asg)(ht:A7 P n K' ifs tf)(he:eM P n K' false elt ef){A:Around}{ce:Env}{out hid:List Addr}{B s s':Shared}{xs l:List V}{I C D:Addr}{W:List Addr}{gi:Option Nat}{St:List Addr->Nat->Shared->Prop}{R:Result->Shared->Prop}{i:Nat}{ρ aY:al}{J:Shared->Prop}{ok:Bool}{x:V}
  (rm:bW n A) (c:vu P K' A ce B s xs I C D W gi St) (hx:xs[i]?=some x) (h:D4 P K' ce out hid B s C D W St i ρ l s') (h1:asg ρ x=some aY) (h2:tf aY=some ok) (hl:l.length<most)
  (hJ:∀cB,D4 P K' ce out hid B s C D W St (i+1) aY l cB->(ok=false->J cB)/\(ok=true->∃y,ef aY=some y/\∀A8,D4 P K' ce out hid B s C D W St (i+1) aY (l++[y]) A8->J A8)):
  wpAny (model P.prog P.w) A (pyNext (.ref I)) (CT P A R elt target ifs (.ref D) ce J (.ref I)) (CE P A R ce) s':=by
 obtain⟨ao,m',vs,S',p,d,Je,kps,sub⟩:=h;have vq:∀a∈W,a∈ao:=fun a h=>sub a (.tail _ (.tail _ (bj _ h)))
 refine au (c.hI.item ao i s' x _ hx vq S'.G S'.live Je) (fun r s₁ ag=>?_) fun ø ø q=>q
 obtain⟨v,rfl,hv,st₁,hq,mv⟩:=ag;have d₁:aU P s₁.heap ao l vs:=aU.grow d (fun a o ha e=>mv.keep a o (fun z=>ha (vq a z)) e) fun a h=>.inl h
 refine vo hq (au (ha A ce (W++(D::out)) ao m' B s₁ ρ aY x v _ rm.handled (S'.step (fun a h=>bj _ h) mv (fun a h=>c.hB a (c.hW a h)) c.Hd) h1 hv) (fun ø s₂ aH=>?_) fun ø ø q=>q);obtain⟨gj,m₂,cC,p7,QL⟩:=aH;have Ug:=D4.assign c (p.at fun o e=>mv.keep D o c.WD e) d₁ st₁ (kps.mv0 mv.toMv0 c.hW c.hg) sub cC p7 (QL rfl);refine au (ht A ce (W++(D::out)) gj m₂ B s₂ aY ok _ rm cC h2) (fun W4 cB eh=>?_) fun ø ø q=>q
 obtain⟨A9,rfl⟩:=eh;exact He he rm hl c (Ug.kp c A9) (hJ _ (Ug.kp c A9))
theorem Hg{elt target:Expr}{ifs:List Expr}{asg tf ef}(ha:zd P K' true target asg)(ht:A7 P n K' ifs tf)(he:eM P n K' false elt ef){A:Around}{ce:Env}{out hid:List Addr}{B s s':Shared}{xs l:List V}{I C D:Addr}{W:List Addr}{gi:Option Nat}{St:List Addr->Nat->Shared->Prop}{R:Result->Shared->Prop}{k:Nat}
  (rm:bW n A) (hl:xs.length<most) (c:vu P K' A ce B s xs I C D W gi St)
  (fin:∀s₁ m₁ (vs:List Value),Kp s s₁->s₁.heap.PlainList D vs.toArray->aU P s₁.heap (C::D::hid) l vs->s₁.heap.Ns C m₁->R (.ok .next) s₁)
  (h:CompI P K' ce out hid B s xs l asg tf ef C D W St k s'):wpAny (model P.prog P.w) A (pyNext (.ref I)) (CT P A R elt target ifs (.ref D) ce (fun t=>∃m,m<k/\CompI P K' ce out hid B s xs l asg tf ef C D W St m t) (.ref I)) (CE P A R ce) s':=by
 obtain⟨i,am,l₁,rest,e,le,S,hc,el⟩:=h;by_cases de:i<xs.length
 ·rw[pf de]at hc
  refine ah hc fun fk h1 hc=>ah hc fun okb h2 hc=>?_
  obtain⟨j,hj⟩:=yN de;have hk:k=j+1:=by omega
  have Hh:j+(i+1)=xs.length:=by omega
  refine Hf ha ht he rm c (dX de) S h1 h2 (gR (aA le (eY de)) hl) fun cB kT=>⟨fun z=>?_,fun z=>?_⟩
  ·exact⟨j,hk▸mV j,i+1,fk,l₁,rest,Hh,i6 le,kT,(az (z▸nofun)).symm.trans hc,el⟩
  ·refine ah ((aw z).symm.trans hc) fun y hy hc=>bV hc fun r hr er=>⟨y,hy,fun A8 QM=>⟨j,hk▸mV j,i+1,fk,l₁++[y],r,Hh,?_,QM,hr,?_⟩⟩
   ·rw[List.length_append];exact m7 le 1
   ·rw[el,<-er,List.append_assoc];rfl
 ·have hie:i=xs.length:=by omega
  rw[uY (yK de)]at hc;have er:=Option.some.inj hc;obtain⟨ao,m',vs,S',p,d,st,kp,sub⟩:=S;have vq:∀a∈W,a∈ao:=fun a h=>sub a (.tail _ (.tail _ (bj _ h)))
  refine au (c.hI.done ao s' _ vq S'.G S'.live (hie▸st)) (fun r s₁ ag=>?_) fun ø ø q=>q
  obtain⟨rfl,mv⟩:=ag;have dl:aU P s₁.heap ao l vs:=by
   rw[el,<-er,gn];exact aU.grow d (fun a o ha e=>mv.keep a o (fun z=>ha (vq a z)) e) fun a h=>.inl h
  obtain⟨o,es,ep,ho,hr⟩:=S'.ns;rw[c.lc]at ho;exact fin s₁ m' vs (kp.mv0 mv c.hW c.hg) (p.at fun o e=>mv.keep D o c.WD e) (dl.less fun a h=>sub a ((bp.mp h).elim (fun e=>e▸ .head _) fun h=>.tail _ ((bp.mp h).elim (fun e=>e▸ .head _) fun h=>.tail _ (bw _ h)))) ⟨o,es,ep,mv.keep C o c.WC ho,hr⟩
theorem D5{elt target iter:Expr}{ifs:List Expr}{scope:Scope}{pos:Pos}{asg tf ef}{nt:Nat}{mT:List Nat}(ok:x3 K K' nt mT scope)(ha:zd P K' true target asg)(ht:A7 P n K' ifs tf)(he:eM P n K' false elt ef){A:Around}{env:Env}{out hid:List Addr}{m Hi}
  {B s s₂ gP:Shared} {ρ:al} {xs l:List V} {C D:Addr} {it:Value} {R:Result->Shared->Prop} (rm:bW n A) (S:aB P K env out hid m B s ρ) (hl:xs.length<most) (hc:nN asg tf ef xs (sj nt mT ρ)=some l) (h:TG P A hid xs s s₂ it)
  (k4:Kp s₂ gP) (D0:s₂.heap.get? D=none) (C0:s₂.heap.get? C=none) (IU:C≠D) (lst:gP.heap.PlainList D ([]:List Value).toArray) (ns:gP.heap.Ns C Hi)
  (fin:∀s₁ m₁ (vs:List Value),s.heap.get? D=none->s.heap.get? C=none->Kp s s₁->s₁.heap.PlainList D vs.toArray->aU P s₁.heap (C::D::hid) l vs->s₁.heap.Ns C m₁->R (.ok .next) s₁):
  codeAny (model P.prog P.w) A (.compStart (.ListComp elt [⟨target,iter,ifs,0⟩] scope pos) 0 it (.ref D) (compEnvC scope (dQ env.cells scope.names []) C env)) R gP:=by
 obtain⟨I,W,gi,St,rfl,kp,hI,hW,lW,hg,st⟩:=h;have fresh:∀a,s₂.heap.get? a=none->s.heap.get? a=none:=fun a h=>by
  cases e:s.heap.get? a with
  |none=>rfl
  |some o=>exact nomatch(kp.keep a o e).symm.trans h
 have WC:C∉W:=fun h=>(lW C h).elim fun o e=>nomatch C0.symm.trans e
 have WD:D∉W:=fun h=>(lW D h).elim fun o e=>nomatch D0.symm.trans e
 have Hd:∀g,gi=some g->B.gens.size<=g:=fun g e=>aA S.kp.gens.size (hg g e)
 have c:vu P K' A (compEnvC scope (dQ env.cells scope.names []) C env) B s xs I C D W gi St:=⟨hI,hW,hg,fun a h=>S.fresh h,Hd,fresh C C0,fresh D D0,IU,WC,WD,rfl⟩;have jM:=S.comp ok (C:=C) (D:=D) (W:=W) (kp.trans k4) hW c.sC c.sD IU WC (lW.kp k4) (lst.elim fun k q=>⟨_,q⟩) ns;have Pu:St (C::D::(W++hid)) 0 gP:=hI.frame (W++hid) (C::D::(W++hid)) 0 s₂ gP (fun a h=>bj _ h) st ⟨fun b o ø e=>k4.keep b o e,fun a h=>(bp.mp h).elim (fun e=>.inr (e▸C0)) fun h=>(bp.mp h).elim (fun e=>.inr (e▸D0)) .inl,fun a h=>.tail _ (.tail _ h),k4.gens,k4.os⟩;have main:=oQ (iter:=iter) (scope:=scope) (pos:=pos) (fun k s'=>CompI P K' (compEnvC scope (dQ env.cells scope.names []) C env) out hid B s xs l asg tf ef C D W St k s') (fun k s' h=>Hg ha ht he rm hl c (fun s₁ m₁ vs=>fin s₁ m₁ vs c.sD c.sC) h) xs.length
  ⟨0,sj nt mT ρ,[],l,rfl,dU _,⟨C::D::(W++hid),_,[],jM,lst,aV.nil,Pu,kp.trans k4,fun ø h=>h⟩,hc,rfl⟩
 exact codeAny_compStart_list main (hI.self _ 0 gP _ _ Pu main)
theorem Jf{α:Type}{asg:al->V->Option al}{tf:al->Option Bool}{ef:al->Option V}(I:al->Prop)(toV:α->V)(p:α->Bool)(h:α->V):∀(us:List α) (ρ:al),(∀x∈us,∀ρ,I ρ->∃am,asg ρ (toV x)=some am/\I am/\tf am=some (p x)/\(p x=true->ef am=some (h x)))->I ρ->nN asg tf ef (us.map toV) ρ=some ((us.filter p).map h):=by
 intro us
 induction us with
 |nil=>exact fun ø ø ø=>rfl
 |cons x xs ih=>
  intro ρ hs hI;obtain⟨am,h1,h2,h3,h4⟩:=hs x (.head _) ρ hI;have ih:=ih am (fun y hy=>hs y (.tail _ hy)) h2;rw[bn,Jd,h1,List.filter_cons];show((tf am).bind fun ok=>if ok then(ef am).bind fun y=>(nN asg tf ef (xs.map toV) am).map (y:: ·)else nN asg tf ef (xs.map toV) am)=_;rw[h3,ih];show(if p x=true then(ef am).bind fun y=>(some _).map (y:: ·)else some _)=_;by_cases hp:p x=true
  ·rw[aw hp,aw hp,h4 hp];rfl
  ·rw[az hp,az hp]
theorem qU{α:Type}{it:al->Option (List V)}{asg:al->V->Option al}{tf:al->Option Bool}{ef:al->Option V}{nt:Nat}{mT:List Nat}{ρ:al}(I:al->Prop)(us:List α)(toV:α->V)(p:α->Bool)(h:α->V)(hi:it ρ=some (us.map toV))(hm:us.length<most)
  (hs:∀x∈us,∀ρ,I ρ->∃am,asg ρ (toV x)=some am/\I am/\tf am=some (p x)/\(p x=true->ef am=some (h x))) (hI:I (sj nt mT ρ)):fj it asg tf ef nt mT ρ=some (.list ((us.filter p).map h)):=by
 unfold fj;rw[hi];show(if(us.map toV).length<most then _ else none)=_;rw[bi,aw hm,Jf I toV p h us _ hs hI];rfl
theorem db{α:Type}{it:al->Option (List V)}{asg:al->V->Option al}{ef:al->Option V}{nt:Nat}{mT:List Nat}{ρ:al}(I:al->Prop)(us:List α)(toV:α->V)(h:α->V)(hi:it ρ=some (us.map toV))(hm:us.length<most)
  (hs:∀x∈us,∀ρ,I ρ->∃am,asg ρ (toV x)=some am/\I am/\ef am=some (h x)) (hI:I (sj nt mT ρ)):fj it asg (fun ø=>some true) ef nt mT ρ=some (.list (us.map h)):=
 (qU (tf:=fun ø=>some true) I us toV (fun ø=>true) h hi hm (fun x hx ρ hI=>by
  obtain⟨am,h1,h2,h3⟩:=hs x hx ρ hI;exact⟨am,h1,h2,rfl,fun ø=>h3⟩) hI).trans (by rw[List.filter_eq_self.mpr fun ø ø=>rfl])
theorem Nm{s:Shared}{o ns:Obj}{ag:Heap}{t:Nat}(ho:o.isFreed=false)(uy:Heap.SameBut (s.heap.push o).objs.size ((s.heap.push o).push ns) ag){Q:Prop}
  (h:Kp s {s with heap:=ag,toks:=t}->s.heap.get? s.heap.objs.size=none->s.heap.get? (s.heap.push o).objs.size=none->(s.heap.push o).objs.size≠s.heap.objs.size->ag.get? s.heap.objs.size=some o->Q):Q:=by
 have e:(s.heap.push o).objs.size=s.heap.objs.size+1:=qF ..;have bN:(s.heap.push o).objs.size≠s.heap.objs.size:=e▸pL _;have C0:s.heap.get? (s.heap.push o).objs.size=none:=by
  cases q:s.heap.get? (s.heap.push o).objs.size with
  |none=>rfl
  |some o=>exact absurd (f5 q) (e▸kJ.mpr (i5 _))
 exact h (.heap fun b o' q=>uy.extBut b o' (fun z=>nomatch(z▸C0).symm.trans q) (bK _ (bK _ q))) (aP _) C0 bN (uy.extBut _ _ bN.symm (bK _ (bD _ ho)))
theorem QN{γ:Type}{c:Prop}[Decidable c]{a:Option γ}{z:γ}{G:Prop}(h:(if c then a else none)=some z)(k:c->a=some z->G):G:=by
 by_cases q:c
 ·exact k q ((aw q).symm.trans h)
 ·exact nomatch(az q).symm.trans h
theorem Ba{elt target iter:Expr}{ifs:List Expr}{scope:Scope}{pos:Pos}{it asg tf ef}{nt:Nat}{mT:List Nat}(hi:QJ P n K iter it)(ok:x3 K K' nt mT scope)(ha:zd P K' true target asg)(ht:A7 P n K' ifs tf)(he:eM P n K' false elt ef)
  (hs:∀env x,foldedSetIterable iter env x=pure x) {A:Around} {env:Env} {out hid:List Addr} {m} {B s:Shared} {ρ:al} {x:V} (E:Value->Shared->Prop) (rm:bW n A) (S:aB P K env out hid m B s ρ) (hf:fj it asg tf ef nt mT ρ=some x) {ps:Pos}
  {use:Option (Value->Sem Unit)} {Q:Value->Shared->Prop}
  (Nn:∀D C s₁ m₁ l (vs:List Value),x= .list l->s.heap.get? D=none->s.heap.get? C=none->C≠D->Kp s s₁->s₁.heap.PlainList D vs.toArray->aU P s₁.heap (C::D::hid) l vs->s₁.heap.Ns C m₁->compPost (model P.prog P.w) A E use Q (.ref D) C (.ok .next) s₁):
  wpAny (model P.prog P.w) A (comprehension (.ListComp elt [⟨target,iter,ifs,0⟩] scope pos) scope env ps (newList []) false (eval iter env) use) Q E s:=by
 refine ah hf fun xs xu gg=>?_
 refine QN gg fun hlen hq=>bV hq fun l hl e=>?_
 have kR:∀y∈scope.names,y.2= .free->∃c,env.cells.lookup y.1=some c:=fun y hy h=>by
  obtain⟨i,k,b,hv,hk⟩:=ok.free y hy h;obtain⟨ov,h1,_⟩:=S.slot i y.1 k b hv;rcases hk with rfl|rfl<;>simp only[At]at h1<;>exact⟨_,h1.choose_spec.1⟩
 refine wpAny_comprehension_free (g:=⟨target,iter,ifs,0⟩) (gs:=[]) rfl (hs env) (xw kR) ok.kind ok.names ?_;refine au (hi A env out hid m B s ρ xs E rm S xu) (fun v s₁ ag=>au ag (fun it' s₂ aH=>?_) fun ø ø q=>q) fun ø ø q=>q
 refine pM (wpAny_newFunctionEnv ok.ncell (by intro y hy;simp at hy) (fun ag QO QP=>?_) ok.kind);exact Nm rfl QP fun k4 D0 C0 IU lst=>D5 ok ha ht he rm S hlen hl aH k4 D0 C0 IU ⟨0,lst⟩ QO fun s₁ m₁ vs sD sC kp p d ns=>Nn _ _ s₁ m₁ l vs e.symm sD sC IU kp p d ns
theorem dj{elt target iter:Expr}{ifs:List Expr}{scope:Scope}{pos:Pos}{it asg tf ef}{nt:Nat}{mT:List Nat}(hi:QJ P n K iter it)(ok:x3 K K' nt mT scope)(ha:zd P K' true target asg)(ht:A7 P n K' ifs tf)(he:eM P n K' false elt ef)
  (hs:∀env x,foldedSetIterable iter env x=pure x):MW P n K (.ListComp elt [⟨target,iter,ifs,0⟩] scope pos) (fj it asg tf ef nt mT):=fun A env out hid m B s ρ x E rm S hf=>by
 rw[eval_ListComp];refine Ba (use:=none) hi ok ha ht he hs E rm S hf fun D C s₁ m₁ l vs hx sD sC IU kp sk hd vm=>⟨m₁,vm,fun h' uy=>⟨⟨fun b o q=>(uy.2 b fun z=>by rw[z,sC]at q;cases q).trans (kp.keep b o q),kp.gens,kp.os⟩,?_⟩⟩
 subst hx;exact⟨D,vs,rfl,sD,sk.at fun o e=>(uy.2 D (dW IU)).trans e,(aU.grow (P:=P) hd (fun a o ha e=>(uy.2 a fun z=>ha (by simp[z])).trans e) fun a h=>.inl h).less fun a h=>by simp at h ⊢;exact .inr h⟩
theorem D6{elt:Expr}{gens:List Comprehension}{scope:Scope}{pos p:Pos}{line:Nat}{x:Str}{env:Env}(hk:env.scope.kind= .function)(hl:env.kindOf x=some .local)(hp:(p.line==pos.line)=true)
  (hn:(scope.names.any fun y=>y.1==x&&(y.2== .local||y.2== .cell))=false):swapsWith (.ListComp elt gens scope pos) (some (.Name x p)) line env=pure true:=by
 unfold swapsWith;have hb:env.blockKind= .function:=by unfold Env.blockKind;simp[hk,ScopeKind.isAnnotationScope]
 have e:(env.blockKind== .function&&env.kindOf x==some .local&&p.line==(Expr.ListComp elt gens scope pos).pos.line&&!(scope.names.any fun y=>y.1==x&&(y.2== .local||y.2== .cell)))=true:=by
  have No:(p.line==(Expr.ListComp elt gens scope pos).pos.line)=true:=hp;rw[hb,hl,hn,No];rfl
 show(pure _:Sem Bool)=pure true;exact congrArg _ e
theorem D7{elt:Expr}{gens:List Comprehension}{scope:Scope}{pos p:Pos}{line:Nat}{x:Str}{env:Env}{k:NameKind}(hl:env.kindOf x=some k)(hk:k≠ .local):swapsWith (.ListComp elt gens scope pos) (some (.Name x p)) line env=pure false:=by
 unfold swapsWith;have e:(env.blockKind== .function&&env.kindOf x==some .local&&p.line==(Expr.ListComp elt gens scope pos).pos.line&&!(scope.names.any fun y=>y.1==x&&(y.2== .local||y.2== .cell)))=false:=by
  have:(env.kindOf x==some NameKind.local)=false:=by
   rw[hl];cases k<;>first|exact absurd rfl hk|rfl
  rw[this];simp
 show(pure _:Sem Bool)=pure false;exact congrArg _ e
theorem aB.so{env:Env}{out hid:List Addr}{m}{B s:Shared}{ρ}(S:aB P K env out hid m B s ρ){a c:Addr}(h:a∈hid)(hc:s.heap.get? c=none):a≠c:=fun e=>(S.live a h).elim fun o q=>nomatch(e▸q).symm.trans hc
theorem aB.Jg{env:Env}{out hid out' ao:List Addr}{m}{B s s₁:Shared}{ρ}(S:aB P K env out hid m B s ρ)(k:Kp s s₁){D:Addr}(hD:s.heap.get? D=none)(j:Nat)(x' k' a)(hj:K.vars[j]?=some (x',k',true))(e:Value.ref D= .ref a)(oO:At env m s₁.heap out' ao x' k' (some (.ref a))):ρ j=none:=by
 obtain⟨ov,q1,q2⟩:=S.slot j x' k' true hj;rw[<-At.Pt oO q1 fun c v z=>z.keeps k.keep]at q2
 induction er:ρ j with
 |none=>rfl
 |some z=>
  rw[er]at q2;obtain⟨u,e',q2⟩:=q2;obtain⟨a'',e'',z1,_⟩:=fc.addr (P:=P) q2;exact absurd (Value.ref.inj (e.trans ((Option.some.inj e').trans e''))) (S.so z1 hD).symm
theorem Bb{env:Env}{out hid:List Addr}{m}{B s s₁:Shared}{ρ}(S:aB P K env out hid m B s ρ){i:Nat}{x:Str}{b:Bool}(Uh:K.vars[i]?=some (x,.local,b)){C:Addr}{m₁}{y:V}{v:Value}{A:Around}{E:Value->Shared->Prop}{p:Pos}(kp:Kp s s₁)(sC:s.heap.get? C=none)(vm:s₁.heap.Ns C m₁){X:List Addr}(hX:∀a∈X,s.heap.get? a=none)(lX:cx s₁.heap X)
  (hv:if b then fc P env.locals s₁.heap ([C]++out) ([C]++(X++hid)) y v else Dn P s₁.heap ([C]++(X++hid)) y v)
  (oP:b=true->∀(j:Nat) x' k' a,j≠i->K.vars[j]?=some (x',k',true)->v= .ref a->At env m s₁.heap ([C]++out) ([C]++(X++hid)) x' k' (some (.ref a))->ρ j=none):
  wpAny (model P.prog P.w) A (assign (.Name x p) env v) (fun ø hZ=>∃m,hZ.heap.Ns C m/\∀h',Heap.SameBut C hZ.heap h'->I5 P K env out hid B s {hZ with heap:=h'} (upd ρ i y) .next .next) E s₁:=by
 have one:∀a∈[C],a=C:=fun a h=>cN.mp h
 obtain⟨o,es,ep,ho,hr⟩:=vm;have YS:=S.I9 (W:=[C]) (X:=X) kp (fun a h=>one a h▸sC) (fun a h=>⟨o,one a h▸ho⟩) hX lX;refine na (YS.store Uh hv oP (by decide) fun m' hZ S' gh ø=>⟨m₁,⟨o,es,ep,gh.keep C o (.inr (.head _)) ho,hr⟩,fun h' uy=>?_⟩);have hk:∀b o,b≠C->hZ.heap.get? b=some o->h'.get? b=some o:=fun b o hb q=>(uy.2 b hb).trans q
 have YJ:=S'.last (s':={hZ with heap:=h'}) (gi:=none) ⟨fun b o hb q=>hk b o (fun z=>hb (z▸ .head _)) q,fun j y ø h=>h,id,rfl⟩ (fun a h=>one a h▸S.fresh sC) (fun g q=>nomatch q) fun a h q=>S.so (S.oh a h) sC (one a q)
 refine⟨_,m',YJ,⟨fun b o hb q=>?_,fun a h=>?_,fun a h=>?_,kp.gens.trans gh.gens,gh.os.trans kp.os⟩,rfl⟩
 ·have hbC:b≠C:=fun e=>nomatch(e▸q).symm.trans sC
  exact hk b o hbC (gh.keep b o (hb.imp (fun hn hm=>(bp.mp hm).elim hbC fun z=>(cr.mp (show b∈X++hid from z)).elim (fun z=>nomatch(hX b z).symm.trans q) hn) (.tail _)) (kp.keep b o q))
 ·obtain⟨h1,h2⟩:=kI.mp h
  refine(bp.mp h1).elim (fun z=>?_) fun z=>(cr.mp (show a∈X++hid from z)).elim (fun w=>.inr (hX a w)) .inl
  rw[z,Dt,pJ]at h2;cases h2
 ·refine kI.mpr ⟨.tail _ (bw X h),?_⟩
  rw[Dt,pd.mpr (S.so h sC)];rfl
theorem gY(i:Nat){x:Str}{b:Bool}{p YT:Pos}{elt target iter:Expr}{ifs:List Expr}{scope:Scope}{pos:Pos}{it asg tf ef}{nt:Nat}{mT:List Nat}(Uh:K.vars[i]?=some (x,.local,b))
  (hi:QJ P n K iter it) (ok:x3 K K' nt mT scope) (ha:zd P K' true target asg) (ht:A7 P n K' ifs tf) (he:eM P n K' false elt ef)
  (hs:∀env x,foldedSetIterable iter env x=pure x) (hp:(p.line==pos.line)=true) (hn:(scope.names.any fun y=>y.1==x&&(y.2== .local||y.2== .cell))=false):
  uk P n K (.Assign [.Name x p] (.ListComp elt [⟨target,iter,ifs,0⟩] scope pos) YT) (fun ρ=>(fj it asg tf ef nt mT ρ).map fun y=>(upd ρ i y,.next)):=fun A env out hid m B s ρ aY fl E rm S hf=>by
 refine bV hf fun y hy e=>pair_inv e ?_
 rw[exec_Assign_Name_used _ _ _ _ (D6 S.fn (S.kind i x _ b Uh) hp hn)];refine ar (qE (ar ?_));show wpAny _ A (do let _ <-comprehension (.ListComp elt [⟨target,iter,ifs,0⟩] scope pos) scope env _ (newList []) false (eval iter env) (some (assign (.Name x p) env))) _ _ s;refine ar (au (Ba (use:=some (assign (.Name x p) env)) (Q:=fun ø s'=>I5 P K env out hid B s s' (upd ρ i y) .next .next) hi ok ha ht he hs E rm S hy fun D C s₁ m₁ l vs hx sD sC IU kp sk hd vm=>?_) (fun ø s' hq=>bd (bd hq)) fun ø ø e=>e);show wpAny _ A (assign (.Name x p) env (.ref D)) _ _ _;have one:∀a∈[D],a=D:=fun a h=>cN.mp h
 induction b with
 |false=>
  exact Bb S Uh kp sC vm (X:=[]) (fun a h=>nomatch h) (fun a h=>nomatch h) (hx.symm▸Dn.ofList (fun h=>(bp.mp h).elim IU.symm fun h=>S.so h sD rfl) sk (hd.less fun a h=>(bp.mp h).elim (fun e=>e▸ .head _) fun h=>.tail _ (.tail _ h))) nofun
 |true=>
  exact Bb S Uh kp sC vm (X:=[D]) (fun a h=>one a h▸sD) (fun a h=>one a h▸sk.elim fun k e=>⟨_,e⟩) (hx.symm▸fc.ofList (.tail _ (.head _)) (fun h=>(bp.mp h).elim IU.symm fun h=>S.so (S.oh D h) sD rfl) (fun e=>S.so S.Lh sD e.symm) sk hd) fun ø j x' k' a hj tI e oO=>S.Jg kp sD j x' k' a tI e oO
end
section
variable{P:Pk}{n:Nat}{K K':Cx}{lo:Bool}
noncomputable def oR(xs:List V):al:=fun j=>xs[j]?
noncomputable def Ui:al×Fl->Option V
 |(_,.next)=>some .none
 |(_,.ret x)=>some x
 |_=>none
structure vw(K:Cx)(sc:Scope)(ps:List Str):Prop where
 kind:sc.kind= .function
 vars:∀(j:Nat) x k b,K.vars[j]?=some (x,k,b)->sc.names.lookup x=some k/\(k= .local\/k= .cell)
 pars:∀(j:Nat) x,ps[j]?=some x->∃k,K.vars[j]?=some (x,k,false)
 glob:∀x∈K.aM,sc.names.lookup x=some .globalImplicit
 nodup:∀(i j:Nat) x k b k' b',K.vars[i]?=some (x,k,b)->K.vars[j]?=some (x,k',b')->i=j
noncomputable def Np(K:Cx)(sc:Scope)(ps:List Str):Bool:=
 sc.kind== .function&&(K.vars.all fun z=>sc.names.lookup z.1==some z.2.1&&(z.2.1== .local||z.2.1== .cell))&&decide ((K.vars.take ps.length).map (fun z=>(z.1,z.2.2))=ps.map fun x=>(x,false))&&
 (K.aM.all fun x=>sc.names.lookup x==some .globalImplicit)&&decide (K.vars.map (·.1)).Nodup
theorem vw.of{sc:Scope}{ps:List Str}(h:Np K sc ps=true):vw K sc ps:=by
 simp only[Np,dI,cD,jT,m5,iH]at h;obtain⟨⟨⟨⟨h1,h2⟩,h3⟩,h4⟩,h5⟩:=h;refine⟨h1,fun j x k b hj=>?_,fun j x hj=>?_,h4,fun i j x k b k' b' hi hj=>?_⟩
 ·have:=h2 (x,k,b) (my hj)
  exact⟨this.1,this.2⟩
 ·have e:((K.vars.take ps.length).map (fun z=>(z.1,z.2.2)))[j]?=some (x,false):=by rw[h3,bL,hj];rfl
  rw[bL]at e;refine bV e fun z hz e=>?_
  rw[List.getElem?_take]at hz;split at hz
  ·obtain⟨x',k,b⟩:=z
   cases e;exact⟨k,hz⟩
  ·cases hz
 ·have e1:(K.vars.map (·.1))[i]?=some x:=by rw[bL,hi];rfl
  have e2:(K.vars.map (·.1))[j]?=some x:=by rw[bL,hj];rfl
  have Nc:i<(K.vars.map (·.1)).length:=by
   by_cases q:i<(K.vars.map (·.1)).length
   ·exact q
   ·rw[iI (by omega)]at e1;cases e1
  exact(List.getElem?_inj Nc h5).mp (e1.trans e2.symm)
set_option tactic.hygienic true in
theorem ia{x:Str}:∀{names:List (Str×NameKind)} {k:Nat} {acc:List (Str×Addr)},((x,NameKind.cell)∈names\/∃c,(x,c)∈acc)->∃c,(x,c)∈cellsFrom k names acc
 |[],k,acc,h=>by
  rcases h with h|h
  ·cases h
  ·exact h
 |(y,kd)::r,k,acc,h=>by
  unfold cellsFrom;split
  ·rename_i hk
   refine ia ?_;rcases h with h|⟨c,h⟩
   ·rcases bp.mp h with q|q
    ·cases q;exact .inr ⟨k,by simp⟩
    ·exact .inl q
   ·exact .inr ⟨c,by simp[h]⟩
  ·rename_i hk
   refine ia ?_;rcases h with h|h
   ·rcases bp.mp h with q|q
    ·cases q;exact absurd rfl hk
    ·exact .inl q
   ·exact .inr h
theorem Bc{kindOf:Str->Option NameKind}:∀{l:List (Str×Value)} {m:Str->Option Value} {x:Str},(∀y∈l,y.1≠x)->bindL kindOf l m x=m x
 |[],_,_,_=>rfl
 |(y,v)::r,m,x,h=>by
  unfold bindL;rw[Bc fun z hz=>h z (by simp[hz])];have:x≠y:=fun e=>h (y,v) (by simp) e.symm
  split
  ·simp[this]
  ·rfl
theorem Bd{kindOf:Str->Option NameKind}:∀{l:List (Str×Value)} {m:Str->Option Value} {x:Str},(∀y∈l,y.1≠x)->bindC kindOf l m x=m x
 |[],_,_,_=>rfl
 |(y,v)::r,m,x,h=>by
  unfold bindC;rw[Bd fun z hz=>h z (by simp[hz])];have:x≠y:=fun e=>h (y,v) (by simp) e.symm
  split
  ·rfl
  ·simp[this]
theorem Be{kindOf:Str->Option NameKind}:∀{ps:List Str} {vs:List Value} {m:Str->Option Value} {j:Nat} {x:Str} {v:Value},ps.Nodup->ps[j]?=some x->vs[j]?=some v->kindOf x=some .local->bindL kindOf (ps.zip vs) m x=some v
 |[],_,_,_,_,_,_,h,_,_=>by simp at h
 |_::_,[],_,_,_,_,_,_,h,_=>by simp at h
 |p::ps,u::vs,m,0,x,v,hn,hp,hv,hk=>by
  simp at hp hv;subst hp;subst hv;rw[nc];unfold bindL;rw[aw hk,Bc (x:=p) fun y hy e=>(gC.mp hn).1 (by have:=(List.of_mem_zip hy).1;rwa[e]at this)];simp
 |p::ps,u::vs,m,j+1,x,v,hn,hp,hv,hk=>by
  rw[nc];unfold bindL;exact Be (gC.mp hn).2 (by simpa using hp) (by simpa using hv) hk
theorem Bf{kindOf:Str->Option NameKind}:∀{ps:List Str} {vs:List Value} {m:Str->Option Value} {j:Nat} {x:Str} {v:Value},ps.Nodup->ps[j]?=some x->vs[j]?=some v->kindOf x≠some .local->bindC kindOf (ps.zip vs) m x=some v
 |[],_,_,_,_,_,_,h,_,_=>by simp at h
 |_::_,[],_,_,_,_,_,_,h,_=>by simp at h
 |p::ps,u::vs,m,0,x,v,hn,hp,hv,hk=>by
  simp at hp hv;subst hp;subst hv;rw[nc];unfold bindC;rw[az hk,Bd (x:=p) fun y hy e=>(gC.mp hn).1 (by have:=(List.of_mem_zip hy).1;rwa[e]at this)];simp
 |p::ps,u::vs,m,j+1,x,v,hn,hp,hv,hk=>by
  rw[nc];unfold bindC;exact Bf (gC.mp hn).2 (by simpa using hp) (by simpa using hv) hk
end
section
variable{P:Pk}{n:Nat}{K K':Cx}{lo:Bool}
theorem aB.perm{env:Env}{out hid ao:List Addr}{m}{B s:Shared}{ρ}(S:aB P K env out hid m B s ρ)(h:∀a,a∈ao<->a∈hid):aB P K env out ao m B s ρ:=
 S.grow (.refl s) (fun a q=>(h a).mpr q) (fun a q=>.inl ((h a).mp q)) fun a q=>S.live a ((h a).mp q)
inductive kU(P:Pk)(L:Addr)(h:Heap)(out hid:List Addr):List Bool->List V->List Value->List Addr->Prop
 |nil:kU P L h out hid [] [] [] []
 |dat {bs xs vs H x v} (d:Dn P h hid x v) (r:kU P L h out hid bs xs vs H):kU P L h out hid (false::bs) (x::xs) (v::vs) H
 |box {bs xs vs H x a} (ha:a∉H) (b:fc P L h out hid x (.ref a)) (r:kU P L h out hid bs xs vs H):kU P L h out hid (true::bs) (x::xs) (.ref a::vs) (a::H)
theorem kU.grow{L:Addr}{h h':Heap}{out hid ao:List Addr}(hk:∀a o,h.get? a=some o->h'.get? a=some o)(hh:∀a∈hid,a∈ao)(hn:∀a∈ao,a∈hid\/h.get? a=none){bs:List Bool}{xs:List V}{vs:List Value}{H:List Addr}(e:kU P L h out hid bs xs vs H):kU P L h' out ao bs xs vs H:=by
 induction e with
 |nil=>exact .nil
 |dat d _ ih=>exact .dat (Dn.grow (P:=P) d (fun a o ø q=>hk a o q) hn) ih
 |box ha b _ ih=>exact .box ha (fc.grow (P:=P) b hk hh hn) ih
inductive Uj(P:Pk)(K:Cx)(env:Env)(out hid:List Addr)(m:Str->Option Value)(B s s':Shared)(ρ:al)(bs:List Bool)(xs:List V)(vs:List Value):Prop
 |mk (H:List Addr) (S:aB P K env out (H++hid) m B s' ρ) (k:Kp s s') (n:∀a∈H,s.heap.get? a=none) (r:kU P env.locals s'.heap out (H++hid) bs xs vs H):Uj P K env out hid m B s s' ρ bs xs vs
noncomputable def jN(P:Pk)(n:Nat)(K:Cx)(es:List Expr)(bs:List Bool)(f:al->Option (List V)):Prop:=
 ∀(A:Around) (env:Env) (out hid:List Addr) (m:Str->Option Value) (B s:Shared) (ρ:al) (xs:List V) (E:Value->Shared->Prop) (pos:Pos),bW n A->aB P K env out hid m B s ρ->f ρ=some xs->
  wpAny (model P.prog P.w) A (spliced (backTo pos (starEach es env))) (fun vs s'=>Uj P K env out hid m B s s' ρ bs xs vs) E s
theorem jN.nil:jN P n K [] [] fun ø=>some []:=fun A env out hid m B s ρ x E pos rm S hf=>by
 cases hf;exact jR ⟨[],S,.refl s,fun a h=>(nomatch h),.nil⟩
theorem jN.dat{e:Expr}{es:List Expr}{bs f g}(h:eM P n K false e f)(hs:jN P n K es bs g)(he:∀env,starEach (e::es) env=(false,eval e env)::starEach es env):jN P n K (e::es) (false::bs) (aQ f g):=
 fun A env out hid m B s ρ x E pos rm S hf=>by
 refine ah hf fun y hy gg=>?_
 clear hf;rename _=>hf
 refine ah hf fun ys Qt gg=>?_
 clear hf;rename _=>hf
 cases hf;refine jS (au (h A env out hid m B s ρ y E rm S hy) (fun v s₁ ag=>?_) fun ø ø q=>q) (he env);refine au (hs A env out hid m B s₁ ρ ys E pos rm (S.after ag.1) Qt) (fun vs s₂ aH=>?_) fun ø ø q=>q
 obtain⟨H,cC,k₂,hH,hr⟩:=aH;refine⟨H,cC,ag.1.trans k₂,fun a q=>?_,.dat (Dn.grow (P:=P) ag.2 (fun a o ø z=>k₂.keep a o z) (fun a q=>(cr.mp q).elim (fun z=>.inr (hH a z)) .inl)) hr⟩
 cases e:s.heap.get? a with
 |none=>rfl
 |some o=>have:=hH a q;rw[ag.1.keep a o e]at this;cases this
theorem jN.new{e:Expr}{es:List Expr}{bs f g}(h:MW P n K e f)(hs:jN P n K es bs g)(he:∀env,starEach (e::es) env=(false,eval e env)::starEach es env):jN P n K (e::es) (true::bs) (aQ f g):=
 fun A env out hid m B s ρ x E pos rm S hf=>by
 refine ah hf fun y hy gg=>?_
 clear hf;rename _=>hf
 refine ah hf fun ys Qt gg=>?_
 clear hf;rename _=>hf
 cases hf;refine jS (au (h A env out hid m B s ρ y E rm S hy) (fun v s₁ ag=>?_) fun ø ø q=>q) (he env);obtain⟨a,rfl,ha,hah,QC,TD⟩:=Ng.box (P:=P) (out:=out) (L:=env.locals) ag.2 S.live S.oh S.Lh;have new:∀b∈a::hid,b∈hid\/s.heap.get? b=none:=fun b hb=>(bp.mp hb).elim (fun q=>.inr (q▸ha)) .inl
 have live:cx s₁.heap (a::hid):=fun b hb=>(bp.mp hb).elim (fun q=>q▸TD) (S.live.kp ag.1 b)
 have bc:=S.grow ag.1 (fun b q=>cw _ q) new live;refine au (hs A env out (a::hid) m B s₁ ρ ys E pos rm bc Qt) (fun vs s₂ aH=>?_) fun ø ø q=>q
 obtain⟨H,cC,k₂,hH,hr⟩:=aH;have hp:∀b,b∈(a::H)++hid<->b∈H++(a::hid):=fun b=>by simp;constructor<;>rintro(q|q|q)<;>simp[q]
 have W5:a∉H:=fun q=>by obtain⟨o,z⟩:=TD;rw[hH a q]at z;cases z
 refine⟨a::H,cC.perm hp,ag.1.trans k₂,fun b q=>?_,.box W5 ?_ ?_⟩
 ·rcases bp.mp q with rfl|q
  ·exact ha
  ·cases e:s.heap.get? b with
   |none=>rfl
   |some o=>have:=hH b q;rw[ag.1.keep b o e]at this;cases this
 ·exact fc.grow (P:=P) QC k₂.keep (fun b q=>by simp at q ⊢;rcases q with q|q<;>simp[q]) fun b q=>by
   rcases cr.mp q with q|q
   ·rcases bp.mp q with rfl|q
    ·exact .inl (by simp)
    ·exact .inr (hH b q)
   ·exact .inl (by simp[q])
 ·exact kU.grow (P:=P) (fun ø ø q=>q) (fun b q=>(hp b).mpr q) (fun b q=>.inl ((hp b).mp q)) hr
theorem kU.app{L:Addr}{h:Heap}{out hid:List Addr}{bs':List Bool}{Dg:List V}{gS:List Value}{H':List Addr}(e':kU P L h out hid bs' Dg gS H'){bs:List Bool}{xs:List V}{vs:List Value}{H:List Addr}(hd:∀a∈H,a∉H')(e:kU P L h out hid bs xs vs H):kU P L h out hid (bs++bs') (xs++Dg) (vs++gS) (H++H'):=by
 induction e with
 |nil=>exact e'
 |dat d _ ih=>exact .dat d (ih hd)
 |box ha b _ ih=>exact .box (fun q=>(cr.mp q).elim ha (hd _ dJ)) b (ih fun c q=>hd c (cw _ q))
theorem kU.rev{L:Addr}{h:Heap}{out hid:List Addr}{bs:List Bool}{xs:List V}{vs:List Value}{H:List Addr}(e:kU P L h out hid bs xs vs H):kU P L h out hid bs.reverse xs.reverse vs.reverse H.reverse:=by
 induction e with
 |nil=>exact .nil
 |dat d _ ih=>
  have:=kU.app (.dat d .nil) (fun a ø q=>nomatch q) ih;rw[qG,qG,qG];rwa[gn]at this
 |box ha b _ ih=>
  rw[qG,qG,qG,qG];exact kU.app (.box qH b .nil) (fun c hc q=>ha (cN.mp q▸pN.mp hc)) ih
theorem kU.but{L:Addr}{h h':Heap}{out hid:List Addr}(hk:∀a o,a∉hid->h.get? a=some o->h'.get? a=some o)(hb:∀a o,nJ h a->a≠L->h.get? a=some o->h'.get? a=some o){bs:List Bool}{xs:List V}{vs:List Value}{H:List Addr}(e:kU P L h out hid bs xs vs H):kU P L h' out hid bs xs vs H:=by
 induction e with
 |nil=>exact .nil
 |dat d _ ih=>exact .dat (Dn.grow (P:=P) d hk fun a q=>.inl q) ih
 |box ha b _ ih=>
  obtain⟨a',e,_,_,h3,h4⟩:=fc.addr (P:=P) b;cases e;exact .box ha (fc.keep (P:=P) b (fun o q=>hb _ o h4 h3 q) hk (fun ø q=>q) fun a q=>.inl q) ih
noncomputable def nO(ρ:al):List Nat->List V->al
 |i::is,x::xs=>nO (upd ρ i x) is xs
 |_,_=>ρ
theorem Nq(ρ:al)(i:Nat)(is:List Nat)(x:V)(xs:List V):nO ρ (i::is) (x::xs)=nO (upd ρ i x) is xs:=rfl
theorem Nr(ρ:al)(l:List V):nO ρ [] l=ρ:=rfl
theorem Nt(ρ:al)(i:Nat)(is:List Nat):nO ρ (i::is) []=ρ:=rfl
theorem Jh(ρ:al){i j:Nat}(x y:V)(h:i≠j):upd (upd ρ i x) j y=upd (upd ρ j y) i x:=by
 funext k
 by_cases hj:k=j
 ·subst hj;rw[jb,gX _ _ (dW h),jb]
 ·rw[gX _ _ hj]
  by_cases hi:k=i
  ·subst hi;rw[jb,jb]
  ·rw[gX _ _ hi,gX _ _ hi,gX _ _ hj]
theorem Bg:∀(is:List Nat) (xs:List V) (ρ:al) (i:Nat) (x:V),i∉is->nO (upd ρ i x) is xs=upd (nO ρ is xs) i x
 |[],xs,ρ,i,x,_=>by cases xs<;>rfl
 |j::is,[],ρ,i,x,_=>rfl
 |j::is,y::xs,ρ,i,x,h=>by
  simp only[Nq,Nr,Nt];rw[Jh ρ x y (fun e=>h (by simp[e])),Bg is xs (upd ρ j y) i x fun q=>h (by simp[q])]
theorem Hj(i:Nat)(x:V):∀(is:List Nat) (xs:List V) (ρ:al),is.length=xs.length->nO ρ (is++[i]) (xs++[x])=upd (nO ρ is xs) i x:=by
 intro is
 induction is with
 |nil=>
  intro xs ρ h
  cases xs with
  |nil=>rfl
  |cons=>cases h
 |cons j is ih=>
  intro xs ρ h
  cases xs with
  |nil=>cases h
  |cons y xs=>exact ih xs _ (rP h)
theorem Ji:∀(is:List Nat) (xs:List V) (ρ:al),is.Nodup->is.length=xs.length->nO ρ is.reverse xs.reverse=nO ρ is xs:=by
 intro is
 induction is with
 |nil=>
  intro xs ρ _ h
  cases xs with
  |nil=>rfl
  |cons=>cases h
 |cons i is ih=>
  intro xs ρ hn h
  cases xs with
  |nil=>cases h
  |cons x xs=>
   have hl:is.length=xs.length:=rP h;rw[qG,qG,Hj _ _ _ _ _ (by rw[pO,pO];exact hl),ih xs ρ (gC.mp hn).2 hl];exact(Bg is xs ρ i x (gC.mp hn).1).symm
structure Jj(K:Cx)(ts:List (Nat×Str×NameKind×Bool)):Prop where
 vars:∀t∈ts,K.vars[t.1]?=some (t.2.1,t.2.2.1,t.2.2.2)/\t.2.2.1≠ .free
 nodup:(ts.map (·.1)).Nodup
theorem zf{M:Model}{A:Around}{env:Env}{out hid:List Addr}{B:Shared}{E:Value->Shared->Prop}:∀(ts:List (Nat×Str×NameKind×Bool)) (fs:List (Value->Sem Unit)) (xs:List V) (vs:List Value) (H:List Addr) (m:Str->Option Value) (s:Shared) (ρ:al),Jj K ts->
  fs.length=ts.length->(∀(j:Nat) t f,ts[j]?=some t->fs[j]?=some f->∀v s Q,wpAny M A (storeName env t.2.1 v) Q E s->wpAny M A (f v) Q E s)->aB P K env out hid m B s ρ->kU P env.locals s.heap out hid (ts.map (·.2.2.2)) xs vs H->
  (∀(j:Nat) x' k' a,a∈H->K.vars[j]?=some (x',k',true)->At env m s.heap out hid x' k' (some (.ref a))->ρ j=none)->
  wpAny M A (assignInOrder fs vs) (fun ø s'=>∃m',aB P K env out hid m' B s' (nO ρ (ts.map (·.1)) xs)/\Ks out hid hid s s') E s:=by
 intro ts
 induction ts with
 |nil=>
  intro fs xs vs H m s ρ ok hl hf S hr hi
  cases fs with
  |cons=>cases hl
  |nil=>
   cases hr;exact wpAny_assignInOrder_none ⟨m,S,.refl ..⟩
 |cons t ts ih=>
  intro fs xs vs H m s ρ ok hl hf S hr hi;obtain⟨i,x,k,b⟩:=t
  cases fs with
  |nil=>cases hl
  |cons f fs=>
   obtain⟨hv,hk⟩:=ok.vars (i,x,k,b) (by simp);have W4:Jj K ts:=⟨fun t ht=>ok.vars t (by simp[ht]),(gC.mp ok.nodup).2⟩;have hni:∀t∈ts,t.1≠i:=fun t ht e=>(gC.mp ok.nodup).1 (e▸bP.mpr ⟨t,ht,rfl⟩)
   have go:∀(y:V) (v:Value) (Dg:List V) (gS:List Value) (H':List Addr),(if b then fc P env.locals s.heap out hid y v else Dn P s.heap hid y v)->kU P env.locals s.heap out hid (ts.map (·.2.2.2)) Dg gS H'->(∀a∈H',a∈H)->(b=true->∀a,v= .ref a->a∈H/\a∉H')->
     wpAny M A (assignInOrder (f::fs) (v::gS)) (fun ø s'=>∃m',aB P K env out hid m' B s' (nO (upd ρ i y) (ts.map (·.1)) Dg)/\Ks out hid hid s s') E s:=fun y v Dg gS H' hyv Tw hH ha=>by
    refine wpAny_assignInOrder_more (hf 0 (i,x,k,b) f rfl rfl v s _ (S.store hv hyv (fun hb j x' k' a hj tI e oO=>hi j x' k' a (ha hb a e).1 tI oO) hk fun m' s' S' K' jK=>?_));have ze:∀a o,a∉hid->s.heap.get? a=some o->s'.heap.get? a=some o:=fun a o q=>K'.keep a o (.inl q)
    have YU:kU P env.locals s'.heap out hid (ts.map (·.2.2.2)) Dg gS H':=kU.but ze jK.2.2.1 Tw;refine au (ih fs Dg gS H' m' s' (upd ρ i y) W4 (rP hl) (fun j t f' h1 h2=>hf (j+1) t f' h1 h2) S' YU (fun j x' k' a W5 tI oO=>?_)) (fun _ s₂ ⟨m₂,cC,p7⟩=>⟨m₂,cC,K'.trans p7⟩) fun ø ø q=>q
    by_cases DT:j=i
    ·subst DT
     exfalso;rw[hv]at tI;cases tI;have:=At.fun jK.2.2.2 oO
     cases this;exact(ha rfl a rfl).2 W5
    ·rw[gX _ _ DT]
     exact hi j x' k' a (hH a W5) tI (jK.2.1 j x' k' true _ DT tI oO)
   cases hr with
   |dat d r=>exact go _ _ _ _ H d r (fun a q=>q) (fun q=>nomatch q)
   |box ha bx r=>exact go _ _ _ _ _ bx r (fun b q=>cw _ q) (fun ø a' e=>by cases e;exact⟨dJ,ha⟩)
theorem Fy{M:Model}{A:Around}{env:Env}{out hid H:List Addr}{m:Str->Option Value}{B s s₁ s₂:Shared}{ρ:al}{E:Value->Shared->Prop}{ts:List (Nat×Str×NameKind×Bool)}{fs:List (Value->Sem Unit)}{xs:List V}{vs:List Value}(S:aB P K env out hid m B s ρ)
  (ok:Jj K ts) (bc:aB P K env out (H++hid) m B s₁ ρ) (k₁:Kp s s₁) (hH:∀a∈H,s.heap.get? a=none) (hr:kU P env.locals s₁.heap out (H++hid) (ts.map (·.2.2.2)) xs vs H) (k₂:Kp s₁ s₂)
  (hl:fs.length=ts.length) (hf:∀(j:Nat) t f,ts[j]?=some t->fs[j]?=some f->∀v s Q,wpAny M A (storeName env t.2.1 v) Q E s->wpAny M A (f v) Q E s):
  wpAny M A (assignInOrder fs vs) (fun ø s'=>I5 P K env out hid B s s' (nO ρ (ts.map (·.1)) xs) .next .next) E s₂:=by
 have cC:=bc.after k₂;have new:∀b∈H++hid,b∈hid\/s.heap.get? b=none:=fun b hb=>(cr.mp hb).elim (fun q=>.inr (hH b q)) .inl
 refine au (zf ts fs xs vs H m s₂ ρ ok hl hf cC (kU.grow (P:=P) k₂.keep (fun ø q=>q) (fun a q=>.inl q) hr) (fun j x' k' a ha tI oO=>?_)) (fun _ s' ⟨m',S',K'⟩=>⟨H++hid,m',S',?_,rfl⟩) fun ø ø q=>q
 ·obtain⟨ov,q1,q2⟩:=S.slot j x' k' true tI
  have:=At.Pt oO q1 fun c v q=>q.keeps (k₁.trans k₂).keep
  subst this
  cases er:ρ j with
  |none=>rfl
  |some z=>
   rw[er]at q2;obtain⟨u,e,q2⟩:=q2;cases e;obtain⟨a'',e,z1,_⟩:=fc.addr (P:=P) q2;cases e;obtain⟨o,ho⟩:=S.live a z1;rw[hH a ha]at ho;cases ho
 ·exact⟨fun b o hb q=>K'.keep b o (hb.imp (fun z hm=>(cr.mp hm).elim (fun w=>by rw[hH b w]at q;cases q) z) id) ((k₁.trans k₂).keep b o q),new,fun b q=>bw _ q,(k₁.trans k₂).gens.trans K'.gens,K'.os.trans (k₁.trans k₂).os⟩
noncomputable abbrev kW(ts:List (Nat×Str×NameKind×Bool))(ps:List Pos):List Expr:=(ts.zip ps).map fun t=>.Name t.1.2.1 t.2
theorem kX(env:Env):∀(ts:List (Nat×Str×NameKind×Bool)) (ps:List Pos),(assignEach (kW ts ps) env).map (·.2)=(kW ts ps).map (fun t=>assign t env)/\(assignEach (kW ts ps) env).length=(kW ts ps).length/\(assignEach (kW ts ps) env).findIdx? (·.1)=none
 |[],_=>⟨rfl,rfl,rfl⟩
 |_::_,[]=>⟨rfl,rfl,rfl⟩
 |t::ts,p::ps=>by
  obtain⟨h1,h2,h3⟩:=kX env ts ps;have e:assignEach (kW (t::ts) (p::ps)) env=(false,assign (.Name t.2.1 p) env)::assignEach (kW ts ps) env:=rfl;rw[e];refine⟨?_,?_,?_⟩
  ·rw[bn,h1];rfl
  ·rw[bA,h2];rfl
  ·rw[List.findIdx?_cons];simp[h3]
theorem lL{ts:List (Nat×Str×NameKind×Bool)}{ps:List Pos}{es:List Expr}{k k':Nat}{p p' pos:Pos}{f}(ok:Jj K ts)(Bh:ps.length=ts.length)(h:jN P n K es (ts.map (·.2.2.2)) f)(hes:ts.length<=100)(hlen:∀ρ x,f ρ=some x->x.length=ts.length)
  (zg:∀env out hid H h xs vs,kU P env h out hid (ts.map (·.2.2.2)) xs vs H->vs.length=ts.length)
  (Pw:∀env,swapsWithSole [.Tuple (kW ts ps) k p] (.Tuple es k' p') pos.line env=pure false)
  (eF:(∀env,(∀(i:Nat) x kd b,K.vars[i]?=some (x,kd,b)->env.kindOf x=some kd)->env.scope.kind= .function->swappedStores [.Tuple (kW ts ps) k p] (.Tuple es k' p') env=pure none\/swappedStores [.Tuple (kW ts ps) k p] (.Tuple es k' p') env=pure (some (ts.map (·.2.1))))):
  uk P n K (.Assign [.Tuple (kW ts ps) k p] (.Tuple es k' p') pos) (fun ρ=>(f ρ).map fun xs=>(nO ρ (ts.map (·.1)) xs,.next)):=fun A env out hid m B s ρ aY fl E rm S hf=>by
 refine bV hf fun xs xu e=>?_
 clear hf
 first|refine pair_inv e ?_;clear e|cases e
 have hlx:=hlen _ _ xu;have TI:(kW ts ps).length=ts.length:=by simp[Bh]
 have vals:∀(R:Value->Shared->Prop),(∀vs s₁ H,aB P K env out (H++hid) m B s₁ ρ->Kp s s₁->(∀a∈H,s.heap.get? a=none)->kU P env.locals s₁.heap out (H++hid) (ts.map (·.2.2.2)) xs vs H->vs.length=ts.length->R (.ref s₁.heap.objs.size) {s₁ with heap:=s₁.heap.push {cls:=.type "tuple",data:=.seq vs.toArray} })->
   wpAny (model P.prog P.w) A (eval (.Tuple es k' p') env) R E s:=fun R hR=>by
  refine wpAny_Tuple (au (h A env out hid m B s ρ xs E p' rm S xu) (fun vs s₁ ag=>?_) fun ø ø q=>q);obtain⟨H,bc,k₁,hH,hr⟩:=ag;have:=zg _ _ _ _ _ _ _ hr;exact⟨by rw[this,gQ];omega,hR vs s₁ H bc k₁ hH hr this⟩
 rcases eF env S.kind S.fn with eF|eF
 ·refine wpAny_Assign_stores (vals _ fun vs s₁ H bc k₁ hH hr zg=>?_) (Pw env) eF
  show wpAny _ A (assignAll _ [assign (.Tuple (kW ts ps) k p) env]) _ E _;obtain⟨a1,a2,a3⟩:=kX env ts ps;refine Dp rm.handled (items:=vs.toArray) ⟨_,bD _ rfl,rfl,0,rfl⟩ ?_ a3 fun h' hx=>?_
  ·rw[a2,TI,bM,zg]
  ·rw[a1]
   refine Fy (m:=m) (s₁:=s₁) S ok bc k₁ hH hr ?_ (by simp[Bh]) fun j t f h1 h2 v s Q hq=>?_
   ·refine .heap fun b o q=>hx b o (fun z=>?_) (bK _ q)
    have:=f5 q;rw[z,qF]at this;exact absurd this (kJ.mpr (i5 _))
   ·rw[bL,bL]at h2
    refine bV h2 ?_;rintro e he rfl;refine bV he ?_;rintro⟨t',p''⟩ Dh rfl;rw[List.getElem?_zip_eq_some]at Dh;rw[h1]at Dh;cases Dh.1;exact na hq
 ·refine PyProof.Rows.Assign_Tuple_swapped (names:=ts.map (·.2.1)) (vals _ fun vs s₁ H bc k₁ hH hr zg=>?_) (Pw env) eF
  have hq:(ts.map (·.2.1)).length=vs.toArray.size:=by rw[bi,bM,zg]
  rw[hq];refine wpAny_unpackItems_tuple rm.handled (items:=vs.toArray) ⟨_,bD _ rfl,rfl,0,rfl⟩ fun h' hx=>?_
  have Tw:=kU.rev hr;rw[<-List.map_reverse]at Tw;have W4:Jj K ts.reverse:=⟨fun t ht=>ok.vars t (pN.mp ht),by rw[List.map_reverse];exact((rQ _).nodup_iff).mpr ok.nodup⟩;have key:=Fy (M:=model P.prog P.w) (A:=A) (E:=E) (m:=m) (s₁:=s₁) (s₂:={s₁ with heap:=h'}) (H:=H.reverse) (fs:=(ts.map (·.2.1)).reverse.map fun n=>bindName env n) S W4 (bc.perm fun a=>by simp) k₁ (fun a ha=>hH a (by simpa using ha))
   (kU.grow (P:=P) (fun ø ø q=>q) (fun b q=>by simpa using q) (fun b q=>.inl (by simpa using q)) Tw) ?_ (by simp) fun j t f h1 h2 v s Q hq=>?_
  ·have e:nO ρ (ts.reverse.map (·.1)) xs.reverse=nO ρ (ts.map (·.1)) xs:=by rw[List.map_reverse];exact Ji _ _ _ ok.nodup (by simp[hlx])
   rw[e]at key;exact key
  ·refine .heap fun b o q=>hx b o (fun z=>?_) (bK _ q)
   have:=f5 q;rw[z,qF]at this;exact absurd this (kJ.mpr (i5 _))
  ·rw[<-List.map_reverse,dK,bL,h1]at h2
   cases h2;exact wpAny_bindName hq
end
section
variable{P:Pk}{n:Nat}{K K':Cx}{lo:Bool}
inductive Fz(M:Model)(A:Around)(E:Value->Shared->Prop)(o i:Value)(Q:Value->Shared->Prop)(s:Shared):Prop
 |mk (T id:String) (l:typeLookup (.type T) "__getitem__"=pure (some (.builtin id))) (t:s.TypeIs o T) (h:wpAny M A (getItem o i) Q E s):Fz M A E o i Q s
theorem sq{prog:Program}{w:World}{A:Around}{E:Value->Shared->Prop}{env:Env}{value slice:Expr}{pos:Pos}{s:Shared}{Q:Value->Shared->Prop}
  (h:wpAny (model prog w) A (eval value env) (fun o s₁=>wpAny (model prog w) A (eval slice env) (fun i s₂=>Fz (model prog w) A E o i Q s₂) E s₁) E s)
  (hs:∀o i,∃ops,subscripted slice false o i=operate ops (getItem o i)):wpAny (model prog w) A (eval (.Subscript value slice pos) env) Q E s:=by
 refine Subscript_ (au h (fun o s₁ ag=>au ag (fun i s₂ aH=>?_) fun ø ø q=>q) fun ø ø q=>q);obtain⟨T,id,hl,hT,hg⟩:=aH;unfold subscriptTail;refine ar ?_;rw[getitemInPython_of_ne hT.not_modules];refine ar (yO hT hl ?_);obtain⟨ops,e⟩:=hs o i;have fin:wpAny (model prog w) A (subscripted slice false o i) (fun r cB=>wpAny (model prog w) A (letTemporaryGo value o r>>= fun ø=>pure r) Q E cB) E s₂:=by
  rw[e];exact wpAny_operating (au hg (fun r cB eh=>ar (wpAny_letTemporaryGo (bd eh))) fun ø ø x=>x)
 first
  |exact bd (ar fin)
  |exact ar (bd (ar fin))
  |exact ar fin
noncomputable def bR:List Int->List V->Int->Option V
 |k::ks,v::vs,q=>if k=q then some v else bR ks vs q
 |_,_,_=>none
theorem gG(k:Int)(ks:List Int)(v:V)(vs:List V)(q:Int):bR (k::ks) (v::vs) q=if k=q then some v else bR ks vs q:=rfl
theorem iN(l:List V)(q:Int):bR [] l q=none:=rfl
theorem iO(k:Int)(ks:List Int)(q:Int):bR (k::ks) [] q=none:=rfl
theorem vx{h:Heap}{hid:List Addr}{q:Int}:∀{ks:List Int} {xs:List V} {vs:List Value},vs.length=ks.length->aU P h hid xs vs->match bR ks xs q with
  |some z=>∃v,valueAt (ks.zip vs) q=some v/\Dn P h hid z v
  |none=>valueAt (ks.zip vs) q=none
 |[],xs,vs,hl,hd=>by simp[gG,iN,iO,valueAt]
 |k::ks,[],vs,hl,hd=>by
  obtain rfl:=aU.nil_inv hd;simp at hl
 |k::ks,x::xs,vs,hl,hd=>by
  obtain⟨v,r,rfl,h1,h2⟩:=aU.cons_inv hd;have ih:=vx (q:=q) (ks:=ks) (by simpa using hl) h2;rw[gG];by_cases hk:k=q
  ·subst hk
   rw[aw rfl];exact⟨v,by simp[valueAt],h1⟩
  ·rw[az hk]
   have e:valueAt ((k::ks).zip (v::r)) q=valueAt (ks.zip r) q:=by simp[valueAt,hk]
   rw[e];exact ih
noncomputable def cI(ks:List Int)(q:Int):List Int:=if ks.contains q then ks else ks++[q]
noncomputable def eP(ks:List Int)(vs:List V)(q:Int)(x:V):List V:=if ks.contains q then List.zipWith (fun k v=>if k=q then x else v) ks vs else vs++[x]
noncomputable def gt(x y:V):Option V:=y.int?.bind fun i=>match x with
 | .list l=>if l.length<=most then(ff i l.length).bind (l[·]?)else none
 | .tup l=>if l.length<=most then(ff i l.length).bind (l[·]?)else none
 | .str l=>if l.length<=most then((ff i l.length).bind (l[·]?)).map fun c=>.str [c]else none
 | .dict ks vs=>bR ks vs i
 |_=>none
theorem uB(l:List V)(i:Int):gt (.list l) (.int i)=if l.length<=most then(ff i l.length).bind (l[·]?)else none:=id rfl
theorem zh(l:List V)(i:Int):gt (.tup l) (.int i)=if l.length<=most then(ff i l.length).bind (l[·]?)else none:=id rfl
theorem FC(l:List Nat)(i:Int):gt (.str l) (.int i)=if l.length<=most then((ff i l.length).bind (l[·]?)).map fun c=>.str [c]else none:=id rfl
theorem FD(ks:List Int)(vs:List V)(i:Int):gt (.dict ks vs) (.int i)=bR ks vs i:=rfl
theorem zi{γ:Type}{c:Prop}[Decidable c]{o:Option γ}{z:γ}{G:Prop}(h:(if c then o else none)=some z)(k:c->o=some z->G):G:=by
 by_cases q:c
 ·rw[aw q]at h;exact k q h
 ·rw[az q]at h;cases h
theorem sr{i:Int}{n k:Nat}(h:ff i n=some k)(hn:n<=most):seqIndex? i n=some k/\ -(2^63)<=i/\i<2^63/\k<n:=by
 have hm:most=1000000:=rfl;unfold ff at h;refine⟨(AZ h hn).1,?_⟩;by_cases h0:0<=i
 ·rw[aw h0]at h
  exact eN h fun h1 e=>⟨pg (by decide) h0,Du h1 (pg (qI.mpr hn) (by decide)),e▸(Int.toNat_lt h0).mpr h1⟩
 ·rw[az h0]at h
  exact eN h fun h1 e=>⟨pg (Int.neg_le_neg (pg (qI.mpr hn) (by decide))) (Int.le_of_add_le_add_right (b:=(n:Int)) (by rw[Int.add_left_neg];exact h1)),Int.lt_trans (pP.mp h0) (by decide),e▸(Int.toNat_lt h1).mpr (Du (Int.add_lt_add_right (pP.mp h0) n) (Int.le_of_eq (Int.zero_add _)))⟩
theorem Hk{i:Int}{n k:Nat}(h:ff i n=some k)(h0:¬0<=i):i<0/\0<=i+n/\k=(i+n).toNat:=by
 unfold ff at h;rw[az h0]at h;exact eN h fun h1 e=>⟨pP.mp h0,h1,e.symm⟩
theorem Hl{i:Int}{n k:Nat}(h:ff i n=some k)(h0:0<=i):k=i.toNat:=by
 unfold ff at h;rw[aw h0]at h;exact eN h fun h1 e=>e.symm
theorem QQ{A:Around}{s:Shared}{hid:List Addr}{x y z:V}{u v:Value}{E:Value->Shared->Prop}(rm:bW 0 A)(hx:Dn P s.heap hid x u)(hy:Dn P s.heap hid y v)(hf:gt x y=some z):
  Fz (model P.prog P.w) A E u v (fun r s'=>Kp s s'/\Dn P s'.heap hid z r) s:=by
 refine ah hf fun i hi hf=>hy.int_k hi fun t'=>?_
 clear hy hi
 cases x with
 |str l=>
  refine zi hf fun hle hf=>bV hf fun c hc e=>ah hc fun k hk hc=>?_
  subst e;obtain⟨h1,h2,h3,h4⟩:=sr hk hle;refine hx.str_k rfl fun t=>?_
  refine⟨"str","str.__getitem__",F.slot_str_getitem.lookup,typeIs_str _ _ _,PyProof.Rows.getItem_str (c:=c) ?_ ?_ ⟨Kp.toks s _,.ofStr [c] _⟩⟩
  ·clear hf hc hx hk;simp;omega
  ·rw[eu,h1];simpa using hc
 |tup l=>
  refine zi hf fun hle hf=>ah hf fun k hk hc=>?_
  obtain⟨h1,h2,h3,h4⟩:=sr hk hle;obtain⟨a,vs,rfl,ha,ht,hd⟩:=hx.oA;obtain⟨w,hw,hz⟩:=aV.get hd hc;exact⟨"tuple","tuple.__getitem__",slot_tuple_getitem.lookup,ht.isTup.typeIs,PyProof.Rows.getItem_tuple ht.isTup h2 h3 (j:=k) (by rw[bM,hd.length];exact h1) (by simpa using hw) ⟨.refl s,hz⟩⟩
 |list l=>
  refine zi hf fun hle hf=>ah hf fun k hk hc=>?_
  obtain⟨h1,h2,h3,h4⟩:=sr hk hle;refine hx.i9 rfl fun a vs ø ha ø ht hd=>?_
  obtain⟨w,hw,hz⟩:=aV.get hd hc;have hlen:=hd.length;refine⟨"list","list.__getitem__",slot_list_getitem.lookup,ht.isList.typeIs,?_⟩;by_cases h0:0<=i
  ·cases Hl hk h0
   exact wpAny_getItem_list ht.isList h0 h3 (by simpa using hw) ⟨.refl s,hz⟩
  ·obtain⟨z1,z2,rfl⟩:=Hk hk h0
   exact wpAny_getItem_list_neg ht.isList z1 (by rw[bM,hlen];clear hf hc hx hk hz hw hd;omega) h2 (by rw[bM,hlen];simpa using hw) ⟨.refl s,hz⟩
 |dict ks ws=>
  obtain⟨a,vs,rfl,ha,hlen,ly,ht,hd⟩:=hx.fe;have:=vx (P:=P) (q:=i) hlen hd;rw[show bR ks ws i=some z from hf]at this;obtain⟨w,hw,hz⟩:=this;exact⟨"dict","dict.__getitem__",slot_dict_getitem.lookup,ht.typeIs,wpAny_getItem_of (pQ P.prog P.w i t') ht.mapOf hw ⟨Kp.toks s _,hz⟩⟩
 |_=>cases hf
noncomputable def f7(f g:al->Option V):al->Option V:=fun ρ=>(f ρ).bind fun x=>(g ρ).bind fun y=>gt x y
theorem aF{o i:Expr}{pos:Pos}{f g}(ho:eM P n K lo o f)(hi:eM P n K true i g)(hs:∀u v,subscripted i false u v=operate [u,v] (getItem u v)):eM P n K lo (.Subscript o i pos) (f7 f g):=fun A env out hid m B s ρ z E rm S hf=>by
 refine ah hf fun x hx gg=>?_
 clear hf;rename _=>hf
 refine ah hf fun y hy gg=>?_
 clear hf;rename _=>hf
 refine sq (au (ho A env out hid m B s ρ x E rm S hx) (fun u s₁ ag=>?_) fun ø ø q=>q) (fun u v=>⟨_,hs u v⟩);refine au (hi A env out hid m B s₁ ρ y E rm (S.after ag.1) hy) (fun v s₂ aH=>?_) fun ø ø q=>q
 have hv:Dn P s₂.heap (av lo out hid) y v:=by
  cases lo
  ·have Nu:∃i,y= .int i:=ah (o:=y.int?) hf fun i hi ø=>⟨i,V.kO hi⟩
   obtain⟨i,rfl⟩:=Nu;exact aH.2.scalar rfl
  ·exact aH.2
 obtain⟨T,id,c1,c2,c3⟩:=QQ (E:=E) (rm.less (dU _)) (ag.2.kp aH.1) hv hf;exact⟨T,id,c1,c2,au c3 (fun r cB q=>⟨ag.1.trans (aH.1.trans q.1),q.2⟩) fun ø ø q=>q⟩
noncomputable def pick{α:Type}(l:List α)(lo hi st:Option Int):List α:=(sliceRange (sliceBounds lo hi st l.length).1 (sliceBounds lo hi st l.length).2.1 (sliceBounds lo hi st l.length).2.2).filterMap (l[·]?)
noncomputable def Bi(l:List Nat)(lo hi:Option Int):List Nat:=if((Builtin.Str.strSliceIndices lo hi 1 l.length).length==l.length)=true then l else(Builtin.Str.strSliceIndices lo hi 1 l.length).filterMap (l[·]?)
noncomputable def eT(x:V)(a b c:Option Int):Option V:=match x with
 | .list l=>if l.length<=most/\c≠some 0 then some (.list (pick l a b c))else none
 | .str l=>if l.length<=most/\c=none then some (.str (Bi l a b))else none
 |_=>none
theorem nP(l:List V)(a b c:Option Int):eT (.list l) a b c=if l.length<=most/\c≠some 0 then some (.list (pick l a b c))else none:=id rfl
theorem nQ(l:List Nat)(a b:Option Int):eT (.str l) a b none=if l.length<=most then some (.str (Bi l a b))else none:=by
 show(if _ then _ else _)=_;by_cases h:l.length<=most
 ·rw[aw ⟨h,rfl⟩,aw h]
 ·rw[az fun z=>h z.1,az h]
noncomputable def Bj(P:Pk)(n:Nat)(K:Cx)(e:Option Expr)(f:al->Option (Option Int)):Prop:=
 ∀(A:Around) (env:Env) (out hid:List Addr) (m:Str->Option Value) (B s:Shared) (ρ:al) (x:Option Int) (E:Value->Shared->Prop),bW n A->aB P K env out hid m B s ρ->f ρ=some x->
  wpAny (model P.prog P.w) A (evalPart e env) (fun v s'=>Kp s s'/\∃q:Option (Int×Tok),v=partValue q/\q.map (·.1)=x) E s
theorem aO:Bj P n K none fun ø=>some none:=fun A env out hid m B s ρ x E rm S hf=>by
 cases hf;exact evalPart_none_step ⟨.refl s,none,rfl,rfl⟩
noncomputable def mE:V->Option (Option Int)
 | .int i=>some (some i)
 | .none=>some none
 |_=>none
theorem bt{e:Expr}{f}(h:eM P n K true e f):Bj P n K (some e) fun ρ=>(f ρ).bind mE:=fun A env out hid m B s ρ x E rm S hf=>by
 refine ah hf fun y hy gg=>?_
 clear hf;rename _=>hf
 refine evalPart_some_step (au (h A env out hid m B s ρ y E rm S hy) (fun v s₁ q=>⟨q.1,?_⟩) fun ø ø q=>q);have hv:=q.2;cases y<;>simp only[mE]at hf<;>cases hf
 ·obtain rfl:=hv.none_inv
  exact⟨none,rfl,rfl⟩
 ·obtain⟨t,rfl⟩:=hv.int_inv
  exact⟨some (_,t),rfl,rfl⟩
theorem D8{q:Option (Int×Tok)}:IsPart (partValue q) (q.map (·.1)):=by
 rcases q with _|⟨i,t⟩
 ·exact .none
 ·exact .int i t
theorem Nv{A:Around}{s:Shared}{hid:List Addr}{x z:V}{u:Value}{a b c:Option (Int×Tok)}{E:Value->Shared->Prop}(live:cx s.heap hid)(hx:Dn P s.heap hid x u)(hf:eT x (a.map (·.1)) (b.map (·.1)) (c.map (·.1))=some z):
  Fz (model P.prog P.w) A E u (.ref s.heap.objs.size) (fun r s'=>Kp s s'/\Dn P s'.heap hid z r) {s with heap:=s.heap.push {cls:=.type "slice",data:=.fields #[partValue a,partValue b,partValue c]} }:=by
 have hm:=cZ;generalize jY:({s with heap:=s.heap.push {cls:=.type "slice",data:=.fields #[partValue a,partValue b,partValue c]} }:Shared)=s₁;have k₁:Kp s s₁:=by subst jY;exact Kp.push s _ _
 have Uk:s₁.heap.get? s.heap.objs.size=some {cls:=.type "slice",data:=.fields #[partValue a,partValue b,partValue c]}:=by subst jY;exact bD _ rfl
 have Jk:=hx.kp k₁
 cases x with
 |str l=>
  refine ite_inv hf fun hc=>?_
  have hle:=hc.1
  cases c with
  |some c=>exact absurd hc.2 (by simp)
  |none=>
  clear hf hx;refine Jk.str_k rfl fun t=>?_
  refine⟨"str","str.__getitem__",F.slot_str_getitem.lookup,typeIs_str _ _ _,wpAny_getItem_str_slice (l:=a) (u:=b) (st:=none) ⟨_,Uk,rfl,rfl⟩ rfl ?_⟩;unfold sliceMade slicePicked;simp only[Option.map_none,Option.getD_none,pJ,Bool.true_and,eu];unfold Bi;split
  ·exact⟨k₁.trans (.refl s₁),.ofStr _ _⟩
  ·refine⟨?_,k₁.trans (Kp.toks s₁ _),?_⟩
   ·show(List.filterMap _ _).toArray.size<=sizeLine
    rw[bM];refine aA (List.length_filterMap_le _ _) (aA (sliceIndices_le _ _ _) (aA hle hm))
   ·have e:(List.filterMap (fun x=>(pyStr l).cps[x]?) (Builtin.Str.strSliceIndices (a.map (·.1)) (b.map (·.1)) 1 l.length))=(Builtin.Str.strSliceIndices (a.map (·.1)) (b.map (·.1)) 1 l.length).filterMap (l[·]?):=by simp
    rw[e];exact .ofStr _ _
 |list l=>
  refine ite_inv hf fun hc=>Jk.i9 rfl fun ad vs ø ha ø ht hd=>?_
  clear hf hx Jk;refine⟨"list","list.__getitem__",slot_list_getitem.lookup,ht.isList.typeIs,wpAny_getItem_list_slice ht.isList ⟨_,Uk,rfl,rfl⟩ D8 D8 D8 hc.2 ⟨k₁.trans (Kp.push s₁ _ s₁.toks),?_⟩ (by rw[bM,hd.length];exact aA hc.1 hm)⟩;have hp:slicePick vs.toArray (a.map (·.1)) (b.map (·.1)) (c.map (·.1))=((sliceRange (sliceBounds (a.map (·.1)) (b.map (·.1)) (c.map (·.1)) l.length).1 (sliceBounds (a.map (·.1)) (b.map (·.1)) (c.map (·.1)) l.length).2.1 (sliceBounds (a.map (·.1)) (b.map (·.1)) (c.map (·.1)) l.length).2.2).filterMap (vs[·]?)).toArray:=by
   unfold slicePick;rw[bM,hd.length];simp
  rw[hp];refine Dn.newList (live.kp k₁) ?_;unfold pick;generalize sliceRange _ _ _=ix
  induction ix with
  |nil=>exact .nil
  |cons i ix ih=>
   cases hi:l[i]? with
   |none=>
    have hv:vs[i]?=none:=by
     rw[List.getElem?_eq_none_iff]at hi ⊢;rw[hd.length];exact hi
    rw[nf,hi,nf,hv];exact ih
   |some x=>
    obtain⟨v,hv,QH⟩:=aV.get hd hi;rw[nf,hi,nf,hv];exact .cons QH ih
 |_=>cases hf
noncomputable def ji(f:al->Option V)(a b c:al->Option (Option Int)):al->Option V:=fun ρ=>(f ρ).bind fun x=>(a ρ).bind fun p=>(b ρ).bind fun q=>(c ρ).bind fun r=>eT x p q r
theorem bC{o:Expr}{l u st:Option Expr}{p pos:Pos}{f a b c}(ho:eM P n K lo o f)(ha:Bj P n K l a)(hb:Bj P n K u b)(hc:Bj P n K st c):eM P n K lo (.Subscript o (.Slice l u st p) pos) (ji f a b c):=fun A env out hid m B s ρ z E rm S hf=>by
 refine ah hf fun x hx gg=>?_
 clear hf;rename _=>hf
 refine ah hf fun YV h1 gg=>?_
 clear hf;rename _=>hf
 refine ah hf fun YW h2 gg=>?_
 clear hf;rename _=>hf
 refine ah hf fun YX h3 gg=>?_
 clear hf;rename _=>hf
 refine sq (au (ho A env out hid m B s ρ x E rm S hx) (fun v s₁ lM=>?_) fun ø ø q=>q) (fun u v=>by cases st<;>exact⟨_,rfl⟩);have bc:=S.after lM.1;refine wpAny_Slice (au (ha A env out hid m B s₁ ρ YV E rm bc h1) (fun YY s₂ lN=>?_) fun ø ø q=>q);have cC:=bc.after lN.1;refine au (hb A env out hid m B s₂ ρ YW E rm cC h2) (fun YZ cB ul=>?_) fun ø ø q=>q
 have kT:=cC.after ul.1;refine au (hc A env out hid m B cB ρ YX E rm kT h3) (fun ae0 gP Nw=>?_) fun ø ø q=>q
 have jM:=kT.after Nw.1;obtain⟨ae1,rfl,rfl⟩:=lN.2;obtain⟨ae2,rfl,rfl⟩:=ul.2;obtain⟨ae3,rfl,rfl⟩:=Nw.2;have kk:=lM.1.trans (lN.1.trans (ul.1.trans Nw.1));obtain⟨T,id,c1,c2,c3⟩:=Nv (P:=P) (A:=A) (E:=E) (jM.G5 lo) (((lM.2.kp lN.1).kp ul.1).kp Nw.1) hf;exact⟨T,id,c1,c2,au c3 (fun r nM q=>⟨kk.trans q.1,q.2⟩) fun ø ø q=>q⟩
end
section
variable{P:Pk}{n:Nat}{K K':Cx}{lo:Bool}
noncomputable def Bk(x y:V):Option V:=(r8 V.int? V.int? (fun a b=>some (.int (a+b))) x y).or
 (r8 V.jL V.jL (fun a b=>if a.length+b.length<=most then some (.str (a++b))else none) x y)
theorem Jl(a b:List Nat)(h:a.length+b.length<=most):Bk (.str a) (.str b)=some (.str (a++b)):=by
 show(if _ then _ else _)=_;rw[aw h]
noncomputable def Ul:V->V->Option V:=r8 V.int? V.int? fun a b=>some (.int (a-b))
noncomputable def Jm(P:Pk)(op:Operator)(F:V->V->Option V):Prop:=
 ∀(A:Around) (s:Shared) (hid:List Addr) (x y z:V) (u v:Value) (E:Value->Shared->Prop),bW 0 A->cx s.heap hid->Dn P s.heap hid x u->Dn P s.heap hid y v->F x y=some z->
  wpAny (model P.prog P.w) A (inplaceOp op u v) (fun r s'=>Kp s s'/\Dn P s'.heap hid z r) E s
theorem iZ(i:Nat){x:Str}{k:NameKind}{p pos:Pos}{op:Operator}{e:Expr}{F f}(hi:K.vars[i]?=some (x,k,false))(kR:k≠ .free)(hc:(x==("__classdict__":Str))=false)(hd:(x==("__debug__":Str))=false)(ho:Jm P op F)(h:eM P n K false e f):
  uk P n K (.AugAssign (.Name x p) op e pos) (fun ρ=>(ρ i).bind fun a=>(f ρ).bind fun b=>(F a b).map fun c=>(upd ρ i c,.next)):=fun A env out hid m B s ρ aY fl E rm S hf=>by
 refine ah hf fun a ha gg=>?_
 clear hf;rename _=>hf
 refine ah hf fun b hb gg=>?_
 clear hf;rename _=>hf
 refine bV hf fun c Ja e=>?_
 clear hf
 first|refine pair_inv e ?_;clear e|cases e
 refine wpAny_AugAssign_Name (S.load hi ha hd hc fun u hu ø=>?_);rw[az (by decide)]at hu;refine au (h A env out hid m B s ρ b E rm S hb) (fun v s₁ ag=>?_) fun ø ø q=>q
 have bc:=S.after ag.1;refine au (ho A s₁ hid a b c u v E (rm.less (dU _)) bc.live (hu.kp ag.1) ag.2 Ja) (fun r s₂ aH=>?_) fun ø ø q=>q
 exact(bc.after aH.1).store hi aH.2 (fun q=>by cases q) kR fun m' s' S' K' ø=>⟨hid,m',S',(Ks.gT (ag.1.trans aH.1)).trans K',rfl⟩
noncomputable def Px(P:Pk)(F:V->V->V->Option V):Prop:=
 ∀(A:Around) (s:Shared) (L:Addr) (out hid:List Addr) (y i x y':V) (a:Addr) (iv v:Value) (E:Value->Shared->Prop),bW 0 A->fc P L s.heap out hid y (.ref a)->Dn P s.heap hid i iv->Dn P s.heap hid x v->F y i x=some y'->
  wpAny (model P.prog P.w) A (setItem (.ref a) iv v) (fun ø s'=>Heap.SameBut a s.heap s'.heap/\s'.gens=s.gens/\s'.os=s.os/\fc P L s'.heap out hid y' (.ref a)) E s
theorem lO(i:Nat){x:Str}{k:NameKind}{p sp pos:Pos}{ix e:Expr}{F f g}(hi:K.vars[i]?=some (x,k,true))(hd:(x==("__debug__":Str))=false)(hc:(x==("__classdict__":Str))=false)(ho:Px P F)(h:eM P n K false e f)(hx:eM P n K false ix g)
  (hs:∀env,swapsWith e (some (.Subscript (.Name x p) ix sp)) pos.line env=pure false):
  uk P n K (.Assign [.Subscript (.Name x p) ix sp] e pos) (fun ρ=>(f ρ).bind fun v=>(ρ i).bind fun y=>(g ρ).bind fun j=>(F y j v).map fun y'=>(upd ρ i y',.next)):=fun A env out hid m B s ρ aY fl E rm S hf=>by
 refine ah hf fun v hv gg=>?_
 clear hf;rename _=>hf
 refine ah hf fun y hy gg=>?_
 clear hf;rename _=>hf
 refine ah hf fun j hj gg=>?_
 clear hf;rename _=>hf
 refine bV hf fun y' Nu e=>?_
 clear hf
 first|refine pair_inv e ?_;clear e|cases e
 refine wpAny_Assign_Subscript (au (h A env out hid m B s ρ v E rm S hv) (fun u s₁ ag=>?_) fun ø ø q=>q) (hs env);have bc:=S.after ag.1;refine eV (bc.load hi hy hd hc fun w hw oO=>?_) hd;rw[aw rfl]at hw;obtain⟨a,rfl,b1,b2,b3,b4⟩:=fc.addr (P:=P) hw;refine au (hx A env out hid m B s₁ ρ j E rm bc hj) (fun jv s₂ aH=>?_) fun ø ø q=>q
 have cC:=bc.after aH.1;have Py:fc P env.locals s₂.heap out hid y (.ref a):=fc.grow (P:=P) hw aH.1.keep (fun ø q=>q) fun ø q=>.inl q
 refine au (ho A s₂ env.locals out hid y j v y' a jv u E (rm.less (dU _)) Py aH.2 (ag.2.kp aH.1) Nu) (fun ø cB q=>?_) fun ø ø q=>q
 obtain⟨q1,q2,q3,q4⟩:=q;obtain⟨z1,z2⟩:=cC.mut (s':=cB) hi (oO.grow (fun c v q=>q.keeps aH.1.keep) fun ø q=>q) hy Py (fun b o hb q=>(q1.2 b hb).trans q) (by rw[q2];exact .refl _) q3 q4;exact⟨hid,m,z1,(Ks.gT (ag.1.trans aH.1)).trans z2,rfl⟩
noncomputable def Jn(y i x:V):Option V:=i.int?.bind fun k=>match y with
 | .dict ks vs=>if ks.length<=most then some (.dict (cI ks k) (eP ks vs k x))else none
 | .list l=>if 0<=k/\k<l.length/\l.length<=most then some (.list (l.set k.toNat x))else none
 |_=>none
theorem D9(ks:List Int)(vs:List V)(k:Int)(x:V):Jn (.dict ks vs) (.int k) x=if ks.length<=most then some (.dict (cI ks k) (eP ks vs k x))else none:=id rfl
theorem Ea(l:List V)(k:Int)(x:V):Jn (.list l) (.int k) x=if 0<=k/\k<l.length/\l.length<=most then some (.list (l.set k.toNat x))else none:=id rfl
theorem tK{h:Heap}{hid:List Addr}{q:Int}{x:V}{v:Value}(hx:Dn P h hid x v){ks:List Int}{xs:List V}{vs:List Value}(hl:vs.length=ks.length)(hd:aU P h hid xs vs):
  ∃gS,stored (ks.zip vs) q v=(cI ks q).zip gS/\gS.length=(cI ks q).length/\aU P h hid (eP ks xs q x) gS:=by
 have Um:∀(ks:List Int) (vs:List Value),vs.length=ks.length->((ks.zip vs).any fun kv=>decide (kv.1=q))=ks.contains q:=by
  intro ks
  induction ks with
  |nil=>intro vs _;rfl
  |cons k ks ih=>
   intro vs hl
   cases vs with
   |nil=>simp at hl
   |cons w vs=>
    rw[nc,List.any_cons,ih vs (by simpa using hl),Dt]
    congr 1
    show decide (k=q)=(q==k);by_cases e:k=q
    ·subst e;simp
    ·have:¬q=k:=fun z=>e z.symm
     simp[e,this]
 unfold stored cI eP;rw[Um ks vs hl]
 cases hc:ks.contains q with
 |false=>
  simp only[gz,eW];exact⟨vs++[v],by rw[List.zip_append hl.symm];rfl,by simp[hl],hd.app (.one hx)⟩
 |true=>
  simp only[eI];clear hc Um;refine⟨List.zipWith (fun k w=>if k=q then v else w) ks vs,?_,?_,?_⟩
  ·induction ks generalizing vs xs with
   |nil=>simp
   |cons k ks ih=>
    cases vs with
    |nil=>simp at hl
    |cons w vs=>
     obtain⟨w',r,e,h1,h2⟩:∃w' r,xs=w'::r/\True/\True:=by
      cases xs with
      |nil=>have:=aU.nil_inv hd;cases this
      |cons a b=>exact⟨a,b,rfl,trivial,trivial⟩
     subst e;obtain⟨_,_,e,_,hr⟩:=aU.cons_inv hd;cases e;rw[nc,bn,ih (by simpa using hl) hr,yP,nc];by_cases e:k=q<;>simp[e]
  ·simp[hl]
  ·induction ks generalizing vs xs with
   |nil=>exact .nil
   |cons k ks ih=>
    cases vs with
    |nil=>simp at hl
    |cons w vs=>
     cases xs with
     |nil=>have:=aU.nil_inv hd;cases this
     |cons y ys=>
      obtain⟨_,_,e,h1,hr⟩:=aU.cons_inv hd;cases e;rw[yP,yP];refine .cons ?_ (ih (by simpa using hl) hr);by_cases e:k=q<;>simp[e,hx,h1]
theorem vy:Jm P .Add Bk:=fun A s hid x y z u v E rm hh hx hy hf=>lF hf
 (fun hf=>bI hf fun a b ha hb hz=>some_inv hz <| hx.int_k ha fun t=>hy.int_k hb fun t'=>PyProof.Rows.iadd_int ⟨Kp.toks s _,.ofInt _ _⟩)
 fun hf=>bI hf fun a b ha hb hz=>ite_inv hz fun hc=>hx.str_k ha fun t=>hy.str_k hb fun t'=>
  PyProof.Rows.iadd_str (fun t' tk=>⟨Kp.toks s _,by rw[oB];exact .ofStr _ _⟩) (by rw[eu,eu];exact aA hc cZ)
theorem QR:Jm P .Sub Ul:=fun A s hid x y z u v E rm hh hx hy hf=>bI hf fun a b ha hb hz=>some_inv hz <| hx.int_k ha fun t=>hy.int_k hb fun t'=>PyProof.Rows.isub_int ⟨Kp.toks s _,.ofInt _ _⟩
theorem aU.set{h:Heap}{hid}{x:V}{v:Value}(hx:Dn P h hid x v):∀{l:List V} {ws:List Value} (k:Nat),aU P h hid l ws->aU P h hid (l.set k x) (ws.set k v)
 |[],ws,k,e=>by obtain rfl:=aU.nil_inv e;simpa using e
 |y::l,ws,0,e=>by
  obtain⟨u,r,rfl,h1,h2⟩:=aU.cons_inv e;exact .cons hx h2
 |y::l,ws,k+1,e=>by
  obtain⟨u,r,rfl,h1,h2⟩:=aU.cons_inv e;exact .cons h1 (aU.set hx k h2)
theorem Nx{n:Nat}(h:n<=most):(n:Int)<2^63:=by
 have:most=1000000:=rfl;omega
theorem xy{prog:Program}{w:World}{A:Around}{E:Value->Shared->Prop}{s:Shared}{l:Addr}{items:Array Value}{k:Int}{t:Tok}{v:Value}{Q:Unit->Shared->Prop}(hl:s.heap.PlainList l items)(h0:0<=k)(Y0:k<2^63)(hn:k<items.size)
  (hQ:∀h',h'.PlainList l (items.setIfInBounds k.toNat v)->Heap.SameBut l s.heap h'->Q () {s with heap:=h'}):wpAny (model prog w) A (setItem (.ref l) (.int k t) v) Q E s:=by
 obtain⟨e0,ho⟩:=id hl;have hT:=hl.isList.typeIs;unfold setItem
 try with_reducible refine gB ?_
 first|refine ar (bd ?_)|skip
 refine ar (wpAny_sequenceKey hT (by decide) ?_);refine ar (pR (name:=Str.ofString "__setitem__") hT slot_list_setitem (ph slot_list_setitem hT entry_list_setitem ?_ (args_list_setitem _ _ _)));show wpAny _ _ (Builtin.List.listSubscript? (.int k t)>>= _) _ _ s;refine ar (wpAny_listSubscript_int (fitsIndex_of h0 Y0) ?_);obtain⟨j,rfl⟩:=Dv h0;have hj:j<items.size:=by omega
 have IV:items[j]?=some items[j]:=Array.getElem?_eq_getElem hj;show wpAny _ _ ((seqItemAt l j>>= fun r=>pure (r.map (j,·)))>>= _) _ _ s;refine ar (ar (wpAny_seqItemAt ho rfl (bd ?_)));rw[IV];show wpAny _ _ (setSeqItemAt l j v>>= _) _ _ s;refine ar (wpAny_setSeqItemAt ho rfl ?_);have hp:=jf (f:=(·.setIfInBounds j v)) ho rfl
 first
  |exact ar (bd (bd ⟨.none,rfl,bd (hQ _ hp (pe ..))⟩))
  |exact bd ⟨.none,rfl,bd (hQ _ hp (pe ..))⟩
theorem fc.i9{L h out hid l a}{G:Prop}(e:fc P L h out hid (.list l) (.ref a))(k:∀vs,a∈hid->a∉out->a≠L->h.PlainList a vs.toArray->aU P h hid l vs->G):G:=by
 obtain⟨a',vs,e,h1,h2,h3,h4,h5⟩:=fc.em e;cases e;exact k vs h1 h2 h3 h4 h5
theorem FF:Px P Jn:=fun A s L out hid y i x y' a iv v E rm hb hi hx hf=>ah hf fun k hk hf=>hi.int_k hk fun t=>by
 clear hi hk
 cases y with
 |list l=>
  refine ite_inv hf fun hc=>fc.i9 hb fun ws c1 c2 c3 c4 c5=>?_
  clear hf hb;refine xy c4 hc.1 (Int.lt_trans hc.2.1 (Nx hc.2.2)) (by rw[bM,c5.length];exact hc.2.1) fun h' jK hs=>⟨hs,rfl,rfl,?_⟩
  exact fc.ofList c1 c2 c3 (vs:=ws.set k.toNat v) (by simpa using jK) (aU.set (Dn.but hx c1 hs) _ (aU.but c5 c1 hs))
 |dict ks vs=>
  refine ite_inv hf fun hc=>?_
  obtain⟨a',ws,e,c1,c2,c3,c4,c5,c6,c7⟩:=fc.fe hb;cases e;clear hf hb;refine wpAny_setItem_pairs (pQ P.prog P.w k t) c6 (fun h' iY hs=>⟨hs,rfl,rfl,?_⟩) (by rw[uZ,c5,u0];exact aA hc cZ);obtain⟨gS,e1,e2,e3⟩:=tK (P:=P) (q:=k) (Dn.but hx c1 hs) c5 (aU.but c7 c1 hs);rw[e1]at iY;exact⟨a,gS,rfl,c1,c2,c3,c4,e2,iY,e3⟩
 |_=>cases hf
end
section
variable{P:Pk}{n:Nat}{K K':Cx}{lo:Bool}
noncomputable def V.QS:V->Option Nat
 | .list l=>some l.length
 | .tup l=>some l.length
 | .str l=>some l.length
 | .dict ks _=>some ks.length
 |_=>Option.none
noncomputable def one?:List V->Option V
 |[x]=>some x
 |_=>none
theorem gF:∀{xs:List V} {x},one? xs=some x->xs=[x]
 |[_],_,h=>congrArg (fun x=>[x]) (Option.some.inj h)
 |[],_,h|_::_::_,_,h=>nomatch h
noncomputable def qV(xs:List V):Option V:=(one? xs).bind fun x=>x.QS.bind fun n=>if n<=most then some (.int n)else none
theorem uC{x:V}{n:Nat}(h:x.QS=some n)(hm:n<=most):qV [x]=some (.int n):=by
 unfold qV one?;rw[mW,h,mW,aw hm]
theorem FH{h:Heap}{hid x vs}(e:aU P h hid [x] vs):∃v,vs=[v]/\Dn P h hid x v:=by
 obtain⟨v,r,rfl,h1,h2⟩:=aU.cons_inv e;obtain rfl:=aU.nil_inv h2;exact⟨v,rfl,h1⟩
@[elab_as_elim] theorem aU.one?_k {h:Heap} {hid xs x vs} {C:List Value->Prop} (e:aU P h hid xs vs) (q:one? xs=some x) (k:∀v,Dn P h hid x v->C [v]):C vs:=by
 cases gF q;exact e.one_k k
theorem V.QT{x:V}{n:Nat}{G:Prop}(h:x.QS=some n)(k1:∀l,x= .list l->n=l.length->G)(k2:∀l,x= .tup l->n=l.length->G)(k3:∀l,x= .str l->n=l.length->G)(k4:∀ks l,x= .dict ks l->n=ks.length->G):G:=by
 cases x with
 |list l=>exact k1 l rfl (Option.some.inj h).symm
 |tup l=>exact k2 l rfl (Option.some.inj h).symm
 |str l=>exact k3 l rfl (Option.some.inj h).symm
 |dict ks l=>exact k4 ks l rfl (Option.some.inj h).symm
 |_=>cases h
theorem im{n:Nat}(h:n<=most):(n:Int)<2^63:=by
 have:most=1000000:=rfl;omega
theorem FI{ws:List Value}{ks:List Int}(h:ws.length=ks.length):(ks.zip ws).length=ks.length:=by rw[uZ,h,u0]
theorem jj:aZ P n (.builtin "len") qV:=fun A s hid xs x vs E rm hG live hd hf=>ah hf fun y hy hf=>ah hf fun n hn hf=>ite_inv hf fun hm=>hd.one?_k hy fun v hv=>by
 clear hd hf hy;refine V.QT hn (fun l e1 e2=>?_) (fun l e1 e2=>?_) (fun l e1 e2=>?_) fun ks l e1 e2=>?_<;>subst e1<;>subst e2
 ·refine hv.i9 rfl fun a ws k ha ø ht iY=>?_
  refine Calls.call_len_list ht.isList (by rw[bM,iY.length];first|exact im hm|exact pP.mpr (im hm)) ⟨Kp.toks s _,?_⟩;rw[bM,iY.length];exact .ofInt _ _
 ·obtain⟨a,ws,rfl,ha,ht,iY⟩:=hv.oA
  refine PyProof.Rows.len_tuple ht.isTup (by rw[bM,iY.length];first|exact im hm|exact pP.mpr (im hm)) ⟨Kp.toks s _,?_⟩;rw[bM,iY.length];exact .ofInt _ _
 ·refine hv.str_k rfl fun t=>?_
  refine PySem.P.len_str (by rw[eu];first|exact im hm|exact pP.mpr (im hm)) ⟨Kp.toks s _,?_⟩;rw[eu];exact .ofInt _ _
 ·obtain⟨a,ws,rfl,ha,hlen,ly,ht,iY⟩:=hv.fe
  refine call_len_dict ly ht (by rw[FI hlen];first|exact im hm|exact pP.mpr (im hm)) ⟨Kp.toks s _,?_⟩;rw[FI hlen];exact .ofInt _ _
noncomputable def Un(xs:List V):Option V:=(one? xs).bind fun x=>x.jL.bind fun l=>(Qz l).map fun(c:Nat)=>V.int (Int.ofNat c)
theorem QU(c:Nat):Un [.str [c]]=some (.int (c:Int)):=rfl
theorem Jo:aZ P n (.builtin "ord") Un:=fun A s hid xs x vs E rm hG live hd hf=>ah hf fun y hy hf=>ah hf fun l hl hf=>map_inv hf fun c hc=>hd.one?_k hy fun v hv=>by
 cases AX hc;exact hv.str_k hl fun t=>PySem.P.ord_of_char ⟨Kp.toks s _,.ofInt _ _⟩
noncomputable def Eb(xs:List V):Option V:=(one? xs).bind fun x=>x.int?.bind fun i=>if 0<=i/\i<=0x10FFFF then some (.str [i.toNat])else none
theorem QV(i:Int):Eb [.int i]=if 0<=i/\i<=0x10FFFF then some (.str [i.toNat])else none:=id rfl
theorem Bl:aZ P n (.builtin "chr") Eb:=fun A s hid xs x vs E rm hG live hd hf=>ah hf fun y hy hf=>ah hf fun i hi hf=>ite_inv hf fun hc=>hd.one?_k hy fun v hv=>hv.int_k hi fun t=>
 PySem.P.chr_of_int (by clear hd hf hv;simp;omega) ⟨Kp.toks s _,.ofStr [i.toNat] _⟩
noncomputable def digits(i:Int):List Nat:=(Str.ofString (toString i)).cps.toList
noncomputable def QW(xs:List V):Option V:=(one? xs).bind fun x=>x.int?.bind fun i=>if 0<=i/\i<=1000000 then some (.str (digits i))else none
theorem QX(i:Int):QW [.int i]=if 0<=i/\i<=1000000 then some (.str (digits i))else none:=id rfl
theorem Hm{i:Int}(hc:0<=i/\i<=1000000):i.natAbs<2^64:=by omega
theorem Uo:aZ P n (.type "str") QW:=fun A s hid xs x vs E rm hG live hd hf=>ah hf fun y hy hf=>ah hf fun i hi hf=>ite_inv hf fun hc=>hd.one?_k hy fun v hv=>hv.int_k hi fun t=>by
 refine PySem.P.str_of_int ?_ ⟨Kp.toks s _,.ofStr (digits i) _⟩;have h1:=Hm hc;clear hd hf hv hy hi hc;by_cases h0:i.natAbs=0
 ·rw[h0];decide
 ·have:=(Nat.log2_lt h0).mpr h1
  omega
noncomputable def jZ:List V->Option (List Int)
 |[]=>some []
 |x::l=>x.int?.bind fun i=>(jZ l).map (i:: ·)
theorem Jp:jZ []=some []:=rfl
theorem Bm(i:Int)(l:List V):jZ (.int i::l)=(jZ l).map (i:: ·):=rfl
theorem su{y:V}{l:List V}{is:List Int}(h:jZ (y::l)=some is):∃k Pz,y= .int k/\jZ l=some Pz/\is=k::Pz:=by
 obtain⟨i,hi,h⟩:=m6.mp h;obtain⟨r,h1,h2⟩:=pb.mp h;exact⟨i,r,V.kO hi,h1,h2.symm⟩
theorem Bn:∀{l:List V} {is:List Int} {i:Nat} {x:V},jZ l=some is->l[i]?=some x->∃k,x= .int k/\is[i]?=some k
 |[],is,i,x,h,hx=>by simp at hx
 |y::l,is,i,x,h,hx=>by
  obtain⟨k,Pz,rfl,h',rfl⟩:=su h
  cases i with
  |zero=>simp at hx;subst hx;exact⟨k,rfl,by simp⟩
  |succ i=>simpa using Bn (l:=l) (i:=i) h' (by simpa using hx)
theorem sv:∀{l:List V} {is:List Int},jZ l=some is->is.length=l.length
 |[],is,h=>by cases h;rfl
 |y::l,is,h=>by
  obtain⟨k,Pz,rfl,h',rfl⟩:=su h;simp[sv h']
noncomputable def zj(xs:List V):Option V:=(one? xs).bind fun x=>x.gE.bind fun l=>(jZ l).map fun is=>.int is.sum
theorem QY(l:List V):zj [.list l]=(jZ l).map fun is=>.int is.sum:=rfl
theorem Ec(is:List Int):preSum (fun j=>(is[j]?).getD 0) is.length=is.sum:=by
 have key:∀(is:List Int) (k:Nat),k<=is.length->preSum (fun j=>(is[j]?).getD 0) k=(is.take k).sum:=by
  intro is k
  induction k with
  |zero=>intro _;simp[preSum]
  |succ k ih=>
   intro hk;rw[preSum,ih (by omega),List.take_succ_eq_append_getElem (by omega),List.sum_append];simp[show k<is.length by omega]
 rw[key is is.length (cF _),List.take_length]
theorem PA:aZ P n (.builtin "sum") zj:=fun A s hid xs x vs E rm hG live hd hf=>ah hf fun y hy hf=>ah hf fun l hl hf=>map_inv hf fun is Ny=>hd.one?_k hy fun v hv=>hv.i9 hl fun a ws ø ha ø ht iY=>by
 clear hd hf hy
 ·
  have bN:a≠s.heap.objs.size:=fun e=>by obtain⟨k,z⟩:=ht;rw[e,aP]at z;cases z
  refine call_sum_walkAnyS (yL ht.isList ?_);have W:=(Walks.list (prog:=P.prog) (w:=P.w) (A:=A.in1) rm.handled s.heap.objs.size a bN ws.toArray).toS;refine⟨_,_,_,_,_,_,_,fun j=>(is[j]?).getD 0,rfl,W,⟨⟨_,bD _ rfl,rfl,rfl⟩,ht.isList.at fun o q=>bK _ q⟩,fun b hb=>?_,fun i v hv=>?_,fun s' t' mv=>?_⟩
  ·rw[qF]
   rcases bp.mp hb with rfl|hb
   ·exact mV _
   ·obtain rfl:b=a:=by simpa using hb
    obtain⟨k,z⟩:=ht;exact ni (f5 z)
  ·have hv:ws[i]?=some v:=by simpa using hv
   obtain⟨y,hy,hr⟩:=aV.get' iY hv;obtain⟨k,rfl,hk⟩:=Bn Ny hy;obtain⟨t,rfl⟩:=Dn.int_inv (P:=P) hr;exact⟨t,by simp[hk]⟩
  ·refine⟨⟨fun b o q=>mv.heap b o (fun hm=>?_) (bK _ q),?_,mv.os⟩,?_⟩
   ·obtain rfl:b=s.heap.objs.size:=by simpa using hm
    rw[aP]at q;cases q
   ·have:=mv.gens
    rw[show s'.gens=s.gens from this];exact .refl _
   ·rw[bM,iY.length,<-sv Ny,Ec]
    exact .ofInt _ _
noncomputable def vz(f:Nat->Int):Nat->Int
 |0=>f 0
 |k+1=>max (vz f k) (f (k+1))
theorem FJ(f:Nat->Int):vz f 0=f 0:=rfl
theorem zk(f:Nat->Int)(k:Nat):vz f (k+1)=max (vz f k) (f (k+1)):=rfl
theorem tL(f:Nat->Int):∀k,f (argBest (fun i j=>decide (f i>f j)) k)=vz f k
 |0=>rfl
 |k+1=>by
  have ih:=tL f k;unfold argBest;rw[zk];rw[<-ih];by_cases h:f (k+1)>f (argBest (fun i j=>decide (f i>f j)) k)
  ·rw[aw (by simpa using h)];omega
  ·rw[az (by simpa using h)];omega
noncomputable def Jq(l:List V):Option V:=if l.isEmpty=true then none else(jZ l).map fun is=>.int (vz (fun j=>(is[j]?).getD 0) (is.length-1))
noncomputable def Ed:List V->Option V
 |[x]=>x.gE.bind Jq
 |[x,y]=>r8 V.int? V.int? (fun a b=>some (.int (if b>a then b else a))) x y
 |_=>none
theorem QZ(l:List V):Ed [.list l]=Jq l:=rfl
theorem Q0(a b:Int):Ed [.int a,.int b]=some (.int (if b>a then b else a)):=rfl
theorem Bo{l:List V}{is:List Int}{h:Heap}{hid:List Addr}:∀{ws:List Value},jZ l=some is->aU P h hid l ws->∃ts:List (Int×Tok),ws.toArray=intItems ts.toArray/\ts.map (·.1)=is:=by
 induction l generalizing is with
 |nil=>
  intro ws h1 h2;cases h1;obtain rfl:=aU.nil_inv h2;exact⟨[],by simp[intItems],rfl⟩
 |cons y l ih=>
  intro ws h1 h2;obtain⟨v,r,rfl,hv,hr⟩:=aU.cons_inv h2;obtain⟨k,Pz,rfl,h',rfl⟩:=su h1;obtain⟨t,rfl⟩:=hv.int_inv;obtain⟨ts,e1,e2⟩:=ih h' hr;refine⟨(k,t)::ts,?_,by simp[e2]⟩;have e1':r=ts.map fun p=>Value.int p.1 p.2:=by
   have:=congrArg Array.toList e1;simpa[intItems]using this
  simp[intItems,e1']
theorem Nz{A:Around}{s:Shared}{hid:List Addr}{l:List V}{x:V}{v:Value}{E:Value->Shared->Prop}(rm:bW n A)(hv:Dn P s.heap hid (.list l) v)(hf:Jq l=some x):
  wpAny (model P.prog P.w) A (call (.builtin "max") [v]) (fun r s'=>Kp s s'/\Dn P s'.heap hid x r) E s:=by
 unfold Jq at hf;by_cases bN:l.isEmpty=true
 ·rw[aw bN]at hf;cases hf
 ·rw[az bN]at hf
  refine map_inv hf fun is Ny=>hv.i9 rfl fun a ws ø ha ø ht iY=>?_
  clear hf hv;obtain⟨ts,e1,e2⟩:=Bo Ny iY;rw[e1]at ht;have hlen:ts.length=is.length:=by rw[<-e2];simp
  have hl:is.length=l.length:=sv Ny;have I6:0<ts.toArray.size:=by
   rw[bM,hlen,hl];exact uX.mpr fun z=>bN (by rw[z];rfl)
  have oO:numAt ts.toArray=fun j=>(is[j]?).getD 0:=by
   funext j
   unfold numAt;rw[<-e2];simp
  refine max_intList rm.handled ht.isList I6 fun v h' tk T8 hk=>⟨.heap hk,?_⟩
  obtain⟨t,rfl⟩:=intItems_at T8;have e3:=tL (numAt ts.toArray) (ts.toArray.size-1);rw[e3,oO,bM,hlen];exact .ofInt _ _
theorem Jr:aZ P n (.builtin "max") Ed:=fun A s hid xs x vs E rm hG live hd hf=>by
 cases xs with
 |nil=>cases hf
 |cons y xs=>cases xs with
  |nil=>exact ah hf fun l hl hf=>hd.one_k fun v hv=>Nz rm (V.fQ hl▸hv) hf
  |cons z xs=>cases xs with
   |nil=>
    exact bI hf fun a b ha hb hf=>some_inv hf <| hd.two_k fun v w hv hw=>hv.int_k ha fun t=>hw.int_k hb fun t'=>max_two_ints rm.handled fun h' tk hk=>⟨.heap hk,by
     by_cases h:b>a
     ·rw[aw h,aw h];exact .ofInt _ _
     ·rw[az h,az h];exact .ofInt _ _⟩
   |cons _ _=>cases hf
end
section
variable{P:Pk}{n:Nat}{K K':Cx}{lo:Bool}
inductive DmQ(P:Pk)(name:Str)(s:Shared)(hid:List Addr)(y:V)(v:Value)(xs:List V)(r:V):Prop
 |mk (T id:String) (p:PlainAttrs T) (sl:Slot T name id) (t:typeOf (.builtin id)=pure (.type "method_descriptor")) (ty:s.TypeIs v T) (nd:∀a,v= .ref a->∃ob,s.heap.get? a=some ob/\ob.dict=none)
  (h:∀(A:Around) (s₁:Shared) (vs:List Value) (E:Value->Shared->Prop),bW 0 A->P.G s₁.heap->cx s₁.heap hid->Dn P s₁.heap hid y v->aU P s₁.heap hid xs vs->
   wpAny (model P.prog P.w) A (call (.builtin id) (v::vs)) (fun u s'=>Kp s₁ s'/\Dn P s'.heap hid r u) E s₁):DmQ P name s hid y v xs r
noncomputable def NA(P:Pk)(name:Str)(F:V->List V->Option V):Prop:=
 ∀(s:Shared) (hid:List Addr) (y:V) (v:Value) (xs:List V) (r:V),P.G s.heap->Dn P s.heap hid y v->F y xs=some r->DmQ P name s hid y v xs r
noncomputable def Q1(F:V->List V->Option V)(f:al->Option V)(g:al->Option (List V)):al->Option V:=fun ρ=>(f ρ).bind fun y=>(g ρ).bind fun xs=>F y xs
theorem eE{o:Expr}{apos pos:Pos}{name:Str}{args:List Expr}{F f g}(ho:eM P n K lo o f)
  (hm:NA P name F) (ha:lz P n K lo args g) (eF:∀env,starEach args env=args.map fun e=>(false,eval e env)) (bN:args.length<20) (jd:(apos.endLine==pos.line)=true) (je:∀env,attributeBase o name env (eval o env)=eval o env):
  eM P n K lo (.Call (.Attribute o name apos) args [] pos) (Q1 F f g):=fun A env out hid m B s ρ z E r S hf=>by
 refine ah hf fun y hy gg=>?_
 clear hf;rename _=>hf
 refine ah hf fun xs xu hF=>?_
 have cL:(backTo pos (starEach args env)).any (·.1)=false:=dg eF;refine yI (je env) (nK cL bN) jd ?_;refine au (ho A env out hid m B s ρ y E r S hy) (fun v s₁ q=>?_) fun ø ø q=>q
 have bc:=S.after q.1;obtain⟨T,id,c1,c2,c3,c4,c5,c6⟩:=hm s₁ (av lo out hid) y v xs z bc.G q.2 hF;refine⟨T,id,c1,c2,c3,c4,c5,rJ cL ?_⟩;have key:=ha A env out hid m B s₁ ρ xs E pos r bc xu;have fin:∀vs s₂,(Kp s₁ s₂/\aU P s₂.heap (av lo out hid) xs vs)->wpAny (model P.prog P.w) A (call (.builtin id) ([v]++vs) []) (fun u s'=>Kp s s'/\Dn P s'.heap (av lo out hid) z u) E s₂:=by
  intro vs s₂ aH;have cC:=bc.after aH.1;exact au (c6 A s₂ vs E (r.less (dU _)) cC.G (cC.G5 lo) (Dn.kp (P:=P) q.2 aH.1) aH.2) (fun u s' q'=>⟨(q.1.trans aH.1).trans q'.1,q'.2⟩) fun ø ø q=>q
 exact dM cL (au key fin fun ø ø q=>q)
noncomputable def j0:List V->Option (List (List Nat))
 |[]=>some []
 |x::l=>x.jL.bind fun i=>(j0 l).map (i:: ·)
theorem Js:j0 []=some []:=rfl
theorem Jt(i:List Nat)(l:List V):j0 (.str i::l)=(j0 l).map (i:: ·):=rfl
theorem sw{y:V}{l:List V}{is:List (List Nat)}(h:j0 (y::l)=some is):∃k Pz,y= .str k/\j0 l=some Pz/\is=k::Pz:=by
 obtain⟨i,hi,h⟩:=m6.mp h;obtain⟨r,h1,h2⟩:=pb.mp h;exact⟨i,r,V.kP hi,h1,h2.symm⟩
theorem sx{h:Heap}{hid}:∀{l:List V} {ts:List (List Nat)} {vs:List Value},j0 l=some ts->aU P h hid l vs->∃w:List (Str×Tok),vs=strValues w/\w.map (·.1)=ts.map pyStr
 |[],ts,vs,e,d=>by cases e;obtain rfl:=aU.nil_inv d;exact⟨[],rfl,rfl⟩
 |y::l,ts,vs,e,d=>by
  obtain⟨t,ts',rfl,h',rfl⟩:=sw e;obtain⟨v,r,rfl,h1,h2⟩:=aU.cons_inv d;obtain⟨k,rfl⟩:=h1.str_inv;obtain⟨w,rfl,hw⟩:=sx h' h2;exact⟨(pyStr t,k)::w,rfl,by simp[hw]⟩
noncomputable def nR(sep:List Nat):List (List Nat)->List Nat
 |[]=>[]
 |[x]=>x
 |x::y::r=>x++sep++nR sep (y::r)
theorem jk(sep:List Nat):nR sep []=[]:=rfl
theorem jl(sep x:List Nat):nR sep [x]=x:=rfl
theorem jm(sep x y:List Nat)(r:List (List Nat)):nR sep (x::y::r)=x++sep++nR sep (y::r):=rfl
theorem FK(sep:List Nat):∀ts:List (List Nat),Str.join (pyStr sep) (ts.map pyStr)=pyStr (nR sep ts)
 |[]=>rfl
 |[x]=>rfl
 |x::y::r=>by
  show pyStr x++pyStr sep++Str.join (pyStr sep) ((y::r).map pyStr)=_;rw[FK sep (y::r),oB,oB];rfl
noncomputable def Up(sep:List Nat)(l:List V):Option V:=(j0 l).bind fun ts=>if JoinOk (pyStr sep) (ts.map pyStr)=true then some (.str (nR sep ts))else none
noncomputable def tM(y:V)(xs:List V):Option V:=y.jL.bind fun sep=>(V.one? xs).bind fun x=>x.gE.bind (Up sep)
theorem uD(sep:List Nat)(l:List V):tM (.str sep) [.list l]=(j0 l).bind fun ts=>if JoinOk (pyStr sep) (ts.map pyStr)=true then some (.str (nR sep ts))else none:=rfl
theorem qW:NA P "join" tM:=fun s hid y v xs r G hv hF=>ah hF fun sep hs hF=>ah hF fun x IS hF=>ah hF fun l hl hF=>ah hF fun ts NB hF=>eN hF fun Di e=>by
 cases V.gF IS;subst e;exact hv.str_k hs fun t=>⟨"str","str.join",PySem.F.plainAttrs_str,PySem.F.slot_str_join,PySem.F.type_str_join,typeIs_str _ _ _,(fun ø e=>nomatch e),fun A s₁ vs E rm NC live xZ hx=>hx.one_k fun u hu=>hu.i9 hl fun a ws ø ha ø ht hd=>by
  obtain⟨w,rfl,hw⟩:=sx NB hd;refine PySem.SC.join ht.isList hw Di fun t' k=>⟨Kp.toks s₁ k,?_⟩
  rw[show Txt.join (pyStr sep) (ts.map pyStr)=pyStr (nR sep ts)from(PySem.StrLaws.glued_eq_join _ _).trans (FK sep ts)];exact .ofStr _ _⟩
noncomputable def oS(l:List Nat):List Nat:=(Txt.lower (pyStr l)).cps.toList
noncomputable def Q2(y:V)(xs:List V):Option V:=y.jL.bind fun l=>if xs.isEmpty=true/\Builtin.Str.tooLong (Txt.lower (pyStr l)).length=false then some (.str (oS l))else none
theorem Q3(l:List Nat)(h:Builtin.Str.tooLong (Txt.lower (pyStr l)).length=false):Q2 (.str l) []=some (.str (oS l)):=by
 show(if _ then _ else _)=_;rw[aw ⟨rfl,h⟩]
theorem Uq:NA P "lower" Q2:=fun s hid y v xs r G hv hF=>ah hF fun l hl hF=>eN hF fun Di e=>by
 subst e;obtain⟨h1,Di⟩:=Di
 cases xs with
 |cons _ _=>cases h1
 |nil=>
  exact hv.str_k hl fun t=>⟨"str","str.lower",PySem.F.plainAttrs_str,PySem.F.slot_str_lower,PySem.F.type_str_lower,typeIs_str _ _ _,(fun ø e=>nomatch e),fun A s₁ vs E rm NC live xZ hx=>by
   obtain rfl:=aU.nil_inv hx;exact PySem.SC.lower (t:=t) Di ⟨Kp.toks s₁ _,.ofStr (oS l) _⟩⟩
end
section
variable{P:Pk}{n:Nat}{K K':Cx}{lo:Bool}
noncomputable def Ur(xs:List V):Option V:=(V.one? xs).bind fun x=>x.gE.bind fun l=>if l.length<=most then some (.tup l)else none
theorem Q4(l:List V):Ur [.list l]=if l.length<=most then some (.tup l)else none:=id rfl
theorem Q5{A:Around}{s:Shared}{hid:List Addr}{a:Addr}{ws:List Value}{l:List V}{E:Value->Shared->Prop}(live:cx s.heap hid)(ht:s.heap.PlainList a ws.toArray)(hd:aU P s.heap hid l ws)(hm:l.length<=most):
  wpAny (model P.prog P.w) A (call (.type "tuple") [.ref a]) (fun r s'=>Kp s s'/\Dn P s'.heap hid (.tup l) r) E s:=by
 refine PySem.call_tuple_list ht.isList (fun h' hk=>?_) (by rw[bM,hd.length];exact aA hm cZ);have kp:Kp s {s with heap:=h'.push {cls:=.type "tuple",data:=.seq ws.toArray} }:=⟨fun b o e=>bK _ (hk b o e),.refl _,rfl⟩;refine⟨kp,.Pl ?_ ⟨0,bD _ rfl⟩ (aU.kp (P:=P) hd kp)⟩;intro q;obtain⟨o,e⟩:=live _ q;have:=hk _ _ e;rw[aP]at this;cases this
noncomputable def Y1(xs:List V):Option V:=(si xs).bind fun l=>if l.length<=most then some (.list l)else none
theorem aU.Y2{h:Heap}{hid}{l:List V}:∀{vs:List Value},vs.length=l.length->(∀(i:Nat) x v,l[i]?=some x->vs[i]?=some v->Dn P h hid x v)->aU P h hid l vs:=by
 induction l with
 |nil=>
  intro vs hl _;cases List.length_eq_zero_iff.mp hl;exact aV.nil
 |cons x l ih=>
  intro vs hl h1
  cases vs with
  |nil=>cases hl
  |cons v vs=>exact .cons (h1 0 x v rfl rfl) (ih (rP hl) fun i y u hy hu=>h1 (i+1) y u hy hu)
set_option tactic.hygienic true in
theorem um{p p2 pos vA:Pos}{es:List Expr}{f}(hx:K.aM.contains "range"=true)(hv:P.glob "range"=some (.type "range"))(IV:K.aM.contains "list"=true)(T8:P.glob "list"=some (.type "list"))
  (hs:lz P n K false es f) (eF:∀env,starEach es env=es.map fun e=>(false,eval e env)) (Ju:∀env,starEach [.Call (.Name "range" p2) es [] vA] env=[(false,eval (.Call (.Name "range" p2) es [] vA) env)]):
  MW P n K (.Call (.Name "list" p) [.Call (.Name "range" p2) es [] vA] [] pos) (fun ρ=>(f ρ).bind Y1):=fun A env out hid m B s ρ x E rm S hf=>by
 refine ah hf fun y hy gg=>?_
 clear hf;rename _=>hf
 refine ah hf fun l hl gg=>?_
 clear hf;rename _=>hf
 split at hf
 case isFalse=>cases hf
 rename_i hm;cases hf;have hp:(backTo pos (starEach [.Call (.Name "range" p2) es [] vA] env)).any (·.1)=false:=by rw[Ju];rfl
 refine kH (bH S IV T8 (by decide) ?_);refine yF hp ?_;refine dM hp (jS (Q:=fun vs s'=>wpAny (model P.prog P.w) A (call (.type "list") ([]++vs) []) (fun v s'=>Kp s s'/\Ng P s s' hid (.list l) v) E s') ?_ (Ju env));refine kH (bH S hx hv (by decide) ?_);refine yF (dg eF) ?_;refine dM (dg eF) (au (hs A env out hid m B s ρ y E vA rm S hy) (fun vs s₁ ag=>?_) fun ø ø q=>q);refine A5 (vs:=[]++vs) ag.2 hl fun a b c t u v k s₂ jK hk ly hr kp=>?_
 subst jK;refine jR ?_;have Us:k<=most:=by simpa using hm
 have Bp:most=1000000:=rfl;refine call_list_range rm.handled hr ly hk.symm (by omega) fun h' tk xz c' Ut hS hit=>?_
 have kp':Kp s₂ {s₂ with heap:=h',toks:=tk}:=.heap Ut;refine⟨ag.1.trans (kp.trans kp'),?_⟩;have eG:s.heap.get? s₂.heap.objs.size=none:=by
  cases e:s.heap.get? s₂.heap.objs.size with
  |none=>rfl
  |some o=>have:=kp.keep _ _ (ag.1.keep _ _ e);rw[aP]at this;cases this
 refine⟨_,xz.toList,rfl,eG,⟨c',by simpa using hS⟩,aU.Y2 (by simp[hit.1]) fun i z w hz hw=>?_⟩;rw[bL]at hz;have hw':xz[i]?=some w:=by simpa using hw
 obtain⟨t',rfl⟩:=hit.2 i w hw';by_cases hi:i<k
 ·rw[Dr hi]at hz
  cases hz;exact .ofInt _ _
 ·rw[iI (by simpa using hi)]at hz;cases hz
end
section
variable{P:Pk}{n:Nat}{K K':Cx}{lo:Bool}
noncomputable def getL(d:List Int×List V):List V->Option V
 |[x]=>x.int?.bind fun k=>some ((bR d.1 d.2 k).getD .none)
 |[x,z]=>x.int?.bind fun k=>some ((bR d.1 d.2 k).getD z)
 |_=>none
noncomputable def Q6(y:V)(xs:List V):Option V:=y.AY.bind fun d=>getL d xs
theorem Q7(ks:List Int)(vs:List V)(k:Int)(d:V):Q6 (.dict ks vs) [.int k,d]=some ((bR ks vs k).getD d):=rfl
theorem vB{h:Heap}{hid:List Addr}{q:Int}{ks:List Int}{xs:List V}{vs:List Value}{d:V}{u:Value}(hl:vs.length=ks.length)(hd:aU P h hid xs vs)(hu:Dn P h hid d u):Dn P h hid ((bR ks xs q).getD d) ((valueAt (ks.zip vs) q).getD u):=by
 have:=vx (P:=P) (q:=q) hl hd
 cases e:bR ks xs q with
 |some z=>rw[e]at this;obtain⟨w,hw,hz⟩:=this;rw[hw];exact hz
 |none=>rw[e]at this;rw[this];exact hu
theorem Jv:NA P "get" Q6:=fun s hid y v xs r G hv hF=>ah hF fun d hd hF=>by
 cases V.oC hd;clear hd;replace hF:getL d xs=some r:=hF;obtain⟨a,vs,rfl,ha,hlen,ly,ht,hd⟩:=hv.fe;refine⟨"dict","dict.get",yQ,u1,PySem.F.type_dict_get,ht.typeIs,ht.mapOf.noDict,fun A s₁ us E rm NC live xZ hx=>?_⟩;clear ht hlen hd hv;obtain⟨a',gS,e,ha,hlen,ly,ht,hd⟩:=xZ.fe;cases e
 cases xs with
 |nil=>cases hF
 |cons x xs=>cases xs with
  |nil=>
   exact ah hF fun k hk hF=>some_inv hF <| hx.one_k fun u hu=>hu.int_k hk fun t=>
    u2 u1 ht.typeIs Dw (PySem.F.args_dict_get_2 _ _) (meets_dict_get _ a (pQ P.prog P.w k t) ly) ⟨_,ht.mapOf,Kp.toks s₁ _,vB hlen hd .r9⟩
  |cons z xs=>cases xs with
   |nil=>
    exact ah hF fun k hk hF=>some_inv hF <| hx.two_k fun u u' hu YK=>hu.int_k hk fun t=>
     u2 u1 ht.typeIs Dw (PySem.F.args_dict_get_3 _ _ _) (meets_dict_get_default _ a (pQ P.prog P.w k t) ly u') ⟨_,ht.mapOf,Kp.toks s₁ _,vB hlen hd YK⟩
   |cons _ _=>cases hF
noncomputable def Jw(P:Pk)(a:Addr)(name:Str)(F:List V->Option V):Prop:=
 ∀(s:Shared),P.G s.heap->∃(T id:String),PlainAttrs T/\Slot T name id/\typeOf (.builtin id)=pure (.type "method_descriptor")/\s.TypeIs (.ref a) T/\(∃ob,s.heap.get? a=some ob/\ob.dict=none)/\
  ∀(A:Around) (s₁:Shared) (hid:List Addr) (xs:List V) (r:V) (vs:List Value) (E:Value->Shared->Prop),bW 0 A->P.G s₁.heap->cx s₁.heap hid->aU P s₁.heap hid xs vs->F xs=some r->
   wpAny (model P.prog P.w) A (call (.builtin id) (.ref a::vs)) (fun u s'=>Kp s₁ s'/\Dn P s'.heap hid r u) E s₁
theorem Bq{id:Str}{p apos pos:Pos}{name:Str}{args:List Expr}{a:Addr}{F g}(hx:K.aM.contains id=true)(hv:P.glob id=some (.ref a))(hd:(id==("__debug__":Str))=false)
  (hm:Jw P a name F) (ha:lz P n K lo args g) (eF:∀env,starEach args env=args.map fun e=>(false,eval e env)) (bN:args.length<20) (jd:(apos.endLine==pos.line)=true) (je:∀env,attributeBase (.Name id p) name env (eval (.Name id p) env)=eval (.Name id p) env):
  eM P n K lo (.Call (.Attribute (.Name id p) name apos) args [] pos) (eD F g):=fun A env out hid m B s ρ z E r S hf=>by
 refine ah hf fun xs xu hF=>?_
 have cL:(backTo pos (starEach args env)).any (·.1)=false:=dg eF;refine yI (je env) (nK cL bN) jd ?_;refine bH S hx hv hd ?_;obtain⟨T,id,c1,c2,c3,c4,c5,c6⟩:=hm s S.G;refine⟨T,id,c1,c2,c3,c4,fun b e=>by cases e;exact c5,rJ cL ?_⟩;have key:=ha A env out hid m B s ρ xs E pos r S xu;have fin:∀vs s₂,(Kp s s₂/\aU P s₂.heap (av lo out hid) xs vs)->wpAny (model P.prog P.w) A (call (.builtin id) ([.ref a]++vs) []) (fun u s'=>Kp s s'/\Dn P s'.heap (av lo out hid) z u) E s₂:=by
  intro vs s₂ aH;have cC:=S.after aH.1;exact au (c6 A s₂ _ xs z vs E (r.less (dU _)) cC.G (cC.G5 lo) aH.2 hF) (fun u s' q'=>⟨aH.1.trans q'.1,q'.2⟩) fun ø ø q=>q
 exact dM cL (au key fin fun ø ø q=>q)
noncomputable def Jx(ks:List Int)(ts:List (List Nat))(xs:List V):Option V:=(V.one? xs).bind fun x=>x.int?.bind fun k=>some ((bR ks (ts.map .str) k).getD .none)
theorem Q8(ks:List Int)(ts:List (List Nat))(k:Int):Jx ks ts [.int k]=some ((bR ks (ts.map .str) k).getD .none):=rfl
theorem Uu{a:Addr}{ks:List Int}{ts:List (List Nat)}(ly:(a==sysModules)=false)(h:∀h,P.G h->∃jJ:List (Str×Tok),jJ.map (·.1)=ts.map pyStr/\jJ.length=ks.length/\h.DictOf (intKind P.prog P.w) a (ks.zip (strValues jJ))):
  Jw P a "get" (Jx ks ts):=fun s G=>by
 obtain⟨jJ,e1,e2,ht⟩:=h _ G;refine⟨"dict","dict.get",yQ,u1,PySem.F.type_dict_get,ht.typeIs,ht.mapOf.noDict _ rfl,fun A s₁ hid xs r vs E rm NC live hx hF=>?_⟩;refine ah hF fun y hy hF=>ah hF fun k hk hF=>some_inv hF ?_
 cases V.gF hy;refine hx.one_k fun u hu=>hu.int_k hk fun t=>?_
 clear hF hy hu hx ht e1 e2 jJ;obtain⟨jJ,e1,e2,ht⟩:=h _ NC;have key:∀(jJ:List (Str×Tok)) (ts:List (List Nat)),jJ.map (·.1)=ts.map pyStr->aU P s₁.heap hid (ts.map .str) (strValues jJ):=by
  intro jJ
  induction jJ with
  |nil=>intro ts e;cases ts with
   |nil=>exact aV.nil
   |cons t ts=>simp at e
  |cons p jJ ih=>intro ts e;cases ts with
   |nil=>simp at e
   |cons t ts=>
    simp only[bn,List.cons.injEq]at e;obtain⟨x,y⟩:=p;obtain⟨rfl,e⟩:=e;exact .cons (Dn.ofStr (P:=P) _ _) (ih ts e)
 exact u2 u1 ht.typeIs Dw (PySem.F.args_dict_get_2 _ _) (meets_dict_get _ a (pQ P.prog P.w k t) ly) ⟨_,ht.mapOf,Kp.toks s₁ _,vB (by simpa[strValues]using e2) (key jJ ts e1) .r9⟩
end
section
variable{P:Pk}{n:Nat}{K K':Cx}{lo:Bool}
noncomputable def Jy(T:Int->Bool)(x:V):Option V:=x.int?.map fun k=>.bool (T k)
theorem Jz(T:Int->Bool)(k:Int):Jy T (.int k)=some (.bool (T k)):=rfl
theorem Br{l:Expr}{id:Str}{p pos:Pos}{a:Addr}{T:Int->Bool}{f}(hx:K.aM.contains id=true)(hv:P.glob id=some (.ref a))(hd:(id==("__debug__":Str))=false)
  (hG:∀h,P.G h->∃n,h.SetOf (intKind P.prog P.w) a T n) (hl:eM P n K true l f) (hm:behindInMarks .In (.Name id p)=false):
  eM P n K lo (.Compare l [.In] [.Name id p] pos) (fun ρ=>(f ρ).bind (Jy T)):=fun A env out hid m B s ρ z E rm S hf=>by
 refine ah hf fun x IV gg=>?_
 clear hf;rename _=>hf
 refine bV hf fun k hk e=>?_
 cases V.kO hk;subst e;refine wpAny_Compare1 (au (hl A env out hid m B s ρ _ E rm S IV) (fun u s₁ ag=>?_) fun ø ø q=>q) hm;have bc:=S.after ag.1;refine bH bc hx hv hd ?_;obtain⟨t,rfl⟩:=ag.2.int_inv;obtain⟨n,hS⟩:=hG _ bc.G;exact wpAny_inSet_of (pQ P.prog P.w k t) rfl hS ⟨ag.1.trans (Kp.toks s₁ _),.ofBool _⟩
noncomputable def tabS(T:List Nat->Option Int)(x:V):Option V:=x.jL.bind fun l=>(T l).map .int
theorem Bs{i:Expr}{id:Str}{p pos:Pos}{a:Addr}{T:List Nat->Option Int}{g}(hx:K.aM.contains id=true)(hv:P.glob id=some (.ref a))(hd:(id==("__debug__":Str))=false)
  (hG:∀h,P.G h->∃f:Str->Option Value,h.MapOf (strKind P.prog P.w) a f/\∀l k,T l=some k->∃t,f (pyStr l)=some (.int k t)) (hi:eM P n K true i g)
  (hs:∀u v,subscripted i false u v=operate [u,v] (getItem u v)):eM P n K lo (.Subscript (.Name id p) i pos) (fun ρ=>(g ρ).bind (tabS T)):=fun A env out hid m B s ρ z E rm S hf=>by
 refine ah hf fun y hy gg=>?_
 clear hf;rename _=>hf
 refine ah hf fun l hl hf=>bV hf fun k hk e=>?_
 cases V.kP hl;subst e;refine sq ?_ (fun u v=>⟨_,hs u v⟩);refine bH S hx hv hd ?_;refine au (hi A env out hid m B s ρ _ E rm S hy) (fun v s₂ aH=>?_) fun ø ø q=>q
 obtain⟨t,rfl⟩:=aH.2.str_inv;obtain⟨f,hm,hf⟩:=hG _ (S.after aH.1).G;obtain⟨t',e⟩:=hf l k hk;exact⟨"dict","dict.__getitem__",slot_dict_getitem.lookup,hm.typeIs,wpAny_getItem_of (strKind_is P.prog P.w (pyStr l) t) hm e ⟨aH.1.trans (Kp.toks s₂ _),.ofInt _ _⟩⟩
end
section
section
variable{prog:Program}{w:World}{A:Around}{E:Value->Shared->Prop}{s:Shared}{KK:Type}[DecidableEq KK]{knd:KeyKind prog w KK}
theorem zl{d:Addr}{jJ:List (KK×Value)}{ep:Nat}{Q:List Value->Shared->Prop}(hh:A.handled=none)(hd:(d==sysModules)=false)(hm:s.heap.DictAt knd d jJ ep)(hn:jJ.length<=sizeLine)
  (hQ:∀s' acc,Kp s s'->ItemsOf (fun i v=>∃k x,jJ[i]?=some (k,x)/\knd.is k v=true) acc jJ.length->Q acc.toList s'):wpAny (model prog w) A (collect (.ref d)) Q E s:=by
 have hT:s.TypeIs (.ref d) "dict":=hm.dictOf.typeIs;obtain⟨od,W6,hcd⟩:=id hT;have Q9:s.heap.objs.size≠d:=fun e=>by rw[<-e,aP]at W6;cases W6
 unfold collect;refine ar (wpAny_runValue (nk F.entry_proto_collect ?_));rw[pS F.plain_proto_collect _];show wpAny _ A.in1 (newList []>>= fun l=>again (.builtin "list.__iadd__" ⟨[l,.ref d],[]⟩)) _ _ s;refine ar (pM ?_);refine bd ⟨rR yR _,nk F.entry_list_iadd ?_⟩;rw[pS yR _]
 let s₁:Shared:={s with heap:=s.heap.push {cls:=.type "list",data:=.seq ([]:List Value).toArray} }
 have JA:s₁.heap.DictAt knd d jJ ep:=hm.at' fun o e=>bK _ e
 have FL:s₁.TypeIs (.ref d) "dict":=JA.dictOf.typeIs;have Bt:s₁.heap.get? s.heap.objs.size=some {cls:=.type "list",data:=.seq ([]:List Value).toArray}:=bD _ rfl;have h1:Builtin.List.listSameRef (.ref s.heap.objs.size) (.ref d)=false:=by simp[Builtin.List.listSameRef,Q9]
 show wpAny _ A.in1 (Builtin.List.listExtendWith (.ref s.heap.objs.size) (.ref d) (.ref s.heap.objs.size)) _ _ s₁;unfold Builtin.List.listExtendWith;refine ar (wpAny_typeOf FL ?_);have h2:(Value.type "dict"==Value.type "list")=false:=by decide
 have h3:(Value.type "dict"==Value.type "tuple")=false:=by decide
 rw[az (by rw[h1,h2,h3];decide)];refine ar (wpAny_pyIter_dict hd JA ?_)
 let s₂:Shared:={s₁ with heap:=s₁.heap.push {cls:=.type "dict_keyiterator",data:=.fields #[.ref d,.int 0 0,.int jJ.length 0,.int ep 0]} }
 have PB:s₂.heap.DictAt knd d jJ ep:=JA.at' fun o e=>bK _ e
 have vC:s₂.TypeIs (.ref d) "dict":=PB.dictOf.typeIs;have x4:s₂.heap.get? s.heap.objs.size=some {cls:=.type "list",data:=.seq ([]:List Value).toArray}:=bK _ Bt;have Bu:s₂.heap.get? s₁.heap.objs.size=some {cls:=.type "dict_keyiterator",data:=.fields #[.ref d,.int 0 0,.int jJ.length 0,.int ep 0]}:=bD _ rfl;show wpAny _ A.in1 _ _ _ s₂;refine ar (gB ?_);unfold Builtin.List.listLengthHint;refine ar (yO vC PySem.F.slot_dict_len.lookup ?_)
 (generalize hid:("dict.__len__":String)=Uv;(fail_if_success (clear hid Uv));wp_delta;rw[show splitId Uv=some ("dict","__len__")from by subst hid;decide+kernel];subst hid)
 refine ar (u3 (b:=true) vC (by rw[yS];kernel_rfl) ?_);refine ar (wpAny_typeOf vC ?_);refine bd ?_;show wpAny _ A.in1 (rule "list.extend.makes-room">>= fun ø=>Builtin.List.listTouch (.ref s.heap.objs.size)>>= fun ø=>
  again (.builtin "list.extend.loop" ⟨[.ref s.heap.objs.size,.ref s₁.heap.objs.size,.ref s.heap.objs.size],[]⟩)) _ _ s₂
 refine ar (rS ?_);refine ar ?_;show wpAny _ A.in1 (updateSeq s.heap.objs.size (·.push .none)>>= fun ø=>updateSeq s.heap.objs.size (·.pop)) _ _ s₂;refine ar (yT x4 rfl ?_);have Bv:=m8 (Obj.mapSeq (·.push Value.none)) x4 rfl;refine yT Bv rfl ?_;have JB:=m8 (Obj.mapSeq (·.pop)) Bv rfl;have PC:∀b o,b≠s.heap.objs.size->s₂.heap.get? b=some o->((s₂.heap.update s.heap.objs.size (Obj.mapSeq (·.push Value.none))).update s.heap.objs.size (Obj.mapSeq (·.pop))).get? b=some o:=
  fun b o hb e=>(yU _ _ (dW hb)).trans ((yU _ _ (dW hb)).trans e)
 have Ra:s₁.heap.objs.size≠s.heap.objs.size:=fun e=>by
  have:=aP s₁.heap;rw[e,Bt]at this;cases this
 have Y3:d≠s₁.heap.objs.size:=fun e=>by
  have:=aP s₁.heap;obtain⟨o,ho,_⟩:=FL;rw[<-e,ho]at this;cases this
 have W:=(Walks.dictKeys (prog:=prog) (w:=w) (knd:=knd) (A:=A.in1) hh s₁.heap.objs.size d Y3 jJ ep).toS;refine bd ⟨rR F.plain_extend_loop _,codeAny_extend_loopS W hn _ (by simp[dW Ra,Q9]) _ jJ.length 0 _ _ _ rfl (dU _)
  ⟨⟨_,PC _ _ Ra Bu,rfl,rfl⟩,PB.at' fun o e=>PC _ _ (dW Q9) e⟩ JB (ItemsOf.nil _) fun s' xz c' ND NE JC=>?_⟩
 show wpAny _ A (load s.heap.objs.size>>= _) _ _ s';refine ar (wpAny_load NE ?_);refine bd (hQ s' xz ⟨fun b o e=>?_,by rw[ND.gens];exact .refl _,ND.os⟩ JC);have PD:b≠s.heap.objs.size:=fun q=>by rw[q,aP]at e;cases e
 have JD:b≠s₁.heap.objs.size:=fun q=>by
  have:=aP s₁.heap;have z:s₁.heap.get? b=some o:=bK _ e;rw[<-q,z]at this;cases this
 exact ND.heap b o (by simp[PD,JD]) (PC b o PD (bK _ (bK _ e)))
theorem intsAre_of{l:List Value}:∀{ns:List Int},l.length=ns.length->(∀(i:Nat) v,l[i]?=some v->∃k t,ns[i]?=some k/\v= .int k t)->IntsAre l ns:=by
 induction l with
 |nil=>intro ns hl _;cases ns with
  |nil=>exact .nil
  |cons _ _=>simp at hl
 |cons v l ih=>intro ns hl h;cases ns with
  |nil=>simp at hl
  |cons k ns=>
   obtain⟨k',t,hk,rfl⟩:=h 0 v rfl;obtain rfl:k=k':=by simpa using hk
   exact .cons k t (ih (by simpa using hl) fun i u hu=>by simpa using h (i+1) u (by simpa using hu))
theorem uo{d:Addr}{jJ:List (Int×Value)}{b:Bool}{Q:Value->Shared->Prop}(hh:A.handled=none)(hd:(d==sysModules)=false)(hm:s.heap.DictOf (intKind prog w) d jJ)(Y4:jJ.length<64)
  (h:∀s' a (out:Array Value) (ns:List Int) e,Kp s s'->s.heap.get? a=none->s'.heap.get? a=some (seqObj "list" out e)->IntsAre out.toList ns->ns.Perm (jJ.map (·.1))->Ordered b ns->Q (.ref a) s'):
  wpAny (model prog w) A (call (.builtin "sorted") [.ref d] [(Str.ofString "reverse",.bool b)]) Q E s:=by
 obtain⟨ep,hm⟩:∃ep,s.heap.DictAt (intKind prog w) d jJ ep:=by
  obtain⟨o,es,ep,ho,r⟩:=hm;exact⟨ep,o,es,ho,r⟩
 refine call_function_entry_kw kind_sorted plain_sorted entry_sorted (args_sorted_rev _ _) ?_;unfold Builtin.«sorted»;refine ar (m:=checkCount "sorted" 1 1 _) (bd ?_);refine ar (zl hh hd hm (by rw[gQ];omega) fun s' acc kp hit=>?_);refine ar (wpAny_newList ?_ (hsz:=by rw[Array.length_toList,hit.1,gQ];omega));have Rb:(s'.heap.push (seqObj "list" acc.toList.toArray 0)).get? s'.heap.objs.size=some (seqObj "list" acc.toList.toArray 0):=bD _ rfl;have hI:IntsAre acc.toList (jJ.map (·.1)):=intsAre_of (by simp[hit.1]) fun i v hv=>by
  obtain⟨k,x,hk,hi⟩:=hit.2 i v (by simpa using hv);obtain⟨t,rfl⟩:=Value.isInt_shape hi;exact⟨k,t,by simp[hk],rfl⟩
 have eG:s.heap.get? s'.heap.objs.size=none:=by
  cases e:s.heap.get? s'.heap.objs.size with
  |none=>rfl
  |some o=>have:=kp.keep _ _ e;rw[aP]at this;cases this
 show wpAny _ _ _ _ _ {s' with heap:=s'.heap.push (seqObj "list" acc.toList.toArray 0)};refine ar (gB (wpAny_call_entry_kw slot_list_sort ⟨_,Rb,rfl⟩ entry_list_sort (list_sort_tree_rev Rb hI (by simp[hit.1];exact Y4) fun out ns' a1 a2 a3=>⟨_,rfl,?_⟩) (args_list_sort_rev _ _)));obtain⟨e,he⟩:=sortedHeap_at (vs:=acc.toList) (out:=out) Rb;refine bd ⟨_,rfl,h _ _ out ns' e (kp.trans ⟨fun c o hc=>?_,.refl _,rfl⟩) eG he a1 a2 a3⟩;have de:=f5 hc;show(sortedHeap (s'.heap.push (seqObj "list" acc.toList.toArray 0)) s'.heap.objs.size acc.toList out).get? c=some o;rw[sortedHeap_old (jU de) (by rw[size_push'];exact ni de)];exact bK _ hc
end
end
section
variable{P:Pk}{n:Nat}{K K':Cx}{lo:Bool}
theorem fT{es:List Expr}{pos:Pos}{f}(hs:lz P n K false es f)(hl:es.length<=100)(hlen:∀ρ x,f ρ=some x->x.length=es.length):MW P n K (.List es pos) (fun ρ=>(f ρ).map .list):=fun A env out hid m B s ρ x E rm S hf=>by
 refine bV hf ?_;clear hf;rintro y hy rfl;refine wpAny_List (au (hs A env out hid m B s ρ y E pos rm S hy) (fun vs s₁ ag=>⟨?_,ag.1.trans (Kp.push s₁ _ _),?_⟩) fun ø ø q=>q)
 ·rw[ag.2.length,hlen _ _ hy,gQ];omega
 ·have eG:s.heap.get? s₁.heap.objs.size=none:=by
   cases e:s.heap.get? s₁.heap.objs.size with
   |none=>rfl
   |some o=>have:=ag.1.keep _ _ e;rw[aP]at this;cases this
  exact⟨_,vs,rfl,eG,⟨0,bD _ rfl⟩,ag.2.grow (fun a o ø e=>bK _ e) fun a ha=>by
   rcases bp.mp ha with rfl|ha
   ·exact .inr (aP _)
   ·exact .inl ha⟩
theorem j1{pos:Pos}:MW P n K (.Dict [] [] pos) (fun ø=>some (.dict [] [])):=fun A env out hid m B s ρ x E rm S hf=>by
 cases hf;refine wpAny_Dict_empty ⟨Kp.push s _ s.toks,?_⟩;have bN:(s.heap.objs.size==sysModules)=false:=by
  obtain⟨mg,mb,h1,h2,_⟩:=P.aM S.G;rw[pd];intro e;have:=h1.lt;rw[e]at this;exact absurd this (by decide)
 exact⟨_,[],rfl,aP _,bN,rfl,Heap.DictOf.new _,aV.nil⟩
noncomputable def sy(x:V):Option V:=x.int?.map fun i=>.int (-i)
theorem dc{e:Expr}{pos:Pos}{f}(h:eM P n K lo e f):eM P n K lo (.UnaryOp .USub e pos) (fun ρ=>(f ρ).bind sy):=fun A env out hid m B s ρ x E rm S hf=>by
 refine ah hf fun y hy gg=>?_
 clear hf;rename _=>hf
 refine wpAny_UnaryOp (au (h A env out hid m B s ρ y E rm S hy) (fun v s₁ ag=>?_) fun ø ø q=>q);refine bV hf fun i hi e=>?_
 cases V.kO hi;subst e;obtain⟨t,rfl⟩:=ag.2.int_inv;exact PyProof.Rows.neg_int ⟨ag.1.trans (Kp.toks s₁ _),.ofInt _ _⟩
noncomputable def W7(P:Pk)(n:Nat)(K:Cx)(e:Expr)(f:al->Option V):Prop:=
 ∀(A:Around) (env:Env) (out hid:List Addr) (m:Str->Option Value) (B s:Shared) (ρ:al) (l:List V) (E:Value->Shared->Prop),bW n A->aB P K env out hid m B s ρ->f ρ=some (.list l)->
  wpAny (model P.prog P.w) A (eval e env) (fun v s'=>Kp s s'/\∃a vs,v= .ref a/\s'.heap.PlainList a vs.toArray/\aU P s'.heap hid l vs) E s
theorem vD{e f}(h:eM P n K false e f):W7 P n K e f:=fun A env out hid m B s ρ l E rm S hf=>
 au (h A env out hid m B s ρ _ E rm S hf) (fun v s' q=>⟨q.1,by
  obtain⟨p,vs,rfl,d1,d2,d3⟩:=q.2.em;exact⟨p,vs,rfl,d2,d3⟩⟩) fun ø ø q=>q
theorem Hn(i:Nat){x:Str}{k:NameKind}{pos:Pos}(hi:K.vars[i]?=some (x,k,true))(hd:(x==("__debug__":Str))=false)(hc:(x==("__classdict__":Str))=false):
  W7 P n K (.Name x pos) fun ρ=>ρ i:=fun A env out hid m B s ρ y E r S hf=>
 eV (S.load hi hf hd hc fun v hv ø=>⟨Kp.refl s,by
  rw[aw rfl]at hv;obtain⟨a,vs,rfl,h1,h2,h3,h4,h5⟩:=fc.em hv;exact⟨a,vs,rfl,h4,h5⟩⟩) hd
noncomputable def Rc:V->V->Option V:=r8 V.gE V.gE fun a b=>if a.length+b.length<=most then some (.list (a++b))else none
theorem FM(a b:List V):Rc (.list a) (.list b)=if a.length+b.length<=most then some (.list (a++b))else none:=rfl
theorem vF{l r:Expr}{pos:Pos}{f g}(hl:W7 P n K l f)(hr:W7 P n K r g):
  MW P n K (.BinOp l .Add r pos) (dA Rc f g):=fun A env out hid m B s ρ z E rm S hf=>by
 refine ah hf fun x hx gg=>?_
 clear hf;rename _=>hf
 refine ah hf fun y hy gg=>?_
 clear hf;rename _=>hf
 refine bI hf fun a b ha hb hf=>eN hf fun hc he=>?_
 cases V.fQ ha;cases V.fQ hb;subst he;refine wpAny_BinOp (au (hl A env out hid m B s ρ _ E rm S hx) (fun u s₁ ag=>?_) fun ø ø q=>q);refine au (hr A env out hid m B s₁ ρ _ E rm (S.after ag.1) hy) (fun v s₂ aH=>?_) fun ø ø q=>q
 obtain⟨k1,p,vs,rfl,⟨n₁,d2⟩,d3⟩:=ag;obtain⟨k2,p',gS,rfl,⟨Qy,d2'⟩,d3'⟩:=aH;have eG:s.heap.get? s₂.heap.objs.size=none:=by
  cases e:s.heap.get? s₂.heap.objs.size with
  |none=>rfl
  |some o=>have:=k2.keep _ _ (k1.keep _ _ e);rw[aP]at this;cases this
 replace d3:=aU.kp (P:=P) d3 k2;refine PySem.P.add_list (n:=n₁) (n2:=Qy) (k2.keep _ _ d2) d2' ⟨k1.trans (k2.trans (Kp.push s₂ _ s₂.toks)),?_⟩ (by rw[bM,bM,d3.length,d3'.length];exact aA hc cZ);rw[Dj];exact⟨_,vs++gS,rfl,eG,⟨0,bD _ rfl⟩,aU.grow (P:=P) (d3.app d3') (fun a o ø e=>bK _ e) fun a ha=>by
  rcases bp.mp ha with rfl|ha
  ·exact .inr (aP _)
  ·exact .inl ha⟩
end
section
variable{P:Pk}{n:Nat}{K K':Cx}{lo:Bool}
theorem oD{t e:Expr}{pos:Pos}{a f}(ha:zd P K false t a)(h:eM P n K false e f)(hs:∀env,swapsWithSole [t] e pos.line env=pure false)(hw:∀env,swappedStores [t] e env=pure none)
  (he:∀env,(assignEach [t] env).map (·.2)=[assign t env]):uk P n K (.Assign [t] e pos) fun ρ=>(f ρ).bind fun y=>(a ρ y).map fun aY=>(aY,.next):=fun A env out hid m B s ρ aY fl E r S hf=>by
 refine ah hf fun y hy e'=>?_
 refine bV e' ?_;rintro am Nu e';cases e';refine wpAny_Assign_stores (au (h A env out hid m B s ρ y E r S hy) (fun v s₁ ag=>?_) fun ø ø x=>x) (hs env) (hw env);rw[he];refine au (ha A env out hid m B s₁ ρ _ y v E r.handled (S.after ag.1) Nu ag.2) (fun ø s₂ q=>?_) fun ø ø x=>x
 obtain⟨ao,m',S',K',_⟩:=q;exact⟨ao,m',S',(Ks.gT ag.1).trans K',rfl⟩
theorem Ee(i j k:Nat){x y z:Str}{kx ky kz:NameKind}{p1 p2 p3 pos:Pos}{e:Expr}{c:Int}(hi:K.vars[i]?=some (x,kx,false))(hj:K.vars[j]?=some (y,ky,false))(hk:K.vars[k]?=some (z,kz,false))
  (fx:kx≠ .free) (fy:ky≠ .free) (fz:kz≠ .free) (h:eM P n K false e fun ø=>some (.int c)) (hw:∀env,swappedStores [.Name x p1,.Name y p2,.Name z p3] e env=pure none)
  (he:∀env,(assignEach [.Name x p1,.Name y p2,.Name z p3] env).map (·.2)=[assign (.Name x p1) env,assign (.Name y p2) env,assign (.Name z p3) env]):
  uk P n K (.Assign [.Name x p1,.Name y p2,.Name z p3] e pos) fun ρ=>some (upd (upd (upd ρ i (.int c)) j (.int c)) k (.int c),.next):=fun A env out hid m B s ρ aY fl E r S hf=>by
 cases hf;refine wpAny_Assign_three (au (h A env out hid m B s ρ _ E r S rfl) (fun v s₁ ag=>?_) fun ø ø x=>x) (he env) (hw env);obtain⟨t,rfl⟩:=ag.2.int_inv;refine na ((S.after ag.1).store hi (y:=.int c) (show Dn P s₁.heap hid (.int c) (.int c t)from .ofInt c t) (fun q=>by cases q) fx fun m₁ s₂ cC p7 ø=>?_);refine na (cC.store hj (y:=.int c) (show Dn P s₂.heap hid (.int c) (.int c t)from .ofInt c t) (fun q=>by cases q) fy fun m₂ cB kT Bw ø=>?_);exact na (kT.store hk (y:=.int c) (show Dn P cB.heap hid (.int c) (.int c t)from .ofInt c t) (fun q=>by cases q) fz fun Bx gP jM mL ø=>⟨hid,Bx,jM,(Ks.gT ag.1).trans (p7.trans (Bw.trans mL)),rfl⟩)
end
section
section
variable{prog:Program}{w:World}{A:Around}{E:Value->Shared->Prop}{s:Shared}
theorem x5{it t:Addr}{items:Array Value}(bN:t≠it):∀(n i:Nat) (s:Shared) (Q:List Value->Shared->Prop),s.heap.IsListIter it t i->s.heap.IsList t items->i+n<=items.size->
  (∀h',h'.IsListIter it t (i+n)->Heap.SameBut it s.heap h'->Q ((items.toList.drop i).take n) {s with heap:=h'})->wpAny (model prog w) A (draw (.ref it) n) Q E s
 |0,i,s,Q,hit,_,_,hQ=>by
  show wpAny _ _ (pure []) Q E s;exact bd (by simpa using hQ s.heap hit (Heap.SameBut.refl ..))
 |n+1,i,s,Q,hit,ht,hle,hQ=>by
  have de:i<items.size:=by omega
  show wpAny _ _ (pyNext (.ref it)>>= _) Q E s;refine ar (wpAny_pyNext_list_item hit ht (x:=items[i]) (by simp[de]) fun ag Ef jY=>?_);refine ar (gB (x5 bN n (i+1) _ _ Ef (ht.extBut jY.extBut bN) (by omega) fun aH Rd FN=>bd ?_));have hd:items.toList.drop i=items[i]::items.toList.drop (i+1):=by simp[pf,de]
  have:=hQ aH (by rw[show i+(n+1)=i+1+n by omega];exact Rd) (jY.trans FN);rw[hd,Do]at this;exact this
theorem sA{t:Addr}{items:Array Value}{Q:List Value->Shared->Prop}(hh:A.handled=none)(ht:s.heap.IsList t items)
  (hQ:∀h',Heap.ExtBut s.heap.objs.size s.heap h'->Q items.toList {s with heap:=h'}):wpAny (model prog w) A (unpackItems (.ref t) items.size none) Q E s:=by
 have de:t≠s.heap.objs.size:=by obtain⟨o,ho,_⟩:=ht;exact jU (f5 ho)
 unfold unpackItems;refine ar ?_
 ·unfold notIterableAtAll
  refine ar (yO ht.typeIs slot_list_iter.lookup ?_);refine bd ?_;simp only[gz,eW];refine ar (gB (yL ht ?_));refine ar (gB (x5 de items.size 0 _ _ ⟨_,bD _ rfl,rfl,rfl⟩ (ht.push _) (by omega) fun ag Ef jY=>?_));have r5:List.take items.size (List.drop 0 items.toList)=items.toList:=by
   rw[List.drop_zero];exact rO (by simp)
  rw[r5];rw[az (by simp)];have Uw:ag.IsList t items:=(ht.push _).extBut jY.extBut de;refine ar (gB (wpAny_pyNext_list_end hh Ef Uw (by simp) fun aH Ux=>?_));simp only[Option.isSome_none,gz,eW];refine bd (hQ aH fun b o hb e=>Ux b o hb (jY.extBut b o hb (bK _ e)))
theorem By{t:Addr}{items:Array Value}{targets:List (Bool×(Value->Sem Unit))}{Q:Unit->Shared->Prop}(hh:A.handled=none)(ht:s.heap.IsList t items)
  (hn:targets.length=items.size) (Uy:targets.findIdx? (·.1)=none)
  (h:∀h',Heap.ExtBut s.heap.objs.size s.heap h'->wpAny (model prog w) A (assignInOrder (targets.map (·.2)) items.toList) Q E {s with heap:=h'}):
  wpAny (model prog w) A (unpack (.ref t) targets) Q E s:=by
 unfold unpack;rw[hn,Uy];exact ar (gB (sA hh ht h))
end
variable{P:Pk}{n:Nat}{K K':Cx}{lo:Bool}
noncomputable def JE(b:al->List V->Option al):al->V->Option al:=fun ρ x=>match x with
 | .list l=>b ρ l
 |_=>none
set_option tactic.hygienic true in
theorem Ho{lc:Bool}{ts:List Expr}{k:Nat}{p:Pos}{b}(h:I7 P K lc ts b)(hl:∀ρ xs aY,b ρ xs=some aY->xs.length=ts.length)(he:∀env,assignEach ts env=ts.map fun t=>(false,assign t env)):zd P K lc (.Tuple ts k p) (JE b):=
 fun A env out hid m B s ρ aY x v E hh S hf hv=>by
 cases x<;>simp only[JE]at hf<;>try cases hf
 rename_i l;obtain⟨a,vs,rfl,ha,ht,hd⟩:=hv.em;rw[arm_assign_Tuple];refine ar (qE (By hh ht.isList ?_ ?_ fun h' hx=>?_))
 ·rw[he,bi,bM,hd.length,hl _ _ _ hf]
 ·rw[he]
  rw[Dq];intro q hq;obtain⟨t,_,rfl⟩:=bP.mp hq;rfl
 ·have e:(assignEach ts env).map (·.2)=ts.map fun t=>assign t env:=by rw[he];simp
  rw[e];have k1:Kp s {s with heap:=h'}:=.heap fun b o q=>hx b o (fun z=>by rw[z,aP]at q;cases q) q
  refine au (h A env out hid m B {s with heap:=h'} ρ aY l vs E hh (S.after k1) hf (hd.kp k1)) (fun ø s₂ q=>q.pre (Ks.gT k1) fun ø b o ø q=>k1.keep b o q) fun ø ø q=>q
end
section
variable{P:Pk}{n:Nat}{K K':Cx}{lo:Bool}
noncomputable def cW(ks:List Int)(vs:List V):List Int->List V->List Int×List V
 |k::jO,v::gS=>cW (cI ks k) (eP ks vs k v) jO gS
 |_,_=>(ks,vs)
theorem fm(ks:List Int)(vs:List V)(k:Int)(jO:List Int)(v:V)(gS:List V):cW ks vs (k::jO) (v::gS)=cW (cI ks k) (eP ks vs k v) jO gS:=rfl
theorem fo(ks:List Int)(vs l:List V):cW ks vs [] l=(ks,vs):=rfl
theorem fq(ks:List Int)(vs:List V)(k:Int)(l:List Int):cW ks vs (k::l) []=(ks,vs):=rfl
theorem qX{h:Heap}{hid:List Addr}:∀(jO:List Int) (Dg:List V) (DW:List Value) (ks:List Int) (xs:List V) (ws:List Value),ws.length=ks.length->aU P h hid xs ws->DW.length=jO.length->aU P h hid Dg DW->
  ∃us,merged (ks.zip ws) (jO.zip DW)=(cW ks xs jO Dg).1.zip us/\us.length=(cW ks xs jO Dg).1.length/\aU P h hid (cW ks xs jO Dg).2 us
 |[],Dg,DW,ks,xs,ws,hl,hd,jK,iY=>⟨ws,by simp[merged,fm,fo,fq],by simp[fm,fo,fq,hl],by simpa[fm,fo,fq]using hd⟩
 |k::jO,[],DW,ks,xs,ws,hl,hd,jK,iY=>by
  obtain rfl:=aU.nil_inv iY;simp at jK
 |k::jO,x::Dg,DW,ks,xs,ws,hl,hd,jK,iY=>by
  obtain⟨w,r,rfl,h1,h2⟩:=aU.cons_inv iY;obtain⟨us,e1,e2,e3⟩:=tK (P:=P) (q:=k) h1 hl hd;obtain⟨us',f1,f2,f3⟩:=qX jO Dg r (cI ks k) (eP ks xs k x) us e2 e3 (by simpa using jK) h2;refine⟨us',?_,by simpa[fm,fo,fq]using f2,by simpa[fm,fo,fq]using f3⟩;rw[nc];show merged (stored (ks.zip ws) k w) (jO.zip r)=_;rw[e1,f1];rfl
noncomputable def NF(y:V)(xs:List V):Option (V×V):=y.AY.bind fun d=>(V.one? xs).bind fun x=>x.AY.bind fun e=>
 if d.1.length+e.1.length<=most then some (.dict (cW d.1 d.2 e.1 e.2).1 (cW d.1 d.2 e.1 e.2).2,.none)else none
theorem Re(ks:List Int)(vs:List V)(jO:List Int)(gS:List V):NF (.dict ks vs) [.dict jO gS]=if ks.length+jO.length<=most then some (.dict (cW ks vs jO gS).1 (cW ks vs jO gS).2,.none)else none:=rfl
theorem Uz:G9 P "update" NF:=fun s L out hid y v xs y' r hb hF=>ah hF fun d hd hF=>ah hF fun x IS hF=>ah hF fun e he hF=>eN hF fun hc eq=>by
 cases V.oC hd;cases V.gF IS;cases V.oC he;obtain⟨rfl,rfl⟩:=jQ eq;clear hF hd IS he;obtain⟨a,ws,rfl,b1,b2,b3,b4,b5,b6,b7⟩:=fc.fe hb;refine⟨"dict","dict.update",yQ,PySem.F.slot_dict_update,PySem.F.type_dict_update,b6.typeIs,fun c e=>by cases e;exact b6.mapOf.noDict _ rfl,fun A s₁ us E rm G live hb hx=>hx.one_k fun u hu=>?_⟩;clear hx b1 b2 b3 b4 b5 b6 b7;obtain⟨a',ws₁,e,c1,c2,c3,c4,c5,c6,c7⟩:=fc.fe hb;cases e;obtain⟨d,DW,rfl,d1,d2,d3,d4,d5⟩:=hu.fe;have bN:a≠d:=fun e=>d1 (e▸c1)
 refine u2 PySem.F.slot_dict_update c6.typeIs PySem.F.entry_dict_update (PySem.F.args_dict_update_2 _ _) (meets_dict_update (intKind P.prog P.w) a d bN d3) ⟨_,_,c6,d4,?_,fun h' iY JF hs=>?_⟩
 ·rw[uZ,uZ,c5,d2,u0,u0];exact aA hc cZ
 ·obtain⟨us,e1,e2,e3⟩:=qX (P:=P) _ _ DW _ _ ws₁ c5 c7 d2 d5
  rw[e1]at iY;refine⟨fun b e c o bN z=>by cases e;exact(hs.2 c bN).trans z,.refl _,rfl,?_,.r9⟩;exact⟨a,us,rfl,c1,c2,c3,c4,e2,iY,aU.but e3 c1 hs⟩
end
section
variable{P:Pk}{n:Nat}{K K':Cx}{lo:Bool}
noncomputable def j2(ks:List Int):List Int:=ks.mergeSort fun a b=>decide (b<=a)
noncomputable def Rf(x:V):Option V:=x.AY.bind fun p=>if p.1.length<64 then some (.list ((j2 p.1).map .int))else none
theorem Rg(ks:List Int)(vs:List V):Rf (.dict ks vs)=if ks.length<64 then some (.list ((j2 ks).map .int))else none:=rfl
theorem vG{ks ns:List Int}(hp:ns.Perm ks)(ho:Ordered true ns):ns=j2 ks:=by
 have h1:ns.Pairwise (fun a b=>b<=a):=by
  have:Ordered true ns=ns.Pairwise (· >= ·):=rfl;rw[this]at ho;exact ho
 have h2:(j2 ks).Pairwise (fun a b=>b<=a):=by
  have:=List.pairwise_mergeSort (le:=fun a b:Int=>decide (b<=a)) (fun a b c x y=>by simp at x y ⊢;omega) (fun a b=>by simp;omega) ks;exact this.imp fun h=>by simpa using h
 exact List.Perm.eq_of_pairwise (le:=fun a b:Int=>b<=a) (fun a b ø ø x y=>by omega) h1 h2 (hp.trans (u4 ks _).symm)
set_option tactic.hygienic true in
theorem uq{p pos kp pp:Pos}{kk:Nat}{e:Expr}{f}(hx:K.aM.contains "sorted"=true)(hv:P.glob "sorted"=some (.builtin "sorted"))(h:eM P n K true e f)
  (eF:∀env,starEach [e] env=[(false,eval e env)]):
  MW P n K (.Call (.Name "sorted" p) [e] [⟨some "reverse",.Constant (.bool true) kk pp,kp⟩] pos) (fun ρ=>(f ρ).bind Rf):=fun A env out hid m B s ρ x E rm S hf=>by
 refine ah hf fun y hy gg=>?_
 clear hf;rename _=>hf
 refine ah hf fun p hp hf=>eN hf fun hlen e=>?_
 cases V.oC hp;obtain⟨ks,vs⟩:=p;subst e;refine kH (bH S hx hv (by decide) ?_);refine callWith_kw (jS (au (h A env out hid m B s ρ _ E rm S hy) (fun u s₁ ag=>jR ?_) fun ø ø q=>q) (eF env)) (by rw[eF];rfl) (by rw[eF];rfl);refine kws_cons (uQ (kws_nil ?_));obtain⟨d,ws,rfl,d1,d2,d3,d4,d5⟩:=ag.2.fe;have hz:(ks.zip ws).map (·.1)=ks:=by rw[List.map_fst_zip (by omega)]
 refine uo (b:=true) rm.handled d3 d4 (by rw[uZ,d2,u0];exact hlen) fun s' a out ns e kp hn ho hI hp JG=>?_
 rw[hz]at hp;obtain rfl:=vG hp JG;refine⟨ag.1.trans kp,?_⟩;have W8:s.heap.get? a=none:=by
  cases q:s.heap.get? a with
  |none=>rfl
  |some o=>have:=ag.1.keep _ _ q;rw[hn]at this;cases this
 have key:∀{vs:List Value} {ns:List Int} {h:Heap} {hid:List Addr},IntsAre vs ns->aU P h hid (ns.map .int) vs:=by
  intro vs ns h hid hI
  induction hI with
  |nil=>exact aV.nil
  |cons k t _ ih=>exact .cons (Dn.ofInt (P:=P) k t) ih
 exact⟨a,out.toList,rfl,W8,⟨e,by simpa[seqObj]using ho⟩,key hI⟩
end
theorem intLit(n:Nat):Int.ofNat (no_index (@OfNat.ofNat Nat n (instOfNatNat n)))= @OfNat.ofNat Int n instOfNat:=rfl
noncomputable def Y5:Stmt:=(PySem.Challenge.pw_sl0032_01.main.body[8]?).getD (.Pass default)
noncomputable def PE(S:Stmt):Program:={PySem.Challenge.pw_sl0032_01 with main:={PySem.Challenge.pw_sl0032_01.main with body:=PySem.Challenge.pw_sl0032_01.main.body.set 8 S} }
noncomputable def pqT:{q:Program//True}:=by
 refine⟨?q,(?f:(fun S:Stmt=>PE S) Y5=?q->True) ?p⟩
 case p=>conv=>lhs;arg 0;unfold PE PySem.Challenge.pw_sl0032_01;reduce;dsimp only[intLit]
 case f=>exact fun ø=>trivial
noncomputable abbrev pq:Program:=pqT.1
theorem UA:PySem.Challenge.pw_sl0032_01=pq:=by kernel_rfl!
noncomputable def aJ(b:List Stmt)(i:Nat):Stmt:=match b[i]? with
 |some s=>s
 |none=>.Pass default
noncomputable def p8{α:Type}(d:α)(fD:Arguments->List Stmt->Scope->α)(fC:List Stmt->α)(fA:List Expr->Expr->Pos->α)(fF:Expr->Expr->List Stmt->α)(fI:Expr->List Stmt->List Stmt->α)(s:Stmt):α:=
 @Stmt.casesOn (fun ø=>α) s (fun ø a b ø ø ø s ø ø ø=>fD a b s) (fun ø ø ø ø ø ø ø ø ø ø=>d) (fun ø ø ø b ø ø ø ø ø ø ø=>fC b) (fun ø ø=>d) (fun ø ø=>d) (fun t v p=>fA t v p) (fun ø ø ø ø ø ø ø=>d) (fun ø ø ø ø=>d) (fun ø ø ø ø ø=>d) (fun t i b ø ø=>fF t i b) (fun ø ø ø ø ø=>d) (fun ø ø ø ø=>d) (fun t b e ø=>fI t b e) (fun ø ø ø=>d) (fun ø ø ø=>d) (fun ø ø ø=>d) (fun ø ø ø=>d) (fun ø ø ø ø ø=>d) (fun ø ø ø ø ø=>d) (fun ø ø ø=>d) (fun ø ø=>d) (fun ø ø ø ø=>d) (fun ø ø=>d) (fun ø ø=>d) (fun ø ø=>d) (fun ø=>d) (fun ø=>d) (fun ø=>d)
noncomputable def JH{α:Type}(d:α)(fK:List (Option Expr)->List Expr->Pos->α)(fN:Int->Nat->Pos->α)(fS:Str->Nat->Pos->α)(e:Expr):α:=
 @Expr.casesOn (fun ø=>α) e (fun ø ø ø=>d) (fun ø ø ø=>d) (fun ø ø ø ø=>d) (fun ø ø ø=>d) (fun ø ø ø ø=>d) (fun ø ø ø ø=>d) (fun k v p=>fK k v p) (fun ø ø ø=>d) (fun ø ø ø ø=>d) (fun ø ø ø ø=>d) (fun ø ø ø ø ø=>d) (fun ø ø ø ø=>d) (fun ø ø=>d) (fun ø ø=>d) (fun ø ø=>d) (fun ø ø ø ø=>d) (fun ø ø ø ø=>d) (fun ø ø ø ø=>d) (fun ø ø=>d) (fun c n p=> @Const.casesOn (fun ø=>α) c d (fun ø=>d) (fun i=>fN i n p) (fun ø=>d) (fun ø ø=>d) (fun x=>fS x n p) (fun ø=>d) d) (fun ø ø ø=>d) (fun ø ø ø=>d) (fun ø ø=>d) (fun ø ø=>d) (fun ø ø=>d) (fun ø ø ø=>d) (fun ø ø ø ø=>d)
noncomputable def dz:Stmt->List Stmt:=p8 [] (fun ø b ø=>b) (fun ø=>[]) (fun ø ø ø=>[]) (fun ø ø ø=>[]) (fun ø ø ø=>[])
noncomputable def UB:Stmt->Arguments:=p8 default (fun a ø ø=>a) (fun ø=>default) (fun ø ø ø=>default) (fun ø ø ø=>default) (fun ø ø ø=>default)
noncomputable def kh:Stmt->Scope:=p8 default (fun ø ø s=>s) (fun ø=>default) (fun ø ø ø=>default) (fun ø ø ø=>default) (fun ø ø ø=>default)
noncomputable def e6:Stmt->List Stmt:=p8 [] (fun ø ø ø=>[]) (fun b=>b) (fun ø ø ø=>[]) (fun ø ø ø=>[]) (fun ø ø ø=>[])
noncomputable def seg(i n:Nat):List Stmt:=(pq.main.body.drop i).take n
noncomputable def E:Env:={scope:=pq.main.scope,locals:=mainNs,globals:=mainNs,cells:=[],code:=.ref 13,frame:=some 14}
noncomputable abbrev cE:Code:=.body (behindTheImports pq) E
noncomputable abbrev SS(T:Params->BT)(n k:Nat)(w:World)(os:OsState):SharedT:=⟨T w.params,n,{},#[],{},k,os⟩
noncomputable abbrev fp:Pos:=⟨0,0,0,0⟩
noncomputable def dE(P:Params)(x:Str)(n:Nat)(v:Value):DictEntry:=⟨PySem.PyData.keyHash P x,.str x n,v⟩
noncomputable def mO(c:Value)(d:Data):Obj:={cls:=c,dict:=none,data:=d,slots:= #[]}
noncomputable def fD(a b:Str)(s:Stmt)(g:Addr)(m c:Value):Data:=.func {name:=a,qualname:=b,params:=UB s,body:=.stmts (dz s),scope:=kh s,globals:=g,closure:=[],defaults:=.none,kwdefaults:=.none,doc:=.none,pyModule:=m,annotations:=none,code:=c,closureTuple:=.none,builtins:=0}
noncomputable def lf(o:Obj):BT:=.node o .nil .nil
noncomputable def iv(n:Int):Value:=.int n 0
noncomputable def cO(a:Str)(t:Nat)(b:Str)(t2:Nat)(c:Str)(t3:Nat)(l m n o f:Int)(r:Addr)(k:Bool)(q:Int)(r2:Addr)(v w x:Value)(i j:Int)(d:Str)(t4:Nat):Obj:=mO (.type "code") (.fields #[.str a t,.str b t2,.str c t3,iv l,iv m,iv n,iv o,iv f,.ref r,.bool k,iv q,.ref r2,.none,v,w,x,iv i,iv j,.str d t4])
noncomputable def d0(P:Params):DictEntry:=dE P s0 165 (.str s1 228)
noncomputable def d1(P:Params):DictEntry:=dE P s2 166 .none
noncomputable def d2(P:Params):DictEntry:=dE P ⟨#[95,95,112,97,99,107,97,103,101,95,95]⟩ 167 .none
noncomputable def d3(P:Params):DictEntry:=dE P ⟨#[95,95,108,111,97,100,101,114,95,95]⟩ 168 (.builtin "__main__.__loader__#opaque")
noncomputable def d4(P:Params):DictEntry:=dE P ⟨#[95,95,115,112,101,99,95,95]⟩ 169 .none
noncomputable def d5(P:Params):DictEntry:=dE P ⟨#[95,95,97,110,110,111,116,97,116,105,111,110,115,95,95]⟩ 170 (.ref 6)
noncomputable def d6(P:Params):DictEntry:=dE P ⟨#[95,95,98,117,105,108,116,105,110,115,95,95]⟩ 171 (.ref 4)
noncomputable def d7(P:Params):DictEntry:=dE P ⟨#[95,95,102,105,108,101,95,95]⟩ 173 (.str s3 172)
noncomputable def d8(P:Params):DictEntry:=dE P ⟨#[95,95,99,97,99,104,101,100,95,95]⟩ 174 .none
noncomputable def d9(P:Params):DictEntry:=dE P s4 193 (.ref 21)
noncomputable def NG(P:Params):DictEntry:=dE P s5 205 (.ref 28)
noncomputable def NH(P:Params):DictEntry:=dE P s6 217 (.ref 35)
noncomputable def NI(P:Params):DictEntry:=dE P s7 227 (.ref 42)
noncomputable def PF(P:Params):DictEntry:=dE P s8 289 (.ref 50)
noncomputable def Rh(P:Params):DictEntry:=dE P s9 296 (.ref 60)
noncomputable def TJ(P:Params):DictEntry:=dE P WJ 2247 (.ref 61)
noncomputable def W9(P:Params):DictEntry:=dE P s0 165 (.str IK 2256)
noncomputable def UC(P:Params):DictEntry:=dE P MQ 2255 (.ref 106)
noncomputable def UD(P:Params):DictEntry:=dE P DQ 2358 (.ref 168)
noncomputable def d19(P:Params):DictEntry:=dE P ⟨#[95,95,109,111,100,117,108,101,95,95]⟩ 2265 (.str IK 2256)
noncomputable def d20(P:Params):DictEntry:=dE P ⟨#[95,95,102,105,114,115,116,108,105,110,101,110,111,95,95]⟩ 2269 (.int (58) 2268)
noncomputable def d21(P:Params):DictEntry:=dE P TX 2273 (.str ⟨#[32]⟩ 2271)
noncomputable def d22(P:Params):DictEntry:=dE P TY 2274 (.str ⟨#[9]⟩ 2272)
noncomputable def d23(P:Params):DictEntry:=dE P WK 2289 (.ref 123)
noncomputable def d24(P:Params):DictEntry:=dE P Pg 2298 (.ref 130)
noncomputable def d25(P:Params):DictEntry:=dE P MR 2310 (.ref 137)
noncomputable def d26(P:Params):DictEntry:=dE P Ph 2318 (.ref 144)
noncomputable def d27(P:Params):DictEntry:=dE P Pi 2329 (.ref 151)
noncomputable def d28(P:Params):DictEntry:=dE P WL 2337 (.ref 158)
noncomputable def d29(P:Params):DictEntry:=dE P WM 2345 (.ref 165)
noncomputable def d30(P:Params):DictEntry:=dE P ⟨#[95,95,115,116,97,116,105,99,95,97,116,116,114,105,98,117,116,101,115,95,95]⟩ 2351 (.ref 166)
noncomputable def Xa(P:Params):DictEntry:=dE P ⟨#[76,80,65,82]⟩ 2360 (.int (7) 2359)
noncomputable def Xb(P:Params):DictEntry:=dE P ⟨#[82,80,65,82]⟩ 2362 (.int (8) 2361)
noncomputable def Xc(P:Params):DictEntry:=dE P ⟨#[76,83,81,66]⟩ 2364 (.int (9) 2363)
noncomputable def Xd(P:Params):DictEntry:=dE P ⟨#[82,83,81,66]⟩ 2366 (.int (10) 2365)
noncomputable def Xe(P:Params):DictEntry:=dE P ⟨#[67,79,76,79,78]⟩ 2368 (.int (11) 2367)
noncomputable def Xf(P:Params):DictEntry:=dE P ⟨#[67,79,77,77,65]⟩ 2370 (.int (12) 2369)
noncomputable def Xg(P:Params):DictEntry:=dE P ⟨#[83,69,77,73]⟩ 2372 (.int (13) 2371)
noncomputable def Xh(P:Params):DictEntry:=dE P ⟨#[80,76,85,83]⟩ 2374 (.int (14) 2373)
noncomputable def Xi(P:Params):DictEntry:=dE P ⟨#[77,73,78,85,83]⟩ 2376 (.int (15) 2375)
noncomputable def Xj(P:Params):DictEntry:=dE P ⟨#[83,84,65,82]⟩ 2378 (.int (16) 2377)
noncomputable def Xk(P:Params):DictEntry:=dE P ⟨#[83,76,65,83,72]⟩ 2380 (.int (17) 2379)
noncomputable def Xl(P:Params):DictEntry:=dE P ⟨#[86,66,65,82]⟩ 2382 (.int (18) 2381)
noncomputable def Xm(P:Params):DictEntry:=dE P ⟨#[65,77,80,69,82]⟩ 2384 (.int (19) 2383)
noncomputable def Xn(P:Params):DictEntry:=dE P ⟨#[76,69,83,83]⟩ 2386 (.int (20) 2385)
noncomputable def Xo(P:Params):DictEntry:=dE P ⟨#[71,82,69,65,84,69,82]⟩ 2388 (.int (21) 2387)
noncomputable def Xp(P:Params):DictEntry:=dE P ⟨#[69,81,85,65,76]⟩ 2390 (.int (22) 2389)
noncomputable def Xq(P:Params):DictEntry:=dE P ⟨#[68,79,84]⟩ 2392 (.int (23) 2391)
noncomputable def Xr(P:Params):DictEntry:=dE P ⟨#[80,69,82,67,69,78,84]⟩ 2394 (.int (24) 2393)
noncomputable def Xs(P:Params):DictEntry:=dE P ⟨#[76,66,82,65,67,69]⟩ 2396 (.int (25) 2395)
noncomputable def Xu(P:Params):DictEntry:=dE P ⟨#[82,66,82,65,67,69]⟩ 2398 (.int (26) 2397)
noncomputable def Xv(P:Params):DictEntry:=dE P ⟨#[69,81,69,81,85,65,76]⟩ 2400 (.int (27) 2399)
noncomputable def Xw(P:Params):DictEntry:=dE P ⟨#[78,79,84,69,81,85,65,76]⟩ 2402 (.int (28) 2401)
noncomputable def Xx(P:Params):DictEntry:=dE P ⟨#[76,69,83,83,69,81,85,65,76]⟩ 2404 (.int (29) 2403)
noncomputable def Xy(P:Params):DictEntry:=dE P ⟨#[71,82,69,65,84,69,82,69,81,85,65,76]⟩ 2406 (.int (30) 2405)
noncomputable def Y6(P:Params):DictEntry:=dE P ⟨#[84,73,76,68,69]⟩ 2408 (.int (31) 2407)
noncomputable def Y7(P:Params):DictEntry:=dE P ⟨#[67,73,82,67,85,77,70,76,69,88]⟩ 2410 (.int (32) 2409)
noncomputable def Y8(P:Params):DictEntry:=dE P ⟨#[76,69,70,84,83,72,73,70,84]⟩ 2412 (.int (33) 2411)
noncomputable def Y9(P:Params):DictEntry:=dE P ⟨#[82,73,71,72,84,83,72,73,70,84]⟩ 2414 (.int (34) 2413)
noncomputable def Za(P:Params):DictEntry:=dE P ⟨#[68,79,85,66,76,69,83,84,65,82]⟩ 2416 (.int (35) 2415)
noncomputable def Zb(P:Params):DictEntry:=dE P ⟨#[80,76,85,83,69,81,85,65,76]⟩ 2418 (.int (36) 2417)
noncomputable def Zc(P:Params):DictEntry:=dE P ⟨#[77,73,78,69,81,85,65,76]⟩ 2420 (.int (37) 2419)
noncomputable def Zd(P:Params):DictEntry:=dE P ⟨#[83,84,65,82,69,81,85,65,76]⟩ 2422 (.int (38) 2421)
noncomputable def Ze(P:Params):DictEntry:=dE P ⟨#[83,76,65,83,72,69,81,85,65,76]⟩ 2424 (.int (39) 2423)
noncomputable def Zf(P:Params):DictEntry:=dE P ⟨#[80,69,82,67,69,78,84,69,81,85,65,76]⟩ 2426 (.int (40) 2425)
noncomputable def Zg(P:Params):DictEntry:=dE P ⟨#[65,77,80,69,82,69,81,85,65,76]⟩ 2428 (.int (41) 2427)
noncomputable def Zh(P:Params):DictEntry:=dE P ⟨#[86,66,65,82,69,81,85,65,76]⟩ 2430 (.int (42) 2429)
noncomputable def Zi(P:Params):DictEntry:=dE P ⟨#[67,73,82,67,85,77,70,76,69,88,69,81,85,65,76]⟩ 2432 (.int (43) 2431)
noncomputable def Zj(P:Params):DictEntry:=dE P ⟨#[76,69,70,84,83,72,73,70,84,69,81,85,65,76]⟩ 2434 (.int (44) 2433)
noncomputable def Zk(P:Params):DictEntry:=dE P ⟨#[82,73,71,72,84,83,72,73,70,84,69,81,85,65,76]⟩ 2436 (.int (45) 2435)
noncomputable def Zl(P:Params):DictEntry:=dE P ⟨#[68,79,85,66,76,69,83,84,65,82,69,81,85,65,76]⟩ 2438 (.int (46) 2437)
noncomputable def Zm(P:Params):DictEntry:=dE P ⟨#[68,79,85,66,76,69,83,76,65,83,72]⟩ 2440 (.int (47) 2439)
noncomputable def Zn(P:Params):DictEntry:=dE P ⟨#[68,79,85,66,76,69,83,76,65,83,72,69,81,85,65,76]⟩ 2442 (.int (48) 2441)
noncomputable def Zo(P:Params):DictEntry:=dE P ⟨#[65,84]⟩ 2444 (.int (49) 2443)
noncomputable def Zp(P:Params):DictEntry:=dE P ⟨#[65,84,69,81,85,65,76]⟩ 2446 (.int (50) 2445)
noncomputable def Zq(P:Params):DictEntry:=dE P ⟨#[82,65,82,82,79,87]⟩ 2448 (.int (51) 2447)
noncomputable def Zr(P:Params):DictEntry:=dE P ⟨#[69,76,76,73,80,83,73,83]⟩ 2450 (.int (52) 2449)
noncomputable def Zs(P:Params):DictEntry:=dE P ⟨#[67,79,76,79,78,69,81,85,65,76]⟩ 2452 (.int (53) 2451)
noncomputable def Zt(P:Params):DictEntry:=dE P ⟨#[69,88,67,76,65,77,65,84,73,79,78]⟩ 2454 (.int (54) 2453)
noncomputable def d79(P:Params):DictEntry:=dE P WN 2551 (.ref 173)
noncomputable def d80(P:Params):DictEntry:=dE P ⟨#[45,62]⟩ 2489 (.int (51) 2447)
noncomputable def d81(P:Params):DictEntry:=dE P ⟨#[46]⟩ 2491 (.int (23) 2391)
noncomputable def d82(P:Params):DictEntry:=dE P ⟨#[46,46,46]⟩ 2493 (.int (52) 2449)
noncomputable def d83(P:Params):DictEntry:=dE P ⟨#[47]⟩ 2495 (.int (17) 2379)
noncomputable def d84(P:Params):DictEntry:=dE P ⟨#[47,47]⟩ 2497 (.int (47) 2439)
noncomputable def d85(P:Params):DictEntry:=dE P ⟨#[47,47,61]⟩ 2499 (.int (48) 2441)
noncomputable def d86(P:Params):DictEntry:=dE P ⟨#[47,61]⟩ 2501 (.int (39) 2423)
noncomputable def d87(P:Params):DictEntry:=dE P ⟨#[58]⟩ 2503 (.int (11) 2367)
noncomputable def d88(P:Params):DictEntry:=dE P ⟨#[58,61]⟩ 2505 (.int (53) 2451)
noncomputable def d89(P:Params):DictEntry:=dE P ⟨#[59]⟩ 2507 (.int (13) 2371)
noncomputable def d90(P:Params):DictEntry:=dE P ⟨#[60]⟩ 2509 (.int (20) 2385)
noncomputable def d91(P:Params):DictEntry:=dE P ⟨#[60,60]⟩ 2511 (.int (33) 2411)
noncomputable def d92(P:Params):DictEntry:=dE P ⟨#[60,60,61]⟩ 2513 (.int (44) 2433)
noncomputable def d93(P:Params):DictEntry:=dE P ⟨#[60,61]⟩ 2515 (.int (29) 2403)
noncomputable def d94(P:Params):DictEntry:=dE P ⟨#[61]⟩ 2517 (.int (22) 2389)
noncomputable def d95(P:Params):DictEntry:=dE P ⟨#[61,61]⟩ 2519 (.int (27) 2399)
noncomputable def d96(P:Params):DictEntry:=dE P ⟨#[62]⟩ 2521 (.int (21) 2387)
noncomputable def d97(P:Params):DictEntry:=dE P ⟨#[62,61]⟩ 2523 (.int (30) 2405)
noncomputable def d98(P:Params):DictEntry:=dE P ⟨#[62,62]⟩ 2524 (.int (34) 2413)
noncomputable def d99(P:Params):DictEntry:=dE P ⟨#[62,62,61]⟩ 2525 (.int (45) 2435)
noncomputable def UE(P:Params):DictEntry:=dE P ⟨#[64]⟩ 2526 (.int (49) 2443)
noncomputable def UF(P:Params):DictEntry:=dE P ⟨#[64,61]⟩ 2527 (.int (50) 2445)
noncomputable def UG(P:Params):DictEntry:=dE P ⟨#[91]⟩ 2528 (.int (9) 2363)
noncomputable def UH(P:Params):DictEntry:=dE P ⟨#[93]⟩ 2529 (.int (10) 2365)
noncomputable def UI(P:Params):DictEntry:=dE P ⟨#[94]⟩ 2530 (.int (32) 2409)
noncomputable def UJ(P:Params):DictEntry:=dE P ⟨#[94,61]⟩ 2531 (.int (43) 2431)
noncomputable def UK(P:Params):DictEntry:=dE P ⟨#[123]⟩ 2532 (.int (25) 2395)
noncomputable def UL(P:Params):DictEntry:=dE P ⟨#[124]⟩ 2533 (.int (18) 2381)
noncomputable def UM(P:Params):DictEntry:=dE P ⟨#[124,61]⟩ 2534 (.int (42) 2429)
noncomputable def UN(P:Params):DictEntry:=dE P ⟨#[125]⟩ 2535 (.int (26) 2397)
noncomputable def UO(P:Params):DictEntry:=dE P ⟨#[126]⟩ 2536 (.int (31) 2407)
noncomputable def ak:Obj:=mO (.type "tuple") (.seq #[] 0)
noncomputable def aG:Obj:=mO .none (.fields #[])
noncomputable def lP:Obj:=cO s24 182 s24 183 s3 184 1 0 0 0 0 11 false 181 12 .none .none .none 185 1 s3 186
noncomputable def ki:Obj:={cls:=(.type "frame"),dict:=none,data:=.plain,slots:= #[(some (.ref 13)),(some (.ref 3)),(some (.ref 3)),none,(some (.str s25 164)),none,(some (.ref 0))]}
noncomputable def H_a(P:Params):Heap:=⟨#[(boot_o_0 P),(boot_o_1 P),(boot_o_2 P),(boot_o_3 P),(boot_o_4 P),(boot_o_5 P),(boot_o_6 P),(boot_o_7 P),(boot_o_8 P),(boot_o_9 P),(boot_o_10 P),ak,aG,lP,ki],{ }⟩
noncomputable def T_b(P:Params):BT:=(.node (boot_o_0 P) (.node (boot_o_1 P) (.node (boot_o_3 P) (lf (boot_o_7 P)) (lf ak)) (.node (boot_o_5 P) (lf (boot_o_9 P)) (lf lP))) (.node (boot_o_2 P) (.node (boot_o_4 P) (lf (boot_o_8 P)) (lf aG)) (.node (boot_o_6 P) (lf (boot_o_10 P)) (lf ki))))
noncomputable def UP(P:Params):Obj:=mO (.type "dict") (.dict #[(d0 P),(d1 P),(d2 P),(d3 P),(d4 P),(d5 P),(d6 P),(d7 P),(d8 P),(d9 P),(NG P),(NH P),(NI P)] 13)
noncomputable def JI:Obj:=mO .none (.fields #[(iv 1),(iv 0),(.ref 20),(iv 5),(iv 0),(.ref 27),(iv 18),(iv 0),(.ref 34),(iv 36),(iv 0),(.ref 41)])
noncomputable def sB:Obj:=mO (.type "tuple") (.seq #[(.str Ql 190)] 0)
noncomputable def sE:Obj:=mO .none (fD s4 s4 (aJ pq.main.body 0) 0 .none .none)
noncomputable def sF:Obj:=cO s4 187 s4 188 s3 189 1 1 0 0 3 15 true 181 16 (.ref 17) (.ref 18) (.ref 19) 191 1 s3 192
noncomputable def sG:Obj:=mO (.type "function") (fD s4 s4 (aJ pq.main.body 0) 3 (.str s25 164) (.ref 20))
noncomputable def sH:Obj:=mO (.type "tuple") (.seq #[(.str Qm 199),(.str TZ 200),(.str ⟨#[101,115,99,97,112,101]⟩ 201),(.str Qn 202)] 0)
noncomputable def sI:Obj:=mO .none (fD s5 s5 (aJ pq.main.body 2) 0 .none .none)
noncomputable def nS:Obj:=cO s5 196 s5 197 s3 198 5 1 0 0 35 22 true 181 23 (.ref 24) (.ref 25) (.ref 26) 203 5 s3 204
noncomputable def jn:Obj:=mO (.type "function") (fD s5 s5 (aJ pq.main.body 2) 3 (.str X6 194) (.ref 27))
noncomputable def sJ:Obj:=mO (.type "tuple") (.seq #[(.str Qm 209),(.str T0 210),(.str s32 211),(.str s33 212),(.str TZ 213),(.str Qn 214)] 0)
noncomputable def sK:Obj:=mO .none (fD s6 s6 (aJ pq.main.body 3) 0 .none .none)
noncomputable def p9:Obj:=cO s6 206 s6 207 s3 208 18 1 0 0 3 29 true 181 30 (.ref 31) (.ref 32) (.ref 33) 215 18 s3 216
noncomputable def kj:Obj:=mO (.type "function") (fD s6 s6 (aJ pq.main.body 3) 3 (.str X6 194) (.ref 34))
noncomputable def sL:Obj:=mO (.type "tuple") (.seq #[(.str Qm 221),(.str Fs 222),(.str TZ 223),(.str Qn 224)] 0)
noncomputable def sM:Obj:=mO .none (fD s7 s7 (aJ pq.main.body 4) 0 .none .none)
noncomputable def qa:Obj:=cO s7 218 s7 219 s3 220 36 1 0 0 3 36 true 181 37 (.ref 38) (.ref 39) (.ref 40) 225 36 s3 226
noncomputable def kl:Obj:=mO (.type "function") (fD s7 s7 (aJ pq.main.body 4) 3 (.str X6 194) (.ref 41))
noncomputable def b0:BT:=(.node aG (lf ak) .nil)
noncomputable def b1:BT:=(.node ak (lf qa) .nil)
noncomputable def b2:BT:=(.node sH (lf sM) .nil)
noncomputable def b3:BT:=(.node sI (lf kl) .nil)
noncomputable def b4:BT:=(.node ak (lf sL) .nil)
noncomputable def Zu(P:Params):BT:=(.node (boot_o_0 P) (.node (boot_o_1 P) (.node (UP P) (.node (boot_o_7 P) (.node ak (lf sJ) .nil) b0) (.node ak (.node sE (lf kj) .nil) (lf nS))) (.node (boot_o_5 P) (.node (boot_o_9 P) (.node sB (lf sK) .nil) b1) (.node lP (.node sG (lf aG) .nil) (lf ak)))) (.node (boot_o_2 P) (.node (boot_o_4 P) (.node (boot_o_8 P) b0 b2) (.node JI (.node sF (lf ak) .nil) (lf jn))) (.node (boot_o_6 P) (.node (boot_o_10 P) (.node ak (lf p9) .nil) b3) (.node ki b4 (lf aG)))))
noncomputable def UQ(P:Params):Obj:=mO (.type "dict") (.dict #[(d0 P),(d1 P),(d2 P),(d3 P),(d4 P),(d5 P),(d6 P),(d7 P),(d8 P),(d9 P),(NG P),(NH P),(NI P),(PF P)] 14)
noncomputable def sN:Obj:=mO (.type "list") (.seq #[(.int (173) 230),(.int (847) 231),(.int (6150) 232),(.int (6155) 233),(.int (6156) 234),(.int (6157) 235),(.int (8203) 236),(.int (8204) 237),(.int (8205) 238),(.int (8288) 239),(.int (65279) 240)] 0)
noncomputable def sO:Obj:=mO (.type "range") (.fields #[(.int (65024) 241),(.int (65040) 242),(.int (1) 243)])
noncomputable def sP:Obj:=mO (.type "list") (.seq #[(.int (65024) 246),(.int (65025) 247),(.int (65026) 248),(.int (65027) 249),(.int (65028) 250),(.int (65029) 251),(.int (65030) 252),(.int (65031) 253),(.int (65032) 254),(.int (65033) 255),(.int (65034) 256),(.int (65035) 257),(.int (65036) 258),(.int (65037) 259),(.int (65038) 260),(.int (65039) 261)] 18)
noncomputable def sQ:Obj:=mO (.type "range_iterator") (.fields #[(iv 65040),(iv 0),(iv 1)])
noncomputable def vH:Obj:=mO (.type "StopIteration") (.fields #[(.ref 47),.none,.none,.none,(.bool false),.none])
noncomputable def vI:Obj:=mO (.type "list") (.seq #[(.int (173) 230),(.int (847) 231),(.int (6150) 232),(.int (6155) 233),(.int (6156) 234),(.int (6157) 235),(.int (8203) 236),(.int (8204) 237),(.int (8205) 238),(.int (8288) 239),(.int (65279) 240),(.int (65024) 246),(.int (65025) 247),(.int (65026) 248),(.int (65027) 249),(.int (65028) 250),(.int (65029) 251),(.int (65030) 252),(.int (65031) 253),(.int (65032) 254),(.int (65033) 255),(.int (65034) 256),(.int (65035) 257),(.int (65036) 258),(.int (65037) 259),(.int (65038) 260),(.int (65039) 261)] 0)
noncomputable def km(P:Params):Obj:=mO (.type "set") (.set #[((65024),(.int (65024) 246)),((65025),(.int (65025) 247)),((65026),(.int (65026) 248)),((65027),(.int (65027) 249)),((65028),(.int (65028) 250)),((65029),(.int (65029) 251)),((6150),(.int (6150) 232)),((65030),(.int (65030) 252)),((65031),(.int (65031) 253)),((65032),(.int (65032) 254)),((65033),(.int (65033) 255)),((6155),(.int (6155) 233)),((6156),(.int (6156) 234)),((6157),(.int (6157) 235)),((8203),(.int (8203) 236)),((8204),(.int (8204) 237)),((8205),(.int (8205) 238)),((65034),(.int (65034) 256)),((65035),(.int (65035) 257)),((65036),(.int (65036) 258)),((65037),(.int (65037) 259)),((65038),(.int (65038) 260)),((65039),(.int (65039) 261)),((173),(.int (173) 230)),((847),(.int (847) 231)),((8288),(.int (8288) 239)),((65279),(.int (65279) 240))] 29 {mask:=127,place:= #[0,1,2,3,4,5,6,7,8,9,10,11,12,13,14,15,16,17,18,19,20,21,22,45,79,96,127],dummies:= #[],finger:=0,led:=!(P.followText "set-order"),moves:=2,plain:=true})
noncomputable def vJ:Obj:=mO (.type "list_iterator") (.fields #[.none,(iv 27)])
noncomputable def vK:Obj:=mO (.type "StopIteration") (.fields #[(.ref 52),.none,.none,.none,(.bool false),.none])
noncomputable def b5:BT:=(.node ak (lf sJ) (lf ak))
noncomputable def b6:BT:=(.node sE (lf kj) (lf vJ))
noncomputable def b7:BT:=(.node sB (lf sK) (lf vI))
noncomputable def b8:BT:=(.node lP (.node sG (lf aG) (lf vK)) (.node ak (lf sP) .nil))
noncomputable def b9:BT:=(.node aG (lf ak) (lf vH))
noncomputable def b10:BT:=(.node sF (lf ak) (lf ak))
noncomputable def b11(P:Params):BT:=(.node ak (lf p9) (lf (km P)))
noncomputable def b12:BT:=(.node aG (lf sQ) .nil)
noncomputable def Zv(P:Params):BT:=(.node (boot_o_0 P) (.node (boot_o_1 P) (.node (UQ P) (.node (boot_o_7 P) b5 b0) (.node ak b6 (.node nS (lf sN) .nil))) (.node (boot_o_5 P) (.node (boot_o_9 P) b7 b1) b8)) (.node (boot_o_2 P) (.node (boot_o_4 P) (.node (boot_o_8 P) b9 b2) (.node JI b10 (.node jn (lf sO) .nil))) (.node (boot_o_6 P) (.node (boot_o_10 P) (b11 P) b3) (.node ki b4 b12))))
noncomputable def PG(P:Params):Obj:=mO (.type "dict") (.dict #[(d0 P),(d1 P),(d2 P),(d3 P),(d4 P),(d5 P),(d6 P),(d7 P),(d8 P),(d9 P),(NG P),(NH P),(NI P),(PF P),(Rh P)] 15)
noncomputable def JJ:Obj:=mO .none (.fields #[(iv 1),(iv 0),(.ref 20),(iv 5),(iv 0),(.ref 27),(iv 18),(iv 0),(.ref 34),(iv 36),(iv 0),(.ref 41),(iv 49),(iv 0),(.ref 59)])
noncomputable def vL:Obj:=mO (.type "tuple") (.seq #[(.str WO 293)] 0)
noncomputable def vM:Obj:=mO .none (fD s9 s9 (aJ pq.main.body 7) 0 .none .none)
noncomputable def sR:Obj:=cO s9 290 s9 291 s3 292 49 1 0 0 3 54 true 181 55 (.ref 56) (.ref 57) (.ref 58) 294 49 s3 295
noncomputable def lQ:Obj:=mO (.type "function") (fD s9 s9 (aJ pq.main.body 7) 3 (.str s1 228) (.ref 59))
noncomputable def PH(P:Params):BT:=(.node (boot_o_0 P) (.node (boot_o_1 P) (.node (PG P) (.node (boot_o_7 P) b5 (.node aG (lf ak) (lf aG))) (.node ak b6 (.node nS (lf sN) (lf sR)))) (.node (boot_o_5 P) (.node (boot_o_9 P) b7 (.node ak (lf qa) (lf ak))) b8)) (.node (boot_o_2 P) (.node (boot_o_4 P) (.node (boot_o_8 P) b9 (.node sH (lf sM) (lf vL))) (.node JJ b10 (.node jn (lf sO) (lf lQ)))) (.node (boot_o_6 P) (.node (boot_o_10 P) (b11 P) (.node sI (lf kl) (lf vM))) (.node ki (.node ak (lf sL) (lf ak)) b12))))
theorem UR(w:World):(fun os=>topGo treeTable pq w 11 (some (.ref 6)) 12 ⟨boot_heap w.params,#[],boot_drawn,boot_toks,os⟩ (topStub pq))=fun os=>some (⟨H_a w.params,#[],{},187,os⟩,⟨denote treeTable cE,cE,⟨0,0,0,0⟩,[topFrame fp]⟩):=by
 rw[PySem.W.Fast.te15667345088766844465,jV,Dx]
 kernel_rfl!
theorem NJ(w:World):(fun os=>segRun treeTable pq w 11 (some (.ref 6)) 1 1 ⟨H_a w.params,#[],{},187,os⟩ (blockOf (behindTheImports pq) E cE ⟨0,0,0,0⟩ [topFrame fp]))=fun os=>some (.next,(SS T_b 15 187 w os).abs,cE,⟨0,0,0,0⟩):=by
 rw[PySem.W.Fast.te14374325043358763698,jV]
 kernel_rfl!
theorem h_5(w:World):(fun os=>segRunT treeTable pq w 11 (some (.ref 6)) 1 146 (SS T_b 15 187 w os) (piecesOf (seg 0 6) E cE ⟨0,0,0,0⟩ [topFrame fp]))=fun os=>some (.next,SS Zu 43 230 w os,cE,⟨47,0,47,8⟩):=by
 rw[qJ,jV]
 kernel_rfl!
theorem h_6(w:World):(fun os=>segRunT treeTable pq w 11 (some (.ref 6)) 1 999 (SS Zu 43 230 w os) (piecesOf (seg 6 1) E cE ⟨47,0,47,8⟩ [topFrame fp]))=fun os=>some (.next,SS Zv 54 290 w os,cE,⟨48,0,48,6⟩):=by
 refine byRow2 "set-order" (P:=fun w=>(fun os=>segRunT treeTable pq w 11 (some (.ref 6)) 1 999 (SS Zu 43 230 w os) (piecesOf (seg 6 1) E cE ⟨47,0,47,8⟩ [topFrame fp]))=fun os=>some (.next,SS Zv 54 290 w os,cE,⟨48,0,48,6⟩)) (byRow2 "special-get-raises" ?_ ?_) (byRow2 "special-get-raises" ?_ ?_) w<;>clear w<;>intro w
 all_goals rw[qJ,jV]
 all_goals kernel_rfl!
noncomputable def tN:Stmt->List (Option Expr):=p8 [] (fun ø ø ø=>[]) (fun ø=>[]) (fun ø v ø=>JH [] (fun k ø ø=>k) (fun ø ø ø=>[]) (fun ø ø ø=>[]) v) (fun ø ø ø=>[]) (fun ø ø ø=>[])
noncomputable def tO:Stmt->List Expr:=p8 [] (fun ø ø ø=>[]) (fun ø=>[]) (fun ø v ø=>JH [] (fun ø v ø=>v) (fun ø ø ø=>[]) (fun ø ø ø=>[]) v) (fun ø ø ø=>[]) (fun ø ø ø=>[])
noncomputable def NK:Stmt->List Expr:=p8 [] (fun ø ø ø=>[]) (fun ø=>[]) (fun t ø ø=>t) (fun ø ø ø=>[]) (fun ø ø ø=>[])
noncomputable def Eg:Stmt->Pos:=p8 default (fun ø ø ø=>default) (fun ø=>default) (fun ø ø p=>p) (fun ø ø ø=>default) (fun ø ø ø=>default)
noncomputable def mF:Stmt->Pos:=p8 default (fun ø ø ø=>default) (fun ø=>default) (fun ø v ø=>JH default (fun ø ø p=>p) (fun ø ø ø=>default) (fun ø ø ø=>default) v) (fun ø ø ø=>default) (fun ø ø ø=>default)
noncomputable def aK(l:List DictEntry)(n:Nat):Obj:={cls:=.type "dict",data:=.dict l.toArray n}
noncomputable def Hp(a b:Int):Bool:= @Int.rec (fun ø=>Bool) (fun m=> @Int.rec (fun ø=>Bool) (fun n=>Nat.beq m n) (fun ø=>false) b) (fun ø=>a==b) a
theorem Ri{a b:Int}(h:Hp a b=false):a≠b:=by
 intro e;subst e
 cases a with
 |ofNat m=>simp[Hp,Nat.beq_refl]at h
 |negSucc m=>simp[Hp]at h
noncomputable def lR(h:Int)(l:List DictEntry):Bool:= @List.rec DictEntry (fun ø=>Bool) true (fun e ø ih=> @Bool.rec (fun ø=>Bool) ih false (Hp e.hash h)) l
theorem x6{h:Int}:∀{l:List DictEntry},lR h l=true->∀e∈l,e.hash≠h
 |[],_,e,he=>by cases he
 |a::l,q,e,he=>by
  have q': @Bool.rec (fun ø=>Bool) (lR h l) false (Hp a.hash h)=true:=q
  cases hb:Hp a.hash h with
  |true=>rw[hb]at q';cases q'
  |false=>
   rw[hb]at q';rcases bp.mp he with rfl|he
   ·exact Ri hb
   ·exact x6 (l:=l) q' e he
noncomputable def TK{α:Type}(x:Sem α)(o:Obj):Sem α:= @Sem.casesOn α (fun ø=>Sem α) x (fun ø=>x) (fun ø=>x) (fun ø=>x) (fun ø=>x) (fun ø ø=>x) (fun ø ø=>x) (fun ø ø k=>k o) (fun ø ø ø ø=>x) (fun ø ø=>x) (fun ø ø=>x) (fun ø ø=>x) (fun ø ø=>x) (fun ø=>x) (fun ø=>x) (fun ø ø ø=>x) (fun ø ø ø=>x) (fun ø ø ø ø ø=>x) (fun ø ø=>x) (fun ø ø=>x) (fun ø ø=>x) (fun ø ø ø ø=>x) (fun ø ø ø ø=>x) (fun ø=>x) (fun ø ø=>x) (fun ø=>x) (fun ø ø ø ø ø=>x)
noncomputable def Hq(d:Addr)(key:Value)(h:Int):Sem (Option Nat):=match key with
 | .int k t=>.load d (keyPart (.int k t)) fun o=>match o.data with
   | .dict es n=> @Bool.rec (fun ø=>Sem (Option Nat)) (TK (dictFind d (.int k t) h) o) (.pure none) (lR h es.toList)
   |_=>TK (dictFind d (.int k t) h) o
 |key=>dictFind d key h
theorem Eh{es:Array DictEntry}{h:Int}(q:lR h es.toList=true):placesWithHash es.size (fun i=>es[i]?.map (·.hash)) h=[]:=by
 unfold placesWithHash;rw[List.filter_eq_nil_iff];intro i hi;have hi:=gD.mp hi;have:=x6 q es[i] (by simp);simp[hi,this]
set_option tactic.hygienic true in
theorem Bz: @dictFind=Hq:=by
 funext d key h
 cases key<;>try rfl
 rename_i k t;show dictFind d (.int k t) h= .load d (keyPart (.int k t)) _;have e1:dictFind d (.int k t) h= .load d (keyPart (.int k t)) (fun o=>TK (dictFind d (.int k t) h) o):=rfl;rw[e1]
 congr 1
 funext o
 obtain⟨c,dd,data,sl⟩:=o
 cases data with
 |dict es n=>
  show TK (dictFind d (.int k t) h) _= @Bool.rec (fun ø=>Sem (Option Nat)) (TK (dictFind d (.int k t) h) _) (.pure none) (lR h es.toList)
  cases q:lR h es.toList with
  |false=>rfl
  |true=>
   show TK (dictFind d (.int k t) h) _= .pure none;have hp:=Eh q;show(if(Value.int k t::List.filterMap (fun i=>Option.map (fun x=>x.key) es[i]?) (placesWithHash es.size (fun i=>Option.map (fun x=>x.hash) es[i]?) h)).all carriedByValue=true then dictWalkPlain d (Value.int k t) h es (placesWithHash es.size (fun i=>Option.map (fun x=>x.hash) es[i]?) h)else _)=_;rw[hp];rfl
 |_=>rfl
section
section
variable{tb:String->Option Builtin}{p:Program}{w:World}{n₀:Nat}{ann:Option Value}
noncomputable def lS(tb:String->Option Builtin)(p:Program)(w:World)(n₀:Nat)(ann:Option Value)(b:Nat)(s:Shared)(t:Thread)(s':Shared)(t':Thread):Prop:=
 ∀N r,topRun tb p w n₀ ann N s' t'=some r->topRun tb p w n₀ ann (b+N) s t=some r
theorem lS.refl(s t):lS tb p w n₀ ann 0 s t s t:=fun N r h=>by rw[gq];exact h
theorem lS.trans{b b' s t s' t' hZ YQ}(h:lS tb p w n₀ ann b s t s' t')(h':lS tb p w n₀ ann b' s' t' hZ YQ):lS tb p w n₀ ann (b+b') s t hZ YQ:=fun N r q=>by
 rw[Nat.add_assoc];exact h _ _ (h' _ _ q)
theorem lS.mono{b b' s t s' t'}(h:lS tb p w n₀ ann b s t s' t')(hb:b<=b'):lS tb p w n₀ ann b' s t s' t':=fun N r q=>by
 have:=topRun_mono (b'-b) _ _ _ _ (h N r q);rwa[show b+N+(b'-b)=b'+N by omega]at this
theorem lS.step{s t s' t'}(ht:through t=false)(hk:stepOk n₀ ann t=true)(hs:step (denote tb) p w s t= .go s' t'):lS tb p w n₀ ann 1 s t s' t':=fun N r q=>by
 rw[Nat.add_comm];show topRun tb p w n₀ ann (N+1) s t=some r;unfold topRun;rw[ht,hk,hs];exact q
noncomputable def Ev(tb:String->Option Builtin)(p:Program)(w:World)(n₀:Nat)(ann:Option Value)(c:Code){α:Type}(b:Nat)(x:Sem α)(s:Shared)(pos:Pos)(a:α)(s':Shared)(pos':Pos):Prop:=
 ∀(K:α->Sem Fin) (H:Value->Sem Fin) (gd:Bool->Bool) (lv:List Value->List Value) (f:Frame) (B:List Frame),lS tb p w n₀ ann b s ⟨x.wrap K H gd lv,c,pos,f::B⟩ s' ⟨K a,c,pos',f::B⟩
variable{c:Code}{α β:Type}{s s':Shared}{pos pos':Pos}{a:α}{b:Nat}
theorem Ev.mono{x:Sem α}{b'}(h:Ev tb p w n₀ ann c b x s pos a s' pos')(hb:b<=b'):Ev tb p w n₀ ann c b' x s pos a s' pos':=fun K H gd lv f B=>(h K H gd lv f B).mono hb
theorem Ev.pure:Ev tb p w n₀ ann c 0 (.pure a) s pos a s pos:=fun K H gd lv f B=>lS.refl _ _
theorem Ev.bind{m:Sem α}{f:α->Sem β}{y:β}{b' hZ io}(h:Ev tb p w n₀ ann c b m s pos a s' pos')(h':Ev tb p w n₀ ann c b' (f a) s' pos' y hZ io):Ev tb p w n₀ ann c (b+b') (m>>= f) s pos y hZ io:=fun K H gd lv fr B=>by
 show lS tb p w n₀ ann _ s ⟨(m.bind f).wrap K H gd lv,c,pos,fr::B⟩ _ _;rw[Sem.bind_eq_wrap,np];exact(h _ _ _ _ fr B).trans (h' K H gd lv fr B)
theorem Ev.PJ{m:Sem α}{f:α->Sem β}{y:β}{b' hZ io}(h:Ev tb p w n₀ ann c 0 m s pos a s' pos')(h':Ev tb p w n₀ ann c b' (f a) s' pos' y hZ io):Ev tb p w n₀ ann c b' (m>>= f) s pos y hZ io:=by
 have:=h.bind h';rwa[gq]at this
theorem Ev.keep{x:Sem α}{vs}(h:Ev tb p w n₀ ann c b x s pos a s' pos'):Ev tb p w n₀ ann c b (x.keep vs) s pos a s' pos':=fun K H gd lv f B=>by
 rw[Sem.keep_eq_wrap,np];exact h _ _ _ _ f B
theorem Ev.holding{x:Sem α}{vs}(h:Ev tb p w n₀ ann c b x s pos a s' pos'):Ev tb p w n₀ ann c b (holding vs x) s pos a s' pos':=by
 unfold PySem.holding;split
 ·exact h
 ·exact h.keep
theorem Ev.onRaise{x:Sem α}{g}(h:Ev tb p w n₀ ann c b x s pos a s' pos'):Ev tb p w n₀ ann c b (x.onRaise g) s pos a s' pos':=fun K H gd lv f B=>by
 rw[Sem.onRaise_eq_wrap,np];exact h _ _ _ _ f B
theorem Ev.tryCatch{x:Sem α}{g}(h:Ev tb p w n₀ ann c b x s pos a s' pos'):Ev tb p w n₀ ann c b (x.tryCatch g) s pos a s' pos':=fun K H gd lv f B=>by
 rw[Sem.tryCatch_eq_wrap,np];exact h _ _ _ _ f B
theorem Ev.rule{t}{k:Unit->Sem α}(h:Ev tb p w n₀ ann c b (k ()) s pos a s' pos'):Ev tb p w n₀ ann c (1+b) (.rule t k) s pos a s' pos':=fun K H gd lv f B=>
 lS.trans (lS.step rfl rfl (by obtain⟨h,g,d,tk,os⟩:=s;rfl)) (h K H gd lv f B)
theorem Ev.at{q}{k:Unit->Sem α}(h:Ev tb p w n₀ ann c b (k ()) s q a s' pos'):Ev tb p w n₀ ann c (1+b) (.at q k) s pos a s' pos':=fun K H gd lv f B=>
 lS.trans (lS.step rfl rfl (by obtain⟨h,g,d,tk,os⟩:=s;rfl)) (h K H gd lv f B)
theorem Ev.fresh{k:Tok->Sem α}(h:Ev tb p w n₀ ann c b (k s.toks) {s with toks:=s.toks+1} pos a s' pos'):Ev tb p w n₀ ann c (1+b) (.fresh k) s pos a s' pos':=fun K H gd lv f B=>
 lS.trans (lS.step rfl rfl (by obtain⟨h,g,d,tk,os⟩:=s;rfl)) (h K H gd lv f B)
theorem Ev.ask{k:Setting->Sem α}(h:Ev tb p w n₀ ann c b (k ⟨p,w.params⟩) s pos a s' pos'):Ev tb p w n₀ ann c (1+b) (.ask k) s pos a s' pos':=fun K H gd lv f B=>
 lS.trans (lS.step rfl rfl (by obtain⟨h,g,d,tk,os⟩:=s;rfl)) (h K H gd lv f B)
theorem Ev.alloc{o}{k:Addr->Sem α}(h:Ev tb p w n₀ ann c b (k s.heap.objs.size) {s with heap:=s.heap.push o} pos a s' pos'):Ev tb p w n₀ ann c (1+b) (.alloc o k) s pos a s' pos':=fun K H gd lv f B=>
 lS.trans (lS.step rfl rfl (by obtain⟨h,g,d,tk,os⟩:=s;rfl)) (h K H gd lv f B)
theorem Ev.load{d:Addr}{q o}{k:Obj->Sem α}(ho:s.heap.get? d=some o)(h:Ev tb p w n₀ ann c b (k o) s pos a s' pos'):Ev tb p w n₀ ann c (1+b) (.load d q k) s pos a s' pos':=fun K H gd lv f B=>
 lS.trans (lS.step rfl rfl (by obtain⟨hp,gs,dd,tk,os⟩:=s;show(match hp.get? d with|some o=>_|none=>_)=_;rw[show hp.get? d=some o from ho])) (h K H gd lv f B)
theorem Ev.update{d:Addr}{q o g}{k:Unit->Sem α}(ho:s.heap.get? d=some o)(hn:n₀<=d)(h:Ev tb p w n₀ ann c b (k ()) {s with heap:=s.heap.update d g} pos a s' pos'):Ev tb p w n₀ ann c (1+b) (.update d q g k) s pos a s' pos':=fun K H gd lv f B=>
 lS.trans (lS.step rfl (by
    show(true&&(Nat.ble n₀ d||d==mainNs||d==cStatics||ann==some (.ref d)))=true;rw[Nat.ble_eq_true_of_le hn];rfl)
  (by obtain⟨hp,gs,dd,tk,os⟩:=s;show(if(hp.get? d).isSome then _ else _)=_;rw[show hp.get? d=some o from ho];rfl)) (h K H gd lv f B)
theorem Ev.call{id:String}{args:Args}{hd g l}{k:Result->Sem α}{r:Result}{y:Sem Fin}(h1:denote tb (.call (.builtin id) args)= .pure (.again (.builtin id args)))(h2:denote tb (.builtin id args)=y)(hid:id.startsWith "lifetime."=false)
  {b' hZ io} (hy:∀f B,lS tb p w n₀ ann b s ⟨y,.builtin id args,pos,f::B⟩ s' ⟨.pure (match r with| .ok f=>.done f| .error _=>.done .next),.builtin id args,pos',f::B⟩) (hr:∃v,r= .ok v)
  (h:Ev tb p w n₀ ann c b' (k r) s' pos a hZ io):Ev tb p w n₀ ann c (1+(1+(b+(1+b')))) (.call (.call (.builtin id) args) hd g l k) s pos a hZ io:=fun K H gd lv f B=>by
 obtain⟨v,rfl⟩:=hr;obtain⟨hp,gs,dd,tk,os⟩:=s;obtain⟨No,gs',dd',TL,os'⟩:=s';refine lS.trans (t':=⟨denote tb (.call (.builtin id) args),.call (.builtin id) args,pos,.ret (fun x=>(k x).wrap K H gd lv) hd (gd g) (lv l) c pos _::f::B⟩) (lS.step rfl rfl rfl) ?_;rw[h1];refine lS.trans (lS.step rfl (by
  show((!(id.startsWith "lifetime.")||_)&&_&&_&&_)=true;rw[hid];rfl) step_again) ?_
 rw[h2];refine lS.trans (hy _ _) (lS.trans (lS.step rfl rfl rfl) (h K H gd lv f B))
end
theorem JK(k:Int)(t:Tok):denote treeTable (.call (.builtin "int.__hash__") ⟨[.int k t],[]⟩)= .pure (.again (.builtin "int.__hash__" ⟨[.int k t],[]⟩)):=by
 rw[Dx,jV]
 kernel_rfl!
theorem JL(k:Int)(t:Tok):denote treeTable (.builtin "int.__hash__" ⟨[.int k t],[]⟩)= .fresh fun tk=>.pure (.done (.ret (.int (rawHash k) tk))):=by
 rw[Dx,jV]
 kernel_rfl!
section
variable{p:Program}{w:World}{n₀:Nat}{ann:Option Value}{c:Code}{s:Shared}{pos:Pos}
theorem BA(k:Int)(t:Tok):Ev treeTable p w n₀ ann c 4 (PySem.call (.builtin "int.__hash__") [.int k t]) s pos (.int (rawHash k) s.toks) {s with toks:=s.toks+1} pos:=by
 refine Ev.mono (b:=1+(1+(1+(1+0)))+0) ?_ (cF _);unfold PySem.call runValue run;refine Ev.bind (a:=.ret (.int (rawHash k) s.toks)) (s':={s with toks:=s.toks+1}) (pos':=pos) ?_ Ev.pure;refine Ev.call (pos':=pos) (r:=.ok (.ret (.int (rawHash k) s.toks))) (JK k t) (JL k t) (by decide+kernel) (b:=1) (fun f B=>?_) ⟨_,rfl⟩ Ev.pure;exact lS.step rfl rfl (by obtain⟨h,g,d,tk,os⟩:=s;rfl)
theorem NL(k:Int)(t:Tok):Ev treeTable p w n₀ ann c 5 (pyHash (.int k t)) s pos (hashInt k) {s with toks:=s.toks+1} pos:=by
 have hr:=rawHash_range k;show Ev treeTable p w n₀ ann c 5 (pyHashByItsType (.int k t)) s pos (hashInt k) {s with toks:=s.toks+1} pos;unfold pyHashByItsType;have hv:cRoomFor "hash" [Value.int k t]=(Pure.pure ():Sem Unit):=rfl;have hs:specialOf (.int k t) "__hash__"=(Pure.pure (some (.builtin "int.__hash__")):Sem _):=slot_int_hash.lookup;rw[hv,hs];refine Ev.bind (b:=0) (b':=5) Ev.pure (Ev.bind (b:=0) (b':=5) Ev.pure ?_);dsimp only;rw[az (by rw[beq_builtin_none];exact mX)];refine Ev.bind (b:=0) (b':=5) Ev.pure ?_;rw[az (by exact mX)];refine Ev.bind (b:=5) (b':=0) (a:=some (.int (rawHash k) s.toks)) (s':={s with toks:=s.toks+1}) (pos':=pos) ?_ ?_
 ·simp only[callSpecialIfBoundUnlessNone?,bindSpecialIfBound?,hs]
  refine Ev.holding (Ev.bind (b:=1) (b':=4) (a:=some (.builtin "int.__hash__",[.int k t])) (s':=s) (pos':=pos) ?_ ?_)
  ·show Ev treeTable p w n₀ ann c 1 (.ask fun st=>_) s pos _ s pos
   refine Ev.ask (b:=0) ?_;simp only[slot_int_hash.bind];refine Ev.bind (b:=0) (b':=0) Ev.pure ?_;dsimp only;split
   ·exact Ev.pure
   ·exact Ev.tryCatch (x:=(Sem.pure (some (Value.builtin "int.__hash__",[Value.int k t])):Sem (Option (Value×List Value)))) Ev.pure
  ·show Ev treeTable p w n₀ ann c 4 (if(Value.builtin "int.__hash__"==Value.none)=true then _ else _) s pos _ _ pos
   rw[az (by simp only[builtin_beq_none];exact mX)];exact Ev.bind (b:=4) (b':=0) (BA k t) Ev.pure
 ·show Ev treeTable p w n₀ ann c 0 (if(decide (-(2:Int)^63<=rawHash k)&&decide (rawHash k<2^63))=true then _ else _) _ pos _ _ pos
  rw[aw (by rw[eK hr.1,eK hr.2];rfl)];exact Ev.pure
end
end
section
noncomputable def hp(h:Heap)(l:List Obj):Heap:=⟨h.objs++l.toArray,h.life⟩
theorem Rj(h:Heap):hp h []=h:=by simp[hp]
theorem FO(h:Heap)(l:List Obj)(o:Obj):(hp h l).push o=hp h (l++[o]):=by
 show Heap.mk ((h.objs++l.toArray).push o) h.life=Heap.mk (h.objs++(l++[o]).toArray) h.life
 congr 1
 apply Array.toList_inj.mp;simp
theorem FP(h:Heap)(l:List Obj):(hp h l).objs.size=h.objs.size+l.length:=by simp[hp]
theorem qb(h:Heap)(l₁ l₂:List Obj)(es n):(hp h (l₁++aK es n::l₂)).get? (h.objs.size+l₁.length)=some (aK es n):=by
 unfold Heap.get?;have:(hp h (l₁++aK es n::l₂)).objs[h.objs.size+l₁.length]?=some (aK es n):=by
  show(h.objs++(l₁++aK es n::l₂).toArray)[h.objs.size+l₁.length]?=_;rw[Array.getElem?_append_right (by omega)];simp
 rw[this];rfl
theorem Hr(h:Heap)(l₁ l₂:List Obj)(o)(f:Obj->Obj):(hp h (l₁++o::l₂)).update (h.objs.size+l₁.length) f=hp h (l₁++f o::l₂):=by
 show Heap.mk ((h.objs++(l₁++o::l₂).toArray).modify _ f) h.life=Heap.mk _ h.life
 congr 1
 apply Array.ext
 ·simp
 ·intro i h1 h2
  rw[Array.getElem_modify];by_cases hi:i<h.objs.size
  ·rw[az (by omega),Array.getElem_append_left hi,Array.getElem_append_left hi]
  ·rw[Array.getElem_append_right (by omega),Array.getElem_append_right (by omega)]
   simp only[List.getElem_toArray];by_cases hj:h.objs.size+l₁.length=i
   ·subst hj
    simp
   ·rw[az hj]
    by_cases hk:i-h.objs.size<l₁.length
    ·rw[List.getElem_append_left hk,List.getElem_append_left hk]
    ·rw[List.getElem_append_right (by omega),List.getElem_append_right (by omega)]
     have:i-h.objs.size-l₁.length≠0:=by omega
     obtain⟨j,hj⟩:=Nat.exists_eq_succ_of_ne_zero this;simp[hj]
noncomputable def BB(h:Int)(es:List DictEntry):Prop:=∀e∈es,e.hash≠h
theorem qY{h:Int}:∀{l:List DictEntry},BB h l->lR h l=true
 |[],_=>rfl
 |a::l,q=>by
  show @Bool.rec (fun ø=>Bool) (lR h l) false (Hp a.hash h)=true;have:Hp a.hash h=false:=by
   cases hb:Hp a.hash h with
   |false=>rfl
   |true=>
    exfalso;refine q a (by simp) ?_;revert hb;generalize a.hash=x;intro hb;cases x<;>cases h
    ·simp only[Hp]at hb;rw[Nat.eq_of_beq_eq_true hb]
    ·simp[Hp]at hb
    ·simp[Hp]at hb
    ·simpa[Hp]using hb
  rw[this];exact qY fun e he=>q e (cw _ he)
section
variable{p:Program}{w:World}{n₀:Nat}{ann:Option Value}{c:Code}{h:Heap}{g:Array GenState}{dr:Drawn}{tk:Nat}{os:OsState}{pos:Pos}
theorem FQ{l₁ l₂:List Obj}{es n}{k:Int}{t:Tok}{x:Int}(hf:BB x es):
  Ev treeTable p w n₀ ann c 1 (dictFind (h.objs.size+l₁.length) (.int k t) x) ⟨hp h (l₁++aK es n::l₂),g,dr,tk,os⟩ pos none ⟨hp h (l₁++aK es n::l₂),g,dr,tk,os⟩ pos:=by
 rw[Bz];refine Ev.load (b:=0) (qb h l₁ l₂ es n) ?_;show Ev treeTable p w n₀ ann c 0 (@Bool.rec (fun ø=>Sem (Option Nat)) _ (.pure none) (lR x es.toArray.toList)) _ pos none _ pos;rw[qY hf];exact Ev.pure
theorem vN{l₁ l₂:List Obj}{es n}{e:DictEntry}{part}(hn:n₀<=h.objs.size+l₁.length)(hl:es.length<1000):
  Ev treeTable p w n₀ ann c 3 (updateDictKeys (h.objs.size+l₁.length) (·.push e) part) ⟨hp h (l₁++aK es n::l₂),g,dr,tk,os⟩ pos () ⟨hp h (l₁++aK (es++[e]) (n+1)::l₂),g,dr,tk,os⟩ pos:=by
 unfold updateDictKeys;have hm:(aK es n).mapDictKeys (·.push e)=aK (es++[e]) (n+1):=by
  show Obj.mk _ _ (.dict (es.toArray.push e) (n+1)) _=Obj.mk _ _ (.dict (es++[e]).toArray (n+1)) _;rw[List.push_toArray]
 refine Ev.load (b:=2) (qb h l₁ l₂ es n) ?_;refine Ev.update (b:=1) (qb h l₁ l₂ es n) hn ?_;rw[Hr,hm];refine Ev.load (b:=0) (qb h l₁ l₂ (es++[e]) (n+1)) ?_;refine Ev.bind (b:=0) (b':=0) Ev.pure ?_;have:(aK (es++[e]) (n+1)).data.pastItsLine=none:=by
  show(if(es++[e]).toArray.size>sizeLine+1 then _ else _)=_;rw[az (by rw[gQ];simp;omega)]
 rw[this];exact Ev.pure
theorem Rk{l₁ l₂:List Obj}{es n}{k:Int}{t:Tok}{v:Value}{x:Int}(hf:BB x es)(hn:n₀<=h.objs.size+l₁.length)(hl:es.length<1000):
  Ev treeTable p w n₀ ann c 4 (dictPut (h.objs.size+l₁.length) x (.int k t) v) ⟨hp h (l₁++aK es n::l₂),g,dr,tk,os⟩ pos () ⟨hp h (l₁++aK (es++[⟨x,.int k t,v⟩]) (n+1)::l₂),g,dr,tk,os⟩ pos:=by
 unfold dictPut;exact Ev.bind (b:=1) (b':=3) (FQ hf) (vN hn hl)
theorem JM{l₁ l₂:List Obj}{es n}{k:Int}{t:Tok}{v:Value}(hf:BB (hashInt k) es)(hn:n₀<=h.objs.size+l₁.length)(hl:es.length<1000):
  Ev treeTable p w n₀ ann c 10 (dictSet (h.objs.size+l₁.length) (.int k t) v) ⟨hp h (l₁++aK es n::l₂),g,dr,tk,os⟩ pos () ⟨hp h (l₁++aK (es++[⟨hashInt k,.int k t,v⟩]) (n+1)::l₂),g,dr,tk+1,os⟩ pos:=by
 unfold dictSet;refine Ev.holding (Ev.bind (b:=5) (b':=5) (NL k t) ?_);unfold dictSetHashed;refine Ev.holding (Ev.bind (b:=1) (b':=4) (FQ hf) ?_);exact Ev.rule (b:=3) (vN hn hl)
noncomputable def aS:Nat->List (Int×Str)->List DictEntry
 |_,[]=>[]
 |T,(k,x)::r=>⟨hashInt k,.int k T,.str x (T+1)⟩::aS (T+3) r
theorem qZ(T:Nat):aS T []=[]:=rfl
theorem q9(T:Nat)(k:Int)(x:Str)(r:List (Int×Str)):aS T ((k,x)::r)=⟨hashInt k,.int k T,.str x (T+1)⟩::aS (T+3) r:=rfl
noncomputable def gU:Nat->List (Int×Str)->List DictEntry
 |_,[]=>[]
 |T,(k,x)::r=>⟨hashInt k,.int k T,.str x (T+1)⟩::gU (T+2) r
theorem rb(T:Nat):gU T []=[]:=rfl
theorem rc(T:Nat)(k:Int)(x:Str)(r:List (Int×Str)):gU T ((k,x)::r)=⟨hashInt k,.int k T,.str x (T+1)⟩::gU (T+2) r:=rfl
noncomputable def xA(k:Int):Sem Value:=mkInt k
noncomputable def xB(q:Pos)(x:Str):Sem Value:=do let v <-mkText x;standAt q;pure v
noncomputable def dB(q:Pos)(l:List (Int×Str)):List (Sem Value×Sem Value):=l.map fun(k,x)=>(xA k,xB q x)
theorem JN{s:Shared}(k:Int):Ev treeTable p w n₀ ann c 1 (xA k) s pos (.int k s.toks) {s with toks:=s.toks+1} pos:=Ev.fresh (b:=0) Ev.pure
theorem JO{s:Shared}(q:Pos)(x:Str):Ev treeTable p w n₀ ann c 2 (xB q x) s pos (.str x s.toks) {s with toks:=s.toks+1} q:=Ev.fresh (b:=1) (Ev.at (b:=0) Ev.pure)
noncomputable def Apart(es:List DictEntry):List (Int×Str)->Prop
 |[]=>True
 |(k,_)::r=>BB (hashInt k) es/\(∀y∈r,hashInt y.1≠hashInt k)/\Apart es r
theorem Apart.push{es:List DictEntry}{k x v}:∀{l:List (Int×Str)},Apart es l->(∀y∈l,hashInt y.1≠hashInt k)->Apart (es++[⟨hashInt k,x,v⟩]) l
 |[],_,_=>trivial
 |(k',_)::r,h,hk=>⟨fun e he=>by
  rcases cr.mp he with he|he
  ·exact h.1 e he
  ·obtain rfl:=cN.mp he
   exact fun q=>hk (k',_) (dJ) q.symm,h.2.1,Apart.push h.2.2 fun y hy=>hk y (by simp[hy])⟩
theorem BC{l₁ l₂:List Obj}(q:Pos)(hn:n₀<=h.objs.size+l₁.length):∀(l:List (Int×Str)) (es:List DictEntry) (n tk:Nat) (pos:Pos),Apart es l->es.length+l.length<1000->
  Ev treeTable p w n₀ ann c (13*l.length) (forIn (dB q l) PUnit.unit fun(x:Sem Value×Sem Value) (_:PUnit)=>(do
    let kv <-x.1
    let vv <-holding [kv] x.2
    holding [kv,vv] (dictSet (h.objs.size+l₁.length) kv vv)
    pure (ForInStep.yield PUnit.unit):Sem (ForInStep PUnit))) ⟨hp h (l₁++aK es n::l₂),g,dr,tk,os⟩ pos PUnit.unit
   ⟨hp h (l₁++aK (es++aS tk l) (n+l.length)::l₂),g,dr,tk+3*l.length,os⟩ (if l=[]then pos else q)
 |[],es,n,tk,pos,_,_=>by
  simp only[dB,nq,yV,qZ,q9,gn,eZ,pT,mY,eI];exact Ev.pure
 |(k,x)::r,es,n,tk,pos,ha,hl=>by
  simp only[dB,bn,pK];simp only[bA]at hl;refine Ev.mono (b:=(1+(2+(10+0)))+13*r.length) ?_ (by simp only[bA];omega);refine Ev.bind (a:=ForInStep.yield PUnit.unit) (s':=⟨hp h (l₁++aK (es++[⟨hashInt k,.int k tk,.str x (tk+1)⟩]) (n+1)::l₂),g,dr,tk+3,os⟩) (pos':=q) ?_ ?_
  ·refine Ev.bind (JN k) (Ev.bind (Ev.holding (JO q x)) (Ev.bind (Ev.holding (JM ha.1 hn (by omega))) Ev.pure))
  ·have:=BC (l₂:=l₂) q hn r (es++[⟨hashInt k,.int k tk,.str x (tk+1)⟩]) (n+1) (tk+3) q (ha.2.2.push ha.2.1) (by simp only[List.length_append,pU];omega)
   simp only[List.append_assoc,u5,ite_self]at this;simp only[qZ,q9,bA,eW,reduceCtorEq];rw[show n+(r.length+1)=n+1+r.length by omega,show tk+3*(r.length+1)=tk+3+3*r.length by omega];exact this
theorem FR{l₁:List Obj}(q:Pos)(l:List (Int×Str))(hn:n₀<=h.objs.size+l₁.length)(ha:Apart [] l)(hl:l.length=17):
  Ev treeTable p w n₀ ann c 223 (subDict (dB q l)) ⟨hp h l₁,g,dr,tk,os⟩ pos (h.objs.size+l₁.length) ⟨hp h (l₁++[aK (aS tk l) 17]),g,dr,tk+51,os⟩ q:=by
 unfold subDict;refine Ev.alloc (b:=222) ?_;rw[FO,FP];refine Ev.bind (b:=0) (b':=222) Ev.pure ?_;have bN:l≠[]:=fun e=>by rw[e]at hl;cases hl
 have key:=BC (p:=p) (w:=w) (ann:=ann) (c:=c) (g:=g) (dr:=dr) (os:=os) (l₂:=[]) q hn l [] 0 tk pos ha (by simp[hl]);rw[az bN,hl]at key;refine Ev.bind (b:=222) (b':=0) (a:=()) (Ev.holding ?_) Ev.pure;rw[az (by simp[dB,hl])];exact Ev.mono (b:=1+(0+(13*17+0))) (Ev.rule (Ev.bind Ev.pure (Ev.bind key Ev.pure))) (by omega)
noncomputable def TM:Nat->List (Int×Str)->List (Value×Value)
 |_,[]=>[]
 |T,(k,x)::r=>(.int k T,.str x (T+1))::TM (T+2) r
theorem zm(T:Nat):TM T []=[]:=rfl
theorem zn(T:Nat)(k:Int)(x:Str)(r:List (Int×Str)):TM T ((k,x)::r)=(.int k T,.str x (T+1))::TM (T+2) r:=rfl
theorem BD(q:Pos):∀(l:List (Int×Str)) (s:Shared) (pos:Pos),Ev treeTable p w n₀ ann c (3*l.length) (evalPairs (dB q l)) s pos (TM s.toks l) {s with toks:=s.toks+2*l.length} (if l=[]then pos else q)
 |[],s,pos=>by
  simp only[dB,nq,evalPairs,zm,zn,eZ,pT,mY,eI];exact Ev.pure
 |(k,x)::r,s,pos=>by
  simp only[dB,bn,evalPairs];refine Ev.mono (b:=1+(2+(3*r.length+0))) ?_ (by simp only[bA];omega);have:=BD q r {s with toks:=s.toks+2} q;simp only[ite_self]at this;simp only[eW,reduceCtorEq,zm,zn,bA];rw[show s.toks+2*(r.length+1)=s.toks+2+2*r.length by omega];exact Ev.bind (JN k) (Ev.bind (Ev.holding (JO q x)) (Ev.bind (Ev.holding this) Ev.pure))
theorem BE{l₁ l₂:List Obj}(hn:n₀<=h.objs.size+l₁.length):∀(l:List (Int×Str)) (T:Nat) (es:List DictEntry) (n tk:Nat) (pos:Pos),Apart es l->es.length+l.length<1000->
  Ev treeTable p w n₀ ann c (10*l.length) (forIn (TM T l) PUnit.unit fun(x:Value×Value) (_:PUnit)=>(do
    dictSet (h.objs.size+l₁.length) x.1 x.2
    pure (ForInStep.yield PUnit.unit):Sem (ForInStep PUnit))) ⟨hp h (l₁++aK es n::l₂),g,dr,tk,os⟩ pos PUnit.unit
   ⟨hp h (l₁++aK (es++gU T l) (n+l.length)::l₂),g,dr,tk+l.length,os⟩ pos
 |[],T,es,n,tk,pos,_,_=>by
  simp only[zm,zn,yV,rb,rc,gn,eZ,pT,mY];exact Ev.pure
 |(k,x)::r,T,es,n,tk,pos,ha,hl=>by
  simp only[zm,zn,pK];simp only[bA]at hl;refine Ev.mono (b:=(10+0)+10*r.length) ?_ (by simp only[bA];omega);refine Ev.bind (a:=ForInStep.yield PUnit.unit) (s':=⟨hp h (l₁++aK (es++[⟨hashInt k,.int k T,.str x (T+1)⟩]) (n+1)::l₂),g,dr,tk+1,os⟩) (pos':=pos) ?_ ?_
  ·exact Ev.bind (JM ha.1 hn (by omega)) Ev.pure
  ·have:=BE (l₂:=l₂) hn r (T+2) (es++[⟨hashInt k,.int k T,.str x (T+1)⟩]) (n+1) (tk+1) pos (ha.2.2.push ha.2.1) (by simp only[List.length_append,pU];omega)
   simp only[List.append_assoc,u5]at this;simp only[rb,rc,bA];rw[show n+(r.length+1)=n+1+r.length by omega,show tk+(r.length+1)=tk+1+r.length by omega];exact this
theorem NM{l₁:List Obj}(q:Pos)(l:List (Int×Str))(hn:n₀<=h.objs.size+l₁.length)(ha:Apart [] l)(hl:l.length<=15)(bN:l≠[]):
  Ev treeTable p w n₀ ann c (1+13*l.length) (subDict (dB q l)) ⟨hp h l₁,g,dr,tk,os⟩ pos (h.objs.size+l₁.length) ⟨hp h (l₁++[aK (gU tk l) l.length]),g,dr,tk+2*l.length+l.length,os⟩ q:=by
 unfold subDict;refine Ev.alloc (b:=13*l.length) ?_;rw[FO,FP];refine Ev.mono (b:=0+(3*l.length+(10*l.length+0)+0)) ?_ (by omega);refine Ev.bind Ev.pure ?_;refine Ev.bind (a:=()) (Ev.holding ?_) Ev.pure;rw[aw (by simpa[dB]using hl)];have k1:=BD (p:=p) (w:=w) (n₀:=n₀) (ann:=ann) (c:=c) q l ⟨hp h (l₁++[aK [] 0]),g,dr,tk,os⟩ pos;rw[az bN]at k1;refine Ev.bind k1 (Ev.holding ?_);have k2:=BE (p:=p) (w:=w) (ann:=ann) (c:=c) (g:=g) (dr:=dr) (os:=os) (l₂:=[]) hn l tk [] 0 (tk+2*l.length) q ha (by simp;omega);rw[kK,gq]at k2;exact Ev.bind k2 Ev.pure
theorem qc{l₁ l₂:List Obj}{es:List DictEntry}{n:Nat}{part}:Ev treeTable p w n₀ ann c 1 (dictEntries (h.objs.size+l₁.length) part) ⟨hp h (l₁++aK es n::l₂),g,dr,tk,os⟩ pos es.toArray ⟨hp h (l₁++aK es n::l₂),g,dr,tk,os⟩ pos:=
 Ev.load (b:=0) (qb h l₁ l₂ es n) Ev.pure
theorem BF{l₁ l₂:List Obj}{es:List DictEntry}{n:Nat}{part}:Ev treeTable p w n₀ ann c 1 (dictEpoch (h.objs.size+l₁.length) part) ⟨hp h (l₁++aK es n::l₂),g,dr,tk,os⟩ pos n ⟨hp h (l₁++aK es n::l₂),g,dr,tk,os⟩ pos:=
 Ev.load (b:=0) (qb h l₁ l₂ es n) Ev.pure
theorem BG{l₁ l₂:List Obj}{es':List DictEntry}{n':Nat}(hn:n₀<=h.objs.size+l₁.length)
  (hk:∀e∈es',∃k t,e.key= .int k t):∀(m i:Nat) (es:List DictEntry) (n:Nat),i+m=es'.length->es.length+m<1000->(es'.drop i).Pairwise (fun a b=>a.hash≠b.hash)->(∀a∈es,∀b∈es'.drop i,a.hash≠b.hash)->
  Ev treeTable p w n₀ ann c (6*m) (forIn (List.range' i m) PUnit.unit fun(i:Nat) (_:PUnit)=>(do
    let x <-dictEntries (h.objs.size+(l₁++aK es n::l₂).length)
    match x[i]? with
    |some e=>do
     holding [e.key,e.val] (dictPut (h.objs.size+l₁.length) e.hash e.key e.val)
     let ep <-dictEpoch (h.objs.size+(l₁++aK es n::l₂).length)
     if(ep != n')=true then do
      unsupported "dict.changed-during-merge"
      pure (ForInStep.yield PUnit.unit)
     else pure (ForInStep.yield PUnit.unit)
    |x=>do
     unsupported "dict.changed-during-merge"
     pure (ForInStep.yield PUnit.unit):Sem (ForInStep PUnit))) ⟨hp h ((l₁++aK es n::l₂)++[aK es' n']),g,dr,tk,os⟩ pos PUnit.unit
   ⟨hp h ((l₁++aK (es++es'.drop i) (n+m)::l₂)++[aK es' n']),g,dr,tk,os⟩ pos
 |0,i,es,n,hi,hl,No,hf=>by
  have:es'.drop i=[]:=uY (by omega);simp only[List.range'_zero,yV,this,gn,pT,mY];exact Ev.pure
 |m+1,i,es,n,hi,hl,oP,hf=>by
  have de:i<es'.length:=by omega
  have hd:es'.drop i=es'[i]::es'.drop (i+1):=(pf de);rw[hd]at oP hf ⊢;obtain⟨k,t,Hs⟩:=hk es'[i] (by simp);simp only[List.range'_succ,pK];refine Ev.mono (b:=(1+(4+(1+0)))+6*m) ?_ (by omega);refine Ev.bind (a:=ForInStep.yield PUnit.unit) (s':=⟨hp h ((l₁++aK (es++[es'[i]]) (n+1)::l₂)++[aK es' n']),g,dr,tk,os⟩) (pos':=pos) ?_ ?_
  ·refine Ev.bind (qc (l₁:=l₁++aK es n::l₂) (l₂:=[])) ?_
   have he:es'.toArray[i]?=some es'[i]:=by simp[de]
   rw[he];have NN:=Rk (p:=p) (w:=w) (n₀:=n₀) (ann:=ann) (c:=c) (h:=h) (g:=g) (dr:=dr) (tk:=tk) (os:=os) (pos:=pos) (l₁:=l₁) (l₂:=l₂++[aK es' n']) (es:=es) (n:=n) (k:=k) (t:=t) (v:=es'[i].val) (x:=es'[i].hash) (fun e Dh=>hf e Dh _ dJ) hn (by omega);rw[<-Hs]at NN;have e0:(⟨es'[i].hash,es'[i].key,es'[i].val⟩:DictEntry)=es'[i]:=rfl;rw[e0]at NN;simp only[List.append_assoc,List.cons_append]at NN ⊢;refine Ev.bind (Ev.holding NN) ?_;have hep:=BF (p:=p) (w:=w) (n₀:=n₀) (ann:=ann) (c:=c) (h:=h) (g:=g) (dr:=dr) (tk:=tk) (os:=os) (pos:=pos) (l₁:=l₁++aK (es++[es'[i]]) (n+1)::l₂) (l₂:=[]) (es:=es') (n:=n') (part:=none);simp only[List.append_assoc,List.cons_append,List.length_append,bA]at hep ⊢;refine Ev.bind hep ?_;rw[az (by simp)];exact Ev.pure
  ·have:=BG (l₁:=l₁) (l₂:=l₂) (n':=n') hn hk m (i+1) (es++[es'[i]]) (n+1) (by omega) (by simp;omega) (List.Pairwise.of_cons oP) (fun a ha b hb=>by
    rcases cr.mp ha with ha|ha
    ·exact hf a ha b (cw _ hb)
    ·obtain rfl:=cN.mp ha
     exact(List.pairwise_cons.mp oP).1 b hb)
   simp only[List.append_assoc,u5,List.length_append,bA]at this ⊢;rw[show n+(m+1)=n+1+m by omega];exact this
theorem BH{l₁ l₂:List Obj}{es es':List DictEntry}{n n':Nat}(hn:n₀<=h.objs.size+l₁.length)(bN:es≠[])(ly:(h.objs.size+(l₁++aK es n::l₂).length==sysModules)=false)
  (hk:∀e∈es',∃k t,e.key= .int k t) (oP:es'.Pairwise fun a b=>a.hash≠b.hash) (hf:∀a∈es,∀b∈es',a.hash≠b.hash) (hl:es.length+es'.length<1000):
  Ev treeTable p w n₀ ann c (5+6*es'.length) (mergeMapping (h.objs.size+l₁.length) (.ref (h.objs.size+(l₁++aK es n::l₂).length)) false) ⟨hp h ((l₁++aK es n::l₂)++[aK es' n']),g,dr,tk,os⟩ pos ()
   ⟨hp h ((l₁++aK (es++es') (n+es'.length)::l₂)++[aK es' n']),g,dr,tk,os⟩ pos:=by
 unfold mergeMapping;have s0:=qb h (l₁++aK es n::l₂) [] es' n';have W3:Ev treeTable p w n₀ ann c 1 (PySem.typeOf (.ref (h.objs.size+(l₁++aK es n::l₂).length))) ⟨hp h ((l₁++aK es n::l₂)++[aK es' n']),g,dr,tk,os⟩ pos (.type "dict") ⟨hp h ((l₁++aK es n::l₂)++[aK es' n']),g,dr,tk,os⟩ pos:=Ev.load (b:=0) s0 Ev.pure;refine Ev.mono (b:=(1+0)+((1+0)+(1+(1+(1+(6*es'.length+0)))))) ?_ (by omega);refine Ev.bind (a:=true) (s':=⟨hp h ((l₁++aK es n::l₂)++[aK es' n']),g,dr,tk,os⟩) (pos':=pos) ?_ ?_
 ·unfold isInstance
  refine Ev.bind W3 ?_;rw[isSubtype_dict_dict];exact Ev.pure
 ·dsimp only
  rw[aw rfl];refine Ev.bind (a:=some (.builtin "dict.__iter__")) (s':=⟨hp h ((l₁++aK es n::l₂)++[aK es' n']),g,dr,tk,os⟩) (pos':=pos) ?_ ?_
  ·unfold specialOf
   refine Ev.bind W3 ?_;rw[PySem.F.slot_dict_iter.lookup];exact Ev.pure
  ·have e1:(some (Value.builtin "dict.__iter__")==some (Value.builtin "dict.__iter__"))=true:=by simp
   rw[e1];refine Ev.PJ Ev.pure ?_;dsimp only;rw[az (by rw[ly];exact mX)];have k1:=qc (p:=p) (w:=w) (n₀:=n₀) (ann:=ann) (c:=c) (h:=h) (g:=g) (dr:=dr) (tk:=tk) (os:=os) (pos:=pos) (l₁:=l₁) (l₂:=l₂++[aK es' n']) (es:=es) (n:=n) (part:=none);have k2:=qc (p:=p) (w:=w) (n₀:=n₀) (ann:=ann) (c:=c) (h:=h) (g:=g) (dr:=dr) (tk:=tk) (os:=os) (pos:=pos) (l₁:=l₁++aK es n::l₂) (l₂:=[]) (es:=es') (n:=n') (part:=none);have k3:=BF (p:=p) (w:=w) (n₀:=n₀) (ann:=ann) (c:=c) (h:=h) (g:=g) (dr:=dr) (tk:=tk) (os:=os) (pos:=pos) (l₁:=l₁++aK es n::l₂) (l₂:=[]) (es:=es') (n:=n') (part:=none);have k4:=BG (p:=p) (w:=w) (n₀:=n₀) (ann:=ann) (c:=c) (h:=h) (g:=g) (dr:=dr) (tk:=tk) (os:=os) (pos:=pos) (l₁:=l₁) (l₂:=l₂) (es':=es') (n':=n') hn hk es'.length 0 es n (by omega) hl (by simpa using oP) (by simpa using hf);rw[<-List.cons_append,<-List.append_assoc]at k1;refine Ev.bind k1 ?_;rw[az (by simpa using bN)];refine Ev.bind k2 (Ev.bind k3 ?_);rw[List.range_eq_range'];simp only[List.drop_zero]at k4;refine Ev.bind (a:=PUnit.unit) ?_ Ev.pure;exact k4
noncomputable def gV:Nat->List (List (Int×Str))->List DictEntry
 |_,[]=>[]
 |T,l::r=>aS T l++gV (T+51) r
theorem vO(T:Nat):gV T []=[]:=rfl
theorem vP(T:Nat)(l:List (Int×Str))(r:List (List (Int×Str))):gV T (l::r)=aS T l++gV (T+51) r:=rfl
noncomputable def po:Nat->List (List (Int×Str))->List Obj
 |_,[]=>[]
 |T,l::r=>aK (aS T l) 17::po (T+51) r
theorem BI(T:Nat):po T []=[]:=rfl
theorem BJ(T:Nat)(l:List (Int×Str))(r:List (List (Int×Str))):po T (l::r)=aK (aS T l) 17::po (T+51) r:=rfl
noncomputable def cz(q:Pos)(l:List (Int×Str)):List (Option (Sem Value)×Sem Value):=l.map fun(k,x)=>(some (xA k),xB q x)
noncomputable def hs(l:List (Int×Str)):List Int:=l.map fun y=>hashInt y.1
theorem jo:∀(l:List (Int×Str)) (T:Nat),(aS T l).map (·.hash)=hs l
 |[],_=>rfl
 |(k,x)::r,T=>by simp only[qZ,q9,bn,jo r,hs]
theorem vQ:∀(l:List (Int×Str)) (T:Nat),(gU T l).map (·.hash)=hs l
 |[],_=>rfl
 |(k,x)::r,T=>by simp only[rb,rc,bn,vQ r,hs]
theorem gu:∀(l:List (Int×Str)) (T:Nat),(aS T l).length=l.length
 |[],_=>rfl
 |(k,x)::r,T=>by simp only[qZ,q9,bA,gu r]
theorem sS:∀(l:List (Int×Str)) (T:Nat),(gU T l).length=l.length
 |[],_=>rfl
 |(k,x)::r,T=>by simp only[rb,rc,bA,sS r]
theorem x7:∀(l:List (Int×Str)) (T:Nat),∀e∈aS T l,∃k t,e.key= .int k t
 |[],_,e,he=>by cases he
 |(k,x)::r,T,e,he=>by
  rcases bp.mp he with rfl|he
  ·exact⟨_,_,rfl⟩
  ·exact x7 r _ e he
theorem x8:∀(l:List (Int×Str)) (T:Nat),∀e∈gU T l,∃k t,e.key= .int k t
 |[],_,e,he=>by cases he
 |(k,x)::r,T,e,he=>by
  rcases bp.mp he with rfl|he
  ·exact⟨_,_,rfl⟩
  ·exact x8 r _ e he
theorem tP{es:List DictEntry}(h:(es.map (·.hash)).Nodup):es.Pairwise fun a b=>a.hash≠b.hash:=List.pairwise_map.mp h
theorem rd:∀{l:List (Int×Str)} {es:List DictEntry},(es.map (·.hash)++hs l).Nodup->Apart es l
 |[],_,_=>trivial
 |(k,x)::r,es,hn=>by
  have h2:=(kL.mp hn);refine⟨fun e he q=>h2.2.2 _ (bP.mpr ⟨e,he,rfl⟩) _ (dJ) q,fun y hy q=>?_,rd ?_⟩
  ·exact(gC.mp h2.2.1).1 (bP.mpr ⟨y,hy,q⟩)
  ·exact hn.sublist (List.sublist_append_right [_] _ |>.append_left _)
theorem BK(q:Pos)(k:Int)(x:Str)(r:List (Int×Str)):cz q ((k,x)::r)=(some (xA k),xB q x)::cz q r:=rfl
section
variable{F:Option (Sem Value)×Sem Value->Option Addr×List (Sem Value×Sem Value)->Sem (ForInStep (Option Addr×List (Sem Value×Sem Value)))}
theorem fill(xC:∀k v main run,run.length+1≠17->F (some k,v) (main,run)=pure (.yield (main,run++[(k,v)])))(q:Pos)(rest:List (Option (Sem Value)×Sem Value))(main:Option Addr):
  ∀(l:List (Int×Str)) (run:List (Sem Value×Sem Value)),run.length+l.length<17->forIn (cz q l++rest) (main,run) F=forIn rest (main,run++dB q l) F
 |[],run,_=>by simp[cz,dB]
 |(k,x)::r,run,hl=>by
  simp only[bA]at hl;rw[BK,List.cons_append,pK,xC _ _ _ _ (by omega)];have:=fill xC q rest main r (run++[(xA k,xB q x)]) (by simp;omega);show forIn (cz q r++rest) (main,run++[(xA k,xB q x)]) F=_;rw[this,List.append_assoc];rfl
variable{R:Addr->Value->Sem Unit}
variable(xC:∀k v main run,run.length+1≠17->F (some k,v) (main,run)=pure (.yield (main,run++[(k,v)])))
 (US:∀k v run,run.length+1=17->F (some k,v) (none,run)=(do let d <-(do let d <-subDict (run++[(k,v)]);pure (some d));pure (.yield (d,[]))))
 (Xz:∀k v d run,run.length+1=17->F (some k,v) (some d,run)=(do
  let m <-(do
   let sub <-holding [.ref d] (subDict (run++[(k,v)]))
   (holding [.ref d,.ref sub] (mergeMapping d (.ref sub) false)).onRaise (R d)
   pure (some d))
  pure (.yield (m,[]))))
include xC
theorem FS{l:List (Int×Str)}(hl:l.length=17):∃l' k x,l=l'++[(k,x)]/\l'.length=16:=by
 refine⟨l.dropLast,(l.getLast (by intro e;rw[e]at hl;cases hl)).1,(l.getLast (by intro e;rw[e]at hl;cases hl)).2,?_,by simp[hl]⟩;exact(rT (by intro e;rw[e]at hl;cases hl)).symm
include Xz
theorem JP{q:Pos}{l:List (Int×Str)}{rest:List (Option (Sem Value)×Sem Value)}(hl:l.length=17){E:List DictEntry}{n:Nat}{subs:List Obj}(hE:E≠[])(vR:(E.map (·.hash)++hs l).Nodup)(hlen:E.length+17<1000)
  (hn:n₀<=h.objs.size) (ly:sysModules<h.objs.size) {b:Nat} {a hZ io}
  (k:Ev treeTable p w n₀ ann c b (forIn rest (some h.objs.size,[]) F) ⟨hp h (aK (E++aS tk l) (n+17)::subs++[aK (aS tk l) 17]),g,dr,tk+51,os⟩ q a hZ io):
  Ev treeTable p w n₀ ann c (400+b) (forIn (cz q l++rest) (some h.objs.size,[]) F) ⟨hp h (aK E n::subs),g,dr,tk,os⟩ pos a hZ io:=by
 obtain⟨l',k',x',rfl,jK⟩:=FS xC hl;have e1:cz q (l'++[(k',x')])++rest=cz q l'++((some (xA k'),xB q x')::rest):=by simp[cz]
 rw[e1,fill xC q _ _ l' [] (by simp[jK]),kK,pK,Xz _ _ _ _ (by simp[dB,jK])];have e2:dB q l'++[(xA k',xB q x')]=dB q (l'++[(k',x')]):=by simp[dB]
 rw[e2];generalize hL:l'++[(k',x')]=L at*;have d0:(hs L).Nodup:=(kL.mp vR).2.1;have dd:=(kL.mp vR).2.2;have k1:=FR (p:=p) (w:=w) (n₀:=n₀) (ann:=ann) (c:=c) (h:=h) (g:=g) (dr:=dr) (tk:=tk) (os:=os) (pos:=pos) (l₁:=aK E n::subs) q L (by omega) (rd (by simpa using d0)) hl;have k2:=BH (p:=p) (w:=w) (n₀:=n₀) (ann:=ann) (c:=c) (h:=h) (g:=g) (dr:=dr) (tk:=tk+51) (os:=os) (pos:=q) (l₁:=[]) (l₂:=subs) (es:=E) (es':=aS tk L) (n:=n) (n':=17) (by simpa using hn) hE
  (pd.mpr (Nat.ne_of_gt (rU ly (nr _ _)))) (x7 L tk) (tP (by rw[jo];exact d0)) (fun a ha b hb=>dd _ (bP.mpr ⟨a,ha,rfl⟩) _ (by rw[<-jo L tk];exact bP.mpr ⟨b,hb,rfl⟩)) (by rw[gu,hl];exact hlen)
 simp only[kK,eZ,mY,gu,hl]at k2;refine Ev.mono (b:=(((223+(5+6*17+0))+0)+b)) ?_ (by omega);refine Ev.bind (a:=ForInStep.yield (some h.objs.size,[])) (Ev.bind (a:=some h.objs.size) (Ev.bind (Ev.holding k1) (Ev.bind (Ev.onRaise (Ev.holding k2)) Ev.pure)) Ev.pure) k
theorem x9{q:Pos}{rest:List (Option (Sem Value)×Sem Value)}(hn:n₀<=h.objs.size)(ly:sysModules<h.objs.size){b:Nat}{a hZ io}:∀(cs:List (List (Int×Str))) (E:List DictEntry) (n:Nat) (subs:List Obj) (tk:Nat),
  (∀l∈cs,l.length=17)->E≠[]->(E.map (·.hash)++hs cs.flatten).Nodup->E.length+17*cs.length<1000->
  (Ev treeTable p w n₀ ann c b (forIn rest (some h.objs.size,[]) F) ⟨hp h (aK (E++gV tk cs) (n+17*cs.length)::subs++po tk cs),g,dr,tk+51*cs.length,os⟩ q a hZ io)->
  Ev treeTable p w n₀ ann c (400*cs.length+b) (forIn (cz q cs.flatten++rest) (some h.objs.size,[]) F) ⟨hp h (aK E n::subs),g,dr,tk,os⟩ q a hZ io
 |[],E,n,subs,tk,_,_,_,_,k=>by
  simp only[List.flatten_nil,cz,nq,kK,eZ,pT,gq];simpa only[vO,vP,BI,BJ,gn,eZ,pT,mY]using k
 |l::cs,E,n,subs,tk,hl,hE,vR,hlen,k=>by
  simp only[bA]at hlen;have h1:l.length=17:=hl l (by simp);have XA:hs (l++cs.flatten)=hs l++hs cs.flatten:=by simp[hs]
  rw[gA,XA,<-List.append_assoc]at vR;have e1:cz q (l::cs).flatten++rest=cz q l++(cz q cs.flatten++rest):=by simp[cz]
  rw[e1];refine Ev.mono (b:=400+(400*cs.length+b)) ?_ (by simp only[bA];omega);refine JP xC Xz h1 hE (kL.mp vR).1 (by omega) hn ly ?_;have:=x9 hn ly cs (E++aS tk l) (n+17) (subs++[aK (aS tk l) 17]) (tk+51) (fun y hy=>hl y (by simp[hy])) (by simp[hE]) (by rw[List.map_append,jo];exact vR) (by rw[List.length_append,gu,h1];omega)
   (by
    simp only[vO,vP,BI,BJ,bA]at k;rw[show n+17+17*cs.length=n+17*(cs.length+1) by omega,show tk+51+51*cs.length=tk+51*(cs.length+1) by omega];simpa only[List.append_assoc,List.cons_append,kK,u5]using k)
  simpa only[List.cons_append]using this
omit Xz in
include US in
theorem JQ{q:Pos}{l:List (Int×Str)}{rest:List (Option (Sem Value)×Sem Value)}(hl:l.length=17)(vR:(hs l).Nodup)(hn:n₀<=h.objs.size){b:Nat}{a hZ io}
  (k:Ev treeTable p w n₀ ann c b (forIn rest (some h.objs.size,[]) F) ⟨hp h [aK (aS tk l) 17],g,dr,tk+51,os⟩ q a hZ io):
  Ev treeTable p w n₀ ann c (400+b) (forIn (cz q l++rest) (none,[]) F) ⟨h,g,dr,tk,os⟩ pos a hZ io:=by
 obtain⟨l',k',x',rfl,jK⟩:=FS xC hl;have e1:cz q (l'++[(k',x')])++rest=cz q l'++((some (xA k'),xB q x')::rest):=by simp[cz]
 rw[e1,fill xC q _ _ l' [] (by simp[jK]),kK,pK,US _ _ _ (by simp[dB,jK])];have e2:dB q l'++[(xA k',xB q x')]=dB q (l'++[(k',x')]):=by simp[dB]
 rw[e2];generalize hL:l'++[(k',x')]=L at*;have k1:=FR (p:=p) (w:=w) (n₀:=n₀) (ann:=ann) (c:=c) (h:=h) (g:=g) (dr:=dr) (tk:=tk) (os:=os) (pos:=pos) (l₁:=[]) q L (by simpa using hn) (rd (by simpa using vR)) hl;simp only[Rj,eZ,mY,kK]at k1;refine Ev.mono (b:=(((223+0)+0)+b)) ?_ (by omega);exact Ev.bind (a:=ForInStep.yield (some h.objs.size,[])) (Ev.bind (a:=some h.objs.size) (Ev.bind k1 Ev.pure) Ev.pure) k
end
theorem ya:∀(cs:List (List (Int×Str))),(∀l∈cs,l.length=17)->∀T,(gV T cs).length=17*cs.length
 |[],_,_=>rfl
 |l::cs,hc,T=>by
  simp only[vO,vP,List.length_append,gu,bA,ya cs (fun y hy=>hc y (by simp[hy])),hc l (by simp)];omega
theorem BL:∀(cs:List (List (Int×Str))) (T:Nat),(gV T cs).map (·.hash)=hs cs.flatten
 |[],_=>rfl
 |l::cs,T=>by
  have:hs (l++cs.flatten)=hs l++hs cs.flatten:=by simp[hs]
  rw[gV,List.map_append,jo,BL cs,gA,this]
theorem Ei{q:Pos}(re:List (Int×Str))(cs:List (List (Int×Str)))(l:List (Int×Str))(h0:re.length=17)(hc:∀l∈cs,l.length=17)(hl:l.length<=15)(bN:l≠[])(vR:(hs re++hs cs.flatten++hs l).Nodup)
  (hlen:17*cs.length<900) (hn:n₀<=h.objs.size) (ly:sysModules<h.objs.size):
  Ev treeTable p w n₀ ann c (400*cs.length+1000) (dictDisplay (cz q (re++(cs.flatten++l)))) ⟨h,g,dr,tk,os⟩ pos (.ref h.objs.size)
   ⟨hp h (aK (aS tk re++gV (tk+51) cs++gU (tk+51+51*cs.length) l) (17+17*cs.length+l.length)::po (tk+51) cs++[aK (gU (tk+51+51*cs.length) l) l.length]),g,dr,tk+51+51*cs.length+3*l.length,os⟩ q:=by
 have e1:cz q (re++(cs.flatten++l))=cz q re++(cz q cs.flatten++(cz q l++[])):=by simp[cz]
 unfold dictDisplay;dsimp only;rw[e1];refine Ev.mono (b:=(400+(400*cs.length+0))+((1+13*l.length)+((5+6*l.length)+0)+0)) ?_ (by omega);have JR:=kL.mp vR;have Zw:=kL.mp JR.1;refine Ev.bind (a:=(some h.objs.size,dB q l)) (s':=⟨hp h (aK (aS tk re++gV (tk+51) cs) (17+17*cs.length)::po (tk+51) cs),g,dr,tk+51+51*cs.length,os⟩) (pos':=q) ?_ ?_
 ·have xC:∀(k:Sem Value) (v:Sem Value) (main:Option Addr) (run:List (Sem Value×Sem Value)),run.length+1≠17->(((run++[(k,v)]).length==17)=true)=False:=fun k v main run hr=>by simpa using hr
  have US:∀(k:Sem Value) (v:Sem Value) (run:List (Sem Value×Sem Value)),run.length+1=17->(((run++[(k,v)]).length==17)=true)=True:=fun k v run hr=>by simpa using hr
  have hE:∀(k:Sem Value) (v:Sem Value) (run:List (Sem Value×Sem Value)),((run++[(k,v)]).isEmpty=true)=False:=fun k v run=>by simp
  refine JQ (fun k v main run hr=>?_) (fun k v run hr=>?_) h0 Zw.1 hn (x9 (R:=fun d x=>do let _ <-holding [Value.ref d,x] (runValue (Code.builtin "proto.let_go" { }));pure ()) (fun k v main run hr=>?_) (fun k v d run hr=>?_) hn ly cs (aS tk re) 17 [] (tk+51) hc (fun e=>?_) (by rw[jo];exact JR.1) (by rw[gu,h0];omega) ?_)
  ·dsimp only;rw[az (by rw[xC k v main run hr];exact id)]
  ·dsimp only;rw[aw (by rw[US k v run hr];trivial),az (by rw[hE];exact id)]
  ·dsimp only;rw[az (by rw[xC k v main run hr];exact id)]
  ·dsimp only;rw[aw (by rw[US k v run hr];trivial),az (by rw[hE];exact id)]
  ·have:=gu re tk
   rw[e,h0]at this;cases this
  ·rw[fill (fun k v main run hr=>by dsimp only;rw[az (by rw[xC k v main run hr];exact id)]) q [] _ l [] (by simp;omega)]
   simp only[yV,kK];exact Ev.pure
 ·have hlp:(dB q l).isEmpty=false:=by
   cases l with
   |nil=>exact absurd rfl bN
   |cons=>rfl
  dsimp only;rw[az (by rw[hlp];exact mX)];have len:(aS tk re++gV (tk+51) cs).length=17+17*cs.length:=by rw[List.length_append,gu,h0,ya cs hc]
  have hsE:(aS tk re++gV (tk+51) cs).map (·.hash)=hs re++hs cs.flatten:=by rw[List.map_append,jo,BL]
  have k1:=NM (p:=p) (w:=w) (n₀:=n₀) (ann:=ann) (c:=c) (h:=h) (g:=g) (dr:=dr) (tk:=tk+51+51*cs.length) (os:=os) (pos:=q) (l₁:=aK (aS tk re++gV (tk+51) cs) (17+17*cs.length)::po (tk+51) cs) q l (by omega) (rd (by simpa using JR.2.1)) hl bN;have k2:=BH (p:=p) (w:=w) (n₀:=n₀) (ann:=ann) (c:=c) (h:=h) (g:=g) (dr:=dr) (tk:=tk+51+51*cs.length+2*l.length+l.length) (os:=os) (pos:=q) (l₁:=[]) (l₂:=po (tk+51) cs) (es:=aS tk re++gV (tk+51) cs) (es':=gU (tk+51+51*cs.length) l) (n:=17+17*cs.length) (n':=l.length) (by simpa using hn)
   (by intro e;rw[e,eZ]at len;omega)
   (pd.mpr (Nat.ne_of_gt (rU ly (nr _ _)))) (x8 l _) (tP (by rw[vQ];exact JR.2.1))
   (fun a ha b hb=>JR.2.2 _ (by rw[<-hsE];exact bP.mpr ⟨a,ha,rfl⟩) _ (by rw[<-vQ l (tk+51+51*cs.length)];exact bP.mpr ⟨b,hb,rfl⟩)) (by rw[len,sS];omega)
  simp only[kK,eZ,mY,sS]at k2;rw[show tk+51+51*cs.length+3*l.length=tk+51+51*cs.length+2*l.length+l.length by omega];refine Ev.bind (a:=some h.objs.size) (Ev.bind (Ev.holding k1) (Ev.bind (Ev.onRaise (Ev.holding k2)) Ev.pure)) Ev.pure
end
noncomputable abbrev Ent:=(Int×Nat×Pos)×(Str×Nat×Pos)
noncomputable def kE(d:Ent):Option Expr:=some (.Constant (.int d.1.1) d.1.2.1 d.1.2.2)
noncomputable def vE(d:Ent):Expr:=.Constant (.str d.2.1) d.2.2.1 d.2.2.2
theorem JT(q:Pos)(env:Env)(D:List Ent):(evalEachOpt (D.map kE) env).zip ((evalEach (D.map vE) env).map fun v=>do let x <-v;standAt q;pure x)=cz q (D.map fun d=>(d.1.1,d.2.1)):=by
 induction D with
 |nil=>rfl
 |cons d D ih=>exact congrArg (List.cons _) ih
noncomputable def lT:Nat->List (Int×Str)->Bool
 |_,[]=>true
 |n,(.ofNat k,_)::r=>Nat.ble n k&&lT (k+1) r
 |_,(.negSucc _,_)::_=>false
theorem lU(n k:Nat)(x:Str)(r:List (Int×Str)):lT n ((.ofNat k,x)::r)=(Nat.ble n k&&lT (k+1) r):=rfl
theorem lV(n k:Nat)(x:Str)(r:List (Int×Str)):lT n ((.negSucc k,x)::r)=false:=rfl
set_option tactic.hygienic true in
theorem pr{k:Nat}(hk:k<2^61-1):hashInt (Int.ofNat k)=Int.ofNat k:=by
 have h1:rawHash (Int.ofNat k)=Int.ofNat k:=by
  have e:((k:Int) % ((2^61-1:Nat):Int))=(k:Int):=Int.emod_eq_of_lt (by omega) (by omega);simp only[rawHash,Int.ofNat_eq_natCast,Int.natAbs_natCast,e];split
  ·omega
  ·split
   ·rename_i h;have:=eq_of_beq h;omega
   ·rfl
 unfold hashInt;rw[h1,az];intro h;have:=eq_of_beq h;have:(0:Int)<=Int.ofNat k:=mz k;omega
theorem JU:∀{l:List (Int×Str)} {n:Nat},lT n l=true->∀y∈l,∃k:Nat,y.1=Int.ofNat k/\n<=k
 |[],_,_,y,hy=>by cases hy
 |(.ofNat k,x)::r,n,h,y,hy=>by
  simp only[lU,lV,dI,Nat.ble_eq]at h;rcases bp.mp hy with rfl|hy
  ·exact⟨k,rfl,h.1⟩
  ·obtain⟨k',e,hk⟩:=JU h.2 y hy
   exact⟨k',e,by omega⟩
 |(.negSucc _,_)::_,_,h,_,_=>by simp[lU,lV]at h
theorem yb:∀{l:List (Int×Str)} {n:Nat},lT n l=true->(∀y∈l,y.1<2^31)->(hs l).Nodup
 |[],_,_,_=>qK
 |(.ofNat k,x)::r,n,h,hb=>by
  simp only[lU,lV,dI,Nat.ble_eq]at h;refine gC.mpr ⟨fun hm=>?_,yb h.2 fun y hy=>hb y (by simp[hy])⟩;obtain⟨y,hy,e⟩:=bP.mp hm;obtain⟨k',e',hk⟩:=JU h.2 y hy;have b1:=hb y (by simp[hy]);have b2:=hb (Int.ofNat k,x) (by simp);rw[e']at e b1;have b1':((k':Nat):Int)<2147483648:=b1;have b2':((k:Nat):Int)<2147483648:=b2;dsimp only at e;rw[pr (by omega),pr (by omega)]at e;have:=rV e;omega
 |(.negSucc _,_)::_,_,h,_=>by simp[lU,lV]at h
end
noncomputable def ko:Stmt:=aJ pq.main.body 8
noncomputable def UT(k:Option Expr)(v:Expr):Ent:=(k.elim (0,0,default) (JH (0,0,default) (fun ø ø ø=>(0,0,default)) (fun i n p=>(i,n,p)) (fun ø ø ø=>(0,0,default))),JH (default,0,default) (fun ø ø ø=>(default,0,default)) (fun ø ø ø=>(default,0,default)) (fun x n p=>(x,n,p)) v)
noncomputable def Zx:List Ent:=(tN ko).zipWith UT (tO ko)
noncomputable def FU:List (Int×Str):=Zx.map fun d=>(d.1.1,d.2.1)
noncomputable def c0:List (Int×Str):=FU.take 17
noncomputable def cn(j:Nat):List (Int×Str):=(FU.drop (17*j)).take 17
noncomputable def cs:List (List (Int×Str)):=[cn 1,cn 2,cn 3,cn 4,cn 5,cn 6,cn 7,cn 8,cn 9,cn 10,cn 11,cn 12,cn 13,cn 14,cn 15,cn 16,cn 17,cn 18,cn 19,cn 20,cn 21,cn 22,cn 23,cn 24,cn 25,cn 26,cn 27,cn 28,cn 29,cn 30,cn 31,cn 32,cn 33,cn 34,cn 35,cn 36,cn 37]
noncomputable def cl:List (Int×Str):=FU.drop 646
noncomputable def sT:Obj:=aK (aS 297 c0++gV 348 cs++gU 2235 cl) 650
noncomputable def zo:Obj:=aK (aS 348 (cn 1)) 17
noncomputable def zp:Obj:=aK (aS 399 (cn 2)) 17
noncomputable def zq:Obj:=aK (aS 450 (cn 3)) 17
noncomputable def zr:Obj:=aK (aS 501 (cn 4)) 17
noncomputable def zt:Obj:=aK (aS 552 (cn 5)) 17
noncomputable def zu:Obj:=aK (aS 603 (cn 6)) 17
noncomputable def zv:Obj:=aK (aS 654 (cn 7)) 17
noncomputable def zw:Obj:=aK (aS 705 (cn 8)) 17
noncomputable def zx:Obj:=aK (aS 756 (cn 9)) 17
noncomputable def zy:Obj:=aK (aS 807 (cn 10)) 17
noncomputable def zz:Obj:=aK (aS 858 (cn 11)) 17
noncomputable def zA:Obj:=aK (aS 909 (cn 12)) 17
noncomputable def zB:Obj:=aK (aS 960 (cn 13)) 17
noncomputable def zC:Obj:=aK (aS 1011 (cn 14)) 17
noncomputable def zD:Obj:=aK (aS 1062 (cn 15)) 17
noncomputable def zE:Obj:=aK (aS 1113 (cn 16)) 17
noncomputable def zF:Obj:=aK (aS 1164 (cn 17)) 17
noncomputable def zG:Obj:=aK (aS 1215 (cn 18)) 17
noncomputable def zH:Obj:=aK (aS 1266 (cn 19)) 17
noncomputable def zI:Obj:=aK (aS 1317 (cn 20)) 17
noncomputable def zJ:Obj:=aK (aS 1368 (cn 21)) 17
noncomputable def zK:Obj:=aK (aS 1419 (cn 22)) 17
noncomputable def zL:Obj:=aK (aS 1470 (cn 23)) 17
noncomputable def zM:Obj:=aK (aS 1521 (cn 24)) 17
noncomputable def zN:Obj:=aK (aS 1572 (cn 25)) 17
noncomputable def zO:Obj:=aK (aS 1623 (cn 26)) 17
noncomputable def zP:Obj:=aK (aS 1674 (cn 27)) 17
noncomputable def zQ:Obj:=aK (aS 1725 (cn 28)) 17
noncomputable def zR:Obj:=aK (aS 1776 (cn 29)) 17
noncomputable def zS:Obj:=aK (aS 1827 (cn 30)) 17
noncomputable def zT:Obj:=aK (aS 1878 (cn 31)) 17
noncomputable def zU:Obj:=aK (aS 1929 (cn 32)) 17
noncomputable def JV:Obj:=aK (aS 1980 (cn 33)) 17
noncomputable def JW:Obj:=aK (aS 2031 (cn 34)) 17
noncomputable def JX:Obj:=aK (aS 2082 (cn 35)) 17
noncomputable def JY:Obj:=aK (aS 2133 (cn 36)) 17
noncomputable def JZ:Obj:=aK (aS 2184 (cn 37)) 17
noncomputable def J0:Obj:=aK (gU 2235 cl) 4
noncomputable def UU(P:Params):Obj:=mO (.type "dict") (.dict #[(d0 P),(d1 P),(d2 P),(d3 P),(d4 P),(d5 P),(d6 P),(d7 P),(d8 P),(d9 P),(NG P),(NH P),(NI P),(PF P),(Rh P),(TJ P)] 16)
noncomputable def b13(P:Params):BT:=(.node (boot_o_7 P) (.node ak (.node sJ (lf zp) (lf JW)) (.node ak (lf zG) .nil)) (.node aG (.node ak (lf zy) .nil) (.node aG (lf zO) .nil)))
noncomputable def b14:BT:=(.node ak (.node sE (.node kj (lf zu) (lf J0)) (.node vJ (lf zK) .nil)) (.node nS (.node sN (lf zC) .nil) (.node sR (lf zS) .nil)))
noncomputable def b15(P:Params):BT:=(.node (boot_o_5 P) (.node (boot_o_9 P) (.node sB (.node sK (lf zr) (lf JY)) (.node vI (lf zI) .nil)) (.node ak (.node qa (lf zA) .nil) (.node ak (lf zQ) .nil))) (.node lP (.node sG (.node aG (lf zw) .nil) (.node vK (lf zM) .nil)) (.node ak (.node sP (lf zE) .nil) (.node sT (lf zU) .nil))))
noncomputable def b16(P:Params):BT:=(.node (boot_o_2 P) (.node (boot_o_4 P) (.node (boot_o_8 P) (.node aG (.node ak (lf zq) (lf JX)) (.node vH (lf zH) .nil)) (.node sH (.node sM (lf zz) .nil) (.node vL (lf zP) .nil))) (.node JJ (.node sF (.node ak (lf zv) .nil) (.node ak (lf zL) .nil)) (.node jn (.node sO (lf zD) .nil) (.node lQ (lf zT) .nil)))) (.node (boot_o_6 P) (.node (boot_o_10 P) (.node ak (.node p9 (lf zt) (lf JZ)) (.node (km P) (lf zJ) .nil)) (.node sI (.node kl (lf zB) .nil) (.node vM (lf zR) .nil))) (.node ki (.node ak (.node sL (lf zx) .nil) (.node ak (lf zN) .nil)) (.node aG (.node sQ (lf zF) .nil) (.node zo (lf JV) .nil)))))
noncomputable def UV(P:Params):BT:=(.node (boot_o_0 P) (.node (boot_o_1 P) (.node (UU P) (b13 P) b14) (b15 P)) (b16 P))
noncomputable def Ht(P:Params):BT:=(.node (boot_o_0 P) (.node (boot_o_1 P) (.node (PG P) (b13 P) b14) (b15 P)) (b16 P))
theorem h_7(w:World):(fun os=>segRunT treeTable pq w 11 (some (.ref 6)) 1 30 (SS Zv 54 290 w os) (piecesOf (seg 7 1) E cE ⟨48,0,48,6⟩ [topFrame fp]))=fun os=>some (.next,SS PH 61 297 w os,cE,⟨49,0,50,30⟩):=by
 rw[qJ,jV]
 kernel_rfl!
theorem vS:FU=c0++(cs.flatten++cl):=by kernel_rfl!
theorem Zy:tN ko=Zx.map kE:=by kernel_rfl!
theorem Zz:tO ko=Zx.map vE:=by kernel_rfl!
theorem Rm:lT 0 FU=true:=by kernel_rfl!
theorem J1:(FU.all fun y=>y.1<2147483648)=true:=by kernel_rfl!
theorem BM:(hs c0++hs cs.flatten++hs cl).Nodup:=by
 have h:=yb Rm fun y hy=>by
  have:=cD.mp J1 y hy;simpa using this
 rw[vS]at h;simpa[hs]using h
theorem Rn:ko= .Assign (NK ko) (.Dict (tN ko) (tO ko) (mF ko)) (Eg ko):=by kernel_rfl!
theorem NO:seg 8 1=[ko]:=by kernel_rfl!
theorem J2(env:Env):swapsWithSole (NK ko) (.Dict (tN ko) (tO ko) (mF ko)) (Eg ko).line E=pure false:=by kernel_rfl!
noncomputable def vT(v:Value):Sem Flow:=do assignStores E v (<-swappedStores (NK ko) (.Dict (tN ko) (tO ko) (mF ko)) E) ((assignEach (NK ko) E).map (·.2))
theorem ZA(w:World):(fun os=>segRunT treeTable pq w 11 (some (.ref 6)) 1 8 (SS Ht 100 2247 w os) ⟨(vT (.ref 61)).wrap doneF deadEnd id id,cE,mF ko,[topFrame fp]⟩)=fun os=>some (.next,SS UV 100 2248 w os,cE,⟨51,0,51,13⟩):=by
 rw[qJ,jV]
 kernel_rfl!
theorem ZB(P:Params):hp (absHeap (PH P) 61 {}) (aK (aS 297 c0++gV 348 cs++gU 2235 cl) 650::po 348 cs++[aK (gU 2235 cl) 4])=absHeap (Ht P) 100 {}:=by kernel_rfl!
theorem Ro(P:Params):(absHeap (PH P) 61 {}).objs.size=61:=by kernel_rfl!
theorem J3:cs.length=37:=by kernel_rfl!
theorem Ej:cl.length=4:=by kernel_rfl!
theorem Rp:c0.length=17:=by kernel_rfl!
theorem Rq:(cs.all fun l=>l.length==17)=true:=by kernel_rfl!
theorem h_8(w:World)(os:OsState){rest:List Stmt}{N:Nat}{r:Shared}
  (k:topRun treeTable pq w 11 (some (.ref 6)) N (SS UV 100 2248 w os).abs (restOf rest E cE ⟨51,0,51,13⟩ [topFrame fp])=some r):
  topRun treeTable pq w 11 (some (.ref 6)) (16000+N) (SS PH 61 297 w os).abs (restOf (seg 8 1++rest) E cE ⟨49,0,50,30⟩ [topFrame fp])=some r:=by
 rw[NO];unfold restOf;rw[u5,execs_cons_wrap];generalize hK:(fun f:Flow=>_)=K at*;have UW:=Ei (p:=pq) (w:=w) (n₀:=11) (ann:=some (.ref 6)) (c:=cE) (h:=absHeap (PH w.params) 61 {}) (g:= #[]) (dr:={}) (tk:=297) (os:=os) (pos:=mF ko) (q:=mF ko) c0 cs cl Rp (fun l hl=>by simpa using cD.mp Rq l hl) (by rw[Ej];decide) (by intro e;have:=Ej;rw[e]at this;cases this) BM (by rw[J3];decide) (by rw[Ro];decide) (by rw[Ro];decide);rw[J3,Ej,Ro,<-vS]at UW;have hh:=ZB w.params;have hd:Ev treeTable pq w 11 (some (.ref 6)) cE (1+(400*37+1000)) (eval (.Dict (tN ko) (tO ko) (mF ko)) E) (SS PH 61 297 w os).abs (Eg ko) (.ref 61) (SS Ht 100 2247 w os).abs (mF ko):=by
  rw[arm_eval_Dict,Zy,Zz,JT];refine Ev.at (Ev.PJ Ev.pure ?_);rw[show(SS Ht 100 2247 w os).abs=⟨absHeap (Ht w.params) 100 {},#[],{},2247,os⟩from rfl,<-hh];exact UW
 have e8:exec ko E=(standAt (Eg ko)).bind fun ø=>(eval (.Dict (tN ko) (tO ko) (mF ko)) E).bind vT:=by
  conv=>lhs;rw[Rn]
  rw[arm_exec_Assign,J2 E];rfl
 generalize hD:eval (.Dict (tN ko) (tO ko) (mF ko)) E=D at*;have hE:(D.bind vT).wrap K (leaveH E) id id=D.wrap (fun v=>(vT v).wrap K (leaveH E) id id) (leaveH E) id id:=by rw[Sem.bind_eq_wrap,np];rfl
 have hS:(exec ko E).wrap K (leaveH E) id id=(standAt (Eg ko)).wrap (fun ø=>(D.bind vT).wrap K (leaveH E) id id) (leaveH E) id id:=by rw[e8,Sem.bind_eq_wrap,np];rfl
 rw[hS];have s1:lS treeTable pq w 11 (some (.ref 6)) 1 (SS PH 61 297 w os).abs ⟨(standAt (Eg ko)).wrap (fun ø=>(D.bind vT).wrap K (leaveH E) id id) (leaveH E) id id,cE,⟨49,0,50,30⟩,[topFrame fp]⟩ (SS PH 61 297 w os).abs ⟨(D.bind vT).wrap K (leaveH E) id id,cE,Eg ko,[topFrame fp]⟩:=
  Ev.at (b:=0) Ev.pure (fun ø=>(D.bind vT).wrap K (leaveH E) id id) (leaveH E) id id (topFrame fp) []
 have s2:=hd (fun v=>(vT v).wrap K (leaveH E) id id) (leaveH E) id id (topFrame fp) [];rw[hE]at s1 ⊢;obtain⟨a,ha,s3⟩:=seg_top (res:=id) (K':=K) (H':=leaveH E) (gd:=id) (lv:=id) (B:=[topFrame fp]) rfl 8 (SS Ht 100 2247 w os).abs ⟨(vT (.ref 61)).wrap doneF deadEnd id id,cE,mF ko,[topFrame fp]⟩ ⟨(vT (.ref 61)).wrap K (leaveH E) id id,cE,mF ko,[topFrame fp]⟩ _ _ _ _ ⟨rfl,rfl,.inl ⟨rfl,rfl,_,rfl,rfl⟩⟩ (qM (congrFun (ZA w) os));obtain rfl:a= .next:=ha
 have s4:topRun treeTable pq w 11 (some (.ref 6)) N (SS UV 100 2248 w os).abs ⟨K .next,cE,⟨51,0,51,13⟩,[topFrame fp]⟩=some r:=by
  rw[<-hK];exact k
 have s5:=lS.mono (s1.trans s2) (Nat.le_of_ble_eq_true rfl:1+(1+(400*37+1000))<=15992) (8+N) r (s3 N r s4);rw[<-Nat.add_assoc]at s5;exact s5
noncomputable def Rr(P:Params):Obj:=mO (.type "dict") (.dict #[(W9 P),(d1 P),(d2 P),(d3 P),(d4 P),(d5 P),(d6 P),(d7 P),(d8 P),(d9 P),(NG P),(NH P),(NI P),(PF P),(Rh P),(TJ P),(UC P),(UD P)] 18)
noncomputable def NP:Obj:=mO .none (.fields #[(iv 1),(iv 0),(.ref 20),(iv 5),(iv 0),(.ref 27),(iv 18),(iv 0),(.ref 34),(iv 36),(iv 0),(.ref 41),(iv 49),(iv 0),(.ref 59),(iv 52),(iv 0),(.ref 105),(iv 58),(iv 0),(.ref 112)])
noncomputable def J4:Obj:=mO (.type "tuple") (.seq #[(.str WO 2251),(.str ⟨#[114]⟩ 2252)] 0)
noncomputable def J5:Obj:=mO .none (fD MQ MQ (aJ pq.main.body 9) 0 .none .none)
noncomputable def BN:Obj:=cO MQ 2248 MQ 2249 s3 2250 52 1 0 0 3 100 true 181 101 (.ref 102) (.ref 103) (.ref 104) 2253 52 s3 2254
noncomputable def nU:Obj:=mO (.type "function") (fD MQ MQ (aJ pq.main.body 9) 3 (.str s1 228) (.ref 105))
noncomputable def J6:Obj:=mO (.type "builtin_function_or_method") (.fields #[(.builtin "type.__prepare__"),(.type "type")])
noncomputable def BO(P:Params):Obj:=mO (.type "dict") (.dict #[(d19 P),(dE P ⟨#[95,95,113,117,97,108,110,97,109,101,95,95]⟩ 2267 (.str DQ 2266)),(d20 P),(d21 P),(d22 P),(d23 P),(d24 P),(d25 P),(d26 P),(d27 P),(d28 P),(d29 P),(d30 P)] 13)
noncomputable def BP:Obj:=mO .none (.fields #[(iv 61),(iv 4),(.ref 122),(iv 84),(iv 4),(.ref 129),(iv 88),(iv 4),(.ref 136),(iv 95),(iv 4),(.ref 143),(iv 98),(iv 4),(.ref 150),(iv 106),(iv 4),(.ref 157),(iv 109),(iv 4),(.ref 164)])
noncomputable def vU:Obj:=cO DQ 2260 DQ 2261 s3 2262 58 0 0 0 0 110 false 181 111 .none .none .none 2263 58 s3 2264
noncomputable def vV:Obj:={cls:=(.type "frame"),dict:=none,data:=.plain,slots:= #[(some (.ref 112)),(some (.ref 3)),(some (.ref 109)),none,(some (.str IK 2256)),none,(some (.ref 0))]}
noncomputable def vW:Obj:=mO (.type "str_ascii_iterator") (.fields #[.none,(iv 2)])
noncomputable def vX:Obj:=mO (.type "StopIteration") (.fields #[(.ref 115),.none,.none,.none,(.bool false),.none])
noncomputable def vY:Obj:=mO (.type "tuple") (.seq #[(.str AP 2278),(.str ⟨#[119,115]⟩ 2279),(.str TX 2280),(.str TY 2281),(.str Tr 2282),(.str ⟨#[98]⟩ 2283),(.str T1 2284),(.str ⟨#[110,116]⟩ 2285),(.str Qn 2286)] 0)
noncomputable def vZ:Obj:=mO .none (fD WK X7 (aJ (e6 (aJ pq.main.body 11)) 1) 0 .none .none)
noncomputable def rf:Obj:=cO WK 2275 X7 2276 s3 2277 61 2 0 0 3 117 true 181 118 (.ref 119) (.ref 120) (.ref 121) 2287 61 s3 2288
noncomputable def iu:Obj:=mO (.type "function") (fD WK X7 (aJ (e6 (aJ pq.main.body 11)) 1) 3 (.str IK 2256) (.ref 122))
noncomputable def v3:Obj:=mO (.type "tuple") (.seq #[(.str AP 2293),(.str Tr 2294),(.str WP 2295)] 0)
noncomputable def v4:Obj:=mO .none (fD Pg X8 (aJ (e6 (aJ pq.main.body 11)) 2) 0 .none .none)
noncomputable def rg:Obj:=cO Pg 2290 X8 2291 s3 2292 84 1 0 0 3 124 true 181 125 (.ref 126) (.ref 127) (.ref 128) 2296 84 s3 2297
noncomputable def jp:Obj:=mO (.type "function") (fD Pg X8 (aJ (e6 (aJ pq.main.body 11)) 2) 3 (.str IK 2256) (.ref 129))
noncomputable def v5:Obj:=mO (.type "tuple") (.seq #[(.str AP 2302),(.str X9 2303),(.str Tr 2304),(.str WP 2305),(.str ⟨#[105,108]⟩ 2306),(.str ⟨#[105]⟩ 2307)] 0)
noncomputable def v6:Obj:=mO .none (fD MR Yb (aJ (e6 (aJ pq.main.body 11)) 3) 0 .none .none)
noncomputable def rh:Obj:=cO MR 2299 Yb 2300 s3 2301 88 2 0 0 3 131 true 181 132 (.ref 133) (.ref 134) (.ref 135) 2308 88 s3 2309
noncomputable def jq:Obj:=mO (.type "function") (fD MR Yb (aJ (e6 (aJ pq.main.body 11)) 3) 3 (.str IK 2256) (.ref 136))
noncomputable def v7:Obj:=mO (.type "tuple") (.seq #[(.str AP 2314),(.str Pj 2315)] 0)
noncomputable def v8:Obj:=mO .none (fD Ph Yc (aJ (e6 (aJ pq.main.body 11)) 4) 0 .none .none)
noncomputable def ri:Obj:=cO Ph 2311 Yc 2312 s3 2313 95 2 0 0 3 138 true 181 139 (.ref 140) (.ref 141) (.ref 142) 2316 95 s3 2317
noncomputable def jr:Obj:=mO (.type "function") (fD Ph Yc (aJ (e6 (aJ pq.main.body 11)) 4) 3 (.str IK 2256) (.ref 143))
noncomputable def v9:Obj:=mO (.type "tuple") (.seq #[(.str AP 2322),(.str Pj 2323),(.str T1 2324),(.str ⟨#[97]⟩ 2325),(.str ⟨#[116,115]⟩ 2326)] 0)
noncomputable def wb:Obj:=mO .none (fD Pi Yd (aJ (e6 (aJ pq.main.body 11)) 5) 0 .none .none)
noncomputable def rj:Obj:=cO Pi 2319 Yd 2320 s3 2321 98 2 0 0 3 145 true 181 146 (.ref 147) (.ref 148) (.ref 149) 2327 98 s3 2328
noncomputable def js:Obj:=mO (.type "function") (fD Pi Yd (aJ (e6 (aJ pq.main.body 11)) 5) 3 (.str IK 2256) (.ref 150))
noncomputable def wc:Obj:=mO (.type "tuple") (.seq #[(.str AP 2333),(.str Pj 2334)] 0)
noncomputable def we:Obj:=mO .none (fD WL Ye (aJ (e6 (aJ pq.main.body 11)) 6) 0 .none .none)
noncomputable def wf:Obj:=cO WL 2330 Ye 2331 s3 2332 106 2 0 0 3 152 true 181 153 (.ref 154) (.ref 155) (.ref 156) 2335 106 s3 2336
noncomputable def J7:Obj:=mO (.type "function") (fD WL Ye (aJ (e6 (aJ pq.main.body 11)) 6) 3 (.str IK 2256) (.ref 157))
noncomputable def J8:Obj:=mO (.type "tuple") (.seq #[(.str AP 2341),(.str Pj 2342)] 0)
noncomputable def J9:Obj:=mO .none (fD WM Yg (aJ (e6 (aJ pq.main.body 11)) 7) 0 .none .none)
noncomputable def Ka:Obj:=cO WM 2338 Yg 2339 s3 2340 109 2 0 0 3 159 true 181 160 (.ref 161) (.ref 162) (.ref 163) 2343 109 s3 2344
noncomputable def Kb:Obj:=mO (.type "function") (fD WM Yg (aJ (e6 (aJ pq.main.body 11)) 7) 3 (.str IK 2256) (.ref 164))
noncomputable def Kc:Obj:=mO (.type "tuple") (.seq #[(.str ⟨#[105,115,95,115,105,109,112,108,101]⟩ 2346),(.str T1 2347),(.str ⟨#[110,111,114,109]⟩ 2348),(.str ⟨#[110,116]⟩ 2349),(.str ⟨#[114,97,119]⟩ 2350)] 0)
noncomputable def iw(P:Params):Obj:=mO (.type "dict") (.dict #[(d19 P),(d20 P),(d21 P),(d22 P),(d23 P),(d24 P),(d25 P),(d26 P),(d27 P),(d28 P),(d29 P),(d30 P),(dE P s49 2353 (.ref 169)),(dE P s50 2355 (.ref 170)),(dE P s2 2356 .none)] 4)
noncomputable def wg:Obj:={cls:=(.type "type"),dict:=none,data:=(.cls {name:=DQ,bases:=[(.type "object")],mro:=[(.ref 168),(.type "object")],ns:=167,qualname:=DQ,hasDict:=true,slotNames:=[],subclasses:=[],abstract:=false,collection:=none,hasDel:=false}),slots:= #[none,none,(some (.str DQ 2258)),(some (.str DQ 2266)),(some (.builtin "object.__new__")),(some (.bool true))]}
noncomputable def Kd:Obj:=mO (.type "getset_descriptor") (.fields #[(.str s49 2352),(.ref 168),(.builtin "function.__dict__"),(.builtin "function.__dict__#set")])
noncomputable def Ke:Obj:=mO (.type "getset_descriptor") (.fields #[(.str s50 2354),(.ref 168),(.builtin "ExceptionGroup.__weakref__"),.none])
noncomputable def Kf:Obj:=mO (.type "super") (.fields #[(.ref 168),(.ref 168),(.ref 168)])
noncomputable def Kg:Obj:=mO (.type "builtin_function_or_method") (.fields #[(.builtin "object.__init_subclass__"),(.ref 168)])
noncomputable def ZC:BT:=(.node JW (lf ak) .nil)
noncomputable def b18:BT:=(.node sJ (.node zp (lf ak) .nil) ZC)
noncomputable def b19:BT:=(.node zG (lf ri) .nil)
noncomputable def ZD(P:Params):BT:=(.node ak (lf (iw P)) .nil)
noncomputable def b21(P:Params):BT:=(.node aG (.node ak (.node zy (lf v6) .nil) (ZD P)) (.node aG (.node zO (lf js) .nil) (lf vY)))
noncomputable def ZE(P:Params):BT:=(.node (boot_o_7 P) (.node ak b18 (.node ak b19 (lf BP))) (b21 P))
noncomputable def ZF:BT:=(.node J0 (lf J9) .nil)
noncomputable def ZG:BT:=(.node ak (lf Kf) .nil)
noncomputable def XB:BT:=(.node ak (.node sE (.node kj (.node zu (lf ak) .nil) ZF) (.node vJ (.node zK (lf v9) .nil) (lf ak))) (.node nS (.node sN (.node zC (lf aG) .nil) ZG) (.node sR (.node zS (lf ak) .nil) (lf iu))))
noncomputable def ZH:BT:=(.node JY (lf J8) .nil)
noncomputable def ZI:BT:=(.node BN (lf Kd) .nil)
noncomputable def b28(P:Params):BT:=(.node (boot_o_9 P) (.node sB (.node sK (.node zr (lf rg) .nil) ZH) (.node vI (.node zI (lf ak) .nil) (lf vV))) (.node ak (.node qa (.node zA (lf jq) .nil) ZI) (.node ak (.node zQ (lf aG) .nil) (lf vZ))))
noncomputable def ZJ:BT:=(.node aG (lf Kb) .nil)
noncomputable def b30:BT:=(.node sG (.node aG (.node zw (lf v5) .nil) ZJ) (.node vK (.node zM (lf wb) .nil) (lf ak)))
noncomputable def b31:BT:=(.node zE (lf ak) .nil)
noncomputable def b32:BT:=(.node sT (.node zU (lf wf) .nil) (lf aG))
noncomputable def ZK(P:Params):BT:=(.node (boot_o_5 P) (b28 P) (.node lP b30 (.node ak (.node sP b31 (lf (BO P))) b32)))
noncomputable def ZL:BT:=(.node JX (lf aG) .nil)
noncomputable def ZM:BT:=(.node J5 (lf wg) .nil)
noncomputable def ZN:BT:=(.node ak (lf Ka) .nil)
noncomputable def ZO:BT:=(.node J6 (lf Kg) .nil)
noncomputable def b38(P:Params):BT:=(.node (boot_o_4 P) (.node (boot_o_8 P) (.node aG (.node ak (.node zq (lf v4) .nil) ZL) (.node vH (.node zH (lf jr) .nil) (lf vU))) (.node sH (.node sM (.node zz (lf rh) .nil) ZM) (.node vL (.node zP (lf ak) .nil) (lf ak)))) (.node NP (.node sF (.node ak (.node zv (lf aG) .nil) ZN) (.node ak (.node zL (lf ak) .nil) (lf vX))) (.node jn (.node sO (.node zD (lf v7) .nil) ZO) (.node lQ (.node zT (lf we) .nil) (lf ak)))))
noncomputable def ZP:BT:=(.node JZ (lf ak) .nil)
noncomputable def ZQ:BT:=(.node nU (lf Ke) .nil)
noncomputable def b41(P:Params):BT:=(.node (boot_o_10 P) (.node ak (.node p9 (.node zt (lf jp) .nil) ZP) (.node (km P) (.node zJ (lf aG) .nil) (lf vW))) (.node sI (.node kl (.node zB (lf ak) .nil) ZQ) (.node vM (.node zR (lf wc) .nil) (lf rf))))
noncomputable def ZR:BT:=(.node J4 (lf Kc) .nil)
noncomputable def b43:BT:=(.node ak (.node sL (.node zx (lf ak) .nil) ZR) (.node ak (.node zN (lf rj) .nil) (lf aG)))
noncomputable def b44:BT:=(.node zF (lf v8) .nil)
noncomputable def ZS:BT:=(.node JV (lf J7) .nil)
noncomputable def b46:BT:=(.node zo ZS (lf v3))
noncomputable def ZT(P:Params):BT:=(.node (boot_o_2 P) (b38 P) (.node (boot_o_6 P) (b41 P) (.node ki b43 (.node aG (.node sQ b44 (lf ak)) b46))))
noncomputable def Rs(P:Params):BT:=(.node (boot_o_0 P) (.node (boot_o_1 P) (.node (Rr P) (ZE P) XB) (ZK P)) (ZT P))
noncomputable def Rt(P:Params):Obj:=mO (.type "dict") (.dict #[(W9 P),(d1 P),(d2 P),(d3 P),(d4 P),(d5 P),(d6 P),(d7 P),(d8 P),(d9 P),(NG P),(NH P),(NI P),(PF P),(Rh P),(TJ P),(UC P),(UD P),(Xa P),(Xb P),(Xc P),(Xd P),(Xe P),(Xf P),(Xg P),(Xh P),(Xi P),(Xj P),(Xk P),(Xl P),(Xm P),(Xn P),(Xo P),(Xp P),(Xq P),(Xr P),(Xs P),(Xu P),(Xv P),(Xw P),(Xx P),(Xy P)] 42)
noncomputable def UX(P:Params):BT:=(.node (boot_o_0 P) (.node (boot_o_1 P) (.node (Rt P) (ZE P) XB) (ZK P)) (ZT P))
noncomputable def Ru(P:Params):Obj:=mO (.type "dict") (.dict #[(W9 P),(d1 P),(d2 P),(d3 P),(d4 P),(d5 P),(d6 P),(d7 P),(d8 P),(d9 P),(NG P),(NH P),(NI P),(PF P),(Rh P),(TJ P),(UC P),(UD P),(Xa P),(Xb P),(Xc P),(Xd P),(Xe P),(Xf P),(Xg P),(Xh P),(Xi P),(Xj P),(Xk P),(Xl P),(Xm P),(Xn P),(Xo P),(Xp P),(Xq P),(Xr P),(Xs P),(Xu P),(Xv P),(Xw P),(Xx P),(Xy P),(Y6 P),(Y7 P),(Y8 P),(Y9 P),(Za P),(Zb P),(Zc P),(Zd P),(Ze P),(Zf P),(Zg P),(Zh P),(Zi P),(Zj P),(Zk P),(Zl P),(Zm P),(Zn P),(Zo P),(Zp P),(Zq P),(Zr P),(Zs P),(Zt P)] 66)
noncomputable def Rv(P:Params):BT:=(.node (boot_o_0 P) (.node (boot_o_1 P) (.node (Ru P) (ZE P) XB) (ZK P)) (ZT P))
noncomputable def Rw(P:Params):Obj:=mO (.type "dict") (.dict #[(W9 P),(d1 P),(d2 P),(d3 P),(d4 P),(d5 P),(d6 P),(d7 P),(d8 P),(d9 P),(NG P),(NH P),(NI P),(PF P),(Rh P),(TJ P),(UC P),(UD P),(Xa P),(Xb P),(Xc P),(Xd P),(Xe P),(Xf P),(Xg P),(Xh P),(Xi P),(Xj P),(Xk P),(Xl P),(Xm P),(Xn P),(Xo P),(Xp P),(Xq P),(Xr P),(Xs P),(Xu P),(Xv P),(Xw P),(Xx P),(Xy P),(Y6 P),(Y7 P),(Y8 P),(Y9 P),(Za P),(Zb P),(Zc P),(Zd P),(Ze P),(Zf P),(Zg P),(Zh P),(Zi P),(Zj P),(Zk P),(Zl P),(Zm P),(Zn P),(Zo P),(Zp P),(Zq P),(Zr P),(Zs P),(Zt P),(d79 P)] 67)
noncomputable def jt(P:Params):Obj:=mO (.type "dict") (.dict #[(dE P ⟨#[33]⟩ 2455 (.int (54) 2453)),(dE P ⟨#[33,61]⟩ 2457 (.int (28) 2401)),(dE P ⟨#[37]⟩ 2459 (.int (24) 2393)),(dE P ⟨#[37,61]⟩ 2461 (.int (40) 2425)),(dE P ⟨#[38]⟩ 2463 (.int (19) 2383)),(dE P ⟨#[38,61]⟩ 2465 (.int (41) 2427)),(dE P ⟨#[40]⟩ 2467 (.int (7) 2359)),(dE P ⟨#[41]⟩ 2469 (.int (8) 2361)),(dE P ⟨#[42]⟩ 2471 (.int (16) 2377)),(dE P ⟨#[42,42]⟩ 2473 (.int (35) 2415)),(dE P ⟨#[42,42,61]⟩ 2475 (.int (46) 2437)),(dE P ⟨#[42,61]⟩ 2477 (.int (38) 2421)),(dE P ⟨#[43]⟩ 2479 (.int (14) 2373)),(dE P ⟨#[43,61]⟩ 2481 (.int (36) 2417)),(dE P ⟨#[44]⟩ 2483 (.int (12) 2369)),(dE P ⟨#[45]⟩ 2485 (.int (15) 2375)),(dE P ⟨#[45,61]⟩ 2487 (.int (37) 2419)),(d80 P),(d81 P),(d82 P),(d83 P),(d84 P),(d85 P),(d86 P),(d87 P),(d88 P),(d89 P),(d90 P),(d91 P),(d92 P),(d93 P),(d94 P),(d95 P),(d96 P),(d97 P),(d98 P),(d99 P),(UE P),(UF P),(UG P),(UH P),(UI P),(UJ P),(UK P),(UL P),(UM P),(UN P),(UO P)] 48)
noncomputable def Kh(P:Params):Obj:=mO (.type "dict") (.dict #[(d80 P),(d81 P),(d82 P),(d83 P),(d84 P),(d85 P),(d86 P),(d87 P),(d88 P),(d89 P),(d90 P),(d91 P),(d92 P),(d93 P),(d94 P),(d95 P),(d96 P)] 17)
noncomputable def Ki(P:Params):Obj:=mO (.type "dict") (.dict #[(d97 P),(d98 P),(d99 P),(UE P),(UF P),(UG P),(UH P),(UI P),(UJ P),(UK P),(UL P),(UM P),(UN P),(UO P)] 14)
noncomputable def ZU(P:Params):BT:=(.node BP (lf (Ki P)) .nil)
noncomputable def ZV(P:Params):BT:=(.node (BO P) (lf (jt P)) .nil)
noncomputable def ZW(P:Params):BT:=(.node ak (lf (Kh P)) .nil)
noncomputable def Rx(P:Params):BT:=(.node (boot_o_0 P) (.node (boot_o_1 P) (.node (Rw P) (.node (boot_o_7 P) (.node ak b18 (.node ak b19 (ZU P))) (b21 P)) XB) (.node (boot_o_5 P) (b28 P) (.node lP b30 (.node ak (.node sP b31 (ZV P)) b32)))) (.node (boot_o_2 P) (b38 P) (.node (boot_o_6 P) (b41 P) (.node ki b43 (.node aG (.node sQ b44 (ZW P)) b46)))))
noncomputable def ew(P:Params):Obj:=mO (.type "dict") (.dict #[(dE P s0 165 (.str M0 2552)),(d1 P),(d2 P),(d3 P),(d4 P),(d5 P),(d6 P),(d7 P),(d8 P),(d9 P),(NG P),(NH P),(NI P),(PF P),(Rh P),(TJ P),(UC P),(UD P),(Xa P),(Xb P),(Xc P),(Xd P),(Xe P),(Xf P),(Xg P),(Xh P),(Xi P),(Xj P),(Xk P),(Xl P),(Xm P),(Xn P),(Xo P),(Xp P),(Xq P),(Xr P),(Xs P),(Xu P),(Xv P),(Xw P),(Xx P),(Xy P),(Y6 P),(Y7 P),(Y8 P),(Y9 P),(Za P),(Zb P),(Zc P),(Zd P),(Ze P),(Zf P),(Zg P),(Zh P),(Zi P),(Zj P),(Zk P),(Zl P),(Zm P),(Zn P),(Zo P),(Zp P),(Zq P),(Zr P),(Zs P),(Zt P),(d79 P),(dE P IL 2559 (.ref 180)),(dE P IM 2565 (.ref 185)),(dE P G4 2572 (.ref 192)),(dE P MS 2585 (.ref 199)),(dE P IN 2591 (.ref 204)),(dE P IO 2597 (.ref 209)),(dE P IP 2607 (.ref 216)),(dE P Qo 2613 (.ref 221))] 75)
noncomputable def FV:Obj:=mO .none (.fields #[(iv 1),(iv 0),(.ref 20),(iv 5),(iv 0),(.ref 27),(iv 18),(iv 0),(.ref 34),(iv 36),(iv 0),(.ref 41),(iv 49),(iv 0),(.ref 59),(iv 52),(iv 0),(.ref 105),(iv 58),(iv 0),(.ref 112),(iv 161),(iv 0),(.ref 179),(iv 178),(iv 0),(.ref 184),(iv 193),(iv 0),(.ref 191),(iv 195),(iv 0),(.ref 198),(iv 208),(iv 0),(.ref 203),(iv 218),(iv 0),(.ref 208),(iv 230),(iv 0),(.ref 215),(iv 238),(iv 0),(.ref 220)])
noncomputable def BR:Obj:=mO .none (fD IL IL (aJ pq.main.body 62) 0 .none .none)
noncomputable def wi:Obj:=cO IL 2554 IL 2555 s3 2556 161 2 0 0 3 176 true 181 177 .none .none (.ref 178) 2557 161 s3 2558
noncomputable def kY:Obj:=mO (.type "function") (fD IL IL (aJ pq.main.body 62) 3 (.str M0 2552) (.ref 179))
noncomputable def BS:Obj:=mO .none (fD IM IM (aJ pq.main.body 63) 0 .none .none)
noncomputable def wj:Obj:=cO IM 2560 IM 2561 s3 2562 178 3 0 0 3 181 true 181 182 .none .none (.ref 183) 2563 178 s3 2564
noncomputable def kZ:Obj:=mO (.type "function") (fD IM IM (aJ pq.main.body 63) 3 (.str M0 2552) (.ref 184))
noncomputable def BU:Obj:=mO (.type "tuple") (.seq #[(.str M1 2569)] 0)
noncomputable def BV:Obj:=mO .none (fD G4 G4 (aJ pq.main.body 64) 0 .none .none)
noncomputable def wk:Obj:=cO G4 2566 G4 2567 s3 2568 193 1 0 0 3 186 true 181 187 (.ref 188) (.ref 189) (.ref 190) 2570 193 s3 2571
noncomputable def la:Obj:=mO (.type "function") (fD G4 G4 (aJ pq.main.body 64) 3 (.str M0 2552) (.ref 191))
noncomputable def BW:Obj:=mO (.type "tuple") (.seq #[(.str WQ 2576),(.str ⟨#[108,101,102,116]⟩ 2577),(.str Yh 2578),(.str Yi 2579),(.str Ts 2580),(.str ⟨#[117,110,105,116]⟩ 2581),(.str s65 2582)] 0)
noncomputable def BX:Obj:=mO .none (fD MS MS (aJ pq.main.body 65) 0 .none .none)
noncomputable def wm:Obj:=cO MS 2573 MS 2574 s3 2575 195 1 0 0 3 193 true 181 194 (.ref 195) (.ref 196) (.ref 197) 2583 195 s3 2584
noncomputable def lb:Obj:=mO (.type "function") (fD MS MS (aJ pq.main.body 65) 3 (.str M0 2552) (.ref 198))
noncomputable def BY:Obj:=mO .none (fD IN IN (aJ pq.main.body 66) 0 .none .none)
noncomputable def wn:Obj:=cO IN 2586 IN 2587 s3 2588 208 1 0 0 3 200 true 181 201 .none .none (.ref 202) 2589 208 s3 2590
noncomputable def ld:Obj:=mO (.type "function") (fD IN IN (aJ pq.main.body 66) 3 (.str M0 2552) (.ref 203))
noncomputable def BZ:Obj:=mO .none (fD IO IO (aJ pq.main.body 67) 0 .none .none)
noncomputable def wo:Obj:=cO IO 2592 IO 2593 s3 2594 218 1 0 0 3 205 true 181 206 .none .none (.ref 207) 2595 218 s3 2596
noncomputable def ju:Obj:=mO (.type "function") (fD IO IO (aJ pq.main.body 67) 3 (.str M0 2552) (.ref 208))
noncomputable def B0:Obj:=mO (.type "tuple") (.seq #[(.str IX 2601),(.str WR 2602),(.str IQ 2603),(.str Fs 2604)] 0)
noncomputable def B1:Obj:=mO .none (fD IP IP (aJ pq.main.body 68) 0 .none .none)
noncomputable def wp:Obj:=cO IP 2598 IP 2599 s3 2600 230 1 0 0 3 210 true 181 211 (.ref 212) (.ref 213) (.ref 214) 2605 230 s3 2606
noncomputable def lh:Obj:=mO (.type "function") (fD IP IP (aJ pq.main.body 68) 3 (.str M0 2552) (.ref 215))
noncomputable def B2:Obj:=mO .none (fD Qo Qo (aJ pq.main.body 69) 0 .none .none)
noncomputable def B3:Obj:=cO Qo 2608 Qo 2609 s3 2610 238 1 0 0 3 217 true 181 218 .none .none (.ref 219) 2611 238 s3 2612
noncomputable def B4:Obj:=mO (.type "function") (fD Qo Qo (aJ pq.main.body 69) 3 (.str M0 2552) (.ref 220))
noncomputable def UY(P:Params):BT:=(.node (boot_o_0 P) (.node (boot_o_1 P) (.node (ew P) (.node (boot_o_7 P) (.node ak (.node sJ (.node zp (lf ak) (lf wk)) ZC) (.node ak (.node zG (lf ri) (lf BZ)) (ZU P))) (.node aG (.node ak (.node zy (lf v6) (lf lb)) (ZD P)) (.node aG (.node zO (lf js) (lf wp)) (.node vY (lf BS) .nil)))) (.node ak (.node sE (.node kj (.node zu (lf ak) (lf BW)) ZF) (.node vJ (.node zK (lf v9) (lf aG)) (.node ak (lf wi) .nil))) (.node nS (.node sN (.node zC (lf aG) (lf wn)) ZG) (.node sR (.node zS (lf ak) (lf B2)) (.node iu (lf aG) .nil))))) (.node (boot_o_5 P) (.node (boot_o_9 P) (.node sB (.node sK (.node zr (lf rg) (lf ak)) ZH) (.node vI (.node zI (lf ak) (lf ju)) (.node vV (lf aG) .nil))) (.node ak (.node qa (.node zA (lf jq) (lf aG)) ZI) (.node ak (.node zQ (lf aG) (lf ak)) (.node vZ (lf kZ) .nil)))) (.node lP (.node sG (.node aG (.node zw (lf v5) (lf BX)) ZJ) (.node vK (.node zM (lf wb) (lf ak)) (.node ak (lf ak) .nil))) (.node ak (.node sP (.node zE (lf ak) (lf ak)) (ZV P)) (.node sT (.node zU (lf wf) (lf B4)) b0))))) (.node (boot_o_2 P) (.node (boot_o_4 P) (.node (boot_o_8 P) (.node aG (.node ak (.node zq (lf v4) (lf la)) ZL) (.node vH (.node zH (lf jr) (lf wo)) (.node vU (lf ak) .nil))) (.node sH (.node sM (.node zz (lf rh) (lf ak)) ZM) (.node vL (.node zP (lf ak) (lf lh)) (.node ak (lf wj) .nil)))) (.node FV (.node sF (.node ak (.node zv (lf aG) (lf ak)) ZN) (.node ak (.node zL (lf ak) (lf B0)) (.node vX (lf kY) .nil))) (.node jn (.node sO (.node zD (lf v7) (lf ld)) ZO) (.node lQ (.node zT (lf we) (lf B3)) (.node ak (lf BU) .nil))))) (.node (boot_o_6 P) (.node (boot_o_10 P) (.node ak (.node p9 (.node zt (lf jp) (lf aG)) ZP) (.node (km P) (.node zJ (lf aG) (lf ak)) (.node vW (lf BR) .nil))) (.node sI (.node kl (.node zB (lf ak) (lf BY)) ZQ) (.node vM (.node zR (lf wc) (lf aG)) (.node rf (lf ak) .nil)))) (.node ki (.node ak (.node sL (.node zx (lf ak) (lf wm)) ZR) (.node ak (.node zN (lf rj) (lf B1)) (.node aG (lf aG) .nil))) (.node aG (.node sQ (.node zF (lf v8) (lf aG)) (ZW P)) (.node zo ZS (.node v3 (lf BV) .nil)))))))
noncomputable def TN(P:Params):BT:=(.node (boot_o_0 P) (.node (boot_o_1 P) (.node (ew P) (.node (boot_o_7 P) (.node ak (.node sJ (.node zp (lf ak) (lf wk)) ZC) (.node ak (.node zG (lf ri) (lf BZ)) (ZU P))) (.node aG (.node ak (.node zy (lf v6) (lf lb)) (ZD P)) (.node aG (.node zO (lf js) (lf wp)) (.node vY (lf BS) .nil)))) (.node ak (.node sE (.node kj (.node zu (lf ak) (lf BW)) ZF) (.node vJ (.node zK (lf v9) (lf aG)) (.node ak (lf wi) .nil))) (.node nS (.node sN (.node zC (lf aG) (lf wn)) ZG) (.node sR (.node zS (lf ak) (lf B2)) (.node iu (lf aG) .nil))))) (.node (boot_o_5 P) (.node (boot_o_9 P) (.node sB (.node sK (.node zr (lf rg) (lf ak)) ZH) (.node vI (.node zI (lf ak) (lf ju)) (.node vV (lf aG) .nil))) (.node ak (.node qa (.node zA (lf jq) (lf aG)) ZI) (.node ak (.node zQ (lf aG) (lf ak)) (.node vZ (lf kZ) .nil)))) (.node lP (.node sG (.node aG (.node zw (lf v5) (lf BX)) ZJ) (.node vK (.node zM (lf wb) (lf ak)) (.node ak (lf ak) .nil))) (.node ak (.node sP (.node zE (lf ak) (lf ak)) (ZV P)) (.node sT (.node zU (lf wf) (lf B4)) b0))))) (.node (boot_o_2 P) (.node (boot_o_4 P) (.node (boot_o_8 P) (.node aG (.node ak (.node zq (lf v4) (lf la)) ZL) (.node vH (.node zH (lf jr) (lf wo)) (.node vU (lf ak) .nil))) (.node sH (.node sM (.node zz (lf rh) (lf ak)) ZM) (.node vL (.node zP (lf ak) (lf lh)) (.node ak (lf wj) .nil)))) (.node FV (.node sF (.node ak (.node zv (lf aG) (lf ak)) ZN) (.node ak (.node zL (lf ak) (lf B0)) (.node vX (lf kY) .nil))) (.node jn (.node sO (.node zD (lf v7) (lf ld)) ZO) (.node lQ (.node zT (lf we) (lf B3)) (.node ak (lf BU) .nil))))) (.node (boot_o_6 P) (.node (boot_o_10 P) (.node ak (.node p9 (.node zt (lf jp) (lf aG)) ZP) (.node (km P) (.node zJ (lf aG) (lf ak)) (.node vW (lf BR) .nil))) (.node sI (.node kl (.node zB (lf ak) (lf BY)) ZQ) (.node vM (.node zR (lf wc) (lf aG)) (.node rf (lf ak) .nil)))) (.node ki (.node ak (.node sL (.node zx (lf ak) (lf wm)) ZR) (.node ak (.node zN (lf rj) (lf B1)) (.node aG (lf aG) .nil))) (.node aG (.node sQ (.node zF (lf v8) (lf aG)) (ZW P)) (.node zo ZS (.node v3 (lf BV) .nil)))))))
theorem ZX(w:World):(fun os=>segRunT treeTable pq w 11 (some (.ref 6)) 1 533 (SS UV 100 2248 w os) (piecesOf (seg 9 3) E cE ⟨51,0,51,13⟩ [topFrame fp]))=fun os=>some (.next,SS Rs 173 2359 w os,cE,⟨58,0,110,16⟩):=by
 refine byRow2 "special-get-raises" (P:=fun w=>(fun os=>segRunT treeTable pq w 11 (some (.ref 6)) 1 533 (SS UV 100 2248 w os) (piecesOf (seg 9 3) E cE ⟨51,0,51,13⟩ [topFrame fp]))=fun os=>some (.next,SS Rs 173 2359 w os,cE,⟨58,0,110,16⟩)) ?_ ?_ w<;>clear w<;>intro w
 all_goals rw[qJ,jV]
 all_goals kernel_rfl!
theorem ZY(w:World):(fun os=>segRunT treeTable pq w 11 (some (.ref 6)) 1 217 (SS Rs 173 2359 w os) (piecesOf (seg 12 24) E cE ⟨58,0,110,16⟩ [topFrame fp]))=fun os=>some (.next,SS UX 173 2407 w os,cE,⟨134,0,134,12⟩):=by
 rw[qJ,jV]
 kernel_rfl!
theorem ZZ(w:World):(fun os=>segRunT treeTable pq w 11 (some (.ref 6)) 1 217 (SS UX 173 2407 w os) (piecesOf (seg 36 24) E cE ⟨134,0,134,12⟩ [topFrame fp]))=fun os=>some (.next,SS Rv 173 2455 w os,cE,⟨158,0,158,11⟩):=by
 rw[qJ,jV]
 kernel_rfl!
theorem Z0(w:World):(fun os=>segRunT treeTable pq w 11 (some (.ref 6)) 1 979 (SS Rv 173 2455 w os) (piecesOf (seg 60 1) E cE ⟨158,0,158,11⟩ [topFrame fp]))=fun os=>some (.next,SS Rx 176 2552 w os,cE,⟨159,0,159,17⟩):=by
 refine byRow2 "special-get-raises" (P:=fun w=>(fun os=>segRunT treeTable pq w 11 (some (.ref 6)) 1 979 (SS Rv 173 2455 w os) (piecesOf (seg 60 1) E cE ⟨158,0,158,11⟩ [topFrame fp]))=fun os=>some (.next,SS Rx 176 2552 w os,cE,⟨159,0,159,17⟩)) ?_ ?_ w<;>clear w<;>intro w
 all_goals rw[qJ,jV]
 all_goals kernel_rfl!
theorem Z1(w:World):(fun os=>segRunT treeTable pq w 11 (some (.ref 6)) 1 236 (SS Rx 176 2552 w os) (piecesOf (seg 61 9) E cE ⟨159,0,159,17⟩ [topFrame fp]))=fun os=>some (.next,SS UY 222 2614 w os,cE,⟨238,0,269,50⟩):=by
 rw[qJ,jV]
 kernel_rfl!
theorem UZ(w:World):(fun os=>topRun treeTable pq w 11 (some (.ref 6)) 2 (SS UY 222 2614 w os).abs ⟨doneF .next,cE,⟨238,0,269,50⟩,[topFrame fp]⟩)=fun os=>some (SS TN 222 2614 w os).abs:=by
 rw[PySem.W.Fast.te14082659384304107361,jV]
 kernel_rfl!
theorem NQ:behindTheImports pq=seg 0 6++(seg 6 1++(seg 7 1++(seg 8 1++(seg 9 3++(seg 12 24++(seg 36 24++(seg 60 1++(seg 61 9++[])))))))):=by kernel_rfl!
theorem U0(w:World)(os:OsState):topRun treeTable pq w 11 (some (.ref 6)) (12+(1+(146+(999+(30+(16000+(533+(217+(217+(979+(236+2))))))))))) ⟨boot_heap w.params,#[],boot_drawn,boot_toks,os⟩ (topStub pq)=some (SS TN 222 2614 w os).abs:=by
 refine go_top (congrFun (UR w) os) ?_;refine piece_block (congrFun (NJ w) os) ?_;have k9:=nu (rest:=[]) (qM (congrFun (Z1 w) os)) (piece_nil (congrFun (UZ w) os));have k8:=nu (qM (congrFun (Z0 w) os)) k9;have k7:=nu (qM (congrFun (ZZ w) os)) k8;have k6:=nu (qM (congrFun (ZY w) os)) k7;have k5:=nu (qM (congrFun (ZX w) os)) k6;have k4:=h_8 w os k5;have k3:=nu (qM (congrFun (h_7 w) os)) k4;have k2:=nu (qM (congrFun (h_6 w) os)) k3;have k1:=nu (qM (congrFun (h_5 w) os)) k2;rw[<-NQ]at k1;exact k1
noncomputable def VQ:Program:={pq with main:={pq.main with body:=seg 69 1} }
noncomputable def LS:List Str:=pq.boundNames.filter fun x=>!(x==(Str.ofString "law"))
noncomputable def HZ(P:Params):Heap:=absHeap (TN P) 222 {}
theorem Ry(w:World):((boot_heap w.params).isNs mainGlobals&&(#[]:Array GenState).size==0,(boot_heap w.params).objs.size,(boot_heap w.params).nsMap mainGlobals "__annotations__")=(true,11,some (.ref 6)):=by kernel_rfl!
theorem NR(w:World):(fun os=>(staticsOk (importedModules pq.main.body) (boot_heap w.params) (HZ w.params)&&namesBound pq (HZ w.params)&&gensDone ⟨HZ w.params,#[],{},2614,os⟩&&laidKept (boot_heap w.params) (HZ w.params)))=fun(_:OsState)=>true:=by kernel_rfl!
noncomputable def XT(s:Shared):Bool:=recOk (RowW.records (OpenRow.toRowW (OpenLaw.row PySem.Challenge.rw_sl0032_01))) s
theorem NS(w:World):(fun os=>openSeen VQ LS (importedModules pq.main.body) XT true ⟨HZ w.params,#[],{},2614,os⟩)=fun ø=>openGood VQ LS:=by
 rw[PySem.W.Fast.te4187177175401517315]
 kernel_rfl!
theorem Rz:LeftO pq VQ LS XT (fun s=>s.heap) (fun w=>HZ w.params) 40000 true:=
 LeftO.of_pieces (H₀:=boot_heap) (H₁:=HZ) (gs₀:=Array.mk []) (gs₁:= #[]) (d₀:=boot_drawn) (d₁:={}) (k₀:=boot_toks) (k₁:=2614) (m₀:=11) (ann:=some (.ref 6)) (M:=12+(1+(146+(999+(30+(16000+(533+(217+(217+(979+(236+2)))))))))))
  (boot_open (by kernel_rfl!) (by decide) fun s=>by kernel_rfl!) Ry U0 (by decide)
  fun w=>by
   funext os
   exact Prod.ext (congrFun (NR w) os) (Prod.ext (congrFun (NS w) os) rfl)
noncomputable def rq:OpenLaw:={prog:=pq,name:=(PySem.Str.ofString "law"),about:=[(PySem.Str.ofString "_check_parenthesis")],foot:=8,most:=some 63,bound:=none,writes:=false}
theorem U1:PySem.Challenge.rw_sl0032_01=rq:=congrArg (fun p=>({prog:=p,name:=(PySem.Str.ofString "law"),about:=[(PySem.Str.ofString "_check_parenthesis")],foot:=8,most:=some 63,bound:=none,writes:=false}:OpenLaw)) UA
theorem U2:OpenLaw.wellSaid rq=true:=by
 rw[PySem.W.Fast.te9446332074065402090]
 kernel_rfl!
noncomputable abbrev RW:OpenRow:=OpenLaw.row rq
noncomputable def oU:DefRec:=⟨Str.ofString "law",UB (aJ pq.main.body 69),dz (aJ pq.main.body 69),kh (aJ pq.main.body 69),(aJ pq.main.body 69).pos⟩
noncomputable abbrev YP(w:World)(h:Heap):Prop:=∀a o,(HZ w.params).get? a=some o->h.get? a=some o
theorem top_holds(hw:RW.toRowW.promised)(walk:WalkO VQ LS (fun ø ø=>True) YP RW.toRowW oU [] fun f vs=>PySem.call f vs):PySem.Challenge.rw_sl0032_01.Holds:=by
 rw[U1];refine holds_law U2 fun Z2=>?_
 have hl:=Rz;exact PySem.W.holds_open (q:=VQ) (loose:=LS) (Xt:=XT) (XP:=fun ø ø=>True) (Yf:=fun s=>s.heap) (Ya:=fun w=>HZ w.params) (YP:=YP) (N:=40000) hl
  (fun w s e a o h=>by rw[show s.heap=HZ w.params from e];exact h) (fun w h h' y k a o e=>k a o (y a o e)) (fun ø ø=>trivial) (fun ø ø ø ø ø=>trivial)
  (d:=oU) (kwd:=[]) (by kernel_rfl!) (by kernel_rfl!) (by kernel_rfl!) (fun s e=>recFacts_of e) (by kernel_rfl!) Z2 (by kernel_rfl!) ⟨rfl,rfl,rfl,rfl,rfl,by decide+kernel⟩ hw walk
theorem prom:RW.toRowW.promised:=RowW.promised_of_found (by decide+kernel)
noncomputable def Kj(prog:Program)(w:World)(OB:Heap->Addr->List Value->(Addr->Prop)->Prop)(ok:IZ OB)(ag:Heap)(mg mb:Str->Option Value)(hg:ag.Ns mainGlobals mg)(hb:ag.Ns builtinsNs mb)(nl:ag.NoLimit):Pk where
 prog:=prog
 w:=w
 OB:=OB
 ok:=ok
 G:=fun h=>∀b o,ag.get? b=some o->h.get? b=some o
 Gk:=fun g k b o e=>k b o (g b o e)
 glob:=fun x=>match mg x with
  |some v=>some v
  |none=>mb x
 nolim:=fun g=>by
  obtain⟨mc,h1,h2⟩:=nl;exact⟨mc,h1.keeps g,h2⟩
 aM:=fun g=>⟨mg,mb,hg.keeps g,hb.keeps g,fun x v e=>by
  cases q:mg x with
  |some u=>rw[q]at e;exact .inl e
  |none=>rw[q]at e;exact .inr ⟨rfl,e⟩⟩
theorem NT(w:World)(cl:Str->Option Addr)(Z3:ExcName->Option Value)(args:List WData)(s₁ s':Shared)(k:Kp s₁ s')(hg:s₁.gens= #[]):GoodWG RW.toRowW.claim cl Z3 args s₁ (.ok (.ret (.bool true))) s':=by
 refine⟨.inl ⟨_,.bool true,[],rfl,fun cls=>rfl,.bool true,?_,fun ø=>⟨qK,fun a h=>(nomatch h)⟩⟩,.of_keep k.keep,k.os,k.gens.2 (.of_eq hg)⟩
 kernel_rfl
set_option tactic.hygienic true in
theorem items_int{R:WRecords}:∀{xs:List WData},WShape.hasItems R xs .int=true->∃ns:List Int,xs=ns.map .int
 |[],_=>⟨[],rfl⟩
 |x::xs,h=>by
  simp only[WShape.hasItems,dI]at h;obtain⟨h1,h2⟩:=h;obtain⟨ns,rfl⟩:=items_int h2;cases x<;>try cases h1
  rename_i i;exact⟨i::ns,rfl⟩
set_option tactic.hygienic true in
theorem NU{R:WRecords}{args:List WData}(h:WShape.hasAll R args [.list .int]=true):∃ns:List Int,args=[.list (ns.map .int)]:=by
 cases args with
 |nil=>simp[WShape.hasAll]at h
 |cons x xs=>
  cases xs with
  |cons y ys=>simp[WShape.hasAll]at h
  |nil=>
   simp only[WShape.hasAll,dI]at h;obtain⟨h1,_⟩:=h;cases x<;>try(first|cases h1|exact absurd h1 mX)
   rename_i _ xs;have h2:(WShape.hasItems R xs .int||false)=true:=h1;obtain⟨ns,rfl⟩:=items_int ((Bool.or_false _).symm.trans h2);exact⟨ns,rfl⟩
theorem NV{args:List WData}(h:RW.toRowW.claim.pre args=true):∃ns:List Int,args=[.list (ns.map .int)]/\ns.length<=63:=by
 have h':(WShape.hasAll RW.toRowW.records args RW.toRowW.args&&RW.toRowW.pre.holds RW.toRowW.records {args:=args})=true:=h;rw[dI]at h';have e1:RW.toRowW.args=[.list .int]:=by kernel_rfl
 have e2:RW.toRowW.pre= .and (.not (.lt (.lit (.int 63)) (.len (.arg 0)))) (.lit (.bool true)):=by kernel_rfl
 rw[e1,e2]at h';obtain⟨ns,rfl⟩:=NU h'.1;refine⟨ns,rfl,?_⟩;have h2:WTm.holds RW.toRowW.records (.and (.not (.lit (.bool (decide ((63:Int)<((ns.map WData.int).length:Int)))))) (.lit (.bool true))) {args:=[.list (ns.map .int)]}=true:=h'.2;rw[bi]at h2;by_cases hc:ns.length<=63
 ·exact hc
 ·rw[eK (by omega)]at h2
  exact absurd (h2:false=true) mX
theorem yc{P:Pk}{Q:Params}{h:Heap}{hid:List Addr}:∀{ns:List Int} {vs:List Value},WellAll Q h vs (ns.map .int)->aU P h hid (ns.map .int) vs
 |[],vs,e=>by cases e;exact aV.nil
 |n::ns,vs,e=>by
  cases e with
  |cons h1 h2=>
   cases h1;exact .cons (Dn.ofInt (P:=P) _ _) (yc h2)
theorem NW(OB:Heap->Addr->List Value->(Addr->Prop)->Prop)(ok:IZ OB)
  (core:∀(w:World) (ag:Heap) (mg mb:Str->Option Value) (hg:ag.Ns mainGlobals mg) (hb:ag.Ns builtinsNs mb) (nl:ag.NoLimit),(∀x:Str,x≠"__name__"->mb x=bootBuiltins x)->YP w ag->
   ∀(a:Addr) (o:Obj) (pm cd doc dV kV:Value),ag.get? a=some o->o.data= .func {docDef oU.name oU.params oU.body oU.scope pm cd doc with defaults:=dV,kwdefaults:=kV}->ag.CodeRec cd oU.name->Dflts mg ag oU.params [] dV kV->
    ∃n F,aZ (Kj RW.toRowW.prog w OB ok ag mg mb hg hb nl) n (.ref a) F/\bW n callerA/\∀ns:List Int,ns.length<=63->F [.list (ns.map .int)]=some (.bool true)):
  WalkO VQ LS (fun ø ø=>True) YP RW.toRowW oU [] fun f vs=>PySem.call f vs:=by
 intro w aW s₁ mg mb G y a o pm cd doc dV kV ho hd hc hD hm U3 args vals as Z4 ae4 hrd U4 ae5;obtain⟨ns,rfl,hlen⟩:=NV Z4;obtain⟨n,F,hF,hR,hT⟩:=core w s₁.heap mg mb G.T.g G.T.b G.T.nolimit G.T.builtins y a o pm cd doc dV kV ho hd hc hD
 cases U4 with
 |cons h1 h2=>
  cases h2
  cases h1 with
  |list hl hi=>
   refine au (hF callerA s₁ [] [.list (ns.map .int)] (.bool true) _ _ hR (fun ø ø e=>e) (fun ø q=>(nomatch q)) (.cons (Dn.ofList (fun q=>(nomatch q)) ⟨0,hl⟩ (yc hi)) .nil) (hT ns hlen)) (fun v s' q=>?_) fun ø ø q=>q
   obtain rfl:=q.2.bool_inv;exact NT w _ _ _ s₁ s' q.1 U3
noncomputable def RA{α:Type}(d:α)(fK:Array DictEntry->α)(fS:Array (Int×Value)->α)(fF:FuncData->α)(x:Data):α:= @Data.casesOn (fun ø=>α) x d (fun ø=>d) (fun ø ø=>d) (fun es ø=>fK es) (fun es ø ø=>fS es) (fun ø ø=>d) (fun ø=>d) (fF) (fun ø=>d) (fun ø=>d) d
noncomputable def ents(o:Obj):Array DictEntry:=RA #[] (fun es=>es) (fun ø=> #[]) (fun ø=> #[]) o.data
theorem rk(P:Params){a:Nat}{o:Obj}(ha:(TN P).get a=some o)(de:a<222)(hf:o.alive=true):(HZ P).get? a=some o:=by
 have h1:(HZ P).objs[a]?=some o:=by
  unfold HZ;rw[absHeap_at,aw de,ha];rfl
 exact(u6 _ _ _).mpr ⟨h1,hf⟩
theorem at3(P:Params):(HZ P).get? mainGlobals=some (ew P):=rk P (by kernel_rfl) (by decide) (by kernel_rfl)
theorem PK{w:World}{ag:Heap}{mg:Str->Option Value}(hg:ag.Ns mainGlobals mg)(y:YP w ag)(x:Str):mg x=nsFind (ents (ew w.params)) x:=by
 obtain⟨o,es,ep,h1,h2,h3,h4⟩:=hg;have h5:=y _ _ (at3 w.params);rw[h1]at h5;cases h5;rw[<-h4];unfold ents;rw[h2];rfl
theorem RB(P:Params):nsFind (ents (ew P)) "range"=none/\nsFind (ents (ew P)) "len"=none/\nsFind (ents (ew P)) "ord"=none/\nsFind (ents (ew P)) "chr"=none/\nsFind (ents (ew P)) "sum"=none/\nsFind (ents (ew P)) "max"=none/\nsFind (ents (ew P)) "sorted"=none/\nsFind (ents (ew P)) "set"=none/\nsFind (ents (ew P)) "str"=none/\nsFind (ents (ew P)) "list"=none/\nsFind (ents (ew P)) "tuple"=none/\nsFind (ents (ew P)) "enumerate"=none:=by
 refine⟨?_,?_,?_,?_,?_,?_,?_,?_,?_,?_,?_,?_⟩<;>kernel_rfl
theorem U5:bootBuiltins "range"=some (.type "range")/\bootBuiltins "len"=some (.builtin "len")/\bootBuiltins "ord"=some (.builtin "ord")/\bootBuiltins "chr"=some (.builtin "chr")/\bootBuiltins "sum"=some (.builtin "sum")/\bootBuiltins "max"=some (.builtin "max")/\bootBuiltins "sorted"=some (.builtin "sorted")/\bootBuiltins "set"=some (.type "set")/\bootBuiltins "str"=some (.type "str")/\bootBuiltins "list"=some (.type "list")/\bootBuiltins "tuple"=some (.type "tuple")/\bootBuiltins "enumerate"=some (.type "enumerate"):=by
 refine⟨?_,?_,?_,?_,?_,?_,?_,?_,?_,?_,?_,?_⟩<;>kernel_rfl
noncomputable def fdOf(o:Obj):FuncData:=RA default (fun ø=>default) (fun ø=>default) (fun fd=>fd) o.data
theorem iy{w:World}{ag h:Heap}(y:YP w ag)(g:∀b o,ag.get? b=some o->h.get? b=some o){a c:Nat}{o oc:Obj}{vs t}(ha:(TN w.params).get a=some o)(de:a<222)(hf:o.alive=true)(hd:o.data= .func (fdOf o))(hk:o.cls= .type "function")
  (hc:(TN w.params).get c=some oc) (Z5:c<222) (hcf:oc.alive=true) (hcd:oc.data= .fields vs) (U6:(fdOf o).code= .ref c) (hq:vs[1]?=some (.str (fdOf o).qualname t)):
  (∃o',h.get? a=some o'/\o'.cls= .type "function"/\o'.data= .func (fdOf o))/\h.CodeRec (fdOf o).code (fdOf o).qualname:=
 ⟨⟨o,g _ _ (y _ _ (rk _ ha de hf)),hk,hd⟩,⟨c,oc,vs,t,U6,g _ _ (y _ _ (rk _ hc Z5 hcf)),hcd,hq⟩⟩
theorem xD{C:List Value->Prop}(h:∀a0,C [a0]):∀vs:List Value,vs.length=1->C vs:=fun vs e=>by
 obtain⟨a0,rfl⟩:∃a0,vs=[a0]:=by
  rcases vs with _|⟨a0,_|⟨b,vs⟩⟩<;>first|exact⟨_,rfl⟩|simp at e
 exact h _
theorem Kk{C:List Value->Prop}(h:∀a0 a1,C [a0,a1]):∀vs:List Value,vs.length=2->C vs:=fun vs e=>by
 obtain⟨a0,a1,rfl⟩:∃a0 a1,vs=[a0,a1]:=by
  rcases vs with _|⟨a0,_|⟨a1,_|⟨b,vs⟩⟩⟩<;>first|exact⟨_,_,rfl⟩|simp at e
 exact h _ _
theorem Z6{C:List Value->Prop}(h:∀a0 a1 a2,C [a0,a1,a2]):∀vs:List Value,vs.length=3->C vs:=fun vs e=>by
 obtain⟨a0,a1,a2,rfl⟩:∃a0 a1 a2,vs=[a0,a1,a2]:=by
  rcases vs with _|⟨a0,_|⟨a1,_|⟨a2,_|⟨b,vs⟩⟩⟩⟩<;>first|exact⟨_,_,_,rfl⟩|simp at e
 exact h _ _ _
structure nV(fd:FuncData)(s:Stmt)(ps:List Str):Prop where
 body:fd.body= .stmts (dz s)
 gl:fd.globals=mainGlobals
 bl:fd.builtins=builtinsNs
 clo:fd.closure=[]
 scope:fd.scope=kh s
 bind:∀vs:List Value,vs.length=ps.length->bindArgs fd ⟨vs,[]⟩=pure (ps.zip vs)
theorem U7{w:World}{ag h:Heap}(y:YP w ag)(g:∀b o,ag.get? b=some o->h.get? b=some o):(∃o',h.get? 28=some o'/\o'.cls= .type "function"/\o'.data= .func (fdOf jn))/\h.CodeRec (fdOf jn).code (fdOf jn).qualname:=
 iy (a:=28) (c:=27) (oc:=nS) y g (by kernel_rfl) (by decide) (by kernel_rfl) rfl rfl (by kernel_rfl) (by decide) (by kernel_rfl) rfl rfl rfl
theorem PL{w:World}{ag h:Heap}(y:YP w ag)(g:∀b o,ag.get? b=some o->h.get? b=some o):(∃o',h.get? 35=some o'/\o'.cls= .type "function"/\o'.data= .func (fdOf kj))/\h.CodeRec (fdOf kj).code (fdOf kj).qualname:=
 iy (a:=35) (c:=34) (oc:=p9) y g (by kernel_rfl) (by decide) (by kernel_rfl) rfl rfl (by kernel_rfl) (by decide) (by kernel_rfl) rfl rfl rfl
noncomputable abbrev U8:List Str:=[Qm]
theorem U9(P:Params):nV (fdOf kj) (aJ pq.main.body 3) U8:=⟨rfl,rfl,rfl,rfl,rfl,xD fun v0=>rfl⟩
theorem PM{w:World}{ag h:Heap}(y:YP w ag)(g:∀b o,ag.get? b=some o->h.get? b=some o):(∃o',h.get? 42=some o'/\o'.cls= .type "function"/\o'.data= .func (fdOf kl))/\h.CodeRec (fdOf kl).code (fdOf kl).qualname:=
 iy (a:=42) (c:=41) (oc:=qa) y g (by kernel_rfl) (by decide) (by kernel_rfl) rfl rfl (by kernel_rfl) (by decide) (by kernel_rfl) rfl rfl rfl
noncomputable abbrev Va:List Str:=[Qm]
theorem Vb(P:Params):nV (fdOf kl) (aJ pq.main.body 4) Va:=⟨rfl,rfl,rfl,rfl,rfl,xD fun v0=>rfl⟩
theorem PN{w:World}{ag h:Heap}(y:YP w ag)(g:∀b o,ag.get? b=some o->h.get? b=some o):(∃o',h.get? 60=some o'/\o'.cls= .type "function"/\o'.data= .func (fdOf lQ))/\h.CodeRec (fdOf lQ).code (fdOf lQ).qualname:=
 iy (a:=60) (c:=59) (oc:=sR) y g (by kernel_rfl) (by decide) (by kernel_rfl) rfl rfl (by kernel_rfl) (by decide) (by kernel_rfl) rfl rfl rfl
noncomputable abbrev Vc:List Str:=[WO]
theorem Vd(P:Params):nV (fdOf lQ) (aJ pq.main.body 7) Vc:=⟨rfl,rfl,rfl,rfl,rfl,xD fun v0=>rfl⟩
theorem Kl{w:World}{ag h:Heap}(y:YP w ag)(g:∀b o,ag.get? b=some o->h.get? b=some o):(∃o',h.get? 106=some o'/\o'.cls= .type "function"/\o'.data= .func (fdOf nU))/\h.CodeRec (fdOf nU).code (fdOf nU).qualname:=
 iy (a:=106) (c:=105) (oc:=BN) y g (by kernel_rfl) (by decide) (by kernel_rfl) rfl rfl (by kernel_rfl) (by decide) (by kernel_rfl) rfl rfl rfl
noncomputable abbrev RC:List Str:=[WO]
theorem RD(P:Params):nV (fdOf nU) (aJ pq.main.body 9) RC:=⟨rfl,rfl,rfl,rfl,rfl,xD fun v0=>rfl⟩
theorem Km{w:World}{ag h:Heap}(y:YP w ag)(g:∀b o,ag.get? b=some o->h.get? b=some o):(∃o',h.get? 123=some o'/\o'.cls= .type "function"/\o'.data= .func (fdOf iu))/\h.CodeRec (fdOf iu).code (fdOf iu).qualname:=
 iy (a:=123) (c:=122) (oc:=rf) y g (by kernel_rfl) (by decide) (by kernel_rfl) rfl rfl (by kernel_rfl) (by decide) (by kernel_rfl) rfl rfl rfl
noncomputable abbrev Kn:List Str:=[AP,⟨#[119,115]⟩]
theorem RE(P:Params):nV (fdOf iu) (aJ (e6 (aJ pq.main.body 11)) 1) Kn:=⟨rfl,rfl,rfl,rfl,rfl,Kk fun v0 v1=>rfl⟩
theorem Ko{w:World}{ag h:Heap}(y:YP w ag)(g:∀b o,ag.get? b=some o->h.get? b=some o):(∃o',h.get? 130=some o'/\o'.cls= .type "function"/\o'.data= .func (fdOf jp))/\h.CodeRec (fdOf jp).code (fdOf jp).qualname:=
 iy (a:=130) (c:=129) (oc:=rg) y g (by kernel_rfl) (by decide) (by kernel_rfl) rfl rfl (by kernel_rfl) (by decide) (by kernel_rfl) rfl rfl rfl
noncomputable abbrev RF:List Str:=[AP]
theorem RG(P:Params):nV (fdOf jp) (aJ (e6 (aJ pq.main.body 11)) 2) RF:=⟨rfl,rfl,rfl,rfl,rfl,xD fun v0=>rfl⟩
theorem Kq{w:World}{ag h:Heap}(y:YP w ag)(g:∀b o,ag.get? b=some o->h.get? b=some o):(∃o',h.get? 137=some o'/\o'.cls= .type "function"/\o'.data= .func (fdOf jq))/\h.CodeRec (fdOf jq).code (fdOf jq).qualname:=
 iy (a:=137) (c:=136) (oc:=rh) y g (by kernel_rfl) (by decide) (by kernel_rfl) rfl rfl (by kernel_rfl) (by decide) (by kernel_rfl) rfl rfl rfl
noncomputable abbrev RH:List Str:=[AP,X9]
theorem RI(P:Params):nV (fdOf jq) (aJ (e6 (aJ pq.main.body 11)) 3) RH:=⟨rfl,rfl,rfl,rfl,rfl,Kk fun v0 v1=>rfl⟩
theorem Kr{w:World}{ag h:Heap}(y:YP w ag)(g:∀b o,ag.get? b=some o->h.get? b=some o):(∃o',h.get? 144=some o'/\o'.cls= .type "function"/\o'.data= .func (fdOf jr))/\h.CodeRec (fdOf jr).code (fdOf jr).qualname:=
 iy (a:=144) (c:=143) (oc:=ri) y g (by kernel_rfl) (by decide) (by kernel_rfl) rfl rfl (by kernel_rfl) (by decide) (by kernel_rfl) rfl rfl rfl
noncomputable abbrev RJ:List Str:=[AP,Pj]
theorem RK(P:Params):nV (fdOf jr) (aJ (e6 (aJ pq.main.body 11)) 4) RJ:=⟨rfl,rfl,rfl,rfl,rfl,Kk fun v0 v1=>rfl⟩
theorem Kt{w:World}{ag h:Heap}(y:YP w ag)(g:∀b o,ag.get? b=some o->h.get? b=some o):(∃o',h.get? 151=some o'/\o'.cls= .type "function"/\o'.data= .func (fdOf js))/\h.CodeRec (fdOf js).code (fdOf js).qualname:=
 iy (a:=151) (c:=150) (oc:=rj) y g (by kernel_rfl) (by decide) (by kernel_rfl) rfl rfl (by kernel_rfl) (by decide) (by kernel_rfl) rfl rfl rfl
noncomputable abbrev RL:List Str:=[AP,Pj]
theorem RM(P:Params):nV (fdOf js) (aJ (e6 (aJ pq.main.body 11)) 5) RL:=⟨rfl,rfl,rfl,rfl,rfl,Kk fun v0 v1=>rfl⟩
theorem Ku{w:World}{ag h:Heap}(y:YP w ag)(g:∀b o,ag.get? b=some o->h.get? b=some o):(∃o',h.get? 180=some o'/\o'.cls= .type "function"/\o'.data= .func (fdOf kY))/\h.CodeRec (fdOf kY).code (fdOf kY).qualname:=
 iy (a:=180) (c:=179) (oc:=wi) y g (by kernel_rfl) (by decide) (by kernel_rfl) rfl rfl (by kernel_rfl) (by decide) (by kernel_rfl) rfl rfl rfl
noncomputable abbrev Kv:List Str:=[Tt,Qp]
theorem RN(P:Params):nV (fdOf kY) (aJ pq.main.body 62) Kv:=⟨rfl,rfl,rfl,rfl,rfl,Kk fun v0 v1=>rfl⟩
theorem Kw{w:World}{ag h:Heap}(y:YP w ag)(g:∀b o,ag.get? b=some o->h.get? b=some o):(∃o',h.get? 185=some o'/\o'.cls= .type "function"/\o'.data= .func (fdOf kZ))/\h.CodeRec (fdOf kZ).code (fdOf kZ).qualname:=
 iy (a:=185) (c:=184) (oc:=wj) y g (by kernel_rfl) (by decide) (by kernel_rfl) rfl rfl (by kernel_rfl) (by decide) (by kernel_rfl) rfl rfl rfl
noncomputable abbrev Ek:List Str:=[IQ,Qp,M1]
theorem RO(P:Params):nV (fdOf kZ) (aJ pq.main.body 63) Ek:=⟨rfl,rfl,rfl,rfl,rfl,Z6 fun v0 v1 v2=>rfl⟩
theorem Kx{w:World}{ag h:Heap}(y:YP w ag)(g:∀b o,ag.get? b=some o->h.get? b=some o):(∃o',h.get? 192=some o'/\o'.cls= .type "function"/\o'.data= .func (fdOf la))/\h.CodeRec (fdOf la).code (fdOf la).qualname:=
 iy (a:=192) (c:=191) (oc:=wk) y g (by kernel_rfl) (by decide) (by kernel_rfl) rfl rfl (by kernel_rfl) (by decide) (by kernel_rfl) rfl rfl rfl
noncomputable abbrev RP:List Str:=[M1]
theorem RQ(P:Params):nV (fdOf la) (aJ pq.main.body 64) RP:=⟨rfl,rfl,rfl,rfl,rfl,xD fun v0=>rfl⟩
theorem Ky{w:World}{ag h:Heap}(y:YP w ag)(g:∀b o,ag.get? b=some o->h.get? b=some o):(∃o',h.get? 199=some o'/\o'.cls= .type "function"/\o'.data= .func (fdOf lb))/\h.CodeRec (fdOf lb).code (fdOf lb).qualname:=
 iy (a:=199) (c:=198) (oc:=wm) y g (by kernel_rfl) (by decide) (by kernel_rfl) rfl rfl (by kernel_rfl) (by decide) (by kernel_rfl) rfl rfl rfl
noncomputable abbrev RR:List Str:=[WQ]
theorem RS(P:Params):nV (fdOf lb) (aJ pq.main.body 65) RR:=⟨rfl,rfl,rfl,rfl,rfl,xD fun v0=>rfl⟩
theorem Kz{w:World}{ag h:Heap}(y:YP w ag)(g:∀b o,ag.get? b=some o->h.get? b=some o):(∃o',h.get? 204=some o'/\o'.cls= .type "function"/\o'.data= .func (fdOf ld))/\h.CodeRec (fdOf ld).code (fdOf ld).qualname:=
 iy (a:=204) (c:=203) (oc:=wn) y g (by kernel_rfl) (by decide) (by kernel_rfl) rfl rfl (by kernel_rfl) (by decide) (by kernel_rfl) rfl rfl rfl
noncomputable abbrev RT:List Str:=[Yj]
theorem RU(P:Params):nV (fdOf ld) (aJ pq.main.body 66) RT:=⟨rfl,rfl,rfl,rfl,rfl,xD fun v0=>rfl⟩
theorem KA{w:World}{ag h:Heap}(y:YP w ag)(g:∀b o,ag.get? b=some o->h.get? b=some o):(∃o',h.get? 209=some o'/\o'.cls= .type "function"/\o'.data= .func (fdOf ju))/\h.CodeRec (fdOf ju).code (fdOf ju).qualname:=
 iy (a:=209) (c:=208) (oc:=wo) y g (by kernel_rfl) (by decide) (by kernel_rfl) rfl rfl (by kernel_rfl) (by decide) (by kernel_rfl) rfl rfl rfl
noncomputable abbrev KB:List Str:=[IX]
theorem RV(P:Params):nV (fdOf ju) (aJ pq.main.body 67) KB:=⟨rfl,rfl,rfl,rfl,rfl,xD fun v0=>rfl⟩
theorem KC{w:World}{ag h:Heap}(y:YP w ag)(g:∀b o,ag.get? b=some o->h.get? b=some o):(∃o',h.get? 216=some o'/\o'.cls= .type "function"/\o'.data= .func (fdOf lh))/\h.CodeRec (fdOf lh).code (fdOf lh).qualname:=
 iy (a:=216) (c:=215) (oc:=wp) y g (by kernel_rfl) (by decide) (by kernel_rfl) rfl rfl (by kernel_rfl) (by decide) (by kernel_rfl) rfl rfl rfl
noncomputable abbrev RX:List Str:=[IX]
theorem RY(P:Params):nV (fdOf lh) (aJ pq.main.body 68) RX:=⟨rfl,rfl,rfl,rfl,rfl,xD fun v0=>rfl⟩
inductive sU:List (Int×Str)->List DictEntry->Prop
 |nil:sU [] []
 |cons {k x T T' ps es}:sU ps es->sU ((k,x)::ps) (⟨hashInt k,.int k T,.str x T'⟩::es)
theorem sU.app{a b:List (Int×Str)}{x y:List DictEntry}(h:sU a x)(h':sU b y):sU (a++b) (x++y):=by
 induction h with
 |nil=>exact h'
 |cons _ ih=>exact .cons ih
theorem El:∀(l:List (Int×Str)) (T:Nat),sU l (aS T l)
 |[],T=>.nil
 |(k,x)::r,T=>.cons (El r _)
theorem KD:∀(l:List (Int×Str)) (T:Nat),sU l (gU T l)
 |[],T=>.nil
 |(k,x)::r,T=>.cons (KD r _)
theorem KE:∀(l:List (List (Int×Str))) (T:Nat),sU l.flatten (gV T l)
 |[],T=>.nil
 |l::r,T=>by rw[gA];exact(El l T).app (KE r _)
theorem NX:sU FU (aS 297 c0++gV 348 cs++gU 2235 cl):=by
 rw[vS,List.append_assoc];exact(El _ _).app ((KE _ _).app (KD _ _))
theorem sU.dict{prog:Program}{w:World}{ps:List (Int×Str)}{es:List DictEntry}(h:sU ps es):∃jJ:List (Str×Tok),jJ.map (·.1)=ps.map (·.2)/\jJ.length=ps.length/\KeysOf (intKind prog w) es.toArray/\Pairs (intKind prog w) es ((ps.map (·.1)).zip (strValues jJ)):=by
 induction h with
 |nil=>exact⟨[],rfl,rfl,fun e he=>by simp at he,.nil⟩
 | @cons k x T T' ps es _ ih=>
   obtain⟨jJ,h1,h2,h3,h4⟩:=ih;refine⟨(x,T')::jJ,by simp[h1],by simp[h2],fun e he=>?_,.cons (by simp[intKind,Value.isInt]) rfl h4⟩;have Dh:e∈(⟨hashInt k,.int k T,.str x T'⟩:DictEntry)::es:=by simpa using he
   rcases bp.mp Dh with rfl|Dh
   ·exact⟨k,by simp[intKind,Value.isInt],rfl⟩
   ·exact h3 e (by simpa using Dh)
noncomputable abbrev RZ:List Int:=FU.map (·.1)
noncomputable abbrev R0:List (List Nat):=FU.map fun p=>p.2.cps.toList
theorem Ve(P:Params):(HZ P).get? 61=some sT:=rk P (by kernel_rfl) (by decide) (by kernel_rfl)
theorem R1{P:Pk}(hG:∀h,P.G h->YP P.w h):Jw P 61 "get" (Jx RZ R0):=by
 refine Uu (by decide) fun h G=>?_
 obtain⟨jJ,h1,h2,h3,h4⟩:=NX.dict (prog:=P.prog) (w:=P.w);refine⟨jJ,?_,by rw[h2,bi],sT,_,_,hG h G _ _ (Ve _),⟨rfl,rfl,rfl⟩,rfl,h3,by simpa using h4,?_⟩
 ·rw[h1,dK]
  refine pi fun p ø=>?_
  simp[pyStr]
 ·rw[List.map_fst_zip (by rw[bi];simp[strValues,h2])]
  exact BM
section
section
variable{M:Model}{A:Around}{R:GenEnd}{Y:Protocol}{n:Nat}{aW:Shared}{c:Code}{fs:List Frame}{s:Shared}{env:Env}
theorem jw{α β:Type}{m:Sem α}{k:α->Sem β}{K:β->Sem Fin}{H:Value->Sem Fin}{gd:Bool->Bool}{lv:List Value->List Value}
  (h:∀E,wpAny M (A.over c fs) m (fun a s'=>Seg M A R Y n aW c ((k a).wrap K H gd lv) fs s') E s):Seg M A R Y n aW c ((m>>= k).wrap K H gd lv) fs s:=by
 rw[Sem.bind_eq_wrap',np];exact seg_wrap (h _)
theorem zV{m:Sem Flow}{K:Flow->Sem Fin}{H:Value->Sem Fin}{gd:Bool->Bool}{lv:List Value->List Value}
 (h:∀E,wpAny M (A.over c fs) m (fun a s'=>Seg M A R Y n aW c (K a) fs s') E s):Seg M A R Y n aW c (m.wrap K H gd lv) fs s:=seg_wrap (h _)
theorem sV{test:Expr}{a b:List Stmt}{pos:Pos}{K:Flow->Sem Fin}{H:Value->Sem Fin}{gd:Bool->Bool}{lv:List Value->List Value}
  (h:∀E,wpAny M (A.over c fs) (isTrue test env (eval test env)) (fun z s'=>Seg M A R Y n aW c ((if z=true then execs a env else execs b env).wrap K H gd lv) fs s') E s):
  Seg M A R Y n aW c ((exec (.If test a b pos) env).wrap K H gd lv) fs s:=by
 rw[exec_If];refine jw fun E=>qE (jw fun E=>?_)
 exact h E
theorem NY{target iter:Expr}{body orelse:List Stmt}{pos:Pos}{K:Flow->Sem Fin}{H:Value->Sem Fin}{gd:Bool->Bool}{lv:List Value->List Value}(hs:∀x,foldedSetIterable iter env x=pure x)
  (h:∀E,wpAny M (A.over c fs) (eval iter env) (fun x s₁=>∀E,wpAny M (A.over c fs) (pyIter x) (fun it s₂=>∀k l p,(∀f,k (.ok f)=K f)->
   Seg M A R Y n aW (.forLoop target it body orelse env) (M.den (.forLoop target it body orelse env)) (.ret k none (gd false) l c p []::fs) s₂) E s₁) E s):
  Seg M A R Y n aW c ((exec (.For target iter body orelse pos) env).wrap K H gd lv) fs s:=by
 rw[exec_For];refine jw fun E=>qE (jw fun E=>?_)
 refine au (h E) (fun x s₁ ag=>?_) fun ø ø q=>q
 refine jw fun E=>wpAny_of_eq (hs x) (jw fun E=>qE (jw fun E=>gB (au (ag E) (fun it s₂ aH=>?_) fun ø ø q=>q)))
 exact seg_call fun p=>aH _ _ p fun f=>rfl
end
section
variable{prog:Program}{w:World}{A:Around}{R:GenEnd}{Y:Protocol}{n:Nat}{aW:Shared}{fs:List Frame}{s:Shared}{env:Env}
theorem B5{target:Expr}{it:Value}{body:List Stmt}
  (h:∀E,wpAny (model prog w) (A.over (.forLoop target it body [] env) fs) (pyNext it) (fun r s₁=>match r with
   |none=>Seg (model prog w) A R Y n aW (.block [] env) (leafOf (.ok .next)) fs s₁
   |some v=>∀E,wpAny (model prog w) (A.over (.forLoop target it body [] env) fs) (letOwnedTupleGo target it v) (fun ø s₂=>∀E,wpAny (model prog w) (A.over (.forLoop target it body [] env) fs) (assign target env v) (fun ø cB=>
    ∀K H,(∀f,K f=match f with
       | .next| .cont=>.pure (.again (.forLoop target it body [] env))
       | .brk=>.pure (.done .next)
       | .ret v=>.pure (.done (.ret v)))->Seg (model prog w) A R Y n aW (.forLoop target it body [] env) ((execs body env).wrap K H id id) fs cB) E s₂) E s₁) E s):
  Seg (model prog w) A R Y n aW (.forLoop target it body [] env) ((model prog w).den (.forLoop target it body [] env)) fs s:=by
 show Seg _ A R Y n aW _ ((forTurn target it body [] env).onRaise (fun x=>do noteFrame x env;theTreesLotGoes x)) fs s;rw[Sem.onRaise_eq_wrap];unfold forTurn;refine jw fun E=>qE (jw fun E=>wpAny_onRaise (au (h _) (fun r s₁ ag=>?_) fun ø ø q=>qE q))
 cases r with
 |none=>
  refine seg_again (c':=.block [] env) rfl ?_;exact ag
 |some v=>
  refine jw fun E=>au (ag E) (fun ø s₂ aH=>?_) fun ø ø q=>q
  refine jw fun E=>au (aH E) (fun ø cB eh=>?_) fun ø ø q=>q
  rw[Sem.bind_eq_wrap',np];exact eh _ _ fun f=>by cases f<;>rfl
end
end
section
section
variable{prog:Program}{w:World}{A:Around}{E:Value->Shared->Prop}{s:Shared}
theorem B6{Q:Value->Shared->Prop}(h:∀h' e,(∀b o,s.heap.get? b=some o->h'.get? b=some o)->(∃o,h'.get? e=some o/\o.cls= .type "StopIteration")->Q (.ref e) {s with heap:=h'}):wpAny (model prog w) A (newExc (.type "StopIteration") []) Q E s:=by
 refine ar (pM ?_ (dU _));refine ar (m:=firstArgMember _ _) (wpAny_of_eq (a:=Value.none) (by first|rfl|(simp only[firstArgMember];rfl)) ?_);refine pM ?_ (by size_fits);exact h _ _ (fun b o e=>bK _ (bK _ e)) ⟨_,bD _ rfl,rfl⟩
theorem wq{α:Type}(hh:A.handled=none){Q:α->Shared->Prop}(h:∀h' e,(∀b o,s.heap.get? b=some o->h'.get? b=some o)->(∃o,h'.get? e=some o/\o.cls= .type "StopIteration")->E (.ref e) {s with heap:=h'}):
 wpAny (model prog w) A (do raiseNew (<-newExc (.type "StopIteration") []):Sem α) Q E s:=ar (B6 fun h' e hk he=>wpAny_raiseNew_none hh (h h' e hk he))
theorem Hu{it:Addr}{x:Str}{t:Tok}{i:Nat}{Q:Value->Shared->Prop}(hh:A.handled=none)(hit:s.heap.IsStrIter it "str_ascii_iterator" x t i)(hx:x.cps[i]?=none)
  (hE:∀h' e,Heap.ExtBut it s.heap h'->(∃o,h'.get? it=some o)->(∃o,h'.get? e=some o/\o.cls= .type "StopIteration")->E (.ref e) {s with heap:=h'}):
  wpAny (model prog w) A (Builtin.SmallTypes.nextOf (.ref it)) Q E s:=by
 have hT:=hit.typeIs;obtain⟨o,ho,hc,hd⟩:=hit;refine ar (pR hT F.slot_str_ascii_iterator_next (ph F.slot_str_ascii_iterator_next hT F.entry_str_ascii_iterator_next ?_ (F.args_str_ascii_iterator_next_1 _)));show wpAny _ _ (field (.ref it) 0>>= _) _ _ s;refine ar (u7 ho hd (x:=.str x t) rfl ?_);show wpAny _ _ (field (.ref it) 1>>= _) _ _ s;refine ar (u7 ho hd (x:=.int i 0) rfl ?_);simp only[qN,hx];refine ar (rS (ar (wpAny_setField ho hd (by simp) (ar (wpAny_letGo ?_)))));refine wq (A:=A.in1) hh fun h' e hk he=>?_
 exact hE _ _ (fun b o q r=>hk b o ((pe ..).extBut b o q r)) ⟨_,hk _ _ (m8 _ ho (Obj.isFreed_of_fields (Obj.data_mapFields hd _)))⟩ he
theorem KF{it:Addr}{x:Str}{t:Tok}{i:Nat}{Q:Value->Shared->Prop}(hh:A.handled=none)(hit:s.heap.IsStrIter it "str_iterator" x t i)(hx:x.cps[i]?=none)
  (hE:∀h' e,Heap.ExtBut it s.heap h'->(∃o,h'.get? it=some o)->(∃o,h'.get? e=some o/\o.cls= .type "StopIteration")->E (.ref e) {s with heap:=h'}):
  wpAny (model prog w) A (Builtin.SmallTypes.nextOf (.ref it)) Q E s:=by
 have hT:=hit.typeIs;obtain⟨o,ho,hc,hd⟩:=hit;refine ar (pR hT F.slot_str_iterator_next (ph F.slot_str_iterator_next hT F.entry_str_iterator_next ?_ (F.args_str_iterator_next_1 _)));show wpAny _ _ (field (.ref it) 0>>= _) _ _ s;refine ar (u7 ho hd (x:=.str x t) rfl ?_);show wpAny _ _ (field (.ref it) 1>>= _) _ _ s;refine ar (u7 ho hd (x:=.int i 0) rfl ?_);simp only[qN,hx];refine ar (rS (ar (wpAny_setField ho hd (by simp) (ar (wpAny_letGo ?_)))));refine wq (A:=A.in1) hh fun h' e hk he=>?_
 exact hE _ _ (fun b o q r=>hk b o ((pe ..).extBut b o q r)) ⟨_,hk _ _ (m8 _ ho (Obj.isFreed_of_fields (Obj.data_mapFields hd _)))⟩ he
theorem KG{e it:Addr}{x:Str}{t:Tok}{i:Nat}{j:Int}{old:Value}{Q:Option Value->Shared->Prop}(hh:A.handled=none)(he:IsEnum s.heap e it j old)(eF:s.heap.IsStrIter it (strIterType x) x t i)(hx:x.cps[i]?=none)
  (hQ:∀h',Heap.ExtBut it s.heap h'->(∃o,h'.get? it=some o)->Q none {s with heap:=h'}):wpAny (model prog w) A (pyNext (.ref e)) Q E s:=by
 have hT:s.TypeIs (.ref e) "enumerate":=⟨_,he,rfl⟩;refine ar (yW (pR hT F.slot_enumerate_next (ph F.slot_enumerate_next hT F.entry_enumerate_next ?_ (F.args_enumerate_next_1 _))));show wpAny _ _ (field (.ref e) 2>>= _) _ _ _;refine ar (u7 he rfl (x:=.ref it) rfl ?_);have fin:∀h' y,Heap.ExtBut it s.heap h'->(∃o,h'.get? it=some o)->(∃o,h'.get? y=some o/\o.cls= .type "StopIteration")->wpAny (model prog w) A (do if <-isInstance (.ref y) (.type "StopIteration")then pure none else throw (.ref y):Sem (Option Value)) Q E {s with heap:=h'}:=fun h' y h1 h2 h3=>by
  obtain⟨o,ho,hc⟩:=h3;refine ar (u3 (T:="StopIteration") (b:=true) ⟨o,ho,hc⟩ isSubtype_stop ?_);exact bd (hQ _ h1 h2)
 cases ha:x.cps.all (· <128)
 ·refine ar (KF hh (by simpa[strIterType,ha]using eF) hx fun h' y h1 h2 h3=>?_)
  exact fin h' y h1 h2 h3
 ·refine ar (Hu hh (by simpa[strIterType,ha]using eF) hx fun h' y h1 h2 h3=>?_)
  exact fin h' y h1 h2 h3
end
end
section
noncomputable def gZ(p:Nat):Bool->List Nat->List (Nat×List Nat)
 |true,[]=>[(p-1,[92])]
 |false,[]=>[]
 |true,c::cs=>(p,[92,c])::gZ (p+1) false cs
 |false,c::cs=>if c=92 then gZ (p+1) true cs else(p,[c])::gZ (p+1) false cs
theorem zW(p:Nat):gZ p true []=[(p-1,[92])]:=rfl
theorem FW(p:Nat):gZ p false []=[]:=rfl
theorem zX(p c:Nat)(cs:List Nat):gZ p true (c::cs)=(p,[92,c])::gZ (p+1) false cs:=rfl
theorem uE(p c:Nat)(cs:List Nat):gZ p false (c::cs)=if c=92 then gZ (p+1) true cs else(p,[c])::gZ (p+1) false cs:=rfl
section
variable(L it:Addr)(items:List (Nat×List Nat))
structure GK(aW s₁:Shared):Prop where
 keep:∀b o,b≠L->b≠it->b≠it+1->aW.heap.get? b=some o->s₁.heap.get? b=some o
 gens:s₁.gens=aW.gens
 os:s₁.os=aW.os
noncomputable def GP(n:Nat)(aW s₁:Shared):Prop:=n=0/\GK L it aW s₁
noncomputable def GR:GenEnd:=fun n aW r s₁=>r= .ok (.ret .none)/\GP L it n aW s₁
noncomputable def Agree(s₁ s₂:Shared):Prop:=∀b,(b=L\/b=it\/b=it+1)->∀o,s₁.heap.get? b=some o->s₂.heap.get? b=some o
inductive PO(m:Nat)(aW:Shared)(v:Value)(s₁:Shared):Prop
 |mk (p:Nat) (str:List Nat) (T:Addr) (t1 t2:Tok) (e:items[items.length-(m+1)]?=some (p,str)) (ev:v= .ref T) (t:za s₁.heap T #[.int (p:Nat) t1,.str (pyStr str) t2]) (n:aW.heap.get? T=none) (n1:T≠L) (n2:T≠it) (n3:T≠it+1):PO m aW v s₁
inductive GYP(m:Nat)(aW:Shared)(v:Value)(s₁:Shared)(MX:Resume->Shared->Prop):Prop
 |mk (k:GK L it aW s₁) (l:∀b,(b=L\/b=it\/b=it+1)->∃o,s₁.heap.get? b=some o) (i:PO L it items m aW v s₁) (kp:∀s₂,Agree L it s₁ s₂->MX (.send .none) s₂):GYP m aW v s₁ MX
noncomputable def GY:Protocol:=fun m aW v s₁ MX=>GYP L it items m aW v s₁ MX
end
theorem GK.refl(L it s):GK L it s s:=⟨fun ø ø ø ø ø h=>h,rfl,rfl⟩
theorem GK.trans{L it a b c}(x:GK L it a b)(y:GK L it b c):GK L it a c:=⟨fun q o h1 h2 h3 h=>y.keep q o h1 h2 h3 (x.keep q o h1 h2 h3 h),y.gens.trans x.gens,y.os.trans x.os⟩
theorem GK.heap{L it}{s:Shared}{h':Heap}{tk:Nat}(h:∀b o,b≠L->b≠it->b≠it+1->s.heap.get? b=some o->h'.get? b=some o):GK L it s {s with heap:=h',toks:=tk}:=⟨h,rfl,rfl⟩
inductive Lf(items:List (Nat×List Nat))(x:List Nat)(i:Nat)(b:Bool)(n:Nat):Prop
 |mk (l:n=(gZ i b (x.drop i)).length) (e:gZ i b (x.drop i)=items.drop (items.length-n)) (h:n<=items.length)
theorem Lf.same{items x i b n i' b'}(h:Lf items x i b n)(e:gZ i b (x.drop i)=gZ i' b' (x.drop i')):Lf items x i' b' n:=by
 obtain⟨l,q,h⟩:=h;rw[e]at l q;exact⟨l,q,h⟩
theorem Lf.cut{items:List (Nat×List Nat)}{n:Nat}{p:Nat×List Nat}{r:List (Nat×List Nat)}(l:n=r.length+1)(q:p::r=items.drop (items.length-n))(h:n<=items.length):items[items.length-(r.length+1)]?=some p/\r=items.drop (items.length-r.length):=by
 rw[l]at q h;have e:items.length-r.length=items.length-(r.length+1)+1:=(rN (Nat.sub_pos_of_lt h)).symm;have q0:=congrArg (·[0]?) q;rw[Dy]at q0;rw[e,<-List.drop_drop,<-q];exact⟨q0.symm,rfl⟩
theorem Lf.cons{items x i b n i' b' p}(h:Lf items x i b n)(e:gZ i b (x.drop i)=p::gZ i' b' (x.drop i')):∃n',n=n'+1/\items[items.length-(n'+1)]?=some p/\Lf items x i' b' n':=by
 obtain⟨l,q,h⟩:=h;rw[e]at l q;have c:=Lf.cut l q h;exact⟨_,l,c.1,rfl,c.2,u8 (aA (iJ l.symm) h)⟩
theorem KH{L it:Addr}{items:List (Nat×List Nat)}{n:Nat}{aW s:Shared}{p:Nat}{FX:List Nat}{t u:Tok}{tk:Nat}{MX:Resume->Shared->Prop}(k:GK L it aW s)(l:∀b,(b=L\/b=it\/b=it+1)->∃o,s.heap.get? b=some o)(hit:items[items.length-(n+1)]?=some (p,FX))
  (hk:∀s₂,Agree L it {s with toks:=tk,heap:=s.heap.push {cls:=.type "tuple",data:=.seq #[.int (p:Nat) t,.str (pyStr FX) u]} } s₂->MX (.send .none) s₂):
  GY L it items n aW (.ref s.heap.objs.size) {s with toks:=tk,heap:=s.heap.push {cls:=.type "tuple",data:=.seq #[.int (p:Nat) t,.str (pyStr FX) u]} } MX:=by
 have ne:∀b,(b=L\/b=it\/b=it+1)->s.heap.objs.size≠b:=fun b hb z=>(l b hb).elim fun o q=>nomatch(z▸aP s.heap).symm.trans q
 refine⟨⟨fun b o h1 h2 h3 h=>bK _ (k.keep b o h1 h2 h3 h),k.gens,k.os⟩,fun b hb=>(l b hb).elim fun o q=>⟨o,bK _ q⟩,⟨p,FX,s.heap.objs.size,t,u,hit,rfl,⟨0,bD _ rfl⟩,?_,ne _ (.inl rfl),ne _ (.inr (.inl rfl)),ne _ (.inr (.inr rfl))⟩,hk⟩
 induction e:aW.heap.get? s.heap.objs.size with
 |none=>rfl
 |some o=>exact nomatch(aP s.heap).symm.trans (k.keep _ o (ne _ (.inl rfl)) (ne _ (.inr (.inl rfl))) (ne _ (.inr (.inr rfl))) e)
section
variable{prog:Program}{w:World}{A:Around}{n:Nat}{aW:Shared}{s:Shared}{env:Env}{it:Addr}{items:List (Nat×List Nat)}{x:List Nat}{tx:Tok}
structure KI(env:Env)(it:Addr)(i:Nat)(b:Bool)(s:Shared):Prop where
 ns:∃m t,s.heap.Ns env.locals m/\m "escape"=some (.bool b)/\m "pos"=some (.int ((i-1:Nat):Int) t)
 en:∃old,IsEnum s.heap (it+1) it i old
 li:∃o,s.heap.get? it=some o
inductive GF(env:Env)(it:Addr)(x:List Nat)(tx:Tok)(i:Nat)(b:Bool)(s:Shared):Prop
 |mk (h:KI env it i b s) (st:s.heap.IsStrIter it (strIterType (pyStr x)) (pyStr x) tx i)
inductive GS(env:Env)(it:Addr)(x:List Nat)(tx:Tok)(i:Nat)(b:Bool)(c:Nat)(s:Shared):Prop
 |mk (m:Str->Option Value) (t u:Tok) (old:Value) (ns:s.heap.Ns env.locals m) (he:m "escape"=some (.bool b)) (hp:m "pos"=some (.int (i:Nat) t)) (hc:m "ch"=some (.str (pyStr [c]) u)) (en:IsEnum s.heap (it+1) it (i+1:Nat) old) (st:s.heap.IsStrIter it (strIterType (pyStr x)) (pyStr x) tx (i+1))
theorem GF.moved{env it x tx i b s s'}(h:GF env it x tx i b s)(hk:∀b,(b=env.locals\/b=it\/b=it+1)->∀o,s.heap.get? b=some o->s'.heap.get? b=some o):GF env it x tx i b s':=by
 obtain⟨⟨⟨m,t,ns,he,hp⟩,⟨old,en⟩,li⟩,oi,qi,c⟩:=h;have Vf:=hk _ (.inr (.inl rfl)) _ qi;exact⟨⟨⟨m,t,ns.at fun o q=>hk _ (.inl rfl) o q,he,hp⟩,⟨old,hk _ (.inr (.inr rfl)) _ en⟩,⟨oi,Vf⟩⟩,oi,Vf,c⟩
theorem GF.agree{env it x tx i b s s₂}(h:GF env it x tx i b s){o tk}(ha:Agree env.locals it {s with toks:=tk,heap:=s.heap.push o} s₂):GF env it x tx i b s₂:=
 h.moved fun b hb o' q=>ha b hb o' (bK _ q)
theorem GS.gf{env it x tx i b c s}(h:GS env it x tx i b c s):GF env it x tx (i+1) b s:=by
 obtain⟨m,t,u,old,ns,he,hp,hc,en,oi,qi,q⟩:=h;exact⟨⟨⟨m,t,ns,he,hp⟩,⟨old,en⟩,⟨oi,qi⟩⟩,oi,qi,q⟩
theorem KI.live{env it i b s}(h:KI env it i b s):∀b,(b=env.locals\/b=it\/b=it+1)->∃o,s.heap.get? b=some o:=by
 obtain⟨⟨m,t,⟨oL,es,ep,qL,_⟩,_⟩,⟨old,en⟩,o1,q1⟩:=h;exact fun b hb=>hb.elim (fun e=>e▸⟨oL,qL⟩) fun hb=>hb.elim (fun e=>e▸⟨o1,q1⟩) fun e=>e▸⟨_,en⟩
structure sW(env:Env):Prop where
 fn:env.scope.kind= .function
 co:env.scope.isCoroutine=false
 kp:env.kindOf "pos"=some .local
 ke:env.kindOf "escape"=some .local
 kc:env.kindOf "ch"=some .local
theorem sW.hp{env:Env}(g:sW env):(env.scope.kind== .class||(env.scope.kind== .module&&env.locals != env.globals))=false:=by rw[g.fn];rfl
theorem R2{A:Around}{e1 e2:Expr}{k:Nat}{pos:Pos}{u:Value}{Pv:Value->Prop}{E:Value->Shared->Prop}{Q:Value->Shared->Prop}
  (h1:∀E (Q:Value->Shared->Prop),Q u s->wpAny (model prog w) A (eval e1 env) Q E s) (h2:∀E (Q:Value->Shared->Prop),(∀v tk,Pv v->Q v {s with toks:=tk})->wpAny (model prog w) A (eval e2 env) Q E s)
  (he1:starEach [e1,e2] env=(false,eval e1 env)::starEach [e2] env) (he2:starEach [e2] env=(false,eval e2 env)::starEach [] env)
  (hQ:∀v tk,Pv v->Q (.ref s.heap.objs.size) {s with toks:=tk,heap:=s.heap.push {cls:=.type "tuple",data:=.seq #[u,v]} }):wpAny (model prog w) A (eval (.Tuple [e1,e2] k pos) env) Q E s:=by
 refine wpAny_Tuple (jS (h1 _ _ (jS (h2 _ _ fun v tk hv=>jR ⟨?_,?_⟩) he2)) he1)
 ·rw[gQ];exact aA (show 2<=100 by decide) (by decide)
 ·exact hQ v tk hv
theorem PP(c:Nat):((pyStr [c])==(pyStr [92]))=decide (c=92):=by
 rw[sf];by_cases h:c=92
 ·subst h;decide
 ·simp[h]
noncomputable abbrev tQ(gp:Nat->Pos):List Stmt:=
 [.If (.Name "escape" (gp 20)) [.Expr (.Yield (some (.Tuple [.Name "pos" (gp 21),.BinOp (.Constant (.str "\\") 0 (gp 22)) .Add (.Name "ch" (gp 23)) (gp 24)] 0 (gp 25))) (gp 26)) (gp 27),.Assign [.Name "escape" (gp 28)] (.Constant (.bool false) 0 (gp 29)) (gp 30)]
  [.If (.Compare (.Name "ch" (gp 31)) [.Eq] [.Constant (.str "\\") 0 (gp 32)] (gp 33)) [.Assign [.Name "escape" (gp 34)] (.Constant (.bool true) 0 (gp 35)) (gp 36)] [.Expr (.Yield (some (.Tuple [.Name "pos" (gp 37),.Name "ch" (gp 38)] 0 (gp 39))) (gp 40)) (gp 41)] (gp 42)] (gp 43)]
section
variable{gp:Nat->Pos}{a1 a2 a3 a4 a5 a6 a7 a8 a9:Pos}
theorem i0{M:Model}{R:GenEnd}{Y:Protocol}{c:Code}{fs:List Frame}{z z':Bool}{a b:List Stmt}{K:Flow->Sem Fin}{H:Value->Sem Fin}{gd:Bool->Bool}{lv:List Value->List Value}(e:z=z')(h:Seg M A R Y n aW c ((execs (cond z' a b) env).wrap K H gd lv) fs s):Seg M A R Y n aW c ((if z=true then execs a env else execs b env).wrap K H gd lv) fs s:=by
 rw[e]
 induction z'<;>exact h
theorem inter(g:sW env):interactive env=false:=by unfold interactive;rw[g.fn];rfl
theorem KJ(g:sW env){fs:List Frame}{c:Code}{b:Bool}{K:Flow->Sem Fin}{H:Value->Sem Fin}(KL:fs=[])(hA:(A.over c fs).handled=none)
  (hK:K .next= .pure (.done (.ret .none))) (hi:KI env it x.length b s) (k:GK env.locals it aW s) (lf:Lf items x x.length b n):
  Seg (model prog w) A (GR env.locals it) (GY env.locals it items) n aW c ((execs [.If (.Name "escape" a1) [.Expr (.Yield (some (.Tuple [.Name "pos" a2,.Constant (.str "\\") 0 a3] 0 a4)) a5) a6] [] a7] env).wrap K H id id) fs s:=by
 obtain⟨⟨m,t,hm,he,hp⟩,_⟩:=id hi;obtain⟨hn,hx,bN⟩:=lf;rw[u9]at hn hx;refine jW (sV fun E=>uS (eV (kG g.fn g.ke hm he (o8 (i0 rfl ?_))) rfl) rfl)
 induction b with
 |false=>
  refine yX (yX ?_);rw[hK,KL];exact seg_end (.ok (.ret .none)) ⟨rfl,hn,k⟩
 |true=>
  rw[zW]at hn hx;have hc:=Lf.cut (r:=[]) hn hx bN;rw[hn];refine jW (seg_Expr_Yield (KL▸rfl) rfl (KL▸rfl) (R2 (u:=.int ((x.length-1:Nat):Int) t) (Pv:=fun v=>v= .str (pyStr [92]) s.toks) (fun E Q h=>eV (kG g.fn g.kp hm hp h) rfl) (fun E Q h=>uP (h _ _ rfl)) rfl rfl fun v tk hv MX hk=>?_) g.co (inter g));rw[hv];refine KH k hi.live hc.1 fun s₂ ø=>hk _ _ (yX (yX ?_))
  rw[hK,KL];exact seg_end (.ok (.ret .none)) ⟨rfl,rfl,.refl ..⟩
noncomputable abbrev pt(gp:Nat->Pos):Expr:=.Tuple [.Name "pos" (gp 17),.Name "ch" (gp 18)] 0 (gp 19)
theorem yd{A:Around}(hA:A.handled=none):Draws prog w A.in1 it [it] (pyStr x).cps.size (fun i v=>∃c u,(pyStr x).cps[i]?=some c/\v= .str ⟨#[c]⟩ u) (fun i h=>h.IsStrIter it (strIterType (pyStr x)) (pyStr x) tx i):=by
 cases ha:(pyStr x).cps.all (· <128)
 ·rw[show strIterType (pyStr x)="str_iterator" by unfold strIterType;rw[ha];rfl];exact Draws.strWide (A:=A.in1) hA it (pyStr x) tx
 ·rw[show strIterType (pyStr x)="str_ascii_iterator" by unfold strIterType;rw[ha];rfl];exact Draws.strAscii (A:=A.in1) hA it (pyStr x) tx
theorem KM(g:sW env)(hL:env.locals≠it)(FY:env.locals≠it+1){R:GenEnd}{Y:Protocol}{fs:List Frame}{body:List Stmt}(hA:(A.over (.forLoop (pt gp) (.ref (it+1)) body [] env) fs).handled=none){i:Nat}{b:Bool}(hI:GF env it x tx i b s){c:Nat}(hc:x[i]?=some c)
  (h:∀s' K H,K .next= .pure (.again (.forLoop (pt gp) (.ref (it+1)) body [] env))->GK env.locals it s s'->GS env it x tx i b c s'->Seg (model prog w) A R Y n aW (.forLoop (pt gp) (.ref (it+1)) body [] env) ((execs body env).wrap K H id id) fs s'):
  Seg (model prog w) A R Y n aW (.forLoop (pt gp) (.ref (it+1)) body [] env) ((model prog w).den (.forLoop (pt gp) (.ref (it+1)) body [] env)) fs s:=by
 have W:=WalksT.enumerateD (prog:=prog) (w:=w) (yd (it:=it) (x:=x) (tx:=tx) hA) (it+1) (pL _) (fun h=>pL _ (cN.mp h)) (.head _);obtain⟨⟨⟨m,t,hm,he,hp⟩,XC,_⟩,eF⟩:=hI;have sz:(pyStr x).cps.size=x.length:=bM ..;have nw:∀b,b≠it->b≠it+1->b∉[it+1,it]:=fun b q1 q2 h=>(bp.mp h).elim q2 fun h=>q1 (cN.mp h)
 refine B5 fun E=>W.item i s _ _ (sz▸(eX.mp hc).1) ⟨XC,eF⟩ fun T vals ag tk hP hT Vg Vh hk E=>?_
 obtain⟨t',v,⟨c',u,Ja,e2⟩,e1⟩:=hP;rw[e1,e2,show c'=c from Option.some.inj (Ja.symm.trans (List.getElem?_toArray.trans hc))]at Vg;refine W.go _ _ _ i T _ _ _ Vh fun aH R3 ye E=>?_
 obtain⟨oT,qT,cT,nT,dT⟩:=Vg;have Vi:aH.IsTuple T #[.int i t',.str ⟨#[c]⟩ u]:=⟨oT,ye _ _ (W.apart _ _ _ Vh) qT,cT,nT,dT⟩;obtain⟨⟨R4,hen₂⟩,oi,qi,ci⟩:=R3;have Em:∀b o,b≠it->b≠it+1->s.heap.get? b=some o->aH.get? b=some o:=fun b o q1 q2 e=>ye b o (nw b q1 q2) (hk b o (nw b q1 q2) e)
 have hm2:aH.Ns env.locals m:=hm.at fun o e=>Em _ o hL FY e
 refine Dp hA Vi rfl rfl fun eh Vj=>?_
 have hk3:∀b o,aH.get? b=some o->eh.get? b=some o:=fun b o e=>Vj b o (fun z=>nomatch(z▸aP aH).symm.trans e) e
 refine ar (gB (na (rL g.kp (hm2.at fun o e=>hk3 _ o e) (fun A2 Vk Vl=>?_) g.hp)));refine ar (gB (na (rL g.kc Vk (fun vt KN KO=>bd fun K H hK=>?_) g.hp)));have R5:∀b o,b≠env.locals->aH.get? b=some o->vt.get? b=some o:=fun b o q e=>(KO.2 b q).trans ((Vl.2 b q).trans (hk3 b o e))
 exact h _ K H (hK .next) ⟨fun b o q0 q1 q2 e=>R5 b o q0 (Em b o q1 q2 e),rfl,rfl⟩ ⟨_,t',u,R4,KN,(az (by decide+kernel)).trans ((az (by decide+kernel)).trans he),(az (by decide+kernel)).trans (aw rfl),aw rfl,R5 _ _ (dW FY) hen₂,oi,R5 _ _ (dW hL) qi,ci⟩
noncomputable def SL(prog:Program)(w:World)(A:Around)(env:Env)(it:Addr)(items:List (Nat×List Nat))(gp:Nat->Pos)(fs:List Frame)(n:Nat)(aW:Shared)(K:Sem Fin)(s:Shared):Prop:=Seg (model prog w) A (GR env.locals it) (GY env.locals it items) n aW (.forLoop (pt gp) (.ref (it+1)) (tQ gp) [] env) K fs s
theorem wt(g:sW env)(hL:env.locals≠it)(FY:env.locals≠it+1){A:Around}{i:Nat}{b b':Bool}(hf:GF env it x tx i b s){E:Value->Shared->Prop}{Q:Unit->Shared->Prop}(h:∀s',GK env.locals it s s'->GF env it x tx i b' s'->Q () s'):
  wpAny (model prog w) A (storeName env "escape" (.bool b')) Q E s:=by
 obtain⟨⟨⟨m,t,ns,he,hp⟩,⟨old,en⟩,li⟩,oi,qi,c⟩:=hf;refine rL g.ke ns (fun vt KN KO=>?_) g.hp;have R5:∀b o,b≠env.locals->s.heap.get? b=some o->vt.get? b=some o:=fun b o q e=>(KO.2 b q).trans e
 have Vf:=R5 _ _ (dW hL) qi;exact h _ ⟨fun b o q1 ø ø e=>R5 b o q1 e,rfl,rfl⟩ ⟨⟨⟨_,t,KN,aw rfl,(az (by decide+kernel)).trans hp⟩,⟨old,R5 _ _ (dW FY) en⟩,⟨oi,Vf⟩⟩,oi,Vf,c⟩
section
variable{fs:List Frame}{i c:Nat}{K:Flow->Sem Fin}{H:Value->Sem Fin}
theorem NZ(g:sW env)(hL:env.locals≠it)(FY:env.locals≠it+1)(KL:splitAtGen fs=none)(TO:fs.any Frame.guarded=false)(hit:items[items.length-(n+1)]?=some (i,[92,c]))(k:GK env.locals it aW s)(gs:GS env it x tx i true c s)
  (next:∀s₂ s',GK env.locals it s₂ s'->GF env it x tx (i+1) false s'->SL prog w A env it items gp fs n s₂ (K .next) s'):SL prog w A env it items gp fs (n+1) aW ((execs (tQ gp) env).wrap K H id id) s:=by
 obtain⟨m,t,u,old,hm,he,hp,hch,_⟩:=id gs;refine jW (sV fun E=>uS (eV (kG g.fn g.ke hm he (o8 (i0 rfl ?_))) rfl) rfl);refine jW (seg_Expr_Yield KL rfl TO (R2 (u:=.int (i:Nat) t) (Pv:=fun v=>∃u',v= .str (pyStr [92,c]) u') (fun E Q h=>eV (kG g.fn g.kp hm hp h) rfl)
  (fun E Q h=>wpAny_BinOp (uP (eV (kG g.fn g.kc hm hch (add_str (fun t' tk=>h _ _ ⟨_,rfl⟩) ?_)) rfl))) rfl rfl fun v tk hv MX hk=>?_) g.co (inter g))
 ·rw[gQ];show 1+1<=_;decide
 ·obtain⟨u',e⟩:=hv
  rw[e];exact KH k gs.gf.1.live hit fun s₂ ha=>hk _ _ (jW (zV fun E=>qD (uQ (wt g hL FY (gs.gf.agree ha) fun h' k' f'=>next s₂ _ k' f')) rfl))
theorem N0(g:sW env)(hL:env.locals≠it)(FY:env.locals≠it+1)(k:GK env.locals it aW s)(gs:GS env it x tx i false 92 s)
  (next:∀s',GK env.locals it aW s'->GF env it x tx (i+1) true s'->SL prog w A env it items gp fs n aW (K .next) s'):SL prog w A env it items gp fs n aW ((execs (tQ gp) env).wrap K H id id) s:=by
 obtain⟨m,t,u,old,hm,he,hp,hch,_⟩:=id gs;refine jW (sV fun E=>uS (eV (kG g.fn g.ke hm he (o8 (i0 rfl ?_))) rfl) rfl);refine jW (sV fun E=>uR (eV (kG g.fn g.kc hm hch (uP (eq_str (o8 (i0 (PP 92) ?_))))) rfl) rfl);exact jW (zV fun E=>qD (uQ (wt (s:={s with toks:=s.toks+1}) g hL FY (gs.gf.moved fun ø ø ø q=>q) fun h' k' f'=>next _ (k.trans ⟨k'.1,k'.2,k'.3⟩) f')) rfl)
theorem N1(g:sW env)(KL:splitAtGen fs=none)(TO:fs.any Frame.guarded=false)(hc:c≠92)(hit:items[items.length-(n+1)]?=some (i,[c]))(k:GK env.locals it aW s)(gs:GS env it x tx i false c s)
  (next:∀s₂,GF env it x tx (i+1) false s₂->SL prog w A env it items gp fs n s₂ (K .next) s₂):SL prog w A env it items gp fs (n+1) aW ((execs (tQ gp) env).wrap K H id id) s:=by
 obtain⟨m,t,u,old,hm,he,hp,hch,_⟩:=id gs;refine jW (sV fun E=>uS (eV (kG g.fn g.ke hm he (o8 (i0 rfl ?_))) rfl) rfl);refine jW (sV fun E=>uR (eV (kG g.fn g.kc hm hch (uP (eq_str (o8 (i0 ((PP c).trans (mB hc)) ?_))))) rfl) rfl);refine jW (seg_Expr_Yield KL rfl TO (R2 (u:=.int (i:Nat) t) (Pv:=fun v=>v= .str (pyStr [c]) u) (fun E Q h=>eV (kG g.fn g.kp hm hp h) rfl) (fun E Q h=>eV (kG g.fn g.kc hm hch (h _ _ rfl)) rfl) rfl rfl fun v tk hv MX hk=>?_) g.co (inter g));rw[hv];exact KH (s:={s with toks:=s.toks+1}) ⟨k.1,k.2,k.3⟩ gs.gf.1.live hit fun s₂ ha=>hk _ _ (next s₂ (gs.gf.agree ha))
end
theorem KP(g:sW env)(hL:env.locals≠it)(FY:env.locals≠it+1){fs:List Frame}(KL:splitAtGen fs=none)(TO:fs.any Frame.guarded=false)
  (hA:(A.over (.forLoop (pt gp) (.ref (it+1)) (tQ gp) [] env) fs).handled=none)
  (Z7:∀b aW s n,KI env it x.length b s->GK env.locals it aW s->Lf items x x.length b n->Seg (model prog w) A (GR env.locals it) (GY env.locals it items) n aW (.block [] env) (leafOf (.ok .next)) fs s):
  ∀k i b aW s n,i+k=x.length->Lf items x i b n->GF env it x tx i b s->GK env.locals it aW s->SL prog w A env it items gp fs n aW ((model prog w).den (.forLoop (pt gp) (.ref (it+1)) (tQ gp) [] env)) s:=by
 intro k
 induction k with
 |zero=>
  intro i b aW s n (e:i=_) lf hI k;obtain⟨⟨⟨m,t,hm,he,hp⟩,⟨old,XC⟩,_⟩,eF⟩:=hI;refine B5 fun E=>KG hA XC eF (yY (e▸iJ (bM ..))) fun h' IV jK=>?_
  rw[e]at hp lf;exact Z7 b aW _ n ⟨⟨m,t,hm.at fun o e=>IV _ o hL e,he,hp⟩,⟨old,IV _ _ (pL _) (e▸XC)⟩,jK⟩ (k.trans (.heap (tk:=s.toks) fun b o h1 h2 h3 e=>IV b o h2 e)) lf
 |succ k ih=>
  intro i b aW s n hk lf hI k₀;have de:i<x.length:=by omega
  have ze:i+1+k=x.length:=by omega
  have hc:=dX de;refine KM g hL FY hA hI hc fun s' K H hK k' gs=>?_
  have go:∀n b' aW s,Lf items x (i+1) b' n->GF env it x tx (i+1) b' s->GK env.locals it aW s->SL prog w A env it items gp fs n aW (K .next) s:=fun n b' aW s lf hf k=>by
   rw[hK];exact seg_again rfl (ih (i+1) b' aW s n ze lf hf k)
  have hd:=pf de
  induction b with
  |false=>
   by_cases XD:x[i]=92
   ·exact N0 g hL FY (k₀.trans k') (XD▸gs) fun s₂ k₂ R6=>go n true aW s₂ (lf.same (by rw[hd,uE,aw XD])) R6 k₂
   ·obtain⟨n',e,hit,lf'⟩:=lf.cons (i':=i+1) (b':=false) (p:=(i,[x[i]])) (by rw[hd,uE,az XD])
    rw[e];exact N1 g KL TO XD hit (k₀.trans k') gs fun s₂ R6=>go n' false s₂ s₂ lf' R6 (.refl ..)
  |true=>
   obtain⟨n',e,hit,lf'⟩:=lf.cons (i':=i+1) (b':=false) (p:=(i,[92,x[i]])) (by rw[hd,zX]);rw[e];exact NZ g hL FY KL TO hit (k₀.trans k') gs fun s₂ cB A9 Z8=>go n' false s₂ cB lf' Z8 A9
end
end
end
section
section
variable{prog:Program}{w:World}{A:Around}{E:Value->Shared->Prop}{s:Shared}
theorem B7{a:Addr}{g n:Nat}{gs:GenState}{L it:Addr}{Y:Protocol}{Q:Option Value->Shared->Prop}(hh:A.handled=none)(hl:s.heap.NoLimit)(wu:A.depth<recursionLimit)(hg:s.heap.IsGen a g)(yf:s.gens[g]?=some gs)
  (PQ:gs.Goes (model prog w) A.in1 (GR L it) Y n (.send .none) (s.setGen g .running))
  (hY:∀v s₁ gs',gs'.bare=true->Y (n-1) (s.setGen g .running) v s₁ (fun r' hZ=>match n with|0=>False|m+1=>gs'.Goes (model prog w) A.in1 (GR L it) Y m r' hZ)->Q (some v) (s₁.setGen g gs'))
  (hP:∀s₁,GP L it n (s.setGen g .running) s₁->∀h',(∀b o,s₁.heap.get? b=some o->h'.get? b=some o)->Q none {s₁.setGen g .finished with heap:=h'}):wpAny (model prog w) A (pyNext (.ref a)) Q E s:=by
 have Nn:gs≠ .running/\gs≠ .finished:=⟨fun e=>by subst e;exact PQ.elim,fun e=>by subst e;exact PQ.elim⟩;refine ar (yW (pR hg.typeIs slot_gen_next (ph slot_gen_next hg.typeIs entry_gen_next ?_ (args_gen_next _))));show wpAny _ A.in1 (Builtin.Generator.genWake (.ref a) (.send .none)) _ _ s;unfold Builtin.Generator.genWake;refine ar (gB (wpAny_genNumber hg (ar (wpAny_genState yf ?_))))
 cases gs with
 |running=>exact absurd rfl Nn.1
 |finished=>exact absurd rfl Nn.2
 |_=>
  refine ar (wpAny_roomToWake hl wu ?_);show wpAny _ A.in1 (.resume g (.send .none) [] _) _ _ s;refine wpAny_resumeQ yf PQ (fun x s₁ hx=>?_) (fun v s₁ gs' hb hv=>?_)
  ·obtain⟨rfl,hp⟩:=hx
   show wpAny _ A.in1 (newExc (.type "StopIteration") []>>= _) _ _ _;refine ar (B6 fun h' e hk he=>ar (wpAny_raiseNew_none hh ?_));obtain⟨o,ho,hc⟩:=he;refine ar (u3 (T:="StopIteration") (b:=true) ⟨o,ho,hc⟩ isSubtype_stop ?_);exact bd (hP s₁ hp _ hk)
  ·exact bd ⟨v,rfl,bd (hY v s₁ gs' hb hv)⟩
end
inductive KQ(P:Pk)(hid:List Addr)(x:V)(St:List Addr->List Addr->Nat->Shared->Prop)(i:Nat)(I:Addr)(W:List Addr)(gi:Option Nat)(s s':Shared)(r:Option Value):Prop
 |mk (v:Value) (X:List Addr) (e:r=some v) (n:∀a∈X,s.heap.get? a=none) (l:cx s'.heap X) (d:Dn P s'.heap (X++hid) x v) (st:St (X++W) (X++hid) (i+1) s') (q:Quiet s' I) (mv:Mv W gi s s'):KQ P hid x St i I W gi s s' r
structure KR(P:Pk)(A:Around)(I:Addr)(gi:Option Nat)(xs:List V)(St:List Addr->List Addr->Nat->Shared->Prop):Prop where
 frame:∀W hid ao i s s',(∀a∈W,a∈hid)->St W hid i s->Ks W hid ao s s'->St W ao i s'
 item:∀W hid i s x (E:Value->Shared->Prop),xs[i]?=some x->(∀a∈W,a∈hid)->P.G s.heap->cx s.heap hid->St W hid i s->
  wpAny (model P.prog P.w) A (pyNext (.ref I)) (fun r s'=>KQ P hid x St i I W gi s s' r) E s
 done:∀W hid s (E:Value->Shared->Prop),(∀a∈W,a∈hid)->P.G s.heap->cx s.heap hid->St W hid xs.length s->wpAny (model P.prog P.w) A (pyNext (.ref I)) (fun r s'=>r=none/\Mv0 W gi s s') E s
noncomputable abbrev mG(p:Nat×List Nat):V:=.tup [.int p.1,.str p.2]
section
variable{P:Pk}{A:Around}{a L g:Nat}{items:List (Nat×List Nat)}
inductive Z9(P:Pk)(A:Around)(a L:Nat)(items:List (Nat×List Nat))(W:List Addr)(i:Nat)(s:Shared)(gs:GenState):Prop
 |mk (e:i=0) (w:W=[a,L]) (h:∀s₂,(∀o,s.heap.get? L=some o->s₂.heap.get? L=some o)->P.G s₂.heap->gs.Goes (model P.prog P.w) A.in1 (GR L s₂.heap.objs.size) (GY L s₂.heap.objs.size items) items.length (.send .none) s₂):Z9 P A a L items W i s gs
inductive GS1(P:Pk)(A:Around)(a L:Nat)(items:List (Nat×List Nat))(W:List Addr)(i:Nat)(s:Shared)(gs:GenState):Prop
 |mk (it:Nat) (h0:0<i) (h1:i<=items.length) (w:W=[it,it+1,a,L]) (n1:a≠it) (n2:a≠it+1) (l1:∃o,s.heap.get? it=some o) (l2:∃o,s.heap.get? (it+1)=some o) (h:∀s₂,Agree L it s s₂->gs.Goes (model P.prog P.w) A.in1 (GR L it) (GY L it items) (items.length-i) (.send .none) s₂):GS1 P A a L items W i s gs
inductive TP(P:Pk)(A:Around)(a L g:Nat)(items:List (Nat×List Nat))(W hid:List Addr)(i:Nat)(s:Shared):Prop
 |mk (gs:GenState) (hg:s.heap.IsGen a g) (yf:s.gens[g]?=some gs) (n:a≠L) (l:∃o,s.heap.get? L=some o) (wa:a∈W) (wl:L∈W) (h:Z9 P A a L items W i s gs\/GS1 P A a L items W i s gs):TP P A a L g items W hid i s
theorem B8{s s₁:Shared}{g:Nat}{gs gs':GenState}(hg:s.gens[g]?=some gs)(e:s₁.gens=(s.setGen g .running).gens):(∀(i:Nat) x,(some g:Option Nat)≠some i->s.gens[i]?=some x->(s₁.setGen g gs').gens[i]?=some x)/\(s₁.setGen g gs').gens[g]?=some gs':=by
 refine⟨fun i x hi hx=>?_,?_⟩
 ·have:g≠i:=fun z=>hi (by rw[z])
  simp only[Shared.setGen,e,Array.getElem?_setIfInBounds,az this];exact hx
 ·have de:g<s.gens.size:=(yJ.mp hg).1
  simp[Shared.setGen,e,de]
theorem yg{s s₁:Shared}{g:Nat}{gs':GenState}(e:s₁.gens=(s.setGen g .running).gens)(hb:gs'.bare=true)(h:AllBare s.gens):AllBare (s₁.setGen g gs').gens:=by
 intro y hy;simp only[Shared.setGen,e,Array.setIfInBounds_setIfInBounds]at hy;rcases Array.mem_or_eq_of_mem_setIfInBounds hy with q|rfl
 ·exact h _ q
 ·exact hb
inductive Vm(P:Pk)(A:Around)(a L g:Nat)(items:List (Nat×List Nat))(W:List Addr)(i:Nat)(s:Shared)(gs:GenState):Prop
 |mk (X:List Addr) (it:Nat) (w:X++W=[it,it+1,a,L]) (x:∀b∈X,s.heap.get? b=none) (n1:a≠it) (n2:a≠it+1) (go:gs.Goes (model P.prog P.w) A.in1 (GR L it) (GY L it items) (items.length-i) (.send .none) (s.setGen g .running)):Vm P A a L g items W i s gs
theorem Vm.of{W:List Addr}{i:Nat}{s:Shared}{gs:GenState}(hG:P.G s.heap)(ha:∃o,s.heap.get? a=some o)(h:Z9 P A a L items W i s gs\/GS1 P A a L items W i s gs):Vm P A a L g items W i s gs:=by
 rcases h with⟨e,w,h⟩|⟨it,h0,h1,w,n1,n2,h4,h5,h6⟩
 ·obtain⟨o,ho⟩:=ha
  have old:∀b,s.heap.objs.size<=b->s.heap.get? b=none:=fun b h=>by
   induction e:s.heap.get? b with
   |none=>rfl
   |some o=>exact absurd (f5 e) (kJ.mpr h)
  rw[w,e];exact⟨[s.heap.objs.size,s.heap.objs.size+1],s.heap.objs.size,rfl,fun b hb=>old b ((bp.mp hb).elim (fun e=>iJ e.symm) fun h=>cN.mp h▸i5 _),jU (f5 ho),jU (ni (f5 ho)),h (s.setGen g .running) (fun ø e=>e) hG⟩
 ·rw[w]
  exact⟨[],it,rfl,fun b hb=>(nomatch hb),n1,n2,h6 (s.setGen g .running) fun b hb o e=>e⟩
theorem TP.frame{W hid ao:List Addr}{i:Nat}{s s':Shared}(st:TP P A a L g items W hid i s)(k:Ks W hid ao s s'):TP P A a L g items W ao i s':=by
 obtain⟨gs,⟨oa,nm,qn,hoa,ra⟩,yf,R7,⟨oL,qL⟩,wa,wl,h⟩:=st;have hk:∀b∈W,∀o,s.heap.get? b=some o->s'.heap.get? b=some o:=fun b hb o e=>k.keep b o (.inr hb) e
 refine⟨gs,⟨oa,nm,qn,hk a wa _ hoa,ra⟩,k.gens.1 _ _ yf,R7,⟨oL,hk L wl _ qL⟩,wa,wl,?_⟩;rcases h with⟨e,w,h⟩|⟨it,h0,h1,w,n1,n2,⟨o1,h4⟩,⟨o2,h5⟩,h6⟩
 ·exact .inl ⟨e,w,fun s₂ q=>h s₂ fun o e=>q o (hk L wl o e)⟩
 ·have m0:it∈W:=w▸ .head _
  have m1:it+1∈W:=w▸ .tail _ (.head _);exact .inr ⟨it,h0,h1,w,n1,n2,⟨o1,hk it m0 _ h4⟩,⟨o2,hk _ m1 _ h5⟩,fun s₂ q=>h6 s₂ fun b hb o e=>q b hb o (hk b (hb.elim (fun z=>z▸wl) fun hb=>hb.elim (fun z=>z▸m0) fun z=>z▸m1) o e)⟩
theorem KS{it b:Nat}{X W:List Addr}(w:X++W=[it,it+1,a,L]){s:Shared}(hX:∀b∈X,s.heap.get? b=none)(hb:b∉W){o}(e:s.heap.get? b=some o):b≠L/\b≠it/\b≠it+1:=by
 have h:b∉[it,it+1,a,L]:=w▸fun h=>(cr.mp h).elim (fun h=>nomatch(hX b h).symm.trans e) hb
 exact⟨fun z=>h (z▸ .tail _ (.tail _ (.tail _ (.head _)))),fun z=>h (z▸ .head _),fun z=>h (z▸ .tail _ (.head _))⟩
theorem KT{W hid:List Addr}{i m:Nat}{s s₁:Shared}{gs gs':GenState}{v:Value}{pc:Nat×List Nat}(Vn:items[i]?=some pc)(hm:items.length-i=m+1)(live:cx s.heap hid)(hg:s.heap.IsGen a g)(yf:s.gens[g]?=some gs)(R7:a≠L)
  {X:List Addr} {it:Nat} (w:X++W=[it,it+1,a,L]) (hX:∀b∈X,s.heap.get? b=none) (n1:a≠it) (n2:a≠it+1) (hb:gs'.bare=true)
  (hv:GY L it items m (s.setGen g .running) v s₁ fun r' hZ=>gs'.Goes (model P.prog P.w) A.in1 (GR L it) (GY L it items) m r' hZ):KQ P hid (mG pc) (TP P A a L g items) i a W (some g) s (s₁.setGen g gs') (some v):=by
 obtain⟨k,lv,⟨p,str,T,t1,t2,hit,ev,hT,hTn,hTL,hT0,hT1⟩,R8⟩:=hv;obtain⟨oa,nm,qn,hoa,ra⟩:=hg;have hi:i<items.length:=(eX.mp Vn).1;have JF:items.length-(i+1)=m:=congrArg Nat.pred hm;rw[show items.length-(m+1)=i from hm▸Nat.sub_sub_self (eY hi),Vn]at hit;rw[Option.some.inj hit];have ka:=k.keep a _ R7 n1 n2 hoa;have l4:∀b∈X++W,∃o,s₁.heap.get? b=some o:=w▸fun b hb=>(bp.mp hb).elim (fun e=>lv b (.inr (.inl e))) fun hb=>(bp.mp hb).elim (fun e=>lv b (.inr (.inr e))) fun hb=>(bp.mp hb).elim (fun e=>e▸⟨oa,ka⟩) fun hb=>lv b (.inl (cN.mp hb))
 have hTX:T∉X++W:=w▸fun hb=>(bp.mp hb).elim hT0 fun hb=>(bp.mp hb).elim hT1 fun hb=>(bp.mp hb).elim (fun e=>nomatch(e▸hTn:s.heap.get? a=none).symm.trans hoa) fun hb=>hTL (cN.mp hb)
 obtain⟨q1,q2⟩:=B8 (gs':=gs') yf k.gens;refine⟨v,X,rfl,hX,fun b hb=>l4 b (bj _ hb),?_,?_,⟨oa,"generator",ka,ra.1,by decide⟩,⟨⟨fun b o hb e=>?_,q1,yg k.gens hb,k.os⟩,fun b hb=>l4 b (bw _ hb)⟩⟩
 ·rw[ev]
  exact Dn.Pl (fun hm=>(cr.mp hm).elim (fun h=>hTX (bj _ h)) fun h=>(live T h).elim fun o e=>nomatch(hTn:s.heap.get? T=none).symm.trans e) hT (.cons (Dn.ofInt (P:=P) _ _) (.cons (Dn.ofStr (P:=P) _ _) .nil))
 ·rw[w]
  exact⟨gs',⟨oa,nm,qn,ka,ra⟩,q2,R7,lv L (.inl rfl),.tail _ (.tail _ (.head _)),.tail _ (.tail _ (.tail _ (.head _))),.inr ⟨it,nv _,hi,rfl,n1,n2,lv _ (.inr (.inl rfl)),lv _ (.inr (.inr rfl)),fun s₂ ha=>JF▸R8 s₂ ha⟩⟩
 ·have h:=KS w hX hb e
  exact k.keep b o h.1 h.2.1 h.2.2 e
theorem uA.gen(hh:A.handled=none)(wu:A.depth<recursionLimit):KR P A a (some g) (items.map mG) (TP P A a L g items)where
 frame:=fun W hid ao i s s' hW st k=>st.frame k
 item:=fun W hid i s x E hx hW hG live st=>by
  obtain⟨gs,hg,yf,R7,hL,wa,wl,h⟩:=st;rw[bL]at hx;refine bV hx fun pc Vn ex=>?_
  obtain⟨m,JF⟩:=Nat.exists_eq_succ_of_ne_zero (Nat.sub_ne_zero_of_lt (eX.mp Vn).1);obtain⟨X,it,w,hX,n1,n2,go⟩:=Vm.of (g:=g) hG (hg.elim fun o q=>q.elim fun ø q=>q.elim fun ø q=>⟨o,q.1⟩) h;rw[JF]at go;exact B7 hh (P.nolim hG) wu hg yf go (fun v s₁ gs' hb hv=>ex▸KT Vn JF live hg yf R7 w hX n1 n2 hb hv) fun s₁ hp h' hk=>nomatch hp.1
 done:=fun W hid s E hW hG live st=>by
  obtain⟨gs,hg,yf,R7,hL,wa,wl,h⟩:=st;obtain⟨X,it,w,hX,n1,n2,go⟩:=Vm.of (g:=g) hG (hg.elim fun o q=>q.elim fun ø q=>q.elim fun ø q=>⟨o,q.1⟩) h;rw[bi,Nat.sub_self]at go;refine B7 hh (P.nolim hG) wu hg yf go (fun v s₁ gs' hb hv=>?_) fun s₁ hp h' hk=>?_
  ·obtain⟨_,_,_,R8⟩:=hv
   exact(R8 s₁ fun ø ø ø e=>e).elim
  ·obtain⟨_,k⟩:=hp
   obtain⟨q1,q2⟩:=B8 (gs':=.finished) yf k.gens;refine⟨rfl,fun b o hb e=>?_,q1,yg k.gens rfl,k.os⟩;have h:=KS w hX hb e;exact hk b o (k.keep b o h.1 h.2.1 h.2.2 e)
end
end
section
variable{P:Pk}{n:Nat}{K:Cx}{lo:Bool}
noncomputable def rl(h h':Heap)(W:List Addr):Heap:={h' with objs:=h'.objs.mapIdx fun i o=>if i∈W then(h.objs[i]?).getD o else o}
theorem N2(h h':Heap)(W:List Addr){a:Addr}(lW:cx h' W)(lW':cx h W):(rl h h' W).get? a=if a∈W then h.get? a else h'.get? a:=by
 have key:∀o,(rl h h' W).get? a=some o<->(if a∈W then h.get? a else h'.get? a)=some o:=by
  intro o;rw[u6];unfold rl;simp only[Array.getElem?_mapIdx,pb];by_cases hm:a∈W
  ·simp only[hm,eI]
   obtain⟨o1,q1⟩:=lW a hm;obtain⟨o2,q2⟩:=lW' a hm;have e1:=((u6 _ _ _).mp q1).1;have e2:=(u6 _ _ _).mp q2;rw[q2];constructor
   ·rintro⟨⟨x,hx,rfl⟩,h2⟩
    rw[e2.1];rfl
   ·intro q
    cases q;exact⟨⟨o1,e1,by rw[e2.1];rfl⟩,e2.2⟩
  ·simp only[hm,eW]
   rw[u6];constructor
   ·rintro⟨⟨x,hx,rfl⟩,h2⟩;exact⟨hx,h2⟩
   ·rintro⟨h1,h2⟩;exact⟨⟨o,h1,rfl⟩,h2⟩
 cases e:(if a∈W then h.get? a else h'.get? a)with
 |none=>
  cases e':(rl h h' W).get? a with
  |none=>rfl
  |some o=>have:=(key o).mp e';rw[e]at this;cases this
 |some o=>exact(key o).mpr e
theorem aB.Vo{env:Env}{out hid W X:List Addr}{gi:Option Nat}{m}{B s s':Shared}{ρ}(S:aB P K env out hid m B s ρ)(TH:∀a∈W,a∈out)(v:Mv W gi s s')(hW:∀a∈W,B.heap.get? a=none)(hg:∀g,gi=some g->B.gens.size<=g)
  (hX:∀a∈X,s.heap.get? a=none) (lX:cx s'.heap X):aB P K env (X++out) (X++hid) m B s' ρ:=by
 have lW:cx s.heap W:=fun a h=>S.live a (S.oh a (TH a h))
 let sm:Shared:={s with heap:=rl s.heap s'.heap W}
 have R9:∀a,sm.heap.get? a=if a∈W then s.heap.get? a else s'.heap.get? a:=fun a=>N2 _ _ W v.live lW
 have k1:Kp s sm:=⟨fun b o h=>by
  rw[R9];by_cases hm:b∈W
  ·rw[aw hm];exact h
  ·rw[az hm];exact v.keep b o hm h,.refl _,rfl⟩
 have lX':cx sm.heap X:=fun a h=>by
  rw[R9];have:a∉W:=fun q=>by obtain⟨o,e⟩:=lW a q;rw[hX a h]at e;cases e
  rw[az this];exact lX a h
 have S1:=S.outer k1 hX lX';have v1:Mv W gi sm s':=⟨⟨fun b o hb h=>by rw[R9,az hb]at h;exact h,v.gens,v.bare,v.os⟩,v.live⟩;exact S1.step (fun a h=>bw _ (TH a h)) v1 hW hg
inductive xE(P:Pk)(A:Around)(hid:List Addr)(xs:List V)(s s₂:Shared)(it:Value):Prop
 |mk (I:Addr) (W:List Addr) (gi:Option Nat) (St:List Addr->List Addr->Nat->Shared->Prop) (e:it= .ref I) (k:Kp s s₂) (h:KR P A I gi xs St) (f:∀a∈W,s.heap.get? a=none) (l:cx s₂.heap W) (g:∀g,gi=some g->s.gens.size<=g) (st:St W (W++hid) 0 s₂):xE P A hid xs s s₂ it
noncomputable def Vp(P:Pk)(n:Nat)(K:Cx)(e:Expr)(f:al->Option (List V)):Prop:=
 ∀(A:Around) (env:Env) (out hid:List Addr) (m:Str->Option Value) (B s:Shared) (ρ:al) (xs:List V) (E:Value->Shared->Prop),bW n A->aB P K env out hid m B s ρ->f ρ=some xs->
  wpAny (model P.prog P.w) A (eval e env) (fun v s₁=>∀E,wpAny (model P.prog P.w) A (pyIter v) (fun it s₂=>xE P A hid xs s s₂ it) E s₁) E s
theorem TC.less{h:Heap}{out out':List Addr}{fl:Fl}{f:Flow}(x:TC P h out fl f)(hs:∀a∈out',a∈out):TC P h out' fl f:=by
 cases fl with
 |ret v=>exact x.elim fun u q=>⟨u,q.1,q.2.less hs⟩
 |_=>exact x
inductive XE(P:Pk)(K:Cx)(env:Env)(out hid:List Addr)(B s:Shared)(St:List Addr->List Addr->Nat->Shared->Prop)(i:Nat)(ρ:al)(s':Shared):Prop
 |mk (W ao:List Addr) (m':Str->Option Value) (S:aB P K env (W++out) ao m' B s' ρ) (K':Ks out hid ao s s') (wh:∀a∈W,a∈ao) (w:∀a∈W,s.heap.get? a=none) (st:St W ao i s'):XE P K env out hid B s St i ρ s'
inductive N3(P:Pk)(K:Cx)(env:Env)(out hid:List Addr)(B s:Shared)(xs:List V)(asg:al->V->Option al)(bf:al->Option (al×Fl))(aY:al)(fl:Fl)(St:List Addr->List Addr->Nat->Shared->Prop)(k:Nat)(s':Shared):Prop
 |mk (i:Nat) (am:al) (e:k+i=xs.length) (F:XE P K env out hid B s St i am s') (l:fg asg bf (xs.drop i) am=some (aY,fl)):N3 P K env out hid B s xs asg bf aY fl St k s'
section
variable{lc:Bool}{target:Expr}{body:List Stmt}{asg:al->V->Option al}{bf:al->Option (al×Fl)}{A:Around}{env:Env}{out hid:List Addr}{B s s':Shared}{xs:List V}{E:Value->Shared->Prop}{I:Addr}{gi:Option Nat}{St:List Addr->List Addr->Nat->Shared->Prop}{Q:Flow->Shared->Prop}
theorem KU(rm:bW n A)(ha:zd P K lc target asg)(hb:p5 P n K body bf)(hI:KR P A I gi xs St)(hg:∀g,gi=some g->s.gens.size<=g)(Hd:∀g,gi=some g->B.gens.size<=g)(hB:∀a,s.heap.get? a=none->B.heap.get? a=none){i:Nat}{x:V}{am fk iK:al}{fl:Fl}{J:Shared->Prop}
  (hx:xs[i]?=some x) (F:XE P K env out hid B s St i am s') (h1:asg am x=some fk) (h2:bf fk=some (iK,fl)) (hJ:∀cV nM,XE P K env out hid B s St (i+1) iK nM->TC P nM.heap out fl cV->FB Q J cV nM):
  wpAny (model P.prog P.w) A (pyNext (.ref I)) (FT P A E env Q target body J (.ref I)) (FE P A E env) s':=by
 obtain⟨W,ao,m',S',K',vq,hW,Je⟩:=F;refine au (hI.item W ao i s' x _ hx vq S'.G S'.live Je) (fun r cB eh=>?_) fun ø ø q=>q
 obtain⟨v,X,er,hX,lX,hv,KV,hq,mv⟩:=eh;rw[er];have Vq:=S'.Vo (fun a h=>bj _ h) mv (fun a h=>hB a (hW a h)) Hd hX lX;have kT:aB P K env ((X++W)++out) (X++ao) m' B cB am:=by rw[List.append_assoc];exact Vq
 have hXs:∀a∈X,s.heap.get? a=none:=fun a h=>by
  induction e:s.heap.get? a with
  |none=>rfl
  |some o=>
   by_cases q:a∈hid
   ·exact(S'.live a (K'.sub a q)).elim fun o' e'=>nomatch e'.symm.trans (hX a h)
   ·exact nomatch(K'.keep a o (.inl q) e).symm.trans (hX a h)
 have k1:=K'.mv mv.toMv0 hW hg;have Bw:Ks out hid (X++ao) s cB:=⟨k1.keep,fun a h=>(cr.mp h).elim (fun q=>.inr (hXs a q)) (k1.new a),fun a h=>bw _ (k1.sub a h),k1.gens,k1.os⟩;have Sa:∀a∈X++W,a∈X++ao:=fun a h=>(cr.mp h).elim (fun q=>bj _ q) fun q=>bw _ (vq a q)
 refine vo hq (au (ha A env _ _ m' B cB am fk x v _ rm.handled kT h1 hv) (fun ø gP A2=>?_) fun ø ø q=>q);obtain⟨nX,Hi,jM,mL,_⟩:=A2;refine au (hb A env _ nX Hi B gP fk iK fl _ rm jM h2) (fun f nM vt=>?_) fun ø ø q=>q
 obtain⟨lY,B9,wv,sX,uz⟩:=vt;exact hJ f nM ⟨X++W,lY,B9,wv,(Bw.behind mL).behind sX,fun a h=>sX.sub a (mL.sub a (Sa a h)),fun a h=>(cr.mp h).elim (hXs a) (hW a),
  hI.frame _ nX lY (i+1) gP nM (fun a h=>mL.sub a (Sa a h)) (hI.frame _ _ nX (i+1) cB gP Sa KV (mL.only fun a h=>bj _ h)) (sX.only fun a h=>bj _ h)⟩ (uz.less fun a h=>bw _ h)
theorem KW(rm:bW n A)(ha:zd P K lc target asg)(hb:p5 P n K body bf)(hI:KR P A I gi xs St)(hg:∀g,gi=some g->s.gens.size<=g)(Hd:∀g,gi=some g->B.gens.size<=g)(hB:∀a,s.heap.get? a=none->B.heap.get? a=none)(hl:cx s.heap hid)(ho:∀a∈out,a∈hid){aY:al}{fl:Fl}
  (hQ:∀cV s',I5 P K env out hid B s s' aY fl cV->Q cV s') {k:Nat} (h:N3 P K env out hid B s xs asg bf aY fl St k s'):wpAny (model P.prog P.w) A (pyNext (.ref I)) (FT P A E env Q target body (fun t=>∃m,m<k/\N3 P K env out hid B s xs asg bf aY fl St m t) (.ref I)) (FE P A E env) s':=by
 obtain⟨i,am,e,F,jK⟩:=h;by_cases de:i<xs.length
 ·obtain⟨j,hj⟩:=yN de
  have hk:k=j+1:=by omega
  have Hh:j+(i+1)=xs.length:=by omega
  rw[pf de]at jK;refine ah jK fun fk h1 jK=>ah jK fun aa0 h2 jK=>?_
  obtain⟨iK,fl₃⟩:=aa0;refine KU rm ha hb hI hg Hd hB (dX de) F h1 h2 fun cV nM Sb uz=>?_
  have inn:∀{Vr:al} {fl':Fl} {cV:Flow},some (iK,fl')=some (Vr,fl)->Vr=aY->TC P nM.heap out fl' cV->Q cV nM:=fun e e' h=>hQ _ _ (by
   cases e;obtain⟨W,lY,B9,wv,sX,wh,w,st⟩:=Sb;exact⟨lY,B9,e'▸wv.inner fun a h=>hB a (w a h),sX,h⟩)
  cases fl₃ with
  |next=>exact(show cV= .next from uz)▸⟨j,hk▸mV j,i+1,iK,Hh,Sb,jK⟩
  |cont=>exact(show cV= .cont from uz)▸⟨j,hk▸mV j,i+1,iK,Hh,Sb,jK⟩
  |brk=>exact(show cV= .brk from uz)▸inn jK rfl rfl
  |ret v=>exact uz.elim fun u q=>q.1▸inn jK rfl ⟨u,rfl,q.2⟩
 ·have he:i=xs.length:=by omega
  rw[uY (yK de)]at jK;obtain⟨W,ao,m',S',K',vq,hW,Je⟩:=F;refine au (hI.done W ao s' _ vq S'.G S'.live (he▸Je)) (fun r cB eh=>?_) fun ø ø q=>q
  obtain⟨er,mv⟩:=eh;rw[er];have hn:∀a∈W,a∉hid:=fun a h q=>(hl a q).elim fun o e=>nomatch e.symm.trans (hW a h)
  obtain⟨e1,e2⟩:=jQ (Option.some.inj jK);exact hQ .next cB ⟨_,m',e1▸S'.last mv (fun a h=>hB a (hW a h)) Hd (fun a h q=>hn a q (ho a h)),(K'.mv mv hW hg).last hn,e2▸rfl⟩
end
theorem En{lc:Bool}{target iter:Expr}{body:List Stmt}{pos:Pos}{asg bf}{A:Around}{env:Env}{out hid:List Addr}{m:Str->Option Value}{B s:Shared}{ρ aY:al}{fl:Fl}{xs:List V}{E:Value->Shared->Prop}(rm:bW n A)(S:aB P K env out hid m B s ρ)
  (hi:wpAny (model P.prog P.w) A (eval iter env) (fun v s₁=>wpAny (model P.prog P.w) A (pyIter v) (fun it s₂=>xE P A hid xs s s₂ it) E s₁) E s)
  (ha:zd P K lc target asg) (hb:p5 P n K body bf) (hs:∀x,foldedSetIterable iter env x=pure x) (hf:fg asg bf xs ρ=some (aY,fl)):
  wpAny (model P.prog P.w) A (exec (.For target iter body [] pos) env) (fun cV s'=>I5 P K env out hid B s s' aY fl cV) E s:=by
 refine A1 hs (au hi (fun v s₁ ag=>au ag (fun it s₂ aH=>?_) fun ø ø q=>q) fun ø ø q=>q);obtain⟨I,W,gi,St,e,kp,hI,hW,lW,hg,st⟩:=aH;rw[e];have p7:Ks out hid (W++hid) s s₂:=⟨fun b o ø h=>kp.keep b o h,fun a h=>(cr.mp h).elim (fun q=>.inr (hW a q)) .inl,fun a h=>bw _ h,kp.gens,kp.os⟩;exact⟨fun k s'=>N3 P K env out hid B s xs asg bf aY fl St k s',xs.length,⟨0,ρ,rfl,⟨W,W++hid,m,S.outer kp hW lW,p7,fun a h=>bj _ h,hW,st⟩,hf⟩,
  fun k s' h=>KW rm ha hb hI hg (fun g e=>aA S.kp.gens.size (hg g e)) (fun a h=>S.fresh h) S.live S.oh (fun ø ø q=>q) h⟩
theorem qd{lc:Bool}{target iter:Expr}{body:List Stmt}{pos:Pos}{it asg bf}(hi:Vp P n K iter it)(ha:zd P K lc target asg)(hb:p5 P n K body bf)(hs:∀env x,foldedSetIterable iter env x=pure x):
  uk P n K (.For target iter body [] pos) (Ha it asg bf):=fun A env out hid m B s ρ aY fl E rm S hf=>by
 refine ah hf fun xs xu gg=>?_
 clear hf;rename _=>hf
 exact En rm S (au (hi A env out hid m B s ρ xs E rm S xu) (fun v s₁ h=>h E) fun ø ø q=>q) ha hb (hs env) hf
theorem uA.toG{A:Around}{I:Addr}{W:List Addr}{gi:Option Nat}{xs:List V}{St:List Addr->Nat->Shared->Prop}(h:uA P A I W gi xs St):KR P A I gi xs (fun W' hid i s=>W'=W/\St hid i s)where
 frame:=fun W' hid ao i s s' hW st k=>by
  obtain⟨rfl,st⟩:=st;exact⟨rfl,h.frame hid ao i s s' hW st k⟩
 item:=fun W' hid i s x E hx hW hG live st=>by
  obtain⟨rfl,st⟩:=st;exact au (h.item hid i s x E hx hW hG live st) (fun r s' q=>by obtain⟨v,q1,q2,q3,q4,q5⟩:=q;exact⟨v,[],q1,fun a h=>(nomatch h),fun a h=>(nomatch h),q2,⟨rfl,q3⟩,q4,q5⟩) fun ø ø q=>q
 done:=fun W' hid s E hW hG live st=>by
  obtain⟨rfl,st⟩:=st;exact h.done hid s E hW hG live st
theorem TG.toG{A:Around}{hid:List Addr}{xs:List V}{s s₂:Shared}{it:Value}(q:TG P A hid xs s s₂ it):xE P A hid xs s s₂ it:=by
 obtain⟨I,W,gi,St,e,k,h,f,l,g,st⟩:=q;exact⟨I,W,gi,_,e,k,h.toG,f,l,g,rfl,st⟩
theorem fU{lc:Bool}{target iter:Expr}{body:List Stmt}{pos:Pos}{it asg bf}(hi:QJ P n K iter it)(ha:zd P K lc target asg)(hb:p5 P n K body bf)(hs:∀env x,foldedSetIterable iter env x=pure x):
  uk P n K (.For target iter body [] pos) (Ha it asg bf):=fun A env out hid m B s ρ aY fl E rm S hf=>by
 refine ah hf fun xs xu gg=>?_
 clear hf;rename _=>hf
 exact En rm S (au (hi A env out hid m B s ρ xs E rm S xu) (fun v s₁ h=>au h (fun ø ø q=>q.toG) fun ø ø q=>q) fun ø ø q=>q) ha hb (hs env) hf
theorem KX{A:Around}(hh:A.handled=none){s aW:Shared}(kp:Kp aW s){hid:List Addr}{l:List Nat}{t:Tok}{E:Value->Shared->Prop}:
  wpAny (model P.prog P.w) A (pyIter (.str (pyStr l) t)) (fun it s₂=>xE P A hid (l.map fun c=>V.str [c]) aW s₂ it) E s:=by
 have eG:aW.heap.get? s.heap.objs.size=none:=by
  cases e:aW.heap.get? s.heap.objs.size with
  |none=>rfl
  |some o=>have:=kp.keep _ _ e;rw[aP]at this;cases this
 have hsz:(pyStr l).cps.size=(l.map fun c=>V.str [c]).length:=by simp
 have rel:∀hid i x v (s:Shared),True->(l.map fun c=>V.str [c])[i]?=some x->SignAt (pyStr l) i v->Dn P s.heap hid x v:=fun hid i x v s ø hx hv=>by
  obtain⟨c,u,hc,rfl⟩:=hv;rw[bL]at hx;have Ja:l[i]?=some c:=by simpa using hc
  rw[Ja]at hx;cases hx;exact .ofStr [c] u
 cases ha:(pyStr l).cps.all (· <128)
 ·have W:=Walks.strWide (prog:=P.prog) (w:=P.w) hh s.heap.objs.size (pyStr l) t
  rw[hsz]at W;refine wpAny_pyIter_wide ha ⟨s.heap.objs.size,[s.heap.objs.size],none,_,rfl,kp.trans (Kp.push s _ _),uA.toG (uA.of W (fun ø ø=>True) (fun ø ø ø ø ø ø ø=>trivial) (fun ø ø ø ø ø ø ø=>trivial) rel (fun i h st=>?_)),fun b hb=>?_,fun b hb=>?_,fun g q=>(nomatch q),rfl,?_⟩
  ·obtain⟨o,ho,hc,_⟩:=st
   exact⟨o,"str_iterator",ho,hc,by decide⟩
  ·obtain rfl:b=s.heap.objs.size:=by simpa using hb
   exact eG
  ·obtain rfl:b=s.heap.objs.size:=by simpa using hb
   exact⟨_,bD _ rfl⟩
  ·refine⟨⟨_,bD _ rfl,rfl,rfl⟩,trivial,fun b hb D1=>absurd (by simpa using hb) D1,by simp⟩
 ·have W:=Walks.strAscii (prog:=P.prog) (w:=P.w) hh s.heap.objs.size (pyStr l) t
  rw[hsz]at W;refine wpAny_pyIter_ascii ha ⟨s.heap.objs.size,[s.heap.objs.size],none,_,rfl,kp.trans (Kp.push s _ _),uA.toG (uA.of W (fun ø ø=>True) (fun ø ø ø ø ø ø ø=>trivial) (fun ø ø ø ø ø ø ø=>trivial) rel (fun i h st=>?_)),fun b hb=>?_,fun b hb=>?_,fun g q=>(nomatch q),rfl,?_⟩
  ·obtain⟨o,ho,hc,_⟩:=st
   exact⟨o,"str_ascii_iterator",ho,hc,by decide⟩
  ·obtain rfl:b=s.heap.objs.size:=by simpa using hb
   exact eG
  ·obtain rfl:b=s.heap.objs.size:=by simpa using hb
   exact⟨_,bD _ rfl⟩
  ·refine⟨⟨_,bD _ rfl,rfl,rfl⟩,trivial,fun b hb D1=>absurd (by simpa using hb) D1,by simp⟩
end
section
variable{P:Pk}{n:Nat}{K:Cx}{lo:Bool}
section
variable{gp:Nat->Pos}
noncomputable abbrev j3(gp:Nat->Pos):List Stmt:=
 [.Assign [.Name "pos" (gp 0)] (.Constant (.int 0) 0 (gp 1)) (gp 2),.Assign [.Name "escape" (gp 3)] (.Constant (.bool false) 0 (gp 4)) (gp 5),
  .For (pt gp) (.Call (.Name "enumerate" (gp 6)) [.Name "addr" (gp 7)] [] (gp 8)) (tQ gp) [] (gp 9),
  .If (.Name "escape" (gp 10)) [.Expr (.Yield (some (.Tuple [.Name "pos" (gp 11),.Constant (.str "\\") 0 (gp 12)] 0 (gp 13))) (gp 14)) (gp 15)] [] (gp 16)]
structure PR(fd:FuncData):Prop where
 gl:fd.globals=mainGlobals
 bl:fd.builtins=builtinsNs
 clo:fd.closure=[]
 bind:∀v,bindArgs fd ⟨[v],[]⟩=pure [((Str.ofString "addr"),v)]
 fn:fd.scope.kind= .function
 co:fd.scope.isCoroutine=false
 gen:fd.scope.isGenerator=true
 ka:fd.scope.names.lookup (Str.ofString "addr")=some .local
 kp:fd.scope.names.lookup (Str.ofString "pos")=some .local
 ke:fd.scope.names.lookup (Str.ofString "escape")=some .local
 kc:fd.scope.names.lookup (Str.ofString "ch")=some .local
 kn:fd.scope.names.lookup (Str.ofString "enumerate")=some .globalImplicit
 cell:∀x∈fd.scope.names,x.2≠ .cell
theorem zY{A:Around}(hh:A.handled=none)(c c':Code)(k:Result->Sem Fin)(g:Bool)(l:List Value)(p:Pos):(A.in1.over c [.ret k none g l c' p []]).handled=none:=by
 show(marksOver [.ret k none g l c' p []] (A.handled,A.handled)).1=none;rw[hh];rfl
theorem N4{A:Around}(hh:A.handled=none){env:Env}(g:sW env)(ka:env.kindOf "addr"=some .local)(kn:env.kindOf "enumerate"=some .globalImplicit){x:List Nat}{tx t:Tok}{aW s:Shared}{it:Addr}(hit:s.heap.objs.size=it)(hL:env.locals<it){K:Flow->Sem Fin}{H:Value->Sem Fin}(hK:K .next= .pure (.done (.ret .none)))
  (glob:∀{A':Around} {E':Value->Shared->Prop} {Q:Value->Shared->Prop} {tk:Nat},Q (.type "enumerate") {s with toks:=tk}->wpAny (model P.prog P.w) A' (loadGlobal env "enumerate") Q E' {s with toks:=tk})
  {m:Str->Option Value} (hm:s.heap.Ns env.locals m) (ha:m "addr"=some (.str (pyStr x) tx)) (he:m "escape"=some (.bool false)) (hp:m "pos"=some (.int 0 t)) (k₁:GK env.locals it aW s):
  Seg (model P.prog P.w) A.in1 (GR env.locals it) (GY env.locals it (gZ 0 false x)) (gZ 0 false x).length aW (.func (j3 gp) env) ((execs [.For (pt gp) (.Call (.Name "enumerate" (gp 6)) [.Name "addr" (gp 7)] [] (gp 8)) (tQ gp) [] (gp 9),
   .If (.Name "escape" (gp 10)) [.Expr (.Yield (some (.Tuple [.Name "pos" (gp 11),.Constant (.str "\\") 0 (gp 12)] 0 (gp 13))) (gp 14)) (gp 15)] [] (gp 16)] env).wrap K H id id) [] s:=by
 subst hit;refine jW (NY (fun x=>rfl) fun E=>kH (Name_function_global g.fn kn (glob ?_) rfl));refine Dz (jS (eV (kG g.fn ka hm ha (jR ?_)) rfl));refine call_enumerate_str fun eh PS Eo ad2 PT E=>?_
 have W:=WalksT.enumerateD (yd (prog:=P.prog) (w:=P.w) (A:=A.in1.over (.func (j3 gp) env) []) (it:=s.heap.objs.size) (x:=x) (tx:=tx) hh) (s.heap.objs.size+1) (pL _) (fun h=>pL _ (cN.mp h)) (.head _);refine W.self 0 _ _ _ ⟨⟨.none,PS⟩,Eo⟩ fun k l p hk=>?_
 refine KP (x:=x) (tx:=tx) g (jU hL) (jU (ni hL)) rfl rfl (zY hh _ _ _ _ _ _) (fun b aW s' n' hI k' lf=>seg_leaf (.ok .next) ?_) x.length 0 false aW _ _ (gq _) ⟨rfl,by rw[Nat.sub_self];rfl,cF _⟩
  ⟨⟨⟨m,t,hm.at fun o q=>PT _ o q,he,hp⟩,⟨.none,PS⟩,Eo.elim fun o q=>⟨o,q.1⟩⟩,Eo⟩ ⟨fun b o e1 e2 e3 e=>PT b o (k₁.keep b o e1 e2 e3 e),k₁.gens,k₁.os⟩
 rw[hk];exact KJ g (x:=x) (fs:=[]) rfl (by exact hh) hK hI k' lf
theorem Hv{A:Around}(hh:A.handled=none){env:Env}(g:sW env)(ka:env.kindOf "addr"=some .local)(kn:env.kindOf "enumerate"=some .globalImplicit)(gl:env.globals=mainGlobals)(bl:env.builtins=builtinsNs){x:List Nat}{tx:Tok}{s:Shared}
  (hLg:env.locals≠mainGlobals) (hLb:env.locals≠builtinsNs) (hG:P.G s.heap) (ww:P.glob "enumerate"=some (.type "enumerate")) {m:Str->Option Value} (hm:s.heap.Ns env.locals m) (hma:m "addr"=some (.str (pyStr x) tx)):
  Seg (model P.prog P.w) A.in1 (GR env.locals s.heap.objs.size) (GY env.locals s.heap.objs.size (gZ 0 false x)) (gZ 0 false x).length s (.func (j3 gp) env)
   ((model P.prog P.w).den (.func (j3 gp) env)) [] s:=by
 refine seg_func ?_;refine jW (zV fun E=>qD (wpAny_Constant_int (rL g.kp hm (fun ag yh jY=>?_) g.hp)) rfl);refine jW (zV fun E=>qD (uQ (rL g.ke yh (fun aH Vs FN=>?_) g.hp)) rfl);have hsz:aH.objs.size=s.heap.objs.size:=FN.1.trans jY.1;have Em:∀b o,b≠env.locals->s.heap.get? b=some o->aH.get? b=some o:=fun b o q e=>(FN.2 b q).trans ((jY.2 b q).trans e)
 obtain⟨mg,mb,z1,z2,z3⟩:=P.aM hG;have z1':aH.Ns env.globals mg:=gl▸z1.at fun o q=>Em _ o (dW hLg) q
 have z2':aH.Ns env.builtins mb:=bl▸z2.at fun o q=>Em _ o (dW hLb) q
 exact N4 hh g ka kn hsz (hm.elim fun oL q=>q.elim fun es q=>q.elim fun ep q=>f5 q.1) rfl (fun h=>(z3 _ _ ww).elim (fun q=>loadGlobal_global z1' q h) fun q=>loadGlobal_builtin z1' q.1 z2' q.2 h) Vs
  ((az (by decide+kernel)).trans ((az (by decide+kernel)).trans hma)) (aw rfl) ((az (by decide+kernel)).trans (aw rfl)) ⟨fun b o e1 ø ø e=>Em b o e1 e,rfl,rfl⟩
theorem KY(ww:P.glob "enumerate"=some (.type "enumerate")){A:Around}{s s₁:Shared}{hid:List Addr}{x:List Nat}{tx:Tok}{E:Value->Shared->Prop}{env:Env}{ag:Heap}(hh:A.handled=none)(Hw:A.depth<recursionLimit)(hG:P.G s.heap)
  (g:sW env) (ka:env.kindOf "addr"=some .local) (kn:env.kindOf "enumerate"=some .globalImplicit) (gl:env.globals=mainGlobals) (bl:env.builtins=builtinsNs) (eL:env.locals=s.heap.objs.size)
  (yh:ag.Ns env.locals (fun y=>([((Str.ofString "addr"),Value.str (pyStr x) tx)]:List (Str×Value)).reverse.lookup y)) (hsz:ag.objs.size=s.heap.objs.size+1) (TQ:∀b o,s.heap.get? b=some o->ag.get? b=some o) (Em:∀b o,ag.get? b=some o->s₁.heap.get? b=some o)
  (lg:∃o,s₁.heap.get? ag.objs.size=some o) (ur:s₁.heap.IsGen ag.objs.size s.gens.size) (yf:s₁.gens=s.gens.push (GenState.fresh (Code.func (j3 gp) env))) (xX:s₁.os=s.os):
  wpAny (model P.prog P.w) A (pyIter (.ref ag.objs.size)) (fun it s₂=>xE P A hid ((gZ 0 false x).map mG) s s₂ it) E s₁:=by
 obtain⟨oL,es,ep,qL,_⟩:=id yh;obtain⟨mg,mb,z1,z2,_⟩:=P.aM hG;have bN:ag.objs.size≠env.locals:=by rw[eL,hsz];exact pL _
 have old:∀b,s.heap.objs.size<=b->s.heap.get? b=none:=fun b h=>by
  induction e:s.heap.get? b with
  |none=>rfl
  |some o=>exact absurd (f5 e) (kJ.mpr h)
 refine wpAny_pyIter_gen ur ⟨ag.objs.size,[ag.objs.size,env.locals],some s.gens.size,_,rfl,⟨fun b o e=>Em b o (TQ b o e),⟨fun i y e=>?_,fun hb=>yf▸AllBare.push hb rfl⟩,xX⟩,uA.gen (L:=env.locals) hh Hw,fun b hb=>old b ?_,fun b hb=>(bp.mp hb).elim (fun e=>e▸lg) fun h=>cN.mp h▸⟨oL,Em _ _ qL⟩,fun g' e=>iJ (Option.some.inj e),?_⟩
 ·rw[yf,Array.getElem?_push,az (jU (yJ.mp e).1)];exact e
 ·exact(bp.mp hb).elim (fun e=>e▸hsz▸i5 _) fun h=>iJ (eL.symm.trans (cN.mp h).symm)
 ·refine⟨.fresh (.func (j3 gp) env),ur,by rw[yf];exact Array.getElem?_push_size ..,bN,⟨oL,Em _ _ qL⟩,.head _,.tail _ (.head _),.inl ⟨rfl,rfl,fun s₂ hL2 hG2=>⟨rfl,?_⟩⟩⟩
  exact Hv hh g ka kn gl bl (fun e=>pI _ (eL▸e▸z1.lt)) (fun e=>pI _ (eL▸e▸z2.lt)) hG2 ww (yh.at fun o e=>hL2 o (Em _ _ e)) rfl
theorem KZ{a:Addr}{fd:FuncData}(De:∀h,P.G h->(∃o,h.get? a=some o/\o.data= .func fd)/\h.CodeRec fd.code fd.qualname)(gf:PR fd)
  (nY:fd.body= .stmts (j3 gp)) (ww:P.glob "enumerate"=some (.type "enumerate"))
  {A:Around} {s:Shared} {hid:List Addr} {x:List Nat} {tx:Tok} {E:Value->Shared->Prop} (rm:bW n A) (hG:P.G s.heap):
  wpAny (model P.prog P.w) A (call (.ref a) [.str (pyStr x) tx]) (fun v s₁=>∀E,wpAny (model P.prog P.w) A (pyIter v) (fun it s₂=>xE P A hid ((gZ 0 false x).map mG) s s₂ it) E s₁) E s:=by
 obtain⟨⟨o,ho,Qu⟩,hcr⟩:=De _ hG;have Hw:A.depth<recursionLimit:=gR (aA (nr _ _) rm.depth) (by decide);refine wpAny_call (codeAny_call_generator Hw ho Qu gf.co gf.gen nY hcr ?_);rw[gf.bind,gf.clo];refine bd (wpAny_newFunctionEnv gf.cell (fun y hy=>cN.mp hy▸gf.ka) (fun ag yh jY=>?_) gf.fn);have TQ:∀b o,s.heap.get? b=some o->ag.get? b=some o:=fun b o e=>jY.extBut b o (jU (f5 e)) (bK _ e)
 exact⟨(P.nolim hG).keeps TQ,fun E=>KY (env:=newEnv fd.scope s.heap.objs.size fd.globals [] (fd.qualname++".<locals>.") (some a) fd.code none fd.builtins) ww rm.handled Hw hG ⟨gf.fn,gf.co,gf.kp,gf.ke,gf.kc⟩ gf.ka gf.kn gf.gl gf.bl rfl yh
  (jY.1.trans (qF ..)) TQ (fun b o e=>bK _ e) ⟨_,bD _ rfl⟩ ⟨_,_,_,bD _ rfl,rfl,rfl,rfl⟩ rfl rfl⟩
noncomputable def Sc(xs:List V):Option (List V):=(V.one? xs).bind fun x=>x.jL.bind fun l=>if l.length<=most then some ((gZ 0 false l).map mG)else none
theorem Sd(l:List Nat):Sc [.str l]=if l.length<=most then some ((gZ 0 false l).map mG)else none:=id rfl
noncomputable def Ca(P:Pk)(a:Addr):Prop:=∃fd:FuncData,(∀h,P.G h->(∃o,h.get? a=some o/\o.data= .func fd)/\h.CodeRec fd.code fd.qualname)/\PR fd/\P.glob "enumerate"=some (.type "enumerate")/\
 ∃gp,fd.body= .stmts (j3 gp)
theorem xE.pre{A:Around}{hid:List Addr}{xs:List V}{s s₁ s₂:Shared}{it:Value}(h:xE P A hid xs s₁ s₂ it)(k:Kp s s₁):xE P A hid xs s s₂ it:=by
 obtain⟨I,W,gi,St,z1,z2,z3,z4,z5,z6,z7⟩:=h;refine⟨I,W,gi,St,z1,k.trans z2,z3,fun b hb=>?_,z5,fun g e=>aA k.gens.size (z6 g e),z7⟩
 induction e:s.heap.get? b with
 |none=>rfl
 |some o=>exact nomatch(k.keep _ _ e).symm.trans (z4 b hb)
theorem nZ{id:Str}{p pos:Pos}{es:List Expr}{f}{a:Addr}(hx:K.aM.contains id=true)(hv:P.glob id=some (.ref a))(hd:(id==("__debug__":Str))=false)(hg:Ca P a)
  (hs:lz P n K true es f) (eF:∀env,starEach es env=es.map fun e=>(false,eval e env)) (bN:es≠[]):Vp P n K (.Call (.Name id p) es [] pos) (fun ρ=>(f ρ).bind Sc):=fun A env out hid m B s ρ xs E rm S hf=>by
 obtain⟨fd,De,gf,ww,gp,nY⟩:=hg;refine ah hf fun y hy hq=>ah hq fun y1 hy1 hq=>ah hq fun x IS hq=>eN hq fun Vt e=>?_
 rw[V.gF hy1,V.kP IS]at hy;obtain⟨⟨o,ho,Qu⟩,_⟩:=De _ S.G;refine kH (bH S hx hv hd (callWith_function (o:=o) (fd:=fd) ?_));have key:=hs A env out hid m B s ρ _ E pos rm S hy
 induction es with
 |nil=>exact absurd rfl bN
 |cons iE es' _=>
 have hb:backTo pos (starEach (iE::es') env)=(false,eval iE env)::(backTo pos (starEach (iE::es') env)).tail:=by rw[eF];rfl
 rw[hb]at key ⊢;refine uU (au key (fun vs s₁ ag=>⟨⟨ag.1.keep _ _ ho,Qu⟩,?_⟩) fun ø ø q=>q);obtain⟨k₁,Cb⟩:=ag;obtain⟨v,ev,hv⟩:=FH Cb;obtain⟨t,et⟩:=hv.str_inv;rw[ev,et];exact au (KZ (hid:=hid) De gf nY ww rm (S.after k₁).G) (fun v s₂ aH E=>au (aH E) (fun it cB eh=>e▸eh.pre k₁) fun ø ø q=>q) fun ø ø q=>q
end
end
section
variable{P:Pk}{n:Nat}{K:Cx}{lo:Bool}
noncomputable def oE(env:Env)(hid:List Addr):List Addr:=env.locals::((env.cells.filter fun y=>env.cells.lookup y.1==some y.2).map (·.2)++hid)
theorem K0{env:Env}{hid:List Addr}{y:Str}{d:Addr}(h:env.cells.lookup y=some d):d∈oE env hid:=
 .tail _ (bj _ (bP.mpr ⟨(y,d),kI.mpr ⟨lookup_mem h,jT.mpr h⟩,rfl⟩))
theorem yi{env:Env}{hid:List Addr}{C:Addr->Prop}(h0:C env.locals)(h1:∀y d,env.cells.lookup y=some d->C d)(h2:∀c∈hid,C c):∀c∈oE env hid,C c:=fun c hc=>
 (bp.mp hc).elim (fun e=>e▸h0) fun hc=>(cr.mp hc).elim (fun q=>by
  obtain⟨y,hy,e⟩:=bP.mp q;exact e▸h1 y.1 y.2 (eq_of_beq (kI.mp hy).2)) (h2 c)
theorem K2{fd:FuncData}{ps:List Str}(ok:vw K fd.scope ps)(Bh:ps.Nodup){env:Env}{s s₁:Shared}{hid:List Addr}{xs:List V}{vs:List Value}(hG:P.G s.heap)(live:cx s.heap hid)(hd:aU P s.heap hid xs vs)(hlen:xs.length=ps.length)
  (fn:env.scope.kind= .function) (gl:env.globals=mainGlobals) (bl:env.builtins=builtinsNs) (eL:env.locals=s.heap.objs.size) (ek:∀y,env.kindOf y=fd.scope.names.lookup y) (ecl:env.cells=cellsFrom (s.heap.objs.size+1) fd.scope.names [])
  (ic:InCallC s env.locals (bindL env.kindOf (ps.zip vs) fun ø=>none) env.cells (bindC env.kindOf (ps.zip vs) fun ø=>none) s₁):
  aB P K env hid (oE env hid) (bindL env.kindOf (ps.zip vs) fun ø=>none) s s₁ (oR xs)/\∀c∈oE env hid,c∈hid\/s.heap.get? c=none:=by
 have kp:Kp s s₁:=by
  obtain⟨h',tk,e⟩:=ic.toInCall.same;have hk:=ic.toInCall.keep;rw[e]at hk ⊢;exact .heap hk
 have s0:∀c,s.heap.objs.size<=c->s.heap.get? c=none:=fun c hc=>by
  induction e:s.heap.get? c with
  |none=>rfl
  |some o=>exact absurd (f5 e) (kJ.mpr hc)
 have hcn:∀y c,env.cells.lookup y=some c->s.heap.get? c=none:=fun y c q=>s0 c (eL▸eY (ic.above y c (lookup_mem q)))
 have Fw:∀y c,env.cells.lookup y=some c->c∉hid:=fun y c q z=>(live _ z).elim fun o e=>nomatch e.symm.trans (hcn y c q)
 have hL0:s.heap.get? env.locals=none:=by rw[eL];exact aP _
 have eG:∀c∈oE env hid,c∈hid\/s.heap.get? c=none:=yi (.inr hL0) (fun y d q=>.inr (hcn y d q)) fun c h=>.inl h
 have tH:∀y,fd.scope.names.lookup y=some .cell->∃d,env.cells.lookup y=some d:=fun y hl=>by
  obtain⟨c,hc⟩:=ia (k:=s.heap.objs.size+1) (acc:=[]) (.inl (nL hl));rw[<-ecl]at hc;exact mem_lookup hc
 have oO:∀y k ov,fd.scope.names.lookup y=some k->(k= .local\/k= .cell)->(k= .local->bindL env.kindOf (ps.zip vs) (fun ø=>none) y=ov)->(k= .cell->bindC env.kindOf (ps.zip vs) (fun ø=>none) y=ov)->At env (bindL env.kindOf (ps.zip vs) fun ø=>none) s₁.heap hid (oE env hid) y k ov:=fun y k ov hl hk h1 h2=>by
  rcases hk with e|e
  ·rw[e];exact h1 e
  ·obtain⟨d,iY⟩:=tH y (e▸hl)
   rw[e,<-h2 e];exact⟨d,iY,K0 iY,Fw _ _ iY,ic.cell _ _ iY⟩
 refine⟨⟨fn,gl,bl,fun j y k b hj=>(ek y).trans (ok.vars j y k b hj).1,fun y hy=>(ek y).trans (ok.glob y hy),ok.nodup,fun y z c q1 q2=>?_,?_,fun c hc=>.tail _ (bw _ hc),.head _,
  fun hc=>(live _ hc).elim fun o q=>(nomatch q.symm.trans hL0),ic.toInCall.ns,fun j y k b hj=>?_,fun i j y z k k' c Ty hi hj ø ø=>.inl ?_,hG,kp,fun c hc ho=>(eG c hc).elim (fun q=>absurd q ho) id⟩,eG⟩
 ·obtain⟨i,hi,e1⟩:=Ds (lookup_mem q1)
  obtain⟨j,hj,e2⟩:=Ds (lookup_mem q2);have pw:=fun i j hi hj de=>DA.mp ic.apart i j hi hj de
  rcases Nat.lt_trichotomy i j with de|heq|hgt
  ·exact absurd (by rw[e1,e2]) (pw i j hi hj de)
  ·exact congrArg Prod.fst (e1.symm.trans ((getElem_congr_idx heq).trans e2))
  ·exact absurd (by rw[e1,e2]) (pw j i hj hi hgt)
 ·exact yi (ic.toInCall.ns.elim fun o q=>q.elim fun ø q=>q.elim fun ø q=>⟨o,q.1⟩) (fun y d q=>(ic.cell y d q).elim fun o q=>⟨o,q.1⟩) (live.kp kp)
 ·obtain⟨hl,hk⟩:=ok.vars j y k b hj
  by_cases XF:j<ps.length
  ·obtain⟨k',hv⟩:=ok.pars j ps[j] (dX XF)
   obtain⟨ey,q⟩:=jQ (Option.some.inj (hj.symm.trans hv));have eb:=(jQ q).2;have hjx:j<xs.length:=hlen▸XF;obtain⟨v,hv,QH⟩:=aV.get (i:=j) (x:=xs[j]) hd (dX hjx);have hp:ps[j]?=some y:=ey▸dX XF;refine⟨some v,oO y k _ hl hk (fun e=>Be Bh hp hv ((ek _).trans (e▸hl))) (fun e=>Bf Bh hp hv (by rw[ek,hl,e];nofun)),?_⟩;rw[show oR xs j=some xs[j]from dX hjx,eb];exact⟨v,rfl,Dn.grow (P:=P) QH (fun c o ø q=>kp.keep c o q) eG⟩
  ·have e:oR xs j=none:=iI (hlen▸kJ.mp XF)
   rcases hk with q|q
   ·exact⟨_,oO y k _ hl (.inl q) (fun ø=>rfl) (fun z=>nomatch q.symm.trans z),by rw[e];trivial⟩
   ·exact⟨_,oO y k _ hl (.inr q) (fun z=>nomatch q.symm.trans z) (fun ø=>rfl),by rw[e];trivial⟩
 ·by_cases XG:i<ps.length
  ·obtain⟨k',hv⟩:=ok.pars i ps[i] (dX XG)
   exact nomatch(jQ (jQ (Option.some.inj (hi.symm.trans hv))).2).2
  ·exact iI (hlen▸kJ.mp XG)
theorem wx{a:Addr}{fd:FuncData}{body:List Stmt}{ps:List Str}(De:∀h,P.G h->(∃o,h.get? a=some o/\o.data= .func fd)/\h.CodeRec fd.code fd.qualname)(nY:fd.body= .stmts body)
  (AK:fd.globals=mainGlobals) (Se:fd.builtins=builtinsNs) (Ep:fd.closure=[]) (wy:∀vs:List Value,vs.length=ps.length->bindArgs fd ⟨vs,[]⟩=pure (ps.zip vs)) (ok:vw K fd.scope ps) (Bh:ps.Nodup)
  (N5:fd.scope.isCoroutine=false) (ur:fd.scope.isGenerator=false) {A:Around} {s:Shared} {hid:List Addr} {xs:List V} {vs:List Value} {Q:Value->Shared->Prop} {E:Value->Shared->Prop} (rm:bW (n+1) A) (hG:P.G s.heap) (live:cx s.heap hid) (hd:aU P s.heap hid xs vs) (hlen:xs.length=ps.length)
  (h:∀env s₁ ao m E',aB P K env hid ao m s s₁ (oR xs)->(∀c∈ao,c∈hid\/s.heap.get? c=none)->bW n (A.deeper env)->wpAny (model P.prog P.w) (A.deeper env) (execs body env) (fun f s'=>Q (match f with| .ret v=>v|_=>.none) s') E' s₁):
  wpAny (model P.prog P.w) A (call (.ref a) vs) Q E s:=by
 obtain⟨⟨o,ho,Qu⟩,hcr⟩:=De _ hG;have zg:vs.length=ps.length:=hd.length.trans hlen;have Hw:A.depth<recursionLimit:=gR (aA (nr _ _) rm.depth) (by decide);have lj:∀y∈ps.zip vs,∃j v,ps[j]?=some y.1/\vs[j]?=some v:=fun y hy=>by
  obtain⟨j,hj⟩:=DB.mp hy;rw[List.getElem?_zip_eq_some]at hj;exact⟨j,y.2,hj.1,hj.2⟩
 have hbk:∀y∈ps.zip vs,fd.scope.names.lookup y.1=some .local\/(fd.scope.names.lookup y.1=some .cell/\((cellsFrom (s.heap.objs.size+1) fd.scope.names []).lookup y.1).isSome=true):=fun y hy=>by
  obtain⟨j,v,hj,_⟩:=lj y hy;obtain⟨k,hv⟩:=ok.pars j y.1 hj;obtain⟨hl,hk⟩:=ok.vars j _ _ _ hv;rcases hk with rfl|rfl
  ·exact .inl hl
  ·refine .inr ⟨hl,?_⟩
   obtain⟨c,hc⟩:=ia (k:=s.heap.objs.size+1) (acc:=[]) (.inl (nL hl));obtain⟨d,hd⟩:=mem_lookup hc;rw[hd];rfl
 refine wpAny_call (codeAny_call_cells Hw ho Qu (P.nolim hG) hcr nY (wy vs zg) Ep hbk (fun s₁ ic=>?_) N5 ur ok.kind);have S:=K2 (env:=callEnvC fd s.heap.objs.size a) ok Bh hG live hd hlen ok.kind AK Se rfl (fun ø=>rfl) rfl ic;exact h _ s₁ _ _ _ S.1 S.2 (rm.deeper _)
theorem aZ.fn{a:Addr}{fd:FuncData}{body:List Stmt}{ps:List Str}{f:al->Option (al×Fl)}(De:∀h,P.G h->(∃o,h.get? a=some o/\o.data= .func fd)/\h.CodeRec fd.code fd.qualname)(nY:fd.body= .stmts body)
  (AK:fd.globals=mainGlobals) (Se:fd.builtins=builtinsNs) (Ep:fd.closure=[]) (wy:∀vs:List Value,vs.length=ps.length->bindArgs fd ⟨vs,[]⟩=pure (ps.zip vs)) (ok:vw K fd.scope ps) (Bh:ps.Nodup)
  (N5:fd.scope.isCoroutine=false) (ur:fd.scope.isGenerator=false) (h:p5 P n K body f):aZ P (n+1) (.ref a) (fun xs=>if xs.length=ps.length then(f (oR xs)).bind Ui else none):=fun A s hid xs x vs E rm hG live hd hf=>zi hf fun hlen hf=>by
 refine ah hf ?_;rintro⟨aY,fl⟩ h1 h2;refine wx De nY AK Se Ep wy ok Bh N5 ur rm hG live hd hlen fun env s₁ ao m E' S ø Vu=>?_
 refine au (h (A.deeper env) env hid ao m s s₁ (oR xs) aY fl _ Vu S h1) (fun cV s' q=>?_) fun ø ø q=>q
 obtain⟨gj,m₂,cC,_,uz⟩:=q;cases fl
 case next=>
  obtain rfl:=uz;exact some_inv h2 ⟨cC.kp,.r9⟩
 case ret=>
  obtain⟨v,rfl,hv⟩:=uz;exact some_inv h2 ⟨cC.kp,hv⟩
 all_goals cases h2
end
section
variable{P:Pk}{n:Nat}{K:Cx}{lo:Bool}
noncomputable def bE:List Str:=[(Str.ofString "raw"),(Str.ofString "n"),(Str.ofString "nt"),(Str.ofString "norm"),(Str.ofString "is_simple")]
inductive iz(C:Addr)(h:Heap)(x dx:Addr)(ws:List Value):Prop
 |mk (o:Obj) (mA:Str->Option Value) (e:h.get? x=some o) (c:o.cls= .ref C) (d:∀c,o.data≠ .cls c) (dd:o.dict=some dx) (n:dx≠x) (ns:h.Ns1 dx mA) (v:∀(i:Nat) v nm,ws[i]?=some v->bE[i]?=some nm->mA nm=some v) (no:∀nm,nm∉bE.take ws.length->mA nm=none):iz C h x dx ws
theorem iz.at{C:Addr}{h h':Heap}{x dx ws}(I:iz C h x dx ws)(k1:∀o,h.get? x=some o->h'.get? x=some o)(k2:∀o,h.get? dx=some o->h'.get? dx=some o):iz C h' x dx ws:=by
 obtain⟨o,mA,h1,h2,h3,h4,h5,h6,h7,h8⟩:=I;exact⟨o,mA,k1 _ h1,h2,h3,h4,h5,h6.at k2,h7,h8⟩
theorem iz.inst{C:Addr}{h:Heap}{x dx ws}(I:iz C h x dx ws):∃mA,h.Inst x C mA/\(∀(i:Nat) v nm,ws[i]?=some v->bE[i]?=some nm->mA nm=some v)/\∀nm,nm∉bE.take ws.length->mA nm=none:=by
 obtain⟨o,mA,h1,h2,h3,h4,h5,h6,h7,h8⟩:=I;exact⟨mA,⟨o,h1,h2,h3,.inr ⟨dx,h4,h5,h6⟩⟩,h7,h8⟩
noncomputable def Er(C:Addr)(h:Heap)(a:Addr)(vs:List Value)(T:Addr->Prop):Prop:=(∃t,vs=[.int (a:Nat) t])\/(vs.length=5/\∃d,iz C h a d vs/\T a/\T d)
theorem Er.ok(C:Addr):IZ (Er C):=fun h h' T T' a vs hk hT e=>by
 rcases e with e|⟨hl,d,I,h1,h2⟩
 ·exact .inl e
 ·obtain⟨o,mA,q1,q2,q3,q4,q5,q6,q7,q8⟩:=id I
  obtain⟨od,es,ep,z,_⟩:=id q6;exact .inr ⟨hl,d,I.at (fun o e=>hk a o h1 e) (fun o e=>hk d o h2 e),hT a o h1 q1,hT d od h2 z⟩
structure cP(P:Pk)(C N:Addr)(mN:Str->Option Value):Prop where
 ob:P.OB=Er C
 cls:∀h,P.G h->ClsAt h C N mN
 ng:mN (Str.ofString "__getattribute__")=none
 nh:mN (Str.ofString "__getattr__")=none
 nsa:mN (Str.ofString "__setattr__")=none
 names:∀nm∈bE,mN nm=none
theorem cP.yj{P:Pk}{C N:Addr}{mN:Str->Option Value}(W:cP P C N mN){h:Heap}(G:P.G h){R:Prop}(k:∀nm q bs sn sub col dd k0 k1 k2 k3 k5,h.get? C=some (excClassObj nm q C N bs [.type "object"] true sn sub false col dd k0 k1 k2 k3 k5 "object.__new__")->h.Ns N mN->R):R:=by
 obtain⟨X,hN⟩:=W.cls _ G;obtain⟨nm,q,bs,sn,sub,col,dd,k0,k1,k2,k3,k5,hC⟩:=X;exact k nm q bs sn sub col dd k0 k1 k2 k3 k5 hC hN
theorem cP.ne{P:Pk}{C N:Addr}{mN:Str->Option Value}(W:cP P C N mN){h:Heap}(G:P.G h){x:Addr}(hx:h.get? x=none):x≠C:=
 W.yj G fun ø ø ø ø ø ø ø ø ø ø ø ø hC ø z=>by rw[<-z,hx]at hC;cases hC
theorem noAttr:∀nm∈bE,typeLookup (.type "object") nm=pure none:=by
 intro nm h;simp only[bE,bp,qH,ny]at h;rcases h with rfl|rfl|rfl|rfl|rfl<;>(rw[pV,pW];kernel_rfl)
theorem Hx{h:Heap}{hid}{x:V}{v:Value}(e:Dn P h hid x v):handedOut v=pure v:=by
 cases x
 ·rw[e.none_inv];rfl
 ·rw[e.bool_inv];rfl
 ·obtain⟨t,rfl⟩:=e;rfl
 ·obtain⟨t,rfl⟩:=e;rfl
 ·obtain⟨a,vs,rfl,_⟩:=e;rfl
 ·obtain⟨a,vs,rfl,_⟩:=e;rfl
 ·obtain⟨a,vs,rfl,_⟩:=e;rfl
 ·obtain⟨a,vs,rfl,_⟩:=e;rfl
theorem Dn.FZ{C N mN}(W:cP P C N mN){h:Heap}{hid}{l:List V}{v:Value}(e:Dn P h hid (.obj l) v)(hl:l.length=5):∃a d vs,v= .ref a/\iz C h a d vs/\a∉hid/\d∉hid/\vs.length=5/\aU P h hid l vs:=by
 obtain⟨a,vs,rfl,h1,h2⟩:=e;rw[W.ob]at h1;have hv:=h2.length;rcases h1 with⟨t,rfl⟩|⟨h3,d,I,q1,q2⟩
 ·rw[hl]at hv;cases hv
 ·exact⟨a,d,vs,rfl,I,q1,q2,h3,h2⟩
theorem Dn.uF{C N mN}(W:cP P C N mN){h:Heap}{hid}{x:Addr}{v:Value}(e:Dn P h hid (.obj [.int (x:Nat)]) v):v= .ref x:=by
 obtain⟨a,vs,rfl,h1,h2⟩:=e;rw[W.ob]at h1;have hv:=h2.length;obtain⟨u,rfl,hu⟩:=FH (P:=P) (hid:=hid) h2;obtain⟨t,rfl⟩:=hu.int_inv;rcases h1 with⟨t',e⟩|⟨h3,_⟩
 ·have:(x:Int)=(a:Nat):=by
   simp only[List.cons.injEq,Value.int.injEq]at e;exact e.1.1
  have:x=a:=by exact_mod_cast this
  rw[this]
 ·cases h3
theorem Dn.Ga{C N mN}(W:cP P C N mN){h:Heap}{hid}(x:Addr):Dn P h hid (.obj [.int (x:Nat)]) (.ref x):=by
 exact⟨x,[.int (x:Nat) 0],rfl,by rw[W.ob];exact .inl ⟨0,rfl⟩,.one (Dn.ofInt (P:=P) (h:=h) (hid:=hid) _ _)⟩
noncomputable def Vv(i:Nat)(x:V):Option V:=x.Qw.bind fun l=>if l.length=5 then l[i]? else none
theorem jx{C N mN}(W:cP P C N mN)(i:Nat){o:Expr}{nm:Str}{pos:Pos}{f}(hi:bE[i]?=some nm)(ho:eM P n K lo o f)
  (he:∀env,attributeBase o nm env (eval o env)=eval o env):eM P n K lo (.Attribute o nm pos) (fun ρ=>(f ρ).bind (Vv i)):=fun A env out hid m B s ρ z E r S hf=>by
 refine ah hf fun y hy gg=>?_
 clear hf;rename _=>hf
 refine Attribute_any_ (au (ho A env out hid m B s ρ y E r S hy) (fun v s₁ q=>?_) fun ø ø q=>q) (by rw[DC,he]);have bc:=S.after q.1;refine ah hf fun l Nu hz=>?_
 cases V.AV Nu;by_cases hl:l.length=5
 case neg=>rw[az hl]at hz;cases hz
 rw[aw hl]at hz;obtain⟨a,d,vs,rfl,I,h1,h2,h3,h4⟩:=q.2.FZ W hl;obtain⟨u,hu,hzu⟩:=aV.get h4 hz;obtain⟨mA,I',h5,h6⟩:=I.inst;refine W.yj bc.G fun XH q' bs sn sub col dd k0 k1 k2 k3 k5 hC hN=>?_
 have lj:nm∈bE:=my hi;exact load_attr hC hN W.ng (W.names _ lj) (noAttr _ lj) I' (h5 i u nm hu hi) (Hx (P:=P) hzu) ⟨q.1.trans (Kp.toks _ _),hzu⟩
noncomputable def zZ(F:List V->Option V)(f:al->Option V)(g:al->Option (List V)):al->Option V:=fun ρ=>(f ρ).bind fun y=>y.Qw.bind fun l=>if l.length=5 then(g ρ).bind fun xs=>F (.obj l::xs)else Option.none
theorem cX{C N mN}(W:cP P C N mN){o:Expr}{apos pos:Pos}{name:Str}{args:List Expr}{fa:Addr}{F f g}(ho:eM P n K lo o f)(hf:mN name=some (.ref fa))(hfo:∀h,P.G h->∃of fd,h.get? fa=some of/\of.cls= .type "function"/\of.data= .func fd)
  {y:Option Value} (hB:typeLookup (.type "object") name=pure y) (hnw:name∉bE) (hc:aZ P n (.ref fa) F)
  (ha:lz P n K lo args g) (eF:∀env,starEach args env=args.map fun e=>(false,eval e env)) (bN:args.length<20) (jd:(apos.endLine==pos.line)=true) (je:∀env,attributeBase o name env (eval o env)=eval o env):
  eM P n K lo (.Call (.Attribute o name apos) args [] pos) (zZ F f g):=fun A env out hid m B s ρ z E r S hff=>by
 refine ah hff fun x hx hff=>?_
 refine ah hff fun l Nu hz=>?_
 cases V.AV Nu;by_cases hl:l.length=5
 case neg=>rw[az hl]at hz;cases hz
 rw[aw hl]at hz;refine ah hz fun xs xu hF=>?_
 have cL:(backTo pos (starEach args env)).any (·.1)=false:=dg eF;rw[arm_eval_Call,je];refine ar (au (ho A env out hid m B s ρ _ E r S hx) (fun v s₁ q=>?_) fun ø ø q=>q);refine ar (qE ?_);have Vw:methodCallForm (args.length+([]:List Keyword).length) (backTo pos (starEach args env)) (backToKw pos (keywordEach [] env))=true:=nK cL bN;have I6:methodCallPos true o env apos pos=pure pos:=by unfold methodCallPos;simp[jd]
 unfold methodCall;rw[Vw];have bc:=S.after q.1;obtain⟨a,d,vs,rfl,I,h1,h2,h3,h4⟩:=q.2.FZ W hl;obtain⟨mA,I',h5,h6⟩:=I.inst;refine W.yj bc.G fun XH q' bs sn sub col dd k0 k1 k2 k3 k5 hC hN=>?_
 obtain⟨of,fd,TR,ho2,ho3⟩:=hfo _ bc.G;have fin:∀{Q:Value×List Value->Shared->Prop},Q (.ref fa,[.ref a]) s₁->wpAny (model P.prog P.w) A (getMethod (.ref a) name (pure true)) Q E s₁:=fun hQ=>by
  exact method_of hC hN W.ng W.nh hf TR ho2 hB I' (h6 _ fun hm=>hnw (yZ hm)) hQ
 have aa1:∀{pl:Sem Bool} {Q:Value×List Value->Shared->Prop},Q (.ref fa,[.ref a]) s₁->wpAny (model P.prog P.w) A (getMethod (.ref a) name pl) Q E s₁:=fun hQ=>by
  exact method_of hC hN W.ng W.nh hf TR ho2 hB I' (h6 _ fun hm=>hnw (yZ hm)) hQ
 refine ar (gB (aa1 ?_));refine ar (wpAny_of_eq I6 ?_);refine callWith_function (o:=of) (fd:=fd) ?_;have key:=ha A env out hid m B s₁ ρ xs E pos r bc xu;refine dM cL (au key (fun ws s₂ aH=>⟨⟨aH.1.keep _ _ TR,ho3⟩,?_⟩) fun ø ø q=>q);exact au (hc A s₂ (av lo out hid) (.obj l::xs) z (.ref a::ws) E r (bc.after aH.1).G ((bc.after aH.1).G5 lo) (.cons (Dn.kp (P:=P) q.2 aH.1) aH.2) hF) (fun v cB eh=>⟨q.1.trans (aH.1.trans eh.1),eh.2⟩) fun ø ø q=>q
theorem rn{C:Addr}{id nm:Str}{p pos:Pos}{l:List Nat}{t:Tok}(hx:K.aM.contains id=true)(hv:P.glob id=some (.ref C))(hd:(id==("__debug__":Str))=false)
  (hG:∀h,P.G h->∃(Fr:Frag) (mc:Value),Fr.In h/\readsIn Fr C mc=true/\findCls Fr (.ref C) mc nm=some (.val (.str (pyStr l) t))) (he:∀env,attributeBase (.Name id p) nm env (eval (.Name id p) env)=eval (.Name id p) env):
  eM P n K lo (.Attribute (.Name id p) nm pos) (fun ø=>some (.str l)):=fun A env out hid m B s ρ z E r S hf=>by
 cases hf;refine Attribute_any_ (bH S hx hv hd ?_) (by rw[DC,he]);obtain⟨Fr,mc,X,h1,h2⟩:=hG _ S.G;exact cls_value X h1 h2 rfl ⟨Kp.toks _ _,.ofStr _ _⟩
end
section
variable{P:Pk}{n:Nat}{K:Cx}{lo:Bool}{C N:Addr}{mN:Str->Option Value}
theorem aB.rebase{env:Env}{out hid:List Addr}{m}{B B' s:Shared}{ρ}(S:aB P K env out hid m B s ρ)(k:Kp B' B)(hG:P.G B'.heap):aB P K env out hid m B' s ρ:=
 {fn:=S.fn,gl:=S.gl,bl:=S.bl,kind:=S.kind,pj:=S.pj,nodup:=S.nodup,i8:=S.i8,live:=S.live,oh:=S.oh,Lh:=S.Lh,Lo:=S.Lo,ns:=S.ns,slot:=S.slot,apart:=S.apart,gb:=hG,kp:=k.trans S.kp
  own:=fun a h ho=>by
   cases e:B'.heap.get? a with
   |none=>rfl
   |some o=>have:=k.keep a o e;rw[S.own a h ho]at this;cases this}
noncomputable def sY(x:Addr)(ρ:al):Bool:= @decide (ρ 0=some (.obj [.int (x:Nat)])) (Classical.propDecidable _)
theorem wz{x:Addr}{ρ:al}(h:sY x ρ=true):ρ 0=some (.obj [.int (x:Nat)]):= @mC _ (Classical.propDecidable _) h
theorem i1{x:Addr}{ρ:al}(h:ρ 0=some (.obj [.int (x:Nat)])):sY x ρ=true:= @eK _ (Classical.propDecidable _) h
inductive BwQ(P:Pk)(K:Cx)(C:Addr)(env:Env)(out:List Addr)(B:Shared)(x dx:Addr)(aY:al)(AL:List V)(cV:Flow)(s':Shared):Prop
 |mk (f:cV= .next) (ao:List Addr) (m':Str->Option Value) (DW:List Value) (S:aB P K env ([x,dx]++out) ao m' B s' aY) (I:iz C s'.heap x dx DW) (d:aU P s'.heap ao AL DW):BwQ P K C env out B x dx aY AL cV s'
noncomputable def tR(P:Pk)(n:Nat)(K:Cx)(C:Addr)(st:List Stmt)(F:Addr->al->List V->Option (al×List V)):Prop:=
 ∀(A:Around) (env:Env) (out hid:List Addr) (m:Str->Option Value) (B s:Shared) (x dx:Addr) (ρ:al) (lv:List V) (ws:List Value) (aY:al) (AL:List V) (E:Value->Shared->Prop),bW n A->aB P K env ([x,dx]++out) hid m B s ρ->
  B.heap.get? x=none->B.heap.get? dx=none->iz C s.heap x dx ws->aU P s.heap hid lv ws->F x ρ lv=some (aY,AL)->
  wpAny (model P.prog P.w) A (execs st env) (fun cV s'=>BwQ P K C env out B x dx aY AL cV s') E s
theorem tR.nil:tR P n K C [] (fun x ρ lv=>some (ρ,lv)):=fun A env out hid m B s x dx ρ lv ws aY AL E rm S hx Hy I hd hf=>by
 cases hf;exact mU ⟨rfl,hid,m,ws,S,I,hd⟩
noncomputable def stW(f:al->Option (al×Fl))(g:Addr->al->List V->Option (al×List V)):Addr->al->List V->Option (al×List V):=fun x ρ lv=>(f ρ).bind fun r=>match r.2 with
 | .next=>g x r.1 lv
 |_=>none
theorem tR.st{st:Stmt}{rest:List Stmt}{f g}(h:uk P n K st f)(hr:tR P n K C rest g):tR P n K C (st::rest) (stW f g):=fun A env out hid m B s x dx ρ lv ws aY AL E rm S hx Hy I hd hf=>by
 refine ah hf ?_;clear hf;rintro⟨am,fl⟩ h1 hf;refine rM (au (h A env _ hid m B s ρ am fl E rm S h1) (fun cV s₁ q=>?_) fun ø ø q=>q);obtain⟨ck,m₁,bc,gh,uz⟩:=q;cases fl<;>dsimp only at hf<;>try cases hf
 obtain rfl:=uz;exact hr A env out ck m₁ B s₁ x dx am lv ws aY AL E rm bc hx Hy (I.at (fun o e=>gh.keep x o (.inr (by simp)) e) fun o e=>gh.keep dx o (.inr (by simp)) e) (hd.ks gh) hf
noncomputable def K3(idx:Nat)(f:al->Option V)(g:Addr->al->List V->Option (al×List V)):Addr->al->List V->Option (al×List V):=fun x ρ lv=>
 if lv.length=idx/\sY x ρ=true then(f ρ).bind fun v=>g x ρ (lv++[v])else none
theorem xF:bE.Nodup:=by decide+kernel
theorem Es{ws:List Value}{idx:Nat}{u:Value}{nm:Str}{mA:Str->Option Value}(Hz:ws.length=idx)(HA:bE[idx]?=some nm)(h5:∀(i:Nat) v nm,ws[i]?=some v->bE[i]?=some nm->mA nm=some v)(h6:∀nm,nm∉bE.take ws.length->mA nm=none):
  (∀(i:Nat) v K4,(ws++[u])[i]?=some v->bE[i]?=some K4->(if K4=nm then some u else mA K4)=some v)/\∀K4,K4∉bE.take (ws++[u]).length->(if K4=nm then some u else mA K4)=none:=by
 refine⟨fun i v K4 hi HB=>?_,fun K4 HB=>?_⟩
 ·by_cases de:i<ws.length
  ·rw[List.getElem?_append_left de]at hi
   rw[az fun z=>?_]
   ·exact h5 i v K4 hi HB
   ·have a1:=eX.mp HB
    have a2:=eX.mp HA;exact DA.mp xF i idx a1.1 a2.1 (Hz▸de) (a1.2.trans (z.trans a2.2.symm))
  ·rw[List.getElem?_append_right (kJ.mp de)]at hi
   have h1:i-ws.length<1:=(eX.mp hi).1;have e:i=idx:=Hz▸Nat.le_antisymm (Nat.le_of_sub_eq_zero (Nat.lt_one_iff.mp h1)) (kJ.mp de);rw[Nat.lt_one_iff.mp h1]at hi;rw[e]at HB;rw[aw (Option.some.inj (HB.symm.trans HA))];exact hi
 ·have h1:bE.take (ws++[u]).length=bE.take ws.length++[nm]:=by
   rw[List.length_append,Hz];show bE.take (idx+1)=_;rw[List.take_add_one,HA];rfl
  rw[h1]at HB;rw[az (c:=K4=nm) fun z=>HB (bw _ (z▸ .head _))];exact h6 _ fun z=>HB (bj _ z)
theorem N6{h:Heap}{x dx C:Addr}{mA:Str->Option Value}{ws:List Value}(Ih:h.Inst x C mA)(hs:∃o,h.get? x=some o/\o.dict=some dx)(hv:(∀(i:Nat) v nm,ws[i]?=some v->bE[i]?=some nm->mA nm=some v)/\∀nm,nm∉bE.take ws.length->mA nm=none):iz C h x dx ws:=by
 obtain⟨o,z1,z2,z3,z4⟩:=Ih;obtain⟨Vx,y1,y2⟩:=hs;rw[<-Option.some.inj (z1.symm.trans y1)]at y2;rcases z4 with⟨z4,_⟩|⟨d',z4,z5,z6⟩
 ·exact nomatch z4.symm.trans y2
 ·have ed:=Option.some.inj (z4.symm.trans y2)
  rw[ed]at z4 z5 z6;exact⟨o,_,z1,z2,z3,z4,z5,z6,hv.1,hv.2⟩
theorem iz.two{h:Heap}{x dx C:Addr}{ws:List Value}(I:iz C h x dx ws):cx h [x,dx]:=by
 obtain⟨o,mA,z1,_,_,_,_,⟨o',es,ep,z6,_⟩,_⟩:=I;exact fun b hb=>(bp.mp hb).elim (fun e=>e▸⟨o,z1⟩) fun hb=>cN.mp hb▸⟨o',z6⟩
theorem tR.go{env:Env}{out hid:List Addr}{m}{B s₁:Shared}{x dx:Addr}{ρ aY:al}{lv AL:List V}{ws:List Value}{v:V}{u:Value}{A:Around}{E:Value->Shared->Prop}{rest:List Stmt}{g}(hr:tR P n K C rest g)(rm:bW n A)(bc:aB P K env ([x,dx]++out) hid m B s₁ ρ)
  (hx:B.heap.get? x=none) (Hy:B.heap.get? dx=none) (Cb:aU P s₁.heap hid lv ws) (hu:Dn P s₁.heap hid v u) (hf:g x ρ (lv++[v])=some (aY,AL)) {h':Heap} {TL:Nat} (N7:iz C h' x dx (ws++[u])) (hk:∀b o,b≠x->b≠dx->s₁.heap.get? b=some o->h'.get? b=some o):
  wpAny (model P.prog P.w) A (execs rest env) (fun cV s'=>BwQ P K C env out B x dx aY AL cV s') E {s₁ with heap:=h',toks:=TL}:=by
 have ND:Mv [x,dx] none s₁ {s₁ with heap:=h',toks:=TL}:=⟨⟨fun b o hb e=>hk b o (fun z=>hb (z▸ .head _)) (fun z=>hb (z▸ .tail _ (.head _))) e,fun i y ø e=>e,id,rfl⟩,N7.two⟩;have cC:=bc.step (W:=[x,dx]) (gi:=none) (fun a ha=>bj _ ha) ND (fun a ha=>(bp.mp ha).elim (fun e=>e▸hx) fun ha=>cN.mp ha▸Hy) fun g e=>nomatch e
 have ze:∀a o,a∉hid->s₁.heap.get? a=some o->h'.get? a=some o:=fun a o ha e=>hk a o (fun z=>ha (z▸bc.oh _ (.head _))) (fun z=>ha (z▸bc.oh _ (.tail _ (.head _)))) e
 exact hr A env out hid m B _ x dx ρ (lv++[v]) (ws++[u]) aY AL E rm cC hx Hy N7 (aV.app (aU.grow (P:=P) Cb ze fun a h=>.inl h) (.one (Dn.grow (P:=P) hu ze fun a h=>.inl h))) hf
set_option tactic.hygienic true in
theorem tR.store(W:cP P C N mN)(idx:Nat){nm self:Str}{kd:NameKind}{p p' pos:Pos}{e:Expr}{rest:List Stmt}{f g}(HA:bE[idx]?=some nm)(hk0:K.vars[0]?=some (self,kd,false))(iY:(self==("__debug__":Str))=false)(hc:(self==("__classdict__":Str))=false)
  (h:eM P n K false e f) (hr:tR P n K C rest g) (hs:∀env,swapsWith e (some (.Attribute (.Name self p) nm p')) pos.line env=pure false):tR P n K C (.Assign [.Attribute (.Name self p) nm p'] e pos::rest) (K3 idx f g):=
 fun A env out hid m B s x dx ρ lv ws aY AL E rm S hx Hy I hd hf=>by
 refine QN hf fun hif hf=>ah hf fun v hv hf=>?_
 refine rM (plainObj_wpAny_Assign_Attribute (au (h A env _ hid m B s ρ v E rm S hv) (fun u s₁ q=>?_) fun ø ø q=>q) (hs env));have bc:=S.after q.1;refine eV (bc.load hk0 (wz hif.2) iY hc fun v0 hv0 ø=>?_) iY;rw[Dn.uF W hv0];have Vy:iz C s₁.heap x dx ws:=I.at (fun o e=>q.1.keep _ o e) fun o e=>q.1.keep _ o e
 have Cb:aU P s₁.heap hid lv ws:=hd.kp q.1;obtain⟨mA,IA,h5,h6⟩:=Vy.inst;refine W.yj bc.G fun XH q' bs sn sub col dd k0 k1 k2 k3 k5 hC hN=>?_
 have lj:nm∈bE:=my HA;obtain⟨ox,mA2,z1,z2,z3,z4,_⟩:=id Vy;refine store_attr (ns:=bE) PySem.F.store_object hC hN W.nsa (W.names _ lj) (noAttr _ lj) (W.ne S.gb hx) IA (fun h' TL Ih hk Vz=>?_) (fun y hy=>?_) (by rw[gQ];exact aA (show bE.length<=100 by decide) (by decide))
 ·obtain⟨Vx,y1,_,_,_,y2⟩:=Vz ox z1
  exact tR.go hr rm bc hx Hy Cb q.2 hf (N6 Ih ⟨Vx,y1,y2 dx z4⟩ (Es (hd.length.trans hif.1) HA h5 h6)) fun b o b1 b2 e=>hk b o b1 (fun ae6 dx' e1 e2 z=>b2 (z.trans (Option.some.inj (e2.symm.trans ((congrArg Obj.dict (Option.some.inj (e1.symm.trans z1))).trans z4))))) e
 ·exact Classical.byContradiction fun hm=>hy (h6 y fun z=>hm (yZ z))
noncomputable def VA(asg:al->V->Option al)(bf:al->Option (al×Fl))(g:Addr->al->List V->Option (al×List V)):Addr->al->List V->Option (al×List V):=fun x ρ lv=>
 if sY x ρ=true then(lv.head?.bind V.jL).bind fun l=>(fg asg bf (l.map fun c=>V.str [c]) ρ).bind fun r=>match r.2 with
  | .next=>g x r.1 lv
  |_=>none
 else none
set_option tactic.hygienic true in
theorem tR.for(W:cP P C N mN){lc:Bool}{self:Str}{kd:NameKind}{target:Expr}{body rest:List Stmt}{p p' pos:Pos}{asg bf g}(hk0:K.vars[0]?=some (self,kd,false))(iY:(self==("__debug__":Str))=false)(hc:(self==("__classdict__":Str))=false)
  (he:∀env,attributeBase (.Name self p) (Str.ofString "raw") env (eval (.Name self p) env)=eval (.Name self p) env) (ha:zd P K lc target asg) (hb:p5 P n K body bf) (hr:tR P n K C rest g):
  tR P n K C (.For target (.Attribute (.Name self p) (Str.ofString "raw") p') body [] pos::rest) (VA asg bf g):=fun A env out hid m B s x dx ρ lv ws aY AL E rm S hx Hy I hd hf=>by
 refine QN hf fun VB hf=>ah hf fun l hl hf=>ah hl fun v hv hl=>?_
 obtain⟨lv0,rfl⟩:=List.head?_eq_some_iff.mp hv;cases V.kP hl;refine ah hf ?_;clear hf;rintro⟨am,fl⟩ h1 hf;have h0:=wz VB;refine rM (au (En (fl:=fl) (aY:=am) (xs:=l.map fun c=>V.str [c]) rm S ?_ ha hb (fun x=>rfl) h1) (fun cV s₁ q=>?_) fun ø ø q=>q)
 ·refine Attribute_any_ (eV (S.load hk0 h0 iY hc fun v0 hv0 ø=>?_) iY) (by rw[DC,he])
  obtain rfl:=Dn.uF W hv0;obtain⟨mA,IA,h5,h6⟩:=I.inst;refine W.yj S.G fun XH q' bs sn sub col dd k0 k1 k2 k3 k5 hC hN=>?_
  obtain⟨u,r,rfl,hu,_⟩:=aU.cons_inv hd;obtain⟨t,rfl⟩:=hu.str_inv;have lj:(Str.ofString "raw")∈bE:=by decide+kernel
  have hh:=rm.handled;obtain⟨hp,g',d',tk,os⟩:=s;exact load_attr hC hN W.ng (W.names _ lj) (noAttr _ lj) IA (h5 0 _ _ rfl rfl) rfl (KX hh (Kp.toks (Shared.mk hp g' d' tk os) _))
 ·obtain⟨ck,m₁,bc,gh,uz⟩:=q
  cases fl<;>dsimp only at hf<;>try cases hf
  obtain rfl:=uz;exact hr A env out ck m₁ B s₁ x dx am _ ws aY AL E rm bc hx Hy (I.at (fun o e=>gh.keep x o (.inr (by simp)) e) fun o e=>gh.keep dx o (.inr (by simp)) e) (hd.ks gh) hf
theorem Et(W:cP P C N mN){id:Str}{p pos:Pos}{e:Expr}{F0:Addr->al->List V->Option (al×List V)}{F:List V->Option (List V)}{f}{fI:Addr}{fd:FuncData}{body:List Stmt}{ps:List Str}{K':Cx}(hx:K.aM.contains id=true)(hv:P.glob id=some (.ref C))(N8:(id==("__debug__":Str))=false)
  (hi:mN (Str.ofString "__init__")=some (.ref fI)) (hfo:∀h,P.G h->∃of,h.get? fI=some of/\of.cls= .type "function")
  (De:∀h,P.G h->(∃o,h.get? fI=some o/\o.data= .func fd)/\h.CodeRec fd.code fd.qualname) (nY:fd.body= .stmts body)
  (AK:fd.globals=mainGlobals) (Se:fd.builtins=builtinsNs) (Ep:fd.closure=[]) (wy:∀vs:List Value,vs.length=ps.length->bindArgs fd ⟨vs,[]⟩=pure (ps.zip vs)) (ok:vw K' fd.scope ps) (Bh:ps.Nodup)
  (N5:fd.scope.isCoroutine=false) (ur:fd.scope.isGenerator=false)
  (hB:tR P n K' C body F0) (hF:∀x xs r,F xs=some r->xs.length+1=ps.length/\r.length=5/\∃aY,F0 x (oR (.obj [.int (x:Nat)]::xs)) []=some (aY,r))
  (hs:lz P (n+2) K lo [e] f) (he:∀env,starEach [e] env=(false,eval e env)::starEach [] env):eM P (n+2) K lo (.Call (.Name id p) [e] [] pos) (fun ρ=>(f ρ).bind fun xs=>(F xs).map .obj):=fun A env out hid m B s ρ z E rm S hf=>by
 refine ah hf fun y hy gg=>?_
 clear hf;rename _=>hf
 refine bV hf ?_;clear hf;rintro r hr rfl;refine kH (bH S hx hv N8 ?_);refine callWith_cls (W.cls _ S.G) (au (hs A env out hid m B s ρ y E pos rm S hy) (fun vs s₁ ag=>⟨ag.1.keep,?_⟩) fun ø ø q=>q) (he env) rfl;have bc:=S.after ag.1;have live:=bc.G5 lo;have XI:=bc.G;refine W.yj XI fun XH q' bs sn sub col dd k0 k1 k2 k3 k5 hC hN=>?_
 obtain⟨oI,hoI,hcI⟩:=hfo _ XI;have XJ:=ag.2;have k01:=ag.1;clear ag;obtain⟨hlen,hlen5,_⟩:=hF 0 y r hr;obtain⟨hp,g',d',tk,os⟩:=s₁;refine wpAny_call_obj_init PySem.F.objNew hC hN hi hoI hcI fun h' x dx mo=>?_
 have k12:Kp ⟨hp,g',d',tk,os⟩ ⟨h',g',d',tk,os⟩:=⟨mo.keeps,.refl _,rfl⟩;obtain⟨o,mA⟩:∃o,h'.get? x=some o:=by obtain⟨o,e,_⟩:=mo.inst;exact⟨o,e⟩
 have hI:iz C h' x dx []:=by
  obtain⟨o,z1,z2,z3,z4⟩:=mo.inst;have Hy:=mo.dict o z1;rcases z4 with⟨z4,_⟩|⟨d2,z4,z5,z6⟩
  ·rw[Hy]at z4;cases z4
  ·rw[Hy]at z4;cases z4
   exact⟨o,_,z1,z2,z3,Hy,z5,z6,fun i v nm h=>by simp at h,fun ø ø=>rfl⟩
 obtain⟨odx,hodx⟩:∃o,h'.get? dx=some o:=by obtain⟨_,_,_,_,_,_,_,⟨o,_,_,z,_⟩,_⟩:=hI;exact⟨o,z⟩
 have Vu:bW (n+1) (A.under (.builtin "type.__call__" ⟨.ref C::vs,[]⟩)):=by
  refine⟨rm.handled,?_,?_⟩
  ·rw[depth_under_make];have:=rm.depth;omega
  ·show A.units+(Code.builtin "type.__call__" ⟨.ref C::vs,[]⟩).cUnits+10*(n+1)+10<=9000
   have h4:(Code.builtin "type.__call__" ⟨.ref C::vs,[]⟩).cUnits<=10:=by
    show 1+3*(Code.builtin "type.__call__" ⟨.ref C::vs,[]⟩).frames<=10;have:(Code.builtin "type.__call__" ⟨.ref C::vs,[]⟩).frames<=3:=by
     show(Code.builtin "type.__call__" ⟨[],[]⟩).frames<=3
     decide+kernel
    omega
   have:=rm.units;omega
 have hx0:x∉av lo out hid:=live.not mo.newX;have aa2:dx∉av lo out hid:=live.not mo.newD;have VC:cx h' ([x,dx]++av lo out hid):=fun a h=>by
  simp only[List.cons_append,kK,bp]at h;rcases h with rfl|rfl|h
  ·exact⟨_,mA⟩
  ·exact⟨_,hodx⟩
  ·obtain⟨o,e⟩:=live a h;exact⟨o,mo.keeps _ _ e⟩
 have eG:∀a∈[x,dx]++av lo out hid,a∈av lo out hid\/hp.get? a=Option.none:=fun a h=>by
  simp only[List.cons_append,kK,bp]at h;rcases h with rfl|rfl|h
  ·exact .inr mo.newX
  ·exact .inr mo.newD
  ·exact .inl h
 have iY:aU P h' ([x,dx]++av lo out hid) y vs:=aU.grow (P:=P) XJ (fun a o ø e=>mo.keeps a o e) eG;refine wx (xs:=.obj [.int (x:Nat)]::y) De nY AK Se Ep wy ok Bh N5 ur Vu (P.Gk XI mo.keeps) VC (.cons (Dn.Ga W x) iY) (by simp[hlen]) fun VD s₂ ao m' E' cC HB rm2=>?_
 have kT:aB P K' VD ([x,dx]++av lo out hid) ao m' ⟨hp,g',d',tk,os⟩ s₂ _:=cC.rebase k12 XI;obtain⟨_,_,aY,hf0⟩:=hF x y r hr;have N7:iz C s₂.heap x dx []:=hI.at (fun o e=>cC.kp.keep _ o e) fun o e=>cC.kp.keep _ o e
 refine au (hB _ VD _ ao m' _ s₂ x dx _ [] [] aY r E' rm2 kT mo.newX mo.newD N7 .nil hf0) (fun cV cB q=>?_) fun ø ø q=>q
 obtain⟨rfl,qe,Bx,ws,jM,I₄,PU⟩:=q;refine⟨rfl,k01.trans jM.kp,?_⟩;refine⟨x,ws,rfl,?_,aU.less (P:=P) PU fun a h=>jM.oh a (bw _ h)⟩;rw[W.ob];exact .inr ⟨PU.length.trans hlen5,dx,I₄,hx0,aa2⟩
end
section
variable{P:Pk}{n:Nat}{K:Cx}{lo:Bool}
theorem aZ.up{v F}(h:aZ P n v F):aZ P (n+1) v F:=fun A s hid xs x vs E rm hG live hd hf=>h A s hid xs x vs E (rm.less (i5 _)) hG live hd hf
theorem aZ.qC{v F}(h:aZ P n v F)(k:Nat):aZ P (n+k) v F:=by
 induction k with
 |zero=>exact h
 |succ k ih=>exact ih.up
inductive EtQ(P:Pk)(K:Cx)(env:Env)(out hid:List Addr)(B s s':Shared)(aY:al)(b c:Bool):Prop
 |mk (ao:List Addr) (m':Str->Option Value) (S:aB P K env out ao m' B s' aY) (k:Ks out hid ao s s') (e:c=b):EtQ P K env out hid B s s' aY b c
noncomputable def XK(P:Pk)(n:Nat)(K:Cx)(e:Expr)(f:al->Option (al×Bool)):Prop:=
 ∀(A:Around) (env:Env) (out hid:List Addr) (m:Str->Option Value) (B s:Shared) (ρ aY:al) (b:Bool) (E:Value->Shared->Prop),bW n A->aB P K env out hid m B s ρ->f ρ=some (aY,b)->
  wpAny (model P.prog P.w) A (isTrue e env (eval e env)) (fun c s'=>EtQ P K env out hid B s s' aY b c) E s
noncomputable def aa3(F:V->V->Option Bool)(f:al->Option (al×V))(g:al->Option V):al->Option (al×Bool):=fun ρ=>(f ρ).bind fun r=>(g r.1).bind fun y=>(F r.2 y).map fun b=>(r.1,b)
theorem XK.cmp{l r:Expr}{op:CmpOp}{pos:Pos}{F f g}(ho:mD P op F)(hl:W2 P n K l f)(hr:eM P n K false r g)(hm:behindInMarks op r=false):XK P n K (.Compare l [op] [r] pos) (aa3 F f g):=fun A env out hid m B s ρ aY b E rm S hf=>by
 refine ah hf ?_;clear hf;rintro⟨am,x⟩ hx hf;refine ah hf fun y hy gg=>?_
 clear hf;rename _=>hf
 refine bV hf fun b' hb e=>?_
 clear hf
 first|refine pair_inv e ?_;clear e|cases e
 refine uR (au (hl A env out hid m B s ρ am x E rm S hx) (fun u s₁ ag=>?_) fun ø ø q=>q) hm;obtain⟨ck,m₁,bc,gh,hu⟩:=ag;refine au (hr A env out ck m₁ B s₁ am y E rm bc hy) (fun v s₂ aH=>?_) fun ø ø q=>q
 have cC:=bc.after aH.1;refine au (ho A s₂ ck x y b' u v E (rm.less (dU _)) cC.G cC.live (hu.kp aH.1) aH.2 hb) (fun w cB eh=>?_) fun ø ø q=>q
 rw[eh.2];exact o8 ⟨ck,m₁,cC.after eh.1,(gh.trans (.gT aH.1)).trans (.gT eh.1),rfl⟩
theorem Eu{t a b pos c f g}(ht:XK P n K t c)(ha:p5 P n K a f)(hb:p5 P n K b g):uk P n K (.If t a b pos) (fun ρ=>(c ρ).bind fun z=>if z.2 then f z.1 else g z.1):=fun A env out hid m B s ρ aY fl E r S hf=>by
 refine ah hf ?_;clear hf;rintro⟨am,z⟩ hz hf;refine wpAny_If (au (ht A env out hid m B s ρ am z E r S hz) (fun z' s₁ ag=>?_) fun ø ø q=>q);obtain⟨ck,m₁,bc,gh,rfl⟩:=ag;cases z'<;>simp only[gz,eW,eI]at hf ⊢
 ·exact au (hb A env out ck m₁ B s₁ am aY fl E r bc hf) (fun cV s₂ q=>q.pre gh) fun ø ø q=>q
 ·exact au (ha A env out ck m₁ B s₁ am aY fl E r bc hf) (fun cV s₂ q=>q.pre gh) fun ø ø q=>q
theorem K5{asg:al->V->Option al}{body:al->Option (al×Fl)}(I:Nat->al->Prop)(Q:al×Fl->Prop){xs:List V}
  (step:∀(i:Nat) x ρ,xs[i]?=some x->I i ρ->∃am r,asg ρ x=some am/\body am=some r/\match r.2 with
   | .next| .cont=>I (i+1) r.1
   | .brk=>Q (r.1,.next)
   | .ret v=>Q (r.1,.ret v))
  (done:∀ρ,I xs.length ρ->Q (ρ,.next)) {ρ:al} (h0:I 0 ρ):∃r,fg asg body xs ρ=some r/\Q r:=by
 have go:∀(k:Nat) (i:Nat) ρ,k=xs.length-i->i<=xs.length->I i ρ->∃r,fg asg body (xs.drop i) ρ=some r/\Q r:=by
  intro k
  induction k with
  |zero=>
   intro i ρ hk hi h;have:i=xs.length:=by omega
   subst this;rw[u9];exact⟨_,rfl,done ρ h⟩
  |succ k ih=>
   intro i ρ hk hi h;have de:i<xs.length:=by omega
   rw[pf de];obtain⟨am,r,h1,h2,h3⟩:=step i xs[i] ρ (by simp[de]) h;rw[vp];rw[h1,mW,h2,mW];obtain⟨fk,fl⟩:=r;cases fl<;>dsimp only at h3 ⊢
   ·exact ih (i+1) fk (by omega) de h3
   ·exact⟨_,rfl,h3⟩
   ·exact ih (i+1) fk (by omega) de h3
   ·exact⟨_,rfl,h3⟩
 simpa using go _ 0 ρ rfl (dU _) h0
end
section
variable{P:Pk}{n:Nat}{K:Cx}{lo:Bool}
theorem len0:∀(ρ:al) (x:List V),(fun _:al=>some ([]:List V)) ρ=some x->x.length=0:=fun ρ x h=>by cases h;rfl
theorem kU.len0{L:Addr}{h:Heap}{out hid:List Addr}{bs:List Bool}{xs:List V}{vs:List Value}{H:List Addr}(e:kU P L h out hid bs xs vs H):vs.length=bs.length:=by
 induction e with
 |nil=>rfl
 |dat _ _ ih=>exact congrArg Nat.succ ih
 |box _ _ _ ih=>exact congrArg Nat.succ ih
theorem kU.len{ts:List (Nat×Str×NameKind×Bool)}:∀(L:Addr) (out hid:List Addr) (H:List Addr) (h:Heap) (xs:List V) (vs:List Value),kU P L h out hid (ts.map (·.2.2.2)) xs vs H->vs.length=ts.length:=fun L out hid H h xs vs e=>by
 rw[kU.len0 e];simp
theorem gH{i:Nat}{g}:∀ρ r,jc DX i g ρ=some r->r.2= .none:=by
 intro ρ r h;simp only[jc,m6,pb]at h;obtain⟨y,_,xs,_,r',hF,rfl⟩:=h;exact ah hF fun l ø hF=>ah hF fun x ø hF=>eN hF fun ø e=>by subst e;rfl
theorem K6{i:Nat}{g}:∀ρ r,jc Nj i g ρ=some r->r.2= .none:=by
 intro ρ r h;simp only[jc,m6,pb]at h;obtain⟨y,_,xs,_,r',hF,rfl⟩:=h;exact ah hF fun l ø hF=>ah hF fun p ø hF=>ah hF fun n ø hF=>eN hF fun ø e=>by subst e;rfl
theorem K7{i:Nat}{g}:∀ρ r,jc NF i g ρ=some r->r.2= .none:=by
 intro ρ r h;simp only[jc,m6,pb]at h;obtain⟨y,_,xs,_,r',hF,rfl⟩:=h;exact ah hF fun d ø hF=>ah hF fun x ø hF=>ah hF fun e ø hF=>eN hF fun ø e=>by subst e;rfl
theorem z0{env:Env}(h:env.scope.kind= .function):env.blockKind= .function:=by
 unfold Env.blockKind;rw[h];rfl
theorem VE{α:Type _}{b:Bool}{x y z:α}(h:b=false)(e:y=z):(if b=true then x else y)=z:=by
 subst h;exact e
theorem VF{α:Type _}{b:Bool}{x y:α}(e:y=x):(if b=true then x else y)=x:=by
 rw[e,ite_self]
noncomputable def VG:{q:(Expr->Bool)×(Env->List Expr->Expr->Option Str)//∀ts es k k' p p' env,swappedStores [.Tuple ts k p] (.Tuple es k' p') env=
  if(!(ts.length==2||ts.length==3)||es.length != ts.length||env.blockKind != .function)=true then pure none else if es.any q.1=true then pure none else
   if((ts.filterMap (q.2 env ts)).length != ts.length||(ts.filterMap (q.2 env ts)).eraseDups.length != (ts.filterMap (q.2 env ts)).length)=true then pure none else
    if es.all (foldedForSure 8)=true then pure none else if es.all (constantsAlone 8)=true then(do unsupported "assign.tuple-of-constant-expressions:order-of-the-stores";pure (some (ts.filterMap (q.2 env ts))))else pure (some (ts.filterMap (q.2 env ts)))}:=
 ⟨(_,_),fun ø ø ø ø ø ø ø=>rfl⟩
noncomputable abbrev star:Expr->Bool:=VG.1.1
noncomputable abbrev wA(env:Env)(ts:List Expr):Expr->Option Str:=VG.1.2 env ts
theorem n4{env:Env}{x y:Str}{p q:Pos}{ts:List Expr}(h:env.kindOf x=some .local)(hl:(p.line==q.line)=true):wA env (.Name y q::ts) (.Name x p)=some x:=by
 show(if(env.kindOf x==some .local&&p.line==q.line)=true then some x else none)=some x;rw[h,hl];rfl
theorem Gb{env:Env}{ts es:List Expr}{k k':Nat}{p p':Pos}{names:List Str}(hl:(!(ts.length==2||ts.length==3)||es.length != ts.length||env.blockKind != .function)=false)(h1:es.any star=false)(hn:ts.filterMap (wA env ts)=names)
  (HB:(names.length != ts.length||names.eraseDups.length != names.length)=false) (h2:es.all (foldedForSure 8)=false) (h3:es.all (constantsAlone 8)=false):swappedStores [.Tuple ts k p] (.Tuple es k' p') env=pure (some names):=by
 subst hn;exact(VG.2 ..).trans (VE hl (VE h1 (VE HB (VE h2 (VE h3 rfl)))))
theorem Gc{env:Env}{ts es:List Expr}{k k':Nat}{p p':Pos}{names:List Str}(hn:ts.filterMap (wA env ts)=names)(h:(names.length != ts.length||names.eraseDups.length != names.length)=true):swappedStores [.Tuple ts k p] (.Tuple es k' p') env=pure none:=by
 subst hn;exact(VG.2 ..).trans (VF (VF (aw h)))
theorem PV{env:Env}{es:List Expr}{m:Nat}(hs:(es.length != m)=false)(hf:env.scope.kind= .function):(es.length != m||env.blockKind != .function)=false:=by
 rw[hs,z0 hf];rfl
theorem VH{K:Cx}{i j:Nat}{x y:Str}{b b':Bool}{p1 p2 p p':Pos}{k k':Nat}{es:List Expr}(hi:K.vars[i]?=some (x,.local,b))(hj:K.vars[j]?=some (y,.local,b'))(hl:(p2.line==p1.line)=true)(hn:([x,y].eraseDups.length != 2)=false)
  (hs:(es.length != 2)=false) (h1:es.any star=false) (h2:es.all (foldedForSure 8)=false) (h3:es.all (constantsAlone 8)=false):
  ∀env:Env,(∀(i:Nat) x kd b,K.vars[i]?=some (x,kd,b)->env.kindOf x=some kd)->env.scope.kind= .function->swappedStores [.Tuple [.Name x p1,.Name y p2] k p] (.Tuple es k' p') env=pure none\/swappedStores [.Tuple [.Name x p1,.Name y p2] k p] (.Tuple es k' p') env=pure (some [x,y]):=fun env hk hf=>
 .inr (Gb (PV hs hf) h1 ((rW (n4 (hk i x _ _ hi) (pJ _))).trans (congrArg _ (rW (n4 (hk j y _ _ hj) hl)))) hn h2 h3)
theorem VI{K:Cx}{i j l:Nat}{x y z:Str}{b b' b'':Bool}{p1 p2 p3 p p':Pos}{k k':Nat}{es:List Expr}(hi:K.vars[i]?=some (x,.local,b))(hj:K.vars[j]?=some (y,.local,b'))(hz:K.vars[l]?=some (z,.local,b''))(hl:(p2.line==p1.line)=true)(Sf:(p3.line==p1.line)=true)(hn:([x,y,z].eraseDups.length != 3)=false)
  (hs:(es.length != 3)=false) (h1:es.any star=false) (h2:es.all (foldedForSure 8)=false) (h3:es.all (constantsAlone 8)=false):
  ∀env:Env,(∀(i:Nat) x kd b,K.vars[i]?=some (x,kd,b)->env.kindOf x=some kd)->env.scope.kind= .function->swappedStores [.Tuple [.Name x p1,.Name y p2,.Name z p3] k p] (.Tuple es k' p') env=pure none\/swappedStores [.Tuple [.Name x p1,.Name y p2,.Name z p3] k p] (.Tuple es k' p') env=pure (some [x,y,z]):=fun env hk hf=>
 .inr (Gb (PV hs hf) h1 ((rW (n4 (hk i x _ _ hi) (pJ _))).trans (congrArg _ ((rW (n4 (hk j y _ _ hj) hl)).trans (congrArg _ (rW (n4 (hk l z _ _ hz) Sf)))))) hn h2 h3)
theorem N9{K:Cx}{ts:List Expr}{p p':Pos}{k k':Nat}{es:List Expr}{names:List Str}(h1:es.any star=false)(h2:es.all (foldedForSure 8)=true):
 ∀env:Env,(∀(i:Nat) x kd b,K.vars[i]?=some (x,kd,b)->env.kindOf x=some kd)->env.scope.kind= .function->swappedStores [.Tuple ts k p] (.Tuple es k' p') env=pure none\/swappedStores [.Tuple ts k p] (.Tuple es k' p') env=pure (some names):=fun env hk hf=>.inl ((VG.2 ..).trans (VF (VF (VF (aw h2)))))
theorem Oa{K:Cx}{i j:Nat}{x y:Str}{b:Bool}{p1 p2 p p':Pos}{k k':Nat}{es:List Expr}{names:List Str}(hj:K.vars[j]?=some (y,.cell,b))(h1:es.any star=false):
  ∀env:Env,(∀(i:Nat) x kd b,K.vars[i]?=some (x,kd,b)->env.kindOf x=some kd)->env.scope.kind= .function->swappedStores [.Tuple [.Name x p1,.Name y p2] k p] (.Tuple es k' p') env=pure none\/swappedStores [.Tuple [.Name x p1,.Name y p2] k p] (.Tuple es k' p') env=pure (some names):=fun env hk hf=>.inl (by
 have e2:wA env [.Name x p1,.Name y p2] (.Name y p2)=none:=by
  show(if(env.kindOf y==some .local&&p2.line==p1.line)=true then some y else none)=none;rw[hk j y _ _ hj];rfl
 cases e1:wA env [.Name x p1,.Name y p2] (.Name x p1)with
 |none=>exact Gc ((DD e1).trans (DD e2)) rfl
 |some a=>exact Gc ((rW e1).trans (congrArg _ (DD e2))) rfl)
end
section
variable{P:Pk}{n:Nat}{K K':Cx}{lo:Bool}
noncomputable def Ob(P:Pk)(n:Nat)(K:Cx)(st:List Stmt)(f:al->Option V):Prop:=
 ∀(A:Around) (env:Env) (out hid:List Addr) (m:Str->Option Value) (B s:Shared) (ρ:al) (x:V) (E:Value->Shared->Prop),bW n A->aB P K env out hid m B s ρ->f ρ=some x->
  wpAny (model P.prog P.w) A (execs st env) (fun cV s'=>Kp B s'/\∃v,cV= .ret v/\Dn P s'.heap out x v) E s
theorem K8{st f}(h:p5 P n K st f):Ob P n K st (fun ρ=>(f ρ).bind fun r=>match r.2 with| .ret x=>some x|_=>Option.none):=fun A env out hid m B s ρ x E rm S hf=>by
 refine ah hf ?_;clear hf;rintro⟨aY,fl⟩ h1 hf;cases fl<;>dsimp only at hf<;>try cases hf
 refine au (h A env out hid m B s ρ aY _ E rm S h1) (fun cV s' q=>?_) fun ø ø q=>q
 obtain⟨ao,m',S',K',v,rfl,hv⟩:=q;exact⟨S'.kp,v,rfl,hv⟩
noncomputable def HC(f:al->Option (al×Fl))(g:al->Option V):al->Option V:=fun ρ=>(f ρ).bind fun r=>match r.2 with
 | .next=>g r.1
 | .ret x=>some x
 |_=>Option.none
theorem bk{st:Stmt}{rest:List Stmt}{f g}(h:uk P n K st f)(hr:Ob P n K rest g):Ob P n K (st::rest) (HC f g):=fun A env out hid m B s ρ x E rm S hf=>by
 refine ah hf ?_;clear hf;rintro⟨am,fl⟩ h1 hf;refine rM (au (h A env out hid m B s ρ am fl E rm S h1) (fun cV s₁ q=>?_) fun ø ø q=>q);obtain⟨ck,m₁,bc,gh,uz⟩:=q;cases fl<;>dsimp only at hf<;>try cases hf
 ·obtain rfl:=uz
  exact hr A env out ck m₁ B s₁ am x E rm bc hf
 ·obtain⟨v,rfl,hv⟩:=uz
  exact⟨bc.kp,v,rfl,hv⟩
theorem aB.freeze{env:Env}{out hid:List Addr}{m}{B s:Shared}{ρ}(S:aB P K env out hid m B s ρ)(i:Nat){x:Str}{k:NameKind}(hi:K.vars[i]?=some (x,k,true))(hv:K'.vars=K.vars.set i (x,k,false))(hg:K'.aM=K.aM){y:V}(hy:ρ i=some y):
  ∃ao,aB P K' env out ao m B s ρ:=by
 obtain⟨ov,TA,VJ⟩:=S.slot i x k true hi;rw[hy]at VJ;obtain⟨v0,rfl,bx⟩:=VJ;rw[aw rfl]at bx;obtain⟨a,rfl,ha1,XL,ha3,ha4⟩:=fc.addr (P:=P) bx;have mem:∀b,b∈hid.filter (fun b=>decide (b≠a))<->b∈hid/\b≠a:=fun b=>by simp[kI]
 have sub:∀b∈hid.filter (fun b=>decide (b≠a)),b∈hid:=fun b h=>((mem b).mp h).1
 have XM:a∉hid.filter (fun b=>decide (b≠a)):=fun q=>((mem a).mp q).2 rfl
 refine⟨hid.filter fun b=>decide (b≠a),S.unbox hi hv hg hy TA ha4 (fun b h=>(mem b).mpr ⟨S.oh b h,fun e=>XL (e▸h)⟩) (fun b h ho=>S.own b (sub b h) ho) (fun b h ho bN=>⟨(mem b).mpr ⟨h,bN⟩,ho⟩) ha3 sub
  (fun h=>h.map id fun c ø q2 q3 q4=>⟨(mem c).mpr ⟨q2,fun e=>ha4.lG (e▸q4)⟩,q3,q4⟩) (fun ø ø=>rfl) hy ?_⟩
 cases y
 case list=>
  obtain⟨a',vs,e,z1,z2,z3,z4,z5⟩:=bx;cases e;exact .ofList XM z4 (aU.less (P:=P) z5 sub)
 case dict=>
  obtain⟨a',vs,e,z1,z2,z3,z4,z5,z6,z7⟩:=bx;cases e;exact⟨a,vs,rfl,XM,z5,z4,z6,aU.less (P:=P) z7 sub⟩
 all_goals exact bx.elim
theorem ro(i:Nat){x:Str}{k:NameKind}{rest:List Stmt}{g}(hi:K.vars[i]?=some (x,k,true))(hv:K'.vars=K.vars.set i (x,k,false))(hg:K'.aM=K.aM)(hr:Ob P n K' rest g):Ob P n K rest (fun ρ=>(ρ i).bind fun ø=>g ρ):=fun A env out hid m B s ρ x E rm S hf=>by
 refine ah hf fun y hy gg=>?_
 clear hf;rename _=>hf
 obtain⟨ao,S'⟩:=S.freeze i hi hv hg hy;exact hr A env out ao m B s ρ x E rm S' hf
set_option tactic.hygienic true in
theorem aZ.fnT{a:Addr}{fd:FuncData}{body:List Stmt}{ps:List Str}{f:al->Option V}(De:∀h,P.G h->(∃o,h.get? a=some o/\o.data= .func fd)/\h.CodeRec fd.code fd.qualname)(nY:fd.body= .stmts body)
  (AK:fd.globals=mainGlobals) (Se:fd.builtins=builtinsNs) (Ep:fd.closure=[]) (wy:∀vs:List Value,vs.length=ps.length->bindArgs fd ⟨vs,[]⟩=pure (ps.zip vs)) (ok:vw K fd.scope ps) (Bh:ps.Nodup)
  (N5:fd.scope.isCoroutine=false) (ur:fd.scope.isGenerator=false) (h:Ob P n K body f):aZ P (n+1) (.ref a) (fun xs=>if xs.length=ps.length then f (oR xs)else Option.none):=
 fun A s hid xs x vs E rm hG live hd hf=>by
 dsimp only at hf;split at hf
 case isFalse=>cases hf
 rename_i hlen;refine wx De nY AK Se Ep wy ok Bh N5 ur rm hG live hd hlen fun env s₁ ao m E' S ø Vu=>?_
 refine au (h _ env hid ao m s s₁ (oR xs) x E' Vu S hf) (fun cV s' q=>?_) fun ø ø q=>q
 obtain⟨k,v,rfl,hv⟩:=q;exact⟨k,hv⟩
theorem z8(i:Nat){id x:Str}{k:NameKind}{p xp pos:Pos}(hi:K.vars[i]?=some (x,k,true))(hd:(x==("__debug__":Str))=false)(hc:(x==("__classdict__":Str))=false)(hx:K.aM.contains id=true)(hv:P.glob id=some (.type "tuple"))(N8:(id==("__debug__":Str))=false):
  eM P n K false (.Call (.Name id p) [.Name x xp] [] pos) (fun ρ=>(ρ i).bind fun y=>Ur [y]):=fun A env out hid m B s ρ z E rm S hf=>by
 refine ah hf fun y hy gg=>?_
 clear hf;rename _=>hf
 refine kH (bH S hx hv N8 ?_);refine Dz (jS (eV (S.load hi hy hd hc fun v bx ø=>jR ?_) hd));rw[aw rfl]at bx;refine ah (o:=y.gE) hf fun l hl hf=>ite_inv hf fun hm=>?_
 cases V.fQ hl;obtain⟨a,ws,rfl,_,_,_,ht,iY⟩:=bx.em;exact Q5 S.live ht iY hm
end
section
section tables
theorem xG(t:SetTable)(n:Nat):(t.orStandIn n).led=t.led/\(t.plain=false->(t.orStandIn n).plain=false):=by
 unfold SetTable.orStandIn;split
 ·exact⟨rfl,id⟩
 ·exact⟨rfl,fun ø=>rfl⟩
theorem Oc(t:SetTable)(j:Nat):(t.put j).1.led=t.led/\(t.put j).1.plain=t.plain:=by
 unfold SetTable.put;exact⟨rfl,rfl⟩
set_option tactic.hygienic true in
theorem Ew(t:SetTable)(es:Array (Int×Value))(h:Int)(x:Value):(layNew t es h x).2.1.led=t.led/\(t.plain=false->(layNew t es h x).2.1.plain=false):=by
 unfold layNew;split
 ·rename_i slot wd _
  have h1:=Oc t slot;generalize t.put slot=q at h1 ⊢;obtain⟨t',p⟩:=q;dsimp only at h1 ⊢;have h2:=xG t' (SetTable.insertAt es p (h,x)).size;exact⟨h2.1.trans h1.1,fun e=>h2.2 (h1.2.trans e)⟩
 ·exact⟨rfl,fun ø=>rfl⟩
theorem Ex{t:SetTable}{hs:Array Int}{w:Nat}{r:SetTable×Array Nat}(h:t.relaid hs w=some r):r.1.led=t.led/\r.1.plain=t.plain:=by
 unfold SetTable.relaid SetTable.laid at h;simp only[Option.bind_eq_bind,m6]at h;obtain⟨ow,_,h⟩:=h;cases h;exact⟨rfl,rfl⟩
set_option tactic.hygienic true in
theorem z9(t:SetTable)(es:Array (Int×Value))(w:Nat):(relayAll t es w).2.1.led=t.led/\(t.plain=false->(relayAll t es w).2.1.plain=false):=by
 unfold relayAll;split
 ·rename_i t' order hr
  have:=Ex hr;dsimp only at this ⊢;split
  ·exact⟨this.1,fun e=>this.2.trans e⟩
  ·exact⟨rfl,fun ø=>rfl⟩
 ·exact⟨rfl,fun ø=>rfl⟩
end tables
section
variable{prog:Program}{w:World}{K:Type}[DecidableEq K]{knd:KeyKind prog w K}{A:Around}{E:Value->Shared->Prop}{s:Shared}
structure HD(knd:KeyKind prog w K)(o:Obj)(es:Array (Int×Value))(ep:Nat)(t:SetTable)(ks:List K)(led:Bool):Prop where
 h1:o.ExactSet
 h2:o.data= .set es ep t
 h3:ElemsOf knd es.toList
 h4:es.size=ks.length
 h5:∀k,k∈ks<->∃e∈es.toList,knd.is k e.2=true
 h6:es.size<scanBound
 h7:t.fits es.size=true
 h8:t.led=led
 h9:es.size≠0->t.plain=false
inductive qf(knd:KeyKind prog w K)(h:Heap)(a:Addr)(ks:List K)(led:Bool):Prop
 |mk (o:Obj) (es:Array (Int×Value)) (ep:Nat) (t:SetTable) (e:h.get? a=some o) (d:HD knd o es ep t ks led):qf knd h a ks led
theorem qf.at{h h':Heap}{a ks led}(x:qf knd h a ks led)(k:∀o,h.get? a=some o->h'.get? a=some o):qf knd h' a ks led:=let⟨o,es,ep,t,e,r⟩:=x;⟨o,es,ep,t,k o e,r⟩
theorem wB{h:Heap}{a:Addr}{o:Obj}{es mM:Array (Int×Value)}{ep:Nat}{t t1:SetTable}{ks:List K}{led}(ho:h.get? a=some o)(hex:o.ExactSet)(hd:o.data= .set es ep t)(h1:ElemsOf knd mM.toList)(h2:mM.size=ks.length)
  (h3:∀k,k∈ks<->∃e∈mM.toList,knd.is k e.2=true) (h4:mM.size<scanBound) (h5:t1.fits mM.size=true) (h6:t1.led=led) (h7:t1.plain=false):
  (h.update a (Obj.putSet mM t1)).get? a=some {o with data:=.set mM (ep+1) t1}/\qf knd (h.update a (Obj.putSet mM t1)) a ks led:=by
 have hg:(h.update a (Obj.putSet mM t1)).get? a=some {o with data:=.set mM (ep+1) t1}:=by
  have:=m8 (Obj.putSet mM t1) ho (by rw[putSet_of mM t1 hd];rfl);rw[putSet_of mM t1 hd]at this;exact this
 exact⟨hg,_,mM,ep+1,t1,hg,hex,rfl,h1,h2,h3,h4,h5,h6,fun ø=>h7⟩
set_option tactic.hygienic true in
theorem K9{a:Addr}{ks:List K}{led:Bool}{k:K}{x:Value}{Q:Bool->Shared->Prop}(Hs:knd.is k x=true)(T6:x.scannable=true)(sk:plainKind x=false)(hS:qf knd s.heap a ks led)(wu:ks.length+1<scanBound)
  (h:∀b h',Heap.SameBut a s.heap h'->qf knd h' a (if k∈ks then ks else ks++[k]) led->Q b {s with heap:=h'}):
  wpAny (model prog w) A (setAddHashed a x (knd.hash k)) Q E s:=by
 obtain⟨o,es,ep,t,ho,hex,hd,Sg,hn,lj,hb,hf,HE,cL⟩:=hS;have PD:es.size+1<scanBound:=by rw[hn];exact wu
 unfold setAddHashed setAddHashedIn;refine gB (ar (pX ho hd hf ?_));dsimp only;rw[byScan_of T6 hb Sg];simp only[↓reduceIte];unfold setAddByScan;refine ar (ar (rS (ar (wpAny_setScan_of Hs ho hd hf Sg ?_))))
 cases hr:List.findIdx? (fun e=>knd.is k e.2) es.toList with
 |some j=>
  dsimp only;obtain⟨hj,hpj,_⟩:=List.findIdx?_eq_some_iff_getElem.mp hr;have hk:k∈ks:=(lj k).mpr ⟨es.toList[j],va hj,hpj⟩;refine bd (bd ?_);have:=h false s.heap (Heap.SameBut.refl a s.heap) (by rw[aw hk];exact⟨o,es,ep,t,ho,hex,hd,Sg,hn,lj,hb,hf,HE,cL⟩);exact this
 |none=>
  dsimp only;have hk:k∉ks:=fun hk=>by
   obtain⟨e,he,hp⟩:=(lj k).mp hk;have:=Dq.mp hr e he;rw[hp]at this;cases this
  rw[az hk]at h;have hgw:∀(b:Bool) {s₁:Shared} {Q':Unit->Shared->Prop},Q' () s₁->wpAny (model prog w) A (match b with|true=>rule "set.scan.the-table-gave-way"|false=>pure ()) Q' E s₁:=fun b s₁ Q' hq=>by cases b<;>first|exact bd hq|exact rS hq
  have jy:=layNew_perm t es (knd.hash k) x;have Gd:=layNew_fits t es (knd.hash k) x;have Ge:=Ew t es (knd.hash k) x;generalize hL:layNew t es (knd.hash k) x=L at jy Gd Ge ⊢;obtain⟨mM,t1,La,gave⟩:=L;dsimp only at jy Gd Ge ⊢;rw[Array.toList_push]at jy;have VK:ElemsOf knd mM.toList:=(Sg.push Hs T6).perm jy;have Sh:mM.size=(ks++[k]).length:=by rw[<-Array.length_toList,jy.length_eq,List.length_append,Array.length_toList,hn,List.length_append];rfl
  have PW:∀k',k'∈ks++[k]<->∃e∈mM.toList,knd.is k' e.2=true:=fun k'=>by
   rw[cr,cN,lj k'];constructor
   ·rintro(⟨e,he,hp⟩|rfl)
    ·exact⟨e,jy.mem_iff.mpr (bj _ he),hp⟩
    ·exact⟨_,jy.mem_iff.mpr (bw _ (cN.mpr rfl)),Hs⟩
   ·rintro⟨e,he,hp⟩
    rcases cr.mp (jy.mem_iff.mp he)with he|he
    ·exact .inl ⟨e,he,hp⟩
    ·rw[cN]at he;subst he
     exact .inr (knd.inj x k' k hp Hs)
  have Si:mM.size<scanBound:=by rw[Sh,List.length_append];exact wu
  refine ar (hgw _ ?_);have tail:∀t2:SetTable,t2.fits mM.size=true->t2.led=led->t2.plain=false->wpAny (model prog w) A (do
    storeSet a mM t2
    if(!La&&t2.tooFull)=true then do
       (match(relayAll t2 mM (SetTable.grown mM.size)).2.2 with|true=>rule "set.scan.the-table-gave-way"|false=>pure ())
       storeSet a (relayAll t2 mM (SetTable.grown mM.size)).1 (relayAll t2 mM (SetTable.grown mM.size)).2.1
       pure (some true)
     else pure (some true)) (fun r s'=>∃h',r=some true/\s'={s with heap:=h'}/\Heap.SameBut a s.heap h'/\qf knd h' a (ks++[k]) led) E s:=by
   intro t2 hf2 Od hp2;refine ar (wpAny_storeSet_of ho hd ?_ (vb Si));obtain⟨TR,hS1⟩:=wB (knd:=knd) ho hex hd VK Sh PW Si hf2 Od hp2;have VL:=pe s.heap a (Obj.putSet mM t2);split
   ·have hp:=relayAll_perm t2 mM (SetTable.grown mM.size)
    have hfr:=relayAll_fits t2 mM (SetTable.grown mM.size);have XN:=z9 t2 mM (SetTable.grown mM.size);generalize hRl:relayAll t2 mM (SetTable.grown mM.size)=Rl at hp hfr XN ⊢;obtain⟨es2,t3,ad3⟩:=Rl;dsimp only at hp hfr XN ⊢;have hsz:es2.size=mM.size:=by rw[<-Array.length_toList,hp.length_eq,Array.length_toList]
    have JD:es2.size<scanBound:=by rw[hsz];exact Si
    refine ar (hgw _ ?_);refine ar (wpAny_storeSet_of TR rfl ?_ (vb JD));obtain⟨_,hS2⟩:=wB (knd:=knd) (ks:=ks++[k]) (led:=led) TR hex rfl (VK.perm hp) (hsz.trans Sh) (fun k'=>(PW k').trans ⟨fun⟨e,he,q⟩=>⟨e,hp.mem_iff.mpr he,q⟩,fun⟨e,he,q⟩=>⟨e,hp.mem_iff.mp he,q⟩⟩) JD hfr (XN.1.trans Od) (XN.2 hp2);exact bd ⟨_,rfl,rfl,VL.trans (pe _ a _),hS2⟩
   ·exact bd ⟨_,rfl,rfl,VL,hS1⟩
  split
  ·refine ar ?_
   rw[hashByValue_scannable 8 T6,sk];refine bd ?_;simp only[gz,↓reduceIte];refine au (tail {t1 with plain:=false} (SetTable.fits_plain_off Gd) (Ge.1.trans HE) rfl) (fun r s' q=>?_) fun ø ø q=>q
   obtain⟨h',rfl,rfl,h1,h2⟩:=q;exact bd (h true h' h1 h2)
  ·rename_i hnp
   refine ar (bd ?_);simp only[↓reduceIte];refine au (tail t1 Gd (Ge.1.trans HE) (by simpa using hnp)) (fun r s' q=>?_) fun ø ø q=>q
   obtain⟨h',rfl,rfl,h1,h2⟩:=q;exact bd (h true h' h1 h2)
end
end
section
section
variable{prog:Program}{w:World}{A:Around}{E:Value->Shared->Prop}{s:Shared}
noncomputable def lZ(ks:List Str)(k:Str):List Str:=if k∈ks then ks else ks++[k]
noncomputable def dd(xs:List (List Nat)):List Str:=(xs.map pyStr).foldl lZ []
theorem Ey(ks:List Str)(k:Str):(lZ ks k).length<=ks.length+1:=by
 unfold lZ;split
 ·omega
 ·simp
theorem Cc{I S:Addr}{fp wr:List Addr}{G:Array GenState->Array GenState->Prop}{xs:List (List Nat)}{St:Nat->Shared->Prop}{led:Bool}
  (W:WalksS prog w A.in1 I fp wr G xs.length (fun i v=>∃x t,xs[i]?=some x/\v= .str (pyStr x) t) St) (XO:S∉fp) (hb:xs.length+1<scanBound) {R:Result->Shared->Prop}:
  ∀(k i:Nat) (s:Shared) (ks:List Str),xs.length-i=k->i<=xs.length->St i s->ks.length<=i->qf (strKind prog w) s.heap S ks led->
   (∀s',Moved (S::wr) G s s'->qf (strKind prog w) s'.heap S (((xs.drop i).map pyStr).foldl lZ ks) led->R (.ok (.ret .none)) s')->
   codeAny (model prog w) A (.builtin "set.update.loop" ⟨[.ref S,.ref I],[]⟩) R s:=by
 have hSw:S∉wr:=fun h=>XO (W.sub _ h)
 have HF:∀b∈wr,b∈S::wr:=fun b hb=>cw _ hb
 intro k
 induction k with
 |zero=>
  intro i s ks hk hi eF hle hS hR;have hin:i=xs.length:=by omega
  subst hin;refine nk IW ?_;rw[pS DE _];show wpAny _ A.in1 (pyNext (.ref I)>>= _) _ _ s;refine ar (W.done s _ _ eF fun s' hm=>?_);show wpAny _ A.in1 (ret Value.none) _ _ s';refine bd (hR s' (hm.mono HF) ?_);rw[u9];exact hS.at fun o e=>hm.heap S _ hSw e
 |succ k ih=>
  intro i s ks hk hi eF hle hS hR;have de:i<xs.length:=by omega
  refine nk IW ?_;rw[pS DE _];show wpAny _ A.in1 (pyNext (.ref I)>>= _) _ _ s;refine ar (W.item i s _ _ de eF fun v s' hP aa4 hm=>?_);obtain⟨x,t,hx,rfl⟩:=hP;have NE:qf (strKind prog w) s'.heap S ks led:=hS.at fun o e=>hm.heap S _ hSw e
  show wpAny _ A.in1 (holding [Value.str (pyStr x) t] (setAdd S (.str (pyStr x) t))>>= _) _ _ s';refine ar (gB ?_);unfold setAdd;refine gB ?_;refine ar ((strKind prog w).pyHash (k:=pyStr x) (strKind_is _ _ _ _) ?_);refine K9 (knd:=strKind prog w) (s:={s' with toks:=s'.toks+1}) (strKind_is _ _ _ _) rfl rfl NE (by omega) fun b h' uy hS2=>?_
  have Lb:xs.drop i=x::xs.drop (i+1):=by
   rw[pf de];have:=(eX.mp hx).2;rw[this]
  refine bd ⟨rR DE _,ih (i+1) _ (lZ ks (pyStr x)) (by omega) de (W.frame _ s' _ _ aa4 (i5 _) fun b hb o e=>?_) (by have:=Ey ks (pyStr x);omega) hS2 fun hZ aa5 aa6=>?_⟩
  ·rw[uy.2 b (fun h:b=S=>XO (by rw[<-h];exact hb))];exact e
  ·refine hR hZ (Moved.trans W.gtrans ((hm.mono HF).then_heap (i5 _) fun b o hb e=>?_) aa5) ?_
   ·rw[uy.2 b (fun h:b=S=>hb (by rw[h];exact dJ))];exact e
   ·rw[Lb];exact aa6
noncomputable abbrev mH(w:World):Bool:=!(w.params.followText "set-order")
noncomputable abbrev dN(w:World):Obj:={cls:=.type "set",dict:=none,data:=.set #[] 0 (.fresh 0 0 (mH w))}
theorem sZ(a:Value){Q₁:Value->Shared->Prop}(h:Q₁ (.ref s.heap.objs.size) {s with heap:=s.heap.push (dN w)}):
  codeAny (model prog w) A (.call (.builtin "set.__new__") ⟨[.type "set",a],[]⟩) (wants Q₁ E) s:=by
 refine codeAny_of_tree ?_;show wpAny _ A.in1 (do checkBuiltinCall "set.__new__" ⟨[.type "set",a],[]⟩;again (.builtin "set.__new__" ⟨[.type "set",a],[]⟩)) _ _ s;refine ar (wpAny_of_eq (F.newCall_set_1 a) (bd ⟨rR F.plain_set_new _,nk F.entry_set_new ?_⟩));rw[pS F.plain_set_new _];unfold Builtin.«set.__new__» Builtin.Frozenset.newClass;have HF:=sub_set_self;obtain⟨hp,g,d,tk,os⟩:=s;dsimp only
 wp_walk
 refine wpAny_askSetting (bd ?_);dsimp only;simp only[newObj];refine ar (wpAny_alloc (bd ?_));exact bd h
end
end
section
section
variable{prog:Program}{w:World}{A:Around}{E:Value->Shared->Prop}{s:Shared}
theorem Ez{h:Heap}{a:Addr}(hg:h.get? a=some (dN w)):qf (strKind prog w) h a [] (mH w):=
 ⟨_,#[],0,_,hg,⟨rfl,rfl,rfl⟩,rfl,fun e he=>by simp at he,rfl,fun k=>by simp,by decide,by rfl,rfl,fun q=>absurd rfl q⟩
set_option maxHeartbeats 3200000 in
theorem wC{l:Addr}{items:Array Value}{xs:List (List Nat)}{Q:Value->Shared->Prop}(hh:A.handled=none)(hl:s.heap.IsList l items)(hi:∀(i:Nat) v,items[i]?=some v->∃x t,xs[i]?=some x/\v= .str (pyStr x) t)(hsz:items.size=xs.length)(hb:xs.length+1<scanBound)
  (h:∀(h':Heap) (tk:Nat),qf (strKind prog w) h' s.heap.objs.size (dd xs) (mH w)->(∀b o,s.heap.get? b=some o->h'.get? b=some o)->Q (.ref s.heap.objs.size) {s with heap:=h',toks:=tk}):
  wpAny (model prog w) A (call (.type "set") [.ref l]) Q E s:=by
 obtain⟨c,tl,ae7⟩:=nz.mro;have ad4:=nz.made;have HF:=nz.sub;refine wpAny_call (codeAny_of_tree ?_);show wpAny _ _ (callAny (.type "set") _) _ _ _;refine bd ⟨Code.quiet_builtin _ (by decide+kernel),nk F.entry_type_call ?_⟩;rw[Around.under_plain (weight_type_call_type "set" [.ref l] []) rfl];have h1:=nz.notType;have h2:=nz.canCreate;have hct:=F.typeCall_set_1 (.ref l)
 repeat (any_goals (first|assumption|wp_step))
 refine codeAny_mono (sZ (.ref l) (E:=E) (Q₁:=fun obj s₁=>obj= .ref s.heap.objs.size/\s₁={s with heap:=s.heap.push (dN w)}) ⟨rfl,rfl⟩) fun r s₁ hr=>?_
 cases r with
 |error e=>exact hr
 |ok fl=>
  cases fl with
  |ret obj=>
   obtain⟨rfl,rfl⟩:=hr;have hS:(s.heap.push (dN w)).get? s.heap.objs.size=some (dN w):=bD _ rfl;have hT:Shared.TypeIs {s with heap:=s.heap.push (dN w)} (.ref s.heap.objs.size) "set":=⟨_,hS,rfl⟩;have WZ:=nz.init.lookup;have hbi:=nz.init.bind (.ref s.heap.objs.size)
   repeat (any_goals (first|assumption|wp_step))
   refine codeAny_mono (codeAny_call_builtin (R:=wants (fun r s₂=>r= .none/\∃h' tk,s₂={s with heap:=h',toks:=tk}/\qf (strKind prog w) h' s.heap.objs.size (dd xs) (mH w)/\(∀b o,s.heap.get? b=some o->h'.get? b=some o)) E) nz.init.plain F.entry_set_init (check_set_init_1 hT ?_)) fun aa7 s₂ Lc=>?_
   ·obtain⟨ol,hol,Nf,nl,Sj⟩:=hl
    obtain⟨ae8,odict,ad5,oslots⟩:=ol;simp only at Nf Sj;subst Nf;subst Sj;have aa8:(s.heap.push (dN w)).get? l=some {cls:=.type "list",dict:=odict,data:=.seq items nl,slots:=oslots}:=bK _ hol;have ae9:=F.sub_list_set;have af0:=F.sub_list_frozenset;have bN:(Value.type "list"==Value.type "dict")=false:=by decide
    have QG:(s.heap.push (dN w)).IsList l items:=⟨_,aa8,rfl,nl,rfl⟩;refine DR fun Q₁ AR yk Cd=>?_
    unfold Builtin.«set.__init__» noKeywords Builtin.Frozenset.updateFrom;generalize hPI:pyIter=PI
    wp_walk
    subst hPI;refine yL QG ?_;refine ar (wpAny_runValue ?_);have hlS:l<s.heap.objs.size:=f5 hol;have hh3:A.in1.in1.in1.handled=none:=by simp[hh]
    have aa9:l≠(s.heap.push (dN w)).objs.size:=by
     rw[qF];exact jU (ni hlS)
    have XO:s.heap.objs.size∉[(s.heap.push (dN w)).objs.size,l]:=by
     rw[qF];simp only[bp,cN,qH,ny,not_or];exact⟨jU (mV _),Nat.ne_of_gt hlS⟩
    have W0:=(Walks.list (prog:=prog) (w:=w) hh3 _ l aa9 items).toS;rw[hsz]at W0;have W:WalksS prog w A.in1.in1.in1 (s.heap.push (dN w)).objs.size [(s.heap.push (dN w)).objs.size,l] [(s.heap.push (dN w)).objs.size] (fun a b=>b=a) xs.length (fun i v=>∃x t,xs[i]?=some x/\v= .str (pyStr x) t) _:=
     {sub:=W0.sub,grefl:=W0.grefl,gtrans:=W0.gtrans,frame:=W0.frame,done:=W0.done,self:=W0.self,item:=fun i s Q E de st hQ=>W0.item i s Q E de st fun v s' hP=>hQ v s' (hi i v hP)}
    refine Cc (A:=A.in1.in1) (led:=mH w) W XO hb (xs.length-0) 0 _ [] rfl (dU _) ⟨⟨_,bD _ rfl,rfl,rfl⟩,(QG.push _)⟩ (dU _) ?hS0 ?hR
    case hS0=>exact Ez (bK _ hS)
    case hR=>
     intro s' hm NE;obtain⟨h',g',d',TL,os'⟩:=s';have eg:g'=s.gens:=hm.gens;have ed:d'=s.drawn:=hm.drawn;have eo:os'=s.os:=hm.os;subst eg;subst ed;subst eo;show wpAny _ _ _ _ _ _;refine bd ?_;show wpAny _ _ (ret Value.none) _ _ _;refine bd (yk _ _ ⟨rfl,h',TL,rfl,NE,fun b o e=>?_⟩);have hb:=f5 e;have PD:b≠s.heap.objs.size:=jU hb;have JD:b≠(s.heap.push (dN w)).objs.size:=by
      rw[qF];exact jU (ni hb)
     exact hm.heap b o (by simp only[bp,cN,qH,ny,not_or];exact⟨PD,JD⟩) (bK _ (bK _ e))
   ·cases aa7 with
    |error e=>exact Lc
    |ok VM=>
     cases VM with
     |ret r=>
      obtain⟨rfl,h',tk,rfl,NE,ze⟩:=Lc
      repeat (any_goals (first|assumption|wp_step))
      exact h _ _ NE ze
     |_=>exact Lc.elim
  |_=>exact hr.elim
end
end
section
section facts
theorem dH:Slot "set_iterator" "__next__" "set_iterator.__next__":=
 .of (owner:="set_iterator") (n:="__next__") (by rw[pV,pW];kernel_rfl) (by decide+kernel) (by decide+kernel) (by decide+kernel)
  (by first|exact .inl (by decide+kernel)|exact .inr (by decide+kernel)) (by rw[yS];kernel_rfl)
theorem ll:entryFor table "set_iterator.__next__"=some Builtin.«set_iterator.__next__» :=entryFor_of_tree (by kernel_rfl)
theorem tU:Manifest.owners.lookup (String.ofList ['r','o','t','a','r','e','t','i','_','t','e','s'].reverse)=some Manifest.sig_set_iterator:=by kernel_rfl
theorem mI(a:Value):argsOk "set_iterator.__next__" ⟨[a],[]⟩:=by
 unfold argsOk;rw[PySem.signature?_of (id:="set_iterator.__next__") (n:=['_','_','t','x','e','n','_','_']) (o:=['r','o','t','a','r','e','t','i','_','t','e','s']) (by kernel_rfl) tU];kernel_rfl
theorem wD:entryFor table "set.__iter__"=some Builtin.«frozenset.__iter__» :=entryFor_alias (id':="frozenset.__iter__") (by kernel_rfl) rfl (by decide+kernel) (by kernel_rfl)
end facts
section perms
theorem qg{α:Type}:∀(l:List α) (i:Nat) (h:i<l.length),(l[i]::l.eraseIdx i).Perm l
 |[],i,h=>by simp at h
 |x::xs,0,h=>by simp
 |x::xs,i+1,h=>by
  simp only[List.getElem_cons_succ,List.eraseIdx_cons_succ];exact(List.Perm.swap _ _ _).trans ((qg xs i (by simpa using h)).cons x)
theorem Gf(next:Nat->Nat){α:Type}:∀(fuel k:Nat) (left:List α) (out:Array α),left.length<=fuel->(pickOrder.go next fuel k left out).toList.Perm (out.toList++left)
 |0,k,left,out,h=>by
  have:left=[]:=vc (by omega);subst this;rw[gn];exact .refl _
 |fuel+1,k,[],out,h=>by
  rw[gn];exact .refl _
 |fuel+1,k,x::xs,out,h=>by
  show(match(x::xs)[next k % (x::xs).length]? with
   |some y=>pickOrder.go next fuel (k+1) ((x::xs).eraseIdx (next k % (x::xs).length)) (out.push y)
   |none=>out).toList.Perm _
  have de:next k % (x::xs).length<(x::xs).length:=Nat.mod_lt _ (by simp)
  have e:(x::xs)[next k % (x::xs).length]?=some ((x::xs)[next k % (x::xs).length]):=by simp[de]
  rw[e];dsimp only;have ih:=Gf next fuel (k+1) ((x::xs).eraseIdx (next k % (x::xs).length)) (out.push ((x::xs)[next k % (x::xs).length])) (by rw[DF de];simp at h ⊢;omega)
  refine ih.trans ?_;rw[Array.toList_push,List.append_assoc];refine List.Perm.append_left _ ?_;exact qg _ _ de
theorem yl{α:Type}(next:Nat->Nat)(xs:Array α):(pickOrder next xs).toList.Perm xs.toList:=by
 unfold pickOrder;simpa using Gf next xs.size 0 xs.toList #[] (by simp)
variable{M:Model}{A:Around}{E:Value->Shared->Prop}{s:Shared}
theorem xH{src:Source}{n:Nat}{Q:Nat->Shared->Prop}(hn:n≠0)(h:∀i d,i<n->Q i {s with drawn:=d}):wpAny M A (choose src n) Q E s:=fun Γ p ø=>⟨hn,h _ _ (Nat.mod_lt _ (DG hn))⟩
theorem mJ{α:Type}:∀(n:Nat) (xs:List α) (s:Shared) (Q:List α->Shared->Prop),n=xs.length->(∀l d,l.Perm xs->Q l {s with drawn:=d})->wpAny M A (drawOrder n xs) Q E s
 |0,xs,s,Q,hn,h=>by
  have:xs=[]:=vc hn.symm;subst this;exact bd (h [] s.drawn (.refl _))
 |n+1,[],s,Q,hn,h=>by simp at hn
 |n+1,x::xs,s,Q,hn,h=>by
  refine ar (m:=choose .order (x::xs).length) (xH (by simp) fun i d hi=>?_);have e:(x::xs)[i]?=some ((x::xs)[i]):=by simp[hi]
  rw[e];dsimp only;refine ar (mJ n ((x::xs).eraseIdx i) _ _ (by rw[DF hi];simp at hn ⊢;omega) fun l d' hl=>bd (h _ d' ?_));exact(List.Perm.cons _ hl).trans (qg _ _ hi)
end perms
section
variable{prog:Program}{w:World}{A:Around}{E:Value->Shared->Prop}{s:Shared}
noncomputable abbrev n5(first:Value)(i:Nat)(S:Addr)(n ep:Nat):Obj:={cls:=.type "set_iterator",data:=.fields #[first,rawInt i,.ref S,rawInt n,rawInt ep]}
inductive kq(w:World)(S:Addr)(es:Array (Int×Value))(ep:Nat)(t:SetTable)(first:Nat->Value)(vals:List Value)(h:Heap):Prop
 |txt (a1:w.params.followText "set-order"=true) (a2:∀i,first i=rawInt (0:Nat)) (a3:vals=(pickOrder (w.params.setOrder S ep) es).toList.map (·.2)):kq w S es ep t first vals h
 |drw (a1:w.params.followText "set-order"=false) (tp:Addr) (places:List Nat) (a2:∀i,first i= .ref tp) (a3:za h tp (places.map fun(p:Nat)=>rawInt p).toArray) (a4:places.Perm (List.range es.size)) (a5:vals=places.filterMap fun p=>(es[p]?).map (·.2)):kq w S es ep t first vals h
 |one (a1:w.params.followText "set-order"=false) (a2:es.size<=1) (a3:t.led=true) (a4:first 0=rawInt (0:Nat)) (a5:∀p,t.place[0]?=some p->first 1=rawInt (p+1:Nat)) (a6:vals=es.toList.map (·.2)):kq w S es ep t first vals h
theorem Ce{S:Addr}{es:Array (Int×Value)}{ep:Nat}{t:SetTable}{first:Nat->Value}{vals:List Value}{h:Heap}(x:kq w S es ep t first vals h):vals.Perm (es.toList.map (·.2)):=by
 rcases x with⟨_,_,rfl⟩|⟨_,tp,places,_,_,hp,rfl⟩|⟨_,_,_,_,_,rfl⟩
 ·exact(yl _ _).map _
 ·have e:es.toList.map (·.2)=(List.range es.size).filterMap fun p=>(es[p]?).map (·.2):=by
   have:=filterMap_getElem?_range es;rw[<-this,List.map_filterMap]
  rw[e];exact hp.filterMap _
 ·exact .refl _
theorem fV{Q:Bool->Shared->Prop}(h:Q (w.params.followText "set-order") s):wpAny (model prog w) A setsByText Q E s:=by
 unfold setsByText;exact ar (wpAny_askSetting (bd h))
theorem EA{S:Addr}{o:Obj}{es:Array (Int×Value)}{ep:Nat}{t:SetTable}{ks:List Str}{Q:Value->Shared->Prop}(ho:s.heap.get? S=some o)(hD:HD (strKind prog w) o es ep t ks (mH w))
  (h:∀I first vals h' d,h'.get? I=some (n5 (first 0) 0 S es.size ep)->s.heap.get? I=none->(∀b o,s.heap.get? b=some o->h'.get? b=some o)->kq w S es ep t first vals h'->I≠S->(∀tp,first 0= .ref tp->I≠tp)->Q (.ref I) {s with heap:=h',drawn:=d}):
  wpAny (model prog w) A (pyIter (.ref S)) Q E s:=by
 obtain⟨hex,hd,Sg,hn,lj,hb,hf,HE,cL⟩:=hD;have hT:s.TypeIs (.ref S) "set":=⟨o,ho,hex.1⟩;have eF:∀{A':Around} {E':Value->Shared->Prop} {s':Shared} {Q':(Array (Int×Value)×Nat×SetTable)->Shared->Prop},s'.heap.get? S=some o->Q' (es,ep,t) s'->wpAny (model prog w) A' (setState S) Q' E' s':=fun e q=>pX e hd hf q
 refine wpAny_pyIter_slot hT F.slot_set_iter (ph F.slot_set_iter hT wD ?_ (F.args_set_iter_1 _));show wpAny _ A.in1 (Builtin.Frozenset.sizeOf S>>= _) _ _ s;unfold Builtin.Frozenset.sizeOf setEntries;refine ar (ar (ar (eF ho (bd (bd ?_)))));dsimp only;show wpAny _ A.in1 (setDrawn S>>= _) _ _ s;unfold setDrawn;refine ar (ar (eF ho ?_));dsimp only;refine ar (fV (bd ?_));have lt:=f5 ho;have fin:∀(first:Nat->Value) (vals:List Value) (s':Shared),s'.heap.get? S=some o->(∀b o,s.heap.get? b=some o->s'.heap.get? b=some o)->s.heap.get? s'.heap.objs.size=none->s'.gens=s.gens->s'.os=s.os->s'.toks=s.toks->
   (∀h',(∀b o,s'.heap.get? b=some o->h'.get? b=some o)->kq w S es ep t first vals h')->(∀tp,first 0= .ref tp->∃o,s'.heap.get? tp=some o)->wpAny (model prog w) A.in1 (do ret (<-newFields "set_iterator" [first 0,rawInt 0,.ref S,rawInt es.size,rawInt (<-setEpoch S)])) (fun fin s'=>∃v,fin= .done (.ret v)/\∃T' r,s'.TypeIs v T'/\typeLookup (.type T') (Str.ofString "__next__")=pure (some r)/\Q v s') E s':=by
  intro first vals s' h1 h2 h3 h4 h5 h6 h7 h8
  unfold setEpoch;refine ar (ar (eF h1 (bd ?_)));dsimp only;simp only[newFields];refine ar (pM ?_ (by size_fits));refine bd ⟨_,rfl,"set_iterator",_,⟨_,bD _ rfl,rfl⟩,dH.lookup,?_⟩;obtain⟨hp,g,d,tk,os⟩:=s';obtain rfl:=h4;obtain rfl:=h5;obtain rfl:=h6;refine h _ first vals _ d (bD _ rfl) h3 (fun b o e=>bK _ (h2 b o e)) (h7 _ fun b o e=>bK _ e) ?_ ?_
  ·intro e
   have:=f5 h1;rw[<-e]at this;exact absurd this (pI _)
  ·intro tp e1 e2
   obtain⟨o',e3⟩:=h8 tp e1;have:=f5 e3;rw[<-e2]at this;exact absurd this (pI _)
 show wpAny _ A.in1 (if(!w.params.followText "set-order"&&(!t.plain&&decide (es.size>1)))=true then _ else _) _ _ _;cases htx:w.params.followText "set-order"
 ·by_cases hsz:es.size>1
  ·have hp:t.plain=false:=cL (by omega)
   rw[hp];simp only[Bool.not_false,Bool.true_and,hsz,decide_true,eI];refine ar (mJ es.size (List.range es.size) _ _ (by simp) fun places d jy=>?_);have hlen:places.length=es.size:=by rw[jy.length_eq];simp
   simp only[newTuple];refine ar (pM ?_ (by
    show(List.map _ places).toArray.size<=sizeLine;rw[bM,bi,hlen];exact vb hb))
   refine fin (fun ø=>.ref s.heap.objs.size) (places.filterMap fun p=>(es[p]?).map (·.2)) _ (bK _ ho) (fun b o e=>bK _ e) ?_ rfl rfl rfl (fun h' hk=>.drw htx s.heap.objs.size places (fun ø=>rfl) ⟨0,hk _ _ (bD _ rfl)⟩ jy rfl) fun tp e=>?_
   ·cases e:s.heap.get? (s.heap.push {cls:=.type "tuple",data:=.seq (List.map (fun(i:Nat)=>rawInt i) places).toArray}).objs.size with
    |none=>rfl
    |some o'=>
     have:=f5 e;rw[qF]at this;exact absurd this (kJ.mpr (i5 _))
   ·cases e
    exact⟨_,bD _ rfl⟩
  ·simp only[hsz,decide_false,Bool.and_false,gz,eW]
   refine ar (bd ?_);refine fin (fun i=>if i=0 then rawInt (0:Nat)else rawInt ((t.place[0]?.getD 0)+1:Nat)) (es.toList.map (·.2)) s ho (fun b o e=>e) (aP _) rfl rfl rfl (fun h' hk=>.one htx (by omega) ?_ rfl (fun p hp=>?_) rfl) fun tp e=>?_
   ·rw[HE];simp[mH,htx]
   ·simp[hp]
   ·simp[rawInt]at e
 ·simp only[Bool.not_true,Bool.false_and,gz,eW]
  refine ar (bd ?_);refine fin (fun ø=>rawInt (0:Nat)) _ s ho (fun b o e=>e) (aP _) rfl rfl rfl (fun h' hk=>.txt htx (fun ø=>rfl) rfl) fun tp e=>?_
  simp[rawInt]at e
end
end
section
theorem mK:Slot "set_iterator" "__iter__" "set_iterator.__iter__":=
 .of (owner:="set_iterator") (n:="__iter__") (by rw[pV,pW];kernel_rfl) (by decide+kernel) (by decide+kernel) (by decide+kernel)
  (by first|exact .inl (by decide+kernel)|exact .inr (by decide+kernel)) (by rw[yS];kernel_rfl)
theorem ta:entryFor table "set_iterator.__iter__"=some Builtin.«dict_keyiterator.__iter__» :=entryFor_alias (id':="dict_keyiterator.__iter__") (by kernel_rfl) rfl (by decide+kernel) (by kernel_rfl)
theorem ut(a:Value):argsOk "set_iterator.__iter__" ⟨[a],[]⟩:=by
 unfold argsOk;rw[PySem.signature?_of (id:="set_iterator.__iter__") (n:=['_','_','r','e','t','i','_','_']) (o:=['r','o','t','a','r','e','t','i','_','t','e','s']) (by kernel_rfl) tU];kernel_rfl
section
variable{prog:Program}{w:World}{A:Around}{E:Value->Shared->Prop}{s:Shared}
theorem rp{α β:Type}:∀(l:List α) (f:α->Option β),(∀p∈l,(f p).isSome=true)->∀i:Nat,(l.filterMap f)[i]?=(l[i]?).bind f
 |[],f,h,i=>by simp
 |x::xs,f,h,i=>by
  obtain⟨y,hy⟩:=Option.isSome_iff_exists.mp (h x (by simp));rw[nf,hy]
  cases i with
  |zero=>simp[hy]
  |succ i=>simpa using rp xs f (fun p hp=>h p (by simp[hp])) i
noncomputable def Sk{α:Type}(d:α)(fI:Int->Tok->α)(fS:Str->Tok->α)(fR:Addr->α)(v:Value):α:= @Value.casesOn (fun ø=>α) v d d d (fun ø=>d) (fun k t=>fI k t) (fun ø ø=>d) (fun x t=>fS x t) (fun ø ø=>d) (fun ø=>d) (fun ø=>d) (fun a=>fR a)
noncomputable def vInt:Value->Option (Int×Tok):=Sk none (fun k t=>some (k,t)) (fun ø ø=>none) (fun ø=>none)
noncomputable def vStr:Value->Option (Str×Tok):=Sk none (fun ø ø=>none) (fun x t=>some (x,t)) (fun ø=>none)
noncomputable def VN:Value->Option Addr:=Sk none (fun ø ø=>none) (fun ø ø=>none) some
theorem wE{v:Value}{p}(h:vInt v=some p):v= .int p.1 p.2:=by
 cases v<;>cases h;rfl
theorem Ld{v:Value}{p}(h:vStr v=some p):v= .str p.1 p.2:=by
 cases v<;>cases h;rfl
theorem Cf{v:Value}{a}(h:VN v=some a):v= .ref a:=by
 cases v<;>cases h;rfl
noncomputable def Oe(first:Nat->Value):List Addr:=(VN (first 0)).toList
structure PX(w:World)(I S:Addr)(o:Obj)(es:Array (Int×Value))(ep:Nat)(t:SetTable)(first:Nat->Value)(vals:List Value)(i:Nat)(s:Shared):Prop where
 it:s.heap.get? I=some (n5 (first i) i S es.size ep)
 st:s.heap.get? S=some o
 od:kq w S es ep t first vals s.heap
theorem ym{I S o es ep t first vals i}{s:Shared}(x:PX w I S o es ep t first vals i s):vals.length=es.size:=by
 have:=(Ce x.od).length_eq;simpa using this
theorem kq.keep{S:Addr}{es:Array (Int×Value)}{ep:Nat}{t:SetTable}{first:Nat->Value}{vals:List Value}{h h':Heap}(x:kq w S es ep t first vals h)(k:∀b∈Oe first,∀o,h.get? b=some o->h'.get? b=some o):kq w S es ep t first vals h':=by
 rcases x with⟨a,b,c⟩|⟨a,tp,places,b,c,d,e⟩|⟨a,b,c,d,e,f⟩
 ·exact .txt a b c
 ·obtain⟨n,c⟩:=c
  exact .drw a tp places b ⟨n,k tp (by unfold Oe;rw[b 0];exact List.mem_singleton_self _) _ c⟩ d e
 ·exact .one a b c d e f
theorem HG(p:Nat):1<=SetTable.below.go #[p] (p+1) 1 0 1:=by
 show 1<=(if p<p+1 then SetTable.below.go #[p] (p+1) 0 1 1 else SetTable.below.go #[p] (p+1) 0 0 0);rw[aw (mV p)];exact cF 1
theorem Cg{S:Addr}{o:Obj}{es:Array (Int×Value)}{ep:Nat}{t:SetTable}{ks:List Str}(hS:s.heap.get? S=some o)(hD:HD (strKind prog w) o es ep t ks (mH w))(a1:w.params.followText "set-order"=true){i:Nat}{Q:Option (Value×Nat)->Shared->Prop}
  (h:Q (((pickOrder (w.params.setOrder S ep) es)[i]?).map fun e=>(e.2,0)) s):wpAny (model prog w) A (setNext S ((0:Nat):Int).toNat (i:Int).toNat (ep:Int).toNat) Q E s:=by
 have eF:∀{A':Around} {E':Value->Shared->Prop} {s':Shared} {Q':(Array (Int×Value)×Nat×SetTable)->Shared->Prop},s'.heap.get? S=some o->Q' (es,ep,t) s'->wpAny (model prog w) A' (setState S) Q' E' s':=fun e q=>pX e hD.h2 hD.h7 q
 unfold setNext;refine ar (eF hS ?_);dsimp only;refine ar (fV ?_);rw[a1];simp only[eI,qN,bne_self_eq_false,gz,eW];unfold setWalk;refine ar (ar (eF hS ?_));dsimp only;refine ar (fV ?_);rw[a1];rw[aw rfl];refine ar (wpAny_askSetting (bd ?_));exact bd h
theorem rr{S:Addr}{o:Obj}{es:Array (Int×Value)}{ep:Nat}{t:SetTable}{ks:List Str}(hS:s.heap.get? S=some o)(hD:HD (strKind prog w) o es ep t ks (mH w))(a1:w.params.followText "set-order"=false)(hsz:es.size<=1)(a3:t.led=true){k i:Nat}{Q:Option (Value×Nat)->Shared->Prop}
  (h:Q (match es[SetTable.below t.place k]?,t.place[SetTable.below t.place k]? with
   |some (_,x),some j=>some (x,j+1)
   |_,_=>none) s):wpAny (model prog w) A (setNext S (k:Int).toNat (i:Int).toNat (ep:Int).toNat) Q E s:=by
 unfold setNext;refine ar (pX hS hD.h2 hD.h7 ?_);dsimp only;refine ar (fV ?_);rw[a1];rw[az mX];show wpAny _ _ (if(!t.plain&&decide (es.size>1))=true then _ else _) _ _ _;rw[az (by simp;omega)];show wpAny _ _ ((if(!t.led&&!es.isEmpty)=true then _ else _)>>= _) _ _ _;rw[a3];refine ar (bd ?_);rw[qN];exact bd h
theorem one_place{es:Array (Int×Value)}{t:SetTable}(hf:t.fits es.size=true)(h:es.size=1):∃p,t.place= #[p]:=by
 have Bh:t.place.size=1:=by
  simp only[SetTable.fits,dI,jT]at hf;omega
 have:t.place.toList.length=1:=by simpa using Bh
 obtain⟨p,e⟩:=List.length_eq_one_iff.mp this;exact⟨p,by rw[<-Array.toArray_toList (xs:=t.place),e]⟩
set_option tactic.hygienic true in
theorem Le(hh:A.handled=none){I S:Addr}{o:Obj}{es:Array (Int×Value)}{ep:Nat}{t:SetTable}{ks:List Str}(hD:HD (strKind prog w) o es ep t ks (mH w))(first:Nat->Value)(vals:List Value)(Ra:I≠S)(hIt:∀tp,first 0= .ref tp->I≠tp):
  WalksS prog w A I (I::S::Oe first) [I] (fun a b=>b=a) es.size (fun i v=>vals[i]?=some v) (PX w I S o es ep t first vals)where
 sub:=fun b hb=>by simp at hb;simp[hb]
 grefl:=fun ø=>rfl
 gtrans:=fun ø ø ø h1 h2=>h2.trans h1
 frame:=fun i s h' tk st ø hk=>⟨hk _ (by simp) _ st.it,hk _ (by simp) _ st.st,st.od.keep fun b hb o e=>hk b (by simp[hb]) o e⟩
 self:=fun i s Q E st hQ=>by
  have hT:s.TypeIs (.ref I) "set_iterator":=⟨_,st.it,rfl⟩;refine wpAny_pyIter_slot hT mK (ph mK hT ta ?_ (ut _));show wpAny _ _ (ret (.ref I)) _ _ s;exact bd ⟨_,rfl,"set_iterator",_,hT,dH.lookup,hQ⟩
 item:=fun i s Q E hi st hQ=>by
  have hT:s.TypeIs (.ref I) "set_iterator":=⟨_,st.it,rfl⟩;have hl:vals.length=es.size:=ym st;obtain⟨v,hv⟩:∃v,vals[i]?=some v:=⟨vals[i]'(by rw[hl];exact hi),by simp[hl,hi]⟩;unfold pyNext;refine ar (yW (pR hT dH (ph dH hT ll ?_ (mI _))));refine DR fun Q₁ AR yk Cd=>?_
  have key:∀(h':Heap) (tk:Nat),h'.get? I=some (n5 (first (i+1)) (i+1) S es.size ep)->(∀b o,b≠I->s.heap.get? b=some o->h'.get? b=some o)->s.toks<=tk->Q₁ (Fin.done (Flow.ret v)) {s with heap:=h',toks:=tk}:=fun h' tk h1 h2 h3=>
   yk _ _ ⟨_,rfl,bd (hQ v _ hv ⟨h1,h2 _ _ (dW Ra) st.st,st.od.keep fun b hb o e=>h2 b o (fun z=>by
    exact hIt _ (Cf (Option.mem_toList.mp hb)) z.symm) e⟩ ⟨fun b o hb e=>h2 b o (by simpa using hb) e,rfl,rfl,rfl,h3⟩)⟩
  clear yk hQ Cd;show wpAny _ _ (fieldsOf (.ref I)>>= _) _ _ s;refine ar (wpAny_fieldsOf st.it rfl ?_);show wpAny _ _ (setEntries S>>= _) _ _ s;unfold setEntries;refine ar (ar (pX st.st hD.h2 hD.h7 (bd ?_)));dsimp only;rw[az (by simp[rawInt])];have stores:∀(nx:Nat),first (i+1)=rawInt nx->
    wpAny (model prog w) A.in1 (do setField (.ref I) 0 (rawInt nx);setField (.ref I) 1 (rawInt ((i:Int)+1));ret v) Q₁ AR s:=by
   intro nx hf1;refine ar (rX st.it (by simp) fun h1 q1 Lg=>?_);refine ar (rX q1 (by simp) fun h2 q2 VO=>?_);replace Lg:Heap.SameBut I s.heap h1:=Lg;replace VO:Heap.SameBut I h1 h2:=VO;refine bd (key h2 s.toks ?_ (fun b o hb e=>(VO.2 b hb).trans ((Lg.2 b hb).trans e)) (cF _));rw[q2,hf1];simp[n5,rawInt]
  rcases st.od with⟨a1,a2,a3⟩|⟨a1,tp,places,a2,a3,a4,a5⟩|⟨a1,a2,a3,a4,a5,a6⟩
  ·rw[a2 i]
   dsimp only[rawInt];rw[a3,bL,pb]at hv;obtain⟨e,he,rfl⟩:=hv;rw[DH]at he;refine ar (Cg st.st hD a1 ?_);rw[he];exact stores 0 (a2 _)
  ·rw[a2 i]
   dsimp only;obtain⟨n,a3⟩:=a3;refine ar (wpAny_seqItems a3 rfl ?_);have sk:∃p,places[i]?=some p/\∃e,es[p]?=some e/\e.2=v:=by
    rw[a5,rp places _ (fun p hp=>by
     have:p<es.size:=by simpa using a4.mem_iff.mp hp
     simp[this])]at hv
    refine ah hv fun p hp hv=>?_
    refine bV hv ?_;rintro e he rfl;exact⟨p,hp,e,he,rfl⟩
   obtain⟨p,hp,e,he,rfl⟩:=sk;have e1:(places.map fun(p:Nat)=>rawInt p).toArray[(i:Int).toNat]?=some (.int (p:Nat) 0):=by simp[hp,rawInt]
   dsimp only;rw[e1];dsimp only;unfold setNextDrawn;refine ar (ar (pX st.st hD.h2 hD.h7 ?_));dsimp only;rw[az (by simp),qN,he];refine bd ?_;refine ar (rX st.it (by simp) fun h1 q1 Lg=>?_);replace Lg:Heap.SameBut I s.heap h1:=Lg;refine bd (key h1 s.toks ?_ (fun b o hb e=>(Lg.2 b hb).trans e) (cF _));rw[q1,a2 (i+1),a2 i];simp[n5,rawInt]
  ·have VP:i=0:=by omega
   subst VP;obtain⟨p,hp⟩:=one_place hD.h7 (show es.size=1 by omega);rw[a4];dsimp only[rawInt];have ab0:SetTable.below t.place 0=0:=by
    rw[hp];show SetTable.below.go #[p] 0 1 0 1=0;rfl
   have ev:∃e,es[0]?=some e/\e.2=v:=by
    rw[a6,bL,pb]at hv;obtain⟨e,he,rfl⟩:=hv;rw[DH]at he;exact⟨e,he,rfl⟩
   obtain⟨e,he,rfl⟩:=ev;refine ar (rr st.st hD a1 a2 a3 ?_);rw[ab0,he];rw[show t.place[0]?=some p by rw[hp];rfl];exact stores (p+1) (a5 p (by rw[hp];rfl))
 done:=fun s Q E st hQ=>by
  have hT:s.TypeIs (.ref I) "set_iterator":=⟨_,st.it,rfl⟩;have zg:=ym st;unfold pyNext;refine ar (yW (pR hT dH (ph dH hT ll ?_ (mI _))));refine DR fun Q₁ AR yk Cd=>?_
  have raised:∀(h':Heap),(∀b o,b≠I->s.heap.get? b=some o->h'.get? b=some o)->wpAny (model prog w) A.in1 (do raiseNew (<-newExc (.type "StopIteration") []):Sem PySem.Fin) Q₁ AR {s with heap:=h'}:=by
   intro h' hk;refine wq (A:=A.in1) (s:={s with heap:=h'}) hh fun h2 e Em he=>Cd _ _ ?_
   obtain⟨o',MU,Ja⟩:=he;refine ar (u3 (T:="StopIteration") (b:=true) ⟨o',MU,Ja⟩ isSubtype_stop ?_);exact bd (hQ _ ⟨fun b o hb e=>Em b o (hk b o (by simpa using hb) e),rfl,rfl,rfl,cF _⟩)
  clear yk hQ Cd;show wpAny _ _ (fieldsOf (.ref I)>>= _) _ _ s;refine ar (wpAny_fieldsOf st.it rfl ?_);show wpAny _ _ (setEntries S>>= _) _ _ s;unfold setEntries;refine ar (ar (pX st.st hD.h2 hD.h7 (bd ?_)));dsimp only;rw[az (by simp[rawInt])];have ends:wpAny (model prog w) A.in1 (do setField (.ref I) 2 .none;raiseNew (<-newExc (.type "StopIteration") []):Sem PySem.Fin) Q₁ AR s:=
   ar (rX st.it (by simp) fun h1 q1 Lg=>raised h1 fun b o hb e=>(Lg.2 b hb).trans e)
  rcases st.od with⟨a1,a2,a3⟩|⟨a1,tp,places,a2,a3,a4,a5⟩|⟨a1,a2,a3,a4,a5,a6⟩
  ·rw[a2 es.size]
   dsimp only[rawInt];have he:(pickOrder (w.params.setOrder S ep) es)[es.size]?=none:=by
    have h1:(pickOrder (w.params.setOrder S ep) es).size=es.size:=by
     have:=(yl (w.params.setOrder S ep) es).length_eq;simpa using this
    exact yY (by rw[h1];exact cF _)
   refine ar (Cg st.st hD a1 ?_);rw[he];exact ends
  ·rw[a2 es.size]
   dsimp only;obtain⟨n,a3⟩:=a3;refine ar (wpAny_seqItems a3 rfl ?_);have sk:places.length=es.size:=by have:=a4.length_eq;simpa using this
   have e1:(places.map fun(p:Nat)=>rawInt p).toArray[((es.size:Nat):Int).toNat]?=none:=by simp[sk]
   dsimp only;rw[e1];dsimp only;refine ar (rX st.it (by simp) fun h1 q1 Lg=>?_);refine ar (rX q1 (by simp) fun h2 q2 VO=>?_);exact raised h2 fun b o hb e=>(VO.2 b hb).trans ((Lg.2 b hb).trans e)
  ·have Sl:∃k:Nat,first es.size=rawInt k/\es[SetTable.below t.place k]?=none:=by
    by_cases h0:es.size=0
    ·exact⟨0,by rw[h0];exact a4,yY (by omega)⟩
    ·have hsz:es.size=1:=by omega
     obtain⟨p,hp⟩:=one_place hD.h7 hsz;refine⟨p+1,by rw[hsz];exact a5 p (by rw[hp];rfl),yY ?_⟩;rw[hp,hsz];show 1<=SetTable.below.go #[p] (p+1) 1 0 1;exact HG p
   obtain⟨k,TQ,Em⟩:=Sl;rw[TQ];dsimp only[rawInt];refine ar (rr st.st hD a1 a2 a3 ?_);rw[Em];exact ends
end
end
section
section
variable{prog:Program}{w:World}{A:Around}{E:Value->Shared->Prop}{s:Shared}
set_option tactic.hygienic true in
theorem Ch{d:Addr}{o:Obj}{es:Array (Int×Value)}{ep:Nat}{t:SetTable}{ks:List Str}{Q:List Value->Shared->Prop}(hh:A.handled=none)(ho:s.heap.get? d=some o)(hD:HD (PySem.strKind prog w) o es ep t ks (mH w))
  (hQ:∀s' (acc:Array Value),Kp s s'->acc.toList.Perm (es.toList.map (·.2))->Q acc.toList s'):wpAny (model prog w) A (collect (.ref d)) Q E s:=by
 have hT:s.TypeIs (.ref d) "set":=⟨o,ho,hD.1.1⟩;have Q9:s.heap.objs.size≠d:=fun e=>by rw[<-e,aP]at ho;cases ho
 have hn:es.size<=sizeLine:=vb hD.h6;unfold collect;refine ar (wpAny_runValue (nk F.entry_proto_collect ?_));rw[pS F.plain_proto_collect _];show wpAny _ A.in1 (newList []>>= fun l=>again (.builtin "list.__iadd__" ⟨[l,.ref d],[]⟩)) _ _ s;refine ar (pM ?_);refine bd ⟨rR yR _,nk F.entry_list_iadd ?_⟩;rw[pS yR _]
 let s₁:Shared:={s with heap:=s.heap.push {cls:=.type "list",data:=.seq ([]:List Value).toArray} }
 have Li:s₁.heap.get? d=some o:=bK _ ho;have FL:s₁.TypeIs (.ref d) "set":=⟨o,Li,hD.1.1⟩;have Bt:s₁.heap.get? s.heap.objs.size=some {cls:=.type "list",data:=.seq ([]:List Value).toArray}:=bD _ rfl;have h1:Builtin.List.listSameRef (.ref s.heap.objs.size) (.ref d)=false:=by simp[Builtin.List.listSameRef,Q9]
 show wpAny _ A.in1 (Builtin.List.listExtendWith (.ref s.heap.objs.size) (.ref d) (.ref s.heap.objs.size)) _ _ s₁;unfold Builtin.List.listExtendWith;refine ar (wpAny_typeOf FL ?_);have h2:(Value.type "set"==Value.type "list")=false:=by decide
 have h3:(Value.type "set"==Value.type "tuple")=false:=by decide
 rw[az (by rw[h1,h2,h3];decide)];refine ar (EA Li hD fun I first vals aH dr hI hIn ye JG Y3 hIt=>?_)
 let s₂:Shared:={s₁ with heap:=aH,drawn:=dr}
 have PY:s₂.heap.get? d=some o:=ye _ _ Li;have vC:s₂.TypeIs (.ref d) "set":=⟨o,PY,hD.1.1⟩;have x4:s₂.heap.get? s.heap.objs.size=some {cls:=.type "list",data:=.seq ([]:List Value).toArray}:=ye _ _ Bt;show wpAny _ A.in1 _ _ _ s₂;refine ar (gB ?_);unfold Builtin.List.listLengthHint;refine ar (yO vC PySem.F.slot_set_len.lookup ?_)
 (generalize hid:("set.__len__":String)=Uv;(fail_if_success (clear hid Uv));wp_delta;rw[show splitId Uv=some ("set","__len__")from by subst hid;decide+kernel];subst hid)
 refine ar (u3 (b:=true) vC (by rw[yS];kernel_rfl) ?_);refine ar (wpAny_typeOf vC ?_);refine bd ?_;show wpAny _ A.in1 (rule "list.extend.makes-room">>= fun ø=>Builtin.List.listTouch (.ref s.heap.objs.size)>>= fun ø=>
  again (.builtin "list.extend.loop" ⟨[.ref s.heap.objs.size,.ref I,.ref s.heap.objs.size],[]⟩)) _ _ s₂
 refine ar (rS ?_);refine ar ?_;show wpAny _ A.in1 (updateSeq s.heap.objs.size (·.push .none)>>= fun ø=>updateSeq s.heap.objs.size (·.pop)) _ _ s₂;refine ar (yT x4 rfl ?_);have Bv:=m8 (Obj.mapSeq (·.push Value.none)) x4 rfl;refine yT Bv rfl ?_;have JB:=m8 (Obj.mapSeq (·.pop)) Bv rfl;have PC:∀b o,b≠s.heap.objs.size->s₂.heap.get? b=some o->((s₂.heap.update s.heap.objs.size (Obj.mapSeq (·.push Value.none))).update s.heap.objs.size (Obj.mapSeq (·.pop))).get? b=some o:=
  fun b o hb e=>(yU _ _ (dW hb)).trans ((yU _ _ (dW hb)).trans e)
 have Ra:I≠s.heap.objs.size:=fun e=>by
  rw[e,Bt]at hIn;cases hIn
 have VR:s.heap.objs.size∉Oe first:=fun hm=>by
  have e:=Cf (Option.mem_toList.mp hm);rcases JG with⟨_,x,_⟩|⟨_,tp',pl,x,⟨n,y⟩,_⟩|⟨_,_,_,x,_⟩
  ·rw[x 0]at e;cases e
  ·rw[x 0]at e
   cases e;rw[x4]at y;simp at y
  ·rw[x]at e;cases e
 have W:=Le (prog:=prog) (w:=w) (A:=A.in1) hh hD first vals Y3 hIt
 have zg:vals.Perm (es.toList.map (·.2)):=Ce JG;refine bd ⟨rR F.plain_extend_loop _,codeAny_extend_loopS W hn _ (by simp[dW Ra,Q9,VR]) _ es.size 0 _ _ _ rfl (dU _)
  ⟨PC _ _ Ra hI,PC _ _ (dW Q9) PY,JG.keep fun b hb o e=>PC b o (fun z=>VR (z▸hb)) e⟩ JB (ItemsOf.nil _) fun s' xz c' ND NE JC=>?_⟩
 show wpAny _ A (load s.heap.objs.size>>= _) _ _ s';refine ar (wpAny_load NE ?_);refine bd (hQ s' xz ⟨fun b o e=>?_,by rw[ND.gens];exact .refl _,ND.os⟩ ?_)
 ·have PD:b≠s.heap.objs.size:=fun q=>by rw[q,aP]at e;cases e
  have JD:b≠I:=fun q=>by
   have z:s₁.heap.get? b=some o:=bK _ e;rw[q,hIn]at z;cases z
  exact ND.heap b o (by simp[PD,JD]) (PC b o PD (ye _ _ (bK _ e)))
 ·have e:xz.toList=vals:=by
   refine vd fun i=>?_
   by_cases hi:i<es.size
   ·have Nc:i<xz.size:=by rw[JC.1];exact hi
    have e1:xz[i]?=some xz[i]:=by simp[Nc]
    rw[DH,e1,JC.2 i _ e1]
   ·rw[iI (by simp[JC.1];omega),iI (by rw[zg.length_eq];simp;omega)]
  rw[e];exact zg
end
noncomputable def pu(l:List (List Nat)):List (List Nat):=l.mergeSort fun a b=>decide (a<=b)
theorem Lj{l ns:List (List Nat)}(hp:ns.Perm l)(ho:ns.Pairwise fun a b=>a<=b):ns=pu l:=by
 have h2:(pu l).Pairwise (fun a b=>a<=b):=by
  have:=List.pairwise_mergeSort (le:=fun a b:List Nat=>decide (a<=b)) (fun a b c x y=>by simp only[iH]at x y ⊢;exact List.le_trans x y) (fun a b=>by simp only[m5,iH];exact List.le_total a b) l;exact this.imp fun h=>by simpa using h
 exact List.Perm.eq_of_pairwise (le:=fun a b:List Nat=>a<=b) (fun a b ø ø x y=>List.le_antisymm x y) ho h2 (hp.trans (u4 l _).symm)
noncomputable def EB(l:List (List Nat)):List (List Nat):=l.foldl (fun ks k=>if k∈ks then ks else ks++[k]) []
theorem Lk(xs:List (List Nat)):dd xs=(EB xs).map pyStr:=by
 have go:∀(l:List (List Nat)) (acc:List (List Nat)),(l.map pyStr).foldl lZ (acc.map pyStr)=(l.foldl (fun ks k=>if k∈ks then ks else ks++[k]) acc).map pyStr:=by
  intro l
  induction l with
  |nil=>intro acc;rfl
  |cons x l ih=>
   intro acc;simp only[bn,eJ];rw[<-ih]
   congr 1
   unfold lZ;have:pyStr x∈acc.map pyStr<->x∈acc:=by
    constructor
    ·intro h
     obtain⟨y,hy,e⟩:=bP.mp h;have:y=x:=by
      have:=congrArg (fun s:Str=>s.cps.toList) e;simpa[pyStr]using this
     exact this▸hy
    ·exact fun h=>nA h
   by_cases h:x∈acc
   ·rw[aw (this.mpr h),aw h]
   ·rw[az (fun q=>h (this.mp q)),az h];simp
 exact go xs []
end
section
theorem tV{α:Type}[DecidableEq α]:∀(l l':List α),l.Nodup->(∀x∈l,x∈l')->l'.length<=l.length->l'.Perm l
 |[],l',_,_,h=>by
  have:l'=[]:=vc (by simpa using h);rw[this]
 |x::r,l',hn,hs,h=>by
  have hx:x∈l':=hs x (by simp);have h1:=List.perm_cons_erase hx;have W8:=gC.mp hn;refine h1.trans (List.Perm.cons x (tV r (l'.erase x) W8.2 (fun y hy=>?_) ?_))
  ·have bN:y≠x:=fun e=>W8.1 (e▸hy)
   exact(List.mem_erase_of_ne bN).mpr (hs y (by simp[hy]))
  ·rw[List.length_erase_of_mem hx];exact Nat.sub_le_of_le_add h
set_option tactic.hygienic true in
theorem VS(l:List Str):∀acc:List Str,acc.Nodup->(l.foldl lZ acc).Nodup:=by
 induction l with
 |nil=>exact fun acc h=>h
 |cons x l ih=>
  intro acc h;refine ih _ ?_;unfold lZ;split
  ·exact h
  ·rename_i hx
   rw[kL];exact⟨h,by simp,fun a ha b hb e=>hx (by simp at hb;rw[<-hb,<-e];exact ha)⟩
theorem Ll(xs:List (List Nat)):(dd xs).Nodup:=VS _ [] qK
section
variable{prog:Program}{w:World}{A:Around}{E:Value->Shared->Prop}{s:Shared}
set_option tactic.hygienic true in
theorem ru{k:Str}{v:Value}(h:(PySem.strKind prog w).is k v=true):∃t,v= .str k t:=by
 cases v<;>simp[PySem.strKind,Value.isStrOf]at h;rename_i x t;exact⟨t,by rw[h]⟩
theorem EC{d:Addr}{xs:List (List Nat)}{Q:Value->Shared->Prop}(hh:A.handled=none)(hS:qf (PySem.strKind prog w) s.heap d (dd xs) (mH w))(Y4:(EB xs).length<64)
  (h:∀s' a (out:Array Value) e,Kp s s'->s.heap.get? a=none->s'.heap.get? a=some (seqObj "list" out e)->StrsAre out.toList ((pu (EB xs)).map pyStr)->Q (.ref a) s'):
  wpAny (model prog w) A (call (.builtin "sorted") [.ref d]) Q E s:=by
 obtain⟨o,es,ep,t,ho,hD⟩:=hS;have hD':=hD;obtain⟨hex,hd,Sg,hn,lj,hb,hf,HE,cL⟩:=hD';have hlen:es.size=(EB xs).length:=by rw[hn,Lk];simp
 refine Calls.call_function_entry kind_sorted plain_sorted entry_sorted (args_sorted1 _) ?_;unfold Builtin.«sorted»;refine ar (m:=checkCount "sorted" 1 1 _) (bd ?_);refine ar (Ch hh ho hD fun s' acc kp jy=>?_);have hsz:acc.toList.length=es.size:=by rw[jy.length_eq];simp
 have Aa:∀v∈acc.toList,∃x t,v= .str x t:=fun v hv=>by
  have:=jy.mem_iff.mp hv;obtain⟨e,he,rfl⟩:=bP.mp this;obtain⟨⟨k,hk,_⟩,_⟩:=Sg e he;obtain⟨t,e⟩:=ru hk;exact⟨k,t,e⟩
 have XQ:StrsAre acc.toList (acc.toList.map strOf):=strsAre_map _ Aa;refine ar (wpAny_newList ?_ (hsz:=by rw[hsz];exact vb hb));have Rb:(s'.heap.push (seqObj "list" acc.toList.toArray 0)).get? s'.heap.objs.size=some (seqObj "list" acc.toList.toArray 0):=bD _ rfl;have eG:s.heap.get? s'.heap.objs.size=none:=by
  cases e:s.heap.get? s'.heap.objs.size with
  |none=>rfl
  |some o=>have:=kp.keep _ _ e;rw[aP]at this;cases this
 show wpAny _ _ _ _ _ {s' with heap:=s'.heap.push (seqObj "list" acc.toList.toArray 0)};refine ar (gB (ph slot_list_sort ⟨_,Rb,rfl⟩ entry_list_sort (list_sort_treeK strKind_oneLt Rb XQ.keysOf (fun YY YZ rest e=>keyKind_strs (ss:=acc.toList.map strOf) (by rw[<-e];exact XQ)) (by rw[hsz,hlen];exact Y4) fun Je hp hs=>⟨_,rfl,?_⟩) (args_list_sort _)));obtain⟨e,he⟩:=sortedHeap_at (vs:=acc.toList) (out:=(arrOf Je).map (·.2)) Rb;refine bd ⟨_,rfl,h _ _ _ e (kp.trans ⟨fun c o hc=>?_,.refl _,rfl⟩) eG he ?_⟩
 ·have de:=f5 hc
  show(sortedHeap (s'.heap.push (seqObj "list" acc.toList.toArray 0)) s'.heap.objs.size acc.toList _).get? c=some o;rw[sortedHeap_old (jU de) (by rw[size_push'];exact ni de)];exact bK _ hc
 ·
  generalize xu:arrOf Je=ys at hp hs;have hl:ys.toList.Perm (acc.toList.zip acc.toList):=by rw[<-pairsOf_toList];exact Array.perm_iff_toList_perm.mp hp
  have hm:∀p,p∈ys.toList->p.1=p.2/\p.1∈acc.toList:=fun p No=>mem_zip_self (hl.mem_iff.mp No)
  have e1:(ys.map (·.2)).toList=ys.toList.map (·.1):=by
   rw[Array.toList_map];exact pi fun p No=>(hm p No).1.symm
  rw[e1];have h1:=strsAre_map (ys.toList.map (·.1)) (by
   intro v hv;obtain⟨p,No,rfl⟩:=bP.mp hv;exact Aa _ (hm p No).2)
  have e3:(ys.toList.map (·.1)).map strOf=(pu (EB xs)).map pyStr:=by
   have hpw:((ys.toList.map (·.1)).map fun v=>(strOf v).cps.toList).Pairwise fun a b=>a<=b:=by
    rw[dK,DA];intro i j hi hj Ty;have Nc:i<ys.size:=by simpa using hi
    have Hh:j<ys.size:=by simpa using hj
    have h1:=hs i j (eY Ty) (by rw[<-hp.size_eq];exact Hh);obtain⟨x,t,ex⟩:=Aa _ (hm ys[i] (by simp)).2;obtain⟨y,u,ey⟩:=Aa _ (hm ys[j] (by simp)).2;rw[KK_str Nc (x:=x) (t:=t) (q:=ys[i].2) (Prod.ext ex rfl),KK_str Hh (x:=y) (t:=u) (q:=ys[j].2) (Prod.ext ey rfl)]at h1;change decide (y.cps.toList<x.cps.toList)=false at h1;simp only[List.getElem_map,Array.getElem_toList,Function.comp];rw[show strOf ys[i].1=x by rw[ex];rfl,show strOf ys[j].1=y by rw[ey];rfl];exact List.not_lt.mp (by simpa using h1)
   have hpm:((ys.toList.map (·.1)).map fun v=>(strOf v).cps.toList).Perm (EB xs):=by
    have a1:(ys.toList.map (·.1)).Perm acc.toList:=by
     have:=hl.map Prod.fst;rwa[List.map_fst_zip (cF _)]at this
    have a2:=(a1.trans jy).map fun v=>(strOf v).cps.toList
    refine a2.trans ?_;have PZ:(es.toList.map (·.2)).map strOf |>.Perm (dd xs):=by
     refine tV _ _ (Ll xs) (fun k hk=>?_) ?_
     ·obtain⟨e,he,hk⟩:=(lj k).mp hk
      obtain⟨t',e'⟩:=ru hk;exact bP.mpr ⟨e.2,nA he,by rw[e'];rfl⟩
     ·simp[hn]
    have a3:=PZ.map fun x:Str=>x.cps.toList
    have:((EB xs).map pyStr).map (fun x:Str=>x.cps.toList)=EB xs:=by
     rw[dK]
     conv=>rhs;rw[<-List.map_id (EB xs)]
     exact pi fun x ø=>rfl
    rw[Lk,this]at a3;have e4:((es.toList.map (·.2)).map fun v=>(strOf v).cps.toList)=((es.toList.map (·.2)).map strOf).map fun x:Str=>x.cps.toList:=by simp[dK,Function.comp]
    rw[e4];exact a3
   have:=Lj hpm hpw;rw[<-this];simp only[dK];exact pi fun v ø=>by simp[pyStr,Function.comp]
  rw[e3]at h1;exact h1
end
variable{P:Pk}{n:Nat}{K K':Cx}{lo:Bool}
noncomputable def wF(x:V):Option V:=x.gE.bind fun l=>(j0 l).bind fun ts=>if l.length<64 then some (.list ((pu (EB ts)).map .str))else none
theorem ED(l:List V):wF (.list l)=(j0 l).bind fun ts=>if l.length<64 then some (.list ((pu (EB ts)).map .str))else none:=rfl
set_option tactic.hygienic true in
theorem Gg(ts:List (List Nat)):(EB ts).length<=ts.length:=by
 have go:∀(l acc:List (List Nat)),(l.foldl (fun ks k=>if k∈ks then ks else ks++[k]) acc).length<=acc.length+l.length:=by
  intro l
  induction l with
  |nil=>intro acc;simp
  |cons x l ih=>
   intro acc;simp only[eJ,bA];have:=ih (if x∈acc then acc else acc++[x]);split at this
   ·rename_i h;rw[aw h];omega
   ·rename_i h;rw[az h];simp at this ⊢;omega
 have:=go ts [];simp only[eZ,gq]at this;exact this
theorem yn:∀{l:List V} {ts:List (List Nat)},j0 l=some ts->l.length=ts.length
 |[],ts,e=>by cases e;rfl
 |y::l,ts,e=>by
  obtain⟨t,ts',rfl,h',rfl⟩:=sw e;simp[yn h']
theorem Ci{h:Heap}{hid:List Addr}:∀{vs:List Value} {ss:List (List Nat)},StrsAre vs (ss.map pyStr)->aU P h hid (ss.map .str) vs:=by
 intro vs ss hS;generalize e:ss.map pyStr=q at hS
 induction hS generalizing ss with
 |nil=>
  cases ss with
  |nil=>exact aV.nil
  |cons _ _=>simp at e
 |cons x t hr ih=>
  cases ss with
  |nil=>simp at e
  |cons y r=>
   simp only[bn,List.cons.injEq]at e;obtain⟨rfl,e⟩:=e;exact .cons (Dn.ofStr (P:=P) y t) (ih e)
set_option tactic.hygienic true in
theorem uu{id P0:Str}{p p2 pos vA:Pos}{e:Expr}{f}(hx:K.aM.contains id=true)(hv:P.glob id=some (.builtin "sorted"))(hd:(id==("__debug__":Str))=false)
  (Vt:K.aM.contains P0=true) (YM:P.glob P0=some (.type "set")) (hd2:(P0==("__debug__":Str))=false) (h:eM P n K true e f) (eF:∀env,starEach [e] env=(false,eval e env)::starEach [] env)
  (Ju:∀env,starEach [.Call (.Name P0 p2) [e] [] vA] env=(false,eval (.Call (.Name P0 p2) [e] [] vA) env)::starEach [] env):
  MW P n K (.Call (.Name id p) [.Call (.Name P0 p2) [e] [] vA] [] pos) (fun ρ=>(f ρ).bind wF):=fun A env out hid m B s ρ x E rm S hf=>by
 refine ah hf fun y hy gg=>?_
 clear hf;rename _=>hf
 refine ah hf fun l hl hf=>ah hf fun ts NB hf=>eN hf fun hlen e=>?_
 cases V.fQ hl;subst e;have de:=yn NB;refine kH (bH S hx hv hd ?_);have hb:backTo pos (starEach [.Call (.Name P0 p2) [e] [] vA] env)=[(false,eval (.Call (.Name P0 p2) [e] [] vA) env)]:=by rw[Ju];rfl
 rw[hb];refine rJ (by rfl) (uU ?_);rw[<-hb];refine jS ?_ (Ju env);refine kH (bH S Vt YM hd2 ?_);refine Dz (jS (au (h A env out hid m B s ρ _ E rm S hy) (fun v s₁ q=>jR ?_) fun ø ø q=>q) (eF env)) (eF env) rfl;obtain⟨a,vs,rfl,ha,sk,hds⟩:=q.2.em;obtain⟨w',hvs,hw'⟩:=sx NB hds;have hsz:vs.length=ts.length:=by rw[hds.length,de]
 refine wC rm.handled sk.isList (xs:=ts) (fun i v hv=>?_) (by simp[hsz]) (by have:scanBound=4096:=rfl;omega) fun h' tk hQ hk=>?_
 ·have hv:vs[i]?=some v:=by simpa using hv
  obtain⟨z,hz,hzv⟩:=aV.get' hds hv;have hzs:∃t,ts[i]?=some t/\z= .str t:=by
   have go:∀(l:List V) (ts:List (List Nat)) (i:Nat) (z:V),j0 l=some ts->l[i]?=some z->∃t,ts[i]?=some t/\z= .str t:=by
    intro l
    induction l with
    |nil=>intro ts i z e h;simp at h
    |cons y l ih=>
     intro ts i z e h;obtain⟨t,ts',rfl,h',rfl⟩:=sw e
     cases i with
     |zero=>simp at h;exact⟨_,rfl,h.symm⟩
     |succ i=>simpa using ih ts' i z h' (by simpa using h)
   exact go l ts i z NB hz
  obtain⟨t,ht,rfl⟩:=hzs;obtain⟨k,rfl⟩:=Dn.str_inv (P:=P) (hid:=out) hzv;exact⟨t,k,ht,rfl⟩
 refine jR ?_;have k1:Kp s₁ {s₁ with heap:=h',toks:=tk}:=.heap hk;refine EC rm.handled hQ (by have:=Gg ts;omega) fun s' a' out' e' kp hn ho XQ=>?_
 have kk:=q.1.trans (k1.trans kp);refine⟨kk,?_⟩;refine⟨a',out'.toList,rfl,?_,⟨e',by simpa[seqObj]using ho⟩,Ci XQ⟩
 cases e1:s.heap.get? a' with
 |none=>rfl
 |some o=>have:=(q.1.trans k1).keep _ _ e1;rw[hn]at this;cases this
end
section
variable{P:Pk}{n:Nat}{K:Cx}{lo:Bool}{C N:Addr}
structure EE(P:Pk)(n:Nat)(C:Addr)(F:List V->Option (List V)):Prop where
 ok:∀{K:Cx} {lo:Bool} {id:Str} {p pos:Pos} {e:Expr} {f},K.aM.contains id=true->P.glob id=some (.ref C)->(id==("__debug__":Str))=false->lz P n K lo [e] f->(∀env,starEach [e] env=(false,eval e env)::starEach [] env)->
  eM P n K lo (.Call (.Name id p) [e] [] pos) (fun ρ=>(f ρ).bind fun xs=>(F xs).map .obj)
theorem eM.mk{F:List V->Option (List V)}(m:EE P n C F){id:Str}{p pos:Pos}{e:Expr}{f}(hx:K.aM.contains id=true)(hv:P.glob id=some (.ref C))(N8:(id==("__debug__":Str))=false)(hs:lz P n K lo [e] f)(he:∀env,starEach [e] env=(false,eval e env)::starEach [] env):
 eM P n K lo (.Call (.Name id p) [e] [] pos) (fun ρ=>(f ρ).bind fun xs=>(F xs).map .obj):=m.ok hx hv N8 hs he
end
theorem ab1(P:Params):(HZ P).get? 50=some (km P):=rk P (by kernel_rfl) (by decide) (by kernel_rfl)
theorem P1(P:Params):(HZ P).get? 167=some (iw P):=rk P (by kernel_rfl) (by decide) (by kernel_rfl)
theorem P2(P:Params):(HZ P).get? 168=some wg:=rk P (by kernel_rfl) (by decide) (by kernel_rfl)
theorem VT(P:Params):(HZ P).get? 173=some (jt P):=rk P (by kernel_rfl) (by decide) (by kernel_rfl)
theorem at2(P:Params):(HZ P).get? 2=some (boot_o_2 P):=rk P (by kernel_rfl) (by decide) (by kernel_rfl)
noncomputable def Lm(o:Obj):Array (Int×Value):=RA #[] (fun ø=> #[]) (fun es=>es) (fun ø=> #[]) o.data
noncomputable def VU(es:List (Int×Value)):Bool:=es.all fun e=>(vInt e.2).elim false fun k=>e.1==hashInt k.1&&e.2.scannable
noncomputable def VV:List Int:=[65024,65025,65026,65027,65028,65029,6150,65030,65031,65032,65033,6155,6156,6157,8203,8204,8205,65034,65035,65036,65037,65038,65039,173,847,8288,65279]
noncomputable def P3(es:List (Int×Value)):List Int:=es.filterMap fun e=>(vInt e.2).map (·.1)
theorem Ln{α:Type}{o:Option α}{f:α->Bool}(h:o.elim false f=true):∃a,o=some a/\f a=true:=by
 cases o with
 |none=>cases h
 |some a=>exact⟨a,rfl,h⟩
set_option tactic.hygienic true in
theorem Sm{P:Pk}(hG:∀h,P.G h->YP P.w h):∀h,P.G h->∃n,h.SetOf (intKind P.prog P.w) 50 (fun k=>decide (k∈VV)) n:=fun h G=>by
 have hk:P3 (Lm (km P.w.params)).toList=VV:=by kernel_rfl
 have Ny:VU (Lm (km P.w.params)).toList=true:=by kernel_rfl
 refine⟨_,km P.w.params,Lm (km P.w.params),_,_,hG h G _ _ (ab1 _),⟨rfl,rfl,rfl⟩,rfl,fun e he=>?_,fun k=>?_,?_,?_,rfl⟩
 ·obtain⟨p,h1,h2⟩:=Ln (cD.mp Ny e he)
  obtain⟨h3,h4⟩:=(dI _ _).mp h2;exact⟨⟨p.1,by rw[wE h1];simp[intKind,Value.isInt],eq_of_beq h3⟩,h4⟩
 ·rw[iH,<-hk]
  unfold P3;rw[List.mem_filterMap];constructor
  ·rintro⟨e,he,hq⟩
   refine bV hq fun p hp hq=>⟨e,he,?_⟩
   rw[wE hp];simp[intKind,Value.isInt,hq]
  ·rintro⟨e,he,hq⟩
   obtain⟨t,ht⟩:=Value.isInt_shape hq;exact⟨e,he,by rw[ht];rfl⟩
 ·show 27<scanBound
  decide
 ·kernel_rfl
noncomputable def EF(P:Params)(l:List Nat):Option Int:=(findBy (fun(k:Str) v=>v.isStrOf k) (ents (jt P)) (pyStr l)).bind fun v=>(vInt v).map (·.1)
noncomputable def keysOk(P:Params):List DictEntry->Prop
 |[]=>True
 |e::es=>((vStr e.key).elim False fun x=>e.hash=PySem.PyData.keyHash P x.1)/\keysOk P es
set_option tactic.hygienic true in
theorem yo{prog:Program}{w:World}:∀{es:List DictEntry},keysOk w.params es->∀e∈es,∃k,(PySem.strKind prog w).is k e.key=true/\e.hash=(PySem.strKind prog w).hash k
 |[],_,e,he=>by cases he
 |x::es,h,e,he=>by
  obtain⟨h1,h2⟩:=h;rcases bp.mp he with rfl|he
  ·cases q:vStr e.key with
   |none=>rw[q]at h1;cases h1
   |some y=>
    rw[q]at h1;exact⟨y.1,by rw[Ld q];simp[PySem.strKind,Value.isStrOf],h1⟩
  ·exact yo h2 e he
theorem Lp(P:Params):keysOk P (ents (jt P)).toList:=⟨rfl,rfl,rfl,rfl,rfl,rfl,rfl,rfl,rfl,rfl,rfl,rfl,rfl,rfl,rfl,rfl,rfl,rfl,rfl,rfl,rfl,rfl,rfl,rfl,rfl,rfl,rfl,rfl,rfl,rfl,rfl,rfl,rfl,rfl,rfl,rfl,rfl,rfl,rfl,rfl,rfl,rfl,rfl,rfl,rfl,rfl,rfl,rfl,trivial⟩
set_option tactic.hygienic true in
theorem Of{P:Pk}(hG:∀h,P.G h->YP P.w h):∀h,P.G h->∃f:Str->Option Value,h.MapOf (PySem.strKind P.prog P.w) 173 f/\∀l k,EF P.w.params l=some k->∃t,f (pyStr l)=some (.int k t):=fun h G=>by
 refine⟨fun k=>findBy (fun(k:Str) v=>v.isStrOf k) (ents (jt P.w.params)) k,⟨jt P.w.params,ents (jt P.w.params),_,hG h G _ _ (VT _),⟨rfl,rfl,rfl⟩,rfl,fun e he=>yo (Lp _) e (by simpa using he),fun k=>rfl⟩,fun l k hk=>?_⟩;refine ah hk fun v hv hk=>bV hk fun p hp hk=>⟨p.2,?_⟩
 rw[<-hk,<-wE hp];exact hv
theorem Sn(P:Params):EF P [40]=some 7/\EF P [41]=some 8/\EF P [91]=some 9/\EF P [93]=some 10/\EF P [123]=some 25/\EF P [125]=some 26:=by
 refine⟨?_,?_,?_,?_,?_,?_⟩<;>kernel_rfl
noncomputable def Lq(P:Params)(x:Str):Option Value:=nsFind (ents (iw P)) x
noncomputable def strKeys(es:List DictEntry):Bool:=es.all fun e=>match e.key with
 | .str _ _=>true
 |_=>false
theorem Og(P:Params):strKeys (ents (iw P)).toList=true:=by kernel_rfl
set_option tactic.hygienic true in
theorem Oh(P:Params):StrKeys (ents (iw P)):=fun e he=>by
 have:=cD.mp (Og P) e (by simpa using he);split at this
 ·rename_i x t q
  exact⟨x,t,q⟩
 ·cases this
theorem n6{P:Pk}(hob:P.OB=Er 168)(hG:∀h,P.G h->YP P.w h):cP P 168 167 (Lq P.w.params)where
 ob:=hob
 cls:=fun h G=>⟨⟨_,_,_,_,_,_,_,_,_,_,_,_,hG h G _ _ (P2 _)⟩,⟨iw P.w.params,ents (iw P.w.params),_,hG h G _ _ (P1 _),rfl,Oh _,fun ø=>rfl⟩⟩
 ng:=by kernel_rfl
 nh:=by kernel_rfl
 nsa:=by kernel_rfl
 names:=fun nm h=>by
  simp only[bE,bp,qH,ny]at h;rcases h with rfl|rfl|rfl|rfl|rfl<;>kernel_rfl
theorem Lr(P:Params):Lq P (Str.ofString "__init__")=some (.ref 123)/\Lq P "longest_run_of_spaces"=some (.ref 130)/\Lq P "indent_level"=some (.ref 137)/\Lq P "equal"=some (.ref 144)/\Lq P "not_equal_witness"=some (.ref 151):=by
 refine⟨?_,?_,?_,?_,?_⟩<;>kernel_rfl
noncomputable def So(P:Params):Frag:=[(2,boot_o_2 P),(167,iw P),(168,wg)]
theorem Gh{P:Pk}(hG:∀h,P.G h->YP P.w h):∀h,P.G h->(So P.w.params).In h:=fun h G=>
 Frag.in_of (as:=[2,167,168]) rfl (by
  have y:=hG h G;simp only[So,bn,nq];rw[y _ _ (at2 _),y _ _ (P1 _),y _ _ (P2 _)])
theorem Cj(P:Params):readsIn (So P) 168 (.type "type")=true:=by kernel_rfl
theorem ab2(P:Params):findCls (So P) (.ref 168) (.type "type") "S"=some (.val (.str (pyStr [32]) 2271)):=by kernel_rfl
section
variable{P:Pk}{n:Nat}
noncomputable def KB1:Cx:={vars:=[("code",.local,false)],aM:=["ord","b1_set"]}
end
section
variable{P:Pk}{n:Nat}
noncomputable def KB3:Cx:={vars:=[("code",.local,false),("r",.local,false)],aM:=["ord","b3_exceptions"]}
end
section
noncomputable def gpL:List Pos:=[⟨6,4,6,7⟩,⟨6,10,6,11⟩,⟨6,4,6,11⟩,⟨7,4,7,10⟩,⟨7,13,7,18⟩,⟨7,4,7,18⟩,⟨8,19,8,28⟩,⟨8,29,8,33⟩,⟨8,19,8,34⟩,⟨8,4,15,27⟩,⟨16,7,16,13⟩,⟨17,15,17,18⟩,⟨17,20,17,24⟩,⟨17,14,17,25⟩,⟨17,8,17,25⟩,⟨17,8,17,25⟩,⟨16,4,17,25⟩,⟨8,8,8,11⟩,⟨8,13,8,15⟩,⟨8,8,8,15⟩,⟨9,11,9,17⟩,⟨10,19,10,22⟩,⟨10,24,10,28⟩,⟨10,31,10,33⟩,⟨10,24,10,33⟩,⟨10,18,10,34⟩,⟨10,12,10,34⟩,⟨10,12,10,34⟩,⟨11,12,11,18⟩,⟨11,21,11,26⟩,⟨11,12,11,26⟩,⟨12,13,12,15⟩,⟨12,19,12,23⟩,⟨12,13,12,23⟩,⟨13,12,13,18⟩,⟨13,21,13,25⟩,⟨13,12,13,25⟩,⟨15,19,15,22⟩,⟨15,24,15,26⟩,⟨15,18,15,27⟩,⟨15,12,15,27⟩,⟨15,12,15,27⟩,⟨12,8,15,27⟩,⟨9,8,15,27⟩]
theorem ab3(P:Params):findCls (So P) (.ref 168) (.type "type") "T"=some (.val (.str (pyStr [9]) 2272)):=by kernel_rfl
structure bF(P:Pk):Prop where
 ob:P.OB=Er 168
 top:∀h,P.G h->YP P.w h
 glob:∀(x:Str) v,nsFind (ents (ew P.w.params)) x=some v->P.glob x=some v
 built:∀(x:Str) v,x≠"__name__"->nsFind (ents (ew P.w.params)) x=none->bootBuiltins x=some v->P.glob x=some v
theorem Sp(w:World)(ag:Heap)(mg mb:Str->Option Value)(hg:ag.Ns mainGlobals mg)(hb:ag.Ns builtinsNs mb)(nl:ag.NoLimit)(hB:∀x:Str,x≠"__name__"->mb x=bootBuiltins x)(y:YP w ag):bF (Kj RW.toRowW.prog w (Er 168) (Er.ok 168) ag mg mb hg hb nl)where
 ob:=rfl
 top:=fun h G a o e=>G _ _ (y a o e)
 glob:=fun x v e=>by
  show(match mg x with|some v=>some v|none=>mb x)=some v;replace e:nsFind (ents (ew w.params)) x=some v:=e;rw[PK hg y,e]
 built:=fun x v h1 h2 h3=>by
  show(match mg x with|some v=>some v|none=>mb x)=some v;replace h2:nsFind (ents (ew w.params)) x=none:=h2;rw[PK hg y,h2];show mb x=some v;rw[hB x h1,h3]
section
variable{P:Pk}(X:bF P)
include X
theorem bF.fn{h:Heap}(G:P.G h){a:Nat}{Q:Heap->Prop}(f:∀{ag h:Heap},YP P.w ag->(∀b o,ag.get? b=some o->h.get? b=some o)->Q h):Q h:=f (X.top h G) fun ø ø e=>e
theorem bF.enum:P.glob "enumerate"=some (.type "enumerate"):=X.built _ _ (by decide) (RB _).2.2.2.2.2.2.2.2.2.2.2 U5.2.2.2.2.2.2.2.2.2.2.2
theorem bF.gen:Ca P 28:=⟨fdOf jn,fun h G=>by
 obtain⟨⟨o,h1,h2,h3⟩,h4⟩:=U7 (X.top h G) fun ø ø e=>e
 exact⟨⟨o,h1,h3⟩,h4⟩,⟨rfl,rfl,rfl,fun v=>rfl,rfl,rfl,rfl,by kernel_rfl,by kernel_rfl,by kernel_rfl,by kernel_rfl,by kernel_rfl,by
  show ∀x∈(kh (aJ pq.main.body 2)).names,x.2≠ .cell
  decide+kernel⟩,X.enum,⟨fun i=>gpL.getD i default,by kernel_rfl⟩⟩
end
end
noncomputable def clip(v:Option Int)(d n:Nat):Nat:=match v with
 |none=>d
 |some i=>(max 0 (min (if i<0 then i+n else i) n)).toNat
theorem Oi{v:Option Int}{d n:Nat}(h:d<=n):clip v d n<=n:=by
 cases v with
 |none=>exact h
 |some i=>exact Int.toNat_le.mpr (Int.max_le.mpr ⟨mz _,Int.min_le_right _ _⟩)
theorem clz(v:Option Int)(d n:Nat):(clip v d n:Int)=v.elim (d:Int) fun i=>max 0 (min (if i<0 then i+n else i) n):=by
 cases v with
 |none=>rfl
 |some i=>exact Int.toNat_of_nonneg (Int.le_max_left _ _)
theorem lm(d:Nat){n k:Nat}(h0:0<k)(hk:k<=n):clip (some (-(k:Int))) d n=n-k:=by
 show(max 0 (min (if-(k:Int)<0 then-(k:Int)+n else-(k:Int)) n)).toNat=_;rw[aw (by omega),Int.min_eq_left (by omega),rY (by omega)];omega
theorem Ck(d:Nat){n i:Nat}(h:n<=i):clip (some (i:Int)) d n=n:=by
 show(max 0 (min (if(i:Int)<0 then(i:Int)+n else(i:Int)) n)).toNat=_;rw[az (by omega),Int.min_eq_right (by omega),rY (by omega)];rfl
theorem n7(i d n:Nat)(h:i<=n):clip (some (i:Int)) d n=i:=by
 show(max 0 (min (if(i:Int)<0 then(i:Int)+n else(i:Int)) n)).toNat=_;rw[az (by omega),Int.min_eq_left (by omega),rY (by omega)];rfl
theorem wG{α:Type}(l:List α)(a:Nat):∀k:Nat,((List.range k).map fun(j:Nat)=>a+j).filterMap (l[·]?)=(l.drop a).take k
 |0=>rfl
 |k+1=>by
  rw[y0,List.map_append,List.filterMap_append,wG l a k,List.take_add_one,Dy];cases h:l[a+k]?<;>simp[h]
theorem Ls(a b:Nat):(if(a:Int)<b then((b:Int)-a+1-1)/1 else 0).toNat=b-a:=by
 by_cases h:(a:Int)<b
 ·rw[aw h,Int.ediv_one,DI,Int.toNat_sub]
 ·rw[az h,Nat.sub_eq_zero_of_le (qI.mp (Int.not_lt.mp h))]
  rfl
theorem Cl(a b:Nat):sliceRange (a:Int) (b:Int) 1=(List.range (b-a)).map fun(k:Nat)=>a+k:=by
 show(List.range (if(a:Int)<b then((b:Int)-a+1-1)/1 else 0).toNat).map (fun(k:Nat)=>((a:Int)+1*(k:Int)).toNat)=_;rw[Ls];exact pi fun k ø=>by rw[Int.one_mul];rfl
theorem Cm{α:Type}(l:List α)(a b:Nat):(sliceRange (a:Int) (b:Int) 1).filterMap (l[·]?)=(l.drop a).take (b-a):=by
 rw[Cl,wG]
theorem HH(a b:Nat):(sliceRange (a:Int) (b:Int) 1).length=b-a:=by
 rw[Cl,bi,jX]
theorem VW(lo hi:Option Int)(n:Nat):sliceBounds lo hi none n=((clip lo 0 n:Int),(clip hi n n:Int),1):=by
 rw[clz,clz];cases lo<;>cases hi<;>rfl
theorem VX(lo hi:Option Int)(n:Nat):Builtin.Str.strSliceIndices lo hi 1 n=sliceRange (clip lo 0 n:Int) (clip hi n n:Int) 1:=by
 rw[clz,clz];cases lo<;>cases hi<;>rfl
theorem uG{α:Type}(l:List α)(lo hi:Option Int):pick l lo hi none=(l.drop (clip lo 0 l.length)).take (clip hi l.length l.length-clip lo 0 l.length):=by
 unfold pick;rw[VW];exact Cm l _ _
theorem n8(l:List Nat)(lo hi:Option Int):Bi l lo hi=(l.drop (clip lo 0 l.length)).take (clip hi l.length l.length-clip lo 0 l.length):=by
 unfold Bi;rw[VX,HH,Cm];refine ite_eq_right_iff.mpr fun h=>(((List.take_sublist _ _).trans (List.drop_sublist _ _)).eq_of_length ?_).symm
 have h1:clip hi l.length l.length<=l.length:=Oi (cF _);have h2:=eq_of_beq h;rw[nB,mZ];exact Nat.le_antisymm (aA (Nat.min_le_right _ _) (rZ _ _)) (Nat.le_min.mpr ⟨iJ h2.symm,aA (iJ h2.symm) (Nat.sub_le_sub_right h1 _)⟩)
noncomputable def bg{σ α τ:Type}(step:σ->α->Sum σ τ):List α->σ->Sum σ τ
 |[],s=>.inl s
 |x::xs,s=>match step s x with
  | .inl s'=>bg step xs s'
  | .inr t=>.inr t
theorem cQ{σ α τ:Type}(step:σ->α->Sum σ τ)(s:σ):bg step [] s= .inl s:=rfl
theorem bZ{σ α τ:Type}(step:σ->α->Sum σ τ)(x:α)(xs:List α)(s:σ):bg step (x::xs) s=match step s x with
 | .inl s'=>bg step xs s'
 | .inr t=>.inr t:=rfl
theorem Sq(a b:List Nat):Df (.str a) (.str b)=some (!(a==b)):=rfl
theorem jz(a b:Int):G7 (.int a) (.int b)=some (decide (a=b)):=by
 unfold G7;show(if(0:Nat)<=50 then some (PyData.eqv (.int a) (.int b))else none)=_;rw[aw (by decide)];have e:PyData.eqv (.int a) (.int b)=(a==b):=by simp[PyData.eqv]
 rw[e];rfl
theorem Lu(a b:Int):Df (.int a) (.int b)=some (!decide (a=b)):=by
 unfold Df;rw[jz];rfl
theorem uH(a b:Int)(h: -(2^64)<b/\b<2^64):xv (.int a) (.int b)=some (.int (a*b)):=by show Option.or (if _ then some _ else _) _=_;rw[aw h];rfl
theorem Ab(a b:Int)(h:0<b/\b<1073741824):p0 (.int a) (.int b)=some (.int (a % b)):=by show(if _ then some _ else _)=_;rw[aw h,Int.fmod_eq_emod_of_nonneg _ (Int.le_of_lt h.1)]
theorem Gi(a b:Int)(h:0<b/\b<1073741824):M5 (.int a) (.int b)=some (.int (a/b)):=by show(if _ then some _ else _)=_;rw[aw h,Int.fdiv_eq_ediv_of_nonneg _ (Int.le_of_lt h.1)]
theorem j4(a b:List Nat)(h:a.length+b.length<=most):nH (.str a) (.str b)=some (.str (a++b)):=by show Option.or (if _ then _ else _) _=_;rw[aw h];rfl
theorem uI(a b:List V)(h:a.length+b.length<=most):nH (.list a) (.list b)=some (.list (a++b)):=by show(if _ then _ else _)=_;rw[aw h]
theorem n9(a b:List Nat)(h:a.length+b.length<=most):Bk (.str a) (.str b)=some (.str (a++b)):=Jl a b h
theorem oe(a:List Nat)(h:a.length<=most):qV [.str a]=some (.int a.length):=uC rfl h
theorem og(a:List V)(h:a.length<=most):qV [.list a]=some (.int a.length):=uC rfl h
theorem Lv(a:List V)(h:a.length<=most):qV [.tup a]=some (.int a.length):=uC rfl h
noncomputable def sl{α:Type}(l:List α)(s e:Nat):List α:=(l.drop s).take (e-s)
theorem HI(l:List Nat)(a b:Nat)(ha:a<=l.length)(hb:b<=l.length)(h:l.length<=most):eT (.str l) (some (a:Int)) (some (b:Int)) none=some (.str (sl l a b)):=by
 rw[nQ,aw h,n8,n7 _ _ _ ha,n7 _ _ _ hb];rfl
theorem Cn(l:List Nat)(a:Nat)(ha:a<=l.length)(h:l.length<=most):eT (.str l) (some (a:Int)) none none=some (.str (sl l a l.length)):=by
 rw[nQ,aw h,n8,n7 _ _ _ ha];rfl
theorem l3(l:List V)(x:V)(h:l.length<most):DX (.list l) [x]=some (.list (l++[x]),.none):=by rw[Nh,aw h]
theorem l5(l:List V)(b:Nat)(h:l.length<=most):eT (.list l) none (some (b:Int)) none=some (.list (l.take b)):=by
 rw[nP,aw ⟨h,nofun⟩,uG];show some (V.list (l.take (clip (some (b:Int)) l.length l.length)))=_;by_cases q:b<=l.length
 ·rw[n7 _ _ _ q]
 ·rw[Ck _ (y3 q),List.take_length,rO (y3 q)]
theorem l6(l:List V)(a:Nat)(h:l.length<=most):eT (.list l) (some (a:Int)) none none=some (.list (l.drop a)):=by
 rw[nP,aw ⟨h,nofun⟩,uG];show some (V.list ((l.drop (clip (some (a:Int)) 0 l.length)).take (l.length-clip (some (a:Int)) 0 l.length)))=_;by_cases q:a<=l.length
 ·rw[n7 _ _ _ q,rO (iJ mZ)]
 ·rw[Ck _ (y3 q),u9,uY (y3 q),List.take_nil]
theorem rv(l:List Int):V.Ft (l.map .int)=some (l.map .int):=by
 induction l with
 |nil=>rfl
 |cons y l ih=>simp only[bn,V.sa,V.sb,V.tC,V.tD,V.tE,V.tF,V.tG,ih,mW]
theorem EG(l:List Int):PyData.depthAll (l.map .int)<=1:=by
 induction l with
 |nil=>simp[PyData.depthAll]
 |cons y l ih=>simp only[bn,PyData.depthAll,PyData.depth];omega
theorem HJ(l:List Int):G7 (.list (l.map .int)) (.list [])=some l.isEmpty:=by
 rw[vk _ _ rfl];simp only[AW,V.tC,V.tD,V.tE,V.tF,V.tG,rv,m3,mW,V.sa,V.sb];rw[aw]
 ·cases l<;>rfl
 ·have:=EG l;simp only[PyData.depth];omega
theorem cR{α β:Type}(a:α)(f:α->Option β):(some a).bind f=f a:=by
 have h:∀o:Option α,o=some a->o.bind f=f a:=fun o e=>by subst e;rfl
 exact h _ rfl
theorem aq{f:al->Option V}{g:al->Option (List V)}{ρ:al}{x:V}{xs:List V}(hf:f ρ=some x)(hg:g ρ=some xs):aQ f g ρ=some (x::xs):=by
 unfold aQ;rw[hf,hg,cR,cR]
theorem ca{ρ:al}{i:Nat}{a:V}(h:ρ i=some a):upd ρ i a=ρ:=by
 funext j
 by_cases e:j=i
 ·subst e;rw[jb,h]
 ·rw[gX _ _ e]
@[elab_as_elim] theorem ex1 {C:al->Prop} (ρ:al) {i:Nat} {a:V} (h1:ρ i=some a) (f:∀σ,C (upd σ i a)):C ρ:=by
 have:=f ρ;rwa[ca h1]at this
@[elab_as_elim] theorem ex2 {C:al->Prop} (ρ:al) {i j:Nat} {a b:V} (h1:ρ i=some a) (h2:ρ j=some b) (f:∀σ,C (upd (upd σ i a) j b)):C ρ:=by
 have:=f ρ;rwa[ca h1,ca h2]at this
@[elab_as_elim] theorem ex4 {C:al->Prop} (ρ:al) {i j k l:Nat} {a b c d:V} (h1:ρ i=some a) (h2:ρ j=some b) (h3:ρ k=some c) (h4:ρ l=some d) (f:∀σ,C (upd (upd (upd (upd σ i a) j b) k c) l d)):C ρ:=by
 have:=f ρ;rwa[ca h1,ca h2,ca h3,ca h4]at this
@[elab_as_elim] theorem ex3 {C:al->Prop} (ρ:al) {i j k:Nat} {a b c:V} (h1:ρ i=some a) (h2:ρ j=some b) (h3:ρ k=some c) (f:∀σ,C (upd (upd (upd σ i a) j b) k c)):C ρ:=by
 have:=f ρ;rwa[ca h1,ca h2,ca h3]at this
theorem bJ{F:List V->Option V}{f:al->Option V}{ρ:al}{x:V}{r}(hf:f ρ=some x)(hF:F [x]=r):eD F (aQ f fun ø=>some []) ρ=r:=by
 unfold eD aQ;rw[hf,cR,cR,cR];exact hF
theorem tc{α:Type}{c:Option Bool}{t e r:Option α}(hc:c=some true)(h:t=r):(c.bind fun z=>if z=true then t else e)=r:=by
 subst hc;exact h
theorem j5{α:Type}{c:Option Bool}{t e r:Option α}(hc:c=some false)(h:e=r):(c.bind fun z=>if z=true then t else e)=r:=by
 subst hc;exact h
theorem bO{f g:al->Option (al×Fl)}{ρ am:al}{r}(h:f ρ=some (am,.next))(hg:g am=r):eO f g ρ=r:=by
 unfold eO;rw[h];exact hg
theorem Sr{f g:al->Option (al×Fl)}{ρ am:al}{v}(h:f ρ=some (am,.ret v)):eO f g ρ=some (am,.ret v):=by
 unfold eO;rw[h];rfl
theorem P4{a b:Int}(h:a=b):Df (.int a) (.int b)=some false:=by rw[Lu,h];simp
theorem neT{a b:Int}(h:a≠b):Df (.int a) (.int b)=some true:=by rw[Lu];simp[h]
theorem ba{F:V->V->Option Bool}{f g:al->Option V}{ρ:al}{x y:V}{r}(hf:f ρ=some x)(hg:g ρ=some y)(hF:F x y=r):qQ F f g ρ=r:=by
 unfold qQ;rw[hf,hg,cR,cR];exact hF
theorem pv{F:V->List V->Option (V×V)}{i:Nat}{f:al->Option V}{ρ:al}{y x:V}{r}(hy:ρ i=some y)(hf:f ρ=some x)(hF:F y [x]=some r):jc F i (aQ f fun ø=>some []) ρ=some (upd ρ i r.1,r.2):=by
 unfold jc aQ;rw[hy,hf,cR,cR,cR,cR,hF];rfl
theorem bh{α β:Type}{o:Option α}{a:α}{f:α->β}{b:Option β}(h:o=some a)(hb:some (f a)=b):o.map f=b:=by subst h;exact hb
@[elab_as_elim] theorem ex5 {C:al->Prop} (ρ:al) {i j k l m:Nat} {a b c d e:V} (h1:ρ i=some a) (h2:ρ j=some b) (h3:ρ k=some c) (h4:ρ l=some d) (h5:ρ m=some e) (f:∀σ,C (upd (upd (upd (upd (upd σ i a) j b) k c) l d) m e)):C ρ:=by
 have:=f ρ;rwa[ca h1,ca h2,ca h3,ca h4,ca h5]at this
theorem dy{α β:Type}{o:Option α}{a:α}{f:α->Option β}{r}(h:o=some a)(hf:f a=r):o.bind f=r:=by subst h;exact hf
theorem bu{F:V->V->Option V}{f g:al->Option V}{ρ:al}{x y:V}{r}(hf:f ρ=some x)(hg:g ρ=some y)(hF:F x y=r):dA F f g ρ=r:=dy hf (dy hg hF)
theorem eA{f:al->Option V}{a b c:al->Option (Option Int)}{ρ:al}{x p q s r}(hf:f ρ=some x)(ha:a ρ=some p)(hb:b ρ=some q)(hc:c ρ=some s)(h:eT x p q s=r):ji f a b c ρ=r:=dy hf (dy ha (dy hb (dy hc h)))
theorem md{f:al->Option V}{ρ:al}{a b:Int}(hf:f ρ=some (.int a))(h:decide (0<b/\b<1073741824)=true):dA p0 f (fun ø=>some (.int b)) ρ=some (.int (a % b)):=bu hf rfl (Ab a b (mC h))
theorem dv{f:al->Option V}{ρ:al}{a b:Int}(hf:f ρ=some (.int a))(h:decide (0<b/\b<1073741824)=true):dA M5 f (fun ø=>some (.int b)) ρ=some (.int (a/b)):=bu hf rfl (Gi a b (mC h))
theorem ml{f:al->Option V}{ρ:al}{a b:Int}(hf:f ρ=some (.int a))(h:decide (-(2^64)<b/\b<2^64)=true):dA xv f (fun ø=>some (.int b)) ρ=some (.int (a*b)):=bu hf rfl (uH a b (mC h))
theorem ad{f g:al->Option V}{ρ:al}{a b:Int}(hf:f ρ=some (.int a))(hg:g ρ=some (.int b)):dA nH f g ρ=some (.int (a+b)):=bu hf hg rfl
theorem P5{f g:al->Option Bool}{ρ:al}{a b:Bool}(hf:f ρ=some a)(hg:g ρ=some b):Yz f g ρ=some (a||b):=dy hf (by cases a;exact hg;rfl)
theorem Ss{f g:al->Option Bool}{ρ:al}{a b:Bool}(hf:f ρ=some a)(hg:g ρ=some b):M4 f g ρ=some (a&&b):=dy hf (by cases a;rfl;exact hg)
theorem iA{α β:Type}(f:α->β)(l:List α)(x:α):l.map f++[f x]=(l++[x]).map f:=(List.map_append (f:=f) (l₁:=l) (l₂:=[x])).symm
theorem wH{α:Type}{p:α->Prop}{l:List α}{x:α}(h:∀e∈l,p e)(hx:p x):∀e∈l++[x],p e:=List.forall_mem_append.mpr ⟨h,List.forall_mem_singleton.mpr hx⟩
theorem cM{f g:al->Option V}{ρ:al}{x y:V}{r}(hf:f ρ=some x)(hg:g ρ=some y)(h:gt x y=r):f7 f g ρ=r:=dy hf (dy hg h)
theorem HK{F:V->List V->Option V}{f:al->Option V}{g:al->Option (List V)}{ρ:al}{y:V}{xs:List V}{r}(hf:f ρ=some y)(hg:g ρ=some xs)(h:F y xs=r):Q1 F f g ρ=r:=dy hf (dy hg h)
theorem e7{F:List V->Option V}{f:al->Option V}{g:al->Option (List V)}{ρ:al}{l xs:List V}{r}(hf:f ρ=some (.obj l))(hl:l.length=5)(hg:g ρ=some xs)(h:F (.obj l::xs)=r):zZ F f g ρ=r:=dy hf (dy (a:=l) rfl ((aw hl).trans (dy hg h)))
theorem Lw{α:Type}{l:List α}{f:α->V}(h:l.length<=8):(l.map f).length<=most:=by rw[bi];exact aA h (by decide)
theorem mt8{α:Type}{l:List α}{f:α->V}(h:l.length<=8):(l.map f).length<most:=by rw[bi];exact gR h (by decide)
theorem Lx{n:Nat}(h:n<=8):n<most:=gR h (by decide)
inductive VY(I:al->Prop)(E:al×Fl->Prop):al×Fl->Prop
 |nx {ρ:al} (h:I ρ):VY I E (ρ,.next)
 |br {ρ:al} (h:E (ρ,.next)):VY I E (ρ,.brk)
 |rt {ρ:al} {v:V} (h:E (ρ,.ret v)):VY I E (ρ,.ret v)
theorem rx{α:Type}{asg:al->V->Option al}{body:al->Option (al×Fl)}(toV:α->V)(us:List α)(I:List α->al->Prop)(E:al×Fl->Prop)
  (step:∀l u l' ρ,l++u::l'=us->I l ρ->∃am,asg ρ (toV u)=some am/\∃r,body am=some r/\VY (I (l++[u])) E r) (done:∀ρ,I us ρ->E (ρ,.next)) {ρ:al} (h0:I [] ρ):∃r,fg asg body (us.map toV) ρ=some r/\E r:=by
 have go:∀(l' l:List α) ρ,l++l'=us->I l ρ->∃r,fg asg body (l'.map toV) ρ=some r/\E r:=by
  intro l'
  induction l' with
  |nil=>exact fun l ρ e h=>⟨_,rfl,done ρ (by rw[<-e,gn];exact h)⟩
  |cons u l' ih=>
   intro l ρ e h;obtain⟨am,h1,r,h2,h3⟩:=step l u l' ρ e h;rw[bn,vp,h1,cR,h2,cR]
   cases h3 with
   |nx h=>exact ih (l++[u]) _ (by rw[List.append_assoc];exact e) h
   |br h=>exact⟨_,rfl,h⟩
   |rt h=>exact⟨_,rfl,h⟩
 exact go us [] ρ rfl h0
theorem Co{α:Type}{asg:al->V->Option al}{body:al->Option (al×Fl)}(toV:α->V)(us:List α)(I:List α->al->Prop)
  (step:∀l u l' ρ,l++u::l'=us->I l ρ->∃am,asg ρ (toV u)=some am/\∃r,body am=some r/\r.2= .next/\I (l++[u]) r.1) {ρ:al} (h0:I [] ρ):∃r,fg asg body (us.map toV) ρ=some r/\r.2= .next/\I us r.1:=
 rx toV us I _ (fun l u l' ρ e h=>by
  obtain⟨am,h1,⟨fk,_⟩,h2,rfl,h3⟩:=step l u l' ρ e h;exact⟨am,h1,_,h2,.nx h3⟩) (fun ρ h=>⟨rfl,h⟩) h0
theorem oj{α:Type}{asg:al->V->Option al}{body:al->Option (al×Fl)}(toV:α->V)(us:List α)(I:List α->al->Prop)
  (step:∀l u ρ,u∈us->l.length<us.length->I l ρ->∃am fk,asg ρ (toV u)=some am/\body am=some (fk,.next)/\I (l++[u]) fk) {ρ:al} (h0:I [] ρ):∃r,fg asg body (us.map toV) ρ=some r/\r.2= .next/\I us r.1:=
 Co toV us I (fun l u l' ρ e h=>by
  obtain⟨am,fk,h1,h2,h3⟩:=step l u ρ (by rw[<-e];exact bw _ dJ) (by rw[<-e,List.length_append];exact DJ (nv _)) h;exact⟨am,h1,_,h2,rfl,h3⟩) h0
inductive XR(i j k l m:Nat)(a b c d e:V)(ρ:al):Prop
 |mk (h1:ρ i=some a) (h2:ρ j=some b) (h3:ρ k=some c) (h4:ρ l=some d) (h5:ρ m=some e)
@[elab_as_elim] theorem XR.ex {C:al->Prop} {ρ:al} {i j k l m:Nat} {a b c d e:V} (h:XR i j k l m a b c d e ρ) (f:∀σ,C (upd (upd (upd (upd (upd σ i a) j b) k c) l d) m e)):C ρ:=ex5 ρ h.1 h.2 h.3 h.4 h.5 f
inductive Oj(i j k l:Nat)(a b c d:V)(ρ:al):Prop
 |mk (h1:ρ i=some a) (h2:ρ j=some b) (h3:ρ k=some c) (h4:ρ l=some d)
@[elab_as_elim] theorem Oj.ex {C:al->Prop} {ρ:al} {i j k l:Nat} {a b c d:V} (h:Oj i j k l a b c d ρ) (f:∀σ,C (upd (upd (upd (upd σ i a) j b) k c) l d)):C ρ:=ex4 ρ h.1 h.2 h.3 h.4 f
inductive VZ(i j k l m n:Nat)(a b c d e f:V)(ρ:al):Prop
 |mk (h1:ρ i=some a) (h2:ρ j=some b) (h3:ρ k=some c) (h4:ρ l=some d) (h5:ρ m=some e) (h6:ρ n=some f)
@[elab_as_elim] theorem VZ.ex {C:al->Prop} {ρ:al} {i j k l m n:Nat} {a b c d e g:V} (h:VZ i j k l m n a b c d e g ρ) (f:∀σ,C (upd (upd (upd (upd (upd (upd σ i a) j b) k c) l d) m e) n g)):C ρ:=by
 have:=f ρ;rwa[ca h.1,ca h.2,ca h.3,ca h.4,ca h.5,ca h.6]at this
inductive TS(i j k l m n o:Nat)(a b c d e f g:V)(ρ:al):Prop
 |mk (h1:ρ i=some a) (h2:ρ j=some b) (h3:ρ k=some c) (h4:ρ l=some d) (h5:ρ m=some e) (h6:ρ n=some f) (h7:ρ o=some g)
@[elab_as_elim] theorem TS.ex {C:al->Prop} {ρ:al} {i j k l m n o:Nat} {a b c d e g h':V} (h:TS i j k l m n o a b c d e g h' ρ) (f:∀σ,C (upd (upd (upd (upd (upd (upd (upd σ i a) j b) k c) l d) m e) n g) o h')):C ρ:=by
 have:=f ρ;rwa[ca h.1,ca h.2,ca h.3,ca h.4,ca h.5,ca h.6,ca h.7]at this
theorem Gj{k n:Nat}(h:k<n):ff (k:Int) n=some k:=by
 unfold ff;rw[aw (mz k),aw (nC.mpr h)];rfl
theorem gI{xs:List V}{k:Nat}{b:V}(h:xs[k]?=some b)(hm:xs.length<=most):gt (.list xs) (.int k)=some b:=by
 rw[uB,aw hm,Gj (eX.mp h).1,cR,h]
theorem Ok{xs:List V}{k:Nat}{b:V}(h:xs[k]?=some b)(hm:xs.length<=most):gt (.tup xs) (.int k)=some b:=by
 rw[zh,aw hm,Gj (eX.mp h).1,cR,h]
theorem get_mem{α:Type}{l:List α}{k:Nat}(h:k<l.length):∃e,l[k]?=some e:=⟨_,dX h⟩
theorem EH{F:V->List V->Option (V×V)}{i:Nat}{g:al->Option (List V)}{ρ:al}{y:V}{xs:List V}{r}(hy:ρ i=some y)(hx:g ρ=some xs)(hF:F y xs=some r):jc F i g ρ=some (upd ρ i r.1,r.2):=dy hy (dy hx (bh hF rfl))
theorem int_at{xs:List Int}{i:Int}(h0:0<=i)(h1:i<xs.length)(hm:xs.length<=most):∃b∈xs,xs[i.toNat]?=some b/\gt (.list (xs.map .int)) (.int i)=some (.int b):=by
 obtain⟨k,rfl⟩:=Dv h0;obtain⟨b,hb⟩:=get_mem (nC.mp h1);exact⟨b,my hb,hb,gI (by rw[bL,hb];rfl) (by rw[bi];exact hm)⟩
theorem xI{i:Nat}{f:al->Option V}{g:al->Option (al×Fl)}{ρ:al}{v:V}{r}(h:f ρ=some v)(hg:g (upd ρ i v)=r):eO (fun ρ=>Option.map (fun y=>(upd ρ i y,.next)) (f ρ)) g ρ=r:=bO (bh h rfl) hg
theorem Su{F:V->List V->Option (V×V)}{i:Nat}{xf:al->Option (List V)}{g:al->Option (al×Fl)}{ρ:al}{y:V}{xs:List V}{y' z:V}{r}(hy:ρ i=some y)(hx:xf ρ=some xs)(hF:F y xs=some (y',z))(hg:g (upd ρ i y')=r):eO (fun ρ=>Option.map (fun r=>(r.1,.next)) (jc F i xf ρ)) g ρ=r:=bO (bh (EH hy hx hF) rfl) hg
theorem EI{F:V->V->Option V}{i:Nat}{f:al->Option V}{g:al->Option (al×Fl)}{ρ:al}{x y z:V}{r}(hx:ρ i=some x)(hf:f ρ=some y)(hF:F x y=some z)(hg:g (upd ρ i z)=r):eO (fun ρ=>(ρ i).bind fun a=>(f ρ).bind fun b=>Option.map (fun c=>(upd ρ i c,.next)) (F a b)) g ρ=r:=bO (dy hx (dy hf (bh hF rfl))) hg
theorem g9{σ α τ:Type}(step:σ->α->Sum σ τ):∀(l l':List α) (s:σ),bg step (l++l') s=match bg step l s with
  | .inl s'=>bg step l' s'
  | .inr t=>.inr t
 |[],l',s=>rfl
 |x::l,l',s=>by
  simp only[List.cons_append,cQ,bZ]
  cases step s x with
  |inl s'=>exact g9 step l l' s'
  |inr t=>rfl
theorem dR{σ α τ:Type}{step:σ->α->Sum σ τ}{l:List α}{u:α}{s s':σ}{r}(h:bg step l s= .inl s')(hs:step s' u= .inl r):bg step (l++[u]) s= .inl r:=by
 rw[g9,h];show bg step [u] s'=_;rw[bZ,hs];rfl
theorem ln{σ α τ:Type}{step:σ->α->Sum σ τ}{l l':List α}{u:α}{s s':σ}{r}(h:bg step l s= .inl s')(hs:step s' u= .inr r):bg step (l++u::l') s= .inr r:=by
 rw[g9,h];show bg step (u::l') s'=_;rw[bZ,hs]
theorem Ly{f g:al->Option (al×Fl)}{ρ am:al}(h:f ρ=some (am,.brk)):eO f g ρ=some (am,.brk):=by
 unfold eO;rw[h];rfl
theorem V0{F:V->V->V->Option V}{i:Nat}{f g:al->Option V}{k:al->Option (al×Fl)}{ρ:al}{v y j y':V}{r}(hf:f ρ=some v)(hy:ρ i=some y)(hg:g ρ=some j)(hF:F y j v=some y')(hk:k (upd ρ i y')=r):
 eO (fun ρ=>(f ρ).bind fun v=>(ρ i).bind fun y=>(g ρ).bind fun j=>Option.map (fun y'=>(upd ρ i y',.next)) (F y j v)) k ρ=r:=bO (dy hf (dy hy (dy hg (bh hF rfl)))) hk
noncomputable def kr:Cx:={vars:=[(Qm,.local,false),(T0,.local,false),(s32,.local,false),(s33,.local,true),(TZ,.local,false),(Qn,.local,false)],aM:=[s5,vi]}
noncomputable def dS{P:Pk}{n:Nat}{aN:Addr}(cq:P.glob s5=some (.ref aN))(bS:Ca P aN)(cb:P.glob vi=some (.builtin "len")):{f:al->Option (al×Fl)//p5 P n kr (dz (aJ pq.main.body 3)) f}:=⟨_,(@ac _ _ _ _ _ _ _ (@aT _ _ _ _ _ _ _ _ _ _ (aR Nb (aC rfl) (ae (Z 0 rfl rfl rfl)) rfl) (@ac _ _ _ _ _ _ _ (aX (ae (Z 0 rfl rfl rfl))) aj) aj) (@ac _ _ _ _ _ _ _ (aD 1 rfl (by decide) aa cp) (@ac _ _ _ _ _ _ _ (aD 2 rfl (by decide) lC cp) (@ac _ _ _ _ _ _ _ (dh 3 rfl (by decide) (fT ab (by decide) len0) cp) (@ac _ _ _ _ _ _ _ (@qd _ _ _ (false) _ _ _ _ _ _ _ (@nZ _ _ _ _ _ _ _ _ _ rfl cq rfl bS (O (ae (Z 0 rfl rfl rfl)) ab ir) ir (cf _ _)) (@da _ _ _ _ _ _ _ (ay (ap 4 rfl (by decide) (by decide)) (ay (ap 5 rfl (by decide) (by decide)) bX)) (aE (aE cH)) ir) (@ac _ _ _ _ _ _ _ (@aT _ _ _ _ _ _ _ _ _ _ (aR qR (ae (Z 5 rfl rfl rfl)) (aC rfl) rfl) (@ac _ _ _ _ _ _ _ (@aT _ _ _ _ _ _ _ _ _ _ (aR T7 (ae (Z 2 rfl rfl rfl)) lC rfl) (ac (aD 2 rfl (by decide) (Z 4 rfl rfl rfl) cp) aj) (@ac _ _ _ _ _ _ _ (@aT _ _ _ _ _ _ _ _ _ _ (aR vl (ae (Z 1 rfl rfl rfl)) (ae (Z 2 rfl rfl rfl)) rfl) (@ac _ _ _ _ _ _ _ (@di _ _ _ _ _ _ (@cu _ _ _ 3 _ _ _ _ _ _ _ _ _ rfl rfl rfl qS (@O _ _ _ _ _ _ _ _ (@bC _ _ _ _ _ _ _ _ _ _ _ _ _ _ (Z 0 rfl rfl rfl) (bt (ae (Z 1 rfl rfl rfl))) (bt (ae (Z 2 rfl rfl rfl))) aO) ab ir) ir (by decide) rfl ir) gH ir) aj) aj) (@ac _ _ _ _ _ _ _ (aD 1 rfl (by decide) (ai cy (Z 4 rfl rfl rfl) aa) cp) (ac (aD 2 rfl (by decide) lC cp) aj)))) aj) aj) aj) cp) (@ac _ _ _ _ _ _ _ (@aT _ _ _ _ _ _ _ _ _ _ (@aR _ _ _ _ _ _ _ _ _ _ M9 (ae (Z 1 rfl rfl rfl)) (@aI _ _ _ _ _ _ _ _ _ _ _ rfl cb rfl jj (O (ae (Z 0 rfl rfl rfl)) ab ir) ir (cf _ _)) rfl) (@ac _ _ _ _ _ _ _ (@di _ _ _ _ _ _ (@cu _ _ _ 3 _ _ _ _ _ _ _ _ _ rfl rfl rfl qS (@O _ _ _ _ _ _ _ _ (@bC _ _ _ _ _ _ _ _ _ _ _ _ _ _ (Z 0 rfl rfl rfl) (bt (ae (Z 1 rfl rfl rfl))) aO aO) ab ir) ir (by decide) rfl ir) gH ir) aj) aj) (@ac _ _ _ _ _ _ _ (@aX _ _ _ _ _ _ (eE (aC rfl) qW (O (cG 3 rfl rfl rfl) ab ir) ir (by decide) rfl ir)) aj)))))))⟩
noncomputable def oV:Cx:={vars:=[(Qm,.local,false),(Fs,.local,false),(TZ,.local,false),(Qn,.local,false)],aM:=[s6,s5]}
noncomputable def fY{P:Pk}{n:Nat}{aL:Addr}{bG:List V->Option V}(dC:P.glob s6=some (.ref aL))(dD:∀h,P.G h->∃o fd,h.get? aL=some o/\o.data= .func fd)(dF:aZ P n (.ref aL) bG){aN:Addr}(cq:P.glob s5=some (.ref aN))(bS:Ca P aN):{f:al->Option (al×Fl)//p5 P n oV (dz (aJ pq.main.body 4)) f}:=⟨_,(@ac _ _ _ _ _ _ _ (@aD _ _ _ 0 _ _ _ _ _ _ rfl (by decide) (bq rfl dC rfl dD dF (O (Z 0 rfl rfl rfl) ab ir) ir (cf _ _)) cp) (@ac _ _ _ _ _ _ _ (aD 1 rfl (by decide) aa cp) (@ac _ _ _ _ _ _ _ (@qd _ _ _ (false) _ _ _ _ _ _ _ (@nZ _ _ _ _ _ _ _ _ _ rfl cq rfl bS (O (ae (Z 0 rfl rfl rfl)) ab ir) ir (cf _ _)) (@da _ _ _ _ _ _ _ (ay (ap 2 rfl (by decide) (by decide)) (ay (ap 3 rfl (by decide) (by decide)) bX)) (aE (aE cH)) ir) (@ac _ _ _ _ _ _ _ (@aT _ _ _ _ _ _ _ _ _ _ (aR qR (ae (Z 3 rfl rfl rfl)) (aC rfl) rfl) (ac (iZ 1 rfl (by decide) rfl rfl vy aa) aj) (@ac _ _ _ _ _ _ _ (@aT _ _ _ _ _ _ _ _ _ _ (aR qR (ae (Z 3 rfl rfl rfl)) (aC rfl) rfl) (@ac _ _ _ _ _ _ _ (iZ 1 rfl (by decide) rfl rfl QR aa) (@ac _ _ _ _ _ _ _ (@aT _ _ _ _ _ _ _ _ _ _ (aR M9 (ae (Z 1 rfl rfl rfl)) aa rfl) (ac (aX df) aj) aj) aj)) aj) aj)) aj) cp) (@ac _ _ _ _ _ _ _ (@aX _ _ _ _ _ _ (kN qR (ae (Z 1 rfl rfl rfl)) aa rfl)) aj))))⟩
noncomputable def Ac(p:Nat):List (List Nat)->List (Nat×List Nat)
 |[]=>[]
 |u::us=>(p+u.length-1,u)::Ac (p+u.length) us
theorem Gl(p:Nat):Ac p []=[]:=rfl
theorem Ad(p:Nat)(u:List Nat)(us:List (List Nat)):Ac p (u::us)=(p+u.length-1,u)::Ac (p+u.length) us:=rfl
noncomputable def Ae(u:List Nat):Bool:=match u with
 |[c]=>c != 92
 |[c,_]=>c==92
 |_=>false
noncomputable def jP:List (List Nat)->Bool
 |[]=>true
 |[u]=>Ae u||u==[92]
 |u::us=>Ae u&&jP us
theorem oF:jP []=true:=rfl
theorem oG(u:List Nat):jP [u]=(Ae u||u==[92]):=rfl
theorem oH(u v:List Nat)(us:List (List Nat)):jP (u::v::us)=(Ae u&&jP (v::us)):=rfl
theorem Cp{u:List Nat}(h:Ae u=true)(p:Nat)(l:List Nat):gZ p false (u++l)=(p+u.length-1,u)::gZ (p+u.length) false l:=by
 cases u with
 |nil=>cases h
 |cons c u=>cases u with
  |nil=>
   have h:¬c=92:=fun e=>by rw[e]at h;cases h
   exact az h
  |cons d u=>cases u with
   |nil=>
    obtain rfl:=eq_of_beq h;rfl
   |cons=>cases h
theorem yp:∀(us:List (List Nat)) (p:Nat),jP us=true->gZ p false us.flatten=Ac p us
 |[],p,_=>rfl
 |[u],p,h=>by
  simp only[oF,oG,oH,m5,jT]at h;rcases h with h|rfl
  ·have:=Cp h p []
   simpa[Gl,Ad,zW,FW,zX,uE]using this
  ·simp[Gl,Ad,zW,FW,zX,uE]
 |u::v::us,p,h=>by
  simp only[oF,oG,oH,dI]at h;rw[gA,Cp h.1,yp (v::us) _ h.2];rfl
noncomputable def dG(st:List (List Nat)×Option (List (List Nat)))(u:List Nat):List (List Nat)×Option (List (List Nat)):=match st.2 with
 |none=>if u=[34]then(st.1,some [u])else(st.1++[u],none)
 |some q=>if u=[34]then(st.1,none)else(st.1,some (q++[u]))
noncomputable def gk(us:List (List Nat)):List (List Nat):=(us.foldl dG ([],none)).1++(us.foldl dG ([],none)).2.getD []
theorem wI(us:List (List Nat)):(gk us).flatten.length<=us.flatten.length:=by
 have go:∀(us:List (List Nat)) (st:List (List Nat)×Option (List (List Nat))),(us.foldl dG st).1.flatten.length+((us.foldl dG st).2.getD []).flatten.length<=st.1.flatten.length+(st.2.getD []).flatten.length+us.flatten.length:=by
  intro us
  induction us with
  |nil=>intro st;simp
  |cons u us ih=>
   intro st;rw[eJ];refine aA (ih _) ?_;obtain⟨k,q⟩:=st;have:(dG (k,q) u).1.flatten.length+((dG (k,q) u).2.getD []).flatten.length<=k.flatten.length+(q.getD []).flatten.length+u.length:=by
    cases q<;>simp only[dG]<;>split<;>simp[gr]<;>omega
   simp only[gA,List.length_append];omega
 have:=go us ([],none);unfold gk;simpa[gr]using this
noncomputable def Ends(f:al->Option (al×Fl))(ρ:al)(v:V):Prop:=∃aY,f ρ=some (aY,.ret v)
theorem bm{f g ρ am v}(h:f ρ=some (am,.next))(hg:Ends g am v):Ends (eO f g) ρ v:=by
 obtain⟨aY,e⟩:=hg;exact⟨aY,dy h e⟩
theorem ft{f g ρ v}(h:Ends f ρ v):Ends (eO f g) ρ v:=by
 obtain⟨aY,e⟩:=h;exact⟨aY,dy e rfl⟩
theorem iB{f g ρ v}(R:al->Prop)(h:∃r,f ρ=some r/\r.2= .next/\R r.1)(hg:∀am,R am->Ends g am v):Ends (eO f g) ρ v:=by
 obtain⟨⟨am,fl⟩,e,rfl,q⟩:=h;exact bm e (hg _ q)
theorem wJ{f g ρ v}(h:∃r,f ρ=some r/\(r.2= .ret v\/(r.2= .next/\Ends g r.1 v))):Ends (eO f g) ρ v:=by
 obtain⟨⟨am,fl⟩,e,h⟩:=h;dsimp only at h;rcases h with rfl|⟨rfl,h⟩
 ·exact ft ⟨_,e⟩
 ·exact bm e h
theorem iP{it asg bf}{ρ:al}{xs:List V}{Q:al×Fl->Prop}(hi:it ρ=some xs)(h:∃r,fg asg bf xs ρ=some r/\Q r):∃r,Ha it asg bf ρ=some r/\Q r:=by
 obtain⟨r,e,q⟩:=h;exact⟨r,by simp[Ha,hi,e],q⟩
noncomputable def td(f:al->Option (al×Fl))(ρ:al)(Q:V->Prop):Prop:=∃v,Q v/\Ends f ρ v
theorem fu{f g ρ am Q}(h:f ρ=some (am,.next))(hg:td g am Q):td (eO f g) ρ Q:=let⟨v,q,e⟩:=hg;⟨v,q,bm h e⟩
theorem wK{f g ρ Q}(h:td f ρ Q):td (eO f g) ρ Q:=let⟨v,q,e⟩:=h;⟨v,q,ft e⟩
theorem tW{f g ρ Q}(R:al->Prop)(h:∃r,f ρ=some r/\r.2= .next/\R r.1)(hg:∀am,R am->td g am Q):td (eO f g) ρ Q:=by
 obtain⟨⟨am,fl⟩,e,rfl,q⟩:=h;exact fu e (hg _ q)
theorem jA{i:Nat}{f:al->Option V}{g ρ Q}{v:V}(h:f ρ=some v)(hg:td g (upd ρ i v) Q):td (eO (fun ρ=>Option.map (fun y=>(upd ρ i y,.next)) (f ρ)) g) ρ Q:=fu (bh h rfl) hg
theorem yq{f:al->Option V}{g ρ}{Q:V->Prop}{v:V}(h:f ρ=some v)(q:Q v):td (eO (fun ρ=>Option.map (fun x=>(ρ,.ret x)) (f ρ)) g) ρ Q:=wK ⟨v,q,ρ,bh h rfl⟩
theorem gm{i:Nat}{f:al->Option V}{g ρ v}{x:V}(h:f ρ=some x)(hg:Ends g (upd ρ i x) v):Ends (eO (fun ρ=>Option.map (fun y=>(upd ρ i y,.next)) (f ρ)) g) ρ v:=bm (bh h rfl) hg
theorem eS{f:al->Option V}{g ρ}{v:V}(h:f ρ=some v):Ends (eO (fun ρ=>Option.map (fun x=>(ρ,.ret x)) (f ρ)) g) ρ v:=ft ⟨ρ,bh h rfl⟩
theorem oJ:∀ts:List (List Nat),nR [] ts=ts.flatten
 |[]=>rfl
 |[x]=>by simp[jk,jl,jm]
 |x::y::r=>by simp[jk,jl,jm,oJ (y::r)]
theorem i2:∀ts:List (List Nat),j0 (ts.map .str)=some ts
 |[]=>rfl
 |x::r=>by simp[Js,Jt,i2 r]
theorem joinOk_of(sep:List Nat)(ts:List (List Nat))(h:ts.flatten.length+ts.length*sep.length<=1000000):JoinOk (pyStr sep) (ts.map pyStr)=true:=by
 unfold JoinOk;have e:∀(l:List (List Nat)) (k:Nat),(l.map pyStr).foldl (fun(n:Nat) (x:Str)=>n+x.length+(pyStr sep).length) k=k+(l.flatten.length+l.length*sep.length):=by
  intro l
  induction l with
  |nil=>intro k;simp
  |cons x l ih=>
   intro k;simp only[bn,eJ,ih,gA,List.length_append,bA];have e1:(pyStr x).length=x.length:=by simp[pyStr,Str.length]
   have e2:(pyStr sep).length=sep.length:=by simp[pyStr,Str.length]
   rw[e1,e2,Nat.add_one_mul];omega
 have e3:Builtin.Str.tooLong ((ts.map pyStr).toArray.foldl (fun n x=>n+x.length+(pyStr sep).length) 0)=false:=by
  rw[List.foldl_toArray];rw[e];unfold Builtin.Str.tooLong;rw[gQ];simp only[uV,kJ,gt_iff_lt];omega
 rw[e3];rfl
theorem EJ(l:List Nat){s e f:Nat}(h1:s<=e)(h2:e<=f):sl l s e++sl l e f=sl l s f:=by
 unfold sl;have:f-s=(e-s)+(f-e):=(Nat.sub_add_sub_cancel h2 h1).symm.trans (Nat.add_comm _ _);rw[this,List.take_add,List.drop_drop];rw[ve h1]
theorem Af(l:List Nat)(s:Nat):sl l s s=[]:=by simp[sl]
theorem Ol{l l' us:List (List Nat)}{u:List Nat}(h:l++u::l'=us):sl us.flatten l.flatten.length (l.flatten.length+u.length)=u/\l.flatten.length+u.length<=us.flatten.length:=by
 rw[<-h,gr,gA];unfold sl;rw[List.drop_left,Nat.add_sub_cancel_left,List.take_left,List.length_append,List.length_append];exact⟨rfl,by omega⟩
theorem wL:∀(us:List (List Nat)) (k:List (List Nat)),(∀u∈us,u≠[34])->us.foldl dG (k,none)=(k++us,none)
 |[],k,_=>by simp
 |u::us,k,h=>by
  rw[eJ];have:dG (k,none) u=(k++[u],none):=by simp[dG,h u dJ]
  rw[this,wL us _ fun v hv=>h v (cw _ hv)];simp
inductive Lz(us:List (List Nat))(n p:Nat)(ρ:al):List (List Nat)×Option (List (List Nat))->Prop
 |no {k} (s:Nat) (res:List (List Nat)) (h0:ρ 0=some (.str us.flatten)) (h1:ρ 1=some (.int s)) (h2:ρ 2=some .none) (h3:ρ 3=some (.list (res.map .str))) (hl:res.length<=n) (hs:s<=p) (hk:res.flatten++sl us.flatten s p=k.flatten):Lz us n p ρ (k,none)
 |op {k q} (s o:Nat) (res:List (List Nat)) (h0:ρ 0=some (.str us.flatten)) (h1:ρ 1=some (.int s)) (h2:ρ 2=some (.int o)) (h3:ρ 3=some (.list (res.map .str))) (hl:res.length<=n) (hs:s<=o) (ho:o<p) (hk:res.flatten++sl us.flatten s o=k.flatten) (hq:sl us.flatten o p=q.flatten):Lz us n p ρ (k,some q)
theorem Lz.last{us:List (List Nat)}{n:Nat}{ρ:al}{st}{C:Prop}(h:Lz us n us.flatten.length ρ st)(k:∀(s:Nat) (res:List (List Nat)),ρ 0=some (.str us.flatten)->ρ 1=some (.int s)->ρ 3=some (.list (res.map .str))->res.length<=n->s<=us.flatten.length->res.flatten++sl us.flatten s us.flatten.length=(st.1++st.2.getD []).flatten->C):C:=by
 cases h with
 |no s res h0 h1 h2 h3 hl hs hk=>exact k s res h0 h1 h3 hl hs (hk.trans (by rw[Option.getD_none,gn]))
 |op s o res h0 h1 h2 h3 hl hs ho hk hq=>exact k s res h0 h1 h3 hl (aA hs (eY ho)) (by rw[<-EJ us.flatten hs (eY ho),<-List.append_assoc,hk,hq,kM,gr])
theorem Sv{us:List (List Nat)}{res:List (List Nat)}{s e:Nat}{k:List (List Nat)}(hk:res.flatten++sl us.flatten s e=k.flatten):(res++[sl us.flatten s e]).flatten=k.flatten:=by
 rw[gr,nD,hk]
theorem LA{us:List (List Nat)}{r:List Nat}{e:Nat}{k:List Nat}(hk:r=k):r++sl us.flatten e e=k:=by rw[Af,gn,hk]
theorem Cq{us res:List (List Nat)}(h:res.flatten=(gk us).flatten)(hl:us.flatten.length<=10000){ρ:al}(h3:ρ 3=some (.list (res.map .str))):Q1 tM (fun ø=>some (.str [])) (aQ (fun ρ=>ρ 3) fun ø=>some []) ρ=some (.str (gk us).flatten):=by
 have hf:res.flatten.length<=1000000:=by rw[h];exact aA (wI us) (aA hl (by decide))
 unfold Q1 aQ;dsimp only;rw[h3,cR,cR,cR,cR,uD,i2,cR,aw (joinOk_of [] res (by simpa using hf)),oJ,h]
theorem LB{res:List (List Nat)}{n:Nat}(x:V)(h:res.length<=n)(hn:n<=10000):DX (.list (res.map .str)) [x]=some (.list (res.map .str++[x]),.none):=l3 _ _ (by rw[bi];exact gR h (gR hn (by decide)))
theorem EK{us:List (List Nat)}{f:al->Option V}{ρ:al}(h0:f ρ=some (.str us.flatten))(hm:us.flatten.length<=most)(h:jP us=true):((aQ f fun ø=>some []) ρ).bind Sc=some ((Ac 0 us).map mG):=
 dy (aq h0 rfl) (by rw[Sd,aw hm,yp us 0 h])
theorem tX{asg:al->V->Option al}{body:al->Option (al×Fl)}(ws:List (List Nat))(I:List (List Nat)->al->Prop)(E:al×Fl->Prop)
  (step:∀l u l' ρ,l++u::l'=ws->I l ρ->∃am,asg ρ (mG (l.flatten.length+u.length-1,u))=some am/\∃r,body am=some r/\VY (I (l++[u])) E r) (done:∀ρ,I ws ρ->E (ρ,.next)) {ρ:al} (h0:I [] ρ):∃r,fg asg body ((Ac 0 ws).map mG) ρ=some r/\E r:=by
 have go:∀(l' l:List (List Nat)) ρ,l++l'=ws->I l ρ->∃r,fg asg body ((Ac l.flatten.length l').map mG) ρ=some r/\E r:=by
  intro l'
  induction l' with
  |nil=>exact fun l ρ e h=>⟨_,rfl,done ρ (by rw[<-e,gn];exact h)⟩
  |cons u l' ih=>
   intro l ρ e h;obtain⟨am,h1,r,h2,h3⟩:=step l u l' ρ e h;rw[Ad,bn,vp,h1,cR,h2,cR]
   cases h3 with
   |nx h=>
    have:=ih (l++[u]) _ (by rw[List.append_assoc];exact e) h;rwa[gr,nD,List.length_append]at this
   |br h=>exact⟨_,rfl,h⟩
   |rt h=>exact⟨_,rfl,h⟩
 exact go ws [] ρ rfl h0
theorem wM{asg:al->V->Option al}{body:al->Option (al×Fl)}(ws:List (List Nat))(I:List (List Nat)->al->Prop)
  (step:∀l u l' ρ,l++u::l'=ws->I l ρ->∃am fk,asg ρ (mG (l.flatten.length+u.length-1,u))=some am/\body am=some (fk,.next)/\I (l++[u]) fk) {ρ:al} (h0:I [] ρ):∃r,fg asg body ((Ac 0 ws).map mG) ρ=some r/\r.2= .next/\I ws r.1:=
 tX ws I _ (fun l u l' ρ e h=>by
  obtain⟨am,fk,h1,h2,h3⟩:=step l u l' ρ e h;exact⟨am,h1,_,h2,.nx h3⟩) (fun ρ h=>⟨rfl,h⟩) h0
theorem uJ(l:List (List Nat))(u:List Nat):(l++[u]).flatten=l.flatten++u:=by rw[gr,nD]
theorem HL{P:Pk}{n:Nat}{a:Addr}{g gen gl}{us:List (List Nat)}(h:jP us=true)(hl:us.flatten.length<=10000)(hn:us.length<=10000){ρ:al}(h0:ρ 0=some (.str us.flatten)):
  Ends (dS (P:=P) (n:=n) (aN:=a) g gen gl).1 ρ (.str (gk us).flatten):=by
 have hm:us.flatten.length<=most:=aA hl (by decide);unfold dS;by_cases hq:34∈us.flatten
 case neg=>
  refine ft ⟨ρ,tc (ba rfl h0 (congrArg (fun b=>some !b) (mB hq))) ?_⟩;have e:gk us=us:=by
   unfold gk;rw[wL us [] fun u hu z=>hq (List.mem_flatten.mpr ⟨u,hu,by rw[z];exact List.mem_singleton_self _⟩)];exact gn _
  rw[e];dsimp only[eO];rw[h0];rfl
 refine bm (am:=ρ) (j5 (ba rfl h0 (congrArg (fun b=>some !b) (eK hq))) rfl) (bm rfl (bm rfl (bm rfl ?_)));refine iB (fun ρ=>Lz us us.length us.flatten.length ρ (us.foldl dG ([],none))) (iP (EK h0 hm h) (wM us (fun l ρ=>Lz us l.length l.flatten.length ρ (l.foldl dG ([],none))) (fun l u l' ρ hx hR=>?_) (.no 0 [] h0 rfl rfl rfl (cF _) (cF _) rfl))) fun am hR=>?_
 ·obtain⟨hsu,sk⟩:=Ol hx
  have de:l.length<us.length:=by rw[<-hx,List.length_append];exact DJ (nv _)
  rw[uJ,List.length_append,List.length_append,m4,eJ,pY];generalize l.foldl dG ([],none)=st at*;generalize l.flatten.length=p at*;generalize l.length=i at*;by_cases Om:u=[34]
  ·subst Om
   cases hR with
   |no s res h0 h1 h2 h3 hl hs hk=>exact ex4 ρ h0 h1 h2 h3 fun σ=>⟨_,_,rfl,rfl,Lz.op s p res rfl rfl rfl rfl (i6 hl) hs (mV p) hk (hsu.trans rfl)⟩
   |op s o res h0 h1 h2 h3 hl hs ho hk hq=>
    by_cases hz:s=o
    ·subst hz
     exact ex4 ρ h0 h1 h2 h3 fun σ=>⟨_,_,rfl,bO (tc rfl (bO (j5 rfl (bO (j5 (ba rfl rfl (P4 rfl)) rfl) rfl)) rfl)) rfl,Lz.no (p+1) res rfl rfl rfl rfl (i6 hl) (cF _) (LA (by rw[<-hk,Af,gn]))⟩
    ·exact ex4 ρ h0 h1 h2 h3 fun σ=>⟨_,_,rfl,bO (tc rfl (bO (j5 rfl (bO (tc (ba rfl rfl (neT fun e=>hz (rV e))) (bO (bh (pv rfl (HI us.flatten s o (by omega) (by omega) hm) (LB _ hl (by omega))) rfl) rfl)) rfl)) rfl)) rfl,Lz.no (p+1) (res++[sl us.flatten s o]) rfl rfl rfl (by rw[List.map_append];rfl) (by rw[List.length_append];exact i7 hl) (cF _) (LA (Sv hk))⟩
  ·have hb:(u==[34])=false:=pd.mpr Om
   cases hR with
   |no s res h0 h1 h2 h3 hl hs hk=>
    have e:dG (k,none) u=(k++[u],none):=az Om;rw[e];exact ex4 ρ h0 h1 h2 h3 fun σ=>⟨_,_,rfl,bO (j5 (congrArg some hb) rfl) rfl,Lz.no s res rfl rfl rfl rfl (i6 hl) (by omega) (by rw[<-EJ us.flatten hs (nr p u.length),hsu,<-List.append_assoc,hk,gr,nD])⟩
   |op s o res h0 h1 h2 h3 hl hs ho hk hq=>
    have e:dG (k,some q) u=(k,some (q++[u])):=az Om;rw[e];exact ex4 ρ h0 h1 h2 h3 fun σ=>⟨_,_,rfl,bO (j5 (congrArg some hb) rfl) rfl,Lz.op s o res rfl rfl rfl rfl (i6 hl) hs (by omega) hk (by rw[<-EJ us.flatten (eY ho) (nr p u.length),hsu,hq,gr,nD])⟩
 ·exact hR.last fun s res h0 h1 h3 hr hs hk=>ex3 am h0 h1 h3 fun σ=>by
   by_cases de:s<us.flatten.length
   ·exact bm (tc (ba rfl (bJ rfl (oe _ hm)) (congrArg some (eK (nC.mpr de)))) (bO (bh (pv rfl (Cn us.flatten s hs hm) (LB _ hr hn)) rfl) rfl)) (ft ⟨_,bh (Cq (res:=res++[sl us.flatten s us.flatten.length]) (by rw[gr,nD,hk];rfl) hl (by rw[List.map_append];rfl)) rfl⟩)
   ·obtain rfl:s=us.flatten.length:=Nat.le_antisymm hs (yK de)
    rw[Af,gn]at hk;exact bm (j5 (ba rfl (bJ rfl (oe _ hm)) (congrArg some (mB fun e=>de (nC.mp e)))) rfl) (ft ⟨_,bh (Cq (res:=res) (hk.trans rfl) hl rfl) rfl⟩)
noncomputable def om(d:Nat)(u:List Nat):Sum Nat Unit:=if u=[40]then .inl (d+1)else if u=[41]then(if d=0 then .inr ()else .inl (d-1))else .inl d
noncomputable def qh(us:List (List Nat)):Bool:=match bg om us 0 with
 | .inl d=>d==0
 | .inr _=>false
theorem HM{P:Pk}{n:Nat}{a a':Addr}{F g h c g' gen}{us ws:List (List Nat)}{t:List Nat}(hF:F [.str t]=some (.str ws.flatten))(hs:jP ws=true)(hl:ws.flatten.length<=10000){ρ:al}(h0:ρ 0=some (.str t)):
  Ends (fY (P:=P) (n:=n) (aL:=a) (bG:=F) (aN:=a') g h c g' gen).1 ρ (.bool (qh ws)):=by
 have hm:ws.flatten.length<=most:=aA hl (by decide);unfold fY;refine gm (bJ h0 hF) (bm rfl (wJ (iP (EK rfl hm hs) (tX ws (fun l ρ=>∃d:Nat,ρ 1=some (.int d)/\bg om l 0= .inl d) _ (fun l u l' ρ hx hR=>?_) (fun ρ hR=>.inr ⟨rfl,?_⟩) ⟨0,rfl,rfl⟩))))
 ·obtain⟨d,hd,hf⟩:=hR
  by_cases e1:u=[40]
  ·subst e1
   exact ex1 ρ hd fun σ=>⟨_,rfl,_,rfl,.nx ⟨d+1,rfl,dR hf rfl⟩⟩
  ·have c1:(u==[40])=false:=pd.mpr e1
   by_cases e2:u=[41]
   ·subst e2
    cases d with
    |zero=>
     have e:qh ws=false:=by unfold qh;rw[<-hx,ln hf rfl]
     exact ex1 ρ hd fun σ=>⟨_,rfl,_,rfl,.rt (.inl (by rw[e]))⟩
    |succ k=>exact ex1 ρ hd fun σ=>⟨_,rfl,_,bO (j5 rfl (bO (tc rfl (bO rfl (bO (j5 (congrArg some (mB (by omega))) rfl) rfl))) rfl)) rfl,.nx ⟨k,congrArg (fun z=>some (V.int z)) (by omega),dR hf rfl⟩⟩
   ·have c2:(u==[41])=false:=pd.mpr e2
    exact ex1 ρ hd fun σ=>⟨_,rfl,_,bO (j5 (congrArg some c1) (bO (j5 (congrArg some c2) rfl) rfl)) rfl,.nx ⟨d,rfl,dR hf ((az e1).trans (az e2))⟩⟩
 ·obtain⟨d,hd,hf⟩:=hR
  have e:qh ws=(d==0):=by unfold qh;rw[hf]
  rw[e];exact eS (bh (ba hd rfl (jz _ _)) (by cases d<;>rfl))
noncomputable def qj:Cx:={vars:=[(IQ,.local,false),(Qp,.local,false),(M1,.local,false),(⟨#[98,97,115,101,115]⟩,.local,false),(⟨#[101,100,103,101,115]⟩,.local,false),(⟨#[117,110,115,101,101,110]⟩,.local,false),(⟨#[98,97,115,101]⟩,.cell,false),(⟨#[108,105,103,97,116,117,114,101]⟩,.local,false),(⟨#[115,105,103,110,115]⟩,.local,true)],aM:=[Yk,AQ,WS]}
noncomputable def xJ:Cx:={vars:=[(⟨#[108,101,116,116,101,114]⟩,.local,false),(⟨#[98,97,115,101]⟩,.cell,false)],aM:=[WS,Yl]}
noncomputable def jB{P:Pk}{n:Nat}(wN:P.glob Yk=some (.type "list"))(bz:P.glob AQ=some (.type "range"))(ry:P.glob WS=some (.builtin "chr"))(wO:P.glob Yl=some (.builtin "ord")):{f:al->Option (al×Fl)//p5 P n qj (dz (aJ pq.main.body 63)) f}:=⟨_,(@ac _ _ _ _ _ _ _ (@aD _ _ _ 3 _ _ _ _ _ _ rfl (by decide) (@eR _ _ _ _ _ _ _ (@O _ _ _ _ _ _ _ _ aa (@O _ _ _ _ _ _ _ _ aa (@O _ _ _ _ _ _ _ _ aa (@O _ _ _ _ _ _ _ _ aa (@O _ _ _ _ _ _ _ _ aa (@O _ _ _ _ _ _ _ _ aa (@O _ _ _ _ _ _ _ _ aa (@O _ _ _ _ _ _ _ _ aa (@O _ _ _ _ _ _ _ _ aa (@O _ _ _ _ _ _ _ _ aa (@O _ _ _ _ _ _ _ _ aa (O aa ab ir) ir) ir) ir) ir) ir) ir) ir) ir) ir) ir) ir) (by decide) (@af _ _ _ (@af _ _ _ (@af _ _ _ (@af _ _ _ (@af _ _ _ (@af _ _ _ (@af _ _ _ (@af _ _ _ (@af _ _ _ (@af _ _ _ (af (af len0))))))))))))) cp) (@ac _ _ _ _ _ _ _ (@aD _ _ _ 4 _ _ _ _ _ _ rfl (by decide) (@eR _ _ _ _ _ _ _ (@O _ _ _ _ _ _ _ _ aa (@O _ _ _ _ _ _ _ _ aa (@O _ _ _ _ _ _ _ _ aa (@O _ _ _ _ _ _ _ _ aa (@O _ _ _ _ _ _ _ _ aa (@O _ _ _ _ _ _ _ _ aa (@O _ _ _ _ _ _ _ _ aa (@O _ _ _ _ _ _ _ _ aa (@O _ _ _ _ _ _ _ _ aa (@O _ _ _ _ _ _ _ _ aa (@O _ _ _ _ _ _ _ _ aa (@O _ _ _ _ _ _ _ _ aa (@O _ _ _ _ _ _ _ _ aa (@O _ _ _ _ _ _ _ _ aa (@O _ _ _ _ _ _ _ _ aa (O aa ab ir) ir) ir) ir) ir) ir) ir) ir) ir) ir) ir) ir) ir) ir) ir) ir) (by decide) (@af _ _ _ (@af _ _ _ (@af _ _ _ (@af _ _ _ (@af _ _ _ (@af _ _ _ (@af _ _ _ (@af _ _ _ (@af _ _ _ (@af _ _ _ (@af _ _ _ (@af _ _ _ (@af _ _ _ (@af _ _ _ (af (af len0))))))))))))))))) cp) (@ac _ _ _ _ _ _ _ (@aD _ _ _ 5 _ _ _ _ _ _ rfl (by decide) (@ai _ _ _ _ _ _ _ _ _ _ _ cy (@eR _ _ _ _ _ _ _ (@O _ _ _ _ _ _ _ _ aa (@O _ _ _ _ _ _ _ _ aa (@O _ _ _ _ _ _ _ _ aa (@O _ _ _ _ _ _ _ _ aa (@O _ _ _ _ _ _ _ _ aa (@O _ _ _ _ _ _ _ _ aa (@O _ _ _ _ _ _ _ _ aa (@O _ _ _ _ _ _ _ _ aa (@O _ _ _ _ _ _ _ _ aa (@O _ _ _ _ _ _ _ _ aa (O aa ab ir) ir) ir) ir) ir) ir) ir) ir) ir) ir) ir) (by decide) (@af _ _ _ (@af _ _ _ (@af _ _ _ (@af _ _ _ (@af _ _ _ (@af _ _ _ (@af _ _ _ (@af _ _ _ (@af _ _ _ (af (af len0)))))))))))) (@dL _ _ _ _ _ _ (@um _ _ _ _ _ _ _ _ _ rfl bz rfl wN (@O _ _ _ _ _ _ _ _ aa (O aa ab ir) ir) ir ir))) cp) (@ac _ _ _ _ _ _ _ (@aD _ _ _ 6 _ _ _ _ _ _ rfl (by decide) (@aF _ _ _ _ _ _ _ _ _ (Z 3 rfl rfl rfl) (@ai _ _ _ _ _ _ _ _ _ _ _ f6 (@ai _ _ _ _ _ _ _ _ _ _ _ ja (ae (Z 2 rfl rfl rfl)) aa) aa) cp) cp) (@ac _ _ _ _ _ _ _ (@aD _ _ _ 7 _ _ _ _ _ _ rfl (by decide) (@ai _ _ _ _ _ _ _ _ _ _ _ f6 (ai ja (Z 1 rfl rfl rfl) aa) aa) cp) (@ac _ _ _ _ _ _ _ (@aT _ _ _ _ _ _ _ _ _ _ (@aR _ _ _ _ _ _ _ _ _ _ M9 (@ai _ _ _ _ _ _ _ _ _ _ _ ja (ae (Z 0 rfl rfl rfl)) aa) aa rfl) (@ac _ _ _ _ _ _ _ (@dh _ _ _ 8 _ _ _ _ _ _ rfl (by decide) (@vF _ _ _ _ _ _ _ _ (@vD _ _ _ _ _ (@eR _ _ _ _ _ _ _ (@O _ _ _ _ _ _ _ _ (@aI _ _ _ _ _ _ _ _ _ _ _ rfl ry rfl Bl (@O _ _ _ _ _ _ _ _ (@ai _ _ _ _ _ _ _ _ _ _ _ cy (Z 6 rfl rfl rfl) (ai f6 (Z 1 rfl rfl rfl) aa)) ab ir) ir (cf _ _)) ab ir) (by decide) (af len0))) (@vD _ _ _ _ _ (@ai _ _ _ _ _ _ _ _ _ _ _ tB (@eR _ _ _ _ _ _ _ (@O _ _ _ _ _ _ _ _ (@aI _ _ _ _ _ _ _ _ _ _ _ rfl ry rfl Bl (@O _ _ _ _ _ _ _ _ (@aF _ _ _ _ _ _ _ _ _ (Z 4 rfl rfl rfl) (@ai _ _ _ _ _ _ _ _ _ _ _ f6 (@ai _ _ _ _ _ _ _ _ _ _ _ ja (ae (Z 1 rfl rfl rfl)) aa) aa) cp) ab ir) ir (cf _ _)) ab ir) (by decide) (af len0)) (ai ja (Z 0 rfl rfl rfl) aa)))) cp) aj) (@ac _ _ _ _ _ _ _ (@aT _ _ _ _ _ _ _ _ _ _ (@aR _ _ _ _ _ _ _ _ _ _ qR (@ai _ _ _ _ _ _ _ _ _ _ _ f6 (@ai _ _ _ _ _ _ _ _ _ _ _ ja (ae (Z 2 rfl rfl rfl)) aa) aa) aa rfl) (@ac _ _ _ _ _ _ _ (@dh _ _ _ 8 _ _ _ _ _ _ rfl (by decide) (@fT _ _ _ _ _ _ (@O _ _ _ _ _ _ _ _ (@aI _ _ _ _ _ _ _ _ _ _ _ rfl ry rfl Bl (@O _ _ _ _ _ _ _ _ (ai cy aa (Z 7 rfl rfl rfl)) ab ir) ir (cf _ _)) ab ir) (by decide) (af len0)) cp) aj) (@ac _ _ _ _ _ _ _ (@gY _ _ _ (xJ) 8 _ _ _ _ _ _ _ _ _ _ _ _ _ _ (1) ([6]) rfl (@bQ _ _ _ _ _ (@aF _ _ _ _ _ _ _ _ _ (@eR _ _ _ _ _ _ _ (@O _ _ _ _ _ _ _ _ (aC rfl) (@O _ _ _ _ _ _ _ _ (aC rfl) (@O _ _ _ _ _ _ _ _ (aC rfl) (@O _ _ _ _ _ _ _ _ (aC rfl) (@O _ _ _ _ _ _ _ _ (aC rfl) (@O _ _ _ _ _ _ _ _ (aC rfl) (O (aC rfl) ab ir) ir) ir) ir) ir) ir) ir) (by decide) (@af _ _ _ (@af _ _ _ (@af _ _ _ (@af _ _ _ (@af _ _ _ (af (af len0)))))))) (ae (Z 7 rfl rfl rfl)) cp)) (bB (by decide+kernel)) (ap 0 rfl (by decide) (by decide)) bY (@aI _ _ _ _ _ _ _ _ _ _ _ rfl ry rfl Bl (@O _ _ _ _ _ _ _ _ (@ai _ _ _ _ _ _ _ _ _ _ _ tA (@ai _ _ _ _ _ _ _ _ _ _ _ cy (Z 1 rfl rfl rfl) (@aI _ _ _ _ _ _ _ _ _ _ _ rfl wO rfl Jo (O (Z 0 rfl rfl rfl) ab ir) ir (cf _ _))) aa) ab ir) ir (cf _ _)) cp rfl rfl) aj)) aj)) (@ac _ _ _ _ _ _ _ (@aT _ _ _ _ _ _ _ _ _ _ (@aR _ _ _ _ _ _ _ _ _ _ vl (@ai _ _ _ _ _ _ _ _ _ _ _ f6 (@ai _ _ _ _ _ _ _ _ _ _ _ ja (ae (Z 2 rfl rfl rfl)) aa) aa) aa rfl) (@ac _ _ _ _ _ _ _ (@di _ _ _ _ _ _ (@cu _ _ _ 8 _ _ _ _ _ _ _ _ _ rfl rfl rfl Ua (@O _ _ _ _ _ _ _ _ aa (@O _ _ _ _ _ _ _ _ (@aI _ _ _ _ _ _ _ _ _ _ _ rfl ry rfl Bl (@O _ _ _ _ _ _ _ _ (@aF _ _ _ _ _ _ _ _ _ (Z 5 rfl rfl rfl) (@ai _ _ _ _ _ _ _ _ _ _ _ f6 (@ai _ _ _ _ _ _ _ _ _ _ _ ja (ae (Z 2 rfl rfl rfl)) aa) aa) cp) ab ir) ir (cf _ _)) ab ir) ir) ir (by decide) rfl ir) K6 ir) aj) aj) (@ac _ _ _ _ _ _ _ (@aX _ _ _ _ _ _ (@eE _ _ _ _ _ _ _ _ _ _ _ _ (aC rfl) qW (O (cG 8 rfl rfl rfl) ab ir) ir (by decide) rfl ir)) aj))))))))⟩
noncomputable def jC:List Int:=[97,65,119808,119860,119912,120016,120172,120224,120276,120328,120380,120432]
noncomputable def fZ:List Int:=[172,174,846,848,6149,6151,6154,6158,8202,8206,8287,8289,65023,65040,65278,65280]
noncomputable def ib:List Int:=[173,847,6150,6155,6156,6157,8203,8204,8205,8288,65279]++(List.range 16).map fun(i:Nat)=>(65024+i:Int)
noncomputable def j6:List (List Nat):=[[102,102],[102,105],[102,108],[102,102,105],[102,102,108],[115,116],[115,116]]
theorem Gm{c:Int}(h0:0<=c)(h1:c<200000):Eb [.int c]=some (.str [c.toNat]):=by
 rw[QV];rw[aw (by omega)]
structure CM where
 f:Nat->List Nat
 base:∀b∈jC,∀i:Nat,i<26->f (b.toNat+i)=[97+i]
 edge:∀e∈fZ,f e.toNat=[e.toNat]
 unseen:∀u∈ib,f u.toNat=[]
 sign:∀c∈[40,41,91,93,123,125,34,92],f c=[c]
 lig:∀j:Nat,j<7->f (64256+j)=j6[j]?.getD []
noncomputable def LC(c:Nat):Bool:=c != 92&&c != 34&&c != 40&&c != 41&&c != 32&&c != 9&&decide ((oS [c]).length<10)
noncomputable def fw(kind total:Int):List Nat:=if kind/3=0 then [(97+total % 26).toNat]else if kind/3=1 then [(97+total % 26).toNat,(fZ[(total/26 % 16).toNat]?.getD 0).toNat]else j6[(total/416 % 7).toNat]?.getD []
structure bT(M:CM)(N l:List Nat):Prop where
 ne:l≠[]
 len:l.length<=4
 ok:l.all LC=true
 map:(l.map M.f).flatten=N
theorem On:(jC.all fun b=>(List.range 26).all fun i=>LC (b.toNat+i))=true:=by decide+kernel
theorem Oo:(fZ.all fun b=>LC b.toNat)=true:=by decide+kernel
theorem HN:(ib.all fun b=>LC b.toNat)=true:=by decide+kernel
theorem Sw:((List.range 7).all fun b=>LC (64256+b))=true:=by decide+kernel
theorem EL:((jC++fZ++ib).all fun b=>decide (0<=b)&&decide (b<130000))=true:=by decide+kernel
noncomputable abbrev Sx(l:List Nat):V:=.list (l.map fun c=>.str [c])
theorem wP{l:List Nat}(h:l.length<=4):tM (.str []) [Sx l]=some (.str l):=by
 have e:(l.map fun c=>V.str [c])=(l.map fun c=>[c]).map .str:=by rw[dK];rfl
 have e2:∀l:List Nat,(l.map fun c=>[c]).flatten=l:=fun l=>by
  induction l with
  |nil=>rfl
  |cons x l ih=>rw[bn,gA,ih];rfl
 rw[Sx,e,uD,i2,cR,aw (joinOk_of [] _ (by rw[e2,eZ,pT];exact aA h (by decide))),oJ,e2]
theorem Op(a u:Nat){r:List Nat}(h:(a::r).length<=4):Nj (Sx (a::r)) [.int 1,.str [u]]=some (Sx (a::u::r),.none):=by
 have e:min (1:Int).toNat ((a::r).map fun c=>V.str [c]).length=1:=y4 (by rw[bn,bA];exact i7 (dU _));rw[Sx,QI,aw ⟨by decide,by decide,by rw[bi];exact gR h (by decide)⟩,e];rfl
theorem bT.ins{M:CM}{N:List Nat}{a:Nat}{r:List Nat}(h:bT M N (a::r))(h3:(a::r).length<=3){u:Int}(hu:u∈ib):bT M N (a::u.toNat::r):=by
 obtain⟨_,_,ok,map⟩:=h;refine⟨cf _ _,i7 h3,?_,?_⟩
 ·rw[r0]at ok ⊢
  rw[r0,cD.mp HN u hu];exact ok
 ·rw[bn,bn,M.unseen u hu]
  exact map
theorem rz{b:Int}(h:b∈jC++fZ++ib){i:Int}(h0:0<=i)(h1:i<26):Eb [.int (b+i)]=some (.str [(b+i).toNat])/\(b+i).toNat=b.toNat+i.toNat:=by
 obtain⟨h2,h3⟩:=(dI _ _).mp (cD.mp EL b h);have h2:=mC h2;have h3:=mC h3;exact⟨Gm (Int.add_nonneg h2 h0) (by omega),Int.toNat_add h2 h0⟩
theorem Gn{b:Int}(hb:b∈jC){i:Nat}(hi:i<26):LC (b.toNat+i)=true:=cD.mp (cD.mp On b hb) i (gD.mpr hi)
theorem Sy{M:CM}{kind total b e:Int}(hk:kind/3=0\/kind/3=1)(hb:b∈jC)(he:e∈fZ)(hge:fZ[(total/26 % 16).toNat]?=some e):∃es:List Nat,es.length<=1/\xv (.list [.str [(e+0).toNat]]) (.int (kind/3))=some (Sx es)/\bT M (fw kind total) ((b+total % 26).toNat::es):=by
 have h26:(total % 26).toNat<26:=by omega
 have h97:(97+total % 26).toNat=97+(total % 26).toNat:=by omega
 have hm:=M.base b hb _ h26;have ho:=Gn hb h26;rw[(rz (i:=total % 26) (bj _ (bj _ hb)) (by omega) (by omega)).2,Int.add_zero];rcases hk with q|q
 ·exact⟨[],by decide,by rw[q];rfl,cf _ _,(show 1<=4 by decide),by rw[r0,ho];rfl,by rw[fw,aw q,h97,bn,hm];rfl⟩
 ·exact⟨[e.toNat],cF 1,by rw[q];rfl,cf _ _,(show 2<=4 by decide),by rw[r0,ho,r0,cD.mp Oo e he];rfl,by rw[fw,az (by rw[q];decide),aw q,h97,bn,hm,bn,M.edge e he,hge];rfl⟩
theorem Sz{M:CM}{kind total:Int}(h0:¬kind/3=0)(h1:¬kind/3=1){j:Nat}(hj:j<7)(e:total/416 % 7=j):bT M (fw kind total) [64256+j]:=by
 refine⟨cf _ _,(show 1<=4 by decide),by rw[r0,cD.mp Sw j (gD.mpr hj)];rfl,?_⟩;rw[fw,az h0,az h1,e,bn,M.lig j hj,nq,nD,qN]
theorem Oq:(j6.all fun l=>decide (l≠[])&&decide (l.length<=3)&&l.all fun c=>decide (97<=c)&&decide (c<123))=true:=by decide+kernel
theorem V1{M:CM}{kind total b:Int}(h0:¬kind/3=0)(h1:¬kind/3=1){j:Nat}(hj:j<7)(e:total/416 % 7=j)(hb:b∈jC):∃lg:List Nat,gt (.list (j6.map .str)) (.int (total/416 % 7))=some (.str lg)/\lg.length<=3/\(∀c∈lg,c-97<26/\97<=c)/\bT M (fw kind total) (lg.map fun c=>b.toNat+(c-97)):=by
 obtain⟨lg,XS⟩:=get_mem (l:=j6) hj;have hl:=cD.mp Oq lg (my XS);obtain⟨jK,Sf⟩:=(dI _ _).mp hl;obtain⟨QG,Od⟩:=(dI _ _).mp jK;have SA:=mC Od;have hc:∀c∈lg,c-97<26/\97<=c:=fun c hc=>by
  obtain⟨h1,h2⟩:=(dI _ _).mp (cD.mp Sf c hc);have h1:=mC h1;have h2:=mC h2;omega
 refine⟨lg,by rw[e];exact gI (by rw[bL,XS];rfl) (by decide),SA,hc,fun z=>mC QG (List.map_eq_nil_iff.mp z),by rw[bi];exact i6 SA,cD.mpr fun c h=>?_,?_⟩
 ·obtain⟨z,hz,rfl⟩:=bP.mp h
  exact Gn hb (hc z hz).1
 ·rw[fw,az h0,az h1,e,qN,XS,kM,dK]
  clear XS hl jK QG Od Sf SA;revert hc
  induction lg with
  |nil=>exact fun ø=>rfl
  |cons c l ih=>
   intro hc;obtain⟨h1,h2⟩:=hc c dJ;rw[bn,gA,ih fun x hx=>hc x (cw _ hx),Function.comp_apply,M.base b hb _ h1,ve h2];rfl
inductive XU(M:CM)(kind total draw:Int)(ρ:al):Prop
 |mk (l:List Nat) (h2:ρ 2=some (.int draw)) (h5:ρ 5=some (.list (ib.map .int))) (h8:ρ 8=some (Sx l)) (h3:l.length<=3) (hg:bT M (fw kind total) l)
theorem LD{P:Pk}{n:Nat}{g1 g2 g3 g4}{M:CM}{kind total draw:Int}(hk:0<=kind/\kind<9)(ht:0<=total)(hd:0<=draw/\draw<=17857){ρ:al}(h0:ρ 0=some (.int kind))(h1:ρ 1=some (.int total))(h2:ρ 2=some (.int draw)):
  td (jB (P:=P) (n:=n) g1 g2 g3 g4).1 ρ fun v=>∃l,bT M (fw kind total) l/\v= .str l:=by
 obtain⟨b,hb,_,hitb⟩:=int_at (xs:=jC) (i:=draw/7 % 12) (by omega) (show _<(12:Int) by omega) (by decide);obtain⟨e,he,hge,hite⟩:=int_at (xs:=fZ) (i:=total/26 % 16) (by omega) (show _<(16:Int) by omega) (by decide);obtain⟨u,hu,_,hitu⟩:=int_at (xs:=ib) (i:=draw/84 % 27) (by omega) (show _<(27:Int) by omega) (by decide);have hmb:b∈jC++fZ++ib:=bj _ (bj _ hb);have SB:=rz (i:=total % 26) hmb (by omega) (by omega);have hce:=rz (b:=e) (i:=0) (bj _ (bw _ he)) (by decide) (by decide);have hcu:=rz (b:=u) (i:=0) (bw _ hu) (by decide) (by decide);rw[Int.add_zero]at hcu;obtain⟨j,hj,SD⟩:∃j:Nat,j<7/\total/416 % 7=j:=⟨(total/416 % 7).toNat,by omega,by omega⟩;unfold jB;dsimp only;refine ex3 ρ h0 h1 h2 fun σ=>?_
 refine jA (v:=.list (jC.map .int)) (by exact rfl) ?_;refine jA (v:=.list (fZ.map .int)) (by exact rfl) ?_;refine jA (v:=.list (ib.map .int)) (by exact rfl) ?_;refine jA (cM rfl (md (dv rfl rfl) rfl) hitb) ?_;refine jA (md (dv rfl rfl) rfl) ?_;refine tW (XU M kind total draw) ?_ fun am hR=>?_
 ·by_cases hq:kind/3<2
  ·obtain⟨es,h1,hm,hg⟩:=Sy (M:=M) (kind:=kind) (by omega) hb he hge
   exact⟨_,tc (ba (dv rfl rfl) rfl (congrArg some (eK hq))) (xI (bu (bh (aq (bJ (ad rfl (md rfl rfl)) SB.1) rfl) rfl) (bu (bh (aq (bJ (cM rfl (md (dv rfl rfl) rfl) hite) (mx (congrArg (fun z=>Eb [.int z]) (Int.add_zero e).symm) hce.1)) rfl) rfl) (dv rfl rfl) hm) ((FM ..).trans (aw (by rw[bi];exact aA (vf h1 1) (by decide))))) rfl),rfl,XU.mk ((b+total % 26).toNat::es) rfl rfl rfl (i7 (i6 h1)) hg⟩
  ·have n0:¬kind/3=0:=by omega
   have n1:¬kind/3=1:=by omega
   have c1:=congrArg some (mB hq);by_cases hw:draw/2268 % 2=1
   ·exact⟨_,j5 (ba (dv rfl rfl) rfl c1) (bO (tc (ba (md (dv rfl rfl) rfl) rfl ((jz _ _).trans (congrArg some (eK hw)))) (xI (bh (aq (bJ (ad rfl rfl) (mx (congrArg (fun z=>Eb [.int (64256+z)]) SD) (Gm (c:=((64256+j:Nat):Int)) (by omega) (by omega)))) rfl) rfl) rfl)) rfl),rfl,XU.mk [64256+j] rfl rfl rfl (show 1<=3 by decide) (Sz n0 n1 hj SD)⟩
   ·obtain⟨lg,hit,Sf,YL,hg⟩:=V1 (M:=M) n0 n1 hj SD hb
    refine⟨_,j5 (ba (dv rfl rfl) rfl c1) (bO (j5 (ba (md (dv rfl rfl) rfl) rfl ((jz _ _).trans (congrArg some (mB hw)))) (xI (db (fun ρ=>ρ 1=some (.int b)) lg (fun c=>.str [c]) (fun c=>.str [b.toNat+(c-97)]) (dy (cM (x:=.list (j6.map .str)) rfl rfl hit) rfl) (gR Sf (by decide)) (fun c hc ρ hI=>ex1 ρ hI fun σ=>⟨_,rfl,rfl,bJ (bu (ad rfl (bJ rfl rfl)) rfl rfl) ?_⟩) rfl) rfl)) rfl),rfl,XU.mk _ rfl rfl (congrArg (fun z=>some (V.list z)) (dK (g:=fun c=>V.str [c]) (f:=fun c=>b.toNat+(c-97)) (l:=lg)).symm) (by rw[bi];exact Sf) hg⟩;obtain⟨x1,x2⟩:=YL c hc;have hz:b+(c:Int)-97=b+((c-97:Nat):Int):=by omega
    obtain⟨c2,c3⟩:=rz (i:=((c-97:Nat):Int)) hmb (by omega) (by omega);rw[c3,qN]at c2;exact mx (congrArg (fun z=>Eb [.int z]) hz) c2
 ·obtain⟨l,h2,h5,h8,h3,hg⟩:=hR
  refine ex3 am h2 h5 h8 fun σ=>?_
  by_cases q:draw/4536 % 3=0
  ·exact fu (j5 (ba (md (dv rfl rfl) rfl) rfl (P4 q)) rfl) (yq (HK rfl rfl (wP hg.len)) ⟨l,hg,rfl⟩)
  ·obtain⟨a,r,rfl⟩:=uT hg.ne
   exact fu (tc (ba (md (dv rfl rfl) rfl) rfl (neT q)) (Su rfl (aq rfl (aq (bJ (cM rfl (md (dv rfl rfl) rfl) hitu) hcu.1) rfl)) (Op a u.toNat hg.len) rfl)) (yq (HK rfl rfl (wP (hg.ins h3 hu).len)) ⟨_,hg.ins h3 hu,rfl⟩)
noncomputable def MY:List (Int×Str)->Nat->Option (List Nat)
 |[],_=>none
 |p::r,c=>if p.1=(c:Int)then some p.2.cps.toList else MY r c
theorem SE(c:Nat):MY [] c=none:=rfl
theorem SF(p:Int×Str)(r:List (Int×Str))(c:Nat):MY (p::r) c=if p.1=(c:Int)then some p.2.cps.toList else MY r c:=rfl
theorem Cr(c:Nat):∀ps:List (Int×Str),bR (ps.map (·.1)) ((ps.map fun p=>p.2.cps.toList).map .str) (c:Int)=(MY ps c).map .str
 |[]=>rfl
 |p::r=>by
  simp only[bn,gG,iN,iO,SE,SF,Cr c r];split<;>rfl
noncomputable def MZ(c:Nat):List Nat:=if(c:Int)∈VV then []else(MY FU c).getD (oS [c])
theorem Os:(jC.all fun b=>(List.range 26).all fun i=>MZ (b.toNat+i)==[97+i])=true:=by kernel_rfl
theorem Ot:(fZ.all fun e=>MZ e.toNat==[e.toNat])=true:=by kernel_rfl
theorem HO:(ib.all fun e=>MZ e.toNat==[])=true:=by kernel_rfl
theorem Ou:([40,41,91,93,123,125,34,92].all fun c=>MZ c==[c])=true:=by kernel_rfl
theorem SG:((List.range 7).all fun j=>MZ (64256+j)==j6[j]?.getD [])=true:=by kernel_rfl
noncomputable def Ag:Cx:={vars:=[(M1,.local,false)],aM:=[]}
noncomputable def l7{P:Pk}{n:Nat}:{f:al->Option (al×Fl)//p5 P n Ag (dz (aJ pq.main.body 64)) f}:=⟨_,(@ac _ _ _ _ _ _ _ (@aX _ _ _ _ _ _ (@aF _ _ _ _ _ _ _ _ _ (@eR _ _ _ _ _ _ _ (@O _ _ _ _ _ _ _ _ (aC rfl) (@O _ _ _ _ _ _ _ _ (aC rfl) (@O _ _ _ _ _ _ _ _ (aC rfl) (@O _ _ _ _ _ _ _ _ (aC rfl) (@O _ _ _ _ _ _ _ _ (aC rfl) (O (aC rfl) (O (aC rfl) ab ir) ir) ir) ir) ir) ir) ir) (by decide) (@af _ _ _ (@af _ _ _ (@af _ _ _ (@af _ _ _ (af (af (af len0)))))))) (ai f6 (ae (Z 0 rfl rfl rfl)) aa) cp)) aj)⟩
noncomputable def EM:Cx:={vars:=[(WQ,.local,false),(⟨#[108,101,102,116]⟩,.local,false),(Yh,.local,false),(Yi,.local,false),(Ts,.local,false),(⟨#[117,110,105,116]⟩,.local,false),(s65,.local,false)],aM:=[s6,s5,vi,s9,MQ,WN,Ym]}
noncomputable def qk{P:Pk}{n:Nat}{aL:Addr}{bG:List V->Option V}(dC:P.glob s6=some (.ref aL))(dD:∀h,P.G h->∃o fd,h.get? aL=some o/\o.data= .func fd)(dF:aZ P n (.ref aL) bG){aN:Addr}(cq:P.glob s5=some (.ref aN))(bS:Ca P aN)(cb:P.glob vi=some (.builtin "len")){ie:Addr}{px:List V->Option V}(xK:P.glob s9=some (.ref ie))(xL:∀h,P.G h->∃o fd,h.get? ie=some o/\o.data= .func fd)(xM:aZ P n (.ref ie) px){gJ:Addr}{on:List V->Option V}(wQ:P.glob MQ=some (.ref gJ))(wR:∀h,P.G h->∃o fd,h.get? gJ=some o/\o.data= .func fd)(wS:aZ P n (.ref gJ) on){f0:Addr}{iL:List Nat->Option Int}(oW:P.glob WN=some (.ref f0))(oX:∀h,P.G h->∃f:Str->Option Value,h.MapOf (strKind P.prog P.w) f0 f/\∀l k,iL l=some k->∃t,f (pyStr l)=some (.int k t))(LE:P.glob Ym=some (.type "str")):{f:al->Option (al×Fl)//p5 P n EM (dz (aJ pq.main.body 65)) f}:=⟨_,(@ac _ _ _ _ _ _ _ (@aD _ _ _ 1 _ _ _ _ _ _ rfl (by decide) (@bq _ _ _ _ _ _ _ _ _ _ _ rfl dC rfl dD dF (O (ai cy (Z 0 rfl rfl rfl) (aC rfl)) ab ir) ir (cf _ _)) cp) (@ac _ _ _ _ _ _ _ (@lL _ _ _ ([(2,Yh,.local,false),(3,Yi,.local,false)]) ([_,_]) _ _ _ _ _ _ _ ⟨by decide+kernel,by decide+kernel⟩ rfl (jN.dat (aC rfl) (jN.dat (aC rfl) jN.nil ir) ir) (by decide) (af (af len0)) kU.len ir (N9 rfl rfl)) (@ac _ _ _ _ _ _ _ (@qd _ _ _ (false) _ _ _ _ _ _ _ (@nZ _ _ _ _ _ _ _ _ _ rfl cq rfl bS (O (ae (Z 1 rfl rfl rfl)) ab ir) ir (cf _ _)) (@da _ _ _ _ _ _ _ (ay (ap 4 rfl (by decide) (by decide)) (ay (ap 5 rfl (by decide) (by decide)) bX)) (aE (aE cH)) ir) (@ac _ _ _ _ _ _ _ (iZ 3 rfl (by decide) rfl rfl vy (Z 5 rfl rfl rfl)) (@ac _ _ _ _ _ _ _ (@aT _ _ _ _ _ _ _ _ _ _ (@aR _ _ _ _ _ _ _ _ _ _ vl (@aI _ _ _ _ _ _ _ _ _ _ _ rfl cb rfl jj (O (ae (Z 3 rfl rfl rfl)) ab ir) ir (cf _ _)) (ai cy (ae (Z 4 rfl rfl rfl)) aa) rfl) (@ac _ _ _ _ _ _ _ (@aX _ _ _ _ _ _ (@ct _ _ _ _ _ _ _ _ (O (aC rfl) (O df ab ir) ir) (by decide) (af (af len0)))) aj) aj) (@ac _ _ _ _ _ _ _ (@aT _ _ _ _ _ _ _ _ _ _ (@r6 _ _ _ _ _ _ _ _ (@aR _ _ _ _ _ _ _ _ _ _ qR (@aI _ _ _ _ _ _ _ _ _ _ _ rfl cb rfl jj (O (ae (Z 5 rfl rfl rfl)) ab ir) ir (cf _ _)) aa rfl) (@xV _ _ _ _ _ _ (@fP _ _ _ _ _ (@bq _ _ _ _ _ _ _ _ _ _ _ rfl xK rfl xL xM (O (ae (Z 5 rfl rfl rfl)) ab ir) ir (cf _ _)) cp))) (@ac _ _ _ _ _ _ _ (@iZ _ _ _ 2 _ _ _ _ _ _ _ _ rfl (by decide) rfl rfl vy (bq rfl wQ rfl wR wS (O (Z 5 rfl rfl rfl) ab ir) ir (cf _ _))) aj) aj) aj))) cp) (@ac _ _ _ _ _ _ _ (@aT _ _ _ _ _ _ _ _ _ _ (@AS.or _ _ _ _ _ _ _ _ (aR vl (ae (Z 3 rfl rfl rfl)) (ae (Z 1 rfl rfl rfl)) rfl) (@aR _ _ _ _ _ _ _ _ _ _ vl (@bC _ _ _ _ _ _ _ _ _ _ _ _ _ _ (ae (Z 2 rfl rfl rfl)) (bt (dc aa)) aO aO) (aC rfl) rfl)) (@ac _ _ _ _ _ _ _ (@aX _ _ _ _ _ _ (@ct _ _ _ _ _ _ _ _ (O (aC rfl) (O df ab ir) ir) (by decide) (af (af len0)))) aj) aj) (@ac _ _ _ _ _ _ _ (@aD _ _ _ 6 _ _ _ _ _ _ rfl (by decide) (@Bs _ _ _ _ _ _ _ _ _ _ _ rfl oW rfl oX (@bC _ _ _ _ _ _ _ _ _ _ _ _ _ _ (ae (Z 2 rfl rfl rfl)) (bt (dc aa)) (bt (dc aa)) aO) cp) cp) (@ac _ _ _ _ _ _ _ (@aX _ _ _ _ _ _ (@ct _ _ _ _ _ _ _ _ (@O _ _ _ _ _ _ _ _ (@ai _ _ _ _ _ _ _ _ _ _ _ cy (@bC _ _ _ _ _ _ _ _ _ _ _ _ _ _ (ae (Z 2 rfl rfl rfl)) aO (bt (dc aa)) aO) (@AT _ _ _ _ _ _ _ _ _ _ _ rfl LE rfl Uo (@O _ _ _ _ _ _ _ _ (@ai _ _ _ _ _ _ _ _ _ _ _ ja (ai cy (ae (Z 6 rfl rfl rfl)) aa) aa) ab ir) ir (cf _ _))) (@O _ _ _ _ _ _ _ _ (@kN _ _ _ _ _ _ _ _ _ _ _ qR (ai f6 (ae (Z 6 rfl rfl rfl)) aa) aa rfl) ab ir) ir) (by decide) (af (af len0)))) aj))))))⟩
noncomputable def Cs:List (List (List Nat)):=[[],[[34],[41],[34]],[[34],[92,34],[40],[34]],[[92,40]],[[92,34]],[[92,92]],[[34],[40],[34]]]
noncomputable def Ct:List (List (List Nat)):=[[],[],[],[[92,40]],[[92,34]],[[92,92]],[]]
noncomputable def fX(draw:Int):List (List Nat):=Cs[(draw % 7).toNat]?.getD []
noncomputable def l8(draw:Int):List (List Nat):=Ct[(draw % 7).toNat]?.getD []
theorem EN{P:Pk}{n:Nat}{draw:Int}{ρ:al}(h0:ρ 0=some (.int draw)):Ends (l7 (P:=P) (n:=n)).1 ρ (.str (fX draw).flatten):=by
 unfold l7;dsimp only;obtain⟨j,SD⟩:=Dv (y5 draw (show(7:Int)≠0 by decide));have hj:j<Cs.length:=nC.mp (SD▸y6 draw (by decide));have e:(Cs.map fun u=>V.str u.flatten)[j]?=some (.str (fX draw).flatten):=by
  unfold fX;rw[SD,bL];show _=some (V.str (Cs[j]?.getD []).flatten);rw[dX hj];rfl
 exact eS (cM rfl (md h0 rfl) (SD▸gI e (by decide)))
theorem EO(l:List Nat)(k:Nat)(hk:k<=l.length)(h0:0<k)(h:l.length<=most):eT (.str l) (some (-(k:Int))) none none=some (.str (l.drop (l.length-k))):=by
 rw[nQ,aw h,n8,lm _ h0 hk];exact congrArg (fun z=>some (V.str z)) (rO (iJ mZ))
theorem xN(l:List Nat)(k m:Nat)(hk:k<=l.length)(h0:0<k)(hm0:0<m)(hm:m<=l.length)(h:l.length<=most):eT (.str l) (some (-(k:Int))) (some (-(m:Int))) none=some (.str ((l.drop (l.length-k)).take (k-m))):=by
 rw[nQ,aw h,n8,lm _ h0 hk,lm _ hm0 hm,show l.length-m-(l.length-k)=k-m by rw[Nat.sub_right_comm,Nat.sub_sub_self hk]]
theorem Ah(l:List Nat)(m:Nat)(hm0:0<m)(hm:m<=l.length)(h:l.length<=most):eT (.str l) none (some (-(m:Int))) none=some (.str (l.take (l.length-m))):=by
 rw[nQ,aw h,n8,lm _ hm0 hm];rfl
noncomputable def oo(l:List Nat)(draw:Int)(sg:Nat):List (List Nat):=l.map (fun c=>[c])++(fX draw++[[sg],[34],[92]])
noncomputable def tY(l:List Nat)(draw:Int)(sg:Nat):List (List Nat):=l.map (fun c=>[c])++(l8 draw++[[sg],[34],[92]])
theorem jD:∀{us vs:List (List Nat)},(∀u∈us,Ae u=true)->jP vs=true->jP (us++vs)=true
 |[],vs,_,h=>h
 |u::us,vs,h1,h2=>by
  have ih:=jD (us:=us) (vs:=vs) (fun v hv=>h1 v (cw _ hv)) h2
  cases hz:us++vs with
  |nil=>simp[hz,oF,oG,oH,h1 u dJ]
  |cons z zs=>
   rw[List.cons_append,hz];rw[hz]at ih;simp only[oF,oG,oH,h1 u dJ,Bool.true_and,ih]
theorem Cu{us:List (List Nat)}(h:∀u∈us,u≠[34])(k:List (List Nat)):us.foldl dG (k,none)=(k++us,none):=wL us k h
theorem lt7{P:Nat->Prop}(h0:P 0)(h1:P 1)(h2:P 2)(h3:P 3)(h4:P 4)(h5:P 5)(h6:P 6):∀j,j<7->P j
 |0,_=>h0
 |1,_=>h1
 |2,_=>h2
 |3,_=>h3
 |4,_=>h4
 |5,_=>h5
 |6,_=>h6
 |n+7,h=>absurd h (kJ.mpr (y7 7 n))
theorem LF(draw:Int):(draw % 7).toNat<7:=by omega
theorem Cv(draw:Int)(k:List (List Nat)):(fX draw).foldl dG (k,none)=(k++l8 draw,none):=
 have e:(k,(none:Option (List (List Nat))))=(k++[],none):=by rw[gn]
 lt7 (P:=fun j=>(Cs[j]?.getD []).foldl dG (k,none)=(k++Ct[j]?.getD [],none)) e e e rfl rfl rfl e _ (LF draw)
theorem te(draw:Int):(∀u∈fX draw,Ae u=true)/\(∀u∈l8 draw,Ae u=true/\u.length=2)/\(fX draw).flatten.length<=5/\(l8 draw).length<=1/\(fX draw).length<=4:=
 (by decide:∀j,j<7->(∀u∈Cs[j]?.getD [],Ae u=true)/\(∀u∈Ct[j]?.getD [],Ae u=true/\u.length=2)/\(Cs[j]?.getD []).flatten.length<=5/\(Ct[j]?.getD []).length<=1/\(Cs[j]?.getD []).length<=4) _ (LF draw)
theorem Cw{l:List Nat}{draw:Int}{sg:Nat}(hl:l.all LC=true)(h34:sg≠34):gk (oo l draw sg)=tY l draw sg:=by
 unfold gk oo tY;have h1:∀u∈l.map (fun c=>[c]),u≠[34]:=fun u hu z=>by
  obtain⟨c,hc,rfl⟩:=bP.mp hu;have:=cD.mp hl c hc;simp at z;subst z;simp[LC]at this
 rw[m4,m4,Cu h1,Cv];simp[dG,h34]
noncomputable def wT:List Nat:=[40,41,91,93,123,125,34,92]
theorem HP:(wT.all fun c=>decide ((oS [c]).length<10))=true:=by decide+kernel
noncomputable def Go(M:CM)(F3 F4:List V->Option V):Prop:=∀c,(oS [c]).length<10->(F3 [.str [c]]=some (.bool true)/\M.f c=[])\/(F3 [.str [c]]=some (.bool false)/\F4 [.str [c]]=some (.str (M.f c)))
noncomputable def uv(num:Nat):List Nat:=if num<9 then [52]else if num<11 then [53]else [49,51]
theorem V2:([7,8,9,10,25,26].all fun(n:Nat)=>digits (((n:Int)+1)/2)==uv n)=true:=by decide+kernel
noncomputable def tg(M:CM)(u:List Nat):List Nat:=match u with
 |[c]=>M.f c
 |_=>[]
theorem Gp(M:CM){u:List Nat}(h:u.length=2):tg M u=[]:=by
 match u,h with
 |[_,_],_=>rfl
theorem EP{M:CM}{N l:List Nat}(draw:Int){sg:Nat}(hg:bT M N l)(hN:N.length<=3)(V3:sg∈[40,41,91,93,123,125]){C:Prop}
  (f:∀us ws:List (List Nat),jP us=true->us.flatten.length<=20->us.length<=20->us.flatten=l++(fX draw).flatten++[sg]++[34,92]->gk us=ws->jP ws=true->ws.flatten.length<=20->(ws.map (tg M)).flatten=N++[sg,34,92]->(∀u∈ws,u.length=2\/∃c,u=[c]/\(oS [c]).length<10)->C):C:=by
 have hlen:=hg.len;have V4:=te draw;have Bp:most=1000000:=rfl;have V5:sg≠34/\sg≠92:=by simp at V3;omega
 have V6:jP [[sg],[34],[92]]=true:=by simp[oF,oG,oH,Ae,V5.2]
 have V7:∀u∈l.map (fun c=>[c]),Ae u=true:=fun u hu=>by
  obtain⟨c,hc,rfl⟩:=bP.mp hu;have:=cD.mp hg.ok c hc;simp only[LC,dI,bne_iff_ne]at this;simp[Ae,this.1.1.1.1.1.1]
 have LG:∀l:List Nat,(l.map fun c=>[c]).flatten=l:=fun l=>by
  induction l with
  |nil=>rfl
  |cons x l ih=>simp[ih]
 have SH:jP (oo l draw sg)=true:=jD V7 (jD V4.1 V6);have hws:jP (tY l draw sg)=true:=jD V7 (jD (fun u hu=>(V4.2.1 u hu).1) V6);have hpf:(oo l draw sg).flatten=l++(fX draw).flatten++[sg]++[34,92]:=by
  unfold oo;rw[gr,gr,LG];simp
 have sk:(oo l draw sg).flatten.length<=20:=by rw[hpf];simp only[List.length_append,bA,eZ];omega
 have hpn:(oo l draw sg).length<=20:=by
  unfold oo;have:=V4.2.2.2.2;simp only[List.length_append,bi,bA,eZ];omega
 have eF:=Cw (draw:=draw) (sg:=sg) hg.ok V5.1;have Hz:(tY l draw sg).flatten.length<=20:=by rw[<-eF];exact aA (wI _) sk
 have r5:((tY l draw sg).map (tg M)).flatten=N++[sg,34,92]:=by
  unfold tY;rw[List.map_append,List.map_append,gr,gr,dK];have e1:(l.map (tg M∘fun c=>[c]))=l.map M.f:=rfl;have e2:((l8 draw).map (tg M)).flatten=[]:=by
   rw[List.flatten_eq_nil_iff];intro x hx;obtain⟨u,hu,rfl⟩:=bP.mp hx;exact Gp M (V4.2.1 u hu).2
  rw[e1,hg.map,e2];have s1:=M.sign sg (by simp at V3 ⊢;omega);have s2:=M.sign 34 (by simp);have s3:=M.sign 92 (by simp);simp[tg,s1,s2,s3]
 have Ov:∀u∈tY l draw sg,(u.length=2)\/∃c,u=[c]/\(oS [c]).length<10:=fun u hu=>by
  unfold tY at hu;rcases cr.mp hu with hu|hu
  ·obtain⟨c,hc,rfl⟩:=bP.mp hu
   have:=cD.mp hg.ok c hc;simp only[LC,dI,iH]at this;exact .inr ⟨c,rfl,this.2⟩
  ·rcases cr.mp hu with hu|hu
   ·exact .inl (V4.2.1 u hu).2
   ·have SI:∀c∈wT,(oS [c]).length<10:=fun c hc=>by simpa using cD.mp HP c hc
    simp only[bp,qH,ny]at hu;rcases hu with rfl|rfl|rfl
    ·exact .inr ⟨sg,rfl,SI sg (by simp[wT]at V3 ⊢;omega)⟩
    ·exact .inr ⟨34,rfl,SI 34 (by simp[wT])⟩
    ·exact .inr ⟨92,rfl,SI 92 (by simp[wT])⟩
 exact f _ _ SH sk hpn hpf eF hws Hz r5 Ov
inductive RdI(M:CM)(ws l:List (List Nat))(ρ:al):Prop
 |mk (h1:ρ 1=some (.str ws.flatten)) (h2:ρ 2=some (.str (l.map (tg M)).flatten)) (h3:ρ 3=some (.str l.flatten))
theorem EQ{N:List Nat}(sg:Nat)(hN:N.length<=3):eT (.str (N++[sg,34,92])) (some (-2)) none none=some (.str [34,92])/\eT (.str (N++[sg,34,92])) (some (-3)) (some (-2)) none=some (.str [sg])/\eT (.str (N++[sg,34,92])) none (some (-3)) none=some (.str N):=by
 have hl:(N++[sg,34,92]).length=N.length+3:=List.length_append;have hm:(N++[sg,34,92]).length<=most:=by rw[hl];exact aA (m7 hN 3) (by decide)
 have h2:N.length+3-2=N.length+1:=rfl;have h3:N.length+3-3=N.length:=rfl;refine⟨(EO _ 2 (by omega) (by decide) hm).trans ?_,(xN _ 3 2 (by omega) (by decide) (by decide) (by omega) hm).trans ?_,(Ah _ 3 (by decide) (by omega) hm).trans ?_⟩
 ·rw[hl,h2,<-List.drop_drop,List.drop_left]
  rfl
 ·rw[hl,h3,List.drop_left]
  rfl
 ·rw[hl,h3,List.take_left]
theorem LH{P:Pk}{n:Nat}{a1 F1 g1 h1 c1 a2 g2 ab4 g3 a3 F3 g3' h3 c3 a4 F4 g4 h4 c4 a5 T5 g5 t5 g6}{ρ:al}{M:CM}{N l:List Nat}{draw:Int}{sg num:Nat}(xC:∀us,jP us=true->us.flatten.length<=10000->us.length<=10000->F1 [.str us.flatten]=some (.str (gk us).flatten))
  (hM:Go M F3 F4) (hg:bT M N l) (hN:N.length<=3) (V3:sg∈[40,41,91,93,123,125]) (hT:T5 [sg]=some (num:Int)) (V8:num∈[7,8,9,10,25,26])
  (h0:ρ 0=some (.str (l++(fX draw).flatten++[sg]))):
  Ends (qk (P:=P) (n:=n) (aL:=a1) (bG:=F1) g1 h1 c1 (aN:=a2) g2 ab4 g3 (ie:=a3) (px:=F3) g3' h3 c3 (gJ:=a4) (on:=F4) g4 h4 c4 (f0:=a5) (iL:=T5) g5 t5 g6).1 ρ (.tup [.str (N++uv num),.bool (num % 2==1)]):=by
 refine EP draw hg hN V3 fun us ws SH hul TB huf eF hws Hz r5 Ov=>?_
 have hF:=xC us SH (aA hul (by decide)) (aA TB (by decide));rw[eF,huf]at hF;rw[huf,List.length_append]at hul;have V9:ws.flatten.length<=most:=aA Hz (by decide);unfold qk;dsimp only;refine gm (bJ (bu h0 rfl (j4 _ _ (aA hul (by decide)))) hF) (bm rfl (iB (RdI M ws ws) (iP (EK rfl V9 hws) (wM ws (RdI M ws) (fun l u l' ρ h hR=>?_) (.mk rfl rfl rfl))) fun am hR=>?_))
 ·have hum:u∈ws:=h▸bw _ dJ
  have Uk:l.flatten.length+u.length<=20:=by
   rw[<-h,gr,List.length_append,gA,List.length_append]at Hz;exact aA (vf (nr _ _) _) Hz
  have TI:(l.map (tg M)).flatten.length+(tg M u).length<=6:=by
   have:=congrArg List.length r5;rw[<-h,List.map_append,gr,List.length_append,bn,gA,List.length_append,List.length_append]at this;exact aA (vf (nr _ _) _) (aA (iJ this) (m7 hN 3))
  have hu1:1<=u.length:=by
   rcases Ov u hum with h|⟨c,rfl,_⟩
   ·rw[h];decide
   ·exact cF _
  have bN:((l.flatten++u).length:Int)=((l.flatten.length+u.length-1:Nat):Int)+1:=by rw[List.length_append];exact congrArg Int.ofNat (rN (aA hu1 (y7 _ _))).symm
  have ly:(l.flatten++u).length<=most:=by rw[List.length_append];exact aA Uk (by decide)
  have Ow:l.flatten.length+u.length<=most:=aA Uk (by decide);have SJ:u.length<=most:=aA (y7 _ _) Ow;have e3:some (V.str (l.flatten++u))=some (V.str (l++[u]).flatten):=congrArg (fun z=>some (V.str z)) (uJ l u).symm;have e2:some (V.str ((l.map (tg M)).flatten++tg M u))=some (V.str ((l++[u]).map (tg M)).flatten):=congrArg (fun z=>some (V.str z)) (by rw[List.map_append];exact(uJ _ _).symm);obtain⟨r1,r2,r3⟩:=hR;refine ex3 ρ r1 r2 r3 fun σ=>?_
  rcases Ov u hum with h2|⟨c,rfl,hc⟩
  ·rw[Gp M h2,gn]at e2
   exact⟨_,_,rfl,EI rfl rfl (n9 _ _ Ow) (bO (j5 (ba (bJ rfl (oe _ ly)) (ad rfl rfl) (P4 bN)) rfl) (bO (j5 (j5 (ba (bJ rfl (oe _ SJ)) rfl ((jz _ _).trans (congrArg some (mB (by rw[h2];decide))))) rfl) rfl) rfl)),.mk rfl e2 e3⟩
  ·rcases hM c hc with⟨hf3,hmf⟩|⟨hf3,hf4⟩
   ·rw[show tg M [c]=[]from hmf,gn]at e2
    exact⟨_,_,rfl,EI rfl rfl (n9 _ _ Ow) (bO (j5 (ba (bJ rfl (oe _ ly)) (ad rfl rfl) (P4 bN)) rfl) (bO (j5 (tc (ba (bJ rfl (oe _ SJ)) rfl (jz _ _)) (bh (dy (bJ rfl hf3) rfl) rfl)) rfl) rfl)),.mk rfl e2 e3⟩
   ·exact⟨_,_,rfl,EI rfl rfl (n9 _ _ Ow) (bO (j5 (ba (bJ rfl (oe _ ly)) (ad rfl rfl) (P4 bN)) rfl) (bO (tc (tc (ba (bJ rfl (oe _ SJ)) rfl (jz _ _)) (bh (dy (bJ rfl hf3) rfl) rfl)) (EI rfl (bJ rfl hf4) (n9 _ _ (aA TI (by decide))) rfl)) rfl)),.mk rfl e2 e3⟩
 ·obtain⟨r1,r2,r3⟩:=hR
  rw[r5]at r2;obtain⟨s1,s2,s3⟩:=EQ sg hN;have hn7:num<=26:=mC (cD.mp (show([7,8,9,10,25,26].all fun n=>decide (n<=26))=true by decide) num V8);have hdg:digits ((num+1)/2:Int)=uv num:=eq_of_beq (cD.mp V2 num V8);have ab5:QW [.int ((num+1)/2:Int)]=some (.str (uv num)):=by rw[QX,aw (by omega),hdg]
  have Sj:(uv num).length<=2:=by unfold uv;split<;>(try split)<;>decide
  have hq:decide ((num:Int) % 2=1)=(num % 2==1):=by rw[yH,decide_eq_true_iff,jT];omega
  have hnn:Df (.str ws.flatten) (.str ws.flatten)=some false:=by rw[Sq,pJ];rfl
  exact ex3 am r1 r2 r3 fun σ=>bm (j5 (P5 (ba rfl rfl hnn) (ba (eA rfl rfl rfl rfl s1) rfl rfl)) rfl) (gm (dy (eA rfl rfl rfl rfl s2) (bh hT rfl)) (eS (bh (aq (bu (eA rfl rfl rfl rfl s3) (bJ (dv (ad rfl rfl) rfl) ab5) (j4 _ _ (aA (pZ hN Sj) (by decide)))) (aq (bh (ba (md rfl rfl) rfl ((jz _ _).trans (congrArg some hq))) rfl) rfl)) rfl)))
noncomputable def XV:CM where
 f:=MZ
 base:=fun b hb i hi=>by
  have:=cD.mp (cD.mp Os b hb) i (gD.mpr hi);simpa using this
 edge:=fun e he=>by
  have:=cD.mp Ot e he;simpa using this
 unseen:=fun e he=>by
  have:=cD.mp HO e he;simpa using this
 sign:=fun c hc=>by
  have:=cD.mp Ou c hc;simpa using this
 lig:=fun j hj=>by
  have:=cD.mp SG j (gD.mpr hj);simpa using this
noncomputable def SK{P:Pk}{n:Nat}(g1:P.glob "ord"=some (.builtin "ord"))(g2:P.glob "b1_set"=some (.ref 50)){T:Int->Bool}(hG:∀h,P.G h->∃n,h.SetOf (intKind P.prog P.w) 50 T n):{f:al->Option (al×Fl)//p5 P n KB1 (dz (aJ pq.main.body 7)) f}:=by
 refine⟨_,ac (aX (Br ?_ g2 ?_ hG (aI ?_ g1 ?_ Jo (O (ae (Z 0 rfl ?_ ?_)) ab (fun ø=>rfl)) (fun ø=>rfl) (by simp)) ?_)) aj⟩
 all_goals first|rfl|decide
noncomputable def SM{P:Pk}{n:Nat}(g1:P.glob "ord"=some (.builtin "ord"))(g2:P.glob "b3_exceptions"=some (.ref 61)){F}(hG:Jw P 61 "get" F):{f:al->Option (al×Fl)//p5 P n KB3 (dz (aJ pq.main.body 9)) f}:=by
 refine⟨_,ac (aD 1 rfl ?_ (Bq ?_ g2 ?_ hG (O (aI ?_ g1 ?_ Jo (O (Z 0 rfl ?_ ?_) ab (fun ø=>rfl)) (fun ø=>rfl) (by simp)) ab (fun ø=>rfl)) (fun ø=>rfl) (by decide) ?_ (fun ø=>rfl)) ?_)
  (ac (aT (aR Fu (ae (Z 1 rfl ?_ ?_)) lC ?_) (ac (aX (ae (Z 1 rfl ?_ ?_))) aj) aj)
  (ac (aX (eE (ae (Z 0 rfl ?_ ?_)) Uq ab (fun ø=>rfl) (by decide) ?_ (fun ø=>rfl))) aj))⟩
 all_goals first|rfl|decide|(intro _ _;rfl)|skip
theorem SN{P:Pk}{n:Nat}{g1 g2}{T:Int->Bool}{hG}{ρ:al}{c:Nat}(h0:ρ 0=some (.str [c])):Ends (SK (P:=P) (n:=n) g1 g2 (T:=T) hG).1 ρ (.bool (T c)):=by
 unfold SK;dsimp only;refine ft ⟨ρ,?_⟩;simp[eD,aQ,h0,QU,Jz]
theorem SO{P:Pk}{n:Nat}{g1 g2}{hG:Jw P 61 "get" (Jx RZ R0)}{ρ:al}{c:Nat}(hc:(oS [c]).length<10)(h0:ρ 0=some (.str [c])):Ends (SM (P:=P) (n:=n) g1 g2 hG).1 ρ (.str ((MY FU c).getD (oS [c]))):=by
 unfold SM;dsimp only;have ht:Jx RZ R0 [.int c]=some (((MY FU c).map V.str).getD .none):=by
  simp only[Q8];rw[Cr]
 have hl:Q2 (.str [c]) []=some (.str (oS [c])):=by
  apply Q3;unfold oS at hc;unfold Builtin.Str.tooLong;simp only[uV];have hsz:(10:Nat)<=sizeLine:=by decide
  have e:(Txt.lower (pyStr [c])).length=(Txt.lower (pyStr [c])).cps.toList.length:=by simp[Str.length]
  omega
 generalize MY FU c=o at*;refine ex1 ρ h0 fun σ=>?_
 cases o with
 |none=>exact gm (dy (aq (bJ rfl rfl) rfl) ht) (bm (j5 rfl rfl) (eS (HK rfl rfl hl)))
 |some t=>exact gm (dy (aq (bJ rfl rfl) rfl) ht) (ft ⟨_,tc rfl rfl⟩)
section
section
variable{P:Pk}(X:bF P)
include X
theorem bF.fB:P.glob s5=some (.ref 28):=X.glob _ _ (by kernel_rfl)
theorem bF.f8:P.glob s6=some (.ref 35):=X.glob _ _ (by kernel_rfl)
theorem bF.ea:P.glob s7=some (.ref 42):=X.glob _ _ (by kernel_rfl)
theorem bF.Ox:P.glob s8=some (.ref 50):=X.glob _ _ (by kernel_rfl)
theorem bF.Ai:P.glob s9=some (.ref 60):=X.glob _ _ (by kernel_rfl)
theorem bF.wU:P.glob WJ=some (.ref 61):=X.glob _ _ (by kernel_rfl)
theorem bF.xO:P.glob MQ=some (.ref 106):=X.glob _ _ (by kernel_rfl)
theorem bF.j7:P.glob DQ=some (.ref 168):=X.glob _ _ (by kernel_rfl)
theorem bF.ql:P.glob WN=some (.ref 173):=X.glob _ _ (by kernel_rfl)
theorem bF.th:P.glob IL=some (.ref 180):=X.glob _ _ (by kernel_rfl)
theorem bF.qm:P.glob IM=some (.ref 185):=X.glob _ _ (by kernel_rfl)
theorem bF.ma:P.glob G4=some (.ref 192):=X.glob _ _ (by kernel_rfl)
theorem bF.qo:P.glob MS=some (.ref 199):=X.glob _ _ (by kernel_rfl)
theorem bF.qp:P.glob IN=some (.ref 204):=X.glob _ _ (by kernel_rfl)
theorem bF.oq:P.glob IO=some (.ref 209):=X.glob _ _ (by kernel_rfl)
theorem bF.me:P.glob IP=some (.ref 216):=X.glob _ _ (by kernel_rfl)
theorem bF.bz:P.glob AQ=some (.type "range"):=X.built _ _ (by decide) (by kernel_rfl) (by kernel_rfl)
theorem bF.cb:P.glob vi=some (.builtin "len"):=X.built _ _ (by decide) (by kernel_rfl) (by kernel_rfl)
theorem bF.wO:P.glob Yl=some (.builtin "ord"):=X.built _ _ (by decide) (by kernel_rfl) (by kernel_rfl)
theorem bF.ry:P.glob WS=some (.builtin "chr"):=X.built _ _ (by decide) (by kernel_rfl) (by kernel_rfl)
theorem bF.tZ:P.glob Tu=some (.builtin "sum"):=X.built _ _ (by decide) (by kernel_rfl) (by kernel_rfl)
theorem bF.lp:P.glob M2=some (.builtin "max"):=X.built _ _ (by decide) (by kernel_rfl) (by kernel_rfl)
theorem bF.eQ:P.glob MT=some (.builtin "sorted"):=X.built _ _ (by decide) (by kernel_rfl) (by kernel_rfl)
theorem bF.wV:P.glob T2=some (.type "set"):=X.built _ _ (by decide) (by kernel_rfl) (by kernel_rfl)
theorem bF.LE:P.glob Ym=some (.type "str"):=X.built _ _ (by decide) (by kernel_rfl) (by kernel_rfl)
theorem bF.wN:P.glob Yk=some (.type "list"):=X.built _ _ (by decide) (by kernel_rfl) (by kernel_rfl)
theorem bF.Aj:P.glob Yn=some (.type "tuple"):=X.built _ _ (by decide) (by kernel_rfl) (by kernel_rfl)
theorem bF.f9:∀h,P.G h->∃o fd,h.get? 35=some o/\o.data= .func fd:=fun h G=>by
 obtain⟨⟨o,h1,h2,h3⟩,h4⟩:=PL (X.top h G) fun ø ø e=>e
 exact⟨o,_,h1,h3⟩
theorem bF.ec:∀h,P.G h->∃o fd,h.get? 42=some o/\o.data= .func fd:=fun h G=>by
 obtain⟨⟨o,h1,h2,h3⟩,h4⟩:=PM (X.top h G) fun ø ø e=>e
 exact⟨o,_,h1,h3⟩
theorem bF.Ak:∀h,P.G h->∃o fd,h.get? 60=some o/\o.data= .func fd:=fun h G=>by
 obtain⟨⟨o,h1,h2,h3⟩,h4⟩:=PN (X.top h G) fun ø ø e=>e
 exact⟨o,_,h1,h3⟩
theorem bF.xP:∀h,P.G h->∃o fd,h.get? 106=some o/\o.data= .func fd:=fun h G=>by
 obtain⟨⟨o,h1,h2,h3⟩,h4⟩:=Kl (X.top h G) fun ø ø e=>e
 exact⟨o,_,h1,h3⟩
theorem bF.ti:∀h,P.G h->∃o fd,h.get? 180=some o/\o.data= .func fd:=fun h G=>by
 obtain⟨⟨o,h1,h2,h3⟩,h4⟩:=Ku (X.top h G) fun ø ø e=>e
 exact⟨o,_,h1,h3⟩
theorem bF.qq:∀h,P.G h->∃o fd,h.get? 185=some o/\o.data= .func fd:=fun h G=>by
 obtain⟨⟨o,h1,h2,h3⟩,h4⟩:=Kw (X.top h G) fun ø ø e=>e
 exact⟨o,_,h1,h3⟩
theorem bF.mf:∀h,P.G h->∃o fd,h.get? 192=some o/\o.data= .func fd:=fun h G=>by
 obtain⟨⟨o,h1,h2,h3⟩,h4⟩:=Kx (X.top h G) fun ø ø e=>e
 exact⟨o,_,h1,h3⟩
theorem bF.qr:∀h,P.G h->∃o fd,h.get? 199=some o/\o.data= .func fd:=fun h G=>by
 obtain⟨⟨o,h1,h2,h3⟩,h4⟩:=Ky (X.top h G) fun ø ø e=>e
 exact⟨o,_,h1,h3⟩
theorem bF.qs:∀h,P.G h->∃o fd,h.get? 204=some o/\o.data= .func fd:=fun h G=>by
 obtain⟨⟨o,h1,h2,h3⟩,h4⟩:=Kz (X.top h G) fun ø ø e=>e
 exact⟨o,_,h1,h3⟩
theorem bF.ot:∀h,P.G h->∃o fd,h.get? 209=some o/\o.data= .func fd:=fun h G=>by
 obtain⟨⟨o,h1,h2,h3⟩,h4⟩:=KA (X.top h G) fun ø ø e=>e
 exact⟨o,_,h1,h3⟩
theorem bF.mh:∀h,P.G h->∃o fd,h.get? 216=some o/\o.data= .func fd:=fun h G=>by
 obtain⟨⟨o,h1,h2,h3⟩,h4⟩:=KC (X.top h G) fun ø ø e=>e
 exact⟨o,_,h1,h3⟩
end
theorem kt(P:Params):Lq P Pg=some (.ref 130):=by kernel_rfl
theorem ku:typeLookup (.type "object") Pg=pure none:=by rw[pV,pW];kernel_rfl
theorem bF.cJ{P:Pk}(X:bF P):∀h,P.G h->∃of fd,h.get? 130=some of/\of.cls= .type "function"/\of.data= .func fd:=fun h G=>by
 obtain⟨⟨o,h1,h2,h3⟩,h4⟩:=Ko (X.top h G) fun ø ø e=>e
 exact⟨o,_,h1,h2,h3⟩
theorem gc(P:Params):Lq P MR=some (.ref 137):=by kernel_rfl
theorem ge:typeLookup (.type "object") MR=pure none:=by rw[pV,pW];kernel_rfl
theorem bF.bo{P:Pk}(X:bF P):∀h,P.G h->∃of fd,h.get? 137=some of/\of.cls= .type "function"/\of.data= .func fd:=fun h G=>by
 obtain⟨⟨o,h1,h2,h3⟩,h4⟩:=Kq (X.top h G) fun ø ø e=>e
 exact⟨o,_,h1,h2,h3⟩
theorem wW(P:Params):Lq P Ph=some (.ref 144):=by kernel_rfl
theorem wX:typeLookup (.type "object") Ph=pure none:=by rw[pV,pW];kernel_rfl
theorem bF.rA{P:Pk}(X:bF P):∀h,P.G h->∃of fd,h.get? 144=some of/\of.cls= .type "function"/\of.data= .func fd:=fun h G=>by
 obtain⟨⟨o,h1,h2,h3⟩,h4⟩:=Kr (X.top h G) fun ø ø e=>e
 exact⟨o,_,h1,h2,h3⟩
theorem fE(P:Params):Lq P Pi=some (.ref 151):=by kernel_rfl
theorem fG:typeLookup (.type "object") Pi=pure none:=by rw[pV,pW];kernel_rfl
theorem bF.cS{P:Pk}(X:bF P):∀h,P.G h->∃of fd,h.get? 151=some of/\of.cls= .type "function"/\of.data= .func fd:=fun h G=>by
 obtain⟨⟨o,h1,h2,h3⟩,h4⟩:=Kt (X.top h G) fun ø ø e=>e
 exact⟨o,_,h1,h2,h3⟩
end
section
variable{P:Pk}{n:Nat}{K K':Cx}{lo:Bool}
theorem aB.Al{env:Env}{out out' hid:List Addr}{m}{B s:Shared}{ρ}(S:aB P K env out hid m B s ρ)(e:∀a,a∈out'<->a∈out):aB P K env out' hid m B s ρ:=
 S.map S.live (fun a h=>S.oh a ((e a).mp h)) S.ns S.kp (fun a h ho=>S.own a h fun z=>ho ((e a).mpr z)) (fun a h ho=>⟨h,fun z=>ho ((e a).mp z),fun ø e=>e⟩) (fun ø ø ø e=>e) fun ø h=>.inl h
inductive XW{γ:Type}(P:Pk)(K:Cx)(env:Env)(out:List Addr)(B:Shared)(xs:List V)(Wf:γ->List Addr)(Inv:γ->Heap->Prop)(J:Nat->al->γ->Prop)(W:List Addr)(St:List Addr->Nat->Shared->Prop)(k:Nat)(s':Shared):Prop
 |mk (i:Nat) (ao:List Addr) (m':Str->Option Value) (am:al) (lM:γ) (e:k+i=xs.length) (S:aB P K env (Wf lM++(W++out)) ao m' B s' am) (b:∀a∈Wf lM,B.heap.get? a=none) (v:Inv lM s'.heap) (wh:∀a∈W,a∈ao) (st:St ao i s') (j:J i am lM) (l:cx s'.heap (Wf lM)) (p:∀a∈Wf lM,a∉W) (o:∀a∈Wf lM,a∉out):XW P K env out B xs Wf Inv J W St k s'
inductive XX{γ:Type}(P:Pk)(K:Cx)(env:Env)(out hid:List Addr)(B s s':Shared)(Wf:γ->List Addr)(Inv:γ->Heap->Prop)(J:Nat->al->γ->Prop)(i:Nat)(g:γ):Prop
 |mk (ao:List Addr) (m':Str->Option Value) (aY:al) (g':γ) (S:aB P K env (Wf g'++out) ao m' B s' aY) (b:∀a∈Wf g',B.heap.get? a=none) (v:Inv g' s'.heap) (j:J i aY g') (k:Ks out hid ao s s') (n:∀a∈Wf g',a∈Wf g\/s.heap.get? a=none):XX P K env out hid B s s' Wf Inv J i g
theorem Cy(X Y out:List Addr)(a:Addr):a∈X++(Y++out)<->a∈Y++(X++out):=by
 simp only[cr];exact⟨fun h=>h.elim (fun q=>.inr (.inl q)) fun h=>h.elim .inl fun q=>.inr (.inr q),fun h=>h.elim (fun q=>.inr (.inl q)) fun h=>h.elim .inl fun q=>.inr (.inr q)⟩
section
variable{γ:Type}{Wf:γ->List Addr}{Inv:γ->Heap->Prop}{J J':Nat->al->γ->Prop}{lc:Bool}{target iter:Expr}{body:List Stmt}{pos:Pos}{asg:al->V->Option al}{A:Around}{env:Env}{out hid:List Addr}{B s:Shared}{xs:List V}{E:Value->Shared->Prop}{Q:Flow->Shared->Prop}
theorem ER(eF:∀g h h',Inv g h->(∀a∈Wf g,∀o,h.get? a=some o->h'.get? a=some o)->Inv g h'){I:Addr}{W:List Addr}{gi:Option Nat}{St:List Addr->Nat->Shared->Prop}(rm:bW n A)(hI:uA P A I W gi xs St)(hWB:∀a∈W,B.heap.get? a=none)(Hd:∀g,gi=some g->B.gens.size<=g)(QK:∀a∈out,a∉W)
  (ha:zd P K lc target asg) (SP:∀i x ρ g,xs[i]?=some x->J i ρ g->∃am,asg ρ x=some am/\J' i am g)
  (hb:∀i x (out hid:List Addr) m s ρ g E Q,xs[i]?=some x->aB P K env (Wf g++out) hid m B s ρ->(∀a∈Wf g,B.heap.get? a=none)->(∀a∈Wf g,a∉out)->Inv g s.heap->J' i ρ g->(∀s',XX P K env out hid B s s' Wf Inv J (i+1) g->Q .next s')->wpAny (model P.prog P.w) A (execs body env) Q E s)
  (hQ:∀s' ao m' aY g',aB P K env (Wf g'++out) ao m' B s' aY->(∀a∈Wf g',B.heap.get? a=none)->Inv g' s'.heap->J xs.length aY g'->Q .next s') {k:Nat} {s':Shared} (h:XW P K env out B xs Wf Inv J W St k s'):
  wpAny (model P.prog P.w) A (pyNext (.ref I)) (FT P A E env Q target body (fun t=>∃m,m<k/\XW P K env out B xs Wf Inv J W St m t) (.ref I)) (FE P A E env) s':=by
 obtain⟨i,ao,m',am,lM,e,S',hB,Oy,vq,Je,hJ,XY,oP,PQ⟩:=h;by_cases de:i<xs.length
 ·obtain⟨j,hj⟩:=yN de
  have hk:k=j+1:=by omega
  have Hh:j+(i+1)=xs.length:=by omega
  have hx:=dX de;refine au (hI.item ao i s' xs[i] _ hx vq S'.G S'.live Je) (fun r cB eh=>?_) fun ø ø q=>q
  obtain⟨v,er,hv,KV,hq,mv⟩:=eh;rw[er];obtain⟨fk,h1,hJ'⟩:=SP i xs[i] am lM hx hJ;refine vo hq (au (ha A env _ ao m' B cB am fk xs[i] v _ rm.handled (S'.step (W:=W) (fun a h=>bw _ (bj _ h)) mv hWB Hd) h1 hv) (fun ø gP A2=>?_) fun ø ø q=>q);obtain⟨nX,Hi,jM,mL,_⟩:=A2;have yr:Inv lM gP.heap:=eF lM _ _ Oy fun a h o e=>mL.keep a o (.inr (bj _ h)) (mv.keep a o (oP a h) e)
  refine hb i xs[i] (W++out) nX Hi gP fk lM _ _ hx jM hB (fun a h q=>(cr.mp q).elim (oP a h) (PQ a h)) yr hJ' fun nM vt=>?_
  obtain⟨lY,B9,iK,lN,wv,Cz,LI,Wa,sX,eG⟩:=vt;exact⟨j,hk▸mV j,i+1,lY,B9,iK,lN,Hh,wv,Cz,LI,fun a h=>sX.sub a (mL.sub a (vq a h)),
   hI.frame nX lY (i+1) gP nM (fun a h=>mL.sub a (vq a h)) (hI.frame ao nX (i+1) cB gP vq KV (mL.only fun a h=>bw _ (bj _ h))) (sX.only fun a h=>bj _ h),Wa,fun a h=>wv.live a (wv.oh a (bj _ h)),
   fun a h q=>(eG a h).elim (fun z=>oP a z q) fun z=>(jM.live a (mL.sub a (vq a q))).elim fun o e=>(nomatch z.symm.trans e),fun a h q=>(eG a h).elim (fun z=>PQ a z q) fun z=>(jM.live a (jM.oh a (bw _ (bw _ q)))).elim fun o e=>nomatch z.symm.trans e⟩
 ·have he:i=xs.length:=by omega
  refine au (hI.done ao s' _ vq S'.G S'.live (he▸Je)) (fun r cB eh=>?_) fun ø ø q=>q
  obtain⟨er,mv⟩:=eh;rw[er];exact hQ cB _ m' am lM ((S'.Al (Cy W (Wf lM) out)).last mv hWB Hd fun a h q=>(cr.mp h).elim (fun z=>oP a z q) fun z=>QK a z q) hB (eF lM _ _ Oy fun a h o e=>mv.keep a o (oP a h) e) (he▸hJ)
theorem HQ(eF:∀g h h',Inv g h->(∀a∈Wf g,∀o,h.get? a=some o->h'.get? a=some o)->Inv g h'){m:Str->Option Value}{ρ:al}{g:γ}(rm:bW n A)(S:aB P K env (Wf g++out) hid m B s ρ)
  (Hd:∀a∈Wf g,B.heap.get? a=none) (PQ:∀a∈Wf g,a∉out) (Oy:Inv g s.heap) (hJ:J 0 ρ g)
  (hi:wpAny (model P.prog P.w) A (eval iter env) (fun v s₁=>wpAny (model P.prog P.w) A (pyIter v) (fun it s₂=>TG P A hid xs s s₂ it) E s₁) E s)
  (ha:zd P K lc target asg) (SP:∀i x ρ g,xs[i]?=some x->J i ρ g->∃am,asg ρ x=some am/\J' i am g)
  (hb:∀i x (out hid:List Addr) m s ρ g E Q,xs[i]?=some x->aB P K env (Wf g++out) hid m B s ρ->(∀a∈Wf g,B.heap.get? a=none)->(∀a∈Wf g,a∉out)->Inv g s.heap->J' i ρ g->(∀s',XX P K env out hid B s s' Wf Inv J (i+1) g->Q .next s')->wpAny (model P.prog P.w) A (execs body env) Q E s)
  (hs:∀x,foldedSetIterable iter env x=pure x) (hQ:∀s' ao m' aY g',aB P K env (Wf g'++out) ao m' B s' aY->(∀a∈Wf g',B.heap.get? a=none)->Inv g' s'.heap->J xs.length aY g'->Q .next s'):
  wpAny (model P.prog P.w) A (exec (.For target iter body [] pos) env) Q E s:=by
 refine A1 hs (au hi (fun v s₁ ag=>au ag (fun it s₂ aH=>?_) fun ø ø q=>q) fun ø ø q=>q);obtain⟨I,W,gi,St,e,kp,hI,hW,lW,hg,st⟩:=aH;rw[e];have cC:aB P K env (Wf g++(W++out)) (W++hid) m B s₂ ρ:=(S.outer kp hW lW).Al (Cy _ _ _);have nW:∀a∈Wf g++out,a∉W:=fun a h q=>(S.live a (S.oh a h)).elim fun o e=>nomatch e.symm.trans (hW a q)
 exact⟨fun k s'=>XW P K env out B xs Wf Inv J W St k s',xs.length,⟨0,W++hid,m,ρ,g,rfl,cC,Hd,eF g _ _ Oy fun a ø o e=>kp.keep a o e,fun a h=>bj _ h,st,hJ,fun a h=>cC.live a (cC.oh a (bj _ h)),fun a h=>nW a (bj _ h),PQ⟩,
  fun k s' h=>ER eF rm hI (fun a h=>S.fresh (hW a h)) (fun g e=>aA S.kp.gens.size (hg g e)) (fun a h=>nW a (bw _ h)) ha SP hb hQ h⟩
end
end
section
variable{P:Pk}{n:Nat}{K K':Cx}{lo:Bool}{C N:Addr}{mN:Str->Option Value}
theorem aB.Wb(W:cP P C N mN){env:Env}{out hid:List Addr}{m}{B s:Shared}{ρ}(S:aB P K env out hid m B s ρ)(i:Nat){x:Str}{k:NameKind}(hi:K.vars[i]?=some (x,k,true))(hv:K'.vars=K.vars.set i (x,k,false))(hg:K'.aM=K.aM){ks:List Int}{l:List V}(hy:ρ i=some (.dict ks l)):
  ∃d vs,aB P K' env (d::out) hid m B s (upd ρ i (.obj [.int (d:Nat)]))/\s.heap.DictOf (intKind P.prog P.w) d (ks.zip vs)/\vs.length=ks.length/\(d==sysModules)=false/\B.heap.get? d=none/\d∉out:=by
 obtain⟨ov,TA,VJ⟩:=S.slot i x k true hi;rw[hy]at VJ;obtain⟨v0,rfl,bx⟩:=VJ;rw[aw rfl]at bx;obtain⟨a,rfl,ha1,XL,ha3,ha4⟩:=fc.addr (P:=P) bx;obtain⟨a',vs,e,z1,z2,z3,z4,z5,z6,z7⟩:=bx;cases e;exact⟨a,vs,S.unbox hi hv hg hy TA ha4 (fun b h=>(bp.mp h).elim (fun e=>e▸ha1) (S.oh b)) (fun b h ho=>S.own b h fun z=>ho (cw _ z)) (fun b h ho bN=>⟨h,fun q=>(bp.mp q).elim bN ho⟩) ha3 (fun ø h=>h)
  (fun h=>h.map id fun c ø q2 q3 q4=>⟨q2,fun q=>(bp.mp q).elim (fun e=>ha4.lG (e▸q4)) q3,q4⟩) (fun j nj=>gX _ _ nj) (jb ..) (Dn.Ga W a),z6,z5,z4,S.own a ha1 XL,XL⟩
noncomputable def Am(h:Heap)(a:Addr)(l:List Int):Prop:=∃vs,h.PlainList a vs.toArray/\IntsAre vs l
theorem Am.at{h h':Heap}{a l}(x:Am h a l)(k:∀o,h.get? a=some o->h'.get? a=some o):Am h' a l:=let⟨vs,h1,h2⟩:=x;⟨vs,h1.at k,h2⟩
theorem wY{h:Heap}{hid:List Addr}{vs:List Value}{ns:List Int}(hI:IntsAre vs ns):aU P h hid (ns.map .int) vs:=by
 induction hI with
 |nil=>exact aV.nil
 |cons k t _ ih=>exact .cons (Dn.ofInt (P:=P) k t) ih
theorem Am.dn{h:Heap}{a l}(x:Am h a l):Dn P h [] (.list (l.map .int)) (.ref a):=by
 obtain⟨vs,h1,h2⟩:=x;exact .ofList (fun h=>nomatch h) h1 (wY h2)
theorem wZ{h:Heap}{hid:List Addr}:∀{ns:List Int} {vs:List Value},aU P h hid (ns.map .int) vs->IntsAre vs ns
 |[],vs,e=>by obtain rfl:=aU.nil_inv e;exact .nil
 |k::ns,vs,e=>by
  obtain⟨v,r,rfl,h1,h2⟩:=aU.cons_inv e;obtain⟨t,rfl⟩:=h1.int_inv;exact .cons k t (wZ h2)
noncomputable abbrev iQ:=Int×Addr×List Int
structure iR(P:Pk)(d:Addr)(g:List iQ)(h:Heap):Prop where
 nodup:(d::g.map (·.2.1)).Nodup
 dict:h.DictOf (intKind P.prog P.w) d (g.map fun e=>(e.1,Value.ref e.2.1))
 lists:∀e∈g,Am h e.2.1 e.2.2
 few:g.length<=64
noncomputable abbrev Wf(d:Addr)(g:List iQ):List Addr:=d::g.map (·.2.1)
theorem iR.keep{d:Addr}{g:List iQ}{h h':Heap}(x:iR P d g h)(k:∀a∈Wf d g,∀o,h.get? a=some o->h'.get? a=some o):iR P d g h' where
 nodup:=x.nodup
 dict:=by
  obtain⟨o,es,ep,e,r⟩:=x.dict;exact⟨o,es,ep,k d (by simp) o e,r⟩
 lists:=fun e he=>(x.lists e he).at fun o q=>k _ (by simp only[bp,bP];exact .inr ⟨e,he,rfl⟩) o q
 few:=x.few
end
section
variable{P:Pk}{n:Nat}{K K':Cx}{lo:Bool}{C N:Addr}{mN:Str->Option Value}
theorem w0(W:cP P C N mN){A:Around}{env:Env}{out hid:List Addr}{m:Str->Option Value}{B s:Shared}{ρ:al}(S:aB P K env out hid m B s ρ){i:Nat}{x:Str}{k:NameKind}{a:Addr}(hi:K.vars[i]?=some (x,k,false))(hy:ρ i=some (.obj [.int (a:Nat)]))
  (hd:(x==("__debug__":Str))=false) (hc:(x==("__classdict__":Str))=false) {name:Str} {args:List Expr} {p apos pos:Pos} {T id:String} (pa:PlainAttrs T) (slot:Slot T name id) (ty:typeOf (.builtin id)=pure (.type "method_descriptor"))
  (hT:s.TypeIs (.ref a) T) (vR:∃ob,s.heap.get? a=some ob/\ob.dict=none) {Q:Value->Shared->Prop} {E:Value->Shared->Prop} (eF:∀env,starEach args env=args.map fun e=>(false,eval e env)) (bN:args.length<20) (jd:(apos.endLine==pos.line)=true)
  (je:∀env,attributeBase (.Name x p) name env (eval (.Name x p) env)=eval (.Name x p) env)
  (h:wpAny (model P.prog P.w) A (spliced (backTo pos (starEach args env))) (fun vs s₁=>wpAny (model P.prog P.w) A (call (.builtin id) (.ref a::vs)) Q E s₁) E s):
  wpAny (model P.prog P.w) A (eval (.Call (.Attribute (.Name x p) name apos) args [] pos) env) Q E s:=by
 have cL:(backTo pos (starEach args env)).any (·.1)=false:=dg eF;refine yI (je env) (nK cL bN) jd ?_;refine eV (S.load hi hy hd hc fun v hv ø=>?_) hd;obtain rfl:=Dn.uF W hv;exact⟨T,id,pa,slot,ty,hT,fun b e=>by cases e;exact vR,rJ cL (dM cL h)⟩
theorem An{jJ:List (Int×Value)}{k:Int}{v:Value}(h:valueAt jJ k=some v):(k,v)∈jJ:=by
 unfold valueAt at h;refine bV h ?_;rintro⟨k',v'⟩ h1 rfl;have:=List.find?_some h1;simp only[iH]at this;subst this;exact List.mem_of_find?_eq_some h1
theorem Ao{jJ:List (Int×Value)}{k:Int}(h:valueAt jJ k=none):∀e∈jJ,e.1≠k:=by
 unfold valueAt at h;rw[Option.map_eq_none_iff,List.find?_eq_none]at h;intro e he q;exact h e he (by simp[q])
theorem Ap{A:Around}{s:Shared}{E:Value->Shared->Prop}{Q:Value->Shared->Prop}{d l:Addr}{g:List iQ}{k:Int}{t:Tok}(ly:(d==sysModules)=false)(hI:iR P d g s.heap)(hl:s.heap.PlainList l #[])(eG:l∉Wf d g)(hg:g.length<64)
  (h1:∀a xs,(k,a,xs)∈g->Q (.ref a) {s with toks:=s.toks+1})
  (h2:(∀e∈g,e.1≠k)->∀h',Heap.SameBut d s.heap h'->iR P d (g++[(k,l,[])]) h'->Q (.ref l) {s with heap:=h',toks:=s.toks+1}):
  wpAny (model P.prog P.w) A (call (.builtin "dict.setdefault") [.ref d,.int k t,.ref l]) Q E s:=by
 have PZ:((g.map fun e=>(e.1,Value.ref e.2.1)).map (·.1)).Nodup:=by
  obtain⟨o,es,ep,_,_,_,_,_,hn⟩:=hI.dict;exact hn
 refine u2 PySem.F.slot_dict_setdefault hI.dict.typeIs PySem.F.entry_dict_setdefault (PySem.F.args_dict_setdefault_3 _ _ _) (kt_meets_setdefault (intKind P.prog P.w) (k:=k) d (pQ _ _ _ _) ly (.ref l)) ⟨_,hI.dict,?_,fun v hv=>?_,fun hv h' hD hs=>?_⟩
 ·rw[bi,gQ];exact aA (eY hg) (by decide)
 ·have:=An hv
  obtain⟨e,he,q⟩:=bP.mp this;obtain⟨k',a,xs⟩:=e;simp only[Prod.mk.injEq]at q;obtain⟨rfl,rfl⟩:=q;exact h1 a xs he
 ·have Fw:∀e∈g,e.1≠k:=fun e he q=>by
   have:=Ao hv;exact this (e.1,.ref e.2.1) (bP.mpr ⟨e,he,rfl⟩) q
  refine h2 Fw h' hs ⟨?_,?_,?_,?_⟩
  ·rw[List.map_append,<-List.cons_append,kL]
   exact⟨hI.nodup,by simp,fun a ha b hb e=>eG (by simp at hb;rw[<-hb,<-e];exact ha)⟩
  ·have e:stored (g.map fun(e:iQ)=>(e.1,Value.ref e.2.1)) k (.ref l)=((g++[(k,l,[])]).map fun(e:iQ)=>(e.1,Value.ref e.2.1)):=by
    unfold stored;rw[az,List.map_append]
    ·rfl
    ·simp only[List.any_map,List.any_eq_true,Function.comp,iH,not_exists,not_and]
     exact fun e he q=>Fw e he q
   rw[<-e];exact hD
  ·intro e he
   rcases cr.mp he with he|he
   ·refine(hI.lists e he).at fun o q=>(hs.2 _ fun z=>?_).trans q
    have:=(gC.mp hI.nodup).1;exact this (by rw[<-z];exact nA he)
   ·simp only[cN]at he
    subst he;refine⟨[],?_,.nil⟩;exact hl.at fun o q=>(hs.2 _ fun z=>eG (by simp[z])).trans q
  ·simp;omega
end
section
variable{P:Pk}{n:Nat}{C N:Addr}{mN:Str->Option Value}
noncomputable def iS:Cx:={vars:=[(IX,.local,false),(WT,.local,true),(Qq,.cell,true),(Ts,.local,false),(IQ,.local,false),(Fs,.local,false),(WR,.local,false),(T0,.local,false)],aM:=[AQ,vi,MT]}
noncomputable def cY:Cx:={vars:=[(IX,.local,false),(WT,.local,false),(Qq,.cell,true),(Ts,.local,false),(IQ,.local,false),(Fs,.local,false),(WR,.local,false),(T0,.local,false)],aM:=[AQ,vi,MT]}
noncomputable def w1:Cx:={vars:=[(Ts,.local,false),(Qq,.cell,true)],aM:=[]}
noncomputable def pz:Stmt:=aJ (dz (aJ pq.main.body 67)) 1
noncomputable def oK:Stmt->List Stmt:=p8 [] (fun ø ø ø=>[]) (fun ø=>[]) (fun ø ø ø=>[]) (fun ø ø b=>b) (fun ø ø ø=>[])
noncomputable def LJ:Stmt->List Stmt:=p8 [] (fun ø ø ø=>[]) (fun ø=>[]) (fun ø ø ø=>[]) (fun ø ø ø=>[]) (fun ø b ø=>b)
noncomputable def SQ:Stmt->List Stmt:=p8 [] (fun ø ø ø=>[]) (fun ø=>[]) (fun ø ø ø=>[]) (fun ø ø ø=>[]) (fun ø ø b=>b)
noncomputable def Gq:Stmt->Expr:=p8 default (fun ø ø ø=>default) (fun ø=>default) (fun ø ø ø=>default) (fun ø i ø=>i) (fun ø ø ø=>default)
noncomputable def LK:{f:al->Option (al×Fl)//uk P n iS (aJ (dz (aJ pq.main.body 67)) 0) f}:=⟨_,(@lL _ _ _ ([(1,WT,.local,true),(2,Qq,.cell,true)]) ([_,_]) _ _ _ _ _ _ _ ⟨by decide+kernel,by decide+kernel⟩ rfl (@jN.new _ _ _ _ _ _ _ _ (@j1 _ _ _ _) (@jN.new _ _ _ _ _ _ _ _ (@j1 _ _ _ _) (@jN.nil _ _ _) (fun ø=>rfl)) (fun ø=>rfl)) (by decide) (@af _ _ _ (@af _ _ _ len0)) kU.len (fun ø=>rfl) (Oa (K:=iS) (i:=0) (j:=2) rfl rfl))⟩
noncomputable def LL:{f:al->Option (al×Fl)//uk P n cY (aJ (oK pz) 0) f}:=⟨_,(@oD _ _ _ _ _ _ _ _ (@da _ _ _ _ _ _ _ (@ay _ _ _ _ _ _ _ (@ap _ _ _ 4 _ _ _ rfl (by decide) (by decide)) (@ay _ _ _ _ _ _ _ (@ap _ _ _ 5 _ _ _ rfl (by decide) (by decide)) (@bX _ _ _))) (@aE _ _ _ (@aE _ _ _ cH)) (fun ø=>rfl)) (@aF _ _ _ _ _ _ _ _ _ (@Z _ _ _ 0 _ _ _ rfl rfl rfl) (@ae _ _ _ _ _ (@Z _ _ _ 3 _ _ _ rfl rfl rfl)) (fun ø ø=>rfl)) (fun ø=>rfl) (fun ø=>rfl) (fun ø=>rfl))⟩
noncomputable def LM:{f:al->Option (al×Fl)//uk P n cY (aJ (LJ (aJ (oK pz) 2)) 1) f}:=⟨_,(@lO _ _ _ 2 _ _ _ _ _ _ _ _ _ _ rfl rfl rfl FF (@aa _ _ _ _ _ _ _) (@Z _ _ _ 3 _ _ _ rfl rfl rfl) (fun ø=>rfl))⟩
noncomputable def LN:{f:al->Option (al×Fl)//uk P n cY (aJ (LJ (aJ (SQ (aJ (oK pz) 2)) 0)) 1) f}:=⟨_,(@lO _ _ _ 2 _ _ _ _ _ _ _ _ _ _ rfl rfl rfl FF (@ai _ _ _ _ _ _ _ _ _ _ _ tA (@Z _ _ _ 3 _ _ _ rfl rfl rfl) (@Z _ _ _ 7 _ _ _ rfl rfl rfl)) (@Z _ _ _ 7 _ _ _ rfl rfl rfl) (fun ø=>rfl))⟩
noncomputable def ES(bz:P.glob AQ=some (.type "range"))(cb:P.glob vi=some (.builtin "len")):{f:al->Option (List V)//QJ P n cY (Gq pz) f}:=⟨_,(@fh _ _ _ _ _ _ _ rfl bz (@O _ _ _ _ _ _ _ _ (@aI _ _ _ _ _ _ _ _ _ _ _ rfl cb rfl jj (@O _ _ _ _ _ _ _ _ (@Z _ _ _ 0 _ _ _ rfl rfl rfl) (@ab _ _ _ _) (fun ø=>rfl)) (fun ø=>rfl) (cf _ _)) (@ab _ _ _ _) (fun ø=>rfl)) (fun ø=>rfl) (cf _ _))⟩
noncomputable def LO(eQ:P.glob MT=some (.builtin "sorted")):{f:al->Option (al×Fl)//uk P n cY (aJ (dz (aJ pq.main.body 67)) 2) f}:=⟨_,(@aX _ _ _ _ _ _ (@dL _ _ _ _ _ _ (@dj _ _ _ (w1) _ _ _ _ _ _ _ _ _ _ (1) ([2]) (@bQ _ _ _ _ _ (@dL _ _ _ _ _ _ (@uq _ _ _ _ _ _ _ _ _ _ rfl eQ (@cG _ _ _ 2 _ _ _ rfl rfl rfl) (fun ø=>rfl)))) (@bB _ _ _ _ _ (by decide+kernel)) (@ap _ _ _ 0 _ _ _ rfl (by decide) (by decide)) (@bY _ _ _) (@qP _ _ _ _ _ _ (@aF _ _ _ _ _ _ _ _ _ (@cG _ _ _ 1 _ _ _ rfl rfl rfl) (@ae _ _ _ _ _ (@Z _ _ _ 0 _ _ _ rfl rfl rfl)) (fun ø ø=>rfl))) (fun ø ø=>rfl))))⟩
end
section
variable{P:Pk}{n:Nat}{K K':Cx}{lo:Bool}{C N:Addr}{mN:Str->Option Value}
theorem t7{d:Addr}{g:List iQ}{k a xs}(h:((k,a,xs):iQ)∈g):a∈Wf d g:=by
 simp only[bp,bP];exact .inr ⟨_,h,rfl⟩
theorem LP(W:cP P C N mN){A:Around}{env:Env}{out hid:List Addr}{m:Str->Option Value}{B s:Shared}{ρ:al}{d:Addr}{g:List iQ}{ip iq ik:Nat}{xp xq xk:Str}{kd:Int}{E:Value->Shared->Prop}{Q:Flow->Shared->Prop}
  (rm:bW n A) (ly:(d==sysModules)=false) (S:aB P K env (Wf d g++out) hid m B s ρ) (hB:∀a∈Wf d g,B.heap.get? a=none) (oP:∀a∈Wf d g,a∉out) (hI:iR P d g s.heap) (hg:g.length<64)
  (XG:K.vars[ip]?=some (xp,.local,false)) (P6:K.vars[iq]?=some (xq,.local,false)) (hik:K.vars[ik]?=some (xk,.local,false)) (hp:ρ ip=some (.obj [.int (d:Nat)])) (hk:ρ ik=some (.int kd))
  (d1:(xp==("__debug__":Str))=false) (d2:(xp==("__classdict__":Str))=false) (d3:(xk==("__debug__":Str))=false) (d4:(xk==("__classdict__":Str))=false)
  {p1 p2 p3 p4 apos pos pos':Pos} {name:Str} (CB:name=(Str.ofString "setdefault")) (jd:(apos.endLine==pos.line)=true) (je:∀env,attributeBase (.Name xp p1) name env (eval (.Name xp p1) env)=eval (.Name xp p1) env)
  (eF:∀env,starEach [.Name xk p2,.List [] p3] env=[.Name xk p2,.List [] p3].map fun e=>(false,eval e env)) (Pw:∀env,swapsWith (.Call (.Attribute (.Name xp p1) name apos) [.Name xk p2,.List [] p3] [] pos) (some (.Name xq p4)) pos'.line env=pure false)
  (h:∀s' a ao m' g',aB P K env (Wf d g'++out) ao m' B s' (upd ρ iq (.obj [.int (a:Nat)]))->(∀a∈Wf d g',B.heap.get? a=none)->iR P d g' s'.heap->((∃xs,(kd,a,xs)∈g/\g'=g)\/((∀e∈g,e.1≠kd)/\g'=g++[(kd,a,[])]))->Ks out hid ao s s'->(∀a∈Wf d g',a∈Wf d g\/s.heap.get? a=none)->Q .next s'):
  wpAny (model P.prog P.w) A (exec (.Assign [.Name xq p4] (.Call (.Attribute (.Name xp p1) name apos) [.Name xk p2,.List [] p3] [] pos) pos') env) Q E s:=by
 subst CB;refine qD ?_ (Pw env);obtain⟨od,esd,epd,W6,ab6,_⟩:=id hI.dict;refine w0 W S XG hp d1 d2 yQ PySem.F.slot_dict_setdefault PySem.F.type_dict_setdefault hI.dict.typeIs ⟨od,W6,ab6.2.1⟩ eF (by simp) jd je ?_;refine jS (eV (S.load hik hk d3 d4 fun v hv ø=>?_) d3) rfl;obtain⟨t,rfl⟩:∃t,v= .int kd t:=Dn.int_inv (P:=P) (h:=s.heap) (hid:=hid) (by simpa using hv);have e2:starEach [.List [] p3] env=(false,eval (.List [] p3) env)::starEach [] env:=rfl;refine jS (wpAny_List (jR ⟨by simp,jR ?_⟩)) e2
 let s₁:Shared:={s with heap:=s.heap.push {cls:=.type "list",data:=.seq ([]:List Value).toArray} }
 have k1:Kp s s₁:=Kp.push s _ s.toks;have TT:s.heap.get? s.heap.objs.size=none:=aP _;have SR:s₁.heap.get? s.heap.objs.size=some {cls:=.type "list",data:=.seq ([]:List Value).toArray}:=bD _ rfl;have LQ:iR P d g s₁.heap:=hI.keep fun a ø o e=>k1.keep a o e
 have hlW:s.heap.objs.size∉Wf d g:=fun q=>by
  obtain⟨o,e⟩:=S.live _ (S.oh _ (bj _ q));rw[TT]at e;cases e
 refine Ap (t:=t) ly LQ ⟨0,SR⟩ hlW hg (fun a xs ha=>?_) (fun Fw h' hs hI'=>?_)
 ·
  have k2:Kp s {s₁ with toks:=s₁.toks+1}:=k1.trans (Kp.toks _ _);have cC:=S.after k2;refine cC.store P6 (y:=.obj [.int (a:Nat)]) (Dn.Ga W a) (fun q=>by cases q) (by decide) fun m' s' S' K' ø=>?_
  refine h s' a hid m' g S' hB (hI.keep fun b hb o e=>K'.keep b o (.inr (bj _ hb)) (k2.keep b o e)) (.inl ⟨xs,ha,rfl⟩) ?_ fun a h=>.inl h
  have:=(Ks.gT k2).trans K';exact⟨fun b o hb e=>this.keep b o (hb.imp id fun q=>bw _ q) e,this.new,this.sub,this.gens,this.os⟩
 ·
  have bc:aB P K env ([s.heap.objs.size]++(Wf d g++out)) ([s.heap.objs.size]++hid) m B s₁ ρ:=S.outer (W:=[s.heap.objs.size]) k1 (fun a h=>by simp at h;rw[h];exact TT) fun a h=>by simp at h;subst h;exact⟨_,SR⟩
  replace hs:Heap.SameBut d s₁.heap h':=hs;obtain⟨od',_,_,hod',_⟩:=id hI'.dict;have mv:Mv [d] none s₁ {s₁ with heap:=h',toks:=s₁.toks+1}:=⟨⟨fun b o hb e=>(hs.2 b (by simpa using hb)).trans e,fun i x ø e=>e,id,rfl⟩,fun b hb=>by simp at hb;subst hb;exact⟨_,hod'⟩⟩;have cC:=bc.step (W:=[d]) (fun a h=>by simp at h;subst h;simp) mv (fun a h=>by simp at h;subst h;exact hB _ (by simp)) fun g e=>nomatch e
  have hBl:B.heap.get? s.heap.objs.size=none:=by
   cases e:B.heap.get? s.heap.objs.size with
   |none=>rfl
   |some o=>have:=S.kp.keep _ o e;rw[TT]at this;cases this
  have mem:∀a,a∈Wf d (g++[(kd,s.heap.objs.size,[])])++out<->a∈[s.heap.objs.size]++(Wf d g++out):=fun a=>by
   simp only[Wf,List.map_append,bn,nq,cr,bp,bP,qH,ny];constructor
   ·rintro((h|h|h)|h)
    ·exact .inr (.inl (.inl h))
    ·exact .inr (.inl (.inr h))
    ·exact .inl h
    ·exact .inr (.inr h)
   ·rintro(h|(h|h)|h)
    ·exact .inl (.inr (.inr h))
    ·exact .inl (.inl h)
    ·exact .inl (.inr (.inl h))
    ·exact .inr h
  have kT:=cC.Al mem;refine kT.store P6 (y:=.obj [.int (s.heap.objs.size:Nat)]) (Dn.Ga W _) (fun q=>by cases q) (by decide) fun m' s' S' K' ø=>?_
  have eG:∀a∈Wf d (g++[(kd,s.heap.objs.size,[])]),a∈Wf d g\/a=s.heap.objs.size:=fun a ha=>by
   have:=(mem a).mp (bj _ ha);simp only[cr,cN]at this;rcases this with q|q|q
   ·exact .inr q
   ·exact .inl q
   ·simp only[Wf,List.map_append,bn,nq,cr,bp,bP,qH,ny]at ha
    rcases ha with z|z|z
    ·exact .inl (by simp[z])
    ·exact .inl (by simp only[Wf,bp,bP];exact .inr z)
    ·exact .inr z
  refine h s' _ _ m' _ S' (fun a ha=>(eG a ha).elim (hB a) fun q=>q▸hBl) (hI'.keep fun b hb o e=>K'.keep b o (.inr (bj _ hb)) e) (.inr ⟨Fw,rfl⟩) ?_ fun a ha=>(eG a ha).elim .inl fun q=>.inr (q▸TT)
  have hdo:d∉out:=oP d (by simp);have hdh:d∈hid:=S.oh _ (by simp);refine⟨fun b o hb e=>?_,fun a ha=>?_,fun a ha=>K'.sub a (bw _ ha),K'.gens,K'.os⟩
  ·refine K'.keep b o (hb.elim (fun q=>.inl fun z=>?_) fun q=>.inr (bw _ q)) ?_
   ·rcases cr.mp z with z|z
    ·simp only[cN]at z;rw[z,TT]at e;cases e
    ·exact q z
   ·have hbd:b≠d:=fun z=>hb.elim (fun q=>q (z▸hdh)) fun q=>hdo (z▸q)
    exact(hs.2 b hbd).trans (k1.keep b o e)
  ·rcases K'.new a ha with q|q
   ·rcases cr.mp q with q|q
    ·simp only[cN]at q;exact .inr (q▸TT)
    ·exact .inl q
   ·right
    cases e:s.heap.get? a with
    |none=>rfl
    |some o=>
     by_cases z:a=d
     ·rw[z,hod']at q;cases q
     ·have:=(hs.2 a z).trans (k1.keep a o e)
      rw[this]at q;cases q
noncomputable def fb(g:List iQ)(a:Addr)(xs:List Int):List iQ:=g.map fun e=>if e.2.1=a then(e.1,e.2.1,xs)else e
theorem hO{d:Addr}{g:List iQ}{a:Addr}{xs:List Int}:Wf d (fb g a xs)=Wf d g:=by
 unfold Wf fb;rw[dK]
 congr 1
 refine pi fun e ø=>?_
 simp only[Function.comp];split<;>rfl
theorem t8{d:Addr}{g:List iQ}{h h':Heap}{a:Addr}{xs:List Int}(hI:iR P d g h)(ha:a≠d)(hs:Heap.SameBut a h h')(hl:Am h' a xs):iR P d (fb g a xs) h' where
 nodup:=by
  have:=hI.nodup;have e:d::g.map (·.2.1)=d::(fb g a xs).map (·.2.1):=(hO (d:=d) (g:=g) (a:=a) (xs:=xs)).symm;rw[e]at this;exact this
 dict:=by
  have e:(fb g a xs).map (fun e=>(e.1,Value.ref e.2.1))=g.map fun e=>(e.1,Value.ref e.2.1):=by
   unfold fb;rw[dK];refine pi fun e ø=>?_
   simp only[Function.comp];split<;>rfl
  rw[e];obtain⟨o,es,ep,z,r⟩:=hI.dict;exact⟨o,es,ep,(hs.2 d (dW ha)).trans z,r⟩
 lists:=fun e he=>by
  obtain⟨iE,he₀,rfl⟩:=bP.mp he;by_cases q:iE.2.1=a
  ·rw[aw q];exact q▸hl
  ·rw[az q]
   exact(hI.lists iE he₀).at fun o z=>(hs.2 _ q).trans z
 few:=by unfold fb;rw[bi];exact hI.few
theorem Gr{s:Shared}{h':Heap}{a:Addr}{tk:Nat}(hs:Heap.SameBut a s.heap h')(hl:∃o,h'.get? a=some o):Mv [a] none s {s with heap:=h',toks:=tk}:=
 ⟨⟨fun b o hb e=>(hs.2 b (by simpa using hb)).trans e,fun i x ø e=>e,id,rfl⟩,fun b hb=>by simp at hb;subst hb;exact hl⟩
theorem Gs{s s':Shared}{out hid:List Addr}{a:Addr}(k:∀b o,b≠a->s.heap.get? b=some o->s'.heap.get? b=some o)(ha:a∈hid)(ho:a∉out)(hg:GX s.gens s'.gens)(xX:s'.os=s.os):Ks out hid hid s s':=
 ⟨fun b o hb e=>k b o (fun z=>hb.elim (fun q=>q (z▸ha)) fun q=>ho (z▸q)) e,fun a h=>.inl h,fun a h=>h,hg,xX⟩
theorem CC(W:cP P C N mN){A:Around}{env:Env}{out hid:List Addr}{m:Str->Option Value}{B s:Shared}{ρ:al}{d a:Addr}{g:List iQ}{iq ix:Nat}{xq xx:Str}{kd i:Int}{xs:List Int}{E:Value->Shared->Prop}{Q:Flow->Shared->Prop}
  (rm:bW n A) (S:aB P K env (Wf d g++out) hid m B s ρ) (hB:∀a∈Wf d g,B.heap.get? a=none) (oP:∀a∈Wf d g,a∉out) (hI:iR P d g s.heap) (hm:(kd,a,xs)∈g) (hlen:xs.length<=64)
  (P6:K.vars[iq]?=some (xq,.local,false)) (TE:K.vars[ix]?=some (xx,.local,false)) (hp:ρ iq=some (.obj [.int (a:Nat)])) (hk:ρ ix=some (.int i))
  (d1:(xq==("__debug__":Str))=false) (d2:(xq==("__classdict__":Str))=false) (d3:(xx==("__debug__":Str))=false) (d4:(xx==("__classdict__":Str))=false)
  {p1 p2 apos pos pos':Pos} {name:Str} (CB:name=(Str.ofString "append")) (jd:(apos.endLine==pos.line)=true) (je:∀env,attributeBase (.Name xq p1) name env (eval (.Name xq p1) env)=eval (.Name xq p1) env)
  (eF:∀env,starEach [.Name xx p2] env=[.Name xx p2].map fun e=>(false,eval e env)) (Pw:∀env,swapsWith (.Call (.Attribute (.Name xq p1) name apos) [.Name xx p2] [] pos) none pos'.line env=pure false)
  (h:∀s',aB P K env (Wf d (fb g a (xs++[i]))++out) hid m B s' ρ->iR P d (fb g a (xs++[i])) s'.heap->Ks out hid hid s s'->Q .next s'):
  wpAny (model P.prog P.w) A (exec (.Expr (.Call (.Attribute (.Name xq p1) name apos) [.Name xx p2] [] pos) pos') env) Q E s:=by
 subst CB;obtain⟨vs,sk,hints⟩:=hI.lists _ hm;dsimp only at sk hints;have vR:∃ob,s.heap.get? a=some ob/\ob.dict=none:=by obtain⟨k,e⟩:=sk;exact⟨_,e,rfl⟩
 refine wpAny_Expr (au (w0 (Q:=fun v s'=>v= .none/\Q .next s') W S P6 hp d1 d2 Dk PySem.F.slot_list_append PySem.F.type_list_append sk.isList.typeIs vR eF (by simp) jd je ?_) (fun v s' q=>?_) fun ø ø q=>q) (by unfold interactive;simp[S.fn]) (Pw env)
 ·refine jS (eV (S.load TE hk d3 d4 fun v hv ø=>?_) d3) (by rw[eF];rfl)
  obtain⟨t,rfl⟩:∃t,v= .int i t:=Dn.int_inv (P:=P) (h:=s.heap) (hid:=hid) (by simpa using hv);refine jR ?_;have had:a≠d:=fun e=>by
   have:=(gC.mp hI.nodup).1;exact this (by rw[<-e];exact nA hm)
  have zg:vs.length=xs.length:=hints.length;refine Dl sk (fun h' jK hs=>⟨rfl,?_⟩) (by rw[bM,zg,gQ];exact aA hlen (by decide));have Od:Am h' a (xs++[i]):=⟨vs++[.int i t],by simpa using jK,wZ (P:=P) (h:=h') (hid:=[]) (by rw[List.map_append];exact aV.app (wY hints) (.one (Dn.ofInt (P:=P) _ _)))⟩;have XY:∃o,h'.get? a=some o:=by obtain⟨k,e⟩:=jK;exact⟨_,e⟩
  have S':=S.step (W:=[a]) (fun b hb=>by simp at hb;subst hb;exact bj _ (t7 hm)) (Gr (tk:=s.toks) hs XY) (fun b hb=>by simp at hb;subst hb;exact hB _ (t7 hm)) fun g e=>nomatch e
  refine h _ (by rw[hO];exact S') (t8 hI had hs Od) (Gs (fun b o hb e=>(hs.2 b hb).trans e) (S.oh _ (bj _ (t7 hm))) (oP _ (t7 hm)) (.refl _) rfl)
 ·obtain⟨rfl,q⟩:=q
  exact q
theorem LR(W:cP P C N mN){A:Around}{env:Env}{out hid:List Addr}{m:Str->Option Value}{B s:Shared}{ρ:al}{d a:Addr}{g:List iQ}{iq ix:Nat}{xq xx:Str}{kd i:Int}{xs:List Int}{E:Value->Shared->Prop}{Q:Flow->Shared->Prop}
  (rm:bW n A) (S:aB P K env (Wf d g++out) hid m B s ρ) (hB:∀a∈Wf d g,B.heap.get? a=none) (oP:∀a∈Wf d g,a∉out) (hI:iR P d g s.heap) (hm:(kd,a,xs++[i])∈g) (hlen:xs.length<=64)
  (P6:K.vars[iq]?=some (xq,.local,false)) (TE:K.vars[ix]?=some (xx,.local,false)) (hp:ρ iq=some (.obj [.int (a:Nat)]))
  (d1:(xq==("__debug__":Str))=false) (d2:(xq==("__classdict__":Str))=false)
  {p1 p2 apos pos pos':Pos} {name:Str} (CB:name=(Str.ofString "pop")) (jd:(apos.endLine==pos.line)=true) (je:∀env,attributeBase (.Name xq p1) name env (eval (.Name xq p1) env)=eval (.Name xq p1) env)
  (Pw:∀env,swapsWith (.Call (.Attribute (.Name xq p1) name apos) [] [] pos) (some (.Name xx p2)) pos'.line env=pure false)
  (h:∀s' m',aB P K env (Wf d (fb g a xs)++out) hid m' B s' (upd ρ ix (.int i))->iR P d (fb g a xs) s'.heap->Ks out hid hid s s'->Q .next s'):
  wpAny (model P.prog P.w) A (exec (.Assign [.Name xx p2] (.Call (.Attribute (.Name xq p1) name apos) [] [] pos) pos') env) Q E s:=by
 subst CB;obtain⟨vs,sk,hints⟩:=hI.lists _ hm;dsimp only at sk hints;obtain⟨e0,DZ⟩:=id sk;have vR:∃ob,s.heap.get? a=some ob/\ob.dict=none:=⟨_,DZ,rfl⟩;have zg:vs.length=xs.length+1:=by rw[hints.length];simp
 have XJ:aU P s.heap [] ((xs++[i]).map .int) vs:=wY hints;obtain⟨v,hv,hvd⟩:=aV.get (i:=xs.length) (x:=V.int i) XJ (by simp);obtain⟨t,rfl⟩:=Dn.int_inv (P:=P) (hid:=[]) hvd;have had:a≠d:=fun e=>by
  have:=(gC.mp hI.nodup).1;exact this (by rw[<-e];exact nA hm)
 refine qD ?_ (Pw env);refine w0 W S P6 hp d1 d2 Dk uW PySem.F.type_list_pop sk.isList.typeIs vR (fun ø=>rfl) (by simp) jd je ?_;refine jR ?_;refine rK uW sk.isList.typeIs Dm (PySem.F.args_list_pop_1 _) (PySem.MeetsSeq.list_pop_last a vs.toArray e0 (.int i t) (by simpa[zg]using hv) (by rw[bM,zg,gQ];exact aA (i7 hlen) (by decide))) ⟨DZ,?_⟩;have hs:Heap.SameBut a s.heap (s.heap.update a (Obj.mapSeq fun xs=>xs.eraseIdxIfInBounds (vs.toArray.size-1))):=pe ..;have Wc:(s.heap.update a (Obj.mapSeq fun xs=>xs.eraseIdxIfInBounds (vs.toArray.size-1))).PlainList a (vs.eraseIdx (vs.length-1)).toArray:=jf DZ (by rw[bM,sh]);have Od:Am (s.heap.update a (Obj.mapSeq fun xs=>xs.eraseIdxIfInBounds (vs.toArray.size-1))) a xs:=by
  refine⟨_,Wc,wZ (P:=P) (h:=s.heap) (hid:=[]) ?_⟩;have:=aU.erase (P:=P) (vs.length-1) XJ;rw[zg]at this ⊢;have e:((xs++[i]).map V.int).eraseIdx xs.length=xs.map V.int:=by
   rw[List.map_append,List.eraseIdx_append_of_length_le (by simp)];simp
  rw[Nat.add_sub_cancel]at this ⊢;rwa[e]at this
 have XY:∃o,(s.heap.update a (Obj.mapSeq fun xs=>xs.eraseIdxIfInBounds (vs.toArray.size-1))).get? a=some o:=by obtain⟨k,e⟩:=Wc;exact⟨_,e⟩
 have bc:=S.step (W:=[a]) (fun b hb=>by simp at hb;subst hb;exact bj _ (t7 hm)) (Gr (tk:=s.toks) hs XY) (fun b hb=>by simp at hb;subst hb;exact hB _ (t7 hm)) fun g e=>nomatch e
 show wpAny (model P.prog P.w) A (storeName env xx (.int i t)) _ _ _;refine bc.store TE (y:=.int i) (by simpa using Dn.ofInt (P:=P) i t) (fun q=>by cases q) (by decide) fun m' s' S' K' ø=>?_
 have K1:Ks out hid hid s {s with heap:=_,toks:=s.toks}:=Gs (a:=a) (fun b o hb e=>(hs.2 b hb).trans e) (S.oh _ (bj _ (t7 hm))) (oP _ (t7 hm)) (.refl _) rfl;refine h s' m' (by rw[hO];exact S') ?_ (K1.trans ⟨fun b o hb e=>K'.keep b o (hb.imp id fun q=>bw _ q) e,K'.new,K'.sub,K'.gens,K'.os⟩);exact(t8 hI had hs Od).keep fun b hb o e=>K'.keep b o (.inr (bj _ (by rw[hO]at hb;exact hb))) e
theorem HR(W:cP P C N mN){A:Around}{env:Env}{out hid:List Addr}{m:Str->Option Value}{B s:Shared}{ρ:al}{d a:Addr}{g:List iQ}{iq:Nat}{xq:Str}{kd:Int}{xs:List Int}{E:Value->Shared->Prop}{Q:Bool->Shared->Prop}
  (rm:bW n A) (S:aB P K env (Wf d g++out) hid m B s ρ) (hI:iR P d g s.heap) (hm:(kd,a,xs)∈g) (hlen:xs.length<=64)
  (P6:K.vars[iq]?=some (xq,.local,false)) (hp:ρ iq=some (.obj [.int (a:Nat)])) (d1:(xq==("__debug__":Str))=false) (d2:(xq==("__classdict__":Str))=false) {p1 p3 pos:Pos}
  (h:∀s',Kp s s'->Q (decide (xs≠[])) s'):wpAny (model P.prog P.w) A (isTrue (.Compare (.Name xq p1) [.NotEq] [.List [] p3] pos) env (eval (.Compare (.Name xq p1) [.NotEq] [.List [] p3] pos) env)) Q E s:=by
 refine uR (eV (S.load P6 hp d1 d2 fun v hv ø=>?_) d1) rfl;obtain rfl:=Dn.uF W hv;refine wpAny_List (jR ⟨by simp,?_⟩)
 let s₁:Shared:={s with heap:=s.heap.push {cls:=.type "list",data:=.seq ([]:List Value).toArray} }
 have k1:Kp s s₁:=Kp.push s _ s.toks;have SR:s₁.heap.get? s.heap.objs.size=some {cls:=.type "list",data:=.seq ([]:List Value).toArray}:=bD _ rfl;have hx:Dn P s₁.heap [] (.list (xs.map .int)) (.ref a):=((hI.lists _ hm).at fun o e=>k1.keep _ o e).dn;have hy:Dn P s₁.heap [] (.list []) (.ref s.heap.objs.size):=.ofList (fun h=>nomatch h) ⟨0,SR⟩ .nil;have bN:Df (.list (xs.map .int)) (.list [])=some (decide (xs≠[])):=by
  cases xs with
  |nil=>rfl
  |cons x xs=>
   have hp:∀l:List Int,V.Ft (l.map .int)=some (l.map .int):=fun l=>by
    induction l with
    |nil=>rfl
    |cons y l ih=>simp only[bn,V.sa,V.sb,V.tC,V.tD,V.tE,V.tF,V.tG,ih,mW]
   have hd:∀l:List Int,PyData.depthAll (l.map .int)<=1:=fun l=>by
    induction l with
    |nil=>simp[PyData.depthAll]
    |cons y l ih=>simp only[bn,PyData.depthAll,PyData.depth];omega
   unfold Df;rw[vk _ _ rfl];simp only[AW,V.tC,V.tD,V.tE,V.tF,V.tG,hp,m3,mW,V.sa,V.sb];rw[aw]
   ·rfl
   ·have:=hd (x::xs);simp only[PyData.depth];omega
 refine au (vl A s₁ [] _ _ _ _ _ E (rm.less (dU _)) (P.Gk S.G k1.keep) (fun a h=>nomatch h) hx hy bN) (fun r s₂ q=>?_) fun ø ø q=>q
 rw[q.2];exact o8 (h s₂ (k1.trans q.1))
end
section
variable{P:Pk}{n:Nat}{C N:Addr}{mN:Str->Option Value}
noncomputable abbrev mP(r:List (Int×Bool)):V:=.list (r.map fun e=>.tup [.int e.1,.bool e.2])
theorem Oz{ρ:al}{r:List (Int×Bool)}{i:Nat}{k:Int}{o:Bool}(h0:ρ 0=some (mP r))(h3:ρ 3=some (.int i))(hr:r.length<=60)(hi:r[i]?=some (k,o)):(LL (P:=P) (n:=n)).1 ρ=some (upd (upd ρ 4 (.int k)) 5 (.bool o),.next):=by
 have hm:r.length<=most:=aA hr (by decide);have de:i<r.length:=(eX.mp hi).1;unfold LL;have e:=(eX.mp hi).2;simp[h0,h3,f7,uB,zh,FC,FD,hm,ff,de,e,Nk,I8,Nl]
theorem OA{ρ:al}{i:Nat}{ks vs:List _}(h2:ρ 2=some (.dict ks vs))(h3:ρ 3=some (.int i))(hk:ks.length<=most):(LM (P:=P) (n:=n)).1 ρ=some (upd ρ 2 (.dict (cI ks i) (eP ks vs i (.int 0))),.next):=by
 unfold LM;simp[h2,h3,D9,Ea,hk]
theorem OC{ρ:al}{i:Nat}{st:Int}{ks vs:List _}(h2:ρ 2=some (.dict ks vs))(h3:ρ 3=some (.int i))(h7:ρ 7=some (.int st))(hk:ks.length<=most):(LN (P:=P) (n:=n)).1 ρ=some (upd ρ 2 (.dict (cI ks st) (eP ks vs st (.int (i-st)))),.next):=by
 unfold LN;simp[h2,h3,h7,D9,Ea,hk,dA,M8]
theorem ET(a b:Int):IT a b 1=(List.range (b-a).toNat).map fun(i:Nat)=>V.int (a+i):=by
 unfold IT;have e:(Builtin.Range.rangeSize a b 1).toNat=(b-a).toNat:=by
  unfold Builtin.Range.rangeSize;simp;split<;>omega
 rw[e];simp
theorem LT{ρ:al}{r:List (Int×Bool)}{g1 g2}(h0:ρ 0=some (mP r))(hr:r.length<=60):(ES (P:=P) (n:=n) g1 g2).1 ρ=some ((List.range r.length).map fun(i:Nat)=>V.int i):=by
 have hm:r.length<=most:=aA hr (by decide);have h6:eH (r.length:Int)=true:=by simp[eH];omega
 unfold ES;have hl:qV [mP r]=some (.int (r.length:Nat)):=uC (congrArg some (bi ..)) hm;simp[h0,aQ,eD,hl,D2,D3,Jb,h6,ET]
noncomputable abbrev Aq:=(Int->List Int)×List Int×List V
noncomputable def iF(i:Nat)(e:Int×Bool)(st:Aq):Aq:=
 if e.2 then(fun k=>if k=e.1 then st.1 k++[(i:Int)]else st.1 k,cI st.2.1 i,eP st.2.1 st.2.2 i (.int 0))
 else match(st.1 e.1).getLast? with
  |none=>st
  |some j=>(fun k=>if k=e.1 then(st.1 k).dropLast else st.1 k,cI st.2.1 j,eP st.2.1 st.2.2 j (.int (i-j)))
noncomputable def cg(r:List (Int×Bool)):Nat->Aq
 |0=>(fun ø=>[],[],[])
 |i+1=>match r[i]? with
  |some e=>iF i e (cg r i)
  |none=>cg r i
theorem w2(r:List (Int×Bool))(i:Nat):cg r (i+1)=match r[i]? with
 |some e=>iF i e (cg r i)
 |none=>cg r i:=rfl
noncomputable def TU(g:List iQ)(pl:Int->List Int):Prop:=(∀e∈g,pl e.1=e.2.2)/\∀k,(∀e∈g,e.1≠k)->pl k=[]
theorem yt{α β:Type}(f:α->β):∀{g:List α},(g.map f).Nodup->∀e∈g,∀e'∈g,f e=f e'->e=e'
 |[],_,e,he,_,_,_=>by cases he
 |x::g,hn,e,he,e',Dh,q=>by
  simp only[bn,gC]at hn;rcases bp.mp he with h1|h1<;>rcases bp.mp Dh with h2|h2
  ·rw[h1,h2]
  ·exact absurd (by rw[<-h1,q];exact nA h2) hn.1
  ·exact absurd (by rw[<-h2,<-q];exact nA h1) hn.1
  ·exact yt f hn.2 e h1 e' h2 q
theorem TU.set{g:List iQ}{pl:Int->List Int}{kd:Int}{a:Addr}{xs ys:List Int}(h:TU g pl)(hm:(kd,a,xs)∈g)(ha:(g.map (·.2.1)).Nodup)(hk:(g.map (·.1)).Nodup):TU (fb g a ys) (fun k=>if k=kd then ys else pl k):=by
 have inj:∀{β:Type} (f:iQ->β),(g.map f).Nodup->∀e∈g,∀e'∈g,f e=f e'->e=e':=fun f hn e he e' Dh q=>yt f hn e he e' Dh q
 refine⟨fun e he=>?_,fun k Fw=>?_⟩
 ·obtain⟨iE,he₀,rfl⟩:=bP.mp he
  by_cases q:iE.2.1=a
  ·have:iE=(kd,a,xs):=inj (·.2.1) ha iE he₀ _ hm q
   subst this;simp
  ·have:iE.1≠kd:=fun z=>q (by have:=inj (·.1) hk iE he₀ _ hm z;rw[this])
   simp[q,this,h.1 iE he₀]
 ·have Wd:∀e∈g,e.1≠k:=fun e he=>by
   have:=Fw _ (nA (f:=fun e:iQ=>if e.2.1=a then(e.1,e.2.1,ys)else e) he);by_cases q:e.2.1=a
   ·rw[aw q]at this;exact this
   ·rw[az q]at this;exact this
  have:k≠kd:=fun z=>Wd _ hm z.symm
  simp[this,h.2 k Wd]
theorem iR.keys{d:Addr}{g:List iQ}{h:Heap}(x:iR P d g h):(g.map (·.1)).Nodup:=by
 obtain⟨o,es,ep,_,_,_,_,_,hn⟩:=x.dict;have e:(g.map fun e=>(e.1,Value.ref e.2.1)).map (·.1)=g.map (·.1):=by rw[dK];rfl
 rw[<-e];exact hn
noncomputable def JS(d:Addr)(r:List (Int×Bool))(i:Nat)(ρ:al)(g:List iQ):Prop:=ρ 0=some (mP r)/\ρ 1=some (.obj [.int (d:Nat)])/\ρ 2=some (.dict (cg r i).2.1 (cg r i).2.2)/\TU g (cg r i).1/\g.length<=i
theorem yu(r:List (Int×Bool))(i:Nat):(∀k,((cg r i).1 k).length<=i)/\(cg r i).2.1.length<=i:=by
 induction i with
 |zero=>exact⟨fun ø=>cF _,cF _⟩
 |succ i ih=>
  have dk:∀ks q,(cI ks q).length<=ks.length+1:=fun ks q=>by unfold cI;split<;>simp
  rw[w2];split
  ·unfold iF
   split
   ·refine⟨fun k=>?_,aA (dk _ _) (i7 ih.2)⟩
    have:=ih.1 k;dsimp only;split
    ·simp;omega
    ·omega
   ·split
    ·exact⟨fun k=>i6 (ih.1 k),i6 ih.2⟩
    ·refine⟨fun k=>?_,aA (dk _ _) (i7 ih.2)⟩
     have:=ih.1 k;dsimp only;split
     ·simp;omega
     ·omega
  ·exact⟨fun k=>i6 (ih.1 k),i6 ih.2⟩
end
noncomputable def yv:Cx:={vars:=[(Tt,.local,false),(Qp,.local,false),(⟨#[120]⟩,.local,false),(⟨#[110,117,109,98,101,114,115]⟩,.local,false),(⟨#[112,97,105,114,115]⟩,.local,false),(IX,.local,true),(⟨#[119,97,105,116,115]⟩,.local,true),(s85,.local,false),(IQ,.local,false)],aM:=[vi]}
noncomputable def Ar:Cx:={vars:=[(⟨#[120]⟩,.local,false)],aM:=[]}
noncomputable def tj{P:Pk}{n:Nat}(cb:P.glob vi=some (.builtin "len")):{f:al->Option (al×Fl)//p5 P n yv (dz (aJ pq.main.body 62)) f}:=⟨_,(@ac _ _ _ _ _ _ _ (@gY _ _ _ (Ar) 3 _ _ _ _ _ _ _ _ _ _ _ _ _ _ (1) ([]) rfl (@bQ _ _ _ _ _ (bC (Z 0 rfl rfl rfl) aO (bt aa) aO)) (bB (by decide+kernel)) (ap 0 rfl (by decide) (by decide)) bY (ai f6 (Z 0 rfl rfl rfl) (ai Pm aa aa)) cp rfl rfl) (@ac _ _ _ _ _ _ _ (@aD _ _ _ 3 _ _ _ _ _ _ rfl (by decide) (@ai _ _ _ _ _ _ _ _ _ _ _ cy (Z 3 rfl rfl rfl) (@bC _ _ _ _ _ _ _ _ _ _ _ _ _ _ (@eR _ _ _ _ _ _ _ (@O _ _ _ _ _ _ _ _ aa (@O _ _ _ _ _ _ _ _ aa (@O _ _ _ _ _ _ _ _ aa (@O _ _ _ _ _ _ _ _ aa (@O _ _ _ _ _ _ _ _ aa (@O _ _ _ _ _ _ _ _ aa (O aa (O aa ab ir) ir) ir) ir) ir) ir) ir) ir) (by decide) (@af _ _ _ (@af _ _ _ (@af _ _ _ (@af _ _ _ (@af _ _ _ (af (af (af len0))))))))) (@bt _ _ _ _ _ (@aI _ _ _ _ _ _ _ _ _ _ _ rfl cb rfl jj (O (ae (Z 3 rfl rfl rfl)) ab ir) ir (cf _ _))) aO aO)) cp) (@ac _ _ _ _ _ _ _ (@aD _ _ _ 4 _ _ _ _ _ _ rfl (by decide) (@r7 _ _ _ _ _ _ _ _ _ _ _ (@aR _ _ _ _ _ _ _ _ _ _ YB (@aI _ _ _ _ _ _ _ _ _ _ _ rfl cb rfl jj (O (ae (Z 0 rfl rfl rfl)) ab ir) ir (cf _ _)) aa rfl) aa aa) cp) (@ac _ _ _ _ _ _ _ (@lL _ _ _ ([(5,IX,.local,true),(6,⟨#[119,97,105,116,115]⟩,.local,true),(7,s85,.local,false)]) ([_,_,_]) _ _ _ _ _ _ _ ⟨by decide+kernel,by decide+kernel⟩ rfl (@jN.new _ _ _ _ _ _ _ _ (fT ab (by decide) len0) (jN.new (fT ab (by decide) len0) (jN.dat aa jN.nil ir) ir) ir) (by decide) (af (af (af len0))) kU.len ir (VI (K:=yv) (i:=5) (j:=6) (l:=7) rfl rfl rfl rfl rfl (by decide+kernel) rfl rfl rfl rfl)) (@ac _ _ _ _ _ _ _ (@fU _ _ _ (false) _ _ _ _ _ _ _ (@bQ _ _ _ _ _ (@bC _ _ _ _ _ _ _ _ _ _ _ _ _ _ (Z 3 rfl rfl rfl) aO (@bt _ _ _ _ _ (ai tB aa (ae (Z 4 rfl rfl rfl)))) aO)) (ap 2 rfl (by decide) (by decide)) (@ac _ _ _ _ _ _ _ (@aT _ _ _ _ _ _ _ _ _ _ (@AS.or _ _ _ _ _ _ _ _ (aR qR (cG 6 rfl rfl rfl) (eR ab (by decide) len0) rfl) (@r6 _ _ _ _ _ _ _ _ (@aR _ _ _ _ _ _ _ _ _ _ qR (ai f6 (ae (Z 2 rfl rfl rfl)) aa) aa rfl) (aR M9 (ae (Z 7 rfl rfl rfl)) (ae (Z 4 rfl rfl rfl)) rfl))) (@ac _ _ _ _ _ _ _ (@aD _ _ _ 8 _ _ _ _ _ _ rfl (by decide) (@ai _ _ _ _ _ _ _ _ _ _ _ f6 (@ai _ _ _ _ _ _ _ _ _ _ _ cy (Z 1 rfl rfl rfl) (@ai _ _ _ _ _ _ _ _ _ _ _ tB (ai f6 (ai ja (Z 2 rfl rfl rfl) aa) aa) aa)) aa) cp) (@ac _ _ _ _ _ _ _ (@di _ _ _ _ _ _ (cu 6 rfl rfl rfl qS (O (Z 8 rfl rfl rfl) ab ir) ir (by decide) rfl ir) gH ir) (@ac _ _ _ _ _ _ _ (iZ 7 rfl (by decide) rfl rfl vy aa) (@ac _ _ _ _ _ _ _ (@di _ _ _ _ _ _ (@cu _ _ _ 5 _ _ _ _ _ _ _ _ _ rfl rfl rfl qS (@O _ _ _ _ _ _ _ _ (@ct _ _ _ _ _ _ _ _ (@O _ _ _ _ _ _ _ _ (Z 8 rfl rfl rfl) (@O _ _ _ _ _ _ _ _ df (O (ai ja (Z 2 rfl rfl rfl) aa) ab ir) ir) ir) (by decide) (af (af (af len0)))) ab ir) ir (by decide) rfl ir) gH ir) aj)))) (@ac _ _ _ _ _ _ _ (@DU _ _ _ 8 _ _ _ _ _ _ rfl (by decide) (@cu _ _ _ 6 _ _ _ _ _ _ _ _ _ rfl rfl rfl Pr (@O _ _ _ _ _ _ _ _ (@ai _ _ _ _ _ _ _ _ _ _ _ tA (dc aa) (@ai _ _ _ _ _ _ _ _ _ _ _ f6 (ai f6 (ai ja (Z 2 rfl rfl rfl) aa) aa) (@qP _ _ _ _ _ _ (aI rfl cb rfl jj (O (cG 6 rfl rfl rfl) ab ir) ir (cf _ _))))) ab ir) ir (by decide) rfl ir) cp) (@ac _ _ _ _ _ _ _ (@aT _ _ _ _ _ _ _ _ _ _ (@aR _ _ _ _ _ _ _ _ _ _ qR (@ai _ _ _ _ _ _ _ _ _ _ _ f6 (ai ja (ae (Z 2 rfl rfl rfl)) aa) aa) aa rfl) (@ac _ _ _ _ _ _ _ (@aD _ _ _ 8 _ _ _ _ _ _ rfl (by decide) (ai f6 (ai cy (Z 8 rfl rfl rfl) aa) aa) cp) aj) aj) (@ac _ _ _ _ _ _ _ (@di _ _ _ _ _ _ (@cu _ _ _ 5 _ _ _ _ _ _ _ _ _ rfl rfl rfl qS (@O _ _ _ _ _ _ _ _ (@ct _ _ _ _ _ _ _ _ (@O _ _ _ _ _ _ _ _ (Z 8 rfl rfl rfl) (@O _ _ _ _ _ _ _ _ df (O (ai ja (Z 2 rfl rfl rfl) aa) ab ir) ir) ir) (by decide) (af (af (af len0)))) ab ir) ir (by decide) rfl ir) gH ir) aj)))) aj) cp) (ac (aX (cG 5 rfl rfl rfl)) aj))))))⟩
noncomputable abbrev Item:=Int×Bool×Int
noncomputable abbrev As(e:Item):V:=.tup [.int e.1,.bool e.2.1,.int e.2.2]
noncomputable def LU(e:Item):Prop:=0<=e.1/\e.1<9/\0<=e.2.2/\e.2.2<=17857
noncomputable def bv(d:Nat)(o:Bool):Sum Nat Unit:=if o then .inl (d+1)else if d=0 then .inr ()else .inl (d-1)
structure Au(its:List Item):Prop where
 len:its.length=6\/its.length=8
 ok:∀e∈its,LU e
 dyck:bg bv (its.map (·.2.1)) 0= .inl 0
inductive P7(pairs i:Nat)(its:List Item)(ws:List Int)(op:Nat):Prop
 |mk (hl:its.length=i) (hw:ws.length+i=2*op) (XZ:op<=pairs) (hd:bg bv (its.map (·.2.1)) 0= .inl ws.length) (Di:∀e∈its,LU e) (X0:∀k∈ws,0<=k/\k<9)
theorem Gu{its:List Item}{d d':Nat}{e:Item}(h:bg bv (its.map (·.2.1)) 0= .inl d)(hs:bv d e.2.1= .inl d'):bg bv ((its++[e]).map (·.2.1)) 0= .inl d':=by
 rw[List.map_append,g9,h];show bg bv [e.2.1] d=_;rw[bZ,hs];rfl
theorem P7.push{pairs i its ws op}(p:P7 pairs i its ws op)(ho:op<pairs){kd d:Int}(hk:0<=kd/\kd<9)(hd:0<=d/\d<=17857):P7 pairs (i+1) (its++[(kd,true,d)]) (ws++[kd]) (op+1):=by
 obtain⟨hl,hw,XZ,hf,Di,X0⟩:=p;exact⟨by rw[List.length_append,hl];rfl,by rw[List.length_append,pU];omega,ho,by rw[List.length_append];exact Gu hf rfl,wH Di ⟨hk.1,hk.2,hd⟩,wH X0 hk⟩
theorem P7.pop{pairs i its ws op}(p:P7 pairs i its ws op){j:Nat}(hj:j<ws.length){kd d:Int}(hk:0<=kd/\kd<9)(hd:0<=d/\d<=17857):P7 pairs (i+1) (its++[(kd,false,d)]) (ws.eraseIdx j) op:=by
 obtain⟨hl,hw,XZ,hf,Di,X0⟩:=p;have e:=DF hj;exact⟨by rw[List.length_append,hl];rfl,by omega,XZ,by rw[e];exact Gu hf (az (c:=ws.length=0) (by omega)),wH Di ⟨hk.1,hk.2,hd⟩,fun k hk=>X0 k (List.mem_of_mem_eraseIdx hk)⟩
inductive LV(total:Int)(pairs i:Nat)(ρ:al):Prop
 |mk (its:List Item) (ws:List Int) (op:Nat) (h1:ρ 1=some (.int total)) (h4:ρ 4=some (.int pairs)) (h5:ρ 5=some (.list (its.map As))) (h6:ρ 6=some (.list (ws.map .int))) (h7:ρ 7=some (.int op)) (p:P7 pairs i its ws op)
theorem yw{α β:Type}(f:α->β):∀(l:List α) (j:Nat),(l.map f).eraseIdx j=(l.eraseIdx j).map f
 |[],_=>rfl
 |x::l,0=>rfl
 |x::l,j+1=>by simp[List.eraseIdx,yw f l j]
theorem w3{ws:List Int}{x:Int}{op pairs:Nat}{ρ:al}(h2:ρ 2=some (.int x))(h4:ρ 4=some (.int pairs))(h6:ρ 6=some (.list (ws.map .int)))(h7:ρ 7=some (.int op)):
  Yz (qQ G7 (fun ρ=>ρ 6) fun ρ=>Option.map V.list (some [])) (M4 (qQ G7 (dA p0 (fun ρ=>ρ 2) fun x=>some (V.int 2)) fun x=>some (V.int 0)) (qQ ltV (fun ρ=>ρ 7) fun ρ=>ρ 4)) ρ=some (ws.isEmpty||(decide (x % 2=0)&&decide ((op:Int)<pairs))):=
 P5 (ba h6 rfl (HJ ws)) (Ss (ba (md h2 rfl) rfl (jz _ _)) (ba h7 h4 rfl))
theorem LW{pairs i its ws op}{x:Int}(p:P7 pairs i its ws op)(hi:i<2*pairs)(h:(ws.isEmpty||(decide (x % 2=0)&&decide ((op:Int)<pairs)))=true):op<pairs:=by
 have hw:=p.2;rcases(m5 _ _).mp h with h|h
 ·rw[List.isEmpty_iff.mp h]at hw
  exact by simp at hw;omega
 ·exact nC.mp (mC ((dI _ _).mp h).2)
theorem OD{ws:List Int}{z:Int}(h0:0<=z)(h1:z<ws.length)(hm:ws.length<=most):∃j,∃h:j<ws.length,DY (.list (ws.map .int)) [.int (-1-z)]=some (.list ((ws.eraseIdx j).map .int),.int ws[j]):=by
 have e:ff (-1-z) ws.length=some (-1-z+ws.length).toNat:=by
  unfold ff;rw[az (by omega),aw (by omega)]
 have hj:(-1-z+ws.length).toNat<ws.length:=by omega
 refine⟨_,hj,?_⟩;rw[QF,bi,e,cR,bL,dX hj,m3,cR,aw hm,yw]
theorem CF{ws:List Int}{x:Int}{ρ:al}{r:V×V}(h2:ρ 2=some (.int x))(h6:ρ 6=some (.list (ws.map .int)))(hz:(0:Int)<((ws.map V.int).length:Int)/\((ws.map V.int).length:Int)<1073741824)(hm:(ws.map V.int).length<=most)(hp:DY (.list (ws.map .int)) [.int (-1-x/2 % 4 % ((ws.map V.int).length:Int))]=some r):
  jc DY 6 (aQ (dA zc (fun ρ=>(some (V.int 1)).bind sy) (dA p0 (dA p0 (dA M5 (fun ρ=>ρ 2) fun x=>some (V.int 2)) fun x=>some (V.int 4)) fun ρ=>(eD qV (aQ (fun ρ=>ρ 6) fun x=>some []) ρ).bind fun x=>if x.scalar=true then some x else none)) fun x=>some []) ρ=some (upd ρ 6 r.1,r.2):=
 pv h6 (bu rfl (bu (md (dv h2 rfl) rfl) (dy (bJ h6 (og _ hm)) rfl) (Ab _ _ hz)) rfl) hp
theorem LX{script:List Int}(hs:script.length<=63){ρ:al}(h0:ρ 0=some (.list (script.map .int))):
  fj (fun ρ=>(ji (fun ρ=>ρ 0) (fun x=>some none) (fun ρ=>(some (V.int 8)).bind mE) (fun x=>some none) ρ).bind elems) (fun ρ y=>some (upd ρ 0 y)) (fun x=>some true) (dA p0 (fun ρ=>ρ 0) (dA Qx (fun x=>some (V.int 10)) fun x=>some (V.int 6))) 1 [] ρ=some (.list (((script.take 8).map (· % 1000000)).map .int)):=by
 rw[dK];exact db (fun ø=>True) (script.take 8) .int (fun x=>.int (x % 1000000)) (dy (eA h0 rfl rfl rfl (l5 _ 8 (by rw[bi];exact aA hs (by decide)))) (congrArg some (List.map_take ..).symm)) (gR (DK _ _) (by decide)) (fun x hx ρ ø=>⟨upd ρ 0 (.int x),rfl,trivial,md rfl rfl⟩) trivial
theorem LY{l:List Int}(h8:l.length<=8)(hr:∀x∈l,0<=x/\x<1000000):∃nums:List Int,nums.length=8/\(∀x∈nums,0<=x/\x<1000000)/\l.map V.int++([254856,503330,25595,127572,556481,134737,733769,57].map V.int).drop (l.map V.int).length=nums.map V.int/\(l.map V.int).length+(([254856,503330,25595,127572,556481,134737,733769,57].map V.int).drop (l.map V.int).length).length<=most:=by
 refine⟨l++[254856,503330,25595,127572,556481,134737,733769,57].drop l.length,by rw[List.length_append,mZ];exact ve h8,fun x hx=>?_,by rw[List.map_append,nE,bi],?_⟩;rcases cr.mp hx with hx|hx
 ·exact hr x hx
 ·exact(by decide:∀x∈[254856,503330,25595,127572,556481,134737,733769,57],(0:Int)<=x/\x<1000000) x (List.mem_of_mem_drop hx)
 ·rw[mZ,bi]
  show l.length+(8-l.length)<=1000000;omega
theorem HS{script:List Int}(hs:script.length<=63){ρ:al}(h0:ρ 0=some (.list (script.map .int))):∃pairs:Nat,(pairs=3\/pairs=4)/\G6 (qQ gtV (eD qV (aQ (fun ρ=>ρ 0) fun x=>some [])) fun x=>some (V.int 1)) (fun x=>some (V.int 4)) (fun x=>some (V.int 3)) ρ=some (.int pairs):=by
 have e:eD qV (aQ (fun ρ=>ρ 0) fun x=>some []) ρ=some (.int (script.map V.int).length):=bJ h0 (og _ (by rw[bi];exact aA hs (by decide)));by_cases q:(1:Int)<((script.map V.int).length:Int)
 ·exact⟨4,.inr rfl,tc (ba e rfl (congrArg some (eK q))) rfl⟩
 ·exact⟨3,.inl rfl,j5 (ba e rfl (congrArg some (mB q))) rfl⟩
theorem OE{P:Pk}{n:Nat}{g}{script:List Int}{total:Int}(hs:script.length<=63)(ht:0<=total){ρ:al}(h0:ρ 0=some (.list (script.map .int)))(h1:ρ 1=some (.int total)):
  td (tj (P:=P) (n:=n) g).1 ρ fun v=>∃its,Au its/\v= .list (its.map As):=by
 have h8:((script.take 8).map (· % 1000000)).length<=8:=by rw[bi];exact DK _ _
 have hr:∀x∈(script.take 8).map (· % 1000000),0<=x/\x<1000000:=fun x hx=>by
  obtain⟨y,_,rfl⟩:=bP.mp hx;omega
 have e1:=LX hs h0;generalize(script.take 8).map (· % 1000000)=l at e1 h8 hr;obtain⟨nums,TI,hnr,hn,TD⟩:=LY h8 hr;have Gv:(l.map V.int).length<=most:=by rw[bi];exact aA h8 (by decide)
 obtain⟨pairs,hpr,hp⟩:=HS hs (ρ:=upd (upd ρ 3 (.list (l.map .int))) 3 (.list (nums.map .int))) h0;unfold tj;refine fu (bh e1 rfl) (fu (bh (bu rfl (eA rfl (dy (bJ rfl (og _ Gv)) rfl) rfl rfl (l6 _ _ (by decide))) ((uI _ _ TD).trans (congrArg (fun z=>some (V.list z)) hn))) rfl) (fu (bh hp rfl) (fu rfl ?_)));refine tW (LV total pairs (2*pairs)) (iP (xs:=(nums.take (2*pairs)).map .int) (dy (eA rfl rfl (dy (bu rfl rfl (uH _ _ (by omega))) rfl) rfl (l5 (nums.map .int) (2*pairs) (by rw[bi,TI];decide))) (congrArg some (List.map_take ..).symm)) (K5 (fun i ρ=>LV total pairs i ρ) _ (fun i x ρ hx hR=>?_) (fun ρ hR=>⟨rfl,?_⟩) (.mk [] [] 0 h1 rfl rfl rfl rfl ⟨rfl,rfl,dU _,rfl,List.forall_mem_nil _,List.forall_mem_nil _⟩))) fun am hR=>?_
 ·rw[bL]at hx
  refine bV hx fun x IV e=>?_
  subst e;have hil:i<2*pairs:=rU (eX.mp IV).1 (DK _ _);have hxr:=hnr x (yZ (my IV));have hd:0<=x/56/\x/56<=17857:=by omega
  obtain⟨its,ws,op,h1,h4,h5,h6,h7,p⟩:=hR;have Hz:ws.length<most/\its.length<most:=by
   have:most=1000000:=rfl;obtain⟨_,_,_⟩:=p;omega
  have hit:(its.map As).length<most:=by rw[bi];exact Hz.2
  have V9:(ws.map V.int).length<most:=by rw[bi];exact Hz.1
  refine ex5 ρ h1 h4 h5 h6 h7 fun σ=>?_
  cases ht:ws.isEmpty||(decide (x % 2=0)&&decide ((op:Int)<pairs))
  case true=>exact⟨_,_,rfl,bO (tc ((w3 rfl rfl rfl rfl).trans (congrArg some ht)) (bO (bh (md (ad rfl (ml (md (dv rfl rfl) rfl) rfl)) rfl) rfl) (bO (bh (pv rfl rfl (l3 _ _ V9)) rfl) (bO rfl (bO (bh (pv rfl (bh (aq rfl (aq rfl (aq (dv rfl rfl) rfl))) rfl) (l3 _ _ hit)) rfl) rfl))))) rfl,LV.mk _ _ _ rfl rfl (congrArg (fun z=>some (V.list z)) (iA As its (_,true,_))) (congrArg (fun z=>some (V.list z)) (iA V.int ws _)) rfl (p.push (LW p hil ht) (by omega) hd)⟩
  case false=>
   have bN:ws≠[]:=fun e=>by rw[e]at ht;cases ht
   have hwp:=uX.mpr bN;have X1:(0:Int)<((ws.map V.int).length:Int)/\((ws.map V.int).length:Int)<1073741824:=by rw[bi];have:most=1000000:=rfl;omega
   obtain⟨j,hj,LZ⟩:=OD (ws:=ws) (z:=x/2 % 4 % ((ws.map V.int).length:Int)) (y5 _ (Int.ne_of_gt X1.1)) (by have:=y6 (x/2 % 4) X1.1;rwa[bi]at this ⊢) (eY Hz.1);have hkd:=p.6 ws[j] (va hj);by_cases q:x/8 % 7=6
   ·exact⟨_,_,rfl,bO (j5 ((w3 rfl rfl rfl rfl).trans (congrArg some ht)) (bO (bh (CF rfl rfl X1 (eY V9) LZ) rfl) (bO (tc (ba (md (dv rfl rfl) rfl) rfl ((jz _ _).trans (congrArg some (eK q)))) (bO (bh (md (ad rfl rfl) rfl) rfl) rfl)) (bO (bh (pv rfl (bh (aq rfl (aq rfl (aq (dv rfl rfl) rfl))) rfl) (l3 _ _ hit)) rfl) rfl)))) rfl,LV.mk _ _ _ rfl rfl (congrArg (fun z=>some (V.list z)) (iA As its (_,false,_))) rfl rfl (p.pop hj (by omega) hd)⟩
   ·exact⟨_,_,rfl,bO (j5 ((w3 rfl rfl rfl rfl).trans (congrArg some ht)) (bO (bh (CF rfl rfl X1 (eY V9) LZ) rfl) (bO (j5 (ba (md (dv rfl rfl) rfl) rfl ((jz _ _).trans (congrArg some (mB q)))) rfl) (bO (bh (pv rfl (bh (aq rfl (aq rfl (aq (dv rfl rfl) rfl))) rfl) (l3 _ _ hit)) rfl) rfl)))) rfl,LV.mk _ _ _ rfl rfl (congrArg (fun z=>some (V.list z)) (iA As its (_,false,_))) rfl rfl (p.pop hj hkd hd)⟩
 ·obtain⟨its,ws,op,_,_,h5,_,_,hl,hw,XZ,hd,Di,_⟩:=hR
  have hw0:ws.length=0:=by omega
  rw[hw0]at hd;exact wK ⟨_,⟨its,⟨by omega,Di,hd⟩,rfl⟩,am,bh h5 rfl⟩
 ·rw[bi,nB,TI,y4 (by omega)]at hR
  exact hR
noncomputable def EU:Cx:={vars:=[(Yj,.cell,false),(⟨#[114,117,110,115]⟩,.local,true),(T0,.local,false),(⟨#[102,114,111,110,116]⟩,.local,false),(Ts,.local,false),(⟨#[116,101,120,116]⟩,.local,false),(Fs,.local,false)],aM:=[AQ,vi,s7]}
noncomputable def xQ:Cx:={vars:=[(Ql,.local,false),(Yj,.cell,false)],aM:=[]}
noncomputable def qt{P:Pk}{n:Nat}(bz:P.glob AQ=some (.type "range"))(cb:P.glob vi=some (.builtin "len")){bb:Addr}{cA:List V->Option V}(fH:P.glob s7=some (.ref bb))(fJ:∀h,P.G h->∃o fd,h.get? bb=some o/\o.data= .func fd)(fL:aZ P n (.ref bb) cA):{f:al->Option (al×Fl)//p5 P n EU (dz (aJ pq.main.body 66)) f}:=⟨_,(@ac _ _ _ _ _ _ _ (dh 1 rfl (by decide) j1 cp) (@ac _ _ _ _ _ _ _ (@fU _ _ _ (false) _ _ _ _ _ _ _ (@bQ _ _ _ _ _ (@dL _ _ _ _ _ _ (@dj _ _ _ (xQ) _ _ _ _ _ _ _ _ _ _ (1) ([0]) (@fh _ _ _ _ _ _ _ rfl bz (@O _ _ _ _ _ _ _ _ (aI rfl cb rfl jj (O (Z 0 rfl rfl rfl) ab ir) ir (cf _ _)) ab ir) ir (cf _ _)) (bB (by decide+kernel)) (ap 0 rfl (by decide) (by decide)) (@p6 _ _ _ _ _ (@fP _ _ _ _ _ (@aF _ _ _ _ _ _ _ _ _ (aF (ae (Z 1 rfl rfl rfl)) (ae (Z 0 rfl rfl rfl)) cp) aa cp) cp)) (Z 0 rfl rfl rfl) cp))) (ap 2 rfl (by decide) (by decide)) (@ac _ _ _ _ _ _ _ (aD 3 rfl (by decide) (aC rfl) cp) (@ac _ _ _ _ _ _ _ (@fU _ _ _ (false) _ _ _ _ _ _ _ (@bQ _ _ _ _ _ (@bC _ _ _ _ _ _ _ _ _ _ _ _ _ _ (Z 0 rfl rfl rfl) (bt (ae (Z 2 rfl rfl rfl))) aO aO)) (@da _ _ _ _ _ _ _ (@ay _ _ _ _ _ _ _ (ap 4 rfl (by decide) (by decide)) (ay (ap 5 rfl (by decide) (by decide)) (ay (ap 6 rfl (by decide) (by decide)) bX))) (aE (aE (aE cH))) ir) (@ac _ _ _ _ _ _ _ (iZ 3 rfl (by decide) rfl rfl vy (Z 5 rfl rfl rfl)) (@ac _ _ _ _ _ _ _ (@aT _ _ _ _ _ _ _ _ _ _ (@r6 _ _ _ _ _ _ _ _ (@xV _ _ _ _ _ _ (fP (ae (Z 6 rfl rfl rfl)) cp)) (@fP _ _ _ _ _ (@bq _ _ _ _ _ _ _ _ _ _ _ rfl fH rfl fJ fL (O (ae (Z 3 rfl rfl rfl)) ab ir) ir (cf _ _)) cp)) (@ac _ _ _ _ _ _ _ (@lO _ _ _ 1 _ _ _ _ _ _ _ _ _ _ rfl rfl rfl FF (@ai _ _ _ _ _ _ _ _ _ _ _ tA (Z 4 rfl rfl rfl) (@aF _ _ _ _ _ _ _ _ _ (aF (Z 0 rfl rfl rfl) (ae (Z 2 rfl rfl rfl)) cp) aa cp)) (@aF _ _ _ _ _ _ _ _ _ (aF (Z 0 rfl rfl rfl) (ae (Z 2 rfl rfl rfl)) cp) aa cp) ir) (ac xY aj)) aj) aj)) cp) aj)) cp) (ac (aX (cG 1 rfl rfl rfl)) aj)))⟩
noncomputable def Av:Cx:={vars:=[(IX,.local,false),(WR,.local,true),(IQ,.local,false),(Fs,.local,false)],aM:=[]}
noncomputable def mi{P:Pk}{n:Nat}:{f:al->Option (al×Fl)//p5 P n Av (dz (aJ pq.main.body 68)) f}:=⟨_,(@ac _ _ _ _ _ _ _ (dh 1 rfl (by decide) (fT ab (by decide) len0) cp) (@ac _ _ _ _ _ _ _ (@fU _ _ _ (false) _ _ _ _ _ _ _ (bQ (Z 0 rfl rfl rfl)) (@da _ _ _ _ _ _ _ (ay (ap 2 rfl (by decide) (by decide)) (ay (ap 3 rfl (by decide) (by decide)) bX)) (aE (aE cH)) ir) (@ac _ _ _ _ _ _ _ (@aT _ _ _ _ _ _ _ _ _ _ (fP (ae (Z 3 rfl rfl rfl)) cp) (@ac _ _ _ _ _ _ _ (@di _ _ _ _ _ _ (cu 1 rfl rfl rfl qS (O (Z 2 rfl rfl rfl) ab ir) ir (by decide) rfl ir) gH ir) aj) (@ac _ _ _ _ _ _ _ (@Eu _ _ _ _ _ _ _ _ _ _ (XK.cmp vl (cu 1 rfl rfl rfl Pr ab ir (by decide) rfl ir) (Z 2 rfl rfl rfl) rfl) (ac (aX df) aj) aj) aj)) aj) cp) (ac (aX df) aj)))⟩
noncomputable abbrev RItem:=Nat×Int×Bool
noncomputable def jE(o:Bool):Nat:=if o then 40 else 41
noncomputable def mj(e:RItem):List (List Nat):=fX e.2.1++[[jE e.2.2]]
noncomputable def txt(e:RItem):List Nat:=(mj e).flatten
noncomputable abbrev mQ(e:RItem):V:=.tup [.int e.1,.str (txt e),.bool e.2.2]
noncomputable def OF(fl:List Bool):Bool:=match bg bv fl 0 with
 | .inl d=>d==0
 | .inr _=>false
noncomputable def i3(F:List V->Option V):Prop:=∀l:List RItem,l.length<=8->F [.str (l.map txt).flatten]=some (.bool (OF (l.map (·.2.2))))
theorem Aw(e:RItem):jP (mj e)=true/\(∀u∈mj e,Ae u=true)/\(mj e).flatten.length<=6/\(mj e).length<=6:=by
 have h:=te e.2.1;have h1:Ae [jE e.2.2]=true:=by unfold jE;cases e.2.2<;>rfl
 have r5:∀u∈mj e,Ae u=true:=fun u hu=>by
  unfold mj at hu;rcases cr.mp hu with hu|hu
  ·exact h.1 u hu
  ·simp at hu;rw[hu];exact h1
 refine⟨?_,r5,?_,?_⟩
 ·unfold mj
  exact jD h.1 (by simp[oF,oG,oH,h1])
 ·unfold mj
  rw[gr,List.length_append];have:=h.2.2.1;simp only[nD,bA,eZ];omega
 ·unfold mj
  have:=h.2.2.2.2;simp only[List.length_append,bA,eZ];omega
noncomputable def w4(e:RItem):List (List Nat):=l8 e.2.1++[[jE e.2.2]]
theorem w5:∀(l:List RItem) (k:List (List Nat)),((l.map mj).flatten).foldl dG (k,none)=(k++(l.map w4).flatten,none)
 |[],k=>by simp
 |e::l,k=>by
  have hp:jE e.2.2≠34:=by unfold jE;split<;>decide
  simp only[bn,gA,m4,mj,Cv,eJ,pY];have:dG (k++l8 e.2.1,none) [jE e.2.2]=(k++l8 e.2.1++[[jE e.2.2]],none):=by simp[dG,hp]
  rw[this,w5 l];simp[w4]
theorem qu:∀(l:List RItem) (d:Nat),bg om ((l.map w4).flatten) d=match bg bv (l.map (·.2.2)) d with| .inl d=>.inl d| .inr _=>.inr ()
 |[],d=>rfl
 |e::l,d=>by
  have hk:∀d,bg om (l8 e.2.1) d= .inl d:=fun d=>lt7 (P:=fun j=>bg om (Ct[j]?.getD []) d= .inl d) rfl rfl rfl rfl rfl rfl rfl _ (LF e.2.1)
  simp only[bn,gA,w4,g9,hk,cQ,bZ];obtain⟨p,dr,o⟩:=e;cases o
  ·by_cases q:d=0
   ·simp[jE,om,bv,q]
   ·have ih:=qu l (d-1)
    simp[jE,om,bv,q,ih]
  ·have ih:=qu l (d+1)
   simp[jE,om,bv,ih]
theorem ST{f g:al->Option (al×Fl)}{ρ am:al}{Q:al×Fl->Prop}(h:f ρ=some (am,.next))(hg:∃r,g am=some r/\Q r):∃r,eO f g ρ=some r/\Q r:=by
 obtain⟨r,e,q⟩:=hg;exact⟨r,dy h e,q⟩
theorem L0{f:al->Option (al×Fl)}{ρ:al}{Q:al->Prop}(h:∃r,f ρ=some r/\r.2= .next/\Q r.1):∃r,eO f (fun ρ=>some (ρ,.next)) ρ=some r/\r.2= .next/\Q r.1:=by
 obtain⟨⟨am,fl⟩,e,rfl,q⟩:=h;exact⟨(am,.next),dy e rfl,rfl,q⟩
noncomputable def tm(pre:List RItem)(e:RItem):Sum (List RItem) Nat:=if e.2.2=false/\OF ((pre++[e]).map (·.2.2))=true then .inr e.1 else .inl (pre++[e])
noncomputable def mm(rest:List RItem):Option Nat:=match bg tm rest []with
 | .inr p=>some p
 | .inl _=>none
noncomputable def dm(its:List RItem)(st:List Int×List V)(k:Nat):List Int×List V:=match its[k]? with
 |none=>st
 |some e=>match mm (its.drop k)with
  |some p=>(cI st.1 e.1,eP st.1 st.2 e.1 (.int (p-e.1)))
  |none=>st
noncomputable def iC(its:List RItem):List Nat:=(List.range its.length).filter fun k=>((its[k]?).map (·.2.2)).getD false
noncomputable def bU(its:List RItem):List Int×List V:=(iC its).foldl (dm its) ([],[])
theorem We(n:Nat):IT 0 n 1=(List.range n).map fun(i:Nat)=>V.int i:=by
 unfold IT;have e:(Builtin.Range.rangeSize 0 (n:Int) 1).toNat=n:=by
  unfold Builtin.Range.rangeSize;simp;split<;>omega
 rw[e];simp
theorem w6(its:List RItem):∀(ks:List Nat) (st:List Int×List V),(ks.foldl (dm its) st).1.length<=st.1.length+ks.length
 |[],st=>cF _
 |k::ks,st=>by
  have h:(dm its st k).1.length<=st.1.length+1:=by
   have:∀q,(cI st.1 q).length<=st.1.length+1:=fun q=>by
    unfold cI;split
    ·exact i5 _
    ·exact iJ List.length_append
   unfold dm;split
   ·exact i5 _
   ·split
    ·exact this _
    ·exact i5 _
  rw[eJ,bA];exact aA (w6 its ks _) (by omega)
theorem w7(its:List RItem):(iC its).length<=its.length:=by
 have:=List.length_filter_le (fun k=>((its[k]?).map (·.2.2)).getD false) (List.range its.length);rwa[jX]at this
theorem w8:∀l:List RItem,(l.map txt).flatten.length<=6*l.length
 |[]=>cF _
 |x::l=>by
  rw[bn,gA,List.length_append,bA,Nat.mul_add_one,Nat.add_comm];exact pZ (w8 l) (Aw x).2.2.1
inductive RnI(its:List RItem)(d:V)(k:Nat)(l:List RItem)(ρ:al):Prop
 |mk (h:Oj 0 1 2 3 (.list (its.map mQ)) d (.int k) (.str (l.map txt).flatten) ρ) (hc:bg tm l []= .inl l)
inductive RnO(its:List RItem)(st:List Int×List V)(ρ:al):Prop
 |mk (h0:ρ 0=some (.list (its.map mQ))) (h1:ρ 1=some (.dict st.1 st.2))
theorem OG{F3:List V->Option V}{its:List RItem}(hl:its.length<=8)(hF:i3 F3){k:Nat}{e:RItem}(he:its[k]?=some e){st:List Int×List V}(eF:st.1.length<=8){ρ:al}(h:Oj 0 1 2 3 (.list (its.map mQ)) (.dict st.1 st.2) (.int k) (.str []) ρ):
  ∃r,fg (tJ (dP (fun ρ y=>some (upd ρ 4 y)) (dP (fun ρ y=>some (upd ρ 5 y)) (dP (fun ρ y=>some (upd ρ 6 y)) pk))))
   (eO (fun ρ=>(ρ 3).bind fun a=>(ρ 5).bind fun b=>Option.map (fun c=>(upd ρ 3 c,Fl.next)) (Bk a b))
    (eO (fun ρ=>(M4 (fun ρ=>Option.map (fun x=>!x) ((ρ 6).bind lE)) (fun ρ=>(eD F3 (aQ (fun ρ=>ρ 3) fun x=>some []) ρ).bind lE) ρ).bind fun z=>if z=true then
      eO (fun ρ=>(dA zc (fun ρ=>ρ 4) (f7 (f7 (fun ρ=>ρ 0) fun ρ=>ρ 2) fun x=>some (V.int 0)) ρ).bind fun v=>(ρ 1).bind fun y=>(f7 (f7 (fun ρ=>ρ 0) fun ρ=>ρ 2) (fun x=>some (V.int 0)) ρ).bind fun j=>Option.map (fun y'=>(upd ρ 1 y',Fl.next)) (Jn y j v)) (eO (fun ρ=>some (ρ,Fl.brk)) fun ρ=>some (ρ,Fl.next)) ρ
     else some (ρ,Fl.next)) fun ρ=>some (ρ,Fl.next))) ((its.drop k).map mQ) ρ=some r/\r.2= .next/\RnO its (dm its st k) r.1:=by
 refine rx mQ (its.drop k) (fun l ρ=>RnI its (.dict st.1 st.2) k l ρ) _ (fun l u l' ρ hx hR=>?_) (fun ρ hR=>⟨rfl,?_⟩) ⟨h,rfl⟩
 ·obtain⟨hA,hc⟩:=hR
  have hle:(l++[u]).length<=8:=by
   have:=congrArg List.length hx;rw[List.length_append,bA,mZ]at this;rw[List.length_append,pU];exact aA (vf (y7 1 _) _) (aA (iJ this) (aA (rZ _ _) hl))
  have SU:=hF (l++[u]) hle;have uz:((l++[u]).map txt).flatten=(l.map txt).flatten++txt u:=by rw[List.map_append];exact uJ _ _
  have hm:(l.map txt).flatten.length+(txt u).length<=most:=by
   rw[<-List.length_append,<-uz];exact aA (w8 _) (aA (Nat.mul_le_mul_left 6 hle) (by decide))
  have SV:Bk (.str (l.map txt).flatten) (.str (txt u))=some (.str ((l++[u]).map txt).flatten):=by rw[n9 _ _ hm,uz]
  obtain⟨p,dr,o⟩:=u;refine hA.ex fun σ=>?_
  cases o
  case true=>exact⟨_,rfl,_,EI rfl rfl SV (bO (j5 (j5 rfl rfl) rfl) rfl),.nx ⟨.mk rfl rfl rfl rfl,dR hc (az fun z=>nomatch z.1)⟩⟩
  case false=>
   cases hb:OF ((l++[(p,dr,false)]).map (·.2.2))<;>rw[hb]at SU
   ·exact⟨_,rfl,_,EI rfl rfl SV (bO (j5 (tc rfl (dy (bJ rfl SU) rfl)) rfl) rfl),.nx ⟨.mk rfl rfl rfl rfl,dR hc (az fun z=>by rw[hb]at z;exact nomatch z.2)⟩⟩
   ·have Nf:mm (its.drop k)=some p:=by unfold mm;rw[<-hx,ln hc (aw ⟨rfl,hb⟩)]
    have hr:dm its st k=(cI st.1 e.1,eP st.1 st.2 e.1 (.int (p-e.1))):=by unfold dm;rw[he];dsimp only;rw[Nf]
    have hit:=gI (xs:=its.map mQ) (b:=mQ e) (by rw[bL,he];rfl) (Lw hl);rw[hr];exact⟨_,rfl,_,EI rfl rfl SV (Ly (tc (tc rfl (dy (bJ rfl SU) rfl)) (V0 (bu rfl (cM (cM rfl rfl hit) rfl rfl) rfl) rfl (cM (cM rfl rfl hit) rfl rfl) ((D9 ..).trans (aw (aA eF (by decide)))) (Ly rfl)))),.br ⟨rfl,rfl,rfl⟩⟩
 ·obtain⟨hA,hc⟩:=hR
  have hr:dm its st k=st:=by
   have Nf:mm (its.drop k)=none:=by unfold mm;rw[hc]
   unfold dm;rw[he];dsimp only;rw[Nf]
  rw[hr];exact⟨hA.1,hA.2⟩
theorem L1{P:Pk}{n:Nat}{g1 g2 a3 F3 g3 h3 c3}{ρ:al}{its:List RItem}(hl:its.length<=8)(hF:i3 F3)(h0:ρ 0=some (.list (its.map mQ))):
  Ends (qt (P:=P) (n:=n) g1 g2 (bb:=a3) (cA:=F3) g3 h3 c3).1 ρ (.dict (bU its).1 (bU its).2):=by
 have Gv:=Lw (f:=mQ) hl;have h6:eH ((its.map mQ).length:Int)=true:=by
  have Bp:most=1000000:=rfl;exact(dI _ _).mpr ⟨eK (by omega),eK (by omega)⟩
 unfold qt;dsimp only;refine ex1 ρ h0 fun σ=>bm rfl (iB (RnO its (bU its)) (iP (dy (qU (fun ρ=>ρ 1=some (.list (its.map mQ))) (List.range its.length) (fun(k:Nat)=>V.int k) (fun k=>((its[k]?).map (·.2.2)).getD false) (fun(k:Nat)=>V.int k) (dy (aq (bJ rfl (og _ Gv)) rfl) (by rw[D2,aw h6,bi,We])) (by rw[jX];exact Lx hl) (fun k hk ρ hI=>?_) rfl) rfl) (Co (fun(k:Nat)=>V.int k) (iC its) (fun l ρ=>RnO its (l.foldl (dm its) ([],[])) ρ) (fun l k l' ρ hx hR=>?_) ⟨rfl,rfl⟩)) fun am hR=>eS hR.2)
 ·obtain⟨e,he⟩:=get_mem (gD.mp hk)
  exact ex1 ρ hI fun σ=>⟨_,rfl,rfl,dy (cM (cM rfl rfl (gI (b:=mQ e) (by rw[bL,he];rfl) Gv)) rfl rfl) (by rw[he];rfl),fun ø=>rfl⟩
 ·have Us:k∈iC its:=hx▸bw _ dJ
  obtain⟨e,he⟩:=get_mem (gD.mp (kI.mp Us).1);have eF:=w6 its l ([],[]);have hle:l.length<=8:=by
   have:=w7 its;rw[<-hx,List.length_append]at this;omega
  rw[m4,eJ,pY];generalize l.foldl (dm its) ([],[])=st at*;exact ex2 ρ hR.1 hR.2 fun σ=>⟨_,rfl,ST rfl (L0 (iP (dy (eA rfl rfl rfl rfl (l6 _ k Gv)) (congrArg some nE.symm)) (OG hl hF he (aA eF (by rw[eZ,gq];exact hle)) (.mk rfl rfl rfl rfl))))⟩
theorem HT{F1 F:List V->Option V}(xC:∀us,jP us=true->us.flatten.length<=10000->us.length<=10000->F1 [.str us.flatten]=some (.str (gk us).flatten))
  (hF:∀t ws,F1 [.str t]=some (.str (List.flatten ws))->jP ws=true->ws.flatten.length<=10000->F [.str t]=some (.bool (qh ws))):i3 F:=fun l hl=>by
 have LG:∀l:List RItem,(l.map txt).flatten=((l.map mj).flatten).flatten:=fun l=>by
  induction l with
  |nil=>rfl
  |cons x l ih=>simp only[bn,gA,gr,ih];rfl
 have r5:∀u∈(l.map mj).flatten,Ae u=true:=fun u hu=>by
  obtain⟨us,SH,hu⟩:=List.mem_flatten.mp hu;obtain⟨e,he,rfl⟩:=bP.mp SH;exact(Aw e).2.1 u hu
 have Wg:∀u∈(l.map w4).flatten,Ae u=true:=fun u hu=>by
  obtain⟨us,SH,hu⟩:=List.mem_flatten.mp hu;obtain⟨e,he,rfl⟩:=bP.mp SH;unfold w4 at hu;rcases cr.mp hu with hu|hu
  ·exact((te e.2.1).2.1 u hu).1
  ·simp at hu;rw[hu];unfold jE;cases e.2.2<;>rfl
 have okA:∀us:List (List Nat),(∀u∈us,Ae u=true)->jP us=true:=fun us h=>by
  have:=jD (us:=us) (vs:=[]) h rfl;simpa using this
 have eF:gk ((l.map mj).flatten)=(l.map w4).flatten:=by
  unfold gk;rw[w5];simp
 have hlen:∀l:List RItem,((l.map mj).flatten).flatten.length<=6*l.length/\((l.map mj).flatten).length<=6*l.length:=fun l=>by
  induction l with
  |nil=>simp
  |cons x l ih=>
   have h:=Aw x;simp only[bn,gA,gr,List.length_append,bA];omega
 have h1:=hlen l;have:=xC _ (okA _ r5) (by omega) (by omega);rw[eF]at this;rw[LG,hF _ _ this (okA _ Wg) (by have:=wI ((l.map mj).flatten);rw[eF]at this;omega)]
 congr 2
 unfold qh OF;rw[qu];cases bg bv (l.map (·.2.2)) 0<;>rfl
noncomputable def ou(kA:List Int)(e:Int×Bool):Sum (List Int) Unit:=if e.2 then .inl (kA++[e.1])else if kA.getLast?=some e.1 then .inl kA.dropLast else .inr ()
noncomputable def eB(r:List (Int×Bool)):Bool:=match bg ou r []with
 | .inl _=>true
 | .inr _=>false
inductive NsI(l:List (Int×Bool))(ρ:al):Prop
 |mk (kA:List Int) (h1:ρ 1=some (.list (kA.map .int))) (hn:bg ou l []= .inl kA) (hd:bg bv (l.map (·.2)) 0= .inl kA.length) (hl:kA.length<=l.length)
theorem L2(p:List Int)(t:Int)(h:((p++[t]).map V.int).length<=most):DY (.list ((p++[t]).map .int)) []=some (.list (p.map .int),.int t):=by
 have e:(p++[t]).map V.int=p.map .int++[.int t]:=List.map_append;rw[QE,e,DL,cR,<-e,aw h,e,DM]
theorem EV{P:Pk}{n:Nat}{ρ:al}{r:List (Int×Bool)}{d:Nat}(hd:bg bv (r.map (·.2)) 0= .inl d)(hl:r.length<=8)(h0:ρ 0=some (.list (r.map fun e=>.tup [.int e.1,.bool e.2]))):
  Ends (mi (P:=P) (n:=n)).1 ρ (.bool (eB r)):=by
 unfold mi;dsimp only;refine bm rfl (wJ (iP (dy h0 rfl) (rx (fun e:Int×Bool=>V.tup [.int e.1,.bool e.2]) r NsI _ (fun l u l' ρ hx hR=>?_) (fun ρ hR=>.inr ⟨rfl,?_⟩) ⟨[],rfl,rfl,rfl,cF _⟩)))
 ·obtain⟨kA,h1,hn,hy,hp⟩:=hR
  obtain⟨k,o⟩:=u;have hle:kA.length<=8:=aA hp (by have:=congrArg List.length hx;rw[List.length_append,bA]at this;omega);have hs:∀s,bv kA.length o= .inl s->bg bv ((l++[(k,o)]).map (·.2)) 0= .inl s:=fun s e=>by rw[List.map_append];exact dR hy e
  have SR:∀m,m<=kA.length+1->m<=(l++[(k,o)]).length:=fun m h=>aA h (by rw[List.length_append];exact i7 hp)
  cases o
  case true=>exact ex1 ρ h1 fun σ=>⟨_,rfl,_,bO (tc rfl (Su rfl rfl (l3 _ _ (mt8 hle)) rfl)) rfl,.nx ⟨kA++[k],congrArg (fun z=>some (V.list z)) (iA V.int kA k),dR hn rfl,hs _ (by rw[List.length_append];rfl),SR _ (iJ List.length_append)⟩⟩
  case false=>
   by_cases bN:kA=[]
   ·subst bN
    rw[<-hx,List.map_append,bn,ln hy rfl]at hd;cases hd
   ·obtain⟨p,t,rfl⟩:∃p t,kA=p++[t]:=⟨_,_,(rT bN).symm⟩
    have LZ:=L2 p t (Lw hle);have hlen:(p++[t]).length=p.length+1:=List.length_append;have vm:ou (p++[t]) (k,false)=if some t=some k then .inl p else .inr ():=by
     show(if(p++[t]).getLast?=some k then Sum.inl (p++[t]).dropLast else Sum.inr ())=_;rw[DL,DM]
    by_cases q:t=k
    ·exact ex1 ρ h1 fun σ=>⟨_,rfl,_,bO (j5 rfl (bO (dy (dy (EH rfl rfl LZ) (dy rfl (bh (P4 q) rfl))) rfl) rfl)) rfl,.nx ⟨p,rfl,dR hn (vm.trans (aw (congrArg some q))),hs _ (by rw[hlen];rfl),SR _ (by rw[hlen];omega)⟩⟩
    ·have e:eB r=false:=by unfold eB;rw[<-hx,ln hn (vm.trans (az fun z=>q (Option.some.inj z)))]
     exact ex1 ρ h1 fun σ=>⟨_,rfl,_,Sr (j5 rfl (Sr (dy (dy (EH rfl rfl LZ) (dy rfl (bh (neT q) rfl))) rfl))),.rt (.inl (by rw[e]))⟩
 ·obtain⟨kA,h1,hn,_,_⟩:=hR
  have e:eB r=true:=by unfold eB;rw[hn]
  rw[e];exact eS rfl
noncomputable def EW:Cx:={vars:=[(AP,.local,false),(⟨#[119,115]⟩,.local,false),(TX,.local,false),(TY,.local,false),(Tr,.local,true),(⟨#[98]⟩,.local,false),(T1,.local,false),(⟨#[110,116]⟩,.local,false),(Qn,.local,false)],aM:=[DQ,vi,Yn]}
noncomputable def EX{P:Pk}{n:Nat}{t_S t_T:Tok}{C N:Addr}{mN:Str->Option Value}(W:cP P C N mN)(gK:P.glob DQ=some (.ref C))(cb:P.glob vi=some (.builtin "len"))(Aj:P.glob Yn=some (.type "tuple"))(k_S:∀h,P.G h->∃(Fr:Frag) (mc:Value),Fr.In h/\readsIn Fr C mc=true/\findCls Fr (.ref C) mc TX=some (.val (.str (pyStr [32]) t_S)))(k_T:∀h,P.G h->∃(Fr:Frag) (mc:Value),Fr.In h/\readsIn Fr C mc=true/\findCls Fr (.ref C) mc TY=some (.val (.str (pyStr [9]) t_T))):{F:Addr->al->List V->Option (al×List V)//tR P n EW C (dz (aJ (e6 (aJ pq.main.body 11)) 1)) F}:=⟨_,(@tR.store _ _ _ _ _ _ W 0 _ _ _ _ _ _ _ _ _ _ rfl rfl rfl rfl (Z 1 rfl rfl rfl) (@tR.st _ _ _ _ _ _ _ _ (@lL _ _ _ ([(2,TX,.local,false),(3,TY,.local,false)]) ([_,_]) _ _ _ _ _ _ _ ⟨by decide+kernel,by decide+kernel⟩ rfl (jN.dat (rn rfl gK rfl k_S ir) (jN.dat (rn rfl gK rfl k_T ir) jN.nil ir) ir) (by decide) (af (af len0)) kU.len ir (VH (K:=EW) (i:=2) (j:=3) rfl rfl rfl (by decide+kernel) rfl rfl rfl rfl)) (@tR.st _ _ _ _ _ _ _ _ (dh 4 rfl (by decide) (fT ab (by decide) len0) cp) (@tR.st _ _ _ _ _ _ _ _ (Ee 5 6 7 rfl rfl rfl (by decide) (by decide) (by decide) aa ir ir) (@tR.for _ _ _ _ _ _ W (false) _ _ _ _ _ _ _ _ _ _ _ rfl rfl rfl ir (ap 8 rfl (by decide) (by decide)) (@ac _ _ _ _ _ _ _ (@aT _ _ _ _ _ _ _ _ _ _ (aR qR (ae (Z 8 rfl rfl rfl)) (ae (Z 2 rfl rfl rfl)) rfl) (@ac _ _ _ _ _ _ _ (aD 6 rfl (by decide) (ai cy (Z 6 rfl rfl rfl) aa) cp) (@ac _ _ _ _ _ _ _ (aD 5 rfl (by decide) (ai cy (Z 5 rfl rfl rfl) aa) cp) aj)) (@ac _ _ _ _ _ _ _ (@aT _ _ _ _ _ _ _ _ _ _ (aR qR (ae (Z 8 rfl rfl rfl)) (ae (Z 3 rfl rfl rfl)) rfl) (@ac _ _ _ _ _ _ _ (aD 6 rfl (by decide) (ai cy (Z 6 rfl rfl rfl) aa) cp) (@ac _ _ _ _ _ _ _ (aD 7 rfl (by decide) (ai cy (Z 7 rfl rfl rfl) aa) cp) (@ac _ _ _ _ _ _ _ (@aT _ _ _ _ _ _ _ _ _ _ (@aR _ _ _ _ _ _ _ _ _ _ YC (ae (Z 5 rfl rfl rfl)) (aI rfl cb rfl jj (O (cG 4 rfl rfl rfl) ab ir) ir (cf _ _)) rfl) (@ac _ _ _ _ _ _ _ (@dh _ _ _ 4 _ _ _ _ _ _ rfl (by decide) (@vF _ _ _ _ _ _ _ _ (Hn 4 rfl rfl rfl) (@vD _ _ _ _ _ (@ai _ _ _ _ _ _ _ _ _ _ _ tB (eR (O aa ab ir) (by decide) (af len0)) (@ai _ _ _ _ _ _ _ _ _ _ _ cy (@ai _ _ _ _ _ _ _ _ _ _ _ tA (Z 5 rfl rfl rfl) (@qP _ _ _ _ _ _ (aI rfl cb rfl jj (O (cG 4 rfl rfl rfl) ab ir) ir (cf _ _)))) aa)))) cp) aj) aj) (@ac _ _ _ _ _ _ _ (@lO _ _ _ 4 _ _ _ _ _ _ _ _ _ _ rfl rfl rfl FF (@ai _ _ _ _ _ _ _ _ _ _ _ cy (@qP _ _ _ _ _ _ (aF (cG 4 rfl rfl rfl) (ae (Z 5 rfl rfl rfl)) cp)) aa) (Z 5 rfl rfl rfl) ir) (ac (aD 5 rfl (by decide) aa cp) aj))))) (ac xY aj)) aj)) aj) (@tR.store _ _ _ _ _ _ W 1 _ _ _ _ _ _ _ _ _ _ rfl rfl rfl rfl (Z 6 rfl rfl rfl) (@tR.store _ _ _ _ _ _ W 2 _ _ _ _ _ _ _ _ _ _ rfl rfl rfl rfl (Z 7 rfl rfl rfl) (@tR.store _ _ _ _ _ _ W 3 _ _ _ _ _ _ _ _ _ _ rfl rfl rfl rfl (@ct _ _ _ _ _ _ _ _ (O (z8 4 rfl rfl rfl rfl Aj rfl) (O (Z 5 rfl rfl rfl) ab ir) ir) (by decide) (af (af len0))) (@tR.store _ _ _ _ _ _ W 4 _ _ _ _ _ _ _ _ _ _ rfl rfl rfl rfl (@kN _ _ _ _ _ _ _ _ _ _ _ YD (aI rfl cb rfl jj (O (cG 4 rfl rfl rfl) ab ir) ir (cf _ _)) aa rfl) tR.nil ir) ir) ir) ir))))) ir)⟩
noncomputable abbrev HU:=List Int×Nat×Nat×Nat
noncomputable def grow(cnt:List Int)(b:Nat):List Int:=if cnt.length<=b then cnt++List.replicate (b-cnt.length+1) 0 else cnt
noncomputable def bump(cnt:List Int)(b:Nat):List Int:=(grow cnt b).set b (((grow cnt b)[b]?).getD 0+1)
noncomputable def mn(s:HU)(c:Nat):Sum HU HU:=if c=32 then .inl (s.1,s.2.1+1,s.2.2.1+1,s.2.2.2)else if c=9 then .inl (bump s.1 s.2.1,0,s.2.2.1+1,s.2.2.2+1)else .inr s
noncomputable def qv(l:List Nat):HU:=match bg mn l ([],0,0,0)with
 | .inl s=>s
 | .inr s=>s
theorem w9(cnt:List Int)(b:Nat):b<(grow cnt b).length/\(grow cnt b).length<=max cnt.length (b+1):=by
 unfold grow;by_cases h:cnt.length<=b
 ·rw[aw h,List.length_append,y8,<-Nat.add_assoc,ve h]
  exact⟨mV b,Nat.le_max_right _ _⟩
 ·rw[az h]
  exact⟨Nat.not_le.mp h,Nat.le_max_left _ _⟩
noncomputable def SW(l:List Nat):List V:=[.str l,.int (qv l).2.2.1,.int (qv l).2.2.2,.tup [.tup ((qv l).1.map .int),.int (qv l).2.1],.bool (decide ((qv l).1.length<=1))]
theorem lq{idx:Nat}{f g x ρ lv v}{r}(hl:lv.length=idx)(hs:sY x ρ=true)(hf:f ρ=some v)(hg:∃aY,g x ρ (lv++[v])=some (aY,r)):∃aY,K3 idx f g x ρ lv=some (aY,r):=by
 obtain⟨aY,e⟩:=hg;exact⟨aY,(aw ⟨hl,hs⟩).trans (dy hf e)⟩
theorem EY{f g x ρ am lv}{r}(hf:f ρ=some (am,.next))(hg:∃aY,g x am lv=some (aY,r)):∃aY,stW f g x ρ lv=some (aY,r):=by
 obtain⟨aY,e⟩:=hg;exact⟨aY,dy hf e⟩
theorem OH{asg bf g x ρ}{l:List Nat}{lv:List V}{r}{Q:al->Prop}(hs:sY x ρ=true)(h:∃q,fg asg bf (l.map fun c=>V.str [c]) ρ=some q/\q.2= .next/\Q q.1)(hg:∀am,Q am->∃aY,g x am (.str l::lv)=some (aY,r)):∃aY,VA asg bf g x ρ (.str l::lv)=some (aY,r):=by
 obtain⟨⟨am,fl⟩,e,rfl,q⟩:=h;obtain⟨aY,e'⟩:=hg am q;exact⟨aY,(aw hs).trans (dy (a:=l) rfl (dy e e'))⟩
inductive WsA(x:Addr)(s:HU)(n:Nat)(ρ:al):Prop
 |mk (h:TS 0 2 3 4 5 6 7 (.obj [.int (x:Nat)]) (.str [32]) (.str [9]) (.list (s.1.map .int)) (.int s.2.1) (.int s.2.2.1) (.int s.2.2.2) ρ) (hc:s.1.length<=n) (hb:s.2.1<=n)
inductive WsI(x:Addr)(l:List Nat)(ρ:al):Prop
 |mk (s:HU) (hf:bg mn l ([],0,0,0)= .inl s) (h:WsA x s l.length ρ)
theorem SX{cnt:List Int}{b:Nat}(hc:cnt.length<=1000)(hb:b<=1000){ρ:al}(h4:ρ 4=some (.list (cnt.map .int)))(h5:ρ 5=some (.int b)):
  (fun ρ:al=>(qQ geV (fun ρ=>ρ 5) (eD qV (aQ (fun ρ=>ρ 4) fun x=>some [])) ρ).bind fun z=>if z=true then
   eO (fun ρ=>Option.map (fun y=>(upd ρ 4 y,Fl.next)) (dA Rc (fun ρ=>ρ 4) (dA xv (fun ρ=>Option.map V.list (aQ (fun x=>some (V.int 0)) (fun x=>some []) ρ)) (dA nH (dA zc (fun ρ=>ρ 5) fun ρ=>(eD qV (aQ (fun ρ=>ρ 4) fun x=>some []) ρ).bind fun x=>if x.scalar=true then some x else none) fun x=>some (V.int 1))) ρ)) (fun ρ=>some (ρ,Fl.next)) ρ
   else some (ρ,Fl.next)) ρ=some (upd ρ 4 (.list ((grow cnt b).map .int)),.next):=by
 have hl:(cnt.map V.int).length=cnt.length:=bi ..;have hm:(cnt.map V.int).length<=most:=by rw[hl];exact aA hc (by decide)
 have hle:=bJ (f:=fun ρ=>ρ 4) h4 (og _ hm);by_cases q:cnt.length<=b
 ·have hg:grow cnt b=cnt++List.replicate (b-cnt.length+1) 0:=aw q
  have hn:(b:Int)-((cnt.map V.int).length:Int)+1=((b-cnt.length+1:Nat):Int):=by rw[hl,<-Int.ofNat_sub q];rfl
  have hr:List.replicate (b-cnt.length+1) (V.int 0)=(List.replicate (b-cnt.length+1) (0:Int)).map V.int:=List.map_replicate.symm;have hmul:xv (.list [.int 0]) (.int ((b:Int)-((cnt.map V.int).length:Int)+1))=some (.list (List.replicate (b-cnt.length+1) (V.int 0))):=by
   rw[hn,M7 _ _ ⟨mz _,rfl,by omega⟩,qN,List.flatten_replicate_singleton]
  refine tc (ba h5 hle (congrArg some (eK (by omega)))) (xI (bu h4 (bu rfl (ad (bu h5 (dy hle rfl) rfl) rfl) hmul) ((FM ..).trans (aw ?_))) ?_)
  ·rw[hl,y8]
   exact aA (show cnt.length+(b-cnt.length+1)<=1001 by omega) (by decide)
  ·rw[hr,<-List.map_append,<-hg]
 ·have hg:grow cnt b=cnt:=az q
  rw[hg,ca h4];exact j5 (ba h5 hle (congrArg some (mB (by omega)))) rfl
theorem L3{P:Pk}{n:Nat}{C N}{mN}{W:cP P C N mN}{tS tT g1 g2 g3 k1 k2}{x:Addr}{ρ:al}{l:List Nat}(hl:l.length<=1000)(h0:ρ 0=some (.obj [.int (x:Nat)]))(h1:ρ 1=some (.str l)):
  ∃aY,(EX (P:=P) (n:=n) (C:=C) (N:=N) (mN:=mN) (t_S:=tS) (t_T:=tT) W g1 k1 k2 g2 g3).1 x ρ []=some (aY,SW l):=by
 unfold EX;dsimp only;refine ex2 ρ h0 h1 fun σ=>lq rfl (i1 rfl) rfl (EY rfl (EY rfl (EY rfl (OH (Q:=WsA x (qv l) l.length) (i1 rfl) (rx (fun c:Nat=>V.str [c]) l (WsI x) _ (fun l₁ c l' ρ hx hR=>?_) (fun ρ hR=>⟨rfl,?_⟩) ⟨([],0,0,0),rfl,⟨rfl,rfl,rfl,rfl,rfl,rfl,rfl⟩,cF _,cF _⟩) fun am hR=>?_))))
 ·obtain⟨⟨cnt,b,nn,nt⟩,hf,hA,hc,hb⟩:=hR
  dsimp only at hA hc hb;have hn:(l₁++[c]).length=l₁.length+1:=List.length_append;have de:l₁.length<l.length:=by rw[<-hx,List.length_append];exact DJ (nv _)
  by_cases e1:c=32
  ·subst e1
   exact hA.ex fun σ=>⟨_,rfl,_,bO (tc rfl (xI (ad rfl rfl) (xI (ad rfl rfl) rfl))) rfl,.nx ⟨(cnt,b+1,nn+1,nt),dR hf rfl,⟨rfl,rfl,rfl,rfl,rfl,rfl,rfl⟩,by rw[hn];exact i6 hc,by rw[hn];exact i7 hb⟩⟩
  ·by_cases e2:c=9
   ·subst e2
    have hg:=w9 cnt b;have L4:l₁.length+1<=1000:=aA de hl;have Wh:(grow cnt b).length<=l₁.length+1:=aA hg.2 (Nat.max_le.mpr ⟨i6 hc,i7 hb⟩);obtain⟨v,hv⟩:=get_mem hg.1;have P8:bump cnt b=(grow cnt b).set b (v+1):=by unfold bump;rw[hv];rfl
    have AK:((grow cnt b).map V.int).length=(grow cnt b).length:=bi ..;have hgm:((grow cnt b).map V.int).length<=most:=by rw[AK];exact aA (aA Wh L4) (by decide)
    have ab7:Jn (.list ((grow cnt b).map .int)) (.int b) (.int (v+1))=some (.list ((bump cnt b).map .int)):=by
     rw[Ea,aw ⟨mz _,by rw[AK];exact nC.mpr hg.1,hgm⟩,P8,List.map_set];rfl
    exact hA.ex fun σ=>⟨_,rfl,_,bO (j5 rfl (bO (tc rfl (xI (ad rfl rfl) (xI (ad rfl rfl) (bO (SX (aA hc (u8 L4)) (aA hb (u8 L4)) rfl rfl) (V0 (ad (dy (cM rfl rfl (gI (by rw[bL,hv];rfl) hgm)) rfl) rfl) rfl rfl ab7 (xI rfl rfl)))))) rfl)) rfl,.nx ⟨(bump cnt b,0,nn+1,nt+1),dR hf rfl,⟨rfl,rfl,rfl,rfl,rfl,rfl,rfl⟩,by rw[hn,P8,List.length_set];exact Wh,dU _⟩⟩
   ·have b1:([c]==[32])=false:=pd.mpr fun z=>e1 (vg z).1
    have b2:([c]==[9])=false:=pd.mpr fun z=>e2 (vg z).1
    have hw:qv l=(cnt,b,nn,nt):=by unfold qv;rw[<-hx,ln hf ((az e1).trans (az e2))]
    refine hA.ex fun σ=>⟨_,rfl,_,Ly (j5 (congrArg some b1) (Ly (j5 (congrArg some b2) (Ly rfl)))),.br ⟨rfl,?_⟩⟩
    rw[hw];exact⟨⟨rfl,rfl,rfl,rfl,rfl,rfl,rfl⟩,aA hc (eY de),aA hb (eY de)⟩
 ·obtain⟨hA,hc,hb⟩:=hR
  have hm:((qv l).1.map V.int).length<=most:=by rw[bi];exact aA hc (aA hl (by decide))
  have hd:decide ((((qv l).1.map V.int).length:Int)<=1)=decide ((qv l).1.length<=1):=by rw[bi];exact decide_eq_decide.mpr qI
  exact hA.ex fun σ=>lq rfl (i1 rfl) rfl (lq rfl (i1 rfl) rfl (lq rfl (i1 rfl) (bh (aq (dy rfl ((Q4 ..).trans (aw hm))) (aq rfl rfl)) rfl) (lq rfl (i1 rfl) (bh (ba (bJ rfl (og _ hm)) rfl (congrArg some hd)) rfl) ⟨_,rfl⟩)))
 ·obtain⟨s,hf,h⟩:=hR
  have hw:qv l=s:=by unfold qv;rw[hf]
  rw[hw];exact h
noncomputable def xa:Cx:={vars:=[(AP,.local,false),(X9,.local,false),(Tr,.local,false),(WP,.local,false),(⟨#[105,108]⟩,.local,false),(⟨#[105]⟩,.local,false)],aM:=[AQ,vi]}
noncomputable def jF{P:Pk}{n:Nat}{C N:Addr}{mN:Str->Option Value}(W:cP P C N mN)(bz:P.glob AQ=some (.type "range"))(cb:P.glob vi=some (.builtin "len")):{f:al->Option (al×Fl)//p5 P n xa (dz (aJ (e6 (aJ pq.main.body 11)) 3)) f}:=⟨_,(@ac _ _ _ _ _ _ _ (@oD _ _ _ _ _ _ _ _ (@da _ _ _ _ _ _ _ (ay (ap 2 rfl (by decide) (by decide)) (ay (ap 3 rfl (by decide) (by decide)) bX)) (aE (aE cH)) ir) (jx W 3 rfl (Z 0 rfl rfl rfl) ir) ir ir ir) (@ac _ _ _ _ _ _ _ (aD 4 rfl (by decide) aa cp) (@ac _ _ _ _ _ _ _ (@fU _ _ _ (false) _ _ _ _ _ _ _ (@fh _ _ _ _ _ _ _ rfl bz (@O _ _ _ _ _ _ _ _ (Z 1 rfl rfl rfl) (@O _ _ _ _ _ _ _ _ (aI rfl cb rfl jj (O (Z 2 rfl rfl rfl) ab ir) ir (cf _ _)) ab ir) ir) ir (cf _ _)) (ap 5 rfl (by decide) (by decide)) (@ac _ _ _ _ _ _ _ (@aD _ _ _ 4 _ _ _ _ _ _ rfl (by decide) (@ai _ _ _ _ _ _ _ _ _ _ _ cy (Z 4 rfl rfl rfl) (@ai _ _ _ _ _ _ _ _ _ _ _ tB (ai ja (Z 5 rfl rfl rfl) (Z 1 rfl rfl rfl)) (aF (Z 2 rfl rfl rfl) (ae (Z 5 rfl rfl rfl)) cp))) cp) aj) cp) (@ac _ _ _ _ _ _ _ (@aX _ _ _ _ _ _ (@ai _ _ _ _ _ _ _ _ _ _ _ cy (ae (Z 3 rfl rfl rfl)) (@ai _ _ _ _ _ _ _ _ _ _ _ tB (ae (Z 1 rfl rfl rfl)) (@ai _ _ _ _ _ _ _ _ _ _ _ cy (ae (Z 4 rfl rfl rfl)) (jx W 2 rfl (ae (Z 0 rfl rfl rfl)) ir))))) aj))))⟩
noncomputable def lr:Cx:={vars:=[(AP,.local,false),(Tr,.local,false),(WP,.local,false)],aM:=[M2,vi]}
noncomputable def eC{P:Pk}{n:Nat}{C N:Addr}{mN:Str->Option Value}(W:cP P C N mN)(lp:P.glob M2=some (.builtin "max"))(cb:P.glob vi=some (.builtin "len")):{f:al->Option (al×Fl)//p5 P n lr (dz (aJ (e6 (aJ pq.main.body 11)) 2)) f}:=⟨_,(@ac _ _ _ _ _ _ _ (@oD _ _ _ _ _ _ _ _ (@da _ _ _ _ _ _ _ (ay (ap 1 rfl (by decide) (by decide)) (ay (ap 2 rfl (by decide) (by decide)) bX)) (aE (aE cH)) ir) (jx W 3 rfl (Z 0 rfl rfl rfl) ir) ir ir ir) (@ac _ _ _ _ _ _ _ (@aX _ _ _ _ _ _ (@aI _ _ _ _ _ _ _ _ _ _ _ rfl lp rfl Jr (@O _ _ _ _ _ _ _ _ (@ai _ _ _ _ _ _ _ _ _ _ _ tA (@aI _ _ _ _ _ _ _ _ _ _ _ rfl cb rfl jj (O (ae (Z 1 rfl rfl rfl)) ab ir) ir (cf _ _)) aa) (O (ae (Z 2 rfl rfl rfl)) ab ir) ir) ir (cf _ _))) aj))⟩
noncomputable def OI:Cx:={vars:=[(AP,.local,false),(Pj,.local,false)],aM:=[]}
noncomputable def Ax{P:Pk}{n:Nat}{C N:Addr}{mN:Str->Option Value}(W:cP P C N mN):{f:al->Option (al×Fl)//p5 P n OI (dz (aJ (e6 (aJ pq.main.body 11)) 4)) f}:=⟨_,(@ac _ _ _ _ _ _ _ (@aX _ _ _ _ _ _ (@kN _ _ _ _ _ _ _ _ _ _ _ qR (jx W 3 rfl (ae (Z 0 rfl rfl rfl)) ir) (jx W 3 rfl (ae (Z 1 rfl rfl rfl)) ir) rfl)) aj)⟩
noncomputable def oY:Cx:={vars:=[(AP,.local,false),(Pj,.local,false),(T1,.local,false),(⟨#[97]⟩,.local,true),(⟨#[116,115]⟩,.local,false)],aM:=[M2,AQ]}
noncomputable def f4{P:Pk}{n:Nat}{C N:Addr}{mN:Str->Option Value}(W:cP P C N mN)(lp:P.glob M2=some (.builtin "max"))(bz:P.glob AQ=some (.type "range")){cc:Addr}{fM:List V->Option V}(dp:mN MR=some (.ref cc))(bo:∀h,P.G h->∃of fd,h.get? cc=some of/\of.cls= .type "function"/\of.data= .func fd)(dq:typeLookup (.type "object") MR=pure none)(dt:aZ P n (.ref cc) fM){cK:Addr}{gv:List V->Option V}(gw:mN Pg=some (.ref cK))(cJ:∀h,P.G h->∃of fd,h.get? cK=some of/\of.cls= .type "function"/\of.data= .func fd)(gx:typeLookup (.type "object") Pg=pure none)(gy:aZ P n (.ref cK) gv):{f:al->Option (al×Fl)//p5 P n oY (dz (aJ (e6 (aJ pq.main.body 11)) 5)) f}:=⟨_,(@ac _ _ _ _ _ _ _ (@aD _ _ _ 2 _ _ _ _ _ _ rfl (by decide) (@ai _ _ _ _ _ _ _ _ _ _ _ cy (@aI _ _ _ _ _ _ _ _ _ _ _ rfl lp rfl Jr (@O _ _ _ _ _ _ _ _ (cX W (Z 0 rfl rfl rfl) gw cJ gx (by decide+kernel) gy ab ir (by decide) rfl ir) (O (cX W (Z 1 rfl rfl rfl) gw cJ gx (by decide+kernel) gy ab ir (by decide) rfl ir) ab ir) ir) ir (cf _ _)) aa) cp) (@ac _ _ _ _ _ _ _ (dh 3 rfl (by decide) (fT ab (by decide) len0) cp) (@ac _ _ _ _ _ _ _ (@fU _ _ _ (false) _ _ _ _ _ _ _ (@fh _ _ _ _ _ _ _ rfl bz (@O _ _ _ _ _ _ _ _ aa (O (ai cy (Z 2 rfl rfl rfl) aa) ab ir) ir) ir (cf _ _)) (ap 4 rfl (by decide) (by decide)) (@ac _ _ _ _ _ _ _ (@aT _ _ _ _ _ _ _ _ _ _ (@aR _ _ _ _ _ _ _ _ _ _ vl (@cX _ _ _ _ _ _ _ W _ _ _ _ _ _ _ _ _ (ae (Z 0 rfl rfl rfl)) dp bo _ dq (by decide+kernel) dt (O (ae (Z 4 rfl rfl rfl)) ab ir) ir (by decide) rfl ir) (@cX _ _ _ _ _ _ _ W _ _ _ _ _ _ _ _ _ (ae (Z 1 rfl rfl rfl)) dp bo _ dq (by decide+kernel) dt (O (ae (Z 4 rfl rfl rfl)) ab ir) ir (by decide) rfl ir) rfl) (@ac _ _ _ _ _ _ _ (@di _ _ _ _ _ _ (@cu _ _ _ 3 _ _ _ _ _ _ _ _ _ rfl rfl rfl qS (@O _ _ _ _ _ _ _ _ (@ct _ _ _ _ _ _ _ _ (@O _ _ _ _ _ _ _ _ (Z 4 rfl rfl rfl) (@O _ _ _ _ _ _ _ _ (cX W (Z 0 rfl rfl rfl) dp bo dq (by decide+kernel) dt (O (Z 4 rfl rfl rfl) ab ir) ir (by decide) rfl ir) (@O _ _ _ _ _ _ _ _ (cX W (Z 1 rfl rfl rfl) dp bo dq (by decide+kernel) dt (O (Z 4 rfl rfl rfl) ab ir) ir (by decide) rfl ir) ab ir) ir) ir) (by decide) (af (af (af len0)))) ab ir) ir (by decide) rfl ir) gH ir) aj) aj) aj) cp) (ac (aX (cG 3 rfl rfl rfl)) aj))))⟩
noncomputable def mq(raw mR:V)(n:Int)(nt b:Nat)(cnt:List Int):V:=.obj [raw,.int n,.int nt,.tup [.tup (cnt.map .int),.int b],mR]
noncomputable def HV(cnt:List Int)(ts:Nat):Int:=(List.range (cnt.length-ts)).foldl (fun il (j:Nat)=>il+((ts+j:Nat):Int)/ts*(cnt[ts+j]?).getD 0) 0
noncomputable def iT(cnt:List Int)(nt b ts:Nat):Int:=b+ts*(HV cnt ts+nt)
theorem L5{z:Int}(h0:0<=z)(h1:z<=1000000000000): -(2^64)<z/\z<2^64:=by omega
theorem P9{cnt:List Int}{ts:Nat}(hc:cnt.length<=1000)(SB:∀z∈cnt,0<=z/\z<=1000):∀(l:List Nat) (a:Int),(∀j∈l,ts+j<cnt.length)->0<=a->0<=l.foldl (fun il (j:Nat)=>il+((ts+j:Nat):Int)/ts*(cnt[ts+j]?).getD 0) a/\l.foldl (fun il (j:Nat)=>il+((ts+j:Nat):Int)/ts*(cnt[ts+j]?).getD 0) a<=a+l.length*1000000
 |[],a,_,h=>⟨h,Int.le_of_eq (Int.add_zero a).symm⟩
 |j::l,a,hj,h=>by
  have Nd:=hj j dJ;obtain⟨z,hz⟩:=get_mem Nd;have TV:=SB z (my hz);have h1:0<=((ts+j:Nat):Int)/ts:=Int.ediv_nonneg (mz _) (mz _);have h2:((ts+j:Nat):Int)/ts<=1000:=pg (Int.ediv_le_self (ts:Int) (mz _)) (qI.mpr (aA (eY Nd) hc));have h3:=Int.mul_nonneg h1 TV.1;have h4:((ts+j:Nat):Int)/ts*z<=1000*1000:=Int.mul_le_mul h2 TV.2 TV.1 (by decide);rw[eJ,hz,kM,bA];generalize((ts+j:Nat):Int)/ts*z=w at h3 h4;have:=P9 hc SB l (a+w) (fun i hi=>hj i (cw _ hi)) (by omega);exact⟨this.1,by omega⟩
theorem SY{ts n:Nat}(h:n<=1000)(NB:ts<=1000):si [.int ts,.int n]=some ((List.range (n-ts)).map fun(j:Nat)=>V.int ((ts+j:Nat):Int)):=by
 have s6:∀k:Nat,k<=1000->eH (k:Int)=true:=fun k h=>(dI _ _).mpr ⟨eK (pg (by decide) (mz k)),eK (pg (qI.mpr h) (by decide))⟩
 have e:((n:Int)-ts).toNat=n-ts:=Int.toNat_sub ..;rw[D3,s6 ts NB,s6 n h,ET,e];rfl
theorem HW{P:Pk}{n:Nat}{C N}{mN}{W:cP P C N mN}{g1 g2}{ρ:al}{raw mR:V}{k:Int}{nt b ts:Nat}{cnt:List Int}(hc:cnt.length<=1000)(SB:∀z∈cnt,0<=z/\z<=1000)(hnt:nt<=1000)(NB:0<ts)(Wi:ts<=1000)(h0:ρ 0=some (mq raw mR k nt b cnt))(h1:ρ 1=some (.int ts)):
  Ends (jF (P:=P) (n:=n) (C:=C) (N:=N) (mN:=mN) W g1 g2).1 ρ (.int (iT cnt nt b ts)):=by
 have hl:(cnt.map V.int).length=cnt.length:=bi ..;have Gv:(cnt.map V.int).length<=most:=by rw[hl];exact aA hc (by decide)
 have hz:0<(ts:Int)/\(ts:Int)<1073741824:=⟨nC.mpr NB,Int.lt_of_le_of_lt (qI.mpr Wi) (by decide)⟩;unfold jF;dsimp only;refine ex2 ρ h0 h1 fun σ=>bm rfl (bm rfl (iB (fun ρ=>XR 0 1 2 3 4 (mq raw mR k nt b cnt) (.int ts) (.tup (cnt.map .int)) (.int b) (.int (HV cnt ts)) ρ) (iP (dy (aq rfl (aq (bJ rfl (Lv _ Gv)) rfl)) (by rw[hl];exact SY hc Wi)) (oj (fun(j:Nat)=>V.int ((ts+j:Nat):Int)) (List.range (cnt.length-ts)) (fun l ρ=>XR 0 1 2 3 4 (mq raw mR k nt b cnt) (.int ts) (.tup (cnt.map .int)) (.int b) (.int (l.foldl (fun il (j:Nat)=>il+((ts+j:Nat):Int)/ts*(cnt[ts+j]?).getD 0) 0)) ρ) (fun l j ρ hj de hR=>?_) ⟨rfl,rfl,rfl,rfl,rfl⟩)) fun am hR=>?_))
 ·have hjr:=gD.mp hj
  obtain⟨z,hzz⟩:=get_mem (l:=cnt) (k:=ts+j) (Nat.add_lt_of_lt_sub' hjr);have TV:=SB z (my hzz);rw[m4,eJ,pY,hzz];exact hR.ex fun σ=>⟨_,_,rfl,xI (ad rfl (bu (bu rfl rfl (Gi _ _ hz)) (cM rfl rfl (Ok (by rw[bL,hzz];rfl) Gv)) (uH _ _ (L5 TV.1 (pg TV.2 (by decide)))))) rfl,⟨rfl,rfl,rfl,rfl,rfl⟩⟩
 ·have hb:0<=HV cnt ts/\HV cnt ts<=0+((List.range (cnt.length-ts)).length:Int)*1000000:=P9 hc SB _ 0 (fun j hj=>by have:=gD.mp hj;omega) (Int.le_refl 0)
  rw[jX]at hb;exact hR.ex fun σ=>eS (ad rfl (bu rfl (ad rfl rfl) (uH _ _ (L5 (by omega) (by omega)))))
section
variable{P:Pk}{n:Nat}{C N:Addr}{mN:Str->Option Value}
noncomputable def SZ:Stmt->Expr:=p8 default (fun ø ø ø=>default) (fun ø=>default) (fun ø ø ø=>default) (fun ø ø ø=>default) (fun t ø ø=>t)
noncomputable def Wj:{f:al->Option Bool//AS P n cY (SZ (aJ (oK pz) 2)) f}:=⟨_,fP (ae (Z 5 rfl rfl rfl)) (fun ø ø=>rfl)⟩
theorem Ks.out'{X out hid ao:List Addr}{s s':Shared}(k:Ks (X++out) hid ao s s'):Ks out hid ao s s':=⟨fun b o hb e=>k.keep b o (hb.imp id fun q=>bw _ q) e,k.new,k.sub,k.gens,k.os⟩
theorem Ks.none{out hid ao:List Addr}{s s':Shared}(k:Ks out hid ao s s')(l:cx s'.heap ao){a:Addr}(h:s'.heap.get? a=none):s.heap.get? a=none:=by
 cases e:s.heap.get? a with
 |none=>rfl
 |some o=>
  by_cases z:a∈hid
  ·obtain⟨o',q⟩:=l a (k.sub a z)
   rw[h]at q;cases q
  ·have:=k.keep a o (.inl z) e
   rw[h]at this;cases this
noncomputable def BQ(M:Model)(A:Around)(E:Value->Shared->Prop)(env:Env)(rest:List Stmt)(Q:Flow->Shared->Prop)(f:Flow)(s:Shared):Prop:=match f with
 | .next=>wpAny M A (execs rest env) Q E s
 |f=>Q f s
noncomputable def OJ(M:Model)(A:Around)(E:Value->Shared->Prop)(env:Env)(a b:List Stmt)(Q:Flow->Shared->Prop)(z:Bool)(s:Shared):Prop:=if z=true then wpAny M A (execs a env) Q E s else wpAny M A (execs b env) Q E s
section
variable{M:Model}{A:Around}{E:Value->Shared->Prop}{env:Env}{s:Shared}{Q:Flow->Shared->Prop}
theorem L6{b rest:List Stmt}{st:Stmt}(e:b=st::rest)(h:wpAny M A (exec st env) (BQ M A E env rest Q) E s):wpAny M A (execs b env) Q E s:=by
 rw[e];exact rM h
theorem L7{st:Stmt}{t:Expr}{b1 b2:List Stmt}{p:Pos}(e:st= .If t b1 b2 p)(h:wpAny M A (isTrue t env (eval t env)) (OJ M A E env b1 b2 Q) E s):wpAny M A (exec st env) Q E s:=by
 rw[e];exact wpAny_If h
theorem OJ.t{a b:List Stmt}{z:Bool}(e:z=true)(h:wpAny M A (execs a env) Q E s):OJ M A E env a b Q z s:=Eq.mpr (aw e) h
theorem OJ.f{a b:List Stmt}{z:Bool}(e:z=false)(h:wpAny M A (execs b env) Q E s):OJ M A E env a b Q z s:=Eq.mpr (az (e▸nofun)) h
theorem uK{K:Cx}{st:Stmt}{f}(J:uk P n K st f){out hid:List Addr}{m}{B:Shared}{ρ aY:al}(rm:bW n A)(S:aB P K env out hid m B s ρ)(hf:f ρ=some (aY,.next))(k:∀ao m' s',aB P K env out ao m' B s' aY->Ks out hid ao s s'->Q .next s'):wpAny (model P.prog P.w) A (exec st env) Q E s:=
 au (J A env out hid m B s ρ aY .next E rm S hf) (fun cV s' q=>by
  obtain⟨ao,m',S',K',e⟩:=q;have e':cV= .next:=e
  rw[e'];exact k ao m' s' S' K') fun ø ø q=>q
end
theorem OK{g lN:List iQ}{kd:Int}{a:Addr}{f:Int->List Int}{i:Nat}(hg:TU g f)(AK:g.length<=i)(h:(∃xs,(kd,a,xs)∈g/\lN=g)\/((∀e∈g,e.1≠kd)/\lN=g++[(kd,a,[])])):∃xs,(kd,a,xs)∈lN/\TU lN f/\lN.length<=i+1:=by
 rcases h with⟨xs,hm,e⟩|⟨Fw,e⟩
 ·exact e▸⟨xs,hm,hg,i6 AK⟩
 ·rw[e]
  refine⟨[],bw _ (.head _),⟨fun e he=>(cr.mp he).elim (hg.1 e) fun he=>?_,fun k hk=>hg.2 k fun e he=>hk e (bj _ he)⟩,by rw[List.length_append];exact i7 AK⟩;rw[cN.mp he];exact hg.2 kd Fw
theorem L8{i:Nat}{kd j:Int}{ys:List Int}{st:Aq}(h:st.1 kd=ys++[j]):iF i (kd,false) st=(fun k=>if k=kd then ys else st.1 k,cI st.2.1 j,eP st.2.1 st.2.2 j (.int (i-j))):=by
 show(match(st.1 kd).getLast? with|none=>st|some j=>(fun k=>if k=kd then(st.1 k).dropLast else st.1 k,cI st.2.1 j,eP st.2.1 st.2.2 j (.int (i-j))))=_;rw[h,DL];refine congrArg (·,_) (funext fun k=>?_);by_cases q:k=kd
 ·rw[aw q,aw q,q,h,DM]
 ·rw[az q,az q]
theorem Gw{i:Nat}{kd:Int}{xs:List Int}{st:Aq}(h:st.1 kd=xs):iF i (kd,true) st=(fun k=>if k=kd then xs++[(i:Int)]else st.1 k,cI st.2.1 i,eP st.2.1 st.2.2 i (.int 0)):=by
 refine congrArg (·,_) (funext fun k=>?_);by_cases q:k=kd
 ·rw[aw q,aw q,q,h]
 ·rw[az q,az q]
theorem Wk(W:cP P C N mN){d:Addr}(ly:(d==sysModules)=false){r:List (Int×Bool)}(hr:r.length<=60){A:Around}{env:Env}{B s:Shared}(rm:bW n A){i:Nat}{kd:Int}{o:Bool}{out hid:List Addr}{m}{ρ:al}{g:List iQ}{E:Value->Shared->Prop}{Q:Flow->Shared->Prop}(hri:r[i]?=some (kd,o))
  (S:aB P cY env (Wf d g++out) hid m B s ρ) (hB:∀a∈Wf d g,B.heap.get? a=none) (oP:∀a∈Wf d g,a∉out) (hI:iR P d g s.heap) (hJ:JS d r i ρ g) (h3:ρ 3=some (.int i)) (hQ:∀s',XX P cY env out hid B s s' (Wf d) (iR P d) (JS d r) (i+1) g->Q .next s'):
  wpAny (model P.prog P.w) A (execs (oK pz) env) Q E s:=by
 obtain⟨h0,h1,h2,hg,AK⟩:=hJ;have S0:i<60:=rU (eX.mp hri).1 hr;have hlen:=yu r i;have Us:(cg r i).2.1.length<=most:=aA hlen.2 (aA (eY S0) (by decide));refine L6 rfl (uK (LL (P:=P) (n:=n)).2 rm S (Oz h0 h3 hr hri) fun ck m₁ s₁ bc gh=>?_);have LQ:iR P d g s₁.heap:=hI.keep fun a ha o e=>gh.keep a o (.inr (bj _ ha)) e
 refine L6 rfl (LP (ip:=1) (iq:=6) (ik:=4) (kd:=kd) W rm ly bc hB oP LQ (gR AK (Nat.lt_trans S0 (by decide))) rfl rfl rfl h1 rfl rfl rfl rfl rfl rfl rfl (fun ø=>rfl) (fun ø=>rfl) (fun ø=>rfl) fun s₂ a gj m₂ lN cC Cz Bu Wl p7 eG=>?_);obtain⟨xs,hm,L9,Ma⟩:=OK hg AK Wl;have xu:(cg r i).1 kd=xs:=L9.1 _ hm;have hxl:xs.length<=64:=xu▸aA (hlen.1 kd) (aA (eY S0) (by decide));have Mb:∀a∈Wf d lN,a∉out:=fun b hb=>(eG b hb).elim (oP b) fun z q=>(bc.live b (bc.oh b (bw _ q))).elim fun o e=>nomatch z.symm.trans e
 have HX:cg r (i+1)=iF i (kd,o) (cg r i):=by
  show(match r[i]? with|some e=>iF i e (cg r i)|none=>cg r i)=_;rw[hri]
 have yf:=fun ys=>L9.set (ys:=ys) hm (gC.mp Bu.nodup).2 Bu.keys
 have hls:∀ys,(fb lN a ys).length<=i+1:=fun ys=>by unfold fb;rw[bi];exact Ma
 have fin:∀cB Bx qe iK ul,aB P cY env (Wf d ul++out) qe Bx B cB iK->Wf d ul=Wf d lN->iR P d ul cB.heap->JS d r (i+1) iK ul->Ks out gj qe s₂ cB->Q .next cB:=
  fun cB Bx qe iK ul kT hw yx Gx Bw=>hQ cB ⟨qe,Bx,iK,ul,kT,fun a ha=>Cz a (hw▸ha),yx,Gx,(gh.out'.trans p7).trans Bw,fun a ha=>(eG a (hw▸ha)).imp id fun z=>gh.none bc.live z⟩
 refine L6 rfl (L7 rfl (au ((Wj (P:=P) (n:=n)).2 A env (Wf d lN++out) gj m₂ B s₂ _ o E rm cC rfl) (fun z cB eh=>?_) fun ø ø q=>q));obtain⟨A9,ez⟩:=eh;have kT:=cC.after A9;have yx:iR P d lN cB.heap:=Bu.keep fun b hb o e=>A9.keep b o e
 have Bw:Ks out gj gj s₂ cB:=.gT A9
 induction o with
 |false=>
  refine OJ.f ez (L6 rfl (L7 rfl (HR (iq:=6) W rm kT yx hm hxl rfl rfl rfl rfl fun gP S2=>?_)));have jM:=kT.after S2;have yr:iR P d lN gP.heap:=yx.keep fun b hb o e=>S2.keep b o e
  have mL:Ks out gj gj s₂ gP:=Bw.trans (.gT S2);by_cases bN:xs=[]
  ·refine OJ.f (mB (not_not_intro bN)) (mU (mU (mU (fin gP m₂ gj _ _ jM rfl yr ?_ mL))))
   have e5:cg r (i+1)=cg r i:=by
    rw[HX];show(match((cg r i).1 kd).getLast? with|none=>cg r i|some j=>_)=_;rw[xu,bN];rfl
   exact⟨h0,h1,e5▸h2,e5▸L9,Ma⟩
  ·have ey:xs=xs.dropLast++[xs.getLast bN]:=(rT bN).symm
   have CG:=HX.trans (L8 (xu.trans ey));refine OJ.t (eK bN) (L6 rfl (LR (iq:=6) (ix:=7) (i:=xs.getLast bN) (xs:=xs.dropLast) W rm jM Cz Mb yr (ey▸hm) (nF▸aA (rZ _ _) hxl) rfl rfl rfl rfl rfl rfl rfl (fun ø=>rfl) (fun ø=>rfl) fun nM B9 wv LI sX=>?_));refine L6 rfl (uK (LN (P:=P) (n:=n)).2 rm wv (OC (i:=i) (st:=xs.getLast bN) h2 h3 rfl Us) fun S3 ab8 A8 QM Wm=>?_);refine mU (mU (mU (fin A8 ab8 S3 _ _ QM hO (LI.keep fun a ha o e=>Wm.keep a o (.inr (bj _ ha)) e) ?_ ((mL.trans sX).trans Wm.out'))));exact⟨h0,h1,by rw[CG];rfl,by rw[CG];exact yf _,hls _⟩
 |true=>
  have CG:=HX.trans (Gw xu);refine OJ.t ez (L6 rfl (CC (iq:=6) (ix:=3) (i:=i) W rm kT Cz Mb yx hm hxl rfl rfl rfl h3 rfl rfl rfl rfl rfl rfl (fun ø=>rfl) (fun ø=>rfl) (fun ø=>rfl) fun gP jM yr mL=>?_));refine L6 rfl (uK (LM (P:=P) (n:=n)).2 rm jM (OA (i:=i) h2 h3 Us) fun lY B9 nM wv sX=>?_);refine mU (mU (fin nM B9 lY _ _ wv hO (yr.keep fun a ha o e=>sX.keep a o (.inr (bj _ ha)) e) ?_ ((Bw.trans mL).trans sX.out')));exact⟨h0,h1,by rw[CG];rfl,by rw[CG];exact yf _,hls _⟩
theorem S4{n i j:Nat}(h:(List.range n)[i]?=some j):j=i:=by
 obtain⟨h1,h2⟩:=eX.mp h;exact h2.symm.trans (DN h1)
theorem spi{r:List (Int×Bool)}{i:Nat}{x:V}(h:((List.range r.length).map fun(i:Nat)=>V.int i)[i]?=some x):∃e,r[i]?=some e:=by
 have:=(eX.mp h).1;rw[bi,jX]at this;exact⟨_,dX this⟩
theorem OL{ρ:al}:(LK (P:=P) (n:=n)).1 ρ=some (upd (upd ρ 1 (.dict [] [])) 2 (.dict [] []),.next):=by
 unfold LK;simp[aQ];rfl
theorem Mc{q:Int}{ks:List Int}:∀{vs:List V},vs.length=ks.length->q∈ks->∃v∈vs,bR ks vs q=some v:=by
 induction ks with
 |nil=>exact fun ø h=>nomatch h
 |cons k ks ih=>
  intro vs hl h
  induction vs with
  |nil=>exact nomatch hl
  |cons v vs _=>
   rw[gG];by_cases e:k=q
   ·exact⟨v,.head _,aw e⟩
   ·obtain⟨w,h1,h2⟩:=ih (rP hl) ((bp.mp h).resolve_left fun z=>e z.symm)
    exact⟨w,.tail _ h1,(az e).trans h2⟩
noncomputable def isInt(v:V):Prop:=∃i,v= .int i
theorem CH{ks:List Int}{vs:List V}{q z:Int}(hl:vs.length=ks.length)(hv:∀v∈vs,isInt v):(eP ks vs q (.int z)).length=(cI ks q).length/\∀v∈eP ks vs q (.int z),isInt v:=by
 unfold eP cI;split
 ·refine⟨by simp[hl],fun v h=>?_⟩
  rw[List.mem_iff_getElem]at h;obtain⟨j,hj,rfl⟩:=h;rw[List.getElem_zipWith];split
  ·exact⟨_,rfl⟩
  ·exact hv _ (va _)
 ·refine⟨by simp[hl],fun v h=>?_⟩
  rcases cr.mp h with h|h
  ·exact hv v h
  ·simp at h;rw[h];exact⟨_,rfl⟩
theorem Md(r:List (Int×Bool))(i:Nat):(cg r i).2.2.length=(cg r i).2.1.length/\∀v∈(cg r i).2.2,isInt v:=by
 induction i with
 |zero=>exact⟨rfl,fun v h=>nomatch h⟩
 |succ i ih=>
  rw[w2];split
  ·unfold iF
   split
   ·exact CH ih.1 ih.2
   ·split
    ·exact ih
    ·exact CH ih.1 ih.2
  ·exact ih
noncomputable def qw(r:List (Int×Bool)):List V:=(j2 (cg r r.length).2.1).map fun k=>(bR (cg r r.length).2.1 (cg r r.length).2.2 k).getD .none
theorem OM{g1:P.glob MT=some (.builtin "sorted")}{ρ:al}{r:List (Int×Bool)}(h2:ρ 2=some (.dict (cg r r.length).2.1 (cg r r.length).2.2))(hr:r.length<=60):(LO (P:=P) (n:=n) g1).1 ρ=some (ρ,.ret (.list (qw r))):=by
 have hl:=(yu r r.length).2;have hk:(cg r r.length).2.1.length<64:=by omega
 have hm:(cg r r.length).2.1.length<most:=Nat.lt_trans hk (by decide);have ok:=Md r r.length;have hrl:(j2 (cg r r.length).2.1).length=(cg r r.length).2.1.length:=(u4 _ _).length_eq;unfold LO;refine congrArg (Option.map fun y=>(ρ,Fl.ret y)) (db (fun ρ=>ρ 1=some (.dict (cg r r.length).2.1 (cg r r.length).2.2)) (j2 (cg r r.length).2.1) V.int _ ?_ (hrl▸hm) (fun k hk ρ hI=>?_) (by exact h2))
 ·show((ρ 2).bind Rf).bind elems=_
  rw[h2];simp[Rg,hk,elems]
 ·obtain⟨v,hv,e⟩:=Mc ok.1 ((u4 _ _).mem_iff.mp hk)
  refine⟨_,rfl,hI,?_⟩;obtain⟨i,ei⟩:=ok.2 v hv;simp[f7,upd,hI,uB,zh,FC,FD,e,ei,V.I0]
noncomputable def EZ(x:V):Option (Int×Bool):=x.Qv.bind fun l=>(V.Ni l).bind fun p=>p.1.int?.bind fun a=>p.2.bool?.map fun b=>(a,b)
theorem HY(a:Int)(b:Bool):EZ (.tup [.int a,.bool b])=some (a,b):=rfl
noncomputable def oy:List V->Option (List (Int×Bool))
 |[]=>some []
 |x::xs=>(EZ x).bind fun e=>(oy xs).map (e:: ·)
theorem H0:oy []=some []:=rfl
theorem H1(x:V)(xs:List V):oy (x::xs)=(EZ x).bind fun e=>(oy xs).map (e:: ·):=rfl
theorem H6{l:List V}:∀{r},oy l=some r->l=r.map fun e=>.tup [.int e.1,.bool e.2]:=by
 induction l with
 |nil=>exact fun h=>Option.some.inj h▸rfl
 |cons x xs ih=>
  refine fun h=>ah h fun e h1 h2=>bV h2 fun r' h3 er=>?_
  refine ah h1 fun l hl h1=>ah h1 fun p hp h1=>ah h1 fun a ha h1=>bV h1 fun b hb h1=>?_
  rw[V.AU hl,V.A0 hp,V.kO ha,V.xW hb,ih h3,<-er,<-h1];rfl
noncomputable def Me(xs:List V):Option V:=(V.one? xs).bind fun x=>x.gE.bind fun l=>(oy l).bind fun r=>if r.length<=60 then some (.list (qw r))else none
noncomputable def H7:Stmt->Expr:=p8 default (fun ø ø ø=>default) (fun ø=>default) (fun ø ø ø=>default) (fun t ø ø=>t) (fun ø ø ø=>default)
theorem E0(W:cP P C N mN)(eQ:P.glob MT=some (.builtin "sorted"))(bz:P.glob AQ=some (.type "range"))(cb:P.glob vi=some (.builtin "len")):
  Ob P n iS (dz (aJ pq.main.body 67)) (fun ρ=>(ρ 0).bind fun x=>Me [x]):=fun A env out hid m B s ρ x E rm S hf=>by
 refine ah hf fun y h0 hq=>ah hq fun y1 e1 hq=>ah hq fun l hl hq=>ah hq fun r h1 hq=>eN hq fun hr ex=>?_
 rw[(vg (V.gF e1)).1,V.fQ hl,H6 h1]at h0;have e:dz (aJ pq.main.body 67)=[aJ (dz (aJ pq.main.body 67)) 0,.For (H7 pz) (Gq pz) (oK pz) [] pz.pos,aJ (dz (aJ pq.main.body 67)) 2]:=rfl;refine L6 e (uK (LK (P:=P) (n:=n)).2 rm S OL fun ck m₁ s₁ bc gh=>?_);obtain⟨d,vs,cC,hD,zg,ly,hBd,hdo⟩:=bc.Wb (K':=cY) W 1 (x:=WT) (k:=.local) rfl rfl rfl (ks:=[]) (l:=[]) rfl;rw[vc zg]at hD;refine L6 rfl (HQ (Wf:=Wf d) (Inv:=iR P d) (J:=JS d r) (J':=fun i ρ g=>JS d r i ρ g/\ρ 3=some (.int i)) (g:=[]) (xs:=(List.range r.length).map fun(i:Nat)=>V.int i) (fun g h h' x k=>x.keep k) rm cC
  (fun a ha=>cN.mp ha▸hBd) (fun a ha=>cN.mp ha▸hdo) ⟨by simp,hD,fun e he=>(nomatch he),dU _⟩ ⟨h0,rfl,rfl,⟨fun e he=>(nomatch he),fun k ø=>rfl⟩,cF _⟩
  ((ES (P:=P) (n:=n) bz cb).2 A env _ ck m₁ B s₁ _ _ E rm cC (LT h0 hr)) (ap (lc:=false) 3 rfl (by decide) (by decide)) (fun i x ρ g hx hJ=>?_) (fun i x out hid m s ρ g E Q hx S hB oP hI hJ hQ=>(spi hx).elim fun e he=>Wk W ly hr rm he S hB oP hI hJ.1 hJ.2 hQ) (fun ø=>rfl) fun cB qe Bx iK ul kT ad6 yx Gx=>?_)
 ·obtain⟨h0,h1,h2,hg,hl⟩:=hJ
  refine⟨_,rfl,⟨h0,h1,h2,hg,hl⟩,?_⟩;rw[bL]at hx;exact bV hx fun j hj ej=>congrArg some (ej.symm.trans (congrArg (fun(n:Nat)=>V.int n) (S4 hj)))
 ·rw[bi,jX]at Gx
  refine L6 rfl (au ((LO (P:=P) (n:=n) eQ).2 A env _ qe Bx B cB iK _ _ E rm kT (OM Gx.2.2.1 hr)) (fun cV gP q=>?_) fun ø ø q=>q);obtain⟨nX,Hi,jM,mL,v,ef,hv⟩:=q;rw[ef];exact⟨jM.kp,v,rfl,ex▸hv.less fun a h=>bw _ h⟩
end
theorem j8:∀a b:List Int,PyData.eqvAll (a.map .int) (b.map .int)=decide (a=b)
 |[],[]=>rfl
 |[],_::_=>rfl
 |_::_,[]=>rfl
 |x::a,y::b=>by
  have e:(x==y)=decide (x=y):=rfl;simp[PyData.eqvAll,PyData.eqv,j8 a b,e]
theorem depthAll_ints:∀a:List Int,PyData.depthAll (a.map .int)<=1
 |[]=>by simp[PyData.depthAll]
 |x::a=>by
  have:=depthAll_ints a;simp[PyData.depthAll,PyData.depth];omega
theorem S5(a b:List Int):G7 (.tup (a.map .int)) (.tup (b.map .int))=some (decide (a=b)):=by
 have h:=depthAll_ints a;rw[vk _ _ rfl];simp only[AW,V.tC,V.tD,V.tE,V.tF,V.tG,rv,m3,mW,PyData.depth,PyData.eqv,j8];rw[aw (by omega)]
theorem S6(a b:List Int):Df (.tup (a.map .int)) (.tup (b.map .int))=some (!decide (a=b)):=by
 unfold Df;rw[S5];rfl
theorem Mf(a b:List Int)(x y:Int):G7 (.tup [.tup (a.map .int),.int x]) (.tup [.tup (b.map .int),.int y])=some (decide (a=b)&&decide (x=y)):=by
 have h:=depthAll_ints a;rw[vk _ _ rfl];simp only[AW,V.tC,V.tD,V.tE,V.tF,V.tG,V.sa,V.sb,rv,m3,mW,PyData.depth,PyData.depthAll,PyData.eqv,j8,PyData.eqvAll];rw[aw (by omega)];simp[BEq.beq]
noncomputable def ls(l:List (List Int)):V:=.list (l.map fun e=>.tup (e.map .int))
theorem CI:∀l:List (List Int),V.Ft (l.map fun e=>.tup (e.map .int))=some (l.map fun e=>.tuple (e.map .int))
 |[]=>rfl
 |x::l=>by simp[V.sa,V.sb,V.tC,V.tD,V.tE,V.tF,V.tG,rv,CI l]
theorem t9:∀l:List (List Int),PyData.eqvAll (l.map fun e=>.tuple (e.map .int)) (l.map fun e=>.tuple (e.map .int))=true
 |[]=>rfl
 |x::l=>by simp[PyData.eqvAll,PyData.eqv,j8,t9 l]
theorem pA:∀a:List (List Int),PyData.depthAll (a.map fun e=>.tuple (e.map .int))<=5
 |[]=>by simp[PyData.depthAll]
 |x::a=>by
  have:=pA a;have:=depthAll_ints x;simp[PyData.depthAll,PyData.depth];omega
theorem Mg(l:List (List Int)):Df (ls l) (ls l)=some false:=by
 have h:=pA l;unfold Df ls;rw[vk _ _ rfl];simp only[AW,V.tC,V.tD,V.tE,V.tF,V.tG,CI,m3,mW,PyData.depth,PyData.eqv,t9];rw[aw (by omega)];rfl
theorem Qa(a b:Int):Ed [.int a,.int b]=some (.int (max a b)):=by
 rw[Q0];exact congrArg (fun z=>some (V.int z)) (by split<;>omega)
theorem CJ{P:Pk}{n:Nat}{C N}{mN}{W:cP P C N mN}{g1 g2}{ρ:al}{raw mR:V}{k:Int}{nt b:Nat}{cnt:List Int}(hc:cnt.length<=1000)(h0:ρ 0=some (mq raw mR k nt b cnt)):
  Ends (eC (P:=P) (n:=n) (C:=C) (N:=N) (mN:=mN) W g1 g2).1 ρ (.int (max ((cnt.length:Int)-1) b)):=by
 have hl:(cnt.map V.int).length=cnt.length:=bi ..;have Gv:(cnt.map V.int).length<=most:=by rw[hl];exact aA hc (by decide)
 unfold eC;dsimp only;exact ex1 ρ h0 fun σ=>bm rfl (eS (dy (aq (bu (bJ rfl (Lv _ Gv)) rfl rfl) (aq rfl rfl)) ((Qa ..).trans (by rw[hl]))))
theorem Ia{P:Pk}{n:Nat}{C N}{mN}{W:cP P C N mN}{ρ:al}{raw mR:V}{k:Int}{nt b:Nat}{cnt:List Int}{oZ o0:V}{k':Int}{E1 b':Nat}{iU:List Int}(h0:ρ 0=some (mq raw mR k nt b cnt))(h1:ρ 1=some (mq oZ o0 k' E1 b' iU)):
  Ends (Ax (P:=P) (n:=n) (C:=C) (N:=N) (mN:=mN) W).1 ρ (.bool (decide (cnt=iU)&&decide (b=b'))):=by
 unfold Ax;dsimp only;have e:=Mf cnt iU b b';rw[show decide ((b:Int)=b')=decide (b=b')from decide_eq_decide.mpr Int.ofNat_inj]at e;exact eS (bh (ba (dy h0 rfl) (dy h1 rfl) e) rfl)
noncomputable def eU(a b:Nat->Int)(l:List (List Int))(j:Nat):List (List Int):=if a (j+1)=b (j+1)then l else l++[[((j+1:Nat):Int),a (j+1),b (j+1)]]
noncomputable def ig(a b:Nat->Int)(n:Nat):List (List Int):=(List.range n).foldl (eU a b) []
theorem E2(a b:Nat->Int):∀(r:List Nat) (l:List (List Int)),(r.foldl (eU a b) l).length<=l.length+r.length
 |[],l=>cF _
 |x::r,l=>by
  have h:(eU a b l x).length<=l.length+1:=by
   unfold eU;split
   ·exact i5 _
   ·exact iJ List.length_append
  refine aA (E2 a b r (eU a b l x)) ?_;rw[bA];omega
theorem Qb{k:Nat}(h:k<=1000):si [.int 1,.int ((k:Int)+1)]=some ((List.range k).map fun(j:Nat)=>V.int ((j+1:Nat):Int)):=by
 have h6:eH ((k:Int)+1)=true:=(dI _ _).mpr ⟨eK (by omega),eK (by omega)⟩;have hk:((k:Int)+1-1).toNat=k:=by omega
 rw[D3,h6,ET,hk];exact congrArg some (pi fun j ø=>congrArg V.int (by omega))
theorem CK{P:Pk}{n:Nat}{C N}{mN}{W:cP P C N mN}{g1 g2}{a1 F1 m1 o1 l1 c1}{a2 F2 m2 o2 l2 c2}{ρ:al}{v w:V}{lv lw:Int}{x y:Nat->Int}{k:Nat}(hk:k<=1000)(hv:∃l,v= .obj l/\l.length=5)(hw:∃l,w= .obj l/\l.length=5)(Ut:max lv lw+1=k)
  (FY:F2 [v]=some (.int lv)) (hL2:F2 [w]=some (.int lw)) (hI:∀ts:Nat,0<ts->ts<=k->F1 [v,.int ts]=some (.int (x ts))/\F1 [w,.int ts]=some (.int (y ts)))
  (h0:ρ 0=some v) (h1:ρ 1=some w):
  Ends (f4 (P:=P) (n:=n) (C:=C) (N:=N) (mN:=mN) W g1 g2 (cc:=a1) (fM:=F1) m1 o1 l1 c1 (cK:=a2) (gv:=F2) m2 o2 l2 c2).1 ρ (ls (ig x y k)):=by
 obtain⟨AL,rfl,X2⟩:=hv;obtain⟨lw',rfl,X3⟩:=hw;unfold f4;dsimp only;refine ex2 ρ h0 h1 fun σ=>gm (mx (ad (dy (aq (e7 rfl X2 rfl FY) (aq (e7 rfl X3 rfl hL2) rfl)) (Qa _ _)) rfl) (congrArg (fun z=>some (V.int z)) Ut)) (gm rfl (iB (fun ρ=>Oj 0 1 2 3 (.obj AL) (.obj lw') (.int k) (ls (ig x y k)) ρ) (iP (dy (aq rfl (aq (ad rfl rfl) rfl)) (Qb hk)) (oj (fun(j:Nat)=>V.int ((j+1:Nat):Int)) (List.range k) (fun l ρ=>Oj 0 1 2 3 (.obj AL) (.obj lw') (.int k) (ls (l.foldl (eU x y) [])) ρ) (fun l j ρ hj de hR=>?_) ⟨rfl,rfl,rfl,rfl⟩)) fun am hR=>eS hR.4))
 obtain⟨e1,e2⟩:=hI (j+1) (nv j) (gD.mp hj);rw[jX]at de;have oP:(l.foldl (eU x y) []).length<most:=gR (E2 _ _ l []) (by rw[eZ,gq];exact rU de (aA hk (by decide)));rw[m4,eJ,pY];generalize l.foldl (eU x y) []=st at*;unfold eU;by_cases q:x (j+1)=y (j+1)
 ·rw[aw q]
  exact hR.ex fun σ=>⟨_,_,rfl,bO (j5 (ba (e7 rfl X2 rfl e1) (e7 rfl X3 rfl e2) (P4 q)) rfl) rfl,rfl,rfl,rfl,rfl⟩
 ·rw[az q]
  exact hR.ex fun σ=>⟨_,_,rfl,bO (tc (ba (e7 rfl X2 rfl e1) (e7 rfl X3 rfl e2) (neT q)) (Su rfl (aq (bh (aq rfl (aq (e7 rfl X2 rfl e1) (aq (e7 rfl X3 rfl e2) rfl))) rfl) rfl) (l3 _ _ (by rw[bi];exact oP)) rfl)) rfl,rfl,rfl,rfl,congrArg (fun z=>some (V.list z)) (iA (fun e=>V.tup (e.map .int)) st [((j+1:Nat):Int),x (j+1),y (j+1)])⟩
noncomputable def wsum(f:Nat->Int):List Int->Nat->Int
 |[],_=>0
 |c::l,i=>f i*c+wsum f l (i+1)
theorem iV(f:Nat->Int)(i:Nat):wsum f [] i=0:=rfl
theorem iW(f:Nat->Int)(c:Int)(l:List Int)(i:Nat):wsum f (c::l) i=f i*c+wsum f l (i+1):=rfl
theorem rB(f:Nat->Int):∀(a b:List Int) (i:Nat),wsum f (a++b) i=wsum f a i+wsum f b (i+a.length)
 |[],b,i=>by simp[iV,iW]
 |x::a,b,i=>by
  simp only[List.cons_append,iV,iW,rB f a b,bA];have:i+1+a.length=i+(a.length+1):=by omega
  rw[this];omega
theorem yy(f:Nat->Int):∀(n i:Nat),wsum f (List.replicate n 0) i=0
 |0,i=>rfl
 |n+1,i=>by simp[yG,iV,iW,yy f n]
theorem CL(f:Nat->Int):∀(l:List Int) (b i:Nat) (x:Int),l[b]?=some x->wsum f (l.set b (x+1)) i=wsum f l i+f (i+b)
 |[],b,i,x,h=>by simp at h
 |y::l,0,i,x,h=>by
  simp at h;subst h;simp only[List.set_cons_zero,iV,iW,Int.mul_add,Int.mul_one,mY];omega
 |y::l,b+1,i,x,h=>by
  simp only[DO]at h;simp only[List.set_cons_succ,iV,iW,CL f l b (i+1) x h];have:i+1+b=i+(b+1):=by omega
  rw[this];omega
theorem Ib(f:Nat->Int)(cnt:List Int)(b i:Nat):wsum f (grow cnt b) i=wsum f cnt i:=by
 unfold grow;split
 ·rw[rB,yy];omega
 ·rfl
theorem Ic(f:Nat->Int)(cnt:List Int)(b:Nat):wsum f (bump cnt b) 0=wsum f cnt 0+f b:=by
 unfold bump;have h:=(w9 cnt b).1;have e:(grow cnt b)[b]?=some (grow cnt b)[b]:=dX h;rw[e,kM,CL f _ b 0 _ e,Ib,gq]
noncomputable def uw:List Int->Int
 |[]=>0
 |x::l=>x+uw l
theorem oM:uw []=0:=rfl
theorem mr(x:Int)(l:List Int):uw (x::l)=x+uw l:=rfl
theorem xb(f:Nat->Int):∀(l:List Nat) (cnt:List Int),wsum f (l.foldl bump cnt) 0=wsum f cnt 0+uw (l.map f)
 |[],cnt=>by simp[oM,mr]
 |x::l,cnt=>by
  rw[eJ,xb f l,Ic];simp only[bn,oM,mr];omega
theorem yz(f:Nat->Int):∀(l:List Int) (i:Nat),(∀j,i<=j->j<i+l.length->f j=0)->wsum f l i=0
 |[],i,h=>rfl
 |x::l,i,h=>by
  rw[wsum,h i (cF _) (by simp),yz f l (i+1) fun j h1 h2=>h j (by omega) (by simp;omega)];simp
theorem Id(f:Nat->Int)(k:Nat):∀(n:Nat) (l:List Int) (a:Int),l.length=n->(List.range n).foldl (fun a j=>a+f (k+j)*(l[j]?).getD 0) a=a+wsum f l k:=by
 intro n
 induction n with
 |zero=>
  intro l a h;obtain rfl:=vc h;simp[iV,iW]
 |succ n ih=>
  intro l a h;have bN:l≠[]:=fun z=>by subst z;simp at h
  have e:=rT bN;have hl:l.dropLast.length=n:=by rw[nF,h];rfl
  have S7:(List.range n).foldl (fun a j=>a+f (k+j)*(l[j]?).getD 0) a=(List.range n).foldl (fun a j=>a+f (k+j)*(l.dropLast[j]?).getD 0) a:=by
   have go:∀(r:List Nat) (a:Int),(∀j∈r,j<n)->r.foldl (fun a j=>a+f (k+j)*(l[j]?).getD 0) a=r.foldl (fun a j=>a+f (k+j)*(l.dropLast[j]?).getD 0) a:=by
    intro r
    induction r with
    |nil=>intros;rfl
    |cons x r ih2=>
     intro a hr;have hx:x<n:=hr x dJ;have:l.dropLast[x]?=l[x]?:=by rw[List.getElem?_dropLast];rw[aw (by omega)]
     simp only[eJ,this];exact ih2 _ fun j hj=>hr j (cw _ hj)
   exact go _ _ fun j hj=>gD.mp hj
  rw[y0,m4,S7,ih _ _ hl];have Wn:l[n]?=some (l.getLast bN):=by
   rw[List.getLast_eq_getElem,dX (by omega)]
   congr 2
   omega
  simp only[eJ,pY,Wn,kM]
  conv=>rhs;rw[<-e,rB]
  simp only[iV,iW,hl];omega
theorem Ie(cnt:List Int)(ts:Nat)(h:0<ts):HV cnt ts=wsum (fun i=>(i:Int)/ts) cnt 0:=by
 have e:cnt=cnt.take ts++cnt.drop ts:=(List.take_append_drop ..).symm;unfold HV;have h1:=Id (fun i=>(i:Int)/ts) ts (cnt.length-ts) (cnt.drop ts) 0 (by simp);simp only[Dy]at h1;rw[h1];have Wo:wsum (fun i=>(i:Int)/ts) (cnt.take ts) 0=0:=by
  refine yz _ _ _ fun j ø hj=>?_
  have:(j:Int)<ts:=by
   rw[nB]at hj;omega
  exact Int.ediv_eq_zero_of_lt (by omega) this
 conv=>rhs;rw[e,rB,Wo]
 by_cases q:ts<=cnt.length
 ·have:(cnt.take ts).length=ts:=by rw[nB];exact y4 q
  rw[this,gq]
 ·have:cnt.drop ts=[]:=uY (by omega)
  rw[this];simp[iV,iW]
noncomputable def cj(rs:List Nat)(ts:Nat):Int:=uw (rs.dropLast.map fun(r:Nat)=>(r:Int)-(r:Int) % ts+ts)+((rs.getLast?).getD 0:Nat)
theorem xc(ts:Int):∀l:List Nat,uw (l.map fun(r:Nat)=>(r:Int)-(r:Int) % ts+ts)=ts*(uw (l.map fun(r:Nat)=>(r:Int)/ts)+l.length)
 |[]=>by simp[oM,mr]
 |x::l=>by
  simp only[bn,oM,mr,xc ts l,bA];have:(x:Int)-(x:Int) % ts=ts*((x:Int)/ts):=by
   have:=Int.mul_ediv_add_emod (x:Int) ts;omega
  rw[this];simp only[Int.natCast_add,Int.mul_add];omega
theorem oN(rs:List Nat)(ts:Nat)(h:0<ts):iT (rs.dropLast.foldl bump []) (rs.length-1) ((rs.getLast?).getD 0) ts=cj rs ts:=by
 unfold iT cj;rw[Ie _ _ h,xb,xc,nF];simp only[iV,iW,Int.zero_add];omega
noncomputable abbrev fO(rs:List Nat):List Nat:=nR [9] (rs.map fun r=>List.replicate r 32)
theorem CN(l:List Nat)(cnt:List Int)(b n nt:Nat):∀r:Nat,bg mn (List.replicate r 32++l) (cnt,b,n,nt)=bg mn l (cnt,b+r,n+r,nt):=by
 intro r
 induction r generalizing b n with
 |zero=>rfl
 |succ r ih=>
  rw[yG,List.cons_append];simp only[cQ,bZ,mn,eI];rw[ih];have e1:b+1+r=b+(r+1):=by omega
  have e2:n+1+r=n+(r+1):=by omega
  rw[e1,e2]
theorem S8(cnt:List Int)(b n nt:Nat){c:Nat}{l:List Nat}(h1:c≠32)(h2:c≠9):bg mn (c::l) (cnt,b,n,nt)= .inr (cnt,b,n,nt):=by simp[cQ,bZ,mn,h1,h2]
theorem Gy{c:Nat}{l:List Nat}(h1:c≠32)(h2:c≠9):∀(rs:List Nat),rs≠[]->∀(cnt:List Int) (n nt:Nat),∃n',bg mn (fO rs++c::l) (cnt,0,n,nt)= .inr (rs.dropLast.foldl bump cnt,(rs.getLast?).getD 0,n',nt+(rs.length-1))
 |[],h,_,_,_=>absurd rfl h
 |[r],_,cnt,n,nt=>by
  refine⟨n+r,?_⟩;simp only[fO,bn,nq,jk,jl,jm];rw[CN,S8 _ _ _ _ h1 h2];simp
 |r::r'::rs,_,cnt,n,nt=>by
  obtain⟨n',ih⟩:=Gy h1 h2 (r'::rs) (by simp) (bump cnt r) (n+r+1) (nt+1);refine⟨n',?_⟩;have e:fO (r::r'::rs)++c::l=List.replicate r 32++(9::(fO (r'::rs)++c::l)):=by simp[fO,jk,jl,jm]
  rw[e,CN];simp only[cQ,bZ,mn];rw[az (by decide)];simp only[eI,gq];rw[ih];simp;omega
theorem Ig{c:Nat}{l:List Nat}(h1:c≠32)(h2:c≠9){rs:List Nat}(h:rs≠[]):∃n',qv (fO rs++c::l)=(rs.dropLast.foldl bump [],(rs.getLast?).getD 0,n',rs.length-1):=by
 obtain⟨n',e⟩:=Gy h1 h2 (c:=c) (l:=l) rs h [] 0 0;refine⟨n',?_⟩;unfold qv;rw[e];simp
theorem Mh(cnt:List Int)(b:Nat):(bump cnt b).length=max cnt.length (b+1):=by
 unfold bump grow;rw[List.length_set];split
 ·simp;omega
 ·omega
set_option tactic.hygienic true in
theorem ON(cnt:List Int)(b j:Nat):((bump cnt b)[j]?).getD 0=(cnt[j]?).getD 0+if j=b then 1 else 0:=by
 have hg:∀j:Nat,((grow cnt b)[j]?).getD 0=(cnt[j]?).getD 0:=by
  intro j;unfold grow;split
  ·rw[List.getElem?_append]
   split
   ·rfl
   ·rename_i h1 h2
    rw[List.getElem?_replicate];have:cnt[j]?=none:=iI (by omega);rw[this];split<;>rfl
  ·rfl
 unfold bump;rw[List.getElem?_set,hg];by_cases q:b=j
 ·subst q
  rw[aw rfl,aw (w9 cnt b).1,aw rfl];rfl
 ·rw[az q,az (fun z=>q z.symm),hg]
  omega
noncomputable def Mi:List Nat->Nat
 |[]=>0
 |r::l=>max (r+1) (Mi l)
theorem E3:Mi []=0:=rfl
theorem Ay(r:Nat)(l:List Nat):Mi (r::l)=max (r+1) (Mi l):=rfl
theorem i4:∀(l:List Nat) (cnt:List Int),(l.foldl bump cnt).length=max cnt.length (Mi l)
 |[],cnt=>by simp[E3,Ay]
 |x::l,cnt=>by
  rw[eJ,i4 l,Mh];exact Nat.max_assoc ..
theorem lu:∀(l:List Nat) (cnt:List Int) (j:Nat),((l.foldl bump cnt)[j]?).getD 0=(cnt[j]?).getD 0+(l.count j:Int)
 |[],cnt,j=>by simp
 |x::l,cnt,j=>by
  rw[eJ,lu l,ON,List.count_cons];by_cases q:j=x
  ·subst q;simp;omega
  ·have:(x==j)=false:=by simpa using fun z=>q z.symm
   simp[q,this]
theorem CO{l l':List Nat}(h:l.Perm l'):Mi l=Mi l':=by
 induction h with
 |nil=>rfl
 |cons x _ ih=>simp[E3,Ay,ih]
 |swap x y l=>exact Nat.max_left_comm ..
 |trans _ _ h1 h2=>exact h1.trans h2
theorem E4{l l':List Nat}:l.foldl bump []=l'.foldl bump []<->l.Perm l':=by
 constructor
 ·intro h
  rw[List.perm_iff_count];intro j;have h1:=lu l [] j;have h2:=lu l' [] j;rw[h]at h1;rw[h1]at h2;simp at h2;omega
 ·intro h
  refine vd fun j=>?_
  have hl:(l.foldl bump []).length=(l'.foldl bump []).length:=by rw[i4,i4,CO h]
  have h1:=lu l [] j;have h2:=lu l' [] j;rw[h.count_eq]at h1;by_cases q:j<(l.foldl bump []).length
  ·rw[dX q]at h1 ⊢
   rw[dX (hl▸q)]at h2 ⊢;simp only[kM]at h1 h2;rw[h1,h2]
  ·rw[iI (by omega),iI (by omega)]
theorem Ii(l:List Nat):∀z∈l.foldl bump [],0<=z/\z<=l.length:=by
 intro z hz;obtain⟨j,hj⟩:=DB.mp hz;have h:=lu l [] j;rw[hj]at h;simp at h;have:=List.count_le_length (a:=j) (l:=l);omega
theorem S9{l:List Nat}{m:Nat}(h:∀r∈l,r<m):Mi l<=m:=by
 induction l with
 |nil=>exact dU _
 |cons x l ih=>
  have h1:=h x dJ;have h2:=ih fun r hr=>h r (cw _ hr)
  simp only[E3,Ay];omega
theorem kB(a b c:Int):max (max a b) c=max a (max b c):=Int.max_assoc a b c
theorem j9(a b c:Int):max a (max b c)=max b (max a c):=by rw[<-kB,Int.max_comm a b,kB]
theorem Ij(x:Int)(l:List Int):∀n:Nat,n<l.length->vz (fun j=>((x::l)[j]?).getD 0) (n+1)=max x (vz (fun j=>(l[j]?).getD 0) n):=by
 intro n
 induction n with
 |zero=>
  intro h;simp only[FJ,zk];simp
 |succ n ih=>
  intro h;have:=ih (by omega)
  conv=>lhs;unfold vz
  conv=>rhs;unfold vz
  rw[this];exact kB ..
theorem Ik:∀(x:Int) (l:List Int),Ed [.list ((x::l).map .int)]=some (.int (l.foldr max x)):=by
 intro x l;have hi:∀l:List Int,jZ (l.map .int)=some l:=fun l=>by
  induction l with
  |nil=>rfl
  |cons x l ih=>simp[Jp,Bm,ih]
 have go:∀(l:List Int) (x:Int),vz (fun j=>((x::l)[j]?).getD 0) l.length=l.foldr max x:=by
  intro l
  induction l with
  |nil=>intro x;simp[FJ,zk]
  |cons y l ih=>
   intro x;have e:=Ij x (y::l) l.length (by simp);rw[bA,e,ih y];have swap:∀l:List Int,max x (l.foldr max y)=max y (l.foldr max x):=by
    intro l
    induction l with
    |nil=>exact Int.max_comm ..
    |cons z l ih=>exact(j9 ..).trans ((congrArg (max z) ih).trans (j9 ..))
   rw[nG,swap]
 rw[QZ,Jq,az (by simp),hi,m3];simp only[bA,Nat.add_sub_cancel];rw[go]
noncomputable abbrev du:=List (Int×Bool)
noncomputable def tn(K:Int):du->Nat->Nat->Option Nat
 |[],_,_=>none
 |e::r,i,d=>if e.1=K then(if e.2 then tn K r (i+1) (d+1)else if d=0 then some i else tn K r (i+1) (d-1))else tn K r (i+1) d
theorem qx(K:Int)(i d:Nat):tn K [] i d=none:=rfl
theorem iG(K:Int)(e:Int×Bool)(r:du)(i d:Nat):tn K (e::r) i d=if e.1=K then(if e.2 then tn K r (i+1) (d+1)else if d=0 then some i else tn K r (i+1) (d-1))else tn K r (i+1) d:=rfl
noncomputable def rC(s:Nat):Option Nat->Nat
 |some p=>p-s
 |none=>0
noncomputable def ga(r:du)(s:Nat):Nat:=match r[s]? with
 |some e=>rC s (tn e.1 (r.drop (s+1)) (s+1) 0)
 |none=>0
noncomputable def tq(w:List Bool):List Nat:=(List.range w.length).filter fun k=>(w[k]?).getD false
noncomputable def hU(r:du):List Nat:=((tq (r.map (·.2))).reverse).map (ga r)
noncomputable def jG(K:Int):List (Nat×Int)->Option (Nat×List (Nat×Int))
 |[]=>none
 |e::op=>if e.2=K then some (e.1,op)else(jG K op).map fun q=>(q.1,e::q.2)
theorem dO(K:Int):jG K []=none:=rfl
theorem cU(K:Int)(e:Nat×Int)(op:List (Nat×Int)):jG K (e::op)=if e.2=K then some (e.1,op)else(jG K op).map fun q=>(q.1,e::q.2):=rfl
noncomputable def mt:du->Nat->List (Nat×Int)->List (Nat×Nat)
 |[],_,_=>[]
 |e::r,i,op=>if e.2 then mt r (i+1) ((i,e.1)::op)else match jG e.1 op with
  |none=>mt r (i+1) op
  |some q=>(q.1,i-q.1)::mt r (i+1) q.2
theorem ua(i:Nat)(op:List (Nat×Int)):mt [] i op=[]:=rfl
theorem ub(e:Int×Bool)(r:du)(i:Nat)(op:List (Nat×Int)):mt (e::r) i op=if e.2 then mt r (i+1) ((i,e.1)::op)else match jG e.1 op with
 |none=>mt r (i+1) op
 |some q=>(q.1,i-q.1)::mt r (i+1) q.2:=rfl
noncomputable def lk:List (Nat×Nat)->Nat->Nat
 |[],_=>0
 |e::l,s=>if e.1=s then e.2 else lk l s
theorem Gz(s:Nat):lk [] s=0:=rfl
theorem GA(e:Nat×Nat)(l:List (Nat×Nat))(s:Nat):lk (e::l) s=if e.1=s then e.2 else lk l s:=rfl
inductive GB(s:Nat)(K:Int):List (Nat×Int)->Nat->Prop
 |top {xs}:(∀e∈xs,e.1≠s)->GB s K ((s,K)::xs) 0
 |same {t xs d}:t≠s->GB s K xs d->GB s K ((t,K)::xs) (d+1)
 |other {t k xs d}:t≠s->k≠K->GB s K xs d->GB s K ((t,k)::xs) d
theorem GB.Wp{s:Nat}{K:Int}{op:List (Nat×Int)}{d:Nat}(h:GB s K op d):d=0->∃AM,jG K op=some (s,AM):=by
 induction h with
 | @top xs _=>intro _;exact⟨xs,by simp[dO,cU]⟩
 |same _ _ _=>intro z;omega
 |other _ hk _ ih=>
  intro z;obtain⟨AM,e⟩:=ih z;exact⟨_::AM,by simp only[dO,cU];rw[az hk,e];rfl⟩
theorem GB.Wq{s:Nat}{K:Int}{op:List (Nat×Int)}{d:Nat}(h:GB s K op (d+1)):∃t AM,jG K op=some (t,AM)/\t≠s/\GB s K AM d:=by
 generalize hd:d+1=d' at h
 induction h generalizing d with
 |top _=>omega
 |same ht hi _=>
  obtain rfl:d=_:=rP hd;exact⟨_,_,by simp[dO,cU],ht,hi⟩
 |other ht hk hi ih=>
  obtain⟨t,AM,e,h1,h2⟩:=ih hd;exact⟨t,_::AM,by simp only[dO,cU];rw[az hk,e];rfl,h1,.other ht hk h2⟩
theorem tr{K:Int}:∀{op:List (Nat×Int)} {q},jG K op=some q->(∃e∈op,e.1=q.1)/\∀e∈q.2,e∈op
 |[],q,h=>by simp[dO,cU]at h
 |e::op,q,h=>by
  rw[cU]at h;split at h
  ·cases h
   exact⟨⟨e,by simp,rfl⟩,fun x hx=>cw _ hx⟩
  ·refine bV h ?_;rintro q' h' rfl
   obtain⟨⟨x,hx,hxe⟩,h2⟩:=tr h';refine⟨⟨x,cw _ hx,hxe⟩,fun y hy=>?_⟩;rcases bp.mp hy with rfl|hy
   ·exact dJ
   ·exact cw _ (h2 y hy)
theorem GB.Wr{s:Nat}{K k:Int}(hk:k≠K){op:List (Nat×Int)}{d:Nat}(h:GB s K op d):jG k op=none\/∃t AM,jG k op=some (t,AM)/\t≠s/\GB s K AM d:=by
 induction h with
 | @top xs hx=>
   have Ws:¬K=k:=fun z=>hk z.symm
   cases e:jG k xs with
   |none=>left;simp[dO,cU,e,Ws]
   |some q=>
    right;obtain⟨⟨x,IS,Vt⟩,h2⟩:=tr e;exact⟨q.1,(s,K)::q.2,by simp[dO,cU,e,Ws],by rw[<-Vt];exact hx x IS,.top fun y hy=>hx y (h2 y hy)⟩
 |same ht hi ih=>
  have Ws:¬K=k:=fun z=>hk z.symm
  rcases ih with e|⟨t,AM,e,h1,h2⟩
  ·left;simp[dO,cU,e,Ws]
  ·right;exact⟨t,_::AM,by simp only[dO,cU];rw[az Ws,e];rfl,h1,.same ht h2⟩
 | @other t k' xs d ht ze hi ih=>
   by_cases q:k'=k
   ·right
    exact⟨t,xs,by simp[dO,cU,q],ht,hi⟩
   ·rcases ih with e|⟨t',AM,e,h1,h2⟩
    ·left;simp[dO,cU,e,q]
    ·right;exact⟨t',_::AM,by simp only[dO,cU];rw[az q,e];rfl,h1,.other ht ze h2⟩
theorem tt{s:Nat}{K:Int}:∀(r:du) (i:Nat) (op:List (Nat×Int)) (d:Nat),s<i->GB s K op d->lk (mt r i op) s=rC s (tn K r i d)
 |[],i,op,d,hi,h=>rfl
 |(k,true)::r,i,op,d,hi,h=>by
  simp only[ua,ub,qx,iG,eI];by_cases q:k=K
  ·subst q
   rw[aw rfl];exact tt r _ _ _ (by omega) (.same (by omega) h)
  ·rw[az q]
   exact tt r _ _ _ (by omega) (.other (by omega) q h)
 |(k,false)::r,i,op,d,hi,h=>by
  simp only[ua,ub,qx,iG,gz,eW];by_cases q:k=K
  ·subst q
   rw[aw rfl]
   cases d with
   |zero=>
    obtain⟨AM,e⟩:=h.Wp rfl;simp[e,Gz,GA,rC]
   |succ d=>
    obtain⟨t,AM,e,h1,h2⟩:=h.Wq;simp only[e,Gz,GA];rw[az h1,tt r _ _ _ (by omega) h2];simp
  ·rw[az q]
   rcases h.Wr q with e|⟨t,AM,e,h1,h2⟩
   ·simp only[e]
    exact tt r _ _ _ (by omega) h
   ·simp only[e,Gz,GA]
    rw[az h1,tt r _ _ _ (by omega) h2]
theorem GC:∀(a:du) (K:Int) (b:du) (i:Nat) (op:List (Nat×Int)),(∀e∈op,e.1<i)->lk (mt (a++(K,true)::b) i op) (i+a.length)=rC (i+a.length) (tn K b (i+a.length+1) 0)
 |[],K,b,i,op,h=>by
  simp only[kK,ua,ub,eI,eZ,mY];exact tt b _ _ _ (by omega) (.top fun e he=>by have:=h e he;omega)
 |(k,true)::a,K,b,i,op,h=>by
  have:=GC a K b (i+1) ((i,k)::op) (fun e he=>by
   rcases bp.mp he with rfl|he
   ·simp
   ·have:=h e he;omega)
  simp only[List.cons_append,ua,ub,eI,bA];have e:i+1+a.length=i+(a.length+1):=by omega
  rw[e]at this;exact this
 |(k,false)::a,K,b,i,op,h=>by
  have e:i+1+a.length=i+(a.length+1):=by omega
  simp only[List.cons_append,ua,ub,gz,eW,bA]
  cases q:jG k op with
  |none=>
   have:=GC a K b (i+1) op (fun e he=>by have:=h e he;omega);rw[e]at this;exact this
  |some p=>
   obtain⟨⟨x,IS,Vt⟩,h2⟩:=tr q;have hx:=h x IS;have:=GC a K b (i+1) p.2 (fun e he=>by have:=h e (h2 e he);omega);rw[e]at this;simp only[Gz,GA];rw[az (by omega)];exact this
theorem Mj{r:du}{s:Nat}{K:Int}(h:r[s]?=some (K,true)):ga r s=lk (mt r 0 []) s:=by
 have hs:s<r.length:=(eX.mp h).1;have e:r=r.take s++(K,true)::r.drop (s+1):=by
  conv=>lhs;rw[<-List.take_append_drop s r]
  congr 1
  rw[pf hs];have:=(eX.mp h).2;rw[this]
 have:=GC (r.take s) K (r.drop (s+1)) 0 [] (fun e he=>(nomatch he));rw[<-e]at this;have hl:(r.take s).length=s:=by rw[nB];omega
 rw[hl,gq]at this;rw[this];unfold ga;rw[h]
noncomputable def picks:List Nat->List (Nat×List Nat×Bool)
 |[]=>[]
 |s::op=>(s,op,true)::(picks op).map fun q=>(q.1,s::q.2.1,false)
theorem CP:picks []=[]:=rfl
theorem CQ(s:Nat)(op:List Nat):picks (s::op)=(s,op,true)::(picks op).map fun q=>(q.1,s::q.2.1,false):=rfl
noncomputable def tree:List Bool->Nat->List Nat->List (List (Nat×Nat)×Bool)
 |[],_,_=>[([],true)]
 |o::w,i,op=>if o then tree w (i+1) (i::op)else((tree w (i+1) op).map fun e=>(e.1,false))++(picks op).flatMap fun q=>(tree w (i+1) q.2.1).map fun e=>((q.1,i-q.1)::e.1,q.2.2&&e.2)
theorem Az(i:Nat)(op:List Nat):tree [] i op=[([],true)]:=rfl
theorem AA(o:Bool)(w:List Bool)(i:Nat)(op:List Nat):tree (o::w) i op=if o then tree w (i+1) (i::op)else((tree w (i+1) op).map fun e=>(e.1,false))++(picks op).flatMap fun q=>(tree w (i+1) q.2.1).map fun e=>((q.1,i-q.1)::e.1,q.2.2&&e.2):=rfl
noncomputable def OO:du->List Int->Bool
 |[],_=>true
 |e::r,p=>if e.2 then OO r (e.1::p)else match p with
  |[]=>false
  |k::p'=>if k=e.1 then OO r p' else false
theorem qy(p:List Int):OO [] p=true:=rfl
theorem qz(e:Int×Bool)(r:du)(p:List Int):OO (e::r) p=if e.2 then OO r (e.1::p)else match p with
 |[]=>false
 |k::p'=>if k=e.1 then OO r p' else false:=rfl
set_option tactic.hygienic true in
theorem xd{K:Int}:∀{op:List (Nat×Int)} {q},jG K op=some q->∃top,(q.1,q.2.map (·.1),top)∈picks (op.map (·.1))/\(match op.map (·.2)with|[]=>top=false|k::p=>if k=K then top=true/\q.2.map (·.2)=p else top=false)
 |[],q,h=>by simp[dO,cU]at h
 |e::op,q,h=>by
  rw[cU]at h;split at h
  ·rename_i hk
   cases h;refine⟨true,by simp[CP,CQ],?_⟩;simp[hk]
  ·rename_i hk
   refine bV h ?_;rintro q' h' rfl;obtain⟨top,h1,h2⟩:=xd h';refine⟨false,?_,?_⟩
   ·simp only[bn,CP,CQ]
    refine cw _ (bP.mpr ⟨_,h1,?_⟩);simp
   ·simp[hk]
set_option tactic.hygienic true in
theorem uL:∀(r:du) (i:Nat) (op:List (Nat×Int)),(mt r i op,OO r (op.map (·.2)))∈tree (r.map (·.2)) i (op.map (·.1))
 |[],i,op=>by simp[ua,ub,qy,qz,Az,AA]
 |(k,true)::r,i,op=>by
  have:=uL r (i+1) ((i,k)::op);simpa[ua,ub,qy,qz,Az,AA]using this
 |(k,false)::r,i,op=>by
  simp only[ua,ub,qy,qz,bn,Az,AA,gz,eW]
  cases h:jG k op with
  |none=>
   refine bj _ (bP.mpr ⟨_,uL r (i+1) op,?_⟩);dsimp only
   congr 1
   cases op with
   |nil=>rfl
   |cons e op=>
    have:e.2≠k:=fun z=>by simp[dO,cU,z]at h
    simp[this]
  |some q=>
   obtain⟨top,h1,h2⟩:=xd h;refine bw _ (List.mem_flatMap.mpr ⟨_,h1,bP.mpr ⟨_,uL r (i+1) q.2,?_⟩⟩);dsimp only
   congr 1
   cases hp:op.map (·.2)with
   |nil=>
    rw[hp]at h2;simp[h2]
   |cons k' p=>
    rw[hp]at h2;dsimp only at h2 ⊢;split at h2
    ·rename_i hk
     rw[aw hk,h2.1,h2.2];rfl
    ·rename_i hk
     rw[az hk,h2];rfl
theorem AB:∀(r:du) (p:List Int),OO r p=match bg ou r p.reverse with| .inl _=>true| .inr _=>false
 |[],p=>rfl
 |(k,true)::r,p=>by
  have:=AB r (k::p);simpa[qy,qz,cQ,bZ,ou]using this
 |(k,false)::r,p=>by
  cases p with
  |nil=>simp[qy,qz,cQ,bZ,ou]
  |cons k' p=>
   have:=AB r p;by_cases q:k'=k
   ·simp[qy,qz,cQ,bZ,ou,q,this]
   ·simp[qy,qz,cQ,bZ,ou,q]
theorem Il(r:du):eB r=OO r []:=by
 rw[AB];rfl
noncomputable def E5:Nat->List (List Bool)
 |0=>[[]]
 |n+1=>(E5 n).flatMap fun w=>[true::w,false::w]
theorem GD:E5 0=[[]]:=rfl
theorem GE(n:Nat):E5 (n+1)=(E5 n).flatMap fun w=>[true::w,false::w]:=rfl
theorem CR:∀w:List Bool,w∈E5 w.length
 |[]=>by simp[GD,GE]
 |o::w=>by
  simp only[bA,GD,GE];refine List.mem_flatMap.mpr ⟨w,CR w,?_⟩;cases o<;>simp
noncomputable def yA(w:List Bool)(a:List (Nat×Nat)):List Nat:=((tq w).reverse).map (lk a)
noncomputable def E6(w:List Bool):Bool:=match bg bv w 0 with
 | .inl 0=>true
 |_=>false
noncomputable def Ta(w:List Bool):Bool:=!E6 w||(decide ((tq w).length*2=w.length)&&(tree w 0 []).all fun e=>e.2==((yA w (mt (w.map fun o=>(0,o)) 0 [])).dropLast.isPerm (yA w e.1).dropLast&&(yA w (mt (w.map fun o=>(0,o)) 0 [])).getLast?==(yA w e.1).getLast?))
theorem OP:((E5 6++E5 8).all Ta)=true:=by decide+kernel
noncomputable abbrev dY(r:du):du:=r.map fun e=>(0,e.2)
theorem AC{r:du}{s:Nat}(h:s∈tq (r.map (·.2))):∃K,r[s]?=some (K,true):=by
 unfold tq at h;obtain⟨h1,h2⟩:=kI.mp h;rw[gD,bi]at h1;rw[bL,dX h1]at h2;refine⟨r[s].1,?_⟩;rw[dX h1];simp at h2;rw[<-h2]
theorem CS(r:du):hU r=yA (r.map (·.2)) (mt r 0 []):=by
 unfold hU yA;refine pi fun s hs=>?_
 obtain⟨K,h⟩:=AC (pN.mp hs);exact Mj h
structure CU(r:du):Prop where
 len:r.length=6\/r.length=8
 dyck:bg bv (r.map (·.2)) 0= .inl 0
theorem CU.chk{r:du}(h:CU r):Ta (r.map (·.2))=true:=by
 refine cD.mp OP _ ?_;have:=CR (r.map (·.2));rw[bi]at this;rcases h.len with e|e<;>rw[e]at this
 ·exact bj _ this
 ·exact bw _ this
theorem CU.spec{r:du}(h:CU r):(tq (r.map (·.2))).length*2=r.length/\eB r=((hU (dY r)).dropLast.isPerm (hU r).dropLast&&(hU (dY r)).getLast?==(hU r).getLast?):=by
 have hc:=h.chk;have hd:E6 (r.map (·.2))=true:=by unfold E6;rw[h.dyck];rfl
 unfold Ta at hc;rw[hd]at hc;simp only[Bool.not_true,Bool.false_or,dI,iH,bi]at hc;refine⟨hc.1,?_⟩;have:=cD.mp hc.2 _ (uL r 0 []);simp only[jT]at this;rw[Il,CS,CS];have e:(dY r).map (·.2)=r.map (·.2):=by simp[dY,y9]
 have e2:(r.map (·.2)).map (fun o=>((0:Int),o))=dY r:=by simp[dY,y9]
 rw[e];rw[e2]at this;exact this
theorem AD(K:Int):∀(r:du) (i d p:Nat),tn K r i d=some p->i<=p/\p<i+r.length
 |[],i,d,p,h=>by simp[qx,iG]at h
 |e::r,i,d,p,h=>by
  have ih:=AD K r;rw[iG]at h;simp only[bA];split at h
  ·split at h
   ·have:=ih _ _ _ h;omega
   ·split at h
    ·simp at h;omega
    ·have:=ih _ _ _ h;omega
  ·have:=ih _ _ _ h;omega
set_option tactic.hygienic true in
theorem xe(r:du)(s:Nat):ga r s<=r.length:=by
 unfold ga;split
 ·rename_i e he
  have hs:s<r.length:=(eX.mp he).1
  cases q:tn e.1 (r.drop (s+1)) (s+1) 0 with
  |none=>simp[rC]
  |some p=>
   have:=AD _ _ _ _ _ q;rw[mZ]at this;exact aA (rZ _ _) (eY (Nat.lt_of_lt_of_eq this.2 (ve hs)))
 ·exact dU _
theorem GG{r:du}{x:Nat}(h:x∈hU r):x<=r.length:=by
 unfold hU at h;obtain⟨s,_,rfl⟩:=bP.mp h;exact xe r s
section
theorem oz(ks:List Int)(vs:List V)(q:Int)(x:V)(h:ks.length=vs.length):(cI ks q).length=(eP ks vs q x).length:=by
 unfold cI eP;split
 ·simp[h]
 ·simp[h]
theorem CV(q q':Int)(x:V):∀(ks:List Int) (vs:List V),ks.length=vs.length->bR ks (List.zipWith (fun k v=>if k=q then x else v) ks vs) q'=if q'=q then(if q∈ks then some x else none)else bR ks vs q'
 |[],[],_=>by simp[gG,iN,iO]
 |k::ks,v::vs,h=>by
  have ih:=CV q q' x ks vs (by simpa using h);simp only[yP,gG,iN,iO,ih];by_cases e:k=q'
  ·subst e
   by_cases e2:k=q
   ·subst e2;simp
   ·simp[e2]
  ·by_cases e2:q'=q
   ·subst e2
    have:¬q'=k:=fun z=>e z.symm
    simp[e,this]
   ·simp[e,e2]
theorem CW(q q':Int)(x:V):∀(ks:List Int) (vs:List V),ks.length=vs.length->q∉ks->bR (ks++[q]) (vs++[x]) q'=if q'=q then some x else bR ks vs q'
 |[],[],_,_=>by
  simp only[kK,gG,iN,iO];by_cases e:q=q'
  ·subst e;simp
  ·have:¬q'=q:=fun z=>e z.symm
   simp[e,this]
 |k::ks,v::vs,h,hn=>by
  have ih:=CW q q' x ks vs (by simpa using h) (fun z=>hn (cw _ z));simp only[List.cons_append,gG,iN,iO,ih];by_cases e:k=q'
  ·subst e
   have:¬k=q:=fun z=>hn (by rw[z];exact dJ)
   simp[this]
  ·simp[e]
set_option tactic.hygienic true in
theorem jH(ks:List Int)(vs:List V)(q q':Int)(x:V)(h:ks.length=vs.length):bR (cI ks q) (eP ks vs q x) q'=if q'=q then some x else bR ks vs q':=by
 unfold cI eP;split
 ·rename_i hc
  have:q∈ks:=by simpa using hc
  rw[CV q q' x ks vs h];simp[this]
 ·rename_i hc
  have:q∉ks:=by simpa using hc
  exact CW q q' x ks vs h this
noncomputable def pB(r:du)(i:Nat):List Nat:=(List.range i).filter fun k=>((r[k]?).map (·.2)).getD false
theorem Mk{r:du}{i s:Nat}(h:s∈pB r i):s<i:=gD.mp (kI.mp h).1
theorem Wt{r:du}{i:Nat}{k:Int}(h:r[i]?=some (k,true)):pB r (i+1)=pB r i++[i]:=by
 unfold pB;rw[y0,DP];exact congrArg (_++ ·) (List.filter_cons_of_pos (by rw[h];rfl))
theorem Qc{r:du}{i:Nat}{k:Int}(h:r[i]?=some (k,false)):pB r (i+1)=pB r i:=by
 unfold pB;rw[y0,DP];exact(congrArg (_++ ·) (List.filter_cons_of_neg (by rw[h];exact mX))).trans (gn _)
theorem Wu{K k:Int}{o:Bool}{r:du}{i d:Nat}(h:k≠K):tn K ((k,o)::r) i d=tn K r (i+1) d:=by rw[iG,az h]
theorem Wv{K:Int}{r:du}{i d:Nat}:tn K ((K,true)::r) i d=tn K r (i+1) (d+1):=by rw[iG,aw rfl,aw rfl]
theorem ab9{K:Int}{r:du}{i:Nat}:tn K ((K,false)::r) i 0=some i:=by rw[iG,aw rfl,az mX,aw rfl]
theorem ac0{K:Int}{r:du}{i d:Nat}:tn K ((K,false)::r) i (d+1)=tn K r (i+1) d:=by rw[iG,aw rfl,az mX,az (Nat.succ_ne_zero d)];rfl
theorem xg{zs xs ys:List Int}{a b:Int}(h:zs++[b]=xs++a::ys):(ys=[]/\b=a)\/∃Tb,ys=Tb++[b]/\zs=xs++a::Tb:=by
 rcases List.eq_nil_or_concat ys with e|⟨Tb,y,e⟩
 ·rw[e]at h
  exact .inl ⟨e,(vg (List.append_inj' h rfl).2).1⟩
 ·rw[List.concat_eq_append]at e
  rw[e,<-List.cons_append,<-List.append_assoc]at h;obtain⟨h1,h2⟩:=List.append_inj' h rfl;exact .inr ⟨Tb,(vg h2).1▸e,h1⟩
inductive AN(r:du)(i:Nat)(pl ks:List Int)(vs:List V)(s:Nat)(K:Int):Prop
 |opn (xs ys:List Int) (h1:pl=xs++(s:Int)::ys) (h2:bR ks vs s=some (.int 0)) (h3:tn K (r.drop (s+1)) (s+1) 0=tn K (r.drop i) i ys.length):AN r i pl ks vs s K
 |dn (h1:(s:Int)∉pl) (p:Nat) (h2:s<=p) (h3:tn K (r.drop (s+1)) (s+1) 0=some p) (h4:bR ks vs s=some (.int ((p:Int)-s))):AN r i pl ks vs s K
section
variable{r:du}{i s:Nat}{pl zs ks jO:List Int}{vs gS:List V}{K k j:Int}{o:Bool}
theorem AN.ne(h:AN r i pl ks vs s K)(hd:r.drop i=(k,o)::r.drop (i+1))(q:k≠K)(e:bR jO gS s=bR ks vs s):AN r (i+1) pl jO gS s K:=by
 rcases h with⟨xs,ys,h1,h2,h3⟩|⟨h1,p,h2,h3,h4⟩
 ·exact .opn xs ys h1 (e.trans h2) (h3.trans (by rw[hd,Wu q]))
 ·exact .dn h1 p h2 h3 (e.trans h4)
theorem AN.nil(h:AN r i [] ks vs s K):AN r (i+1) [] ks vs s K:=by
 rcases h with⟨xs,ys,h1,h2,h3⟩|⟨h1,p,h2,h3,h4⟩
 ·exact absurd (h1.symm:xs++(s:Int)::ys=[]) (List.append_ne_nil_of_right_ne_nil _ (cf _ _))
 ·exact .dn h1 p h2 h3 h4
theorem AN.push(h:AN r i pl ks vs s K)(hd:r.drop i=(K,true)::r.drop (i+1))(bN:(s:Int)≠j)(e:bR jO gS s=bR ks vs s):AN r (i+1) (pl++[j]) jO gS s K:=by
 rcases h with⟨xs,ys,h1,h2,h3⟩|⟨h1,p,h2,h3,h4⟩
 ·exact .opn xs (ys++[j]) (by rw[h1,List.append_assoc];rfl) (e.trans h2) (h3.trans (by rw[hd,Wv,List.length_append];rfl))
 ·exact .dn (fun z=>(cr.mp z).elim h1 fun z=>bN (cN.mp z)) p h2 h3 (e.trans h4)
theorem AN.ac1(h:AN r i (zs++[(s:Int)]) ks vs s K)(hz:(s:Int)∉zs)(hd:r.drop i=(K,false)::r.drop (i+1))(Ny:s<=i)(e:bR jO gS s=some (.int ((i:Int)-s))):AN r (i+1) zs jO gS s K:=by
 rcases h with⟨xs,ys,h1,h2,h3⟩|⟨h1,p,h2,h3,h4⟩
 ·rcases xg h1 with⟨ey,_⟩|⟨Tb,_,ez⟩
  ·exact .dn hz i Ny (h3.trans (by rw[ey,hd];exact ab9)) e
  ·exact absurd (ez▸bw _ (.head _)) hz
 ·exact absurd (bw _ (.head _)) h1
theorem AN.ac2(h:AN r i (zs++[j]) ks vs s K)(Ww:(s:Int)≠j)(hd:r.drop i=(K,false)::r.drop (i+1))(e:bR jO gS s=bR ks vs s):AN r (i+1) zs jO gS s K:=by
 rcases h with⟨xs,ys,h1,h2,h3⟩|⟨h1,p,h2,h3,h4⟩
 ·rcases xg h1 with⟨_,ej⟩|⟨Tb,ey,ez⟩
  ·exact absurd ej.symm Ww
  ·exact .opn xs Tb ez (e.trans h2) (h3.trans (by rw[ey,List.length_append,hd];exact ac0))
 ·exact .dn (fun z=>h1 (bj _ z)) p h2 h3 (e.trans h4)
end
structure Qd(r:du)(i:Nat)(st:Aq):Prop where
 keys:st.2.1=(pB r i).map fun(k:Nat)=>(k:Int)
 len:st.2.1.length=st.2.2.length
 kA:∀K,∀x∈st.1 K,∃s:Nat,x=s/\s<i/\r[s]?=some (K,true)
 nodup:∀K,(st.1 K).Nodup
 val:∀(s:Nat) K,s<i->r[s]?=some (K,true)->AN r i (st.1 K) st.2.1 st.2.2 s K
theorem Qd.CY{r:du}{i:Nat}{st:Aq}(h:Qd r i st)(K x)(hx:x∈st.1 K):∃s:Nat,x=s/\s<i+1/\r[s]?=some (K,true):=(h.kA K x hx).elim fun s q=>⟨s,q.1,ni q.2.1,q.2.2⟩
theorem Ml{r:du}{i:Nat}{st:Aq}{k:Int}(ih:Qd r i st)(he:r[i]?=some (k,true))(hd:r.drop i=(k,true)::r.drop (i+1)):Qd r (i+1) (iF i (k,true) st):=by
 rw[Gw rfl];refine⟨?_,oz _ _ _ _ ih.len,fun K=>?_,fun K=>?_,fun s K hs hr=>?_⟩
 ·have eG:st.2.1.contains (i:Int)=false:=by
   rw[ih.keys,List.contains_eq_mem,uV];intro hm;obtain⟨s,hs,e⟩:=bP.mp hm;exact pI _ (rV e▸Mk hs)
  unfold cI;rw[eG,Wt he,ih.keys,List.map_append];rfl
 ·dsimp only
  by_cases q:K=k
  ·rw[aw q]
   exact fun x hx=>(cr.mp hx).elim (fun hx=>q▸ih.CY k x hx) fun hx=>⟨i,cN.mp hx,mV i,q▸he⟩
  ·rw[az q]
   exact ih.CY K
 ·dsimp only
  by_cases q:K=k
  ·rw[aw q]
   refine kL.mpr ⟨ih.nodup k,by simp,fun a ha b hb z=>?_⟩;obtain⟨s,h1,h2,h3⟩:=ih.kA k a ha;exact jU h2 (rV (h1.symm.trans (z.trans (cN.mp hb))))
  ·rw[az q];exact ih.nodup K
 ·dsimp only
  by_cases TW:s=i
  ·rw[aw (jQ (Option.some.inj ((TW▸hr).symm.trans he))).1]
   exact .opn (st.1 k) [] (by rw[TW]) ((jH _ _ _ _ _ ih.len).trans (aw (by rw[TW]))) (by rw[TW];rfl)
  ·have bN:(s:Int)≠i:=fun z=>TW (rV z)
   have hv:=ih.val s K (Nat.lt_of_le_of_ne (Nat.le_of_lt_succ hs) TW) hr;have e:=fun x=>(jH st.2.1 st.2.2 (i:Int) s x ih.len).trans (az bN)
   by_cases q:K=k
   ·rw[aw q]
    rw[q]at hv ⊢;exact hv.push hd bN (e _)
   ·rw[az q]
    exact hv.ne hd (dW q) (e _)
theorem Mm{r:du}{i:Nat}{st:Aq}{k:Int}(ih:Qd r i st)(he:r[i]?=some (k,false))(hd:r.drop i=(k,false)::r.drop (i+1)):Qd r (i+1) (iF i (k,false) st):=by
 have hs':∀{s:Nat} {K:Int},s<i+1->r[s]?=some (K,true)->s<i:=fun {s K} hs hr=>Nat.lt_of_le_of_ne (Nat.le_of_lt_succ hs) fun z=>nomatch(jQ (Option.some.inj ((show r[i]?=some (K,true)from z▸hr).symm.trans he))).2
 rcases List.eq_nil_or_concat (st.1 k)with hn|⟨zs,j,hz⟩
 ·have e:iF i (k,false) st=st:=by
   show(match(st.1 k).getLast? with|none=>st|some j=>_)=_;rw[hn];rfl
  rw[e];refine⟨(Qc he).symm▸ih.keys,ih.len,ih.CY,ih.nodup,fun s K hs hr=>?_⟩;have hv:=ih.val s K (hs' hs hr) hr;by_cases q:k=K
  ·rw[<-q,hn]at hv ⊢
   exact hv.nil
  ·exact hv.ne hd q rfl
 ·rw[List.concat_eq_append]at hz
  rw[L8 hz];have hjm:j∈st.1 k:=hz▸bw _ (.head _);obtain⟨j',ej,hj2,hj3⟩:=ih.kA k j hjm;have X4:st.2.1.contains j=true:=by
   rw[ih.keys,List.contains_eq_mem,iH,ej];exact bP.mpr ⟨j',kI.mpr ⟨gD.mpr hj2,by rw[hj3];rfl⟩,rfl⟩
  have vR:=kL.mp (hz▸ih.nodup k);have HF:∀x∈zs,x∈st.1 k:=fun x hx=>hz▸bj _ hx
  refine⟨?_,oz _ _ _ _ ih.len,fun K=>?_,fun K=>?_,fun s K hs hr=>?_⟩
  ·unfold cI
   rw[X4,Qc he];exact ih.keys
  ·dsimp only
   by_cases q:K=k
   ·rw[aw q];exact fun x hx=>q▸ih.CY k x (HF x hx)
   ·rw[az q];exact ih.CY K
  ·dsimp only
   by_cases q:K=k
   ·rw[aw q];exact vR.1
   ·rw[az q];exact ih.nodup K
  ·dsimp only
   have hv:=ih.val s K (hs' hs hr) hr;have e:=fun x=>jH st.2.1 st.2.2 j s x ih.len
   by_cases q:K=k
   ·rw[aw q]
    rw[q,hz]at hv;rw[q];by_cases Ww:(s:Int)=j
    ·have hjz:j∉zs:=fun hm=>vR.2.2 _ hm _ (.head _) rfl
     rw[<-Ww]at hv hjz ⊢;exact hv.ac1 hjz hd (eY (hs' hs hr)) ((jH _ _ _ _ _ ih.len).trans (aw rfl))
    ·exact hv.ac2 Ww hd ((e _).trans (az Ww))
   ·rw[az q]
    exact hv.ne hd (dW q) ((e _).trans (az fun z=>q (jQ (Option.some.inj ((rV (z.trans ej)▸hr).symm.trans hj3))).1))
theorem Tc(r:du):∀i:Nat,i<=r.length->Qd r i (cg r i):=by
 intro i
 induction i with
 |zero=>exact fun ø=>⟨rfl,rfl,fun K x hx=>(nomatch hx),fun K=>qK,fun s K hs=>absurd hs (Nat.not_lt_zero _)⟩
 |succ i ih=>
  intro hi;have he:=dX hi;have hd:=pf hi;rw[w2,he];show Qd r (i+1) (iF i r[i] (cg r i));generalize r[i]=e at he hd;obtain⟨k,o⟩:=e
  induction o with
  |false=>exact Mm (ih (eY hi)) he hd
  |true=>exact Ml (ih (eY hi)) he hd
theorem GH(r:du):qw r=(hU r).map fun(x:Nat)=>V.int x:=by
 have I:=Tc r r.length (cF _);have ho:pB r r.length=tq (r.map (·.2)):=by
  unfold pB tq;rw[bi];refine List.filter_congr fun k ø=>?_
  rw[bL]
 have ac3:j2 (cg r r.length).2.1=((tq (r.map (·.2))).reverse).map fun(k:Nat)=>(k:Int):=by
  refine(vG ?_ ?_).symm
  ·rw[I.keys,ho]
   exact(rQ _).map _
  ·show List.Pairwise (· >= ·) _
   rw[List.pairwise_map,List.pairwise_reverse];have:(tq (r.map (·.2))).Pairwise (· < ·):=by
    unfold tq;exact(List.pairwise_lt_range).filter _
   exact this.imp fun h=>by omega
 unfold qw hU;rw[ac3,dK,dK];refine pi fun s hs=>?_
 obtain⟨K,h⟩:=AC (pN.mp hs);have hs:s<r.length:=(eX.mp h).1;simp only[y9];unfold ga;rw[h];dsimp only;rcases I.val s K hs h with⟨xs,ys,h1,h2,h3⟩|⟨h1,p,h2,h3,h4⟩
 ·rw[h2,h3,u9]
  simp[qx,iG,rC]
 ·rw[h4,h3]
  simp only[rC,kM]
  congr 1
  omega
end
noncomputable def Im:List RItem->Nat->Option Nat
 |[],_=>none
 |e::l,d=>if e.2.2 then Im l (d+1)else if d=0 then some e.1 else Im l (d-1)
theorem E7(d:Nat):Im [] d=none:=rfl
theorem E8(e:RItem)(l:List RItem)(d:Nat):Im (e::l) d=if e.2.2 then Im l (d+1)else if d=0 then some e.1 else Im l (d-1):=rfl
theorem AE:∀(rest pre:List RItem) (d:Nat),bg bv (pre.map (·.2.2)) 0= .inl (d+1)->(match bg tm rest pre with| .inr p=>some p| .inl _=>none)=Im rest d
 |[],pre,d,h=>rfl
 |(p,dr,o)::rest,pre,d,h=>by
  have hb:bg bv ((pre++[(p,dr,o)]).map (·.2.2)) 0=bg bv [o] (d+1):=by
   rw[List.map_append,g9,h];rfl
  simp only[cQ,bZ,E7,E8]
  cases o with
  |true=>
   have:=AE rest (pre++[(p,dr,true)]) (d+1) (by rw[hb];rfl);simp only[tm,Bool.true_eq_false,false_and,eW,eI];exact this
  |false=>
   have JD:bg bv ((pre++[(p,dr,false)]).map (·.2.2)) 0= .inl d:=by rw[hb];simp[cQ,bZ,bv]
   have ac4:OF ((pre++[(p,dr,false)]).map (·.2.2))=(d==0):=by unfold OF;rw[JD]
   simp only[tm,ac4,true_and,jT,gz,eW];by_cases q:d=0
   ·simp[q]
   ·rw[az q,az q]
    exact AE rest (pre++[(p,dr,false)]) (d-1) (by rw[JD];exact congrArg Sum.inl (rN (DG q)).symm)
theorem Io{e:RItem}{rest:List RItem}(h:e.2.2=true):mm (e::rest)=Im rest 0:=by
 obtain⟨p,dr,o⟩:=e;dsimp only at h;subst h;unfold mm;simp only[cQ,bZ,tm,Bool.true_eq_false,false_and,eW];exact AE rest [(p,dr,true)] 0 rfl
set_option tactic.hygienic true in
theorem E9(its:List RItem)(st:List Int×List V)(k:Nat)(h:st.1.length=st.2.length/\st.1.Nodup):(dm its st k).1.length=(dm its st k).2.length/\(dm its st k).1.Nodup:=by
 unfold dm;split
 ·exact h
 ·split
  ·refine⟨oz _ _ _ _ h.1,?_⟩
   unfold cI;split
   ·exact h.2
   ·rename_i e _ _ hc
    refine kL.mpr ⟨h.2,by simp,fun a ha b hb z=>?_⟩;simp at hb;subst hb;subst z;exact hc (by simpa using ha)
  ·exact h
theorem AF(its:List RItem):∀(ks:List Nat) (st:List Int×List V),st.1.length=st.2.length/\st.1.Nodup->(ks.foldl (dm its) st).1.length=(ks.foldl (dm its) st).2.length/\(ks.foldl (dm its) st).1.Nodup
 |[],st,h=>h
 |k::ks,st,h=>AF its ks _ (E9 its st k h)
set_option tactic.hygienic true in
theorem uM(its:List RItem)(q:Int):∀(ks:List Nat) (st:List Int×List V),st.1.length=st.2.length/\st.1.Nodup->(∀k∈ks,∀e,its[k]?=some e->(e.1:Int)≠q)->bR (ks.foldl (dm its) st).1 (ks.foldl (dm its) st).2 q=bR st.1 st.2 q
 |[],st,h,_=>rfl
 |k::ks,st,h,hk=>by
  rw[eJ,uM its q ks _ (E9 its st k h) fun k' ze=>hk k' (cw _ ze)];unfold dm;split
  ·rfl
  ·rename_i e he
   split
   ·rw[jH _ _ _ _ _ h.1,az fun z=>hk k dJ e he z.symm]
   ·rfl
theorem Ip{its:List RItem}{q:Int}(h:∀e∈its,(e.1:Int)≠q):bR (bU its).1 (bU its).2 q=none:=by
 unfold bU;rw[uM its q _ _ ⟨rfl,qK⟩ fun k ø e he=>h e (my he)];rfl
theorem OQ{its a b:List RItem}{e:RItem}(hs:its=a++e::b)(ho:e.2.2=true)(hd:(its.map (·.1)).Nodup):bR (bU its).1 (bU its).2 e.1=(Im b 0).map fun p=>V.int ((p:Int)-e.1):=by
 have hk:its[a.length]?=some e:=by rw[hs];simp
 have de:a.length<its.length:=by rw[hs];simp
 have Lb:its.drop a.length=e::b:=by rw[hs];simp
 have lj:a.length∈iC its:=by
  unfold iC;exact kI.mpr ⟨gD.mpr de,by simp[hk,ho]⟩
 obtain⟨k1,k2,XA⟩:=List.append_of_mem lj;have vR:(iC its).Nodup:=by unfold iC;exact List.nodup_range.filter _
 rw[XA]at vR;have tu:∀k,k≠a.length->∀e',its[k]?=some e'->(e'.1:Int)≠e.1:=fun k bN e' Dh z=>by
  have h1:(its.map (·.1))[k]?=some e.1:=by rw[bL,Dh];simp;omega
  have h2:(its.map (·.1))[a.length]?=some e.1:=by rw[bL,hk];rfl
  exact bN ((List.getElem?_inj (by rw[bi];exact(eX.mp Dh).1) hd).mp (h1.trans h2.symm))
 have hn1:∀k∈k1,k≠a.length:=fun k hk z=>(kL.mp vR).2.2 k hk _ dJ z
 have HB:∀k∈k2,k≠a.length:=fun k hk z=>by
  have:=(kL.mp vR).2.1;rw[gC]at this;exact this.1 (z▸hk)
 have l0:=AF its k1 ([],[]) ⟨rfl,qK⟩;unfold bU;rw[XA,m4,eJ];rw[uM its e.1 k2 _ (E9 its _ _ l0) fun k hk=>tu k (HB k hk)];have h0:=uM its e.1 k1 ([],[]) ⟨rfl,qK⟩ fun k hk=>tu k (hn1 k hk)
 have N8:bR ([]:List Int) ([]:List V) e.1=none:=rfl;rw[N8]at h0;generalize k1.foldl (dm its) ([],[])=st at*;unfold dm;rw[hk,Lb];dsimp only;rw[Io ho]
 cases Im b 0 with
 |none=>exact h0
 |some p=>
  dsimp only;rw[jH _ _ _ _ _ l0.1,aw rfl];rfl
noncomputable def dZ(p:Int->Bool)(dr:Item->Int):List Item->Nat->List RItem
 |[],_=>[]
 |e::l,i=>if p e.1 then(i,dr e,e.2.1)::dZ p dr l (i+1)else dZ p dr l (i+1)
theorem gL(p:Int->Bool)(dr:Item->Int)(i:Nat):dZ p dr [] i=[]:=rfl
theorem fW(p:Int->Bool)(dr:Item->Int)(e:Item)(l:List Item)(i:Nat):dZ p dr (e::l) i=if p e.1 then(i,dr e,e.2.1)::dZ p dr l (i+1)else dZ p dr l (i+1):=rfl
theorem CZ(p dr):∀(a b:List Item) (i:Nat),dZ p dr (a++b) i=dZ p dr a i++dZ p dr b (i+a.length)
 |[],b,i=>rfl
 |e::a,b,i=>by
  have:=CZ p dr a b (i+1);have e2:i+1+a.length=i+(a.length+1):=by omega
  rw[e2]at this;simp only[List.cons_append,gL,fW,bA,this];split<;>rfl
set_option tactic.hygienic true in
theorem rD(p dr):∀(l:List Item) (i:Nat),(dZ p dr l i).length<=l.length/\∀e∈dZ p dr l i,i<=e.1/\∃x,l[e.1-i]?=some x/\p x.1=true
 |[],i=>⟨cF _,fun e he=>nomatch he⟩
 |x::l,i=>by
  have ih:=rD p dr l (i+1);have go:∀e∈dZ p dr l (i+1),i<=e.1/\∃y,(x::l)[e.1-i]?=some y/\p y.1=true:=fun e he=>by
   obtain⟨h1,y,h2,h3⟩:=ih.2 e he;refine⟨u8 h1,y,?_,h3⟩;have:e.1-i=(e.1-(i+1))+1:=(rN (Nat.sub_pos_of_lt h1)).symm;rw[this,DO];exact h2
  rw[fW];split
  ·rename_i hp
   refine⟨i7 ih.1,fun e he=>?_⟩;rcases bp.mp he with rfl|he
   ·exact⟨cF _,x,by simp,hp⟩
   ·exact go e he
  ·exact⟨i6 ih.1,go⟩
theorem qA(p dr):∀(l:List Item) (i:Nat),((dZ p dr l i).map (·.1)).Nodup
 |[],i=>qK
 |x::l,i=>by
  rw[fW];split
  ·rw[bn,gC]
   refine⟨fun h=>?_,qA p dr l (i+1)⟩;obtain⟨e,he,e1⟩:=bP.mp h;have:=((rD p dr l (i+1)).2 e he).1;dsimp only at e1;omega
  ·exact qA p dr l (i+1)
theorem xh{p p':Int->Bool}{dr}:∀{l:List Item} {i:Nat},(∀e∈l,p e.1=p' e.1)->dZ p dr l i=dZ p' dr l i
 |[],i,_=>rfl
 |x::l,i,h=>by
  simp only[gL,fW,h x dJ,xh (l:=l) (i:=i+1) fun e he=>h e (cw _ he)]
noncomputable abbrev cm(l:List Item):du:=l.map fun e=>(e.1,e.2.1)
theorem GI(K:Int)(dr):∀(l:List Item) (i d:Nat),Im (dZ (fun k=>decide (k=K)) dr l i) d=tn K (cm l) i d
 |[],i,d=>rfl
 |(k,o,x)::l,i,d=>by
  have ih:=GI K dr l (i+1);by_cases q:k=K
  ·simp only[gL,fW,q,decide_true,eI,E7,E8,cm,bn,qx,iG,ih]
  ·simp only[gL,fW,q,decide_false,gz,eW,cm,bn,qx,iG,ih]
theorem GJ(dr):∀(l:List Item) (i d:Nat),Im (dZ (fun ø=>true) dr l i) d=tn 0 (dY (cm l)) i d
 |[],i,d=>rfl
 |(k,o,x)::l,i,d=>by
  have ih:=GJ dr l (i+1);simp only[gL,fW,eI,E7,E8,dY,cm,bn,dK,qx,iG]at ih ⊢;simp only[ih]
theorem Mn{α:Type}{l:List α}{s:Nat}{e:α}(h:l[s]?=some e):l=l.take s++e::l.drop (s+1)/\(l.take s).length=s:=by
 have hs:s<l.length:=(eX.mp h).1;refine⟨?_,by rw[nB];omega⟩
 conv=>lhs;rw[<-List.take_append_drop s l]
 congr 1
 rw[pf hs,(eX.mp h).2]
noncomputable def Fa(s:Nat)(o:Option Nat):Option V:=o.map fun p=>V.int ((p:Int)-s)
theorem yB{p:Int->Bool}{dr}{l:List Item}{s:Nat}{e:Item}(h:l[s]?=some e)(hp:p e.1=true)(ho:e.2.1=true):bR (bU (dZ p dr l 0)).1 (bU (dZ p dr l 0)).2 s=Fa s (Im (dZ p dr (l.drop (s+1)) (s+1)) 0):=by
 obtain⟨hs,hl⟩:=Mn h;have e1:dZ p dr l 0=dZ p dr (l.take s) 0++(s,dr e,e.2.1)::dZ p dr (l.drop (s+1)) (s+1):=by
  conv=>lhs;rw[hs]
  rw[CZ,hl,gq];simp only[gL,fW,hp,eI]
 exact OQ e1 ho (qA p dr l 0)
theorem Mo{dr}{l:List Item}{s:Nat}{e:Item}(h:l[s]?=some e)(ho:e.2.1=true):((bR (bU (dZ (fun ø=>true) dr l 0)).1 (bU (dZ (fun ø=>true) dr l 0)).2 s).getD (.int 0))= .int (ga (dY (cm l)) s):=by
 rw[yB h rfl ho,GJ];have hz:(dY (cm l))[s]?=some (0,e.2.1):=by simp[dY,cm,h]
 have hd:(dY (cm l)).drop (s+1)=dY (cm (l.drop (s+1))):=by simp[dY,cm,nE]
 unfold ga;rw[hz];dsimp only;rw[hd]
 cases q:tn 0 (dY (cm (l.drop (s+1)))) (s+1) 0 with
 |none=>rfl
 |some p=>
  have:=(AD _ _ _ _ _ q).1;simp only[Fa,m3,kM,rC];exact congrArg V.int (by omega)
theorem OR{dr}{l:List Item}{s:Nat}{e:Item}(h:l[s]?=some e)(ho:e.2.1=true):((bR (bU (dZ (fun k=>decide (k=e.1)) dr l 0)).1 (bU (dZ (fun k=>decide (k=e.1)) dr l 0)).2 s).getD (.int 0))= .int (ga (cm l) s):=by
 rw[yB h (by simp) ho,GI];have hz:(cm l)[s]?=some (e.1,e.2.1):=by simp[cm,h]
 have hd:(cm l).drop (s+1)=cm (l.drop (s+1)):=by simp[cm,nE]
 unfold ga;rw[hz];dsimp only;rw[hd]
 cases q:tn e.1 (cm (l.drop (s+1))) (s+1) 0 with
 |none=>rfl
 |some p=>
  have:=(AD _ _ _ _ _ q).1;simp only[Fa,m3,kM,rC];exact congrArg V.int (by omega)
theorem tw:∀(jO:List Int) (gS:List V) (ks:List Int) (vs:List V),ks.length=vs.length->(cW ks vs jO gS).1.length=(cW ks vs jO gS).2.length/\(cW ks vs jO gS).1.length<=ks.length+jO.length
 |[],gS,ks,vs,h=>⟨h,cF _⟩
 |k::jO,[],ks,vs,h=>⟨h,by simp[fm,fo,fq]⟩
 |k::jO,v::gS,ks,vs,h=>by
  have ih:=tw jO gS (cI ks k) (eP ks vs k v) (oz _ _ _ _ h);refine⟨ih.1,aA ih.2 ?_⟩;have:(cI ks k).length<=ks.length+1:=by unfold cI;split<;>simp
  simp only[bA];omega
theorem yC(q:Int):∀(jO:List Int) (gS:List V) (ks:List Int) (vs:List V),ks.length=vs.length->jO.length=gS.length->jO.Nodup->bR (cW ks vs jO gS).1 (cW ks vs jO gS).2 q=(bR jO gS q).or (bR ks vs q)
 |[],[],ks,vs,h,_,_=>by simp[fm,fo,fq,gG,iN,iO]
 |k::jO,v::gS,ks,vs,h,h2,hn=>by
  rw[gC]at hn;have ih:=yC q jO gS (cI ks k) (eP ks vs k v) (oz _ _ _ _ h) (by simpa using h2) hn.2;simp only[fm,fo,fq];rw[ih,jH _ _ _ _ _ h];simp only[gG,iN,iO];by_cases e:k=q
  ·subst e
   have:bR jO gS k=none:=by
    clear ih;have go:∀(ks:List Int) (vs:List V),k∉ks->bR ks vs k=none:=by
     intro ks
     induction ks with
     |nil=>intros;rfl
     |cons x ks ih=>
      intro vs hx
      cases vs with
      |nil=>rfl
      |cons v vs=>
       simp only[gG,iN,iO];rw[az (fun z:x=k=>hx (by rw[z];exact dJ))];exact ih vs fun z=>hx (cw _ z)
    exact go _ _ hn.1
   simp[this]
  ·have:¬q=k:=fun z=>e z.symm
   simp[e,this]
noncomputable def ms{α:Type}(f:α->List Int×List V)(st:List Int×List V)(t:α):List Int×List V:=cW st.1 st.2 (f t).1 (f t).2
theorem Mp{α:Type}{f:α->List Int×List V}{q:Int}{t0:α}(hf:∀t,(f t).1.length=(f t).2.length/\(f t).1.Nodup)(tu:∀t,t≠t0->bR (f t).1 (f t).2 q=none):∀(ts:List α) (st:List Int×List V),st.1.length=st.2.length->(bR st.1 st.2 q=none\/bR st.1 st.2 q=bR (f t0).1 (f t0).2 q)->t0∈ts\/bR st.1 st.2 q=bR (f t0).1 (f t0).2 q->bR (ts.foldl (ms f) st).1 (ts.foldl (ms f) st).2 q=bR (f t0).1 (f t0).2 q
 |[],st,_,h,hm=>by
  rcases hm with hm|hm
  ·cases hm
  ·exact hm
 |t::ts,st,hl,h,hm=>by
  rw[eJ];have hg:=yC q (f t).1 (f t).2 st.1 st.2 hl (hf t).1 (hf t).2;refine Mp hf tu ts _ (tw _ _ _ _ hl).1 ?_ ?_
  ·show bR (cW st.1 st.2 (f t).1 (f t).2).1 _ q=none\/_
   unfold ms;rw[hg];by_cases e:t=t0
   ·subst e
    right;rcases h with h|h
    ·simp[h]
    ·rw[h];simp
   ·rw[tu t e]
    simpa using h
  ·unfold ms
   rw[hg];by_cases e:t=t0
   ·subst e
    right;rcases h with h|h
    ·simp[h]
    ·rw[h];simp
   ·rw[tu t e]
    rcases hm with hm|hm
    ·left
     rcases bp.mp hm with z|z
     ·exact absurd z.symm e
     ·exact z
    ·right
     simpa using hm
noncomputable def numOf(k:Int)(o:Bool):Nat:=if k % 3=0 then(if o then 7 else 8)else if k % 3=1 then(if o then 9 else 10)else(if o then 25 else 26)
noncomputable def xi(k:Int)(o:Bool):Nat:=if k % 3=0 then(if o then 40 else 41)else if k % 3=1 then(if o then 91 else 93)else(if o then 123 else 125)
noncomputable def iD(total k:Int):List Nat:=fw k total++uv (numOf k true)
theorem OS(k:Int)(o:Bool):uv (numOf k o)=uv (numOf k true):=by
 unfold numOf;cases o
 ·split
  ·rfl
  ·split<;>rfl
 ·rfl
theorem OT(k:Int)(o:Bool):(numOf k o % 2==1)=o:=by
 unfold numOf;cases o<;>(split;rfl;split<;>rfl)
theorem OU(k:Int)(o:Bool):numOf k o∈[7,8,9,10,25,26]:=by
 unfold numOf;cases o<;>(split;decide;split<;>decide)
theorem Td(k:Int)(o:Bool):xi k o∈[40,41,91,93,123,125]:=by
 unfold xi;cases o<;>(split;decide;split<;>decide)
theorem Qe(k:Int):∀c∈uv (numOf k true),c<58:=by
 unfold numOf;split
 ·decide
 ·split<;>decide
theorem OV:(fZ.all fun e=>decide (172<=e.toNat))=true:=by decide
theorem GL(total:Int)(ht:0<=total):172<=(fZ[(total/26 % 16).toNat]?.getD 0).toNat:=by
 have hl:(total/26 % 16).toNat<fZ.length:=by have:fZ.length=16:=rfl;omega
 rw[dX hl,kM];simpa using cD.mp OV _ (va hl)
theorem OW:(j6.all fun l=>(l.length==2||l.length==3)&&l.all fun c=>decide (97<=c)&&decide (c<123))=true:=by decide
theorem Fb(total:Int)(ht:0<=total):((j6[(total/416 % 7).toNat]?.getD []).length=2\/(j6[(total/416 % 7).toNat]?.getD []).length=3)/\∀c∈(j6[(total/416 % 7).toNat]?.getD []),97<=c/\c<123:=by
 have hl:(total/416 % 7).toNat<j6.length:=by have:j6.length=7:=rfl;omega
 rw[dX hl,kM];have:=cD.mp OW _ (va hl);simp only[dI,m5,jT,cD,iH]at this;exact this
theorem GM(total k:Int)(ht:0<=total):∀c∈fw k total,97<=c:=by
 intro c hc;unfold fw at hc;split at hc
 ·simp at hc;omega
 ·split at hc
  ·have:=GL total ht
   simp only[bp,qH,ny]at hc;rcases hc with rfl|rfl<;>omega
  ·exact((Fb total ht).2 c hc).1
theorem Mq(total k:Int)(ht:0<=total):(fw k total).length<=3:=by
 unfold fw;split
 ·simp
 ·split
  ·simp
  ·rcases(Fb total ht).1 with h|h<;>omega
theorem Mr{a a' d d':List Nat}(ha:∀c∈a,97<=c)(XM:∀c∈a',97<=c)(hd:∀c∈d,c<58)(iY:∀c∈d',c<58)(h:a++d=a'++d'):a=a'/\d=d':=by
 have f1:∀(a d:List Nat),(∀c∈a,97<=c)->(∀c∈d,c<58)->(a++d).filter (fun c=>decide (97<=c))=a:=fun a d ha hd=>by
  rw[DP,List.filter_eq_self.mpr (fun c hc=>by simpa using ha c hc),List.filter_eq_nil_iff.mpr (fun c hc=>by have:=hd c hc;simp;omega),gn]
 have e:a=a':=by rw[<-f1 a d ha hd,h,f1 a' d' XM iY]
 subst e;exact⟨rfl,List.append_cancel_left h⟩
theorem three{k:Int}(h:0<=k)(h':k<3):k=0\/k=1\/k=2:=by omega
theorem OX{total k k':Int}(ht:0<=total)(hk:0<=k/\k<9)(ze:0<=k'/\k'<9)(h:iD total k=iD total k'):k=k':=by
 obtain⟨h1,h2⟩:=Mr (GM total k ht) (GM total k' ht) (Qe k) (Qe k') h;have m:k % 3=k' % 3:=by
  have r1:=three (y5 k (show(3:Int)≠0 by decide)) (y6 k (by decide));have r2:=three (y5 k' (show(3:Int)≠0 by decide)) (y6 k' (by decide));unfold numOf at h2;rcases r1 with a|a|a<;>rcases r2 with b|b|b<;>rw[a,b]at h2 ⊢ <;>revert h2<;>decide
 have d:k/3=k'/3:=by
  have r1:=three (Int.ediv_nonneg hk.1 (show(0:Int)<=3 by decide)) (Int.ediv_lt_of_lt_mul (by decide) hk.2);have r2:=three (Int.ediv_nonneg ze.1 (show(0:Int)<=3 by decide)) (Int.ediv_lt_of_lt_mul (by decide) ze.2);have he:=GL total ht;obtain⟨l1,l2⟩:=Fb total ht;unfold fw at h1;generalize(fZ[(total/26 % 16).toNat]?.getD 0).toNat=ed at*;generalize(j6[(total/416 % 7).toNat]?.getD [])=lg at*;generalize(97+total % 26).toNat=bs at*;rcases r1 with a|a|a<;>rcases r2 with b|b|b<;>rw[a,b]at h1 ⊢ <;>simp at h1 ⊢
  ·subst h1;simp at l1
  ·subst h1
   have:=l2 ed (by simp);omega
  ·subst h1;simp at l1
  ·subst h1
   have:=l2 ed (by simp);omega
 omega
noncomputable def GN:Cx:={vars:=[(Tt,.local,false),(Qp,.local,false),(WU,.cell,false),(IQ,.local,false),(Fs,.local,false),(M1,.local,false),(IX,.local,false),(Yo,.local,true),(Yp,.local,false),(Tv,.cell,false),(Yq,.local,false),(Yr,.local,false),(WV,.cell,false),(WW,.cell,true),(T3,.cell,false),(Ys,.local,false),(Yt,.local,false),(Yu,.local,false),(Qq,.local,false),(Yv,.local,false),(Yw,.local,true),(IY,.cell,false),(Qr,.local,false),(Qs,.local,false)],aM:=[Tu,IL,IM,G4,AQ,vi,IN,MT,T2,s7,DQ,IO,M2,IP]}
noncomputable def Ms:Cx:={vars:=[(IQ,.local,false),(Fs,.local,false),(M1,.local,false)],aM:=[]}
noncomputable def Te:Cx:={vars:=[(Tt,.local,false),(Qp,.local,false),(WU,.cell,false),(IQ,.local,false),(Fs,.local,false),(M1,.local,false),(IX,.local,false),(Yo,.local,false),(Yp,.local,false),(Tv,.cell,false),(Yq,.local,false),(Yr,.local,false),(WV,.cell,false),(WW,.cell,true),(T3,.cell,false),(Ys,.local,false),(Yt,.local,false),(Yu,.local,false),(Qq,.local,false),(Yv,.local,false),(Yw,.local,true),(IY,.cell,false),(Qr,.local,false),(Qs,.local,false)],aM:=[Tu,IL,IM,G4,AQ,vi,IN,MT,T2,s7,DQ,IO,M2,IP]}
noncomputable def Iq:Cx:={vars:=[(WQ,.local,false)],aM:=[MS]}
noncomputable def Ir:Cx:={vars:=[(Ql,.local,false),(Tv,.cell,false)],aM:=[]}
noncomputable def It:Cx:={vars:=[(Ql,.local,false),(⟨#[116,101,120,116]⟩,.local,false),(Fs,.local,false),(WU,.cell,false)],aM:=[G4]}
noncomputable def Iu:Cx:={vars:=[(T3,.local,false),(Fs,.local,false)],aM:=[]}
noncomputable def Iv:Cx:={vars:=[(⟨#[111,110,101]⟩,.local,false),(T3,.cell,false),(Tv,.cell,false)],aM:=[]}
noncomputable def Tf:Cx:={vars:=[(Tt,.local,false),(Qp,.local,false),(WU,.cell,false),(IQ,.local,false),(Fs,.local,false),(M1,.local,false),(IX,.local,false),(Yo,.local,false),(Yp,.local,false),(Tv,.cell,false),(Yq,.local,false),(Yr,.local,false),(WV,.cell,false),(WW,.cell,false),(T3,.cell,false),(Ys,.local,false),(Yt,.local,false),(Yu,.local,false),(Qq,.local,false),(Yv,.local,false),(Yw,.local,true),(IY,.cell,false),(Qr,.local,false),(Qs,.local,false)],aM:=[Tu,IL,IM,G4,AQ,vi,IN,MT,T2,s7,DQ,IO,M2,IP]}
noncomputable def Iw:Cx:={vars:=[(⟨#[111,110,101]⟩,.local,false)],aM:=[]}
noncomputable def Ix:Cx:={vars:=[(Ql,.local,false),(Tv,.cell,false)],aM:=[]}
noncomputable def Iy:Cx:={vars:=[(Ql,.local,false),(WV,.cell,false)],aM:=[]}
noncomputable def Fc:Cx:={vars:=[(Ql,.local,false),(WW,.cell,false)],aM:=[]}
noncomputable def Fd:Cx:={vars:=[(IQ,.local,false),(Fs,.local,false)],aM:=[]}
noncomputable def Fe:Cx:={vars:=[(⟨#[114,117,110,115]⟩,.local,false),(IY,.cell,false)],aM:=[Tu]}
noncomputable def Ff:Cx:={vars:=[(⟨#[114,117,110]⟩,.local,false),(IY,.cell,false)],aM:=[]}
noncomputable def C1{P:Pk}{n:Nat}{C N:Addr}{mN:Str->Option Value}(W:cP P C N mN)(tZ:P.glob Tu=some (.builtin "sum")){mu:Addr}{xj:List V->Option V}(Fg:P.glob IL=some (.ref mu))(Fh:∀h,P.G h->∃o fd,h.get? mu=some o/\o.data= .func fd)(Fi:aZ P n (.ref mu) xj){kb:Addr}{uc:List V->Option V}(C2:P.glob IM=some (.ref kb))(C3:∀h,P.G h->∃o fd,h.get? kb=some o/\o.data= .func fd)(C4:aZ P n (.ref kb) uc){ii:Addr}{pC:List V->Option V}(pD:P.glob G4=some (.ref ii))(pE:∀h,P.G h->∃o fd,h.get? ii=some o/\o.data= .func fd)(pF:aZ P n (.ref ii) pC)(bz:P.glob AQ=some (.type "range"))(cb:P.glob vi=some (.builtin "len")){kf:Addr}{ud:List V->Option V}(ue:P.glob IN=some (.ref kf))(uf:∀h,P.G h->∃o fd,h.get? kf=some o/\o.data= .func fd)(ug:aZ P n (.ref kf) ud)(eQ:P.glob MT=some (.builtin "sorted"))(wV:P.glob T2=some (.type "set")){bb:Addr}{cA:List V->Option V}(fH:P.glob s7=some (.ref bb))(fJ:∀h,P.G h->∃o fd,h.get? bb=some o/\o.data= .func fd)(fL:aZ P n (.ref bb) cA)(gK:P.glob DQ=some (.ref C)){jI:List V->Option (List V)}(pG:EE P n C jI){iX:Addr}{rE:List V->Option V}(rF:P.glob IO=some (.ref iX))(rG:∀h,P.G h->∃o fd,h.get? iX=some o/\o.data= .func fd)(rH:aZ P n (.ref iX) rE)(lp:P.glob M2=some (.builtin "max")){ij:Addr}{pH:List V->Option V}(xR:P.glob IP=some (.ref ij))(xS:∀h,P.G h->∃o fd,h.get? ij=some o/\o.data= .func fd)(xT:aZ P n (.ref ij) pH){kg:Addr}{uh:List V->Option V}(C5:P.glob MS=some (.ref kg))(C6:∀h,P.G h->∃o fd,h.get? kg=some o/\o.data= .func fd)(C7:aZ P n (.ref kg) uh){cc:Addr}{fM:List V->Option V}(dp:mN MR=some (.ref cc))(bo:∀h,P.G h->∃of fd,h.get? cc=some of/\of.cls= .type "function"/\of.data= .func fd)(dq:typeLookup (.type "object") MR=pure none)(dt:aZ P n (.ref cc) fM){ee:Addr}{iM:List V->Option V}(o5:mN Pi=some (.ref ee))(cS:∀h,P.G h->∃of fd,h.get? ee=some of/\of.cls= .type "function"/\of.data= .func fd)(o6:typeLookup (.type "object") Pi=pure none)(o7:aZ P n (.ref ee) iM){uN:Addr}{GO:List V->Option V}(OY:mN Ph=some (.ref uN))(rA:∀h,P.G h->∃of fd,h.get? uN=some of/\of.cls= .type "function"/\of.data= .func fd)(OZ:typeLookup (.type "object") Ph=pure none)(AG:aZ P n (.ref uN) GO):{f:al->Option V//Ob P n GN (dz (aJ pq.main.body 69)) f}:=⟨_,(@bk _ _ _ _ _ _ _ (@aD _ _ _ 1 _ _ _ _ _ _ rfl (by decide) (@ai _ _ _ _ _ _ _ _ _ _ _ f6 (@aI _ _ _ _ _ _ _ _ _ _ _ rfl tZ rfl PA (@O _ _ _ _ _ _ _ _ (bC (Z 0 rfl rfl rfl) aO (bt aa) aO) ab ir) ir (cf _ _)) (ai Pm aa aa)) cp) (@bk _ _ _ _ _ _ _ (@aD _ _ _ 2 _ _ _ _ _ _ rfl (by decide) (@bq _ _ _ _ _ _ _ _ _ _ _ rfl Fg rfl Fh Fi (O (Z 0 rfl rfl rfl) (O (Z 1 rfl rfl rfl) ab ir) ir) ir (cf _ _)) cp) (@bk _ _ _ _ _ _ _ (@gY _ _ _ (Ms) 6 _ _ _ _ _ _ _ _ _ _ _ _ _ _ (3) ([]) rfl (bQ (Z 2 rfl rfl rfl)) (bB (by decide+kernel)) (@da _ _ _ _ _ _ _ (@ay _ _ _ _ _ _ _ (ap 0 rfl (by decide) (by decide)) (ay (ap 1 rfl (by decide) (by decide)) (ay (ap 2 rfl (by decide) (by decide)) bX))) (aE (aE (aE cH))) ir) bY (@ct _ _ _ _ _ _ _ _ (O (Z 0 rfl rfl rfl) (O (Z 1 rfl rfl rfl) ab ir) ir) (by decide) (af (af len0))) cp rfl rfl) (@bk _ _ _ _ _ _ _ (dh 7 rfl (by decide) (fT ab (by decide) len0) cp) (@bk _ _ _ _ _ _ _ (@fU _ _ _ (false) _ _ _ _ _ _ _ (bQ (Z 2 rfl rfl rfl)) (@da _ _ _ _ _ _ _ (@ay _ _ _ _ _ _ _ (ap 3 rfl (by decide) (by decide)) (ay (ap 4 rfl (by decide) (by decide)) (ay (ap 5 rfl (by decide) (by decide)) bX))) (aE (aE (aE cH))) ir) (@ac _ _ _ _ _ _ _ (@aD _ _ _ 8 _ _ _ _ _ _ rfl (by decide) (@r7 _ _ _ _ _ _ _ _ _ _ _ (fP (ae (Z 4 rfl rfl rfl)) cp) (@aF _ _ _ _ _ _ _ _ _ (aC rfl) (ai f6 (ae (Z 3 rfl rfl rfl)) aa) cp) (@aF _ _ _ _ _ _ _ _ _ (aC rfl) (ai f6 (ae (Z 3 rfl rfl rfl)) aa) cp)) cp) (@ac _ _ _ _ _ _ _ (@di _ _ _ _ _ _ (@cu _ _ _ 7 _ _ _ _ _ _ _ _ _ rfl rfl rfl qS (@O _ _ _ _ _ _ _ _ (@ai _ _ _ _ _ _ _ _ _ _ _ cy (@ai _ _ _ _ _ _ _ _ _ _ _ cy (@bq _ _ _ _ _ _ _ _ _ _ _ rfl C2 rfl C3 C4 (@O _ _ _ _ _ _ _ _ (Z 3 rfl rfl rfl) (O (Z 1 rfl rfl rfl) (O (Z 5 rfl rfl rfl) ab ir) ir) ir) ir (cf _ _)) (bq rfl pD rfl pE pF (O (Z 5 rfl rfl rfl) ab ir) ir (cf _ _))) (Z 8 rfl rfl rfl)) ab ir) ir (by decide) rfl ir) gH ir) aj)) cp) (@ro _ _ _ (Te) 7 _ _ _ _ rfl rfl rfl (@bk _ _ _ _ _ _ _ (@aD _ _ _ 9 _ _ _ _ _ _ rfl (by decide) (@dL _ _ _ _ _ _ (@dj _ _ _ (Iq) _ _ _ _ _ _ _ _ _ _ (1) ([]) (bQ (Z 7 rfl rfl rfl)) (bB (by decide+kernel)) (ap 0 rfl (by decide) (by decide)) bY (bq rfl C5 rfl C6 C7 (O (Z 0 rfl rfl rfl) ab ir) ir (cf _ _)) cp)) (fun ø h=>D7 h (by decide))) (@bk _ _ _ _ _ _ _ (@gY _ _ _ (Ir) 10 _ _ _ _ _ _ _ _ _ _ _ _ _ _ (1) ([9]) rfl (@fh _ _ _ _ _ _ _ rfl bz (@O _ _ _ _ _ _ _ _ (aI rfl cb rfl jj (O (Z 9 rfl rfl rfl) ab ir) ir (cf _ _)) ab ir) ir (cf _ _)) (bB (by decide+kernel)) (ap 0 rfl (by decide) (by decide)) bY (@ct _ _ _ _ _ _ _ _ (@O _ _ _ _ _ _ _ _ (Z 0 rfl rfl rfl) (@O _ _ _ _ _ _ _ _ (@r7 _ _ _ _ _ _ _ _ _ _ _ (@fP _ _ _ _ _ (@aF _ _ _ _ _ _ _ _ _ (aF (ae (Z 1 rfl rfl rfl)) (ae (Z 0 rfl rfl rfl)) cp) aa cp) cp) (aC rfl) (aC rfl)) (@O _ _ _ _ _ _ _ _ (@aF _ _ _ _ _ _ _ _ _ (aF (Z 1 rfl rfl rfl) (ae (Z 0 rfl rfl rfl)) cp) aa cp) ab ir) ir) ir) (by decide) (af (af (af len0)))) cp rfl rfl) (@bk _ _ _ _ _ _ _ (@gY _ _ _ (It) 11 _ _ _ _ _ _ _ _ _ _ _ _ _ _ (3) ([2]) rfl (bQ (Z 10 rfl rfl rfl)) (bB (by decide+kernel)) (@da _ _ _ _ _ _ _ (@ay _ _ _ _ _ _ _ (ap 0 rfl (by decide) (by decide)) (ay (ap 1 rfl (by decide) (by decide)) (ay (ap 2 rfl (by decide) (by decide)) bX))) (aE (aE (aE cH))) ir) bY (@ct _ _ _ _ _ _ _ _ (@O _ _ _ _ _ _ _ _ (Z 0 rfl rfl rfl) (@O _ _ _ _ _ _ _ _ (@ai _ _ _ _ _ _ _ _ _ _ _ cy (@bq _ _ _ _ _ _ _ _ _ _ _ rfl pD rfl pE pF (@O _ _ _ _ _ _ _ _ (@aF _ _ _ _ _ _ _ _ _ (aF (Z 3 rfl rfl rfl) (ae (Z 0 rfl rfl rfl)) cp) aa cp) ab ir) ir (cf _ _)) (Z 1 rfl rfl rfl)) (O (Z 2 rfl rfl rfl) ab ir) ir) ir) (by decide) (af (af (af len0)))) cp rfl rfl) (@bk _ _ _ _ _ _ _ (@aD _ _ _ 12 _ _ _ _ _ _ rfl (by decide) (bq rfl ue rfl uf ug (O (Z 11 rfl rfl rfl) ab ir) ir (cf _ _)) cp) (@bk _ _ _ _ _ _ _ (dh 13 rfl (by decide) j1 cp) (@bk _ _ _ _ _ _ _ (@fU _ _ _ (false) _ _ _ _ _ _ _ (@bQ _ _ _ _ _ (@dL _ _ _ _ _ _ (@uu _ _ _ _ _ _ _ _ _ _ _ rfl eQ rfl rfl wV rfl (@ae _ _ _ _ _ (@dL _ _ _ _ _ _ (@dj _ _ _ (Iu) _ _ _ _ _ _ _ _ _ _ (2) ([]) (bQ (Z 9 rfl rfl rfl)) (bB (by decide+kernel)) (@da _ _ _ _ _ _ _ (ay (ap 0 rfl (by decide) (by decide)) (ay (ap 1 rfl (by decide) (by decide)) bX)) (aE (aE cH)) ir) bY (Z 0 rfl rfl rfl) cp))) ir ir))) (ap 14 rfl (by decide) (by decide)) (@ac _ _ _ _ _ _ _ (@di _ _ _ _ _ _ (@cu _ _ _ 13 _ _ _ _ _ _ _ _ _ rfl rfl rfl Uz (@O _ _ _ _ _ _ _ _ (@bq _ _ _ _ _ _ _ _ _ _ _ rfl ue rfl uf ug (@O _ _ _ _ _ _ _ _ (@dL _ _ _ _ _ _ (@dj _ _ _ (Iv) _ _ _ _ _ _ _ _ _ _ (1) ([14,9]) (bQ (Z 10 rfl rfl rfl)) (bB (by decide+kernel)) (ap 0 rfl (by decide) (by decide)) (@p6 _ _ _ _ _ (@aR _ _ _ _ _ _ _ _ _ _ qR (@aF _ _ _ _ _ _ _ _ _ (@aF _ _ _ _ _ _ _ _ _ (ae (Z 2 rfl rfl rfl)) (aF (ae (Z 0 rfl rfl rfl)) aa cp) cp) aa cp) (ae (Z 1 rfl rfl rfl)) rfl)) (Z 0 rfl rfl rfl) cp)) ab ir) ir (cf _ _)) ab ir) ir (by decide) rfl ir) K7 ir) aj) cp) (@ro _ _ _ (Tf) 13 _ _ _ _ rfl rfl rfl (@bk _ _ _ _ _ _ _ (@aT _ _ _ _ _ _ _ _ _ _ (@aR _ _ _ _ _ _ _ _ _ _ Fu (@bq _ _ _ _ _ _ _ _ _ _ _ rfl fH rfl fJ fL (@O _ _ _ _ _ _ _ _ (@eE _ _ _ _ _ _ _ _ _ _ _ _ (aC rfl) qW (@O _ _ _ _ _ _ _ _ (@ae _ _ _ _ _ (@dL _ _ _ _ _ _ (@dj _ _ _ (Iw) _ _ _ _ _ _ _ _ _ _ (1) ([]) (@bQ _ _ _ _ _ (@ai _ _ _ _ _ _ _ _ _ _ _ cy (bC (Z 11 rfl rfl rfl) (bt aa) aO aO) (bC (Z 11 rfl rfl rfl) aO (bt aa) aO))) (bB (by decide+kernel)) (ap 0 rfl (by decide) (by decide)) bY (aF (Z 0 rfl rfl rfl) aa cp) cp))) ab ir) ir (by decide) rfl ir) ab ir) ir (cf _ _)) df rfl) (ac (aX df) aj) aj) (@bk _ _ _ _ _ _ _ (@gY _ _ _ (Ix) 15 _ _ _ _ _ _ _ _ _ _ _ _ _ _ (1) ([9]) rfl (@fh _ _ _ _ _ _ _ rfl bz (@O _ _ _ _ _ _ _ _ (@ai _ _ _ _ _ _ _ _ _ _ _ tA (aI rfl cb rfl jj (O (Z 9 rfl rfl rfl) ab ir) ir (cf _ _)) aa) (@O _ _ _ _ _ _ _ _ (dc aa) (O (dc aa) ab ir) ir) ir) ir (cf _ _)) (bB (by decide+kernel)) (ap 0 rfl (by decide) (by decide)) (@p6 _ _ _ _ _ (@fP _ _ _ _ _ (@aF _ _ _ _ _ _ _ _ _ (aF (ae (Z 1 rfl rfl rfl)) (ae (Z 0 rfl rfl rfl)) cp) aa cp) cp)) (Z 0 rfl rfl rfl) cp rfl rfl) (@bk _ _ _ _ _ _ _ (@aD _ _ _ 16 _ _ _ _ _ _ rfl (by decide) (@eM.mk _ _ _ _ _ _ pG _ _ _ _ _ rfl gK rfl (@O _ _ _ _ _ _ _ _ (@ai _ _ _ _ _ _ _ _ _ _ _ cy (@ai _ _ _ _ _ _ _ _ _ _ _ cy (@eE _ _ _ _ _ _ _ _ _ _ _ _ (aC rfl) qW (@O _ _ _ _ _ _ _ _ (@dL _ _ _ _ _ _ (@dj _ _ _ (Iy) _ _ _ _ _ _ _ _ _ _ (1) ([12]) (bQ (Z 15 rfl rfl rfl)) (bB (by decide+kernel)) (ap 0 rfl (by decide) (by decide)) bY (@ai _ _ _ _ _ _ _ _ _ _ _ tB (aC rfl) (@eE _ _ _ _ _ _ _ _ _ _ _ _ (Z 1 rfl rfl rfl) Jv (O (Z 0 rfl rfl rfl) (O aa ab ir) ir) ir (by decide) rfl ir)) cp)) ab ir) ir (by decide) rfl ir) (aF (Z 7 rfl rfl rfl) aa cp)) (aC rfl)) ab ir) ir) cp) (@bk _ _ _ _ _ _ _ (@aD _ _ _ 17 _ _ _ _ _ _ rfl (by decide) (@eM.mk _ _ _ _ _ _ pG _ _ _ _ _ rfl gK rfl (@O _ _ _ _ _ _ _ _ (@ai _ _ _ _ _ _ _ _ _ _ _ cy (@eE _ _ _ _ _ _ _ _ _ _ _ _ (aC rfl) qW (@O _ _ _ _ _ _ _ _ (@dL _ _ _ _ _ _ (@dj _ _ _ (Fc) _ _ _ _ _ _ _ _ _ _ (1) ([13]) (@bQ _ _ _ _ _ (@ai _ _ _ _ _ _ _ _ _ _ _ cy (@bC _ _ _ _ _ _ _ _ _ _ _ _ _ _ (Z 15 rfl rfl rfl) (bt (dc aa)) aO (bt (dc aa))) (@bC _ _ _ _ _ _ _ _ _ _ _ _ _ _ (Z 15 rfl rfl rfl) (bt (dc aa)) aO aO))) (bB (by decide+kernel)) (ap 0 rfl (by decide) (by decide)) bY (@ai _ _ _ _ _ _ _ _ _ _ _ tB (aC rfl) (@eE _ _ _ _ _ _ _ _ _ _ _ _ (Z 1 rfl rfl rfl) Jv (O (Z 0 rfl rfl rfl) (O aa ab ir) ir) ir (by decide) rfl ir)) cp)) ab ir) ir (by decide) rfl ir) (aF (Z 7 rfl rfl rfl) (dc aa) cp)) ab ir) ir) cp) (@bk _ _ _ _ _ _ _ (@aD _ _ _ 18 _ _ _ _ _ _ rfl (by decide) (@bq _ _ _ _ _ _ _ _ _ _ _ rfl rF rfl rG rH (@O _ _ _ _ _ _ _ _ (@dL _ _ _ _ _ _ (@dj _ _ _ (Fd) _ _ _ _ _ _ _ _ _ _ (2) ([]) (bQ (Z 6 rfl rfl rfl)) (bB (by decide+kernel)) (@da _ _ _ _ _ _ _ (ay (ap 0 rfl (by decide) (by decide)) (ay (ap 1 rfl (by decide) (by decide)) bX)) (aE (aE cH)) ir) bY (@ct _ _ _ _ _ _ _ _ (O aa (O (Z 1 rfl rfl rfl) ab ir) ir) (by decide) (af (af len0))) cp)) ab ir) ir (cf _ _)) cp) (@bk _ _ _ _ _ _ _ (@aD _ _ _ 19 _ _ _ _ _ _ rfl (by decide) (bq rfl rF rfl rG rH (O (Z 6 rfl rfl rfl) ab ir) ir (cf _ _)) cp) (@bk _ _ _ _ _ _ _ (dh 20 rfl (by decide) (fT ab (by decide) len0) cp) (@bk _ _ _ _ _ _ _ (@fU _ _ _ (false) _ _ _ _ _ _ _ (@fh _ _ _ _ _ _ _ rfl bz (@O _ _ _ _ _ _ _ _ aa (@O _ _ _ _ _ _ _ _ (@ai _ _ _ _ _ _ _ _ _ _ _ cy (@aI _ _ _ _ _ _ _ _ _ _ _ rfl lp rfl Jr (O (ai cy (Z 18 rfl rfl rfl) (Z 19 rfl rfl rfl)) ab ir) ir (cf _ _)) aa) ab ir) ir) ir (cf _ _)) (ap 21 rfl (by decide) (by decide)) (@ac _ _ _ _ _ _ _ (@oD _ _ _ _ _ _ _ _ (@Ho _ _ _ _ _ _ _ (ay (ap 22 rfl (by decide) (by decide)) (ay (ap 23 rfl (by decide) (by decide)) bX)) (aE (aE cH)) ir) (@dL _ _ _ _ _ _ (@dj _ _ _ (Fe) _ _ _ _ _ _ _ _ _ _ (1) ([21]) (@bQ _ _ _ _ _ (@ct _ _ _ _ _ _ _ _ (O (Z 18 rfl rfl rfl) (O (Z 19 rfl rfl rfl) ab ir) ir) (by decide) (af (af len0)))) (bB (by decide+kernel)) (ap 0 rfl (by decide) (by decide)) bY (@ai _ _ _ _ _ _ _ _ _ _ _ cy (@aI _ _ _ _ _ _ _ _ _ _ _ rfl tZ rfl PA (@O _ _ _ _ _ _ _ _ (@dL _ _ _ _ _ _ (@dj _ _ _ (Ff) _ _ _ _ _ _ _ _ _ _ (1) ([1]) (@bQ _ _ _ _ _ (@bC _ _ _ _ _ _ _ _ _ _ _ _ _ _ (Z 0 rfl rfl rfl) aO (bt (dc aa)) aO)) (bB (by decide+kernel)) (ap 0 rfl (by decide) (by decide)) bY (@ai _ _ _ _ _ _ _ _ _ _ _ cy (ai tA (Z 0 rfl rfl rfl) (ai f6 (Z 0 rfl rfl rfl) (Z 1 rfl rfl rfl))) (Z 1 rfl rfl rfl)) cp)) ab ir) ir (cf _ _)) (aF (Z 0 rfl rfl rfl) (dc aa) cp)) cp)) ir ir ir) (@ac _ _ _ _ _ _ _ (@aT _ _ _ _ _ _ _ _ _ _ (@aR _ _ _ _ _ _ _ _ _ _ vl (@ct _ _ _ _ _ _ _ _ (@O _ _ _ _ _ _ _ _ (@cX _ _ _ _ _ _ _ W _ _ _ _ _ _ _ _ _ (ae (Z 16 rfl rfl rfl)) dp bo _ dq (by decide+kernel) dt (O (ae (Z 21 rfl rfl rfl)) ab ir) ir (by decide) rfl ir) (@O _ _ _ _ _ _ _ _ (@cX _ _ _ _ _ _ _ W _ _ _ _ _ _ _ _ _ (ae (Z 17 rfl rfl rfl)) dp bo _ dq (by decide+kernel) dt (O (ae (Z 21 rfl rfl rfl)) ab ir) ir (by decide) rfl ir) ab ir) ir) (by decide) (af (af len0))) (@ct _ _ _ _ _ _ _ _ (@O _ _ _ _ _ _ _ _ (ae (Z 22 rfl rfl rfl)) (O (ae (Z 23 rfl rfl rfl)) ab ir) ir) (by decide) (af (af len0))) rfl) (ac (aX df) aj) aj) (@ac _ _ _ _ _ _ _ (@aT _ _ _ _ _ _ _ _ _ _ (aR vl (ae (Z 22 rfl rfl rfl)) (ae (Z 23 rfl rfl rfl)) rfl) (@ac _ _ _ _ _ _ _ (@di _ _ _ _ _ _ (@cu _ _ _ 20 _ _ _ _ _ _ _ _ _ rfl rfl rfl qS (@O _ _ _ _ _ _ _ _ (@ct _ _ _ _ _ _ _ _ (@O _ _ _ _ _ _ _ _ (Z 21 rfl rfl rfl) (O (Z 22 rfl rfl rfl) (O (Z 23 rfl rfl rfl) ab ir) ir) ir) (by decide) (af (af (af len0)))) ab ir) ir (by decide) rfl ir) gH ir) aj) aj) aj))) cp) (@bk _ _ _ _ _ _ _ (@aT _ _ _ _ _ _ _ _ _ _ (@aR _ _ _ _ _ _ _ _ _ _ vl (@cX _ _ _ _ _ _ _ W _ _ _ _ _ _ _ _ _ (ae (Z 16 rfl rfl rfl)) o5 cS _ o6 (by decide+kernel) o7 (O (ae (Z 17 rfl rfl rfl)) ab ir) ir (by decide) rfl ir) (cG 20 rfl rfl rfl) rfl) (ac (aX df) aj) aj) (@K8 _ _ _ _ _ (@ac _ _ _ _ _ _ _ (@aX _ _ _ _ _ _ (@kN _ _ _ _ _ _ _ _ _ _ _ T7 (@cX _ _ _ _ _ _ _ W _ _ _ _ _ _ _ _ _ (ae (Z 16 rfl rfl rfl)) OY rA _ OZ (by decide+kernel) AG (O (ae (Z 17 rfl rfl rfl)) ab ir) ir (by decide) rfl ir) (@bq _ _ _ _ _ _ _ _ _ _ _ rfl xR rfl xS xT (O (ae (Z 6 rfl rfl rfl)) ab ir) ir (cf _ _)) rfl)) aj))))))))))))))))))))))))⟩
theorem dw{i:Nat}{f:al->Option V}{g:al->Option V}{ρ:al}{v w:V}(h:f ρ=some v)(hg:g (upd ρ i v)=some w):HC (fun ρ=>Option.map (fun y=>(upd ρ i y,.next)) (f ρ)) g ρ=some w:=by
 have e:Option.map (fun y=>(upd ρ i y,Fl.next)) (f ρ)=some (upd ρ i v,.next):=by rw[h];rfl
 unfold HC;dsimp only;rw[e];exact hg
theorem AH{f g ρ am}{w:V}(h:f ρ=some (am,.next))(hg:g am=some w):HC f g ρ=some w:=by
 unfold HC;rw[h];exact hg
theorem Mt{i:Nat}{g:al->Option V}{ρ:al}{x w:V}(h:ρ i=some x)(hg:g ρ=some w):(fun ρ:al=>(ρ i).bind fun ø=>g ρ) ρ=some w:=by
 simp only[h,cR];exact hg
theorem xl{it asg bf g}{ρ:al}{w:V}{xs:List V}{Q:al->Prop}(hi:it ρ=some xs)(h:∃r,fg asg bf xs ρ=some r/\r.2= .next/\Q r.1)(hg:∀am,Q am->g am=some w):HC (Ha it asg bf) g ρ=some w:=by
 obtain⟨⟨am,fl⟩,e,rfl,q⟩:=h;exact AH (am:=am) (by simp only[Ha,hi,cR,e]) (hg _ q)
theorem Tg(n:Nat):IT ((n:Int)-1) (-1) (-1)=((List.range n).reverse).map fun(k:Nat)=>V.int k:=by
 have e:(Builtin.Range.rangeSize ((n:Int)-1) (-1) (-1)).toNat=n:=by
  rw[pn];split<;>omega
 unfold IT;rw[e];refine List.ext_getElem (by rw[bi,jX,bi,pO,jX]) fun j h1 h2=>?_
 rw[bi,jX]at h1;rw[List.getElem_map,DN,List.getElem_map,List.getElem_reverse,DN,jX];obtain⟨m,hm⟩:=yN h1;rw[hm,show j+m+1-1-j=m from Nat.add_sub_cancel_left ..];exact congrArg V.int (by omega)
theorem Fj{l:List V}(h1:1<=l.length)(hm:l.length<=most):eT (.list l) (some (-1)) none none=some (.list (l.drop (l.length-1))):=by
 have e:clip (some (-1:Int)) 0 l.length=l.length-1:=lm (k:=1) 0 (by decide) h1;rw[nP,aw ⟨hm,nofun⟩,uG,e];exact congrArg (fun z=>some (V.list z)) (rO (iJ mZ))
theorem xm{α β:Type}{f g:α->Option β}:∀{l:List α},(∀x∈l,f x=g x)->l.filterMap f=l.filterMap g
 |[],_=>rfl
 |x::l,h=>by
  rw[nf,nf,h x dJ,xm (l:=l) fun y hy=>h y (cw _ hy)]
theorem Iz{α:Type}(l:List α):∀n:Nat,n<=l.length->(List.range n).filterMap (fun k=>l[n-1-k]?)=(l.take n).reverse:=by
 intro n
 induction n with
 |zero=>exact fun ø=>rfl
 |succ n ih=>
  intro h;have e:((List.range n).filterMap fun k=>l[n+1-1-(k+1)]?)=(l.take n).reverse:=(xm fun k ø=>by rw[show n+1-1-(k+1)=n-1-k by omega]).trans (ih (u8 h));rw[List.range_succ_eq_map,nf,List.filterMap_map,List.take_succ_eq_append_getElem h,List.reverse_append,<-e];show(match l[n]? with|none=>_|some b=>b::_)=_;rw[dX h];rfl
theorem Fk{l:List V}(h1:2<=l.length)(hm:l.length<=most):eT (.list l) (some (-2)) none (some (-1))=some (.list l.dropLast.reverse):=by
 have q: -2+(l.length:Int)=((l.length-2:Nat):Int):=by rw[Int.ofNat_sub h1,Int.add_comm];rfl
 have e0:max (-1) (min (-2+(l.length:Int)) ((l.length:Int)-1))=((l.length-2:Nat):Int):=by
  rw[Int.min_eq_left (by rw[Int.add_comm];exact Int.sub_le_sub_left (by decide:(1:Int)<=2) _),q];exact rY (pg (by decide) (mz _))
 have e1:sliceBounds (some (-2)) none (some (-1)) l.length=(((l.length-2:Nat):Int),-1,-1):=congrArg (fun z=>(z,(-1:Int),(-1:Int))) e0;have e2:(if((l.length-2:Nat):Int)> -1 then(((l.length-2:Nat):Int)- -1- -1-1)/1 else 0).toNat=l.length-1:=by
  rw[aw (Du (by decide) (mz _)),Int.ediv_one];show(((l.length-2:Nat):Int)+1+1-1).toNat=_;rw[DI];exact rN (Nat.le_sub_one_of_lt h1)
 have e3:sliceRange ((l.length-2:Nat):Int) (-1) (-1)=(List.range (l.length-1)).map fun(k:Nat)=>(((l.length-2:Nat):Int)+ -1*(k:Int)).toNat:=congrArg (fun z=>(List.range z).map fun(k:Nat)=>(((l.length-2:Nat):Int)+ -1*(k:Int)).toNat) e2
 rw[nP,aw ⟨hm,nofun⟩];unfold pick;rw[e1];dsimp only;rw[e3,List.filterMap_map,List.dropLast_eq_take,<-Iz l (l.length-1) (rZ _ _)];exact congrArg (fun z=>some (V.list z)) (xm fun k ø=>congrArg (fun z=>l[z]?) (by show(((l.length-2:Nat):Int)+ -1*(k:Int)).toNat=_;rw[Int.neg_one_mul,<-Int.sub_eq_add_neg,Int.toNat_sub];rfl))
theorem lx(dr):∀(l:List Item) (i k:Nat),(dZ (fun ø=>true) dr l i)[k]?=(l[k]?).map fun e=>(i+k,dr e,e.2.1)
 |[],i,k=>by simp[gL,fW]
 |e::l,i,0=>by simp[gL,fW]
 |e::l,i,k+1=>by
  simp only[gL,fW,eI,DO,lx dr l (i+1) k];have:i+1+k=i+(k+1):=by omega
  rw[this]
theorem rI(dr)(l:List Item)(i:Nat):(dZ (fun ø=>true) dr l i).length=l.length:=by
 induction l generalizing i with
 |nil=>rfl
 |cons e l ih=>simp[gL,fW,ih]
theorem Fm(dr)(l:List Item)(g:Nat->V)(h:∀k e,l[k]?=some e->g k=mQ (k,dr e,e.2.1)):(List.range l.length).map g=(dZ (fun ø=>true) dr l 0).map mQ:=by
 refine vd fun k=>?_
 rw[bL,bL,lx];by_cases q:k<l.length
 ·rw[Dr q,dX q]
  simp only[m3,gq];rw[h k _ (dX q)]
 ·rw[iI (by simp;omega),iI (by omega)]
  rfl
theorem Mu(dr dr')(l:List Item)(g:RItem->RItem)(h:∀k e,l[k]?=some e->g (k,dr e,e.2.1)=(k,dr' e,e.2.1)):(dZ (fun ø=>true) dr l 0).map g=dZ (fun ø=>true) dr' l 0:=by
 refine vd fun k=>?_
 rw[bL,lx,lx];by_cases q:k<l.length
 ·rw[dX q]
  simp only[m3,gq];rw[h k _ (dX q)]
 ·rw[iI (by omega)]
  rfl
theorem ui(dr)(q:Int->Bool)(g:RItem->Bool):∀(l:List Item) (i:Nat),(∀k e,l[k]?=some e->g (i+k,dr e,e.2.1)=q e.1)->(dZ (fun ø=>true) dr l i).filter g=dZ q dr l i
 |[],i,_=>rfl
 |e::l,i,h=>by
  have h0:=h 0 e rfl;rw[mY]at h0;have ih:=ui dr q g l (i+1) fun k e' he=>by
   have:=h (k+1) e' (by simpa using he);have e3:i+(k+1)=i+1+k:=by omega
   rw[e3]at this;exact this
  simp only[gL,fW,eI,List.filter_cons,h0,ih]
theorem IB(t:List Nat)(ts:List (List Nat)):t∈pu (EB ts)<->t∈ts:=by
 unfold pu;rw[(u4 _ _).mem_iff];unfold EB;have go:∀(l acc:List (List Nat)),t∈l.foldl (fun ks k=>if k∈ks then ks else ks++[k]) acc<->t∈acc\/t∈l:=by
  intro l
  induction l with
  |nil=>intro acc;simp
  |cons x l ih=>
   intro acc;rw[eJ,ih];by_cases q:x∈acc
   ·rw[aw q]
    constructor
    ·rintro(h|h)
     ·exact .inl h
     ·exact .inr (cw _ h)
    ·rintro(h|h)
     ·exact .inl h
     ·rcases bp.mp h with rfl|h
      ·exact .inl q
      ·exact .inr h
   ·rw[az q]
    simp[or_assoc]
 rw[go];simp
noncomputable def gM(script:List Int):Int:=(script.take 63).sum % 1000000
theorem ints_map:∀l:List Int,jZ (l.map .int)=some l
 |[]=>rfl
 |x::l=>by rw[bn,Bm,ints_map l];rfl
theorem sum_ints(l:List Int):zj [.list (l.map .int)]=some (.int l.sum):=by rw[QY,ints_map];rfl
theorem Mw{ρ:al}{script:List Int}(hs:script.length<=63)(h0:ρ 0=some (.list (script.map .int))):
  dA p0 (eD zj (aQ (ji (fun ρ=>ρ 0) (fun x=>some none) (fun ρ=>(some (V.int 63)).bind mE) fun x=>some none) fun x=>some [])) (dA Qx (fun x=>some (V.int 10)) fun x=>some (V.int 6)) ρ=some (.int (gM script)):=
 md (bJ (eA h0 rfl rfl rfl (l5 _ 63 (by rw[bi];exact aA hs (by decide)))) (by rw[<-List.map_take];exact sum_ints _)) rfl
theorem Th{ρ:al}{its:List Item}(hl:its.length<=8)(h2:ρ 2=some (.list (its.map As))):
  fj (fun ρ=>(ρ 2).bind elems) (tJ (dP (fun ρ y=>some (upd ρ 0 y)) (dP (fun ρ y=>some (upd ρ 1 y)) (dP (fun ρ y=>some (upd ρ 2 y)) pk)))) (fun x=>some true)
   (fun ρ=>Option.map V.tup (aQ (fun ρ=>ρ 0) (aQ (fun ρ=>ρ 1) fun x=>some []) ρ)) 3 [] ρ=some (mP (cm its)):=
 (db (fun ø=>True) its As (fun e=>.tup [.int e.1,.bool e.2.1]) (dy h2 rfl) (Lx hl) (fun e he ρ ø=>⟨_,rfl,trivial,rfl⟩) trivial).trans (congrArg (fun z=>some (V.list z)) (dK (g:=fun e:Int×Bool=>V.tup [.int e.1,.bool e.2]) (f:=fun e:Item=>(e.1,e.2.1)) (l:=its)).symm)
noncomputable def Mx(nm:Item->List Nat)(e:Item):List Nat:=nm e++(fX e.2.2).flatten++[xi e.1 e.2.1]
theorem GQ(k:Int):gt (.str [40,91,123]) (.int (k % 3))=some (.str [xi k true])/\gt (.str [41,93,125]) (.int (k % 3))=some (.str [xi k false]):=by
 have r:k % 3=0\/k % 3=1\/k % 3=2:=by omega
 unfold xi;rcases r with a|a|a<;>rw[a]<;>exact⟨rfl,rfl⟩
noncomputable abbrev Fn(nm:Item->List Nat)(e:Item):V:=.str (Mx nm e)
theorem O0{ρ:al}{k:Int}{o:Bool}(h3:ρ 3=some (.int k))(h4:ρ 4=some (.bool o)):G6 (fun ρ=>(ρ 4).bind lE) (f7 (fun x=>some (V.str [40,91,123])) (dA p0 (fun ρ=>ρ 3) fun x=>some (V.int 3))) (f7 (fun x=>some (V.str [41,93,125])) (dA p0 (fun ρ=>ρ 3) fun x=>some (V.int 3))) ρ=some (.str [xi k o]):=by
 cases o
 ·exact j5 (dy h4 rfl) (cM rfl (md h3 rfl) (GQ k).2)
 ·exact tc (dy h4 rfl) (cM rfl (md h3 rfl) (GQ k).1)
theorem My{F2 F3:List V->Option V}{M:CM}{total:Int}{nm:Item->List Nat}{its:List Item}(hl:its.length<=8)
  (H2:∀e∈its,bT M (fw e.1 total) (nm e)/\F2 [.int e.1,.int total,.int e.2.2]=some (.str (nm e))) (H3:∀d,F3 [.int d]=some (.str (fX d).flatten))
  {ρ:al} {row:V} (k:Oj 1 2 6 7 (.int total) (.list (its.map As)) row (.list []) ρ):
  ∃r,fg (tJ (dP (fun ρ y=>some (upd ρ 3 y)) (dP (fun ρ y=>some (upd ρ 4 y)) (dP (fun ρ y=>some (upd ρ 5 y)) pk))))
   (eO (fun ρ=>Option.map (fun y=>(upd ρ 8 y,Fl.next)) (G6 (fun ρ=>(ρ 4).bind lE) (f7 (fun x=>some (V.str [40,91,123])) (dA p0 (fun ρ=>ρ 3) fun x=>some (V.int 3))) (f7 (fun x=>some (V.str [41,93,125])) (dA p0 (fun ρ=>ρ 3) fun x=>some (V.int 3))) ρ))
    (eO (fun ρ=>Option.map (fun r=>(r.fst,Fl.next)) (jc DX 7 (aQ (dA nH (dA nH (eD F2 (aQ (fun ρ=>ρ 3) (aQ (fun ρ=>ρ 1) (aQ (fun ρ=>ρ 5) fun x=>some [])))) (eD F3 (aQ (fun ρ=>ρ 5) fun x=>some []))) fun ρ=>ρ 8) fun x=>some []) ρ))
     fun ρ=>some (ρ,Fl.next))) (its.map As) ρ=some r/\r.2= .next/\Oj 1 2 6 7 (.int total) (.list (its.map As)) row (.list (its.map (Fn nm))) r.1:=by
 refine oj As its (fun l ρ=>Oj 1 2 6 7 (.int total) (.list (its.map As)) row (.list (l.map (Fn nm))) ρ) (fun l e ρ he de hR=>?_) k;obtain⟨hg,hf⟩:=H2 e he;have AK:=hg.len;have hrl:=(te e.2.2).2.2.1;have h9:(nm e).length+(fX e.2.2).flatten.length<=9:=pZ AK hrl;exact hR.ex fun σ=>⟨_,_,rfl,bO (bh (O0 rfl rfl) rfl) (bO (bh (pv rfl (bu (bu (dy rfl hf) (bJ rfl (H3 e.2.2)) (j4 _ _ (aA h9 (by decide)))) rfl (j4 _ _ (by rw[List.length_append];exact aA (i7 h9) (by decide)))) (l3 _ _ (mt8 (aA (eY de) hl)))) rfl) rfl),.mk rfl rfl rfl (congrArg (fun z=>some (V.list z)) (iA (Fn nm) l e))⟩
noncomputable abbrev uO(total:Int)(e:Item):V:=.tup [.str (iD total e.1),.bool e.2.1]
noncomputable abbrev uj(its:List Item):List RItem:=dZ (fun ø=>true) (fun ø=>0) its 0
noncomputable abbrev gN(its:List Item):List RItem:=dZ (fun ø=>true) (fun e=>e.2.2) its 0
theorem O1{F8:List V->Option V}{total:Int}{nm:Item->List Nat}{its:List Item}(hl:its.length<=8)(H8:∀e∈its,F8 [Fn nm e]=some (uO total e)){ρ:al}(k7:ρ 7=some (.list (its.map (Fn nm)))):
  fj (fun ρ=>(ρ 7).bind elems) (fun ρ y=>some (upd ρ 0 y)) (fun x=>some true) (eD F8 (aQ (fun ρ=>ρ 0) fun x=>some [])) 1 [] ρ=some (.list (its.map (uO total))):=
 db (fun ø=>True) its (Fn nm) (uO total) (dy k7 rfl) (Lx hl) (fun e he ρ ø=>⟨_,rfl,trivial,bJ rfl (H8 e he)⟩) trivial
theorem Qf{total:Int}{its:List Item}(hl:its.length<=8){k:Nat}{e:Item}(he:its[k]?=some e):gt (.list (its.map (uO total))) (.int k)=some (uO total e):=gI (by rw[bL,he];rfl) (Lw hl)
theorem AI{total:Int}{its:List Item}(hl:its.length<=8){k:Nat}{e:Item}(he:its[k]?=some e){ρ:al}(h0:ρ 0=some (.int k))(h1:ρ 1=some (.list (its.map (uO total)))):f7 (f7 (fun ρ=>ρ 1) fun ρ=>ρ 0) (fun x=>some (V.int 1)) ρ=some (.bool e.2.1):=
 cM (cM h1 h0 (Qf hl he)) rfl rfl
theorem Wx{f:al->Option V}{ρ:al}{o:Bool}(h:f ρ=some (.bool o)):G6 (fun ρ=>(f ρ).bind lE) (fun x=>some (V.str [40])) (fun x=>some (V.str [41])) ρ=some (.str [jE o]):=by
 cases o
 ·exact j5 (dy h rfl) rfl
 ·exact tc (dy h rfl) rfl
theorem O2{total:Int}{its:List Item}(hl:its.length<=8){ρ:al}(k9:ρ 9=some (.list (its.map (uO total)))):
  fj (fun ρ=>(aQ (eD qV (aQ (fun ρ=>ρ 9) fun x=>some [])) (fun x=>some []) ρ).bind si) (fun ρ y=>some (upd ρ 0 y)) (fun x=>some true)
   (fun ρ=>Option.map V.tup (aQ (fun ρ=>ρ 0) (aQ (G6 (fun ρ=>(f7 (f7 (fun ρ=>ρ 1) fun ρ=>ρ 0) (fun x=>some (V.int 1)) ρ).bind lE) (fun x=>some (V.str [40])) fun x=>some (V.str [41])) (aQ (f7 (f7 (fun ρ=>ρ 1) fun ρ=>ρ 0) fun x=>some (V.int 1)) fun x=>some [])) ρ)) 1 [9] ρ=some (.list ((uj its).map mQ)):=by
 have h6:eH ((its.map (uO total)).length:Int)=true:=by
  have:=Lw (f:=uO total) hl;have Bp:most=1000000:=rfl;exact(dI _ _).mpr ⟨eK (by omega),eK (by omega)⟩
 refine mx (db (fun ρ=>ρ 1=some (.list (its.map (uO total)))) (List.range its.length) (fun(k:Nat)=>V.int k) (fun k=>mQ (k,0,((its[k]?).map (·.2.1)).getD false)) (dy (aq (bJ k9 (og _ (Lw hl))) rfl) (by rw[D2,aw h6,bi,We])) (by rw[jX];exact Lx hl) (fun k hk ρ hI=>?_) k9) (congrArg (fun z=>some (V.list z)) (Fm (fun ø=>0) its _ fun k e he=>by rw[he];rfl));obtain⟨e,he⟩:=get_mem (gD.mp hk);exact ex1 ρ hI fun σ=>⟨_,rfl,rfl,bh (aq rfl (aq (Wx (AI hl he rfl rfl)) (aq (AI hl he rfl rfl) rfl))) (by rw[he];rfl)⟩
theorem C8{dr:Item->Int}{its:List Item}{u:RItem}{C:Prop}(h:u∈dZ (fun ø=>true) dr its 0)(f:∀k e,its[k]?=some e->u=(k,dr e,e.2.1)->C):C:=by
 obtain⟨k,hk⟩:=DB.mp h;rw[lx,gq]at hk;exact bV hk fun e he hu=>f k e he hu.symm
theorem Mz{F3:List V->Option V}(H3:∀d,F3 [.int d]=some (.str (fX d).flatten)){its:List Item}(hl:its.length<=8){ρ:al}(k2:ρ 2=some (.list (its.map As)))(k10:ρ 10=some (.list ((uj its).map mQ))):
  fj (fun ρ=>(ρ 10).bind elems) (tJ (dP (fun ρ y=>some (upd ρ 0 y)) (dP (fun ρ y=>some (upd ρ 1 y)) (dP (fun ρ y=>some (upd ρ 2 y)) pk)))) (fun x=>some true)
   (fun ρ=>Option.map V.tup (aQ (fun ρ=>ρ 0) (aQ (dA nH (eD F3 (aQ (f7 (f7 (fun ρ=>ρ 3) fun ρ=>ρ 0) fun x=>some (V.int 2)) fun x=>some [])) fun ρ=>ρ 1) (aQ (fun ρ=>ρ 2) fun x=>some [])) ρ)) 3 [2] ρ=some (.list ((gN its).map mQ)):=by
 refine mx (db (fun ρ=>ρ 3=some (.list (its.map As))) (uj its) mQ (fun u=>mQ (u.1,((its[u.1]?).map (·.2.2)).getD 0,u.2.2)) (dy k10 rfl) (by rw[rI];exact Lx hl) (fun u hu ρ hI=>C8 hu fun k e he hu=>?_) k2) (congrArg (fun z=>some (V.list z)) ?_)
 ·subst hu
  have ht:txt (k,0,e.2.1)=[jE e.2.1]:=rfl;have ht2:(fX e.2.2).flatten++[jE e.2.1]=txt (k,e.2.2,e.2.1):=by unfold txt mj;rw[gr];rfl
  exact ex1 ρ hI fun σ=>⟨_,rfl,rfl,bh (aq rfl (aq (bu (bJ (cM (cM rfl rfl (gI (b:=As e) (by rw[bL,he];rfl) (Lw hl))) rfl rfl) (H3 e.2.2)) rfl ((j4 _ _ (aA (i7 (te e.2.2).2.2.1) (by decide))).trans (congrArg (fun z=>some (V.str z)) ht2))) (aq rfl rfl))) (by rw[he];rfl)⟩
 ·unfold gN
  rw[<-Mu (fun ø=>0) (fun e=>e.2.2) its (fun u=>(u.1,((its[u.1]?).map (·.2.2)).getD 0,u.2.2)) (fun k e he=>by rw[he];rfl),dK];rfl
noncomputable def mw(total:Int)(its:List Item):List (List Nat):=pu (EB (its.map fun e=>iD total e.1))
theorem O3{total:Int}{its:List Item}(hl:its.length<=8){ρ:al}(k9:ρ 9=some (.list (its.map (uO total)))):
  (((fj (fun ρ=>(ρ 9).bind elems) (tJ (dP (fun ρ y=>some (upd ρ 0 y)) (dP (fun ρ y=>some (upd ρ 1 y)) pk))) (fun x=>some true) (fun ρ=>ρ 0) 2 [] ρ).bind wF).bind elems)=some ((mw total its).map .str):=by
 refine dy (dy (db (fun ø=>True) its (uO total) (fun e=>.str (iD total e.1)) (dy k9 rfl) (Lx hl) (fun e he ρ ø=>⟨_,rfl,trivial,rfl⟩) trivial) ?_) (rfl:elems (.list ((mw total its).map .str))=_);have e:(its.map fun e=>V.str (iD total e.1))=(its.map fun e=>iD total e.1).map .str:=by rw[dK];rfl
 rw[ED,e,i2,cR,bi,bi,aw (by omega)];rfl
noncomputable def kF(total:Int)(its:List Item)(tag:List Nat):List Int×List V:=bU (dZ (fun k=>decide (iD total k=tag)) (fun ø=>0) its 0)
noncomputable def partsOf(total:Int)(its:List Item):List Int×List V:=(mw total its).foldl (ms (kF total its)) ([],[])
theorem MA(its:List RItem):(bU its).1.length=(bU its).2.length/\(bU its).1.Nodup:=AF its _ _ ⟨rfl,qK⟩
theorem xn(its:List RItem):(bU its).1.length<=its.length:=aA (w6 its _ ([],[])) (by rw[eZ,gq];exact w7 its)
theorem MB{total:Int}{its:List Item}(ht:0<=total)(hk:∀e∈its,0<=e.1/\e.1<9){s:Nat}{e:Item}(h:its[s]?=some e)(ho:e.2.1=true):(bR (partsOf total its).1 (partsOf total its).2 s).getD (.int 0)= .int (ga (cm its) s):=by
 have he:=my h;have hm:iD total e.1∈mw total its:=(IB _ _).mpr (bP.mpr ⟨e,he,rfl⟩);have hg:=Mp (f:=kF total its) (q:=(s:Int)) (t0:=iD total e.1) (fun t=>MA _) (fun t bN=>Ip fun u hu z=>by
  obtain⟨h1,x,h2,h3⟩:=(rD _ _ its 0).2 u hu;have hs:u.1=s:=by omega
  rw[Nat.sub_zero,hs,h]at h2;cases h2;simp only[iH]at h3;exact bN h3.symm) (mw total its) ([],[]) rfl (.inl rfl) (.inl hm)
 unfold partsOf;rw[hg];have hc:dZ (fun k=>decide (iD total k=iD total e.1)) (fun ø=>0) its 0=dZ (fun k=>decide (k=e.1)) (fun ø=>0) its 0:=xh fun x hx=>by
  rw[decide_eq_decide];exact⟨fun z=>OX ht (hk x hx) (hk e he) z,fun z=>by rw[z]⟩
 unfold kF;rw[hc];exact OR h ho
theorem MC(total:Int)(its:List Item):∀(l:List (List Nat)) (st:List Int×List V),st.1.length=st.2.length->(l.foldl (ms (kF total its)) st).1.length<=st.1.length+its.length*l.length
 |[],st,h=>cF _
 |t::l,st,h=>by
  obtain⟨h1,h2⟩:=tw (kF total its t).1 (kF total its t).2 st.1 st.2 h;have h3:(kF total its t).1.length<=its.length:=aA (xn _) (rD _ _ its 0).1;have h4:=MC total its l (ms (kF total its) st t) h1;refine aA h4 (aA (m7 h2 _) ?_);rw[bA,Nat.mul_add_one];omega
theorem Ti{total:Int}{its:List Item}(hl:its.length<=8){t:List Nat}{ρ:al}(k9:ρ 9=some (.list (its.map (uO total))))(k10:ρ 10=some (.list ((uj its).map mQ)))(k14:ρ 14=some (.str t)):
  fj (fun ρ=>(ρ 10).bind elems) (fun ρ y=>some (upd ρ 0 y)) (qQ G7 (f7 (f7 (fun ρ=>ρ 2) (f7 (fun ρ=>ρ 0) fun x=>some (V.int 0))) fun x=>some (V.int 0)) fun ρ=>ρ 1) (fun ρ=>ρ 0) 1 [14,9] ρ=some (.list ((dZ (fun k=>decide (iD total k=t)) (fun ø=>0) its 0).map mQ)):=by
 refine mx (qU (fun ρ=>ρ 1=some (.str t)/\ρ 2=some (.list (its.map (uO total)))) (uj its) mQ (fun u=>((its[u.1]?).map fun e=>iD total e.1).getD []==t) mQ (dy k10 rfl) (by rw[rI];exact Lx hl) (fun u hu ρ hI=>C8 hu fun k e he hu=>?_) ⟨k14,k9⟩) (congrArg (fun z=>some (V.list (z.map mQ))) (ui (fun ø=>0) _ _ its 0 fun k e he=>?_))
 ·subst hu
  exact ex2 ρ hI.1 hI.2 fun σ=>⟨_,rfl,⟨rfl,rfl⟩,ba (cM (cM rfl (cM rfl rfl rfl) (Qf hl he)) rfl rfl) rfl (by rw[he];rfl),fun ø=>rfl⟩
 ·dsimp only
  rw[gq,he];exact yH.mpr (jT.trans decide_eq_true_iff.symm)
theorem O4{F4:List V->Option V}(H4:∀its:List RItem,its.length<=8->F4 [.list (its.map mQ)]=some (.dict (bU its).1 (bU its).2)){total:Int}{its:List Item}(hl:its.length<=8){row ps dr wh:V}
  {ρ:al} (k:TS 6 7 9 10 11 12 13 row ps (.list (its.map (uO total))) (.list ((uj its).map mQ)) dr wh (.dict [] []) ρ):
  ∃r,fg (fun ρ y=>some (upd ρ 14 y)) (eO (fun ρ=>Option.map (fun r=>(r.fst,Fl.next)) (jc NF 13 (aQ (eD F4 (aQ (fj (fun ρ=>(ρ 10).bind elems) (fun ρ y=>some (upd ρ 0 y)) (qQ G7 (f7 (f7 (fun ρ=>ρ 2) (f7 (fun ρ=>ρ 0) fun x=>some (V.int 0))) fun x=>some (V.int 0)) fun ρ=>ρ 1) (fun ρ=>ρ 0) 1 [14,9]) fun x=>some [])) fun x=>some []) ρ)) fun ρ=>some (ρ,Fl.next))
   ((mw total its).map .str) ρ=some r/\r.2= .next/\TS 6 7 9 10 11 12 13 row ps (.list (its.map (uO total))) (.list ((uj its).map mQ)) dr wh (.dict (partsOf total its).1 (partsOf total its).2) r.1:=by
 have htl:(mw total its).length<=8:=by
  unfold mw pu;rw[List.length_mergeSort];have:=Gg (its.map fun e=>iD total e.1);rw[bi]at this;omega
 refine oj (fun t:List Nat=>V.str t) (mw total its) (fun l ρ=>TS 6 7 9 10 11 12 13 row ps (.list (its.map (uO total))) (.list ((uj its).map mQ)) dr wh (.dict (l.foldl (ms (kF total its)) ([],[])).1 (l.foldl (ms (kF total its)) ([],[])).2) ρ) (fun l t ρ ht de hR=>?_) k;have h1:=MC total its l ([],[]) rfl;have h2:=(rD (fun k=>decide (iD total k=t)) (fun ø=>0) its 0).1;have h3:its.length*l.length<=8*8:=Nat.mul_le_mul hl (aA (eY de) htl);have h4:=xn (dZ (fun k=>decide (iD total k=t)) (fun ø=>0) its 0);exact hR.ex fun σ=>⟨_,_,rfl,bO (bh (pv rfl (bJ (Ti hl rfl rfl rfl) (H4 _ (aA h2 hl))) ((Re ..).trans (aw (aA (pZ (aA h1 (vf h3 _)) (aA h4 (aA h2 hl))) (by decide))))) rfl) rfl,.mk rfl rfl rfl rfl rfl rfl (by rw[m4];rfl)⟩
theorem GT:∀n:Nat,n-1+min 1 n<=n
 |0=>cF 0
 |n+1=>iJ (congrArg (n+ ·) (y4 (i7 (dU n))))
theorem MD:∀(w:List Bool) (a b k:Nat),bg bv w a= .inl b->bg bv w (a+k)= .inl (b+k)
 |[],a,b,k,h=>by
  exact congrArg (fun z=>Sum.inl (z+k)) (Sum.inl.inj h)
 |true::w,a,b,k,h=>by
  simp only[cQ,bZ,bv,eI]at h ⊢;have:=MD w (a+1) b k h;have e:a+1+k=a+k+1:=Nat.add_right_comm ..;rw[e]at this;exact this
 |false::w,a,b,k,h=>by
  simp only[cQ,bZ,bv,gz,eW]at h ⊢;by_cases q:a=0
  ·rw[aw q]at h;cases h
  ·rw[az q]at h
   have:¬a+k=0:=fun z=>q (Nat.eq_zero_of_add_eq_zero_right z)
   rw[az this];have ih:=MD w (a-1) b k h;have e:a-1+k=a+k-1:=(Nat.sub_add_comm (DG q)).symm;rw[e]at ih;exact ih
theorem O5{w:List Bool}(h:bg bv w 0= .inl 0)(bN:w≠[]):OF (w.drop 1++w.take 1)=false:=by
 cases w with
 |nil=>exact absurd rfl bN
 |cons o w=>
  cases o with
  |false=>simp[cQ,bZ,bv]at h
  |true=>
   simp only[List.drop_succ_cons,List.drop_zero,Do,List.take_zero];unfold OF;rw[g9];have h1:bg bv w 1= .inl 0:=by simpa[cQ,bZ,bv]using h
   cases q:bg bv w 0 with
   |inl b=>
    have:=MD w 0 b 1 q;rw[gq,h1]at this;simp only[Sum.inl.injEq]at this;omega
   |inr t=>rfl
theorem O6(its:List Item):(gN its).map (·.2.2)=its.map (·.2.1):=by
 refine vd fun k=>?_
 rw[bL,bL,lx];cases its[k]?<;>rfl
theorem ME{F5:List V->Option V}(H5:i3 F5){its:List Item}(hl:its.length<=8)(bN:its≠[])(hd:bg bv (its.map (·.2.1)) 0= .inl 0){ρ:al}(k11:ρ 11=some (.list ((gN its).map mQ))):
  qQ I2 (eD F5 (aQ (Q1 tM (fun x=>some (V.str [])) (aQ (fj (fun ρ=>(dA nH (ji (fun ρ=>ρ 11) (fun ρ=>(some (V.int 1)).bind mE) (fun x=>some none) fun x=>some none) (ji (fun ρ=>ρ 11) (fun x=>some none) (fun ρ=>(some (V.int 1)).bind mE) fun x=>some none) ρ).bind elems) (fun ρ y=>some (upd ρ 0 y)) (fun x=>some true) (f7 (fun ρ=>ρ 0) fun x=>some (V.int 1)) 1 []) fun x=>some [])) fun x=>some [])) (fun x=>some (V.bool false)) ρ=some false:=by
 have Sj:(gN its).length<=8:=by rw[rI];exact hl
 have Gv:=Lw (f:=mQ) Sj;obtain⟨MF,hr,ha,hb⟩:∃MF:List RItem,MF.length<=8/\nH (.list (((gN its).map mQ).drop 1)) (.list (((gN its).map mQ).take 1))=some (.list (MF.map mQ))/\OF (MF.map (·.2.2))=false:=by
  refine⟨(gN its).drop 1++(gN its).take 1,?_,?_,?_⟩
  ·rw[List.length_append,mZ,nB]
   exact aA (GT _) Sj
  ·rw[List.map_append,nE,List.map_take]
   exact uI _ _ (by rw[mZ,nB];exact aA (GT _) Gv)
  ·rw[List.map_append,nE,List.map_take,O6]
   exact O5 hd fun z=>bN (List.map_eq_nil_iff.mp z)
 have hj:tM (.str []) [.list (MF.map fun e=>.str (txt e))]=some (.str (MF.map txt).flatten):=by
  have e:(MF.map fun e=>V.str (txt e))=(MF.map txt).map .str:=by rw[dK];rfl
  rw[uD,e,i2,cR,aw (joinOk_of [] _ (aA (aA (w8 MF) (Nat.mul_le_mul_left 6 hr)) (by decide))),oJ]
 have h5:=H5 MF hr;rw[hb]at h5;exact ba (bJ (HK rfl (aq (db (fun ø=>True) MF mQ (fun e=>.str (txt e)) (dy (bu (eA k11 rfl rfl rfl (l6 _ 1 Gv)) (eA k11 rfl rfl rfl (l5 _ 1 Gv)) ha) rfl) (Lx hr) (fun e he ρ ø=>⟨_,rfl,trivial,rfl⟩) trivial) rfl) hj) h5) rfl rfl
noncomputable abbrev mS(its:List Item):List Nat:=(tq ((cm its).map (·.2))).reverse
theorem GU{its:List Item}{s:Nat}(h:s∈mS its):∃e,its[s]?=some e/\e.2.1=true:=by
 obtain⟨K,h1⟩:=AC (pN.mp h);rw[bL]at h1;refine bV h1 fun e he e1=>?_
 exact⟨e,he,by have:=congrArg Prod.snd e1;exact this⟩
theorem O7{total:Int}{its:List Item}(hl:its.length<=8){ρ:al}(k9:ρ 9=some (.list (its.map (uO total)))):
  fj (fun ρ=>(aQ (dA zc (eD qV (aQ (fun ρ=>ρ 9) fun x=>some [])) fun x=>some (V.int 1)) (aQ (fun ρ=>(some (V.int 1)).bind sy) (aQ (fun ρ=>(some (V.int 1)).bind sy) fun x=>some [])) ρ).bind si) (fun ρ y=>some (upd ρ 0 y))
   (fun ρ=>(f7 (f7 (fun ρ=>ρ 1) fun ρ=>ρ 0) (fun x=>some (V.int 1)) ρ).bind lE) (fun ρ=>ρ 0) 1 [9] ρ=some (.list ((mS its).map fun(k:Nat)=>V.int k)):=by
 have hm:=Lw (f:=uO total) hl;have h6:eH (((its.map (uO total)).length:Int)-1)=true:=by
  have Bp:most=1000000:=rfl;exact(dI _ _).mpr ⟨eK (by omega),eK (by omega)⟩
 have hr:si [.int (((its.map (uO total)).length:Int)-1),.int (-1),.int (-1)]=some (((List.range its.length).reverse).map fun(k:Nat)=>V.int k):=by
  rw[Jb,h6,Tg,bi];rfl
 refine mx (qU (fun ρ=>ρ 1=some (.list (its.map (uO total)))) ((List.range its.length).reverse) (fun(k:Nat)=>V.int k) (fun k=>((its[k]?).map (·.2.1)).getD false) (fun(k:Nat)=>V.int k) (dy (aq (bu (bJ k9 (og _ hm)) rfl rfl) rfl) hr) (by rw[pO,jX];exact Lx hl) (fun k hk ρ hI=>?_) k9) (congrArg (fun z:List Nat=>some (V.list (z.map fun(k:Nat)=>V.int k))) ?_)
 ·obtain⟨e,he⟩:=get_mem (gD.mp (pN.mp hk))
  exact ex1 ρ hI fun σ=>⟨_,rfl,rfl,dy (AI hl he rfl rfl) (by rw[he];rfl),fun ø=>rfl⟩
 ·unfold mS tq
  rw[<-List.filter_reverse,bi,bi];refine List.filter_congr fun k ø=>?_
  rw[bL,bL];cases its[k]?<;>rfl
theorem IC(r:Nat)(h:r<=1000):xv (.str [32]) (.int r)=some (.str (List.replicate r 32)):=by
 rw[M6 _ _ ⟨by omega,rfl,by omega⟩];simp
theorem xo{len:Nat->Nat}:∀l:List Nat,(∀s∈l,len s<=100)->((l.map len).map fun r=>List.replicate r 32).flatten.length<=100*l.length
 |[],_=>cF _
 |x::l,h=>by
  rw[bn,bn,gA,List.length_append,y8,bA,Nat.mul_add_one,Nat.add_comm];exact pZ (xo l fun s hs=>h s (cw _ hs)) (h x dJ)
theorem yD{it:al->Option (List V)}{c:Nat}{os:List Nat}{ks:List Int}{vs:List V}{len:Nat->Nat}(ho:os.length<=1000)(hlen:∀s∈os,(bR ks vs s).getD (.int 0)= .int (len s)/\len s<=100){ρ:al}(hi:it ρ=some (os.map fun(k:Nat)=>V.int k))(hc:ρ c=some (.dict ks vs)):
  Q1 tM (fun x=>some (V.str [9])) (aQ (fj it (fun ρ y=>some (upd ρ 0 y)) (fun x=>some true) (dA xv (fun x=>some (V.str [32])) (Q1 Q6 (fun ρ=>ρ 1) (aQ (fun ρ=>ρ 0) (aQ (fun x=>some (V.int 0)) fun x=>some [])))) 1 [c]) fun x=>some []) ρ=some (.str (fO (os.map len))):=by
 have hj:tM (.str [9]) [.list (os.map fun s=>.str (List.replicate (len s) 32))]=some (.str (fO (os.map len))):=by
  have e:(os.map fun s=>V.str (List.replicate (len s) 32))=((os.map len).map fun r=>List.replicate r 32).map .str:=by rw[dK,dK];rfl
  have:=xo os fun s hs=>(hlen s hs).2
  rw[uD,e,i2,cR,aw (joinOk_of [9] _ (by rw[bi,bi,pU];omega))]
 exact HK rfl (aq (db (fun ρ=>ρ 1=some (.dict ks vs)) os (fun(k:Nat)=>V.int k) (fun s=>.str (List.replicate (len s) 32)) hi (gR ho (by decide)) (fun s hs ρ hI=>ex1 ρ hI fun σ=>⟨_,rfl,rfl,bu rfl (HK rfl rfl ((Q7 ..).trans (congrArg some (hlen s hs).1))) (IC _ (aA (hlen s hs).2 (by decide)))⟩) hc) rfl) hj
theorem tz:∀(rs:List Nat),(∀r∈rs,r<=100)->(fO rs).length<=101*rs.length
 |[],_=>by simp[fO,jk,jl,jm]
 |[r],h=>by
  have:=h r dJ;have e:(fO [r]).length=r:=by simp[fO,jk,jl,jm]
  rw[e];simp only[bA,eZ];omega
 |r::r'::rs,h=>by
  have ih:=tz (r'::rs) fun x hx=>h x (cw _ hx)
  have h1:=h r dJ;have e:fO (r::r'::rs)=List.replicate r 32++(9::fO (r'::rs)):=by simp[fO,jk,jl,jm]
  rw[e,List.length_append,y8,bA];simp only[bA]at ih ⊢;omega
noncomputable def AJ(rs:List Nat)(raw mR:V)(k:Int):V:=mq raw mR k (rs.length-1) ((rs.getLast?).getD 0) (rs.dropLast.foldl bump [])
theorem C9{rs l:List Nat}{c:Nat}(h1:c≠32)(h2:c≠9)(h:rs≠[]):∃raw mR k,V.obj (SW (fO rs++c::l))=AJ rs raw mR k:=by
 obtain⟨n',e⟩:=Ig h1 h2 (l:=l) h;refine⟨.str (fO rs++c::l),.bool (decide ((rs.dropLast.foldl bump []).length<=1)),n',?_⟩;unfold SW AJ mq;rw[e]
noncomputable abbrev gW(l:List Nat):V:=.list (l.map fun(x:Nat)=>V.int x)
noncomputable def xU(l:List Nat):Nat:=l.foldr max 0
theorem xr(a b:Nat):max (a:Int) (b:Int)=((max a b:Nat):Int):=by
 rcases Nat.le_total a b with h|h
 ·rw[Nat.max_eq_right h,rY (qI.mpr h)]
 ·rw[Nat.max_eq_left h,Int.max_eq_left (qI.mpr h)]
theorem ID{l:List Nat}(h:l≠[]):Ed [gW l]=some (.int (xU l)):=by
 cases l with
 |nil=>exact absurd rfl h
 |cons x l=>
  have e:(x::l).map (fun(x:Nat)=>V.int x)=((x:Int)::l.map fun(x:Nat)=>(x:Int)).map .int:=by simp[y9]
  unfold gW;rw[e,Ik];have h1:∀l:List Nat,(l.map fun(x:Nat)=>(x:Int)).foldr max (x:Int)=((l.foldr max x:Nat):Int):=by
   intro l
   induction l with
   |nil=>rfl
   |cons y l ih=>rw[bn,nG,ih,nG];exact xr ..
  have h2:∀l:List Nat,l.foldr max x=max x (l.foldr max 0):=by
   intro l
   induction l with
   |nil=>simp
   |cons y l ih=>rw[nG,ih,nG];exact Nat.max_left_comm ..
  rw[h1,h2];rfl
theorem GV(a b:List Nat):xU (a++b)=max (xU a) (xU b):=by
 unfold xU
 induction a with
 |nil=>simp
 |cons x a ih=>rw[List.cons_append,nG,ih,nG];exact(Nat.max_assoc ..).symm
theorem O8(l:List Nat):(l=[]/\Mi l=0/\xU l=0)\/Mi l=xU l+1:=by
 induction l with
 |nil=>exact .inl ⟨rfl,rfl,rfl⟩
 |cons x l ih=>
  right;rw[Ay,show xU (x::l)=max x (xU l)from rfl];rcases ih with⟨_,e1,e2⟩|e
  ·rw[e1,e2,Nat.max_zero,Nat.max_zero]
  ·rw[e,Nat.add_max_add_right]
theorem Tj{l:List Nat}{m:Nat}(h:∀x∈l,x<=m):xU l<=m:=by
 unfold xU
 induction l with
 |nil=>exact dU _
 |cons x l ih=>
  have h1:=h x dJ;have h2:=ih fun y hy=>h y (cw _ hy)
  rw[nG];omega
noncomputable def turn(l:List Nat):List Nat:=l.dropLast.reverse++l.drop (l.length-1)
theorem MG(f:Nat->Nat)(l:List Nat):(turn l).map f=turn (l.map f):=by
 unfold turn;rw[List.map_append,List.map_reverse,List.map_dropLast,nE,bi]
theorem IE{l:List Nat}(h:l≠[]):l.drop (l.length-1)=[l.getLast h]:=by
 have e:=rT h;have hl:l.dropLast.length=l.length-1:=nF
 conv=>lhs;rw[<-hl]
 conv=>lhs;arg 2;rw[<-e]
 simp
theorem qB{l:List Nat}(h:l≠[]):(turn l).dropLast=l.dropLast.reverse/\(turn l).getLast?=l.getLast?/\(turn l).length=l.length/\turn l≠[]:=by
 have hd:=IE h;have hlen:0<l.length:=uX.mpr h;unfold turn;rw[hd];refine⟨by simp,by rw[vh h];simp,?_,by simp⟩;rw[List.length_append,pO,nF,pU];omega
theorem IF{l l':List Int}(h:l.Perm l'):uw l=uw l':=by
 induction h with
 |nil=>rfl
 |cons x _ ih=>simp[oM,mr,ih]
 |swap x y l=>simp only[oM,mr];omega
 |trans _ _ h1 h2=>exact h1.trans h2
theorem Da{l:List Nat}(h:l≠[])(ts:Nat):cj (turn l) ts=cj l ts:=by
 obtain⟨h1,h2,_⟩:=qB h;unfold cj;rw[h1,h2]
 congr 1
 exact IF ((rQ _).map _)
theorem IG(l:List Int):zj [.list (l.map .int)]=some (.int (uw l)):=by
 have e:l.sum=uw l:=by
  induction l with
  |nil=>rfl
  |cons x l ih=>rw[List.sum_cons,mr,ih]
 rw[sum_ints,e]
theorem Fo{l:List V}(h1:1<=l.length)(hm:l.length<=most):eT (.list l) none (some (-1)) none=some (.list l.dropLast):=by
 have e:clip (some (-1:Int)) l.length l.length=l.length-1:=lm (k:=1) _ (by decide) h1;rw[nP,aw ⟨hm,nofun⟩,uG,e,List.dropLast_eq_take];rfl
theorem Db{xs:List V}{b:V}(h:xs[xs.length-1]?=some b)(hm:xs.length<=most):gt (.list xs) (.int (-1))=some b:=by
 have hk:=(eX.mp h).1;have hp:ff (-1) xs.length=some (xs.length-1):=by
  unfold ff;rw[az (by decide),aw (by omega)];exact congrArg some (by omega)
 rw[uB,aw hm,hp,cR,h]
theorem item_last{l:List Nat}(h:l≠[])(hm:l.length<=most):gt (gW l) (.int (-1))=some (.int ((l.getLast?).getD 0:Nat)):=by
 refine Db ?_ (by rw[bi];exact hm);rw[bi,bL,<-List.getLast?_eq_getElem?,vh h];rfl
theorem Tk{l:List Nat}(h:l≠[])(hm:l.length<=1000){size:Nat}(h0:0<size)(hs:size<=1000){ρ:al}(k0:ρ 0=some (gW l))(k1:ρ 1=some (.int size)):
  dA nH (eD zj (aQ (fj (fun ρ=>(ji (fun ρ=>ρ 0) (fun x=>some none) (fun ρ=>((some (V.int 1)).bind sy).bind mE) (fun x=>some none) ρ).bind elems) (fun ρ y=>some (upd ρ 0 y)) (fun x=>some true) (dA nH (dA zc (fun ρ=>ρ 0) (dA p0 (fun ρ=>ρ 0) fun ρ=>ρ 1)) fun ρ=>ρ 1) 1 [1]) fun x=>some [])) (f7 (fun ρ=>ρ 0) fun ρ=>(some (V.int 1)).bind sy) ρ=some (.int (cj l size)):=by
 have hz:0<(size:Int)/\(size:Int)<1073741824:=by omega
 have JF:l.length<=most:=aA hm (by decide);refine bu (dy (aq (db (fun ρ=>ρ 1=some (.int size)) l.dropLast (fun(x:Nat)=>V.int x) (fun(r:Nat)=>V.int ((r:Int)-(r:Int) % size+size)) (dy (eA k0 rfl rfl rfl (Fo (by rw[bi];exact uX.mpr h) (by rw[bi];exact JF))) (congrArg some List.map_dropLast.symm)) (gR (nF▸rZ _ _) (gR hm (by decide))) (fun x hx ρ hI=>ex1 ρ hI fun σ=>⟨_,rfl,rfl,bu (bu rfl (bu rfl rfl (Ab _ _ hz)) rfl) rfl rfl⟩) k1) rfl) (mx (congrArg (fun z=>zj [.list z]) (dK (g:=V.int) (f:=fun(r:Nat)=>(r:Int)-(r:Int) % size+size) (l:=l.dropLast)).symm) (IG _))) (cM k0 rfl (item_last h JF)) rfl
theorem Qg{A B:List Nat}(hA:A≠[])(hB:B≠[])(MH:A.length<=8)(MI:B.length<=8){size:Nat}(h0:0<size)(hs:size<=1000){ρ:al}(k18:ρ 18=some (gW A))(k19:ρ 19=some (gW B))(k21:ρ 21=some (.int size)):
  fj (fun ρ=>(Option.map V.tup (aQ (fun ρ=>ρ 18) (aQ (fun ρ=>ρ 19) fun x=>some []) ρ)).bind elems) (fun ρ y=>some (upd ρ 0 y)) (fun x=>some true)
   (dA nH (eD zj (aQ (fj (fun ρ=>(ji (fun ρ=>ρ 0) (fun x=>some none) (fun ρ=>((some (V.int 1)).bind sy).bind mE) (fun x=>some none) ρ).bind elems) (fun ρ y=>some (upd ρ 0 y)) (fun x=>some true) (dA nH (dA zc (fun ρ=>ρ 0) (dA p0 (fun ρ=>ρ 0) fun ρ=>ρ 1)) fun ρ=>ρ 1) 1 [1]) fun x=>some [])) (f7 (fun ρ=>ρ 0) fun ρ=>(some (V.int 1)).bind sy)) 1 [21] ρ=some (.list ([A,B].map fun l=>V.int (cj l size))):=by
 refine db (fun ρ=>ρ 1=some (.int size)) [A,B] gW (fun l=>.int (cj l size)) (dy (bh (aq k18 (aq k19 rfl)) rfl) rfl) (Lx (show 2<=8 by decide)) (fun l hl ρ hI=>?_) k21;have hx:l≠[]/\l.length<=8:=by
  rcases bp.mp hl with rfl|hl
  ·exact⟨hA,MH⟩
  ·rw[cN.mp hl]
   exact⟨hB,MI⟩
 exact ex1 ρ hI fun σ=>⟨_,rfl,rfl,Tk hx.1 (aA hx.2 (by decide)) h0 hs rfl rfl⟩
theorem MJ{F9:List V->Option V}{A B:List Nat}(hA:A≠[])(hB:B≠[])(MH:A.length<=8)(MI:B.length<=8){fi se:List V}{row:V}{K:Nat}(hK:K<=100)(hf:fi.length=5)(hs:se.length=5)
  (H9:∀size:Nat,0<size->size<=K->F9 [.obj fi,.int size]=some (.int (cj A size))/\F9 [.obj se,.int size]=some (.int (cj B size)))
  {ρ:al} (k:VZ 6 16 17 18 19 20 row (.obj fi) (.obj se) (gW A) (gW B) (.list []) ρ):
  ∃r,fg (fun ρ y=>some (upd ρ 21 y)) (eO (fun ρ=>(fj (fun ρ=>(Option.map V.tup (aQ (fun ρ=>ρ 18) (aQ (fun ρ=>ρ 19) fun x=>some []) ρ)).bind elems) (fun ρ y=>some (upd ρ 0 y)) (fun x=>some true)
    (dA nH (eD zj (aQ (fj (fun ρ=>(ji (fun ρ=>ρ 0) (fun x=>some none) (fun ρ=>((some (V.int 1)).bind sy).bind mE) (fun x=>some none) ρ).bind elems) (fun ρ y=>some (upd ρ 0 y)) (fun x=>some true) (dA nH (dA zc (fun ρ=>ρ 0) (dA p0 (fun ρ=>ρ 0) fun ρ=>ρ 1)) fun ρ=>ρ 1) 1 [1]) fun x=>some [])) (f7 (fun ρ=>ρ 0) fun ρ=>(some (V.int 1)).bind sy)) 1 [21] ρ).bind
     fun y=>Option.map (fun aY=>(aY,Fl.next)) (JE (dP (fun ρ y=>some (upd ρ 22 y)) (dP (fun ρ y=>some (upd ρ 23 y)) pk)) ρ y))
   (eO (fun ρ=>(qQ Df (fun ρ=>Option.map V.tup (aQ (zZ F9 (fun ρ=>ρ 16) (aQ (fun ρ=>ρ 21) fun x=>some [])) (aQ (zZ F9 (fun ρ=>ρ 17) (aQ (fun ρ=>ρ 21) fun x=>some [])) fun x=>some []) ρ)) (fun ρ=>Option.map V.tup (aQ (fun ρ=>ρ 22) (aQ (fun ρ=>ρ 23) fun x=>some []) ρ)) ρ).bind
     fun z=>if z=true then eO (fun ρ=>Option.map (fun x=>(ρ,Fl.ret x)) (some (V.bool false))) (fun ρ=>some (ρ,Fl.next)) ρ else some (ρ,Fl.next))
    (eO (fun ρ=>(qQ Df (fun ρ=>ρ 22) (fun ρ=>ρ 23) ρ).bind fun z=>if z=true then eO (fun ρ=>Option.map (fun r=>(r.fst,Fl.next)) (jc DX 20 (aQ (fun ρ=>Option.map V.tup (aQ (fun ρ=>ρ 21) (aQ (fun ρ=>ρ 22) (aQ (fun ρ=>ρ 23) fun x=>some [])) ρ)) fun x=>some []) ρ)) (fun ρ=>some (ρ,Fl.next)) ρ else some (ρ,Fl.next))
     fun ρ=>some (ρ,Fl.next)))) ((List.range K).map fun(j:Nat)=>V.int ((j+1:Nat):Int)) ρ=some r/\r.2= .next/\VZ 6 16 17 18 19 20 row (.obj fi) (.obj se) (gW A) (gW B) (ls (ig (cj A) (cj B) K)) r.1:=by
 refine oj (fun(j:Nat)=>V.int ((j+1:Nat):Int)) (List.range K) (fun l ρ=>VZ 6 16 17 18 19 20 row (.obj fi) (.obj se) (gW A) (gW B) (ls (l.foldl (eU (cj A) (cj B)) [])) ρ) (fun l j ρ hj de hR=>?_) k;have X4:=gD.mp hj;obtain⟨f1,f2⟩:=H9 (j+1) (nv j) X4;have Hh:j+1<=1000:=aA X4 (aA hK (by decide));rw[jX]at de;have oP:(l.foldl (eU (cj A) (cj B)) []).length<most:=gR (E2 _ _ l []) (by rw[eZ,gq];exact rU de (aA hK (by decide)));rw[m4,eJ,pY];generalize l.foldl (eU (cj A) (cj B)) []=st at*;have bN:Df (.tup [.int (cj A (j+1)),.int (cj B (j+1))]) (.tup [.int (cj A (j+1)),.int (cj B (j+1))])=some false:=(S6 [cj A (j+1),cj B (j+1)] [cj A (j+1),cj B (j+1)]).trans (by rw[eK rfl];rfl);unfold eU;by_cases q:cj A (j+1)=cj B (j+1)
 ·rw[aw q]
  exact hR.ex fun σ=>⟨_,_,rfl,bO (dy (Qg hA hB MH MI (nv j) Hh rfl rfl rfl) rfl) (bO (j5 (ba (bh (aq (e7 rfl hf rfl f1) (aq (e7 rfl hs rfl f2) rfl)) rfl) rfl bN) rfl) (bO (j5 (ba rfl rfl (P4 q)) rfl) rfl)),.mk rfl rfl rfl rfl rfl rfl⟩
 ·rw[az q]
  exact hR.ex fun σ=>⟨_,_,rfl,bO (dy (Qg hA hB MH MI (nv j) Hh rfl rfl rfl) rfl) (bO (j5 (ba (bh (aq (e7 rfl hf rfl f1) (aq (e7 rfl hs rfl f2) rfl)) rfl) rfl bN) rfl) (bO (tc (ba rfl rfl (neT q)) (bO (bh (pv rfl rfl (l3 _ _ (by rw[bi];exact oP))) rfl) rfl)) rfl)),.mk rfl rfl rfl rfl rfl (congrArg (fun z=>some (V.list z)) (iA (fun e=>V.tup (e.map .int)) st [((j+1:Nat):Int),cj A (j+1),cj B (j+1)]))⟩
theorem Dc{a b a' b':Nat->Int}{n:Nat}(h:∀j,j<n->a (j+1)=a' (j+1)/\b (j+1)=b' (j+1)):ig a b n=ig a' b' n:=by
 unfold ig;have go:∀(r:List Nat) (acc:List (List Int)),(∀j∈r,j<n)->r.foldl (eU a b) acc=r.foldl (eU a' b') acc:=by
  intro r
  induction r with
  |nil=>intros;rfl
  |cons x r ih=>
   intro acc hr;obtain⟨e1,e2⟩:=h x (hr x dJ);have:eU a b acc x=eU a' b' acc x:=by unfold eU;rw[e1,e2]
   rw[eJ,eJ,this];exact ih _ fun j hj=>hr j (cw _ hj)
 exact go _ _ fun j hj=>gD.mp hj
structure Wy(M:CM)(script:List Int)(F1 F2 F3 F4 F5:List V->Option V)(jI:List V->Option (List V))(F6 F7 F8 F9 O9 Pa:List V->Option V):Prop where
 row:∀t,0<=t->∃its,Au its/\F1 [.list (script.map .int),.int t]=some (.list (its.map As))
 name:∀k t d,0<=k/\k<9->0<=t->0<=d/\d<=17857->∃l,bT M (fw k t) l/\F2 [.int k,.int t,.int d]=some (.str l)
 Fp:∀d,F3 [.int d]=some (.str (fX d).flatten)
 runs:∀its:List RItem,its.length<=8->F4 [.list (its.map mQ)]=some (.dict (bU its).1 (bU its).2)
 check:i3 F5
 init:∀l:List Nat,l.length<=1000->jI [.str l]=some (SW l)
 spans:∀r:du,r.length<=60->F6 [mP r]=some (.list (qw r))
 nested:∀(r:du) d,bg bv (r.map (·.2)) 0= .inl d->r.length<=8->F7 [mP r]=some (.bool (eB r))
 read:∀l N d k o,bT M N l->N.length<=3->F8 [.str (l++(fX d).flatten++[xi k o])]=some (.tup [.str (N++uv (numOf k o)),.bool (numOf k o % 2==1)])
 level:∀(raw mR:V) (k:Int) (nt b ts:Nat) (cnt:List Int),cnt.length<=1000->(∀z∈cnt,0<=z/\z<=1000)->nt<=1000->0<ts->ts<=1000->F9 [mq raw mR k nt b cnt,.int ts]=some (.int (iT cnt nt b ts))
 witness:∀(raw mR:V) (k:Int) (nt b:Nat) (cnt:List Int) (oZ o0:V) (k':Int) (E1 b':Nat) (iU:List Int) (K:Nat),cnt.length<=1000->(∀z∈cnt,0<=z/\z<=1000)->nt<=1000->iU.length<=1000->(∀z∈iU,0<=z/\z<=1000)->E1<=1000->K<=1000->max (max ((cnt.length:Int)-1) b) (max ((iU.length:Int)-1) b')+1=K->
  O9 [mq raw mR k nt b cnt,mq oZ o0 k' E1 b' iU]=some (ls (ig (iT cnt nt b) (iT iU E1 b') K))
 equal:∀(raw mR:V) (k:Int) (nt b:Nat) (cnt:List Int) (oZ o0:V) (k':Int) (E1 b':Nat) (iU:List Int),Pa [mq raw mR k nt b cnt,mq oZ o0 k' E1 b' iU]=some (.bool (decide (cnt=iU)&&decide (b=b')))
theorem yE{l:List Nat}(h:l≠[]):xU l=max (xU l.dropLast) ((l.getLast?).getD 0):=by
 have e:=rT h
 conv=>lhs;rw[<-e]
 rw[GV,vh h,kM];simp[xU]
theorem GW(l:List Nat)(x:Nat):max (((max ([]:List Int).length (Mi l):Nat):Int)-1) (x:Int)=((max (xU l) x:Nat):Int):=by
 rw[eZ,Nat.zero_max];rcases O8 l with⟨_,e1,e2⟩|e
 ·rw[e1,e2,Nat.zero_max]
  exact rY (pg (by decide) (mz x))
 ·rw[e,<-xr]
  exact congrArg (fun z=>max z (x:Int)) (show((xU l+1:Nat):Int)-1=(xU l:Int)from DI (xU l:Int) 1)
theorem Pb(a b:Nat):max (a:Int) (b:Int)+1=((max a b+1:Nat):Int):=by rw[xr];rfl
theorem GZ{M:CM}{N:List Nat}{nm:Item->List Nat}{e:Item}(h:bT M N (nm e)):∃c l,Mx nm e=c::l/\c≠32/\c≠9/\(Mx nm e).length<=10:=by
 obtain⟨c,l,hc⟩:=uT h.ne;have Di:=cD.mp h.ok c (by rw[hc];exact dJ);simp only[LC,dI,bne_iff_ne]at Di;have hl:=h.len;have hr:=(te e.2.2).2.2.1;refine⟨c,l++(fX e.2.2).flatten++[xi e.1 e.2.1],by simp[Mx,hc],Di.1.1.2,Di.1.2,?_⟩;unfold Mx;rw[List.length_append,List.length_append,pU];omega
theorem Pc{its:List Item}(hl:its.length<=8){ρ:al}(k6:ρ 6=some (mP (cm its))):
  fj (fun ρ=>(ρ 6).bind elems) (tJ (dP (fun ρ y=>some (upd ρ 0 y)) (dP (fun ρ y=>some (upd ρ 1 y)) pk))) (fun x=>some true) (fun ρ=>Option.map V.tup (aQ (fun x=>some (V.int 0)) (aQ (fun ρ=>ρ 1) fun x=>some []) ρ)) 2 [] ρ=some (mP (dY (cm its))):=
 mx (db (fun ø=>True) (cm its) (fun e=>V.tup [.int e.1,.bool e.2]) (fun e=>V.tup [.int 0,.bool e.2]) (dy k6 rfl) (by rw[bi];exact Lx hl) (fun e he ρ ø=>⟨_,rfl,trivial,rfl⟩) trivial) (congrArg (fun z=>some (V.list z)) (by rw[dY,dK,dK,dK];rfl))
theorem xt{l:List Nat}{x:Nat}(h:x∈turn l):x∈l:=by
 unfold turn at h;rcases cr.mp h with h|h
 ·exact List.dropLast_subset _ (pN.mp h)
 ·exact List.mem_of_mem_drop h
theorem Pd{os:List Nat}(h2:2<=os.length)(hm:os.length<=1000){ρ:al}(k15:ρ 15=some (gW os)):
  Option.bind (dA nH (ji (fun ρ=>ρ 15) (fun ρ=>((some (V.int 2)).bind sy).bind mE) (fun x=>some none) fun ρ=>((some (V.int 1)).bind sy).bind mE) (ji (fun ρ=>ρ 15) (fun ρ=>((some (V.int 1)).bind sy).bind mE) (fun x=>some none) fun x=>some none) ρ) elems=some ((turn os).map fun(k:Nat)=>V.int k):=by
 have hl:(os.map fun(x:Nat)=>V.int x).length=os.length:=bi ..;have JF:(os.map fun(x:Nat)=>V.int x).length<=most:=by rw[hl];exact aA hm (by decide)
 refine dy (bu (eA k15 rfl rfl rfl (Fk (hl.symm▸h2) JF)) (eA k15 rfl rfl rfl (Fj (by omega) JF)) (uI _ _ (by rw[pO,nF,mZ];omega))) (congrArg some ?_);rw[turn,List.map_append,List.map_reverse,List.map_dropLast,nE,hl]
theorem G0{rs:List Nat}{m:Nat}(h:∀r∈rs,r<=m)(hl:rs.length<=8):(rs.dropLast.foldl bump []).length<=m+1/\∀z∈rs.dropLast.foldl bump [],0<=z/\z<=1000:=by
 constructor
 ·rw[i4]
  have:=S9 (l:=rs.dropLast) (m:=m+1) fun r hr=>Nat.lt_succ_of_le (h r (List.dropLast_subset _ hr))
  exact Nat.max_le.mpr ⟨dU _,this⟩
 ·intro z hz
  have:=Ii rs.dropLast z hz;rw[nF]at this;omega
noncomputable def lA(its:List Item):List Nat:=(mS its).map (ga (dY (cm its)))
noncomputable def lB(its:List Item):List Nat:=(mS its).map (ga (cm its))
theorem MK(its:List Item):hU (dY (cm its))=lA its:=by
 have e:(dY (cm its)).map (·.2)=(cm its).map (·.2):=by rw[dK];rfl
 rw[hU,e];rfl
theorem Qh(its:List Item):hU (cm its)=lB its:=rfl
theorem IH{C:Prop}{M:CM}{script:List Int}{F1 F2 F3 F4 F5:List V->Option V}{jI:List V->Option (List V)}{F6 F7 F8 F9 O9 Pa:List V->Option V}(H:Wy M script F1 F2 F3 F4 F5 jI F6 F7 F8 F9 O9 Pa)
  (f:∀(its:List Item) (nm:Item->List Nat) (e0 e9:Item) (fi se:List V) (K:Nat),its.length<=8->its≠[]->bg bv (its.map (·.2.1)) 0= .inl 0->F1 [.list (script.map .int),.int (gM script)]=some (.list (its.map As))->
   (∀e∈its,bT M (fw e.1 (gM script)) (nm e)/\F2 [.int e.1,.int (gM script),.int e.2.2]=some (.str (nm e)))->(∀e∈its,F8 [Fn nm e]=some (uO (gM script) e))->(mS its).length<=4->2<=(mS its).length->
   (∀s∈mS its,(bR (bU (gN its)).1 (bU (gN its)).2 s).getD (.int 0)= .int (ga (dY (cm its)) s)/\ga (dY (cm its)) s<=100)->
   (∀s∈turn (mS its),(bR (partsOf (gM script) its).1 (partsOf (gM script) its).2 s).getD (.int 0)= .int (ga (cm its) s)/\ga (cm its) s<=100)->
   gt (.list (its.map (Fn nm))) (.int 0)=some (Fn nm e0)->gt (.list (its.map (Fn nm))) (.int (-1))=some (Fn nm e9)->(fO (lA its)).length+(Mx nm e0).length<=900->(fO (turn (lB its))).length+(Mx nm e9).length<=900->
   jI [.str (fO (lA its)++Mx nm e0++[32,9,32])]=some fi->jI [.str (fO (turn (lB its))++Mx nm e9)]=some se->fi.length=5->se.length=5->
   F6 [mP (dY (cm its))]=some (gW (lA its))->F6 [mP (cm its)]=some (gW (lB its))->lA its≠[]->lB its≠[]->si [.int 1,.int ((xU (lA its++lB its):Int)+2)]=some ((List.range K).map fun(j:Nat)=>V.int ((j+1:Nat):Int))->K<=100->
   (∀size:Nat,0<size->size<=K->F9 [.obj fi,.int size]=some (.int (cj (lA its) size))/\F9 [.obj se,.int size]=some (.int (cj (lB its) size)))->
   O9 [.obj fi,.obj se]=some (ls (ig (cj (lA its)) (cj (lB its)) K))->Pa [.obj fi,.obj se]=some (.bool (eB (cm its)))->F7 [mP (cm its)]=some (.bool (eB (cm its)))->C):C:=by
 have Bp:most=1000000:=rfl;have ht:0<=gM script:=by unfold gM;omega
 obtain⟨its,hG,xC⟩:=H.row (gM script) ht;have AO:its.length<=8:=by rcases hG.len with e|e<;>omega
 have bN:its≠[]:=fun z=>by have:=hG.len;rw[z]at this;simp at this
 have Ut:∀e∈its,0<=e.1/\e.1<9:=fun e he=>⟨(hG.ok e he).1,(hG.ok e he).2.1⟩
 obtain⟨nm,HA⟩:∃nm:Item->List Nat,∀e∈its,bT M (fw e.1 (gM script)) (nm e)/\F2 [.int e.1,.int (gM script),.int e.2.2]=some (.str (nm e)):=by
  have hex:∀e:Item,∃l,e∈its->bT M (fw e.1 (gM script)) l/\F2 [.int e.1,.int (gM script),.int e.2.2]=some (.str l):=fun e=>by
   by_cases he:e∈its
   ·obtain⟨o1,o2,o3,o4⟩:=hG.ok e he
    obtain⟨l,h1,h2⟩:=H.name e.1 (gM script) e.2.2 ⟨o1,o2⟩ ht ⟨o3,o4⟩;exact⟨l,fun ø=>⟨h1,h2⟩⟩
   ·exact⟨[],fun h=>absurd h he⟩
  exact⟨fun e=>Classical.choose (hex e),fun e he=>Classical.choose_spec (hex e) he⟩
 have ML:∀e∈its,F8 [.str (Mx nm e)]=some (uO (gM script) e):=fun e he=>by
  have:=H.read (nm e) (fw e.1 (gM script)) e.2.2 e.1 e.2.1 (HA e he).1 (Mq _ _ ht);rw[OT,OS]at this;exact this
 have Qi:(cm its).length=its.length:=bi ..;have hdk:bg bv ((cm its).map (·.2)) 0= .inl 0:=by
  have e:(cm its).map (·.2)=its.map (·.2.1):=by rw[dK];rfl
  rw[e];exact hG.dyck
 have hDy:CU (cm its):=⟨by rw[Qi];exact hG.len,hdk⟩;obtain⟨Wz,WA⟩:=hDy.spec;rw[Qi]at Wz;have hol:(mS its).length*2=its.length:=by rw[pO];exact Wz
 have hAl:(lA its).length=(mS its).length:=bi ..;have hBl:(lB its).length=(mS its).length:=bi ..;have MH:∀x∈(lA its),x<=8:=fun x hx=>by
  have:=GG ((MK its).symm▸hx);have e:(dY (cm its)).length=its.length:=by rw[bi,Qi]
  omega
 have MI:∀x∈(lB its),x<=8:=fun x hx=>by
  have:=GG (r:=cm its) hx;omega
 have h68:6<=its.length:=by rcases hG.len with e|e<;>omega
 have Fq:(lA its)≠[]:=fun z=>by have:=congrArg List.length z;simp only[eZ]at this;omega
 have Dd:(lB its)≠[]:=fun z=>by have:=congrArg List.length z;simp only[eZ]at this;omega
 obtain⟨t1,t2,t3,t4⟩:=qB Dd;obtain⟨e0,DZ⟩:∃e0,its[0]?=some e0:=get_mem (by omega);obtain⟨c0,l0,hp0,hc1,hc2,ac5⟩:=GZ (HA e0 (my DZ)).1;have hAT:=tz (lA its) fun r hr=>aA (MH r hr) (by decide)
 have hBT:=tz (turn (lB its)) fun r hr=>aA (MI r (xt hr)) (by decide)
 rw[t3]at hBT;obtain⟨raw,mR,k,hfi⟩:=C9 (rs:=(lA its)) (l:=l0++[32,9,32]) hc1 hc2 Fq;have ac6:V.obj (SW (fO (lA its)++Mx nm e0++[32,9,32]))=AJ (lA its) raw mR k:=by rw[hp0,List.append_assoc];exact hfi
 obtain⟨e9,he9⟩:∃e9,its[its.length-1]?=some e9:=get_mem (by omega);obtain⟨c9',l9',hp9,hc3,hc4,hp9l⟩:=GZ (HA e9 (my he9)).1;obtain⟨oZ,o0,k',X5⟩:=C9 (rs:=turn (lB its)) (l:=l9') hc3 hc4 t4;rw[<-hp9]at X5;have VP:gt (.list (its.map (Fn nm))) (.int 0)=some (Fn nm e0):=gI (k:=0) (by rw[bL,DZ];rfl) (Lw AO);have hi9:gt (.list (its.map (Fn nm))) (.int (-1))=some (Fn nm e9):=Db (by rw[bi,bL,he9];rfl) (Lw AO);have xX:(mS its).length<=4:=by omega
 have hbA:∀s∈mS its,(bR (bU (gN its)).1 (bU (gN its)).2 s).getD (.int 0)= .int (ga (dY (cm its)) s)/\ga (dY (cm its)) s<=100:=fun s ly=>by
  obtain⟨e,he,ho⟩:=GU ly;refine⟨Mo he ho,aA (xe (dY (cm its)) s) ?_⟩;rw[bi,Qi];exact aA AO (by decide)
 have hbB:∀s∈turn (mS its),(bR (partsOf (gM script) its).1 (partsOf (gM script) its).2 s).getD (.int 0)= .int (ga (cm its) s)/\ga (cm its) s<=100:=fun s ly=>by
  obtain⟨e,he,ho⟩:=GU (xt ly);exact⟨MB ht Ut he ho,aA (xe (cm its) s) (by rw[Qi];exact aA AO (by decide))⟩
 have hsA:F6 [mP (dY (cm its))]=some (gW (lA its)):=by rw[H.spans _ (by rw[bi,Qi];omega),GH,MK]
 have hsB:F6 [mP (cm its)]=some (gW (lB its)):=by rw[H.spans _ (by rw[Qi];omega),GH,Qh]
 have hA4:(lA its).length<=4:=hAl▸xX;have hB4:(lB its).length<=4:=hBl▸xX;obtain⟨K,hK⟩:∃K,K=xU ((lA its)++(lB its))+1:=⟨_,rfl⟩;have hK9:K<=9:=by
  have:=Tj (l:=(lA its)++(lB its)) (m:=8) fun x hx=>by
   rcases cr.mp hx with hx|hx
   ·exact MH x hx
   ·exact MI x hx
  omega
 have hAc:=G0 MH (by omega);have ac7:∀r∈turn (lB its),r<=8:=fun r hr=>MI r (xt hr)
 have hBc:=G0 ac7 (by rw[t3];omega);have WB:∀size:Nat,0<size->size<=K->F9 [AJ (lA its) raw mR k,.int size]=some (.int (cj (lA its) size)):=fun size z1 z2=>by
  rw[<-oN (lA its) size z1];exact H.level _ _ _ _ _ _ _ (by omega) hAc.2 (by omega) z1 (by omega)
 have WE:∀size:Nat,0<size->size<=K->F9 [AJ (turn (lB its)) oZ o0 k',.int size]=some (.int (cj (lB its) size)):=fun size z1 z2=>by
  rw[<-Da Dd size,<-oN (turn (lB its)) size z1];exact H.level _ _ _ _ _ _ _ (by omega) hBc.2 (by rw[t3];omega) z1 (by omega)
 have Tl:si [.int 1,.int ((xU ((lA its)++(lB its)):Int)+2)]=some ((List.range K).map fun(j:Nat)=>V.int ((j+1:Nat):Int)):=by
  rw[<-Qb (k:=K) (by omega),hK];rfl
 have Tm:O9 [AJ (lA its) raw mR k,AJ (turn (lB its)) oZ o0 k']=some (ls (ig (cj (lA its)) (cj (lB its)) K)):=by
  have hKe:max (max ((((lA its).dropLast.foldl bump []).length:Int)-1) (((lA its).getLast?).getD 0:Nat)) (max ((((turn (lB its)).dropLast.foldl bump []).length:Int)-1) (((turn (lB its)).getLast?).getD 0:Nat))+1=K:=by
   rw[i4,i4,t1,t2,CO (rQ (lB its).dropLast),GW,GW,<-yE Fq,<-yE Dd,hK,GV];exact Pb _ _
  have:=H.witness raw mR k ((lA its).length-1) (((lA its).getLast?).getD 0) ((lA its).dropLast.foldl bump []) oZ o0 k' ((turn (lB its)).length-1) (((turn (lB its)).getLast?).getD 0) ((turn (lB its)).dropLast.foldl bump []) K (by omega) hAc.2 (by omega) (by omega) hBc.2 (by rw[t3];omega) (by omega) hKe;refine this.trans (congrArg (fun z=>some (ls z)) ?_);exact Dc fun j hj=>⟨oN (lA its) (j+1) (by omega),by rw[oN (turn (lB its)) (j+1) (by omega),Da Dd]⟩
 have heq:Pa [AJ (lA its) raw mR k,AJ (turn (lB its)) oZ o0 k']=some (.bool (eB (cm its))):=by
  refine(H.equal ..).trans (congrArg (fun z=>some (V.bool z)) ?_);rw[WA,MK,Qh,t1,t2,yH];simp only[dI,iH,List.isPerm_iff,jT];rw[E4];rw[vh Fq,vh Dd];simp only[kM,Option.some.injEq];exact⟨fun h=>⟨h.1.trans (rQ _),h.2⟩,fun h=>⟨h.1.trans (rQ _).symm,h.2⟩⟩
 have vm:F7 [mP (cm its)]=some (.bool (eB (cm its))):=H.nested _ 0 hdk (by rw[Qi];exact AO);exact f its nm e0 e9 _ _ K AO bN hG.dyck xC HA ML xX (by omega) hbA hbB VP hi9 (by omega) (by omega) ((H.init _ (by rw[List.length_append,List.length_append];exact aA (m7 (pZ hAT ac5) 3) (by omega))).trans (congrArg some (V.obj.inj ac6))) ((H.init _ (by rw[List.length_append];omega)).trans (congrArg some (V.obj.inj X5))) rfl rfl hsA hsB Fq Dd Tl (by omega) (fun size z1 z2=>⟨WB size z1 z2,WE size z1 z2⟩) Tm heq vm
theorem Pe{P:Pk}{n:Nat}{C N:Addr}{mN:Str->Option Value}{W:cP P C N mN}{tZ}{a1 F1 g1 h1 c1}{a2 F2 g2 h2 c2}{a3 F3 g3 h3 c3}{bz cb}{a4 F4 g4 h4 c4}{eQ wV}{a5 F5 g5 h5 c5}{g_W}{jI}{mk}{a6 F6 g6 h6 c6}{lp}{a7 F7 g7 h7 c7}{a8 F8 g8 h8 c8}{a9 F9 m9 o9 l9 c9}{a10 O9 m10 o10 l10 WF}{a11 Pa m11 o11 l11 WG}{ρ:al}
  {M:CM} {script:List Int} (H:Wy M script F1 F2 F3 F4 F5 jI F6 F7 F8 F9 O9 Pa) (hs:script.length<=63) (k0:ρ 0=some (.list (script.map .int))):
  (C1 (P:=P) (n:=n) (C:=C) (N:=N) (mN:=mN) W tZ (mu:=a1) (xj:=F1) g1 h1 c1 (kb:=a2) (uc:=F2) g2 h2 c2 (ii:=a3) (pC:=F3) g3 h3 c3 bz cb (kf:=a4) (ud:=F4) g4 h4 c4 eQ wV (bb:=a5) (cA:=F5) g5 h5 c5 g_W (jI:=jI) mk (iX:=a6) (rE:=F6) g6 h6 c6 lp (ij:=a7) (pH:=F7) g7 h7 c7 (kg:=a8) (uh:=F8) g8 h8 c8 (cc:=a9) (fM:=F9) m9 o9 l9 c9 (ee:=a10) (iM:=O9) m10 o10 l10 WF (uN:=a11) (GO:=Pa) m11 o11 l11 WG).1 ρ=some (.bool true):=by
 unfold C1;refine IH H fun its nm e0 e9 fi se K AO bN hd xC HA ML xX Tn hbA hbB VP hi9 hl0 hl9 hfi X5 hf5 hs5 hsA hsB Fq Dd Tl hK ac8 Tm heq vm=>?_
 have h9:900+3<=most:=by decide
 have MH:(lA its).length<=8:=by rw[lA,bi];exact aA xX (by decide)
 have MI:(lB its).length<=8:=by rw[lB,bi];exact aA xX (by decide)
 have htl:(turn (mS its)).length<=1000:=by rw[(qB (l:=mS its) fun z=>by rw[z]at Tn;cases Tn).2.2.1];exact aA xX (by decide)
 refine dw (Mw hs k0) (dw (dy (aq k0 rfl) xC) (dw (Th AO rfl) (dw rfl (xl rfl (My AO HA H.Fp (.mk rfl rfl rfl rfl)) fun ad7 hR=>hR.ex fun σ=>Mt rfl (dw (O1 AO ML rfl) (dw (O2 AO rfl) (dw (Mz H.Fp AO rfl rfl) (dw (bJ rfl (H.runs (gN its) (by rw[rI];exact AO))) (dw rfl (xl (O3 AO rfl) (O4 H.runs AO (.mk rfl rfl rfl rfl rfl rfl rfl)) fun ad8 hR=>hR.ex fun σ=>Mt rfl (AH (j5 (ME H.check AO bN hd rfl) rfl) (dw (O7 AO rfl) ?_))))))))))));refine dw (dy (aq (bu (bu (yD (aA xX (by decide)) hbA rfl rfl) (cM rfl rfl VP) (j4 _ _ (aA hl0 (by decide)))) rfl (j4 _ _ (by rw[List.length_append];exact aA (m7 hl0 3) h9))) rfl) (bh hfi rfl)) (dw (dy (aq (bu (mx (yD htl hbB (Pd Tn (aA xX (by decide)) rfl) rfl) (congrArg (fun z=>some (V.str (fO z))) (MG _ (mS its)))) (cM rfl rfl hi9) (j4 _ _ (aA hl9 (by decide)))) rfl) (bh X5 rfl)) ?_);refine dw (dy (aq (Pc AO rfl) rfl) hsA) (dw (bJ rfl hsB) (dw rfl (xl (dy (aq rfl (aq (bu (bJ (bu rfl rfl (uI _ _ (by rw[bi,bi];exact aA (pZ MH MI) (by decide)))) ((congrArg (fun z=>Ed [.list z]) List.map_append.symm).trans (ID fun z=>Fq (List.append_eq_nil_iff.mp z).1))) rfl rfl) rfl)) Tl) (MJ Fq Dd MH MI hK hf5 hs5 ac8 (.mk rfl rfl rfl rfl rfl rfl)) fun ad9 hR=>hR.ex fun σ=>AH (j5 (ba (e7 rfl hf5 rfl Tm) rfl (Mg _)) rfl) (dy (Sr (bh (bh (ba (e7 rfl hf5 rfl heq) (bJ rfl vm) (QB _ _)) rfl) rfl)) ?_))));rw[pJ]
section
noncomputable def MM(ps:List Str)(f:al->Option (al×Fl)):List V->Option V:=fun xs=>if xs.length=ps.length then(f (oR xs)).bind Ui else none
theorem hV{ps:List Str}{f:al->Option (al×Fl)}{xs:List V}{v:V}(hl:xs.length=ps.length)(h:Ends f (oR xs) v):MM ps f xs=some v:=by
 obtain⟨aY,e⟩:=h;unfold MM;rw[aw hl,e];rfl
theorem Qj{ps:List Str}{f:al->Option (al×Fl)}{xs:List V}{Q:V->Prop}(hl:xs.length=ps.length)(h:td f (oR xs) Q):∃v,Q v/\MM ps f xs=some v:=by
 obtain⟨v,q,e⟩:=h;exact⟨v,q,hV hl e⟩
section
variable{P:Pk}
theorem gO{n:Nat}{a:Addr}{fd:FuncData}{st:Stmt}{ps:List Str}{K:Cx}{f:al->Option (al×Fl)}(De:∀h,P.G h->(∃o,h.get? a=some o/\o.cls= .type "function"/\o.data= .func fd)/\h.CodeRec fd.code fd.qualname)(F:nV fd st ps)(ok:Np K (kh st) ps=true)(Bh:ps.Nodup)
  (N5:(kh st).isCoroutine=false) (ur:(kh st).isGenerator=false) (h:p5 P n K (dz st) f):aZ P (n+1) (.ref a) (MM ps f):=
 aZ.fn (fd:=fd) (fun h G=>by
  obtain⟨⟨o,h1,h2,h3⟩,h4⟩:=De h G;exact⟨⟨o,h1,h3⟩,h4⟩) F.body F.gl F.bl F.clo F.bind (by rw[F.scope];exact vw.of ok) Bh (by rw[F.scope];exact N5) (by rw[F.scope];exact ur) h
variable(X:bF P)
include X
theorem bF.G1:∃F,aZ P 1 (.ref 35) F/\∀us,jP us=true->us.flatten.length<=10000->us.length<=10000->F [.str us.flatten]=some (.str (gk us).flatten):=
 ⟨_,gO (fun h G=>PL (X.top h G) fun ø ø e=>e) (U9 P.w.params) (by decide+kernel) (by decide+kernel) (by kernel_rfl) (by kernel_rfl) (dS (n:=0) X.fB X.gen X.cb).2,fun us h1 h2 h3=>hV rfl (HL h1 h2 h3 rfl)⟩
theorem bF.ac9:∃F,aZ P 1 (.ref 60) F/\∀c:Nat,F [.str [c]]=some (.bool (decide ((c:Int)∈VV))):=
 ⟨_,gO (fun h G=>PN (X.top h G) fun ø ø e=>e) (Vd P.w.params) (by decide+kernel) (by decide+kernel) (by kernel_rfl) (by kernel_rfl) (SK (n:=0) X.wO X.Ox (Sm X.top)).2,fun c=>hV rfl (SN rfl)⟩
theorem bF.ad0:∃F,aZ P 1 (.ref 106) F/\∀c:Nat,(oS [c]).length<10->F [.str [c]]=some (.str ((MY FU c).getD (oS [c]))):=
 ⟨_,gO (fun h G=>Kl (X.top h G) fun ø ø e=>e) (RD P.w.params) (by decide+kernel) (by decide+kernel) (by kernel_rfl) (by kernel_rfl) (SM (n:=0) X.wO X.wU (R1 X.top)).2,fun c hc=>hV rfl (SO hc rfl)⟩
theorem bF.WH:∃F,aZ P 1 (.ref 180) F/\∀script:List Int,script.length<=63->∀t,0<=t->∃its,Au its/\F [.list (script.map .int),.int t]=some (.list (its.map As)):=
 ⟨_,gO (fun h G=>Ku (X.top h G) fun ø ø e=>e) (RN P.w.params) (by decide+kernel) (by decide+kernel) (by kernel_rfl) (by kernel_rfl) (tj (n:=0) X.cb).2,fun script hs t ht=>by
  obtain⟨v,⟨its,h1,rfl⟩,h2⟩:=Qj (ps:=Kv) (xs:=[.list (script.map .int),.int t]) rfl (OE hs ht rfl rfl);exact⟨its,h1,h2⟩⟩
theorem bF.To(M:CM):∃F,aZ P 1 (.ref 185) F/\∀k t d,0<=k/\k<9->0<=t->0<=d/\d<=17857->∃l,bT M (fw k t) l/\F [.int k,.int t,.int d]=some (.str l):=by
 have hr:∀k t d:Int,0<=k/\k<9->0<=t->0<=d/\d<=17857->td (jB (P:=P) (n:=0) X.wN X.bz X.ry X.wO).1 (oR [.int k,.int t,.int d]) fun v=>∃l,bT M (fw k t) l/\v= .str l:=fun k t d hk ht hd=>LD (M:=M) hk ht hd rfl rfl rfl
 have hB:p5 P 0 qj (dz (aJ pq.main.body 63)) (jB (P:=P) (n:=0) X.wN X.bz X.ry X.wO).1:=Subtype.property _;generalize(jB (P:=P) (n:=0) X.wN X.bz X.ry X.wO).1=f at*;refine⟨MM Ek f,gO (K:=qj) (f:=f) (fun h G=>Kw (X.top h G) fun ø ø e=>e) (RO P.w.params) (by decide+kernel) (by decide+kernel) (by kernel_rfl) (by kernel_rfl) (by assumption),fun k t d hk ht hd=>?_⟩;obtain⟨v,⟨l,h1,rfl⟩,h2⟩:=Qj (ps:=Ek) (xs:=[.int k,.int t,.int d]) rfl (hr k t d hk ht hd);exact⟨l,h1,h2⟩
theorem bF.MN:∃F,aZ P 1 (.ref 192) F/\∀d,F [.int d]=some (.str (fX d).flatten):=
 ⟨_,gO (fun h G=>Kx (X.top h G) fun ø ø e=>e) (RQ P.w.params) (by decide+kernel) (by decide+kernel) (by kernel_rfl) (by kernel_rfl) (l7 (n:=0)).2,fun d=>hV rfl (EN rfl)⟩
theorem bF.MO:∃F,aZ P 1 (.ref 216) F/\∀(r:du) d,bg bv (r.map (·.2)) 0= .inl d->r.length<=8->F [mP r]=some (.bool (eB r)):=
 ⟨_,gO (fun h G=>KC (X.top h G) fun ø ø e=>e) (RY P.w.params) (by decide+kernel) (by decide+kernel) (by kernel_rfl) (by kernel_rfl) (mi (n:=0)).2,fun r d hd hl=>hV rfl (EV hd hl rfl)⟩
theorem bF.G2:∃F,aZ P 2 (.ref 42) F/\i3 F:=by
 obtain⟨F1,c1,s1⟩:=X.G1;exact⟨_,gO (fun h G=>PM (X.top h G) fun ø ø e=>e) (Vb P.w.params) (by decide+kernel) (by decide+kernel) (by kernel_rfl) (by kernel_rfl) (fY (n:=1) X.f8 X.f9 c1 X.fB X.gen).2,HT s1 fun t ws h1 h2 h3=>hV rfl (HM (us:=[]) h1 h2 h3 rfl)⟩
theorem bF.Tp:∃F,aZ P 3 (.ref 204) F/\∀its:List RItem,its.length<=8->F [.list (its.map mQ)]=some (.dict (bU its).1 (bU its).2):=by
 obtain⟨F1,c1,s1⟩:=X.G2;exact⟨_,gO (fun h G=>Kz (X.top h G) fun ø ø e=>e) (RU P.w.params) (by decide+kernel) (by decide+kernel) (by kernel_rfl) (by kernel_rfl) (qt (n:=2) X.bz X.cb X.ea X.ec c1).2,fun its hl=>hV rfl (L1 hl s1 rfl)⟩
theorem bF.Tq:∃F,aZ P 2 (.ref 199) F/\∀l N d k o,bT XV N l->N.length<=3->F [.str (l++(fX d).flatten++[xi k o])]=some (.tup [.str (N++uv (numOf k o)),.bool (numOf k o % 2==1)]):=by
 obtain⟨F1,c1,s1⟩:=X.G1;obtain⟨F2,c2,s2⟩:=X.ac9;obtain⟨F3,c3,s3⟩:=X.ad0;have hM:Go XV F2 F3:=fun c hc=>by
  by_cases q:(c:Int)∈VV
  ·refine .inl ⟨by rw[s2,eK q],?_⟩
   show MZ c=[];unfold MZ;rw[aw q]
  ·refine .inr ⟨by rw[s2,mB q],?_⟩
   rw[s3 c hc];show _=some (V.str (MZ c));unfold MZ;rw[az q]
 refine⟨_,gO (fun h G=>Ky (X.top h G) fun ø ø e=>e) (RS P.w.params) (by decide+kernel) (by decide+kernel) (by kernel_rfl) (by kernel_rfl) (qk (n:=1) X.f8 X.f9 c1 X.fB X.gen X.cb X.Ai X.Ak c2 X.xO X.xP c3 X.ql (Of X.top) X.LE).2,fun l N d k o hg hN=>hV rfl (LH s1 hM hg hN (Td k o) ?_ (OU k o) rfl)⟩;obtain⟨t1,t2,t3,t4,t5,t6⟩:=Sn P.w.params;unfold xi numOf;cases o
 ·split
  ·exact t2
  ·split
   ·exact t4
   ·exact t6
 ·split
  ·exact t1
  ·split
   ·exact t3
   ·exact t5
theorem bF.Pf:∃F,aZ P 1 (.ref 209) F/\∀r:du,r.length<=60->F [mP r]=some (.list (qw r)):=by
 have W:=n6 X.ob X.top;have F:=RV P.w.params;refine⟨_,aZ.fnT (n:=0) (K:=iS) (fd:=fdOf ju) (ps:=KB) (fun h G=>by
  obtain⟨⟨o,h1,h2,h3⟩,h4⟩:=KA (X.top h G) fun ø ø e=>e
  exact⟨⟨o,h1,h3⟩,h4⟩) F.body F.gl F.bl F.clo F.bind (by rw[F.scope];exact vw.of (by decide+kernel)) (by decide+kernel) (by rw[F.scope];kernel_rfl) (by rw[F.scope];kernel_rfl) (E0 W X.eQ X.bz X.cb),fun r hr=>?_⟩
 have un:∀r:du,oy (r.map fun e=>.tup [.int e.1,.bool e.2])=some r:=fun r=>by
  induction r with
  |nil=>rfl
  |cons e r ih=>simp[H0,H1,HY,ih]
 show(Option.bind (some (mP r)) fun x=>Me [x])=_;show(oy (r.map fun e=>V.tup [.int e.1,.bool e.2])).bind (fun r=>if r.length<=60 then some (V.list (qw r))else none)=_;rw[un,cR,aw hr]
theorem bF.II:∃F,aZ P 1 (.ref 130) F/\∀(raw mR:V) (k:Int) (nt b:Nat) (cnt:List Int),cnt.length<=1000->F [mq raw mR k nt b cnt]=some (.int (max ((cnt.length:Int)-1) b)):=
 ⟨_,gO (fun h G=>Ko (X.top h G) fun ø ø e=>e) (RG P.w.params) (by decide+kernel) (by decide+kernel) (by kernel_rfl) (by kernel_rfl) (eC (n:=0) (n6 X.ob X.top) X.lp X.cb).2,fun raw mR k nt b cnt hc=>hV rfl (CJ hc rfl)⟩
theorem bF.G3:∃F,aZ P 1 (.ref 137) F/\∀(raw mR:V) (k:Int) (nt b ts:Nat) (cnt:List Int),cnt.length<=1000->(∀z∈cnt,0<=z/\z<=1000)->nt<=1000->0<ts->ts<=1000->F [mq raw mR k nt b cnt,.int ts]=some (.int (iT cnt nt b ts)):=
 ⟨_,gO (fun h G=>Kq (X.top h G) fun ø ø e=>e) (RI P.w.params) (by decide+kernel) (by decide+kernel) (by kernel_rfl) (by kernel_rfl) (jF (n:=0) (n6 X.ob X.top) X.bz X.cb).2,fun raw mR k nt b ts cnt h1 h2 h3 h4 h5=>hV rfl (HW h1 h2 h3 h4 h5 rfl rfl)⟩
theorem bF.AG:∃F,aZ P 1 (.ref 144) F/\∀(raw mR:V) (k:Int) (nt b:Nat) (cnt:List Int) (oZ o0:V) (k':Int) (E1 b':Nat) (iU:List Int),F [mq raw mR k nt b cnt,mq oZ o0 k' E1 b' iU]=some (.bool (decide (cnt=iU)&&decide (b=b'))):=
 ⟨_,gO (fun h G=>Kr (X.top h G) fun ø ø e=>e) (RK P.w.params) (by decide+kernel) (by decide+kernel) (by kernel_rfl) (by kernel_rfl) (Ax (n:=0) (n6 X.ob X.top)).2,fun raw mR k nt b cnt oZ o0 k' E1 b' iU=>hV rfl (Ia rfl rfl)⟩
theorem bF.IJ:∃F,aZ P 2 (.ref 151) F/\∀(raw mR:V) (k:Int) (nt b:Nat) (cnt:List Int) (oZ o0:V) (k':Int) (E1 b':Nat) (iU:List Int) (K:Nat),cnt.length<=1000->(∀z∈cnt,0<=z/\z<=1000)->nt<=1000->iU.length<=1000->(∀z∈iU,0<=z/\z<=1000)->E1<=1000->K<=1000->max (max ((cnt.length:Int)-1) b) (max ((iU.length:Int)-1) b')+1=K->
  F [mq raw mR k nt b cnt,mq oZ o0 k' E1 b' iU]=some (ls (ig (iT cnt nt b) (iT iU E1 b') K)):=by
 obtain⟨F1,c1,s1⟩:=X.G3;obtain⟨F2,c2,s2⟩:=X.II;exact⟨_,gO (fun h G=>Kt (X.top h G) fun ø ø e=>e) (RM P.w.params) (by decide+kernel) (by decide+kernel) (by kernel_rfl) (by kernel_rfl) (f4 (n:=1) (n6 X.ob X.top) X.lp X.bz (gc _) X.bo ge c1 (kt _) X.cJ ku c2).2,
  fun raw mR k nt b cnt oZ o0 k' E1 b' iU K h1 h2 h3 IR M3 WX hK hKe=>hV rfl (CK (lv:=max ((cnt.length:Int)-1) b) (lw:=max ((iU.length:Int)-1) b') hK ⟨_,rfl,rfl⟩ ⟨_,rfl,rfl⟩ hKe (s2 _ _ _ _ _ _ h1) (s2 _ _ _ _ _ _ IR) (fun ts z1 z2=>⟨s1 _ _ _ _ _ _ _ h1 h2 h3 z1 (by omega),s1 _ _ _ _ _ _ _ IR M3 WX z1 (by omega)⟩) rfl rfl)⟩
noncomputable def Qk(xs:List V):Option (List V):=(one? xs).bind fun x=>x.jL.bind fun l=>if l.length<=1000 then some (SW l)else none
theorem bF.made:EE P 3 168 Qk where
 ok:=fun hx hv N8 hs he=>by
  have F:=RE P.w.params;refine Et (n:=1) (n6 X.ob X.top) (K':=EW) (fI:=123) (fd:=fdOf iu) (ps:=Kn) (F0:=(EX (P:=P) (n:=1) (C:=168) (N:=167) (mN:=Lq P.w.params) (t_S:=2271) (t_T:=2272) (n6 X.ob X.top) X.j7 X.cb X.Aj (fun h G=>⟨So P.w.params,_,Gh X.top h G,Cj _,ab2 _⟩) (fun h G=>⟨So P.w.params,_,Gh X.top h G,Cj _,ab3 _⟩)).1) (F:=Qk) hx hv N8 (Lr _).1 (fun h G=>?_) (fun h G=>?_) F.body F.gl F.bl F.clo F.bind (by rw[F.scope];exact vw.of (by decide+kernel)) (by decide+kernel) (by rw[F.scope];kernel_rfl) (by rw[F.scope];kernel_rfl) (Subtype.property _) (fun x xs r hf=>?_) hs he
  ·obtain⟨⟨o,h1,h2,h3⟩,h4⟩:=Km (X.top h G) fun ø ø e=>e
   exact⟨o,h1,h2⟩
  ·obtain⟨⟨o,h1,h2,h3⟩,h4⟩:=Km (X.top h G) fun ø ø e=>e
   exact⟨⟨o,h1,h3⟩,h4⟩
  ·refine ah hf fun x hx hf=>ah hf fun l jK hf=>eN hf fun hl e=>?_
   cases gF hx;cases V.kP jK;subst e;exact⟨rfl,rfl,L3 hl rfl rfl⟩
end
end
theorem WI:bW 4 callerA:=⟨rfl,by decide,by decide⟩
theorem MP:∀(w:World) (ag:Heap) (mg mb:Str->Option Value) (hg:ag.Ns mainGlobals mg) (hb:ag.Ns builtinsNs mb) (nl:ag.NoLimit),(∀x:Str,x≠"__name__"->mb x=bootBuiltins x)->YP w ag->
  ∀(a:Addr) (o:Obj) (pm cd doc dV kV:Value),ag.get? a=some o->o.data= .func {docDef oU.name oU.params oU.body oU.scope pm cd doc with defaults:=dV,kwdefaults:=kV}->ag.CodeRec cd oU.name->Dflts mg ag oU.params [] dV kV->
   ∃n F,aZ (Kj RW.toRowW.prog w (Er 168) (Er.ok 168) ag mg mb hg hb nl) n (.ref a) F/\bW n callerA/\∀ns:List Int,ns.length<=63->F [.list (ns.map .int)]=some (.bool true):=by
 intro w ag mg mb hg hb nl hB y a o pm cd doc dV kV ho hd hc hD;have e0:oU.params.defaults=[]:=by kernel_rfl
 obtain rfl:dV= .none:=by
  rcases hD.pos with h|h
  ·exact h.2
  ·exact absurd e0 h.1
 obtain rfl:kV= .none:=by
  rcases hD.kw with h|h
  ·exact h.2
  ·exact absurd rfl h.1
 have X:=Sp w ag mg mb hg hb nl hB y;have hG:∀h,(Kj RW.toRowW.prog w (Er 168) (Er.ok 168) ag mg mb hg hb nl).G h->∀b o,ag.get? b=some o->h.get? b=some o:=fun h G=>G
 generalize Kj RW.toRowW.prog w (Er 168) (Er.ok 168) ag mg mb hg hb nl=P at X hG ⊢;obtain⟨F1,c1,s1⟩:=X.WH;obtain⟨F2,c2,s2⟩:=X.To XV;obtain⟨F3,c3,s3⟩:=X.MN;obtain⟨F4,c4,s4⟩:=X.Tp;obtain⟨F5,c5,s5⟩:=X.G2;obtain⟨F6,c6,s6⟩:=X.Pf;obtain⟨F7,c7,s7⟩:=X.MO;obtain⟨F8,c8,s8⟩:=X.Tq;obtain⟨F9,c9,s9⟩:=X.G3;obtain⟨O9,WF,WJ⟩:=X.IJ;obtain⟨Pa,WG,IK⟩:=X.AG;have W:=n6 X.ob X.top;have HX:∀ns:List Int,ns.length<=63->(C1 (P:=P) (n:=3) W X.tZ X.th X.ti (c1.qC 2) X.qm X.qq (c2.qC 2) X.ma X.mf (c3.qC 2) X.bz X.cb X.qp X.qs c4 X.eQ X.wV X.ea X.ec (c5.qC 1) X.j7 X.made X.oq X.ot (c6.qC 2) X.lp X.me X.mh (c7.qC 2) X.qo X.qr (c8.qC 1) (gc _) X.bo ge (c9.qC 2) (fE _) X.cS fG (WF.qC 1) (wW _) X.rA wX (WG.qC 2)).1 (oR [.list (ns.map .int)])=some (.bool true):=fun ns vm=>
  Pe (M:=XV) (script:=ns) {row:=s1 ns vm,name:=s2,Fp:=s3,runs:=s4,check:=s5,init:=fun l hl=>by show(if l.length<=1000 then some (SW l)else none)=_;rw[aw hl],spans:=s6,nested:=s7,read:=s8,level:=s9,witness:=WJ,equal:=IK} vm rfl
 have hB:Ob P 3 GN (dz (aJ pq.main.body 69)) (C1 (P:=P) (n:=3) W X.tZ X.th X.ti (c1.qC 2) X.qm X.qq (c2.qC 2) X.ma X.mf (c3.qC 2) X.bz X.cb X.qp X.qs c4 X.eQ X.wV X.ea X.ec (c5.qC 1) X.j7 X.made X.oq X.ot (c6.qC 2) X.lp X.me X.mh (c7.qC 2) X.qo X.qr (c8.qC 1) (gc _) X.bo ge (c9.qC 2) (fE _) X.cS fG (WF.qC 1) (wW _) X.rA wX (WG.qC 2)).1:=Subtype.property _;generalize(C1 (P:=P) (n:=3) W X.tZ X.th X.ti (c1.qC 2) X.qm X.qq (c2.qC 2) X.ma X.mf (c3.qC 2) X.bz X.cb X.qp X.qs c4 X.eQ X.wV X.ea X.ec (c5.qC 1) X.j7 X.made X.oq X.ot (c6.qC 2) X.lp X.me X.mh (c7.qC 2) X.qo X.qr (c8.qC 1) (gc _) X.bo ge (c9.qC 2) (fE _) X.cS fG (WF.qC 1) (wW _) X.rA wX (WG.qC 2)).1=f at HX hB;refine⟨4,fun xs=>if xs.length=1 then f (oR xs)else none,aZ.fnT (n:=3) (K:=GN) (ps:=[Tt]) (body:=dz (aJ pq.main.body 69)) (fun h G=>⟨⟨o,hG h G _ _ ho,hd⟩,?_⟩) rfl rfl rfl rfl (fun vs h=>by
  obtain⟨v,rfl⟩:=List.length_eq_one_iff.mp h;rfl) (vw.of (by
  show Np GN (kh (aJ pq.main.body 69)) _=true
  decide+kernel)) (by decide+kernel) (by
  show(kh (aJ pq.main.body 69)).isCoroutine=false
  kernel_rfl) (by
  show(kh (aJ pq.main.body 69)).isGenerator=false
  kernel_rfl) (by assumption),WI,fun ns vm=>?_⟩
 ·exact hc.keeps (hG h G)
 ·show(if 1=1 then f (oR [.list (ns.map .int)])else none)=_
  rw[aw rfl,HX ns vm]
theorem all_holds:PySem.Challenge.rw_sl0032_01.Holds:=top_holds prom (NW (Er 168) (Er.ok 168) MP)
end
end Mine
theorem PySem.Challenge.cw_sl0032_01_holds : PySem.Challenge.rw_sl0032_01.Holds :=
  Mine.all_holds
