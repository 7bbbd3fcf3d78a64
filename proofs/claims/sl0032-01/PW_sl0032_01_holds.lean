import PyProof.Rows.All
import PyProof.FactsAll.set
import PyProof.GenRules
import PyProof.GenQ
import PyProof.Rows.EnumRows
import PyProof.Rows.PlainObj
import PyProof.Rows.SortStr
import PyProof.Rows.SetFrom
import OpenK.KCls
import KE.KDictLaws
import Wide.FinOn
import OpenK.AllK
import Wide.All
import Lean
import PySem.Challenge.RW_sl0032_01
open PySem PySem.W PySem.Calls PyProof.Rows
set_option Elab.async false
set_option linter.all false
set_option maxRecDepth 100000
set_option maxHeartbeats 0
set_option backward.eqns.nonrecursive false
set_option backward.eqns.deepRecursiveSplit false
set_option tactic.hygienic false
namespace Mine
noncomputable section
local macro_rules | `(tactic| omega) => `(tactic| lia)
abbrev ar:= @wpAny_bind
abbrev au:= @wpAny_mono
abbrev aw:= @if_pos
abbrev az:= @if_neg
abbrev aA:= @Nat.le_trans
abbrev bd:= @wpAny_pure
abbrev bi:= @List.length_map
abbrev bp:= @List.mem_cons
abbrev cf:= @List.cons_ne_nil
abbrev cr:= @List.mem_append
abbrev bj:= @List.mem_append_left
abbrev bn:= @List.map_cons
abbrev bw:= @List.mem_append_right
abbrev bA:= @List.length_cons
abbrev bD:= @Heap.get?_push_size
abbrev bK:= @Heap.get?_push_of_some
abbrev bL:= @List.getElem?_map
abbrev bM:= @List.size_toArray
abbrev bP:= @List.mem_map
abbrev cw:= @List.mem_cons_of_mem
abbrev cD:= @List.all_eq_true
abbrev cF:= @Nat.le_refl
abbrev cN:= @List.mem_singleton
abbrev dI:= @Bool.and_eq_true
abbrev dJ:= @List.mem_cons_self
abbrev dK:= @List.map_map
abbrev dU:= @Nat.zero_le
abbrev dW:= @Ne.symm
abbrev dX:= @List.getElem?_eq_getElem
abbrev eI:= @if_true
abbrev eJ:= @List.foldl_cons
abbrev eK:= @decide_eq_true
abbrev eV:= @wpAny_Name
abbrev eW:= @if_false
abbrev eX:= @List.getElem?_eq_some_iff
abbrev eY:= @Nat.le_of_lt
abbrev eZ:= @List.length_nil
abbrev f5:= @Heap.lt_size
abbrev gn:= @List.append_nil
abbrev gq:= @Nat.zero_add
abbrev gr:= @List.flatten_append
abbrev gz:= @Bool.false_eq_true
abbrev gA:= @List.flatten_cons
abbrev gB:= @wpAny_holding
abbrev gC:= @List.nodup_cons
abbrev gD:= @PySem.W.Fast.te14364793385576792824
abbrev gE:= @List.mem_range
abbrev gR:= @sizeLine_eq
abbrev gS:= @Nat.lt_of_le_of_lt
abbrev gT:= @List.all_cons
abbrev iK:= @decide_eq_true_eq
abbrev iL:= @List.getElem?_eq_none
abbrev iM:= @Nat.le_of_eq
abbrev i8:= @Nat.le_succ
abbrev i9:= @Nat.le_succ_of_le
abbrev ja:= @Bool.true_and
abbrev jb:= @Nat.succ_le_succ
abbrev jT:= @Prod.mk.inj
abbrev jU:= @wpAny_items_nil
abbrev jV:= @wpAny_items_cons
abbrev jW:= @beq_iff_eq
abbrev jX:= @Nat.ne_of_lt
abbrev jY:= @PySem.W.Fast.te10110043849684766642
abbrev jZ:= @seg_execs_cons
abbrev j0:= @List.length_range
abbrev kJ:= @wpAny_loadName_local
abbrev kK:= @wpAny_Call_Name_kw
abbrev kL:= @List.mem_filter
abbrev kM:= @Nat.not_lt
abbrev kN:= @List.nil_append
abbrev kO:= @List.nodup_append
abbrev kP:= @Option.getD_some
abbrev mD:= @Eq.trans
abbrev mE:= @List.mem_of_getElem?
abbrev mF:= @Int.natCast_nonneg
abbrev mG:= @decide_eq_false
abbrev mH:= @of_decide_eq_true
abbrev mZ:= @wpAny_execs_nil
abbrev m3:= @Nat.lt_succ_self
abbrev m4:= @Option.bind_some
abbrev m5:= @Bool.false_ne_true
abbrev m6:= @Nat.add_zero
abbrev m7:= @List.length_drop
abbrev m8:= @Option.map_some
abbrev na:= @List.foldl_append
abbrev pg:= @wpAny_truthy_bool
abbrev ph:= @Option.map_eq_some_iff
abbrev pi:= @beq_eq_false_iff_ne
abbrev pj:= @Heap.SameBut.update
abbrev pk:= @List.drop_eq_getElem_cons
abbrev pn:= @Int.le_trans
abbrev po:= @wpAny_call_entry
abbrev pr:= @List.map_congr_left
abbrev qI:= @wpAny_Assign_Name
abbrev qJ:= @wpAny_standAt
abbrev qK:= @Heap.size_push
abbrev qM:= @List.reverse_cons
abbrev qN:= @List.not_mem_nil
abbrev qO:= @Int.ofNat_le
abbrev qP:= @List.nodup_nil
abbrev lF:= @segRun_of
abbrev lG:= @Int.toNat_natCast
abbrev nb:= @Bool.or_eq_true
abbrev nc:= @Option.bind_eq_some_iff
abbrev nf:= @Nat.add_le_add_right
abbrev ni:= @Heap.get?_update_self
abbrev nk:= @wpAny_assign_Name
abbrev np:= @List.lookup_cons
abbrev nq:= @List.zip_cons_cons
abbrev nr:= @List.filterMap_cons
abbrev nu:= @Nat.lt_succ_of_lt
abbrev nv:= @codeAny_builtin
abbrev ny:= @Sem.wrap_wrap
abbrev nz:= @List.map_nil
abbrev nA:= @Nat.le_add_right
abbrev nB:= @piece_app
abbrev nC:= @Nat.succ_pos
abbrev nD:= @or_false
abbrev nE:= @F.called_set
abbrev nF:= @List.mem_map_of_mem
abbrev nG:= @List.length_take
abbrev nH:= @Int.ofNat_lt
abbrev nI:= @List.flatten_singleton
abbrev nJ:= @List.map_drop
abbrev nK:= @List.length_dropLast
abbrev nL:= @List.foldr_cons
abbrev pN:= @Nat.lt_irrefl
abbrev pO:= @beq_self_eq_true
abbrev pP:= @List.forIn_cons
abbrev pQ:= @Nat.succ_ne_self
abbrev pR:= @wpAny_newObj_type
abbrev pS:= @List.mem_reverse
abbrev pT:= @List.length_reverse
abbrev pU:= @Int.not_le
abbrev pV:= @intKind_is
abbrev pW:= @wpAny_callSpecial?_slot
abbrev pX:= @Around.under_plainId
abbrev pY:= @Nat.mul_zero
abbrev pZ:= @List.length_singleton
abbrev p0:= @typeLookup_type
abbrev p5:= @builtinLookup_eq_fast
abbrev p6:= @wpAny_setState_of
abbrev p7:= @List.foldl_nil
abbrev p8:= @Nat.add_le_add
abbrev rL:= @callWith_builtin
abbrev rM:= @call_meets
abbrev rN:= @wpAny_storeName_local
abbrev rO:= @wpAny_execs_cons
abbrev rP:= @Nat.sub_add_cancel
abbrev rQ:= @List.take_of_length_le
abbrev rR:= @Nat.succ.inj
abbrev rS:= @List.reverse_perm
abbrev rT:= @plainId_quiet
abbrev rU:= @wpAny_rule
abbrev rV:= @List.dropLast_concat_getLast
abbrev rW:= @Nat.lt_of_lt_of_le
abbrev rX:= @Int.ofNat.inj
abbrev rY:= @List.filterMap_cons_some
abbrev rZ:= @wpAny_setField_rec
abbrev r0:= @Int.max_eq_right
abbrev r4:= @Nat.sub_le
abbrev uQ:= @wpAny_Constant_str
abbrev uR:= @wpAny_Constant_bool
abbrev uS:= @wpAny_isTrue_Compare1
abbrev uT:= @wpAny_isTrue_value
abbrev uU:= @List.exists_cons_of_ne_nil
abbrev uV:= @evalArgs_plain
abbrev uW:= @decide_eq_false_iff_not
abbrev uX:= @PySem.F.slot_list_pop
abbrev uY:= @List.length_pos_iff
abbrev uZ:= @List.drop_eq_nil_of_le
abbrev u0:= @List.length_zip
abbrev u1:= @Nat.min_self
abbrev u2:= @PySem.F.slot_dict_get
abbrev u3:= @call_meetsIn
abbrev u4:= @wpAny_isInstance
abbrev u5:= @List.mergeSort_perm
abbrev u6:= @List.singleton_append
abbrev u7:= @Heap.get?_eq_some
abbrev u8:= @wpAny_field
abbrev u9:= @Nat.le_of_succ_le
abbrev va:= @List.drop_length
abbrev vb:= @List.getElem_mem
abbrev vc:= @fits_of_scanBound
abbrev vd:= @List.eq_nil_of_length_eq_zero
abbrev ve:= @List.ext_getElem?
abbrev vf:= @Nat.add_sub_cancel'
abbrev vg:= @Nat.add_le_add_left
abbrev vh:= @List.cons.inj
abbrev vi:= @List.getLast?_eq_some_getLast
abbrev yG:= @PySem.callWith_type
abbrev yH:= @List.replicate_succ
abbrev yI:= @Bool.eq_iff_iff
abbrev yJ:= @wpAny_Call_method_lateS
abbrev yK:= @Array.getElem?_eq_some_iff
abbrev yL:= @Nat.le_of_not_lt
abbrev yM:= @wpAny_pyIter_list
abbrev yN:= @Bool.and_eq_true_iff
abbrev yO:= @Nat.exists_eq_add_of_lt
abbrev yP:= @wpAny_specialOf
abbrev yQ:= @List.zipWith_cons_cons
abbrev yR:= @PySem.F.plainAttrs_dict
abbrev yS:= @F.plain_list_iadd
abbrev yT:= @isSubtype_type
abbrev yU:= @wpAny_updateSeq
abbrev yV:= @Heap.get?_update_other
abbrev yW:= @List.forIn_nil
abbrev yX:= @wpAny_attempt
abbrev yY:= @seg_execs_nil
abbrev yZ:= @Array.getElem?_eq_none
abbrev y0:= @List.mem_of_mem_take
abbrev y3:= @List.range_succ
abbrev y4:= @Nat.le_of_not_le
abbrev y5:= @Nat.min_eq_left
abbrev y6:= @Int.emod_nonneg
abbrev y7:= @Int.emod_lt_of_pos
abbrev y8:= @Nat.le_add_left
abbrev y9:= @List.length_replicate
abbrev za:= @Function.comp_def
abbrev Dk:= @List.append_toArray
abbrev Dl:= @PySem.F.plainAttrs_list
abbrev Dm:= @wpAny_list_append_plain
abbrev Do:= @PySem.F.entry_list_pop
abbrev Dp:= @List.take_succ_cons
abbrev Dq:= @wpAny_assign_Tuple
abbrev Dr:= @List.findIdx?_eq_none_iff
abbrev Ds:= @List.getElem?_range
abbrev Dt:= @List.getElem_of_mem
abbrev Du:= @List.contains_cons
abbrev Dv:= @Int.lt_of_lt_of_le
abbrev Dw:= @Int.eq_ofNat_of_zero_le
abbrev Dx:= @PySem.F.entry_dict_get
abbrev Dy:= @PySem.W.Fast.te11892475500146522536
abbrev Dz:= @List.getElem?_drop
abbrev DA:= @PySem.Pv.callWith_type1
abbrev DB:= @List.pairwise_iff_getElem
abbrev DC:= @List.mem_iff_getElem?
abbrev DD:= @arm_eval_Attribute
abbrev DE:= @List.filterMap_cons_none
abbrev DF:= @PyProof.Rows.F.plain_set_update_loop
abbrev DG:= @List.length_eraseIdx_of_lt
abbrev DH:= @Nat.pos_of_ne_zero
abbrev DI:= @Array.getElem?_toList
abbrev DJ:= @Int.add_sub_cancel
abbrev DK:= @Nat.lt_add_of_pos_right
abbrev DL:= @List.length_take_le
abbrev DM:= @List.getLast?_concat
abbrev DN:= @List.dropLast_concat
abbrev DO:= @List.getElem_range
abbrev DP:= @List.getElem?_cons_succ
abbrev DQ:= @List.filter_append
abbrev IY:= @PyProof.Rows.F.entry_set_update_loop
noncomputable def s0:Str:=⟨#[95,95,110,97,109,101,95,95]⟩
noncomputable def s1:Str:=⟨#[99,112,121,51,49,51,46,115,116,114,105,110,103,112,114,101,112]⟩
noncomputable def s2:Str:=⟨#[95,95,100,111,99,95,95]⟩
noncomputable def s3:Str:=⟨#[47,99,108,97,105,109,47,99,117,116,46,112,121]⟩
noncomputable def s4:Str:=⟨#[95,119,97,108,108]⟩
noncomputable def s5:Str:=⟨#[95,105,116,101,114,95,101,115,99,97,112,101,100,95,99,104,97,114,115]⟩
noncomputable def s6:Str:=⟨#[95,115,116,114,105,112,95,113,117,111,116,101,100,95,114,101,97,108,110,97,109,101,115]⟩
noncomputable def s7:Str:=⟨#[95,99,104,101,99,107,95,112,97,114,101,110,116,104,101,115,105,115]⟩
noncomputable def s8:Str:=⟨#[98,49,95,115,101,116]⟩
noncomputable def s9:Str:=⟨#[105,110,95,116,97,98,108,101,95,98,49]⟩
noncomputable def WU:Str:=⟨#[98,51,95,101,120,99,101,112,116,105,111,110,115]⟩
noncomputable def IM:Str:=⟨#[99,112,121,51,49,51,46,116,97,98,110,97,110,110,121]⟩
noncomputable def MW:Str:=⟨#[109,97,112,95,116,97,98,108,101,95,98,51]⟩
noncomputable def DR:Str:=⟨#[87,104,105,116,101,115,112,97,99,101]⟩
noncomputable def T2:Str:=⟨#[83]⟩
noncomputable def T3:Str:=⟨#[84]⟩
noncomputable def WV:Str:=⟨#[95,95,105,110,105,116,95,95]⟩
noncomputable def Pm:Str:=⟨#[108,111,110,103,101,115,116,95,114,117,110,95,111,102,95,115,112,97,99,101,115]⟩
noncomputable def MX:Str:=⟨#[105,110,100,101,110,116,95,108,101,118,101,108]⟩
noncomputable def Pn:Str:=⟨#[101,113,117,97,108]⟩
noncomputable def Po:Str:=⟨#[110,111,116,95,101,113,117,97,108,95,119,105,116,110,101,115,115]⟩
noncomputable def WW:Str:=⟨#[108,101,115,115]⟩
noncomputable def WX:Str:=⟨#[110,111,116,95,108,101,115,115,95,119,105,116,110,101,115,115]⟩
noncomputable def WY:Str:=⟨#[69,88,65,67,84,95,84,79,75,69,78,95,84,89,80,69,83]⟩
noncomputable def s24:Str:=⟨#[60,109,111,100,117,108,101,62]⟩
noncomputable def s25:Str:=⟨#[95,95,109,97,105,110,95,95]⟩
noncomputable def Qq:Str:=⟨#[107]⟩
noncomputable def Qr:Str:=⟨#[97,100,100,114]⟩
noncomputable def T4:Str:=⟨#[112,111,115]⟩
noncomputable def Qs:Str:=⟨#[99,104]⟩
noncomputable def Yj:Str:=⟨#[99,112,121,51,49,51,46,101,109,97,105,108,46,117,116,105,108,115]⟩
noncomputable def T6:Str:=⟨#[115,116,97,114,116]⟩
noncomputable def s32:Str:=⟨#[111,112,101,110,95,112,111,115]⟩
noncomputable def s33:Str:=⟨#[114,101,115,117,108,116]⟩
noncomputable def Ft:Str:=⟨#[111,112,101,110,115]⟩
noncomputable def WZ:Str:=⟨#[99,111,100,101]⟩
noncomputable def AQ:Str:=⟨#[115,101,108,102]⟩
noncomputable def Tw:Str:=⟨#[99,111,117,110,116]⟩
noncomputable def T7:Str:=⟨#[110]⟩
noncomputable def Yk:Str:=⟨#[87,104,105,116,101,115,112,97,99,101,46,95,95,105,110,105,116,95,95]⟩
noncomputable def W1:Str:=⟨#[116,114,97,105,108,105,110,103]⟩
noncomputable def Yl:Str:=⟨#[87,104,105,116,101,115,112,97,99,101,46,108,111,110,103,101,115,116,95,114,117,110,95,111,102,95,115,112,97,99,101,115]⟩
noncomputable def Ym:Str:=⟨#[116,97,98,115,105,122,101]⟩
noncomputable def Yn:Str:=⟨#[87,104,105,116,101,115,112,97,99,101,46,105,110,100,101,110,116,95,108,101,118,101,108]⟩
noncomputable def Pq:Str:=⟨#[111,116,104,101,114]⟩
noncomputable def Yo:Str:=⟨#[87,104,105,116,101,115,112,97,99,101,46,101,113,117,97,108]⟩
noncomputable def Yp:Str:=⟨#[87,104,105,116,101,115,112,97,99,101,46,110,111,116,95,101,113,117,97,108,95,119,105,116,110,101,115,115]⟩
noncomputable def Yq:Str:=⟨#[87,104,105,116,101,115,112,97,99,101,46,108,101,115,115]⟩
noncomputable def Yr:Str:=⟨#[87,104,105,116,101,115,112,97,99,101,46,110,111,116,95,108,101,115,115,95,119,105,116,110,101,115,115]⟩
noncomputable def s49:Str:=⟨#[95,95,100,105,99,116,95,95]⟩
noncomputable def s50:Str:=⟨#[95,95,119,101,97,107,114,101,102,95,95]⟩
noncomputable def M5:Str:=⟨#[108,97,119,95,115,108,48,48,51,50,95,48,49]⟩
noncomputable def IN:Str:=⟨#[95,108,97,119,95,114,111,119]⟩
noncomputable def IO:Str:=⟨#[95,108,97,119,95,110,97,109,101]⟩
noncomputable def G5:Str:=⟨#[95,108,97,119,95,114,101,109,97,114,107]⟩
noncomputable def MY:Str:=⟨#[95,108,97,119,95,114,101,97,100]⟩
noncomputable def IP:Str:=⟨#[95,108,97,119,95,114,117,110,115]⟩
noncomputable def IQ:Str:=⟨#[95,108,97,119,95,115,112,97,110,115]⟩
noncomputable def IR:Str:=⟨#[95,108,97,119,95,110,101,115,116,101,100]⟩
noncomputable def Qt:Str:=⟨#[108,97,119]⟩
noncomputable def M6:Str:=⟨#[100,114,97,119]⟩
noncomputable def W2:Str:=⟨#[112,105,101,99,101]⟩
noncomputable def Ys:Str:=⟨#[110,97,109,101]⟩
noncomputable def Yt:Str:=⟨#[115,101,101,110]⟩
noncomputable def Tx:Str:=⟨#[112,108,97,99,101]⟩
noncomputable def s65:Str:=⟨#[110,117,109,98,101,114]⟩
noncomputable def IZ:Str:=⟨#[114,111,119]⟩
noncomputable def W3:Str:=⟨#[112,105,108,101]⟩
noncomputable def IS:Str:=⟨#[107,105,110,100]⟩
noncomputable def Ty:Str:=⟨#[115,99,114,105,112,116]⟩
noncomputable def Qu:Str:=⟨#[116,111,116,97,108]⟩
noncomputable def Yu:Str:=⟨#[105,116,101,109,115]⟩
noncomputable def vj:Str:=⟨#[108,101,110]⟩
noncomputable def Yv:Str:=⟨#[108,105,115,116]⟩
noncomputable def AR:Str:=⟨#[114,97,110,103,101]⟩
noncomputable def W4:Str:=⟨#[99,104,114]⟩
noncomputable def Yw:Str:=⟨#[111,114,100]⟩
noncomputable def Yx:Str:=⟨#[115,116,114]⟩
noncomputable def Tz:Str:=⟨#[115,117,109]⟩
noncomputable def M7:Str:=⟨#[109,97,120]⟩
noncomputable def MZ:Str:=⟨#[115,111,114,116,101,100]⟩
noncomputable def T8:Str:=⟨#[115,101,116]⟩
noncomputable def Yy:Str:=⟨#[116,117,112,108,101]⟩
noncomputable def W5:Str:=⟨#[112,105,108,101,115]⟩
noncomputable def Qv:Str:=⟨#[115,112,97,110,115]⟩
noncomputable def s85:Str:=⟨#[111,112,101,110,101,100]⟩
noncomputable def W6:Str:=⟨#[100,114,97,119,110]⟩
noncomputable def Yz:Str:=⟨#[112,105,101,99,101,115]⟩
noncomputable def YA:Str:=⟨#[115,105,103,110]⟩
noncomputable def TA:Str:=⟨#[116,111,108,100]⟩
noncomputable def YB:Str:=⟨#[98,97,114,101]⟩
noncomputable def YC:Str:=⟨#[100,114,101,115,115,101,100]⟩
noncomputable def W7:Str:=⟨#[119,104,111,108,101]⟩
noncomputable def W8:Str:=⟨#[112,97,114,116,115]⟩
noncomputable def T9:Str:=⟨#[116,97,103]⟩
noncomputable def YD:Str:=⟨#[111,112,101,110,101,114,115]⟩
noncomputable def YE:Str:=⟨#[102,105,114,115,116]⟩
noncomputable def YF:Str:=⟨#[115,101,99,111,110,100]⟩
noncomputable def YG:Str:=⟨#[111,116,104,101,114,115]⟩
noncomputable def YH:Str:=⟨#[97,112,97,114,116]⟩
noncomputable def I0:Str:=⟨#[115,105,122,101]⟩
noncomputable def Qw:Str:=⟨#[104,101,114,101]⟩
noncomputable def Qx:Str:=⟨#[116,104,101,114,101]⟩
theorem ir{A B:Sort _}{f:A->B}(a:A):f a=f a:=rfl
theorem cp{A:Sort _}{B:A->Sort _}{C:Sort _}{f:(a:A)->B a->C}(a:A)(b:B a):f a b=f a b:=rfl
section
theorem ah{α β:Type _}{o:Option α}{f:α->Option β}{z:β}{G:Prop}(h:o.bind f=some z)(k:∀a,o=some a->f a=some z->G):G:=by
 cases o with
 |none=>cases h
 |some a=>exact k a rfl h
theorem bV{α β:Type _}{o:Option α}{f:α->β}{z:β}{G:Prop}(h:o.map f=some z)(k:∀a,o=some a->f a=z->G):G:=by
 cases o with
 |none=>cases h
 |some a=>exact k a rfl (Option.some.inj h)
@[elab_as_elim] theorem pair_inv {α β:Type _} {a x:α} {b y:β} {G:α->β->Prop} (h:(a,b)=(x,y)) (k:G a b):G x y:=by
 obtain⟨rfl,rfl⟩:=jT h;exact k
theorem DS{M:Model}{A:Around}{α:Type}{c:Sem α}{Q:α->Shared->Prop}{E:Value->Shared->Prop}{s:Shared}(h:∀(Q₁:α->Shared->Prop) (AS:Value->Shared->Prop),(∀r s',Q r s'->Q₁ r s')->(∀e s',E e s'->AS e s')->wpAny M A c Q₁ AS s):wpAny M A c Q E s:=
 h Q E (fun ø ø q=>q) fun ø ø q=>q
inductive V where
 |none
 |bool (b:Bool)
 |int (i:Int)
 |str (s:List Nat)
 |tup (l:List V)
 |list (l:List V)
 |dict (ks:List Int) (vs:List V)
 |obj (l:List V)
 deriving Inhabited
noncomputable abbrev pyStr(s:List Nat):Str:=⟨s.toArray⟩
noncomputable def zb(h:Heap)(a:Addr)(items:Array Value):Prop:=∃n,h.get? a=some {cls:=.type "tuple",data:=.seq items n}
theorem zb.isTup{h:Heap}{a items}(x:zb h a items):IsTup h a items:=let⟨n,e⟩:=x;⟨_,e,rfl,n,rfl⟩
theorem zb.zc{h:Heap}{a items}(x:zb h a items):h.IsTuple a items:=let⟨n,e⟩:=x;⟨_,e,rfl,n,rfl⟩
section
variable(prog:Program)(w:World)(OB:Heap->Addr->List Value->(Addr->Prop)->Prop)
mutual
noncomputable def r5(h:Heap)(T:Addr->Prop):V->Value->Prop
 | .none,v=>v= .none
 | .bool b,v=>v= .bool b
 | .int i,v=>∃t,v= .int i t
 | .str s,v=>∃t,v= .str (pyStr s) t
 | .tup l,v=>∃a vs,v= .ref a/\T a/\zb h a vs.toArray/\aV h T l vs
 | .list l,v=>∃a vs,v= .ref a/\T a/\h.PlainList a vs.toArray/\aV h T l vs
 | .dict ks l,v=>∃a vs,v= .ref a/\T a/\vs.length=ks.length/\(a==sysModules)=false/\h.DictOf (intKind prog w) a (ks.zip vs)/\aV h T l vs
 | .obj l,v=>∃a vs,v= .ref a/\OB h a vs T/\aV h T l vs
noncomputable def aV(h:Heap)(T:Addr->Prop):List V->List Value->Prop
 |[],vs=>vs=[]
 |x::xs,vs=>∃v r,vs=v::r/\r5 h T x v/\aV h T xs r
end
end
noncomputable def I1(OB:Heap->Addr->List Value->(Addr->Prop)->Prop):Prop:=
 ∀(h h':Heap) (T T':Addr->Prop) a vs,(∀a o,T a->h.get? a=some o->h'.get? a=some o)->(∀a o,T a->h.get? a=some o->T' a)->OB h a vs T->OB h' a vs T'
section
variable{prog:Program}{w:World}{OB:Heap->Addr->List Value->(Addr->Prop)->Prop}(ok:I1 OB)
include ok
mutual
theorem r5.mono{h h':Heap}{T T':Addr->Prop}(hk:∀a o,T a->h.get? a=some o->h'.get? a=some o)(hT:∀a o,T a->h.get? a=some o->T' a):
  ∀(x:V) (v:Value),r5 prog w OB h T x v->r5 prog w OB h' T' x v
 | .none,v,e| .bool b,v,e| .int i,v,e| .str s,v,e=>e
 | .tup l,v,e=>by
   obtain⟨a,vs,rfl,ha,hl,hr⟩:=e;obtain⟨o,ho⟩:=id hl;exact⟨a,vs,rfl,hT a _ ha ho,⟨o,hk a _ ha ho⟩,aV.mono hk hT l vs hr⟩
 | .list l,v,e=>by
   obtain⟨a,vs,rfl,ha,hl,hr⟩:=e;obtain⟨o,ho⟩:=id hl;exact⟨a,vs,rfl,hT a _ ha ho,⟨o,hk a _ ha ho⟩,aV.mono hk hT l vs hr⟩
 | .dict ks l,v,e=>by
   obtain⟨a,vs,rfl,ha,hlen,lE,hl,hr⟩:=e;obtain⟨o,es,ep,ho,TB⟩:=id hl;exact⟨a,vs,rfl,hT a o ha ho,hlen,lE,⟨o,es,ep,hk a o ha ho,TB⟩,aV.mono hk hT l vs hr⟩
 | .obj l,v,e=>by
   obtain⟨a,vs,rfl,ho,hr⟩:=e;exact⟨a,vs,rfl,ok _ _ _ _ _ _ hk hT ho,aV.mono hk hT l vs hr⟩
theorem aV.mono{h h':Heap}{T T':Addr->Prop}(hk:∀a o,T a->h.get? a=some o->h'.get? a=some o)(hT:∀a o,T a->h.get? a=some o->T' a):
  ∀(x:List V) (v:List Value),aV prog w OB h T x v->aV prog w OB h' T' x v
 |[],vs,e=>e
 |x::xs,vs,e=>by
  obtain⟨v,r,rfl,h1,h2⟩:=e;exact⟨v,r,rfl,r5.mono hk hT x v h1,aV.mono hk hT xs r h2⟩
end
end
section
variable{prog:Program}{w:World}{OB:Heap->Addr->List Value->(Addr->Prop)->Prop}{h:Heap}{T:Addr->Prop}
theorem aV.length:∀{l:List V} {vs:List Value},aV prog w OB h T l vs->vs.length=l.length
 |[],_,e=>by obtain rfl:_=[]:=e;rfl
 |x::xs,_,e=>by
  obtain⟨v,r,rfl,_,h2⟩:=e;simp[aV.length h2]
theorem aV.get:∀{l:List V} {vs:List Value} {i:Nat} {x:V},aV prog w OB h T l vs->l[i]?=some x->∃v,vs[i]?=some v/\r5 prog w OB h T x v
 |[],_,_,_,_,hx=>by simp at hx
 |y::ys,_,0,x,e,hx=>by
  obtain⟨v,r,rfl,h1,h2⟩:=e;simp at hx;subst hx;exact⟨v,by simp,h1⟩
 |y::ys,_,i+1,x,e,hx=>by
  obtain⟨v,r,rfl,h1,h2⟩:=e;simpa using aV.get h2 (by simpa using hx)
theorem aV.get':∀{l:List V} {vs:List Value} {i:Nat} {v:Value},aV prog w OB h T l vs->vs[i]?=some v->∃x,l[i]?=some x/\r5 prog w OB h T x v
 |[],_,_,_,e,hx=>by obtain rfl:_=[]:=e;simp at hx
 |y::ys,_,0,x,e,hx=>by
  obtain⟨v,r,rfl,h1,h2⟩:=e;simp at hx;subst hx;exact⟨y,by simp,h1⟩
 |y::ys,_,i+1,x,e,hx=>by
  obtain⟨v,r,rfl,h1,h2⟩:=e;simpa using aV.get' h2 (by simpa using hx)
theorem aV.app:∀{l l':List V} {vs gU:List Value},aV prog w OB h T l vs->aV prog w OB h T l' gU->aV prog w OB h T (l++l') (vs++gU)
 |[],_,_,_,e,e'=>by obtain rfl:_=[]:=e;exact e'
 |x::xs,_,_,_,e,e'=>by
  obtain⟨v,r,rfl,h1,h2⟩:=e;exact⟨v,_,rfl,h1,h2.app e'⟩
theorem aV.one{x:V}{v:Value}(e:r5 prog w OB h T x v):aV prog w OB h T [x] [v]:=⟨v,[],rfl,e,rfl⟩
theorem aV.cons{x:V}{v:Value}{l vs}(e:r5 prog w OB h T x v)(e':aV prog w OB h T l vs):aV prog w OB h T (x::l) (v::vs):=⟨v,vs,rfl,e,e'⟩
theorem aV.nil:aV prog w OB h T [] []:=rfl
theorem aV.of{l:List V}{vs:List Value}:vs.length=l.length->(∀(i:Nat) x v,l[i]?=some x->vs[i]?=some v->r5 prog w OB h T x v)->aV prog w OB h T l vs:=by
 induction l generalizing vs with
 |nil=>intro hl _;simp at hl;subst hl;exact .nil
 |cons x xs ih=>
  intro hl r6
  cases vs with
  |nil=>simp at hl
  |cons v r=>exact .cons (r6 0 x v rfl rfl) (ih (by simpa using hl) fun i y u h1 h2=>r6 (i+1) y u (by simpa using h1) (by simpa using h2))
end
noncomputable def GX(g g':Array GenState):Prop:=(∀(i:Nat) x,g[i]?=some x->g'[i]?=some x)/\(AllBare g->AllBare g')
theorem GX.refl(g):GX g g:=⟨fun ø ø h=>h,id⟩
theorem GX.trans{a b c}(x:GX a b)(y:GX b c):GX a c:=⟨fun i z h=>y.1 i z (x.1 i z h),fun h=>y.2 (x.2 h)⟩
structure Kp(s s':Shared):Prop where
 keep:∀b o,s.heap.get? b=some o->s'.heap.get? b=some o
 gens:GX s.gens s'.gens
 os:s'.os=s.os
theorem Kp.refl(s:Shared):Kp s s:=⟨fun ø ø h=>h,.refl _,rfl⟩
theorem Kp.trans{a b c:Shared}(x:Kp a b)(y:Kp b c):Kp a c:=⟨fun b o h=>y.keep b o (x.keep b o h),x.gens.trans y.gens,y.os.trans x.os⟩
theorem Kp.toks(s:Shared)(tk:Nat):Kp s {s with toks:=tk}:=⟨fun ø ø h=>h,.refl _,rfl⟩
theorem Kp.push(s:Shared)(o:Obj)(tk:Nat):Kp s {s with heap:=s.heap.push o,toks:=tk}:=⟨fun ø ø h=>bK o h,.refl _,rfl⟩
theorem Kp.heap{s:Shared}{h':Heap}{tk:Nat}(k:∀b o,s.heap.get? b=some o->h'.get? b=some o):Kp s {s with heap:=h',toks:=tk}:=⟨k,.refl _,rfl⟩
noncomputable def cx(h:Heap)(hid:List Addr):Prop:=∀a∈hid,∃o,h.get? a=some o
theorem cx.kp{s s':Shared}{hid}(l:cx s.heap hid)(k:Kp s s'):cx s'.heap hid:=fun a h=>let⟨o,e⟩:=l a h;⟨o,k.keep a o e⟩
theorem cx.not{h:Heap}{hid}(l:cx h hid){a:Addr}(e:h.get? a=none):a∉hid:=fun q=>by obtain⟨o,q⟩:=l a q;rw[e]at q;cases q
theorem aP(h:Heap):h.get? h.objs.size=none:=by
 cases e:h.get? h.objs.size with
 |none=>rfl
 |some o=>exact absurd (f5 e) (pN _)
structure bW(n:Nat)(A:Around):Prop where
 handled:A.handled=none
 depth:A.depth+n<=900
 units:A.units+10*n+10<=9000
theorem bW.deeper{n:Nat}{A:Around}(r:bW (n+1) A)(env:Env):bW n (A.deeper env):=
 ⟨r.handled,by have:=r.depth;simp only[depth_deeper];omega,by have:=r.units;simp only[Around.deeper_units];omega⟩
theorem bW.less{n m:Nat}{A:Around}(r:bW n A)(h:m<=n):bW m A:=⟨r.handled,by have:=r.depth;omega,by have:=r.units;omega⟩
end
structure Pk where
 prog:Program
 w:World
 OB:Heap->Addr->List Value->(Addr->Prop)->Prop
 ok:I1 OB
 G:Heap->Prop
 Gk:∀{h h':Heap},G h->(∀b o,h.get? b=some o->h'.get? b=some o)->G h'
 glob:Str->Option Value
 nolim:∀{h:Heap},G h->h.NoLimit
 aM:∀{h:Heap},G h->∃mg mb,h.Ns mainGlobals mg/\h.Ns builtinsNs mb/\∀x v,glob x=some v->mg x=some v\/(mg x=none/\mb x=some v)
noncomputable abbrev Dn(P:Pk)(h:Heap)(hid:List Addr)(x:V)(v:Value):Prop:=r5 P.prog P.w P.OB h (· ∉hid) x v
noncomputable abbrev aU(P:Pk)(h:Heap)(hid:List Addr)(x:List V)(v:List Value):Prop:=aV P.prog P.w P.OB h (· ∉hid) x v
theorem Dn.grow{P:Pk}{h h':Heap}{hid ao:List Addr}{x:V}{v:Value}(e:Dn P h hid x v)(hk:∀a o,a∉hid->h.get? a=some o->h'.get? a=some o)
  (hn:∀a∈ao,a∈hid\/h.get? a=none):Dn P h' ao x v:=
 r5.mono P.ok hk (fun a o ha ho hm=>(hn a hm).elim ha fun q=>by rw[q]at ho;cases ho) x v e
theorem aU.grow{P:Pk}{h h':Heap}{hid ao:List Addr}{x:List V}{v:List Value}(e:aU P h hid x v)(hk:∀a o,a∉hid->h.get? a=some o->h'.get? a=some o)
  (hn:∀a∈ao,a∈hid\/h.get? a=none):aU P h' ao x v:=
 aV.mono P.ok hk (fun a o ha ho hm=>(hn a hm).elim ha fun q=>by rw[q]at ho;cases ho) x v e
theorem Dn.kp{P:Pk}{s s':Shared}{hid:List Addr}{x:V}{v:Value}(e:Dn P s.heap hid x v)(k:Kp s s'):Dn P s'.heap hid x v:=e.grow (fun a o ø h=>k.keep a o h) fun a h=>.inl h
theorem aU.kp{P:Pk}{s s':Shared}{hid:List Addr}{x:List V}{v:List Value}(e:aU P s.heap hid x v)(k:Kp s s'):aU P s'.heap hid x v:=e.grow (fun a o ø h=>k.keep a o h) fun a h=>.inl h
theorem Dn.less{P:Pk}{h:Heap}{hid ao:List Addr}{x:V}{v:Value}(e:Dn P h hid x v)(hn:∀a∈ao,a∈hid):Dn P h ao x v:=
 r5.mono P.ok (fun ø ø ø h=>h) (fun a o ha ho hm=>ha (hn a hm)) x v e
theorem aU.less{P:Pk}{h:Heap}{hid ao:List Addr}{x:List V}{v:List Value}(e:aU P h hid x v)(hn:∀a∈ao,a∈hid):aU P h ao x v:=
 aV.mono P.ok (fun ø ø ø h=>h) (fun a o ha ho hm=>ha (hn a hm)) x v e
structure Cx where
 vars:List (Str×NameKind×Bool)
 aM:List Str
noncomputable def fc(P:Pk)(L:Addr)(h:Heap)(out hid:List Addr):V->Value->Prop
 | .list l,v=>∃a vs,v= .ref a/\a∈hid/\a∉out/\a≠L/\h.PlainList a vs.toArray/\aU P h hid l vs
 | .dict ks l,v=>∃a vs,v= .ref a/\a∈hid/\a∉out/\a≠L/\(a==sysModules)=false/\vs.length=ks.length/\h.DictOf (intKind P.prog P.w) a (ks.zip vs)/\aU P h hid l vs
 |_,_=>False
noncomputable def qQ(P:Pk)(L:Addr)(h:Heap)(out hid:List Addr)(b:Bool)(ov:Option Value):Option V->Prop
 |none=>True
 |some x=>∃v,ov=some v/\(if b then fc P L h out hid x v else Dn P h hid x v)
noncomputable def At(env:Env)(m:Str->Option Value)(h:Heap)(out hid:List Addr)(x:Str):NameKind->Option Value->Prop
 | .local,ov=>m x=ov
 | .cell,ov| .free,ov=>∃c,env.cells.lookup x=some c/\c∈hid/\c∉out/\h.IsCell c ov
 |_,_=>False
structure aB(P:Pk)(K:Cx)(env:Env)(out hid:List Addr)(m:Str->Option Value)(B s:Shared)(ρ:Nat->Option V):Prop where
 fn:env.scope.kind= .function
 gl:env.globals=mainGlobals
 bl:env.builtins=builtinsNs
 kind:∀(i:Nat) x k b,K.vars[i]?=some (x,k,b)->env.kindOf x=some k
 pt:∀x∈K.aM,env.kindOf x=some .globalImplicit
 nodup:∀(i j:Nat) x k b k' b',K.vars[i]?=some (x,k,b)->K.vars[j]?=some (x,k',b')->i=j
 jc:∀x y c,env.cells.lookup x=some c->env.cells.lookup y=some c->x=y
 live:cx s.heap hid
 oh:∀a∈out,a∈hid
 Lh:env.locals∈hid
 Lo:env.locals∉out
 ns:s.heap.Ns env.locals m
 slot:∀(i:Nat) x k b,K.vars[i]?=some (x,k,b)->∃ov,At env m s.heap out hid x k ov/\qQ P env.locals s.heap out hid b ov (ρ i)
 apart:∀(i j:Nat) x y k k' a,i≠j->K.vars[i]?=some (x,k,true)->K.vars[j]?=some (y,k',true)->At env m s.heap out hid x k (some (.ref a))->At env m s.heap out hid y k' (some (.ref a))->ρ i=none\/ρ j=none
 gb:P.G B.heap
 kp:Kp B s
 own:∀a∈hid,a∉out->B.heap.get? a=none
theorem IsCell.fun{h:Heap}{c:Addr}{u v:Option Value}(x:h.IsCell c u)(y:h.IsCell c v):u=v:=by
 obtain⟨o,ho,hd⟩:=x;obtain⟨o',M0,i1⟩:=y;rw[ho]at M0;cases M0;rw[hd]at i1;cases i1;rfl
theorem At.fun2{env m h out hid out' ao x k u v}(a:At env m h out hid x k u)(b:At env m h out' ao x k v):u=v:=by
 cases k
 case «local» =>exact mD (Eq.symm a) b
 case cell=>obtain⟨c,h1,_,_,h2⟩:=a;obtain⟨c',IT,_,_,M8⟩:=b;rw[h1]at IT;cases IT;exact IsCell.fun h2 M8
 case free=>obtain⟨c,h1,_,_,h2⟩:=a;obtain⟨c',IT,_,_,M8⟩:=b;rw[h1]at IT;cases IT;exact IsCell.fun h2 M8
 all_goals exact a.elim
theorem At.fun{env m h out hid x k u v}(a:At env m h out hid x k u)(b:At env m h out hid x k v):u=v:=a.fun2 b
theorem At.map{env m m'}{h h':Heap}{out hid out' ao:List Addr}{x k u}(a:At env m h out hid x k u)(hm:m x=u->m' x=u)
  (f:∀c,env.cells.lookup x=some c->c∈hid->c∉out->h.IsCell c u->c∈ao/\c∉out'/\h'.IsCell c u):At env m' h' out' ao x k u:=by
 cases k
 case «local» =>exact hm a
 case cell=>obtain⟨c,h1,h2,h3,h4⟩:=a;exact⟨c,h1,f c h1 h2 h3 h4⟩
 case free=>obtain⟨c,h1,h2,h3,h4⟩:=a;exact⟨c,h1,f c h1 h2 h3 h4⟩
 all_goals exact a.elim
theorem At.grow{env m}{h h':Heap}{out hid ao:List Addr}{x k u}(a:At env m h out hid x k u)(hk:∀c v,h.IsCell c v->h'.IsCell c v)(hh:∀a∈hid,a∈ao):At env m h' out ao x k u:=
 a.map id fun c ø h2 h3 h4=>⟨hh _ h2,h3,hk _ _ h4⟩
theorem At.back{env m}{h h':Heap}{out hid ao:List Addr}{x k u}(a:At env m h' out ao x k u){v}(b:At env m h out hid x k v)(hk:∀c v,h.IsCell c v->h'.IsCell c v):u=v:=
 a.fun2 (At.map (out':=out) (ao:=hid) b id fun c ø h2 h3 h4=>⟨h2,h3,hk _ _ h4⟩)
theorem IsCell.Ua{h h':Heap}{c:Addr}{u:Option Value}(x:h.IsCell c u)(k:∀o,h.get? c=some o->h'.get? c=some o):h'.IsCell c u:=by
 obtain⟨o,ho,hd⟩:=x;exact⟨o,k o ho,hd⟩
theorem fc.map{P:Pk}{L L':Addr}{h h':Heap}{out hid out' ao:List Addr}{x:V}{v:Value}(e:fc P L h out hid x v)
  (f:∀a,v= .ref a->a∈hid->a∉out->a≠L->a∈ao/\a∉out'/\a≠L'/\∀o,h.get? a=some o->h'.get? a=some o) (g:∀{l vs},aU P h hid l vs->aU P h' ao l vs):fc P L' h' out' ao x v:=by
 cases x
 case list=>
  obtain⟨a,vs,rfl,h1,h2,h3,⟨k,h4⟩,h5⟩:=e;obtain⟨q1,q2,q3,q4⟩:=f a rfl h1 h2 h3;exact⟨a,vs,rfl,q1,q2,q3,⟨k,q4 _ h4⟩,g h5⟩
 case dict=>
  obtain⟨a,vs,rfl,h1,h2,h3,h4,h5,⟨o,es,ep,ho,hr⟩,h7⟩:=e;obtain⟨q1,q2,q3,q4⟩:=f a rfl h1 h2 h3;exact⟨a,vs,rfl,q1,q2,q3,h4,h5,⟨o,es,ep,q4 o ho,hr⟩,g h7⟩
 all_goals exact e.elim
theorem fc.grow{P:Pk}{L:Addr}{h h':Heap}{out hid ao:List Addr}{x:V}{v:Value}(e:fc P L h out hid x v)(hk:∀a o,h.get? a=some o->h'.get? a=some o)
  (hh:∀a∈hid,a∈ao) (hn:∀a∈ao,a∈hid\/h.get? a=none):fc P L h' out ao x v:=
 e.map (fun a ø h1 h2 h3=>⟨hh _ h1,h2,h3,hk a⟩) fun d=>d.grow (fun a o ø q=>hk a o q) hn
theorem qQ.map{P:Pk}{L L':Addr}{h h':Heap}{out hid out' ao:List Addr}{b ov r}(e:qQ P L h out hid b ov r)
  (f:b=true->∀a,ov=some (.ref a)->a∈hid->a∉out->a≠L->a∈ao/\a∉out'/\a≠L'/\∀o,h.get? a=some o->h'.get? a=some o) (d:∀{x v},Dn P h hid x v->Dn P h' ao x v) (g:∀{l vs},aU P h hid l vs->aU P h' ao l vs):qQ P L' h' out' ao b ov r:=by
 cases r with
 |none=>trivial
 |some x=>
  obtain⟨v,rfl,e⟩:=e
  cases b with
  |false=>exact⟨v,rfl,d e⟩
  |true=>exact⟨v,rfl,fc.map (P:=P) e (fun a q=>f rfl a (congrArg some q)) g⟩
theorem qQ.grow{P:Pk}{L:Addr}{h h':Heap}{out hid ao:List Addr}{b ov r}(e:qQ P L h out hid b ov r)(hk:∀a o,h.get? a=some o->h'.get? a=some o)
  (hh:∀a∈hid,a∈ao) (hn:∀a∈ao,a∈hid\/h.get? a=none):qQ P L h' out ao b ov r:=
 e.map (fun ø a ø h1 h2 h3=>⟨hh _ h1,h2,h3,hk a⟩) (fun d=>d.grow (fun a o ø q=>hk a o q) hn) fun d=>d.grow (fun a o ø q=>hk a o q) hn
theorem aB.map{P:Pk}{K:Cx}{env:Env}{out hid out' ao:List Addr}{m}{B s s':Shared}{ρ}(S:aB P K env out hid m B s ρ)
  (live:cx s'.heap ao) (oh:∀a∈out',a∈ao) (ns:s'.heap.Ns env.locals m) (kp:Kp B s') (own:∀a∈ao,a∉out'->B.heap.get? a=none)
  (move:∀a,a∈hid->a∉out->a∈ao/\a∉out'/\∀o,s.heap.get? a=some o->s'.heap.get? a=some o)
  (old:∀a o,a∉hid->s.heap.get? a=some o->s'.heap.get? a=some o) (new:∀a∈ao,a∈hid\/s.heap.get? a=none):aB P K env out' ao m B s' ρ:=by
 have TC:∀{x k u},At env m s.heap out hid x k u->At env m s'.heap out' ao x k u:=fun h=>h.map id fun c ø h1 h2 h3=>⟨(move c h1 h2).1,(move c h1 h2).2.1,IsCell.Ua h3 (move c h1 h2).2.2⟩
 exact {fn:=S.fn,gl:=S.gl,bl:=S.bl,kind:=S.kind,pt:=S.pt,nodup:=S.nodup,jc:=S.jc,live:=live,oh:=oh,Lh:=(move _ S.Lh S.Lo).1,Lo:=(move _ S.Lh S.Lo).2.1,ns:=ns,gb:=S.gb,kp:=kp,own:=own
        slot:=fun i x k b hi=>(S.slot i x k b hi).elim fun ov q=>⟨ov,TC q.1,q.2.map (fun ø a ø h1 h2 h3=>⟨(move a h1 h2).1,(move a h1 h2).2.1,h3,(move a h1 h2).2.2⟩) (fun e=>Dn.grow (P:=P) e old new) fun e=>aU.grow (P:=P) e old new⟩
        apart:=fun i j x y k k' a TD hi hj h1 h2=>(S.slot i x k true hi).elim fun ov q1=>(S.slot j y k' true hj).elim fun YI q2=>by
         have e1:=At.fun (TC q1.1) h1
         have e2:=At.fun (TC q2.1) h2
         subst e1;subst e2;exact S.apart i j x y k k' a TD hi hj q1.1 q2.1}
theorem aB.grow{P:Pk}{K:Cx}{env:Env}{out hid ao:List Addr}{m}{B s s':Shared}{ρ}(r:aB P K env out hid m B s ρ)(k:Kp s s')
  (hh:∀a∈hid,a∈ao) (hn:∀a∈ao,a∈hid\/s.heap.get? a=none) (hl:cx s'.heap ao):aB P K env out ao m B s' ρ:=
 r.map hl (fun a h=>hh a (r.oh a h)) (r.ns.keeps k.keep) (r.kp.trans k) (fun a h ho=>(hn a h).elim (fun q=>r.own a q ho) fun q=>by
  cases e:B.heap.get? a with
  |none=>rfl
  |some o=>rw[r.kp.keep a o e]at q;cases q) (fun a h ho=>⟨hh a h,ho,k.keep a⟩) (fun a o ø h=>k.keep a o h) hn
theorem aB.after{P:Pk}{K:Cx}{env:Env}{out hid:List Addr}{m}{B s s':Shared}{ρ}(r:aB P K env out hid m B s ρ)(k:Kp s s'):aB P K env out hid m B s' ρ:=
 r.grow k (fun ø h=>h) (fun ø h=>.inl h) (r.live.kp k)
theorem aB.G{P:Pk}{K:Cx}{env:Env}{out hid:List Addr}{m}{B s:Shared}{ρ}(r:aB P K env out hid m B s ρ):P.G s.heap:=P.Gk r.gb r.kp.keep
noncomputable abbrev al:=Nat->Option V
noncomputable abbrev av(lo:Bool)(out hid:List Addr):List Addr:=if lo then out else hid
noncomputable def eM(P:Pk)(n:Nat)(K:Cx)(lo:Bool)(e:Expr)(f:al->Option V):Prop:=
 ∀(A:Around) (env:Env) (out hid:List Addr) (m:Str->Option Value) (B s:Shared) (ρ:al) (x:V) (E:Value->Shared->Prop),bW n A->aB P K env out hid m B s ρ->f ρ=some x->
  wpAny (model P.prog P.w) A (eval e env) (fun v s'=>Kp s s'/\Dn P s'.heap (av lo out hid) x v) E s
noncomputable def lH(P:Pk)(n:Nat)(K:Cx)(lo:Bool)(es:List Expr)(f:al->Option (List V)):Prop:=
 ∀(A:Around) (env:Env) (out hid:List Addr) (m:Str->Option Value) (B s:Shared) (ρ:al) (x:List V) (E:Value->Shared->Prop) (pos:Pos),bW n A->aB P K env out hid m B s ρ->f ρ=some x->
  wpAny (model P.prog P.w) A (spliced (backTo pos (starEach es env))) (fun v s'=>Kp s s'/\aU P s'.heap (av lo out hid) x v) E s
noncomputable def AT(P:Pk)(n:Nat)(K:Cx)(e:Expr)(f:al->Option Bool):Prop:=
 ∀(A:Around) (env:Env) (out hid:List Addr) (m:Str->Option Value) (B s:Shared) (ρ:al) (b:Bool) (E:Value->Shared->Prop),bW n A->aB P K env out hid m B s ρ->f ρ=some b->
  wpAny (model P.prog P.w) A (isTrue e env (eval e env)) (fun c s'=>Kp s s'/\c=b) E s
theorem aB.G6{P:Pk}{K:Cx}{env:Env}{out hid:List Addr}{m}{B s:Shared}{ρ}(r:aB P K env out hid m B s ρ)(lo:Bool):cx s.heap (av lo out hid):=by
 cases lo
 ·exact r.live
 ·exact fun a h=>r.live a (r.oh a h)
section
variable{P:Pk}{n:Nat}{K:Cx}{lo:Bool}
noncomputable def V.scalar:V->Bool
 | .none| .bool _| .int _| .str _=>true
 |_=>false
theorem V.I2(i:Int):(V.int i).scalar=true:=rfl
theorem Dn.scalar{h h':Heap}{hid ao:List Addr}{x:V}{v:Value}(e:Dn P h hid x v)(hx:x.scalar=true):Dn P h' ao x v:=by
 cases x<;>first|exact e|cases hx
theorem ae{e f}(h:eM P n K false e f):eM P n K true e f:=fun A env out hid m B s ρ x E r S hf=>
 au (h A env out hid m B s ρ x E r S hf) (fun v s' q=>⟨q.1,q.2.less S.oh⟩) fun ø ø q=>q
set_option tactic.hygienic true in
theorem qR{e f}(h:eM P n K true e f):eM P n K lo e (fun ρ=>(f ρ).bind fun x=>if x.scalar then some x else none):=fun A env out hid m B s ρ x E r S hf=>by
 refine ah hf fun y hy hx=>?_
 split at hx
 ·rename_i Ub
  obtain rfl:=Option.some.inj hx;exact au (h A env out hid m B s ρ y E r S hy) (fun v s' q=>⟨q.1,q.2.scalar Ub⟩) fun ø ø q=>q
 ·cases hx
theorem aa{i k pos}:eM P n K lo (.Constant (.int i) k pos) fun ø=>some (.int i):=fun A env out hid m B s ρ x E r S hf=>by
 cases hf;exact wpAny_Constant_int ⟨Kp.toks s _,_,rfl⟩
theorem aC{x:Str}{k pos}{l:List Nat}(hl:x=pyStr l):eM P n K lo (.Constant (.str x) k pos) fun ø=>some (.str l):=fun A env out hid m B s ρ y E r S hf=>by
 cases hf;subst hl;exact uQ ⟨Kp.toks s _,_,rfl⟩
theorem df{b k pos}:eM P n K lo (.Constant (.bool b) k pos) fun ø=>some (.bool b):=fun A env out hid m B s ρ y E r S hf=>by
 cases hf;exact uR ⟨Kp.refl s,rfl⟩
theorem lI{k pos}:eM P n K lo (.Constant .none k pos) fun ø=>some .none:=fun A env out hid m B s ρ y E r S hf=>by
 cases hf;exact wpAny_Constant_none ⟨Kp.refl s,rfl⟩
theorem aB.load{env:Env}{out hid:List Addr}{m}{B s:Shared}{ρ}(S:aB P K env out hid m B s ρ){i:Nat}{x:Str}{k:NameKind}{b:Bool}(hi:K.vars[i]?=some (x,k,b)){y:V}(hy:ρ i=some y)
  (hd:(x==("__debug__":Str))=false) (hc:(x==("__classdict__":Str))=false) {A:Around} {E:Value->Shared->Prop} {M:Model} {Q:Value->Shared->Prop}
  (h:∀v,(if b then fc P env.locals s.heap out hid y v else Dn P s.heap hid y v)->At env m s.heap out hid x k (some v)->Q v s):wpAny M A (loadName env x) Q E s:=by
 obtain⟨ov,h1,h2⟩:=S.slot i x k b hi;rw[hy]at h2;obtain⟨v,rfl,h2⟩:=h2;have hk:=S.kind i x k b hi;have h0:=h v h2 h1;cases k<;>simp only[At]at h1
 ·exact kJ S.fn hk S.ns h1 h0
 all_goals first
  |exact h1.elim
  |(obtain⟨c,e1,_,_,e2⟩:=h1
    first
     |exact wpAny_loadName_cell S.fn hk e1 e2 h0
     |exact wpAny_loadName_free S.fn hk e1 e2 h0 hc)
theorem fc.loose{L h out hid}{x:V}{v:Value}(e:fc P L h out hid x v)(oh:∀a∈out,a∈hid):Dn P h out x v:=by
 cases x with
 |list l=>
  obtain⟨a,vs,rfl,h1,h2,h3,h4,h5⟩:=e;exact⟨a,vs,rfl,h2,h4,aU.less (P:=P) h5 oh⟩
 |dict ks l=>
  obtain⟨a,vs,rfl,h1,h2,h3,h4,h5,h6,h7⟩:=e;exact⟨a,vs,rfl,h2,h5,h4,h6,aU.less (P:=P) h7 oh⟩
 |_=>exact e.elim
theorem Z(i:Nat){x:Str}{k:NameKind}{pos:Pos}(hi:K.vars[i]?=some (x,k,false))(hd:(x==("__debug__":Str))=false)(hc:(x==("__classdict__":Str))=false):
  eM P n K false (.Name x pos) fun ρ=>ρ i:=fun A env out hid m B s ρ y E r S hf=>
 eV (S.load hi hf hd hc fun v hv ø=>⟨Kp.refl s,hv⟩) hd
theorem cG(i:Nat){x:Str}{k:NameKind}{pos:Pos}(hi:K.vars[i]?=some (x,k,true))(hd:(x==("__debug__":Str))=false)(hc:(x==("__classdict__":Str))=false):
  eM P n K true (.Name x pos) fun ρ=>ρ i:=fun A env out hid m B s ρ y E r S hf=>
 eV (S.load hi hf hd hc fun v hv ø=>⟨Kp.refl s,fc.loose hv S.oh⟩) hd
noncomputable def vk(P:Pk)(op:Operator)(F:V->V->Option V):Prop:=
 ∀(A:Around) (s:Shared) (hid:List Addr) (x y z:V) (u v:Value) (E:Value->Shared->Prop),bW 0 A->cx s.heap hid->Dn P s.heap hid x u->Dn P s.heap hid y v->F x y=some z->
  wpAny (model P.prog P.w) A (binaryOp op u v) (fun r s'=>Kp s s'/\Dn P s'.heap hid z r) E s
noncomputable def mI(P:Pk)(op:CmpOp)(F:V->V->Option Bool):Prop:=
 ∀(A:Around) (s:Shared) (hid:List Addr) (x y:V) (b:Bool) (u v:Value) (E:Value->Shared->Prop),bW 0 A->P.G s.heap->cx s.heap hid->Dn P s.heap hid x u->Dn P s.heap hid y v->F x y=some b->
  wpAny (model P.prog P.w) A (compareOp op u v) (fun r s'=>Kp s s'/\r= .bool b) E s
noncomputable def dA(F:V->V->Option V)(f g:al->Option V):al->Option V:=fun ρ=>(f ρ).bind fun x=>(g ρ).bind fun y=>F x y
noncomputable def qS(F:V->V->Option Bool)(f g:al->Option V):al->Option Bool:=fun ρ=>(f ρ).bind fun x=>(g ρ).bind fun y=>F x y
theorem ai{l r:Expr}{op:Operator}{pos:Pos}{F f g}(ho:vk P op F)(hl:eM P n K lo l f)(hr:eM P n K lo r g):eM P n K lo (.BinOp l op r pos) (dA F f g):=fun A env out hid m B s ρ z E rm S hf=>by
 refine ah hf fun x hx gg=>?_
 clear hf;rename _=>hf
 refine ah hf fun y hy gg=>?_
 clear hf;rename _=>hf
 refine wpAny_BinOp (au (hl A env out hid m B s ρ x E rm S hx) (fun u s₁ ag=>?_) fun ø ø q=>q);refine au (hr A env out hid m B s₁ ρ y E rm (S.after ag.1) hy) (fun v s₂ aH=>?_) fun ø ø q=>q
 exact au (ho A s₂ (av lo out hid) x y z u v E (rm.less (dU _)) (((S.after ag.1).after aH.1).G6 lo) (ag.2.kp aH.1) aH.2 hf) (fun w cB eh=>⟨ag.1.trans (aH.1.trans eh.1),eh.2⟩) fun ø ø q=>q
theorem kQ{l r:Expr}{op:CmpOp}{pos:Pos}{F f g}(ho:mI P op F)(hl:eM P n K true l f)(hr:eM P n K true r g)(hm:behindInMarks op r=false):
  eM P n K lo (.Compare l [op] [r] pos) (fun ρ=>(qS F f g ρ).map .bool):=fun A env out hid m B s ρ z E rm S hf=>by
 refine bV hf ?_;clear hf;rintro b YJ rfl;replace hf:=YJ;refine ah hf fun x hx gg=>?_
 clear hf;rename _=>hf
 refine ah hf fun y hy gg=>?_
 clear hf;rename _=>hf
 refine wpAny_Compare1 (au (hl A env out hid m B s ρ x E rm S hx) (fun u s₁ ag=>?_) fun ø ø q=>q) hm;refine au (hr A env out hid m B s₁ ρ y E rm (S.after ag.1) hy) (fun v s₂ aH=>?_) fun ø ø q=>q
 exact au (ho A s₂ out x y b u v E (rm.less (dU _)) ((S.after ag.1).after aH.1).G (((S.after ag.1).after aH.1).G6 true) (ag.2.kp aH.1) aH.2 hf) (fun w cB eh=>⟨ag.1.trans (aH.1.trans eh.1),eh.2⟩) fun ø ø q=>q
theorem aR{l r:Expr}{op:CmpOp}{pos:Pos}{F f g}(ho:mI P op F)(hl:eM P n K true l f)(hr:eM P n K true r g)(hm:behindInMarks op r=false):
  AT P n K (.Compare l [op] [r] pos) (qS F f g):=fun A env out hid m B s ρ b E rm S hf=>by
 refine ah hf fun x hx gg=>?_
 clear hf;rename _=>hf
 refine ah hf fun y hy gg=>?_
 clear hf;rename _=>hf
 refine uS (au (hl A env out hid m B s ρ x E rm S hx) (fun u s₁ ag=>?_) fun ø ø q=>q) hm;refine au (hr A env out hid m B s₁ ρ y E rm (S.after ag.1) hy) (fun v s₂ aH=>?_) fun ø ø q=>q
 refine au (ho A s₂ out x y b u v E (rm.less (dU _)) ((S.after ag.1).after aH.1).G (((S.after ag.1).after aH.1).G6 true) (ag.2.kp aH.1) aH.2 hf) (fun w cB eh=>?_) fun ø ø q=>q
 rw[eh.2];exact pg ⟨ag.1.trans (aH.1.trans eh.1),rfl⟩
noncomputable def lJ:V->Option Bool
 | .bool b=>some b
 |_=>none
theorem fP{e:Expr}{f}(h:eM P n K true e f)(he:∀env whole,isTrue e env whole=(do let v <-whole;standAt e.pos;holding [v] (truthy v))):AT P n K e (fun ρ=>(f ρ).bind lJ):=fun A env out hid m B s ρ b E rm S hf=>by
 refine ah hf fun x hx gg=>?_
 clear hf;rename _=>hf
 refine uT (au (h A env out hid m B s ρ x E rm S hx) (fun v s₁ ag=>?_) fun ø ø q=>q) (he _ _);cases x<;>simp only[lJ]at hf<;>try cases hf
 obtain rfl:v= .bool _:=ag.2;exact pg ⟨ag.1,rfl⟩
theorem xW{e:Expr}{pos:Pos}{f}(h:AT P n K e f):AT P n K (.UnaryOp .Not e pos) (fun ρ=>(f ρ).map (!·)):=fun A env out hid m B s ρ b E rm S hf=>by
 refine bV hf ?_;clear hf;rintro c YJ rfl;replace hf:=YJ;exact wpAny_isTrue_Not (au (h A env out hid m B s ρ c E rm S hf) (fun c' s₁ ag=>⟨ag.1,by rw[ag.2]⟩) fun ø ø q=>q)
noncomputable def M9(f g:al->Option Bool):al->Option Bool:=fun ρ=>(f ρ).bind fun a=>if a then g ρ else some false
noncomputable def YK(f g:al->Option Bool):al->Option Bool:=fun ρ=>(f ρ).bind fun a=>if a then some true else g ρ
theorem r7{a b:Expr}{pos:Pos}{f g}(ha:AT P n K a f)(hb:AT P n K b g):AT P n K (.BoolOp .And [a,b] pos) (M9 f g):=fun A env out hid m B s ρ c E rm S hf=>by
 refine ah hf fun x hx gg=>?_
 clear hf;rename _=>hf
 refine wpAny_isTrue_BoolOp (wpAny_allTrue_And_cons (au (ha A env out hid m B s ρ x E rm S hx) (fun x' s₁ ag=>?_) fun ø ø q=>q));rw[ag.2];cases x
 ·simp only[gz,eW]at hf ⊢
  exact⟨ag.1,(Option.some.inj hf)⟩
 ·simp only[eI]at hf ⊢
  refine wpAny_allTrue_And_cons (au (hb A env out hid m B s₁ ρ c E rm (S.after ag.1) hf) (fun y' s₂ aH=>?_) fun ø ø q=>q);rw[aH.2];cases c
  ·exact⟨ag.1.trans aH.1,rfl⟩
  ·exact wpAny_allTrue_And_nil ⟨ag.1.trans aH.1,rfl⟩
theorem AT.or{a b:Expr}{pos:Pos}{f g}(ha:AT P n K a f)(hb:AT P n K b g):AT P n K (.BoolOp .Or [a,b] pos) (YK f g):=fun A env out hid m B s ρ c E rm S hf=>by
 refine ah hf fun x hx gg=>?_
 clear hf;rename _=>hf
 refine wpAny_isTrue_BoolOp (wpAny_allTrue_Or_cons (au (ha A env out hid m B s ρ x E rm S hx) (fun x' s₁ ag=>?_) fun ø ø q=>q));rw[ag.2];cases x
 ·simp only[gz,eW]at hf ⊢
  refine wpAny_allTrue_Or_cons (au (hb A env out hid m B s₁ ρ c E rm (S.after ag.1) hf) (fun y' s₂ aH=>?_) fun ø ø q=>q);rw[aH.2];cases c
  ·exact wpAny_allTrue_Or_nil ⟨ag.1.trans aH.1,rfl⟩
  ·exact⟨ag.1.trans aH.1,rfl⟩
 ·simp only[eI]at hf ⊢
  exact⟨ag.1,(Option.some.inj hf)⟩
noncomputable def G7(t:al->Option Bool)(f g:al->Option V):al->Option V:=fun ρ=>(t ρ).bind fun b=>if b then f ρ else g ρ
theorem r8{t a b:Expr}{pos:Pos}{c f g}(ht:AT P n K t c)(ha:eM P n K lo a f)(hb:eM P n K lo b g):eM P n K lo (.IfExp t a b pos) (G7 c f g):=fun A env out hid m B s ρ z E rm S hf=>by
 refine ah hf fun x hx gg=>?_
 clear hf;rename _=>hf
 refine wpAny_IfExp (au (ht A env out hid m B s ρ x E rm S hx) (fun x' s₁ ag=>?_) fun ø ø q=>q);rw[ag.2];cases x
 ·simp only[gz,eW]at hf ⊢
  exact au (hb A env out hid m B s₁ ρ z E rm (S.after ag.1) hf) (fun v s₂ aH=>⟨ag.1.trans aH.1,aH.2⟩) fun ø ø q=>q
 ·simp only[eI]at hf ⊢
  exact au (ha A env out hid m B s₁ ρ z E rm (S.after ag.1) hf) (fun v s₂ aH=>⟨ag.1.trans aH.1,aH.2⟩) fun ø ø q=>q
theorem ab:lH P n K lo [] fun ø=>some []:=fun A env out hid m B s ρ x E pos rm S hf=>by
 cases hf;exact jU ⟨Kp.refl s,aV.nil⟩
noncomputable def aQ(f:al->Option V)(g:al->Option (List V)):al->Option (List V):=fun ρ=>(f ρ).bind fun x=>(g ρ).bind fun y=>some (x::y)
theorem O{e:Expr}{es:List Expr}{f g}(h:eM P n K lo e f)(hs:lH P n K lo es g)(he:∀env,starEach (e::es) env=(false,eval e env)::starEach es env):lH P n K lo (e::es) (aQ f g):=
 fun A env out hid m B s ρ x E pos rm S hf=>by
 refine ah hf fun y hy gg=>?_
 clear hf;rename _=>hf
 refine ah hf fun ys Qy gg=>?_
 clear hf;rename _=>hf
 cases hf;refine jV (au (h A env out hid m B s ρ y E rm S hy) (fun v s₁ ag=>?_) fun ø ø q=>q) (he env);exact au (hs A env out hid m B s₁ ρ ys E pos rm (S.after ag.1) Qy) (fun vs s₂ aH=>⟨ag.1.trans aH.1,.cons (ag.2.kp aH.1) aH.2⟩) fun ø ø q=>q
theorem uy{hid:List Addr}{s:Shared}(h:cx s.heap hid):s.heap.objs.size∉hid:=h.not (aP _)
theorem ct{es:List Expr}{k:Nat}{pos:Pos}{f}(hs:lH P n K lo es f)(hl:es.length<=100)(hlen:∀ρ x,f ρ=some x->x.length=es.length):eM P n K lo (.Tuple es k pos) (fun ρ=>(f ρ).map .tup):=fun A env out hid m B s ρ x E rm S hf=>by
 refine bV hf ?_;clear hf;rintro y hy rfl;refine wpAny_Tuple (au (hs A env out hid m B s ρ y E pos rm S hy) (fun vs s₁ ag=>⟨?_,ag.1.trans (Kp.push s₁ _ _),?_⟩) fun ø ø q=>q)
 ·rw[ag.2.length,hlen _ _ hy,gR];omega
 ·exact⟨_,vs,rfl,uy ((S.after ag.1).G6 lo),⟨0,bD _ rfl⟩,aU.kp (P:=P) ag.2 (Kp.push s₁ _ s₁.toks)⟩
theorem eR{es:List Expr}{pos:Pos}{f}(hs:lH P n K lo es f)(hl:es.length<=100)(hlen:∀ρ x,f ρ=some x->x.length=es.length):eM P n K lo (.List es pos) (fun ρ=>(f ρ).map .list):=fun A env out hid m B s ρ x E rm S hf=>by
 refine bV hf ?_;clear hf;rintro y hy rfl;refine wpAny_List (au (hs A env out hid m B s ρ y E pos rm S hy) (fun vs s₁ ag=>⟨?_,ag.1.trans (Kp.push s₁ _ _),?_⟩) fun ø ø q=>q)
 ·rw[ag.2.length,hlen _ _ hy,gR];omega
 ·exact⟨_,vs,rfl,uy ((S.after ag.1).G6 lo),⟨0,bD _ rfl⟩,aU.kp (P:=P) ag.2 (Kp.push s₁ _ s₁.toks)⟩
theorem af{f g k}(hg:∀ρ x,g ρ=some x->x.length=k):∀ρ x,aQ f g ρ=some x->x.length=k+1:=fun ρ x hf=>by
 refine ah hf fun y hy gg=>?_
 clear hf;rename _=>hf
 refine ah hf fun ys Qy gg=>?_
 clear hf;rename _=>hf
 cases hf;simp[hg _ _ Qy]
noncomputable def aZ(P:Pk)(n:Nat)(fv:Value)(F:List V->Option V):Prop:=
 ∀(A:Around) (s:Shared) (hid:List Addr) (xs:List V) (x:V) (vs:List Value) (E:Value->Shared->Prop),bW n A->P.G s.heap->cx s.heap hid->aU P s.heap hid xs vs->F xs=some x->
  wpAny (model P.prog P.w) A (call fv vs) (fun v s'=>Kp s s'/\Dn P s'.heap hid x v) E s
theorem bH{env:Env}{out hid:List Addr}{m}{B s:Shared}{ρ}(S:aB P K env out hid m B s ρ){x:Str}{pos:Pos}{v:Value}(hx:K.aM.contains x=true)(hv:P.glob x=some v)
  (hd:(x==("__debug__":Str))=false) {A:Around} {E:Value->Shared->Prop} {M:Model} {Q:Value->Shared->Prop} (h:Q v s):wpAny M A (eval (.Name x pos) env) Q E s:=by
 obtain⟨mg,mb,h1,h2,h3⟩:=P.aM S.G;refine Name_function_global S.fn (S.pt x (List.contains_iff_mem.mp hx)) ?_ hd;rcases h3 x v hv with q|⟨q,q'⟩
 ·exact loadGlobal_global (S.gl▸h1) q h
 ·exact loadGlobal_builtin (S.gl▸h1) q (S.bl▸h2) q' h
noncomputable def eD(F:List V->Option V)(f:al->Option (List V)):al->Option V:=fun ρ=>(f ρ).bind F
theorem dg{es:List Expr}{pos:Pos}{env:Env}(h:∀env,starEach es env=es.map fun e=>(false,eval e env)):(backTo pos (starEach es env)).any (·.1)=false:=by
 rw[h];unfold backTo;simp
theorem aI{id:Str}{p pos:Pos}{es:List Expr}{b:String}{F f}(hx:K.aM.contains id=true)(hv:P.glob id=some (.builtin b))(hd:(id==("__debug__":Str))=false)
  (hc:aZ P n (.builtin b) F) (hs:lH P n K lo es f) (eF:∀env,starEach es env=es.map fun e=>(false,eval e env)) (bN:es≠[]):eM P n K lo (.Call (.Name id p) es [] pos) (eD F f):=
 fun A env out hid m B s ρ x E rm S hf=>by
 refine ah hf fun y hy gg=>?_
 clear hf;rename _=>hf
 refine kK (bH S hx hv hd ?_);refine rL (dg eF) ?_;obtain⟨iH,es',rfl⟩:=uU bN;have key:=hs A env out hid m B s ρ y E pos rm S hy;have hb:backTo pos (starEach (iH::es') env)=(false,eval iH env)::(backTo pos (starEach (iH::es') env)).tail:=by rw[eF];rfl
 rw[hb]at key ⊢;refine uV (au key (fun vs s₁ ag=>?_) fun ø ø q=>q);exact au (hc A s₁ (av lo out hid) y x vs E rm (S.after ag.1).G ((S.after ag.1).G6 lo) ag.2 hf) (fun v s₂ aH=>⟨ag.1.trans aH.1,aH.2⟩) fun ø ø q=>q
theorem AU{id:Str}{p pos:Pos}{es:List Expr}{b:String}{F f}(hx:K.aM.contains id=true)(hv:P.glob id=some (.type b))(hd:(id==("__debug__":Str))=false)
  (hc:aZ P n (.type b) F) (hs:lH P n K lo es f) (eF:∀env,starEach es env=es.map fun e=>(false,eval e env)) (bN:es≠[]):eM P n K lo (.Call (.Name id p) es [] pos) (eD F f):=
 fun A env out hid m B s ρ x E rm S hf=>by
 refine ah hf fun y hy gg=>?_
 clear hf;rename _=>hf
 refine kK (bH S hx hv hd ?_);refine yG (dg eF) ?_;obtain⟨iH,es',rfl⟩:=uU bN;have key:=hs A env out hid m B s ρ y E pos rm S hy;have hb:backTo pos (starEach (iH::es') env)=(false,eval iH env)::(backTo pos (starEach (iH::es') env)).tail:=by rw[eF];rfl
 rw[hb]at key ⊢;refine uV (au key (fun vs s₁ ag=>?_) fun ø ø q=>q);exact au (hc A s₁ (av lo out hid) y x vs E rm (S.after ag.1).G ((S.after ag.1).G6 lo) ag.2 hf) (fun v s₂ aH=>⟨ag.1.trans aH.1,aH.2⟩) fun ø ø q=>q
theorem bq{id:Str}{p pos:Pos}{es:List Expr}{a:Addr}{F f}(hx:K.aM.contains id=true)(hv:P.glob id=some (.ref a))(hd:(id==("__debug__":Str))=false)
  (Df:∀h,P.G h->∃o fd,h.get? a=some o/\o.data= .func fd)
  (hc:aZ P n (.ref a) F) (hs:lH P n K lo es f) (eF:∀env,starEach es env=es.map fun e=>(false,eval e env)) (bN:es≠[]):eM P n K lo (.Call (.Name id p) es [] pos) (eD F f):=
 fun A env out hid m B s ρ x E rm S hf=>by
 refine ah hf fun y hy gg=>?_
 clear hf;rename _=>hf
 obtain⟨o,fd,ho,Qz⟩:=Df _ S.G;refine kK (bH S hx hv hd ?_);refine callWith_function (o:=o) (fd:=fd) ?_;obtain⟨iH,es',rfl⟩:=uU bN;have key:=hs A env out hid m B s ρ y E pos rm S hy;have hb:backTo pos (starEach (iH::es') env)=(false,eval iH env)::(backTo pos (starEach (iH::es') env)).tail:=by rw[eF];rfl
 rw[hb]at key ⊢;refine uV (au key (fun vs s₁ ag=>⟨⟨ag.1.keep _ _ ho,Qz⟩,?_⟩) fun ø ø q=>q);exact au (hc A s₁ (av lo out hid) y x vs E rm (S.after ag.1).G ((S.after ag.1).G6 lo) ag.2 hf) (fun v s₂ aH=>⟨ag.1.trans aH.1,aH.2⟩) fun ø ø q=>q
end
section
variable{P:Pk}{n:Nat}{K:Cx}{lo:Bool}
noncomputable def most:Nat:=1000000
theorem cZ:most<=sizeLine:=by rw[gR];decide
noncomputable def V.int?:V->Option Int
 | .int a=>some a
 |_=>Option.none
noncomputable def V.jO:V->Option (List Nat)
 | .str a=>some a
 |_=>Option.none
noncomputable def V.gF:V->Option (List V)
 | .list a=>some a
 |_=>Option.none
theorem V.kR{x:V}{a}(h:x.int?=some a):x= .int a:=by
 cases x<;>first|exact congrArg _ (Option.some.inj h)|cases h
theorem V.kS{x:V}{a}(h:x.jO=some a):x= .str a:=by
 cases x<;>first|exact congrArg _ (Option.some.inj h)|cases h
theorem V.fQ{x:V}{a}(h:x.gF=some a):x= .list a:=by
 cases x<;>first|exact congrArg _ (Option.some.inj h)|cases h
noncomputable def V.QA:V->Option (List V)
 | .tup a=>some a
 |_=>Option.none
theorem V.AV{x:V}{a}(h:x.QA=some a):x= .tup a:=by
 cases x<;>first|exact congrArg _ (Option.some.inj h)|cases h
noncomputable def V.QB:V->Option (List V)
 | .obj a=>some a
 |_=>Option.none
theorem V.AW{x:V}{a}(h:x.QB=some a):x= .obj a:=by
 cases x<;>first|exact congrArg _ (Option.some.inj h)|cases h
noncomputable def r9{α β γ:Type}(p:V->Option α)(q:V->Option β)(F:α->β->Option γ)(x y:V):Option γ:=(p x).bind fun a=>(q y).bind (F a)
theorem bI{α β γ:Type}{p:V->Option α}{q:V->Option β}{F:α->β->Option γ}{x y:V}{z:γ}{G:Prop}(h:r9 p q F x y=some z)(k:∀a b,p x=some a->q y=some b->F a b=some z->G):G:=by
 refine ah h fun a ha gg=>?_
 clear h;rename _=>h
 refine ah h fun b hb gg=>?_
 clear h;rename _=>h
 exact k a b ha hb h
theorem lK{γ:Type}{o o':Option γ}{z:γ}{G:Prop}(h:o.or o'=some z)(k:o=some z->G)(k':o'=some z->G):G:=by
 cases o with
 |none=>exact k' h
 |some a=>exact k h
@[elab_as_elim] theorem ite_inv {γ:Type} {c:Prop} [Decidable c] {a z:γ} {G:γ->Prop} (h:(if c then some a else none)=some z) (k:c->G a):G z:=by
 by_cases q:c
 ·rw[aw q]at h;cases h;exact k q
 ·rw[az q]at h;cases h
theorem eN{γ:Type}{c:Prop}[Decidable c]{a z:γ}{G:Prop}(h:(if c then some a else none)=some z)(k:c->a=z->G):G:=by
 by_cases q:c
 ·rw[aw q]at h;exact k q (Option.some.inj h)
 ·rw[az q]at h;cases h
@[elab_as_elim] theorem some_inv {γ:Type} {a z:γ} {G:γ->Prop} (h:some a=some z) (k:G a):G z:=Option.some.inj h▸k
noncomputable def nM(x y:V):Option V:=(r9 V.int? V.int? (fun a b=>some (.int (a+b))) x y).or
 ((r9 V.jO V.jO (fun a b=>if a.length+b.length<=most then some (.str (a++b))else none) x y).or
 (r9 V.gF V.gF (fun a b=>if a.length+b.length<=most then some (.list (a++b))else none) x y))
noncomputable def zd:V->V->Option V:=r9 V.int? V.int? fun a b=>some (.int (a-b))
noncomputable def xw(x y:V):Option V:=(r9 V.int? V.int? (fun a b=>if-(2^64)<b/\b<2^64 then some (.int (a*b))else none) x y).or
 ((r9 V.jO V.int? (fun a b=>if 0<=b/\a.length=1/\b<=1000000 then some (.str (List.replicate b.toNat a).flatten)else none) x y).or
 (r9 V.gF V.int? (fun a b=>if 0<=b/\a.length=1/\b<=1000000 then some (.list (List.replicate b.toNat a).flatten)else none) x y))
noncomputable def p9:V->V->Option V:=r9 V.int? V.int? fun a b=>if 0<b/\b<1073741824 then some (.int (a.fmod b))else none
noncomputable def Na:V->V->Option V:=r9 V.int? V.int? fun a b=>if 0<b/\b<1073741824 then some (.int (a.fdiv b))else none
noncomputable def QC:V->V->Option V:=r9 V.int? V.int? fun a b=>if a=10/\0<=b/\b<=20 then some (.int (10^b.toNat))else none
theorem Nb(a:List Nat)(b:Int)(h:0<=b/\a.length=1/\b<=1000000):xw (.str a) (.int b)=some (.str (List.replicate b.toNat a).flatten):=by
 show Option.or (if _ then _ else _) _=_;rw[aw h];rfl
theorem Nc(a:List V)(b:Int)(h:0<=b/\a.length=1/\b<=1000000):xw (.list a) (.int b)=some (.list (List.replicate b.toNat a).flatten):=by
 show(if _ then _ else _)=_;rw[aw h]
theorem Nd(a b:Int):zd (.int a) (.int b)=some (.int (a-b)):=rfl
theorem Dn.int_inv{h:Heap}{hid i v}(e:Dn P h hid (.int i) v):∃t,v= .int i t:=e
theorem Dn.str_inv{h:Heap}{hid i v}(e:Dn P h hid (.str i) v):∃t,v= .str (pyStr i) t:=e
theorem Dn.bool_inv{h:Heap}{hid i v}(e:Dn P h hid (.bool i) v):v= .bool i:=e
theorem Dn.none_inv{h:Heap}{hid v}(e:Dn P h hid .none v):v= .none:=e
theorem Dn.em{h:Heap}{hid l v}(e:Dn P h hid (.list l) v):∃a vs,v= .ref a/\a∉hid/\h.PlainList a vs.toArray/\aU P h hid l vs:=e
theorem Dn.oF{h:Heap}{hid l v}(e:Dn P h hid (.tup l) v):∃a vs,v= .ref a/\a∉hid/\zb h a vs.toArray/\aU P h hid l vs:=e
theorem Dn.fe{h:Heap}{hid ks l v}(e:Dn P h hid (.dict ks l) v):∃a vs,v= .ref a/\a∉hid/\vs.length=ks.length/\(a==sysModules)=false/\h.DictOf (intKind P.prog P.w) a (ks.zip vs)/\aU P h hid l vs:=e
theorem Dn.ofInt{h:Heap}{hid}(i:Int)(t:Tok):Dn P h hid (.int i) (.int i t):=⟨t,rfl⟩
theorem Dn.ofStr{h:Heap}{hid}(i:List Nat)(t:Tok):Dn P h hid (.str i) (.str (pyStr i) t):=⟨t,rfl⟩
theorem Dn.ofBool{h:Heap}{hid}(b:Bool):Dn P h hid (.bool b) (.bool b):=rfl
theorem Dn.sa{h:Heap}{hid}:Dn P h hid .none .none:=rfl
theorem Dn.ofList{h:Heap}{hid l a vs}(h1:a∉hid)(h2:h.PlainList a vs.toArray)(h3:aU P h hid l vs):Dn P h hid (.list l) (.ref a):=⟨a,vs,rfl,h1,h2,h3⟩
theorem Dn.Pr{h:Heap}{hid l a vs}(h1:a∉hid)(h2:zb h a vs.toArray)(h3:aU P h hid l vs):Dn P h hid (.tup l) (.ref a):=⟨a,vs,rfl,h1,h2,h3⟩
@[elab_as_elim] theorem Dn.int_k {h:Heap} {hid x a v} {C:Value->Prop} (e:Dn P h hid x v) (q:x.int?=some a) (k:∀t,C (.int a t)):C v:=by
 cases V.kR q;obtain⟨t,rfl⟩:=e.int_inv;exact k t
@[elab_as_elim] theorem Dn.str_k {h:Heap} {hid x a v} {C:Value->Prop} (e:Dn P h hid x v) (q:x.jO=some a) (k:∀t,C (.str (pyStr a) t)):C v:=by
 cases V.kS q;obtain⟨t,rfl⟩:=e.str_inv;exact k t
@[elab_as_elim] theorem Dn.jd {h:Heap} {hid x l v} {C:Value->Prop} (e:Dn P h hid x v) (q:x.gF=some l) (k:∀a vs n,a∉hid->h.get? a=some {cls:=.type "list",data:=.seq vs.toArray n}->h.PlainList a vs.toArray->aU P h hid l vs->C (.ref a)):C v:=by
 cases V.fQ q;obtain⟨a,vs,rfl,h1,⟨n,h2⟩,h3⟩:=e.em;exact k a vs n h1 h2 ⟨n,h2⟩ h3
theorem Dn.newList{s:Shared}{hid l vs}(hh:cx s.heap hid)(h3:aU P s.heap hid l vs):
  Dn P (s.heap.push {cls:=.type "list",data:=.seq vs.toArray}) hid (.list l) (.ref s.heap.objs.size):=
 .ofList (uy hh) ⟨0,bD _ rfl⟩ (aU.kp (P:=P) h3 (Kp.push s _ s.toks))
@[elab_as_elim] theorem aU.one_k {h:Heap} {hid x vs} {C:List Value->Prop} (e:aU P h hid [x] vs) (k:∀v,Dn P h hid x v->C [v]):C vs:=by
 obtain⟨v,r,rfl,h1,rfl⟩:=e;exact k v h1
@[elab_as_elim] theorem aU.two_k {h:Heap} {hid x y vs} {C:List Value->Prop} (e:aU P h hid [x,y] vs) (k:∀v w,Dn P h hid x v->Dn P h hid y w->C [v,w]):C vs:=by
 obtain⟨v,r,rfl,h1,w,r',rfl,h2,rfl⟩:=e;exact k v w h1 h2
@[elab_as_elim] theorem aU.three_k {h:Heap} {hid x y z vs} {C:List Value->Prop} (e:aU P h hid [x,y,z] vs) (k:∀v w u,Dn P h hid x v->Dn P h hid y w->Dn P h hid z u->C [v,w,u]):C vs:=by
 obtain⟨v,r,rfl,h1,w,r',rfl,h2,u,r'',rfl,h3,rfl⟩:=e;exact k v w u h1 h2 h3
theorem oG(a b:List Nat):pyStr a++pyStr b=pyStr (a++b):=by
 show Str.append _ _=_;simp[Str.append,pyStr]
theorem eu(a:List Nat):(pyStr a).length=a.length:=by simp[Str.length,pyStr]
theorem cy:vk P .Add nM:=fun A s hid x y z u v E rm hh hx hy hf=>lK hf
 (fun hf=>bI hf fun a b ha hb hz=>some_inv hz <| hx.int_k ha fun t=>hy.int_k hb fun t'=>PyProof.Rows.add_int ⟨Kp.toks s _,.ofInt _ _⟩) fun hf=>lK hf
 (fun hf=>bI hf fun a b ha hb hz=>ite_inv hz fun hc=>hx.str_k ha fun t=>hy.str_k hb fun t'=>
  PyProof.Rows.add_str (fun t' tk=>⟨Kp.toks s _,by rw[oG];exact .ofStr _ _⟩) (by rw[eu,eu];exact aA hc cZ))
 (fun hf=>bI hf fun l l' ha hb hz=>ite_inv hz fun hc=>hx.jd ha fun a vs n₁ h1 h2 ø h3=>hy.jd hb fun a' gU QD IT M8 ø W9=>
  PySem.P.add_list (n:=n₁) (n2:=QD) h2 M8 ⟨Kp.push s _ s.toks,by rw[Dk];exact Dn.newList hh (h3.app W9)⟩ (by rw[bM,bM,h3.length,W9.length];exact aA hc cZ))
theorem tB:vk P .Sub zd:=fun A s hid x y z u v E rm hh hx hy hf=>bI hf fun a b ha hb hz=>some_inv hz <|
 hx.int_k ha fun t=>hy.int_k hb fun t'=>PyProof.Rows.sub_int ⟨Kp.toks s _,.ofInt _ _⟩
theorem f6:vk P .Mod p9:=fun A s hid x y z u v E rm hh hx hy hf=>bI hf fun a b ha hb hz=>ite_inv hz fun hc=>
 hx.int_k ha fun t=>hy.int_k hb fun t'=>PyProof.Rows.mod_int (Int.ne_of_gt hc.1) ⟨Kp.toks s _,.ofInt _ _⟩
theorem je:vk P .FloorDiv Na:=fun A s hid x y z u v E rm hh hx hy hf=>bI hf fun a b ha hb hz=>ite_inv hz fun hc=>
 hx.int_k ha fun t=>hy.int_k hb fun t'=>PyProof.Rows.floordiv_int (Int.ne_of_gt hc.1) ⟨Kp.toks s _,.ofInt _ _⟩ (.inl (PyProof.noPylong_small (by have:=hc.1;have:=hc.2;clear hx hy hz hf;omega)))
theorem Ps:vk P .Pow QC:=fun A s hid x y z u v E rm hh hx hy hf=>bI hf fun a b ha hb hz=>ite_inv hz fun hc=>
 hx.int_k ha fun t=>hy.int_k hb fun t'=>by
  obtain⟨rfl,h0,h1⟩:=hc;refine PyProof.Rows.pow_int h0 ?_ ⟨Kp.toks s _,.ofInt _ _⟩;have:(Builtin.Int.intBits 10:Int)=4:=by decide+kernel
  rw[this];clear hx hy hz hf;omega
theorem I3(a:List Nat)(k:Nat):List.foldl (fun x1 x2=>x1++x2) #[] (List.replicate k a.toArray)=(List.replicate k a).flatten.toArray:=by
 have h:∀(k:Nat) (acc:List Nat),List.foldl (fun x1 x2=>x1++x2) acc.toArray (List.replicate k a.toArray)=(acc++(List.replicate k a).flatten).toArray:=by
  intro k
  induction k with
  |zero=>intro acc;simp
  |succ k ih=>intro acc;simp only[yH,eJ,Dk,ih,gA,List.append_assoc]
 simpa using h k []
theorem aU.rep{h:Heap}{hid l vs}(e:aU P h hid l vs):∀k,aU P h hid (List.replicate k l).flatten (List.replicate k vs).flatten
 |0=>by simpa using aV.nil
 |k+1=>by simp only[yH,gA];exact e.app (aU.rep e k)
set_option maxHeartbeats 1000000 in
set_option tactic.hygienic true in
theorem tC:vk P .Mult xw:=fun A s hid x y z u v E rm hh hx hy hf=>by
 refine lK hf (fun hf=>bI hf fun a b ha hb hz=>ite_inv hz fun hc=>hx.int_k ha fun t=>hy.int_k hb fun t'=>PyProof.Rows.mul_int ⟨Kp.toks s _,.ofInt _ _⟩ (.of_right (intBits_le_64 hc.1 hc.2)))
  fun hf=>lK hf (fun hf=>bI hf fun a b ha hb hz=>ite_inv hz fun hc=>hx.str_k ha fun t=>hy.int_k hb fun t'=>?_)
  (fun hf=>bI hf fun a b ha hb hz=>ite_inv hz fun hc=>hx.jd ha fun l vs k g1 g2 ø g3=>hy.int_k hb fun t'=>?_)
 ·clear hx hy hz hf ha hb
  obtain⟨h0,h1,h2⟩:=hc;refine PySem.P.mul_str ?_ ?_ ?_ ?_
  ·simp only[Bool.or_eq_false_iff,uW];omega
  ·intro _ _;rw[eu,h1]
   have:(1:Int)<=(2^63-1)/b:=by
    refine(Int.le_ediv_iff_mul_le (by omega)).mpr ?_;omega
   simp only[Int.natCast_one];omega
  ·intro _ _
   rw[eu,h1];unfold Builtin.Str.tooLong;rw[uW,gR];omega
  ·split
   ·have:b=0:=by omega
    subst this;exact⟨dU _,Kp.toks s _,.ofStr [] _⟩
   ·split
    ·rename_i hq
     simp only[eu,h1,nb,jW]at hq;have:b=1:=by rcases hq with q|q;exact q;omega
     subst this;refine⟨Kp.toks s _,?_⟩;simpa using Dn.ofStr (P:=P) a t
    ·have e:=I3 a b.toNat
     have e1:(List.replicate b.toNat a).flatten.length=b.toNat:=by simp[h1]
     refine⟨?_,Kp.toks s _,?_⟩
     ·simp only[pyStr]at e ⊢
      rw[e];simp only[Str.length,bM,e1];rw[gR];omega
     ·simp only[pyStr]
      rw[e];exact .ofStr _ _
 ·clear hx hy hz hf ha hb
  obtain⟨h0,h1,h2⟩:=hc;have hlen:vs.length=1:=by rw[g3.length,h1]
  refine wpAny_binaryOp_repeat_ref (T:="list") (U:="int") (by decide) ⟨_,g2,rfl⟩ (fun s'=>typeIs_int s' b t') noFill_list_mul F.fills_int_mul F.slot_int_rmul repeat_list F.slot_int_index.lookup
   (rM F.slot_int_rmul (typeIs_int s b t') F.entry_int_rmul (F.args_int_rmul_2 _ _) (lm_int_rmul_list_any b t' l vs.toArray k none #[]) ⟨g2,rfl,⟨_,g2,rfl⟩,?_⟩)
  refine rM F.slot_list_mul ⟨_,g2,rfl⟩ F.entry_list_mul (F.args_list_mul_2 _ _)
   (lm_list_mul_any l vs.toArray k none #[] b t' (by simp[Builtin.List.listFitsIndex];omega) (by rw[bM,hlen];omega) (by rw[bM,hlen];unfold Builtin.List.listTooLong;rw[iK,gR];omega)) ⟨g2,Kp.push s _ _,?_⟩
  have e:=listMul_foldl_if vs.toArray b.toNat;rw[e];exact Dn.newList hh (aU.rep g3 b.toNat)
end
section
variable{P:Pk}{n:Nat}{K:Cx}{lo:Bool}
mutual
noncomputable def V.py:V->Option PyData
 | .none=>some .none
 | .bool b=>some (.bool b)
 | .int i=>some (.int i)
 | .tup l=>(V.Fu l).map .tuple
 | .list l=>(V.Fu l).map .list
 |_=>Option.none
noncomputable def V.Fu:List V->Option (List PyData)
 |[]=>some []
 |x::xs=>(V.py x).bind fun a=>(V.Fu xs).bind fun r=>some (a::r)
end
theorem V.tD:V.py .none=some .none:=rfl
theorem V.tE(b:Bool):V.py (.bool b)=some (.bool b):=rfl
theorem V.tF(i:Int):V.py (.int i)=some (.int i):=rfl
theorem V.tG(l:List V):V.py (.tup l)=(V.Fu l).map .tuple:=rfl
theorem V.tH(l:List V):V.py (.list l)=(V.Fu l).map .list:=rfl
theorem V.sb:V.Fu []=some []:=rfl
theorem V.sd(x:V)(xs:List V):V.Fu (x::xs)=(V.py x).bind fun a=>(V.Fu xs).bind fun r=>some (a::r):=rfl
mutual
theorem nN{h:Heap}{hid:List Addr}:∀{x:V} {v:Value} {d:PyData},Dn P h hid x v->x.py=some d->(∃as,Reads h v d as)/\d.canLay0=true
 | .none,v,d,e,q=>by obtain rfl:=Option.some.inj q;rw[e.none_inv];exact⟨⟨_,.none⟩,rfl⟩
 | .bool b,v,d,e,q=>by obtain rfl:=Option.some.inj q;rw[e.bool_inv];exact⟨⟨_,.bool b⟩,rfl⟩
 | .int i,v,d,e,q=>by obtain rfl:=Option.some.inj q;obtain⟨t,rfl⟩:=e.int_inv;exact⟨⟨_,.int i t⟩,rfl⟩
 | .str s,v,d,e,q=>nomatch(q:(Option.none:Option PyData)=some d)
 | .dict ks l,v,d,e,q=>nomatch(q:(Option.none:Option PyData)=some d)
 | .obj l,v,d,e,q=>nomatch(q:(Option.none:Option PyData)=some d)
 | .tup l,v,d,e,q=>by
   obtain⟨ds,q1,rfl⟩:=ph.mp q;obtain⟨a,vs,rfl,_,⟨k,h1⟩,h2⟩:=e.oF;obtain⟨⟨as,h3⟩,h4⟩:=sf h2 q1;exact⟨⟨_,.tuple h1 rfl rfl h3⟩,h4⟩
 | .list l,v,d,e,q=>by
   obtain⟨ds,q1,rfl⟩:=ph.mp q;obtain⟨a,vs,rfl,_,⟨k,h1⟩,h2⟩:=e.em;obtain⟨⟨as,h3⟩,h4⟩:=sf h2 q1;exact⟨⟨_,.list h1 rfl rfl h3⟩,h4⟩
theorem sf{h:Heap}{hid:List Addr}:∀{x:List V} {v:List Value} {d:List PyData},aU P h hid x v->V.Fu x=some d->(∃as,ReadsAll h v d as)/\PyData.canLayAll0 d=true
 |[],v,d,e,q=>by obtain rfl:=Option.some.inj q;obtain rfl:v=[]:=e;exact⟨⟨_,.nil⟩,rfl⟩
 |x::xs,v,d,e,q=>by
  obtain⟨a,q1,q⟩:=nc.mp q;obtain⟨r,q2,q3⟩:=nc.mp q;obtain rfl:=Option.some.inj q3;obtain⟨u,vs,rfl,e1,e2⟩:=e;obtain⟨⟨as,h1⟩,h2⟩:=nN e1 q1;obtain⟨⟨bs,h3⟩,h4⟩:=sf e2 q2;exact⟨⟨_,.cons h1 h3⟩,by simp[PyData.canLayAll0,h2,h4]⟩
end
noncomputable def AX(x y:V):Option Bool:=x.py.bind fun a=>y.py.bind fun b=>if a.depth<=50 then some (PyData.eqv a b)else none
noncomputable def G8(x y:V):Option Bool:=(r9 V.jO V.jO (fun a b=>some (a==b)) x y).or (AX x y)
noncomputable def Dg(x y:V):Option Bool:=(G8 x y).map (!·)
noncomputable def ltV:V->V->Option Bool:=r9 V.int? V.int? fun a b=>some (decide (a<b))
noncomputable def leV(x y:V):Option Bool:=(r9 V.int? V.int? (fun a b=>some (decide (a<=b))) x y).or (r9 V.jO V.jO (fun a b=>some (!decide (b<a))) x y)
noncomputable def gtV:V->V->Option Bool:=r9 V.int? V.int? fun a b=>some (decide (b<a))
noncomputable def geV:V->V->Option Bool:=r9 V.int? V.int? fun a b=>some (decide (b<=a))
noncomputable def V.isNone:V->Bool
 | .none=>true
 |_=>false
noncomputable def V.bool?:V->Option Bool
 | .bool a=>some a
 |_=>Option.none
noncomputable def TE(x y:V):Option Bool:=if y.isNone=true then some x.isNone else r9 V.bool? V.bool? (fun a b=>some (a==b)) x y
noncomputable def I4(x y:V):Option Bool:=(TE x y).map (!·)
noncomputable def YL(x:V)(l:List V):Option Bool:=x.py.bind fun a=>(V.Fu l).bind fun b=>if PyData.depthAll b<=50 then some (b.any fun y=>PyData.eqv y a)else none
noncomputable def QE(l:List Nat):Option Nat:=match l with
 |[c]=>some c
 |_=>none
noncomputable def inV(x y:V):Option Bool:=(r9 V.jO V.jO (fun a b=>(QE a).map fun c=>decide (c∈b)) x y).or (y.gF.bind (YL x))
noncomputable def QF(x y:V):Option Bool:=(inV x y).map (!·)
theorem V.DT{x:V}(h:x.isNone=true):x= .none:=by
 cases x<;>first|rfl|cases h
theorem V.xX{x:V}{a}(h:x.bool?=some a):x= .bool a:=by
 cases x<;>first|exact congrArg _ (Option.some.inj h)|cases h
theorem AY:∀{l:List Nat} {c},QE l=some c->l=[c]
 |[c],_,h=>congrArg (fun x=>[x]) (Option.some.inj h)
 |[],_,h|_::_::_,_,h=>nomatch h
@[elab_as_elim] theorem Dn.bool_k {h:Heap} {hid x a v} {C:Value->Prop} (e:Dn P h hid x v) (q:x.bool?=some a) (k:C (.bool a)):C v:=by
 cases V.xX q;exact e.bool_inv▸k
@[elab_as_elim] theorem map_inv {γ δ:Type} {f:γ->δ} {o:Option γ} {z:δ} {G:δ->Prop} (h:o.map f=some z) (k:∀b,o=some b->G (f b)):G z:=by
 cases o with
 |none=>cases h
 |some b=>exact Option.some.inj h▸k b rfl
theorem vl(x y:V)(h:x.jO=none):G8 x y=AX x y:=by
 unfold G8 r9;rw[h];rfl
theorem QG(a b:Bool):TE (.bool a) (.bool b)=some (a==b):=rfl
theorem sh(a b:List Nat):(pyStr a==pyStr b)=(a==b):=by
 rw[yI];simp[pyStr]
theorem I5{h:Heap}{hid x y u v b}{G:Prop}(hx:Dn P h hid x u)(hy:Dn P h hid y v)(hf:AX x y=some b)
  (k:∀a c as bs,Reads h u a as->Reads h v c bs->a.canLay0=true->c.canLay0=true->a.depth<=50->PyData.eqv a c=b->G):G:=by
 refine ah hf fun a ha gg=>?_
 clear hf;rename _=>hf
 refine ah hf fun c hc gg=>?_
 clear hf;rename _=>hf
 refine ite_inv (G:=fun b=>(∀a c as bs,Reads h u a as->Reads h v c bs->a.canLay0=true->c.canLay0=true->a.depth<=50->PyData.eqv a c=b->G)->G) hf (fun hd k=>?_) k;obtain⟨⟨as,r1⟩,c1⟩:=nN hx ha;obtain⟨⟨bs,r2⟩,c2⟩:=nN hy hc;exact k a c as bs r1 r2 c1 c2 hd rfl
theorem bW.py{A:Around}(rm:bW 0 A){d:Nat}(h:d<=50)(e:Nat):A.units+1+min d e<cLine:=by
 have:=rm.units;have:=Nat.min_le_left d e;rw[cLine_is];clear rm;omega
theorem qU:mI P .Eq G8:=fun A s hid x y b u v E rm G hh hx hy hf=>lK hf
 (fun hf=>bI hf fun a b ha hb hz=>some_inv hz <| hx.str_k ha fun t=>hy.str_k hb fun t'=>PyProof.Rows.eq_str ⟨Kp.refl s,by rw[sh]⟩)
 fun hf=>I5 hx hy hf fun a c as bs r1 r2 c1 c2 hd e=>SeqAt.compareEq_reads r1 r2 c1 c2 (gS (nf (i8 _) _) (rm.py hd _)) ⟨Kp.refl s,congrArg Value.bool e⟩
theorem vm:mI P .NotEq Dg:=fun A s hid x y b u v E rm G hh hx hy hf=>map_inv hf fun b hf=>lK hf
 (fun hf=>bI hf fun a b ha hb hz=>some_inv hz <| hx.str_k ha fun t=>hy.str_k hb fun t'=>PyProof.Rows.ne_str ⟨Kp.refl s,by simp only[bne,sh]⟩)
 fun hf=>I5 hx hy hf fun a c as bs r1 r2 c1 c2 hd e=>SeqAt.compareNe_reads r1 r2 c1 c2 (gS (nf (i8 _) _) (rm.py hd _)) ⟨Kp.refl s,by rw[e]⟩
theorem Nf:mI P .Lt ltV:=fun A s hid x y b u v E rm G hh hx hy hf=>bI hf fun a b ha hb hz=>some_inv hz <| hx.int_k ha fun t=>hy.int_k hb fun t'=>PyProof.Rows.lt_int ⟨Kp.refl s,rfl⟩
theorem YM:mI P .Gt gtV:=fun A s hid x y b u v E rm G hh hx hy hf=>bI hf fun a b ha hb hz=>some_inv hz <| hx.int_k ha fun t=>hy.int_k hb fun t'=>PyProof.Rows.gt_int ⟨Kp.refl s,rfl⟩
theorem YN:mI P .GtE geV:=fun A s hid x y b u v E rm G hh hx hy hf=>bI hf fun a b ha hb hz=>some_inv hz <| hx.int_k ha fun t=>hy.int_k hb fun t'=>PyProof.Rows.ge_int ⟨Kp.refl s,rfl⟩
theorem YO:mI P .LtE leV:=fun A s hid x y b u v E rm G hh hx hy hf=>lK hf
 (fun hf=>bI hf fun a b ha hb hz=>some_inv hz <| hx.int_k ha fun t=>hy.int_k hb fun t'=>PyProof.Rows.le_int ⟨Kp.refl s,rfl⟩)
 fun hf=>bI hf fun a b ha hb hz=>some_inv hz <| hx.str_k ha fun t=>hy.str_k hb fun t'=>PySem.P.le_str ⟨Kp.refl s,by simp[pyStr]⟩
theorem Dn.isNone{h:Heap}{hid x v}(e:Dn P h hid x v):(v==Value.none)=x.isNone:=by
 cases x with
 |none=>rw[e.none_inv];rfl
 |bool b=>rw[e.bool_inv];rfl
 |int i=>obtain⟨t,rfl⟩:=e.int_inv;rfl
 |str i=>obtain⟨t,rfl⟩:=e.str_inv;rfl
 |tup l=>obtain⟨a,vs,rfl,_⟩:=e.oF;rfl
 |list l=>obtain⟨a,vs,rfl,_⟩:=e.em;rfl
 |dict ks l=>obtain⟨a,vs,rfl,_⟩:=e.fe;rfl
 |obj l=>obtain⟨a,vs,rfl,_⟩:=e;rfl
theorem Pt{h:Heap}{hid x y u v b}{G:Value->Value->Bool->Prop}(hx:Dn P h hid x u)(hy:Dn P h hid y v)(hf:TE x y=some b)
  (k1:∀u,(u==Value.none)=b->G u .none b) (k2:∀a c,G (.bool a) (.bool c) (a==c)):G u v b:=by
 by_cases q:y.isNone=true
 ·cases V.DT q
  rw[TE,aw q]at hf;rw[hy.none_inv];exact k1 u (hx.isNone.trans (Option.some.inj hf))
 ·rw[TE,az q]at hf
  exact bI hf fun a c ha hc hz=>some_inv hz <| hx.bool_k ha <| hy.bool_k hc (k2 a c)
theorem Uc:mI P .Is TE:=fun A s hid x y b u v E rm G hh hx hy hf=>Pt (G:=fun u v b=>wpAny _ _ (compareOp .Is u v) (fun r s'=>Kp s s'/\r= .bool b) _ _) hx hy hf
 (fun u e=>is_none ⟨Kp.refl s,congrArg Value.bool e⟩) fun a c=>wpAny_is_plain rfl ⟨Kp.refl s,by cases a<;>cases c<;>rfl⟩
theorem Fv:mI P .IsNot I4:=fun A s hid x y b u v E rm G hh hx hy hf=>map_inv hf fun b hf=>Pt (G:=fun u v b=>wpAny _ _ (compareOp .IsNot u v) (fun r s'=>Kp s s'/\r= .bool !b) _ _) hx hy hf
 (fun u e=>isNot_none ⟨Kp.refl s,by rw[<-e]⟩) fun a c=>wpAny_isNot_plain rfl ⟨Kp.refl s,by cases a<;>cases c<;>rfl⟩
theorem Ng{A:Around}{s:Shared}{hid:List Addr}{x y:V}{b:Bool}{u v:Value}{E:Value->Shared->Prop}(rm:bW 0 A)(hx:Dn P s.heap hid x u)(hy:Dn P s.heap hid y v)(hf:inV x y=some b)(neg:Bool):
  wpAny (model P.prog P.w) A (compareOp (if neg then .NotIn else .In) u v) (fun r s'=>Kp s s'/\r= .bool (if neg then !b else b)) E s:=lK hf
 (fun hf=>bI hf fun c l hc hl hz=>map_inv hz fun c' e=>by
  cases AY e;refine hx.str_k hc fun t=>hy.str_k hl fun t'=>?_
  have e:=StrLaws.found_one (pyStr l) c';clear hx hy hz hf hc hl;cases neg
  ·refine PySem.P.in_str ⟨Kp.refl s,?_⟩
   simp only[pyStr]at e ⊢;rw[e];simp
  ·refine PySem.P.notIn_str ⟨Kp.refl s,?_⟩
   simp only[pyStr]at e ⊢;rw[e];simp)
 fun hf=>by
  refine ah hf fun l hl gg=>?_
  clear hf;rename _=>hf
  refine ah hf fun a ha gg=>?_
  clear hf;rename _=>hf
  refine ah hf fun ds hd gg=>?_
  clear hf;rename _=>hf
  refine ite_inv hf fun hdp=>?_
  cases V.fQ hl;obtain⟨⟨as,r1⟩,c1⟩:=nN hx ha;obtain⟨⟨bs,r2⟩,c2⟩:=nN (d:=.list ds) hy (show(V.Fu l).map _=_ by rw[hd];rfl);cases neg
  ·exact SeqAt.in_list_reads r2 r1 c2 c1 (rm.py hdp _) ⟨Kp.refl s,rfl⟩
  ·exact SeqAt.notIn_list_reads r2 r1 c2 c1 (rm.py hdp _) ⟨Kp.refl s,rfl⟩
theorem Nh:mI P .NotIn QF:=fun A s hid x y b u v E rm G hh hx hy hf=>map_inv hf fun b hf=>Ng rm hx hy hf true
end
section
variable{P:Pk}{n:Nat}{K:Cx}{lo:Bool}
structure Ks(out hid ao:List Addr)(s s':Shared):Prop where
 keep:∀b o,(b∉hid\/b∈out)->s.heap.get? b=some o->s'.heap.get? b=some o
 new:∀a∈ao,a∈hid\/s.heap.get? a=none
 sub:∀a∈hid,a∈ao
 gens:GX s.gens s'.gens
 os:s'.os=s.os
theorem Ks.gV{out hid s s'}(k:Kp s s'):Ks out hid hid s s':=⟨fun b o ø h=>k.keep b o h,fun a h=>.inl h,fun a h=>h,k.gens,k.os⟩
theorem Ks.refl(out hid s):Ks out hid hid s s:=.gV (.refl s)
theorem Ks.trans{out hid ao Pu s s' ie}(x:Ks out hid ao s s')(y:Ks out ao Pu s' ie):Ks out hid Pu s ie where
 keep:=fun b o hb h=>y.keep b o (hb.imp (fun q hm=>(x.new b hm).elim q fun z=>by rw[h]at z;cases z) id) (x.keep b o hb h)
 new:=fun a h=>(y.new a h).elim (x.new a) fun z=>by
  by_cases q:a∈hid
  ·exact .inl q
  ·right
   cases e:s.heap.get? a with
   |none=>rfl
   |some o=>rw[x.keep a o (.inl q) e]at z;cases z
 sub:=fun a h=>y.sub a (x.sub a h)
 gens:=x.gens.trans y.gens
 os:=y.os.trans x.os
theorem Dn.ks{out hid ao}{s s':Shared}{x:V}{v:Value}(e:Dn P s.heap hid x v)(k:Ks out hid ao s s'):Dn P s'.heap ao x v:=e.grow (fun a o h q=>k.keep a o (.inl h) q) k.new
theorem aU.ks{out hid ao}{s s':Shared}{x:List V}{v:List Value}(e:aU P s.heap hid x v)(k:Ks out hid ao s s'):aU P s'.heap ao x v:=e.grow (fun a o h q=>k.keep a o (.inl h) q) k.new
noncomputable def upd(ρ:al)(i:Nat)(y:V):al:=fun j=>cond (j==i) (some y) (ρ j)
theorem jf(ρ:al)(i:Nat)(y:V):upd ρ i y i=some y:=by unfold upd;rw[pO];rfl
theorem gZ(ρ:al){i j:Nat}(y:V)(h:j≠i):upd ρ i y j=ρ j:=by unfold upd;rw[pi.mpr h];rfl
noncomputable def nO(h:Heap)(a:Addr):Prop:=∃o,h.get? a=some o/\((∃xs n,o.data= .seq xs n)\/∃es n,o.data= .dict es n)
theorem nO.lL{h:Heap}{a:Addr}{v}(x:nO h a)(y:h.IsCell a v):False:=by
 obtain⟨o,ho,hd⟩:=x;obtain⟨o',M0,i1⟩:=y;rw[ho]at M0;cases M0;rcases hd with⟨xs,n,hd⟩|⟨xs,n,hd⟩<;>rw[hd]at i1<;>cases i1
theorem PlainList.boxed{h:Heap}{a vs}(x:h.PlainList a vs):nO h a:=let⟨n,e⟩:=x;⟨_,e,.inl ⟨_,_,rfl⟩⟩
theorem DictOf.boxed{h:Heap}{a jM}(x:h.DictOf (intKind P.prog P.w) a jM):nO h a:=by
 obtain⟨o,es,ep,ho,_,hd,_⟩:=x;exact⟨o,ho,.inr ⟨es,ep,hd⟩⟩
theorem Ns.lL{h:Heap}{a:Addr}{m v}(x:h.Ns a m)(y:h.IsCell a v):False:=by
 obtain⟨o,es,ep,ho,hd,_⟩:=x;obtain⟨o',M0,i1⟩:=y;rw[ho]at M0;cases M0;rw[hd]at i1;cases i1
theorem fc.addr{L h out hid}{x:V}{v:Value}(e:fc P L h out hid x v):∃a,v= .ref a/\a∈hid/\a∉out/\a≠L/\nO h a:=by
 cases x with
 |list l=>
  obtain⟨a,vs,rfl,h1,h2,h3,h4,h5⟩:=e;exact⟨a,rfl,h1,h2,h3,PlainList.boxed h4⟩
 |dict ks l=>
  obtain⟨a,vs,rfl,h1,h2,h3,h4,h5,h6,h7⟩:=e;exact⟨a,rfl,h1,h2,h3,DictOf.boxed h6⟩
 |_=>exact e.elim
theorem fc.keep{L:Addr}{h h':Heap}{out hid ao:List Addr}{x:V}{a:Addr}(e:fc P L h out hid x (.ref a))(ha:∀o,h.get? a=some o->h'.get? a=some o)(hk:∀a o,a∉hid->h.get? a=some o->h'.get? a=some o)
  (hh:∀a∈hid,a∈ao) (hn:∀a∈ao,a∈hid\/h.get? a=none):fc P L h' out ao x (.ref a):=
 e.map (fun b q h1 h2 h3=>⟨hh _ h1,h2,h3,fun o=>by cases q;exact ha o⟩) fun d=>d.grow hk hn
theorem kT{l l':List (Str×NameKind×Bool)}{i:Nat}{x:Str}{k:NameKind}{b:Bool}(hi:l[i]?=some (x,k,b))(hv:l'=l.set i (x,k,false)){j:Nat}{z kd c}(h:l'[j]?=some (z,kd,c)):(j=i/\z=x/\kd=k/\c=false)\/(j≠i/\l[j]?=some (z,kd,c)):=by
 rw[hv,List.getElem?_set]at h;by_cases e:i=j
 ·rw[aw e,aw (eX.mp hi).1]at h
  cases h;exact .inl ⟨e.symm,rfl,rfl,rfl⟩
 ·rw[az e]at h
  exact .inr ⟨fun z=>e z.symm,h⟩
theorem aB.unbox{K':Cx}{env:Env}{out hid out' ao:List Addr}{m}{B s:Shared}{ρ aY:al}(S:aB P K env out hid m B s ρ){i:Nat}{x:Str}{k:NameKind}(hi:K.vars[i]?=some (x,k,true))(hv:K'.vars=K.vars.set i (x,k,false))(hg:K'.aM=K.aM){y y':V}(hy:ρ i=some y)
  {a:Addr} (TF:At env m s.heap out hid x k (some (.ref a))) (bx:nO s.heap a) (oh:∀b∈out',b∈ao) (own:∀b∈ao,b∉out'->B.heap.get? b=none) (mv:∀b,b∈hid->b∉out->b≠a->b∈ao/\b∉out') (ha:a≠env.locals) (sub:∀b∈ao,b∈hid)
  (tI:∀{kd z u},At env m s.heap out hid z kd u->At env m s.heap out' ao z kd u) (YQ:∀j,j≠i->aY j=ρ j) (Ni:aY i=some y') (d:Dn P s.heap ao y' (.ref a)):aB P K' env out' ao m B s aY where
 fn:=S.fn
 gl:=S.gl
 bl:=S.bl
 kind:=fun j z kd b h=>(kT hi hv h).elim (fun q=>by obtain⟨_,rfl,rfl,_⟩:=q;exact S.kind i _ _ _ hi) fun q=>S.kind j z kd b q.2
 pt:=fun z h=>S.pt z (hg▸h)
 nodup:=fun j l z kd b M1 b' h1 h2=>by
  have n1:∃b,K.vars[j]?=some (z,kd,b):=(kT hi hv h1).elim (fun q=>by obtain⟨rfl,rfl,rfl,_⟩:=q;exact⟨_,hi⟩) fun q=>⟨_,q.2⟩
  have n2:∃b,K.vars[l]?=some (z,M1,b):=(kT hi hv h2).elim (fun q=>by obtain⟨rfl,rfl,rfl,_⟩:=q;exact⟨_,hi⟩) fun q=>⟨_,q.2⟩
  exact n1.elim fun ø n1=>n2.elim fun ø n2=>S.nodup _ _ _ _ _ _ _ n1 n2
 jc:=S.jc
 live:=fun b h=>S.live b (sub b h)
 oh:=oh
 Lh:=(mv _ S.Lh S.Lo (dW ha)).1
 Lo:=(mv _ S.Lh S.Lo (dW ha)).2
 ns:=S.ns
 gb:=S.gb
 kp:=S.kp
 own:=own
 slot:=fun j z kd b h=>(kT hi hv h).elim (fun q=>by
  obtain⟨rfl,rfl,rfl,rfl⟩:=q;exact⟨_,tI TF,by rw[Ni];exact⟨_,rfl,d⟩⟩) fun q=>(S.slot j z kd b q.2).elim fun ov w=>⟨ov,tI w.1,by
  rw[YQ j q.1]
  cases e:ρ j with
  |none=>trivial
  |some t=>
   refine qQ.map (e▸w.2) (fun hb a' e' h1 h2 h3=>?_) (fun e=>Dn.less (P:=P) e sub) fun e=>aU.less (P:=P) e sub
   have bN:a'≠a:=fun z'=>by
    subst hb;subst e';subst z';rcases S.apart i j x z k kd a' (dW q.1) hi q.2 TF w.1 with r|r
    ·rw[hy]at r;cases r
    ·rw[e]at r;cases r
   exact⟨(mv a' h1 h2 bN).1,(mv a' h1 h2 bN).2,h3,fun ø e=>e⟩⟩
 apart:=fun j l z w kd M1 b Nj h1 h2 a1 a2=>by
  have q1:=(kT hi hv h1).resolve_left fun q=>nomatch q.2.2.2
  have q2:=(kT hi hv h2).resolve_left fun q=>nomatch q.2.2.2
  obtain⟨ov,p1,_⟩:=S.slot j z kd true q1.2;obtain⟨YI,p2,_⟩:=S.slot l w M1 true q2.2;have e1:=At.fun (tI p1) a1
  have e2:=At.fun (tI p2) a2
  subst e1;subst e2;rw[YQ j q1.1,YQ l q2.1];exact S.apart j l z w kd M1 b Nj q1.2 q2.2 p1 p2
theorem aB.fill{env:Env}{out hid ao:List Addr}{m m':Str->Option Value}{B s s':Shared}{ρ:al}(S:aB P K env out hid m B s ρ){i:Nat}{x:Str}{k:NameKind}{b:Bool}(hi:K.vars[i]?=some (x,k,b)){y:V}{v:Value}{c:Addr}
  (ch:c∈hid) (co:c∉out) (hs:∀a o,a≠c->s.heap.get? a=some o->s'.heap.get? a=some o) (hg:GX s.gens s'.gens) (xY:s'.os=s.os)
  (sub:∀a∈hid,a∈ao) (new:∀a∈ao,a∈hid\/s.heap.get? a=none) (live:cx s'.heap ao)
  (ns:s'.heap.Ns env.locals m') (YR:∀(j:Nat) x' k' z a,j≠i->K.vars[j]?=some (x',k',true)->ρ j=some z->At env m s.heap out hid x' k' (some (.ref a))->fc P env.locals s.heap out hid z (.ref a)->a≠c)
  (oU:At env m' s'.heap out ao x k (some v)) (I6:∀(j:Nat) x' k' b' u,j≠i->K.vars[j]?=some (x',k',b')->At env m s.heap out hid x' k' u->At env m' s'.heap out ao x' k' u)
  (hv:if b then fc P env.locals s'.heap out ao y v else Dn P s'.heap ao y v)
  (oV:b=true->∀(j:Nat) x' k' a,j≠i->K.vars[j]?=some (x',k',true)->v= .ref a->At env m s.heap out hid x' k' (some (.ref a))->ρ j=none):
  aB P K env out ao m' B s' (upd ρ i y)/\Ks out hid ao s s':=by
 have keep:∀a o,a∉hid->s.heap.get? a=some o->s'.heap.get? a=some o:=fun a o h=>hs a o fun e=>h (e▸ch)
 have K1:Ks out hid ao s s':=⟨fun a o h=>hs a o (by rintro rfl;exact h.elim (fun z=>z ch) co),new,sub,hg,xY⟩;have TG:∀(j:Nat) x' k' b' u,j≠i->K.vars[j]?=some (x',k',b')->At env m' s'.heap out ao x' k' u->At env m s.heap out hid x' k' u:=fun j x' k' b' u hj tJ h=>by
  obtain⟨ov,q1,_⟩:=S.slot j x' k' b' tJ;have:=At.fun (I6 j x' k' b' ov hj tJ q1) h
  subst this;exact q1
 refine⟨{fn:=S.fn,gl:=S.gl,bl:=S.bl,kind:=S.kind,pt:=S.pt,nodup:=S.nodup,jc:=S.jc,live:=live,oh:=fun a h=>sub a (S.oh a h),Lh:=sub _ S.Lh,Lo:=S.Lo,ns:=ns,slot:=?_,apart:=?_,gb:=S.gb,kp:=?_,own:=?_},K1⟩
 ·intro j x' k' b' hj
  by_cases DU:j=i
  ·subst DU
   rw[hi]at hj;cases hj;exact⟨some v,oU,by rw[jf];exact⟨v,rfl,hv⟩⟩
  ·obtain⟨ov,q1,q2⟩:=S.slot j x' k' b' hj
   refine⟨ov,I6 j x' k' b' ov DU hj q1,?_⟩;rw[gZ _ _ DU]
   cases e:ρ j with
   |none=>trivial
   |some z=>
    rw[e]at q2;obtain⟨u,rfl,q2⟩:=q2;refine⟨u,rfl,?_⟩;cases b'
    ·exact Dn.ks (P:=P) q2 K1
    ·obtain⟨a,rfl,h1,h2,h3,h4⟩:=fc.addr (P:=P) q2
     exact fc.keep (P:=P) q2 (fun o h=>hs a o (YR j x' k' z a DU hj e q1 q2) h) keep sub new
 ·intro j l x' y' k' Xa a Nj hj hl h1 h2
  by_cases DU:j=i
  ·subst DU
   rw[hi]at hj;cases hj;right;have e:=At.fun oU h1
   cases e;rw[gZ _ _ (dW Nj)];exact oV rfl l y' Xa a (dW Nj) hl rfl (TG l y' Xa true _ (dW Nj) hl h2)
  ·by_cases Xb:l=i
   ·subst Xb
    rw[hi]at hl;cases hl;left;have e:=At.fun oU h2
    cases e;rw[gZ _ _ DU];exact oV rfl j x' k' a DU hj rfl (TG j x' k' true _ DU hj h1)
   ·rw[gZ _ _ DU,gZ _ _ Xb]
    exact S.apart j l x' y' k' Xa a Nj hj hl (TG j x' k' true _ DU hj h1) (TG l y' Xa true _ Xb hl h2)
 ·exact⟨fun a o h=>hs a o (by rintro rfl;rw[S.own a ch co]at h;cases h) (S.kp.keep a o h),S.kp.gens.trans hg,xY.trans S.kp.os⟩
 ·intro a h ho
  rcases new a h with q|q
  ·exact S.own a q ho
  ·cases e:B.heap.get? a with
   |none=>rfl
   |some o=>rw[S.kp.keep a o e]at q;cases q
theorem cx.extBut{h h':Heap}{c:Addr}{hid}(l:cx h hid)(hs:∀a o,a≠c->h.get? a=some o->h'.get? a=some o)(hc:∃o,h'.get? c=some o):cx h' hid:=fun a ha=>by
 by_cases e:a=c
 ·subst e;exact hc
 ·obtain⟨o,ho⟩:=l a ha
  exact⟨o,hs a o e ho⟩
theorem aB.store{env:Env}{out hid:List Addr}{m:Str->Option Value}{B s:Shared}{ρ:al}(S:aB P K env out hid m B s ρ){i:Nat}{x:Str}{k:NameKind}{b:Bool}(hi:K.vars[i]?=some (x,k,b)){y:V}{v:Value}
  (hv:if b then fc P env.locals s.heap out hid y v else Dn P s.heap hid y v)
  (oV:b=true->∀(j:Nat) x' k' a,j≠i->K.vars[j]?=some (x',k',true)->v= .ref a->At env m s.heap out hid x' k' (some (.ref a))->ρ j=none) (kU:k≠ .free)
  {A:Around} {E:Value->Shared->Prop} {M:Model} {Q:Unit->Shared->Prop} (h:∀m' s',aB P K env out hid m' B s' (upd ρ i y)->Ks out hid hid s s'->((k= .local->∀a o,a≠env.locals->s.heap.get? a=some o->s'.heap.get? a=some o)/\(∀(j:Nat) x' k' b' u,j≠i->K.vars[j]?=some (x',k',b')->At env m' s'.heap out hid x' k' u->At env m s.heap out hid x' k' u)/\(∀a o,nO s.heap a->a≠env.locals->s.heap.get? a=some o->s'.heap.get? a=some o)/\At env m' s'.heap out hid x k (some v))->Q () s'):
  wpAny M A (storeName env x v) Q E s:=by
 obtain⟨ov,oU,_⟩:=S.slot i x k b hi;have hk:=S.kind i x k b hi;obtain⟨oL,_,_,hL,_⟩:=id S.ns;have fin:∀(c:Addr) (m':Str->Option Value) (s':Shared),(k= .local->c=env.locals)->c∈hid->c∉out->(∀a o,a≠c->s.heap.get? a=some o->s'.heap.get? a=some o)->(∃o,s'.heap.get? c=some o)->s'.gens=s.gens->s'.os=s.os->s'.heap.Ns env.locals m'->
   (∀a,nO s.heap a->a≠env.locals->a≠c)->At env m' s'.heap out hid x k (some v)->(∀(j:Nat) x' k' b' u,j≠i->K.vars[j]?=some (x',k',b')->At env m s.heap out hid x' k' u->At env m' s'.heap out hid x' k' u)->Q () s':=by
  intro c m' s' YS ch co hs hc hg xY ns Xc G9 I6;have Ud:if b then fc P env.locals s'.heap out hid y v else Dn P s'.heap hid y v:=by
   cases b
   ·exact Dn.grow (P:=P) hv (fun a o ha q=>hs a o (fun e=>ha (e▸ch)) q) fun a q=>.inl q
   ·obtain⟨a,rfl,h1,h2,h3,h4⟩:=fc.addr (P:=P) hv
    exact fc.keep (P:=P) hv (fun o q=>hs a o (Xc a h4 h3) q) (fun a o ha q=>hs a o (fun e=>ha (e▸ch)) q) (fun ø q=>q) fun a q=>.inl q
  obtain⟨r1,r2⟩:=aB.fill (m':=m') (s':=s') S hi ch co hs (by rw[hg];exact .refl _) xY (fun ø q=>q) (fun ø q=>.inl q) (S.live.extBut hs hc) ns (fun j x' k' z a ø ø ø ø q=>by
   obtain⟨a',e,h1,h2,h3,h4⟩:=fc.addr (P:=P) q;cases e;exact Xc a h4 h3) G9 I6 Ud oV
  exact h m' s' r1 r2 ⟨fun hk a o ha q=>hs a o (fun e=>ha (e.trans (YS hk))) q,fun j x' k' b' u hj tJ hu=>by
   obtain⟨ov,q1,_⟩:=S.slot j x' k' b' tJ;have:=At.fun (I6 j x' k' b' ov hj tJ q1) hu
   subst this;exact q1,fun a o ha bN q=>hs a o (Xc a ha bN) q,G9⟩
 cases k
 case «local» =>
  refine rN hk S.ns (fun h' vn uz=>?_) (by simp[S.fn]);have hs:∀a o,a≠env.locals->s.heap.get? a=some o->h'.get? a=some o:=fun a o ha q=>(uz.2 a ha).trans q
  refine fin env.locals _ {s with heap:=h',toks:=s.toks+1} (fun ø=>rfl) S.Lh S.Lo hs ?_ rfl rfl vn (fun a ø ha=>ha) (by simp[At]) ?_
  ·obtain⟨o,_,_,ho,_⟩:=vn;exact⟨o,ho⟩
  ·intro j x' k' b' u hj tJ hu
   have bN:x'≠x:=by
    rintro rfl
    exact hj (S.nodup j i x' k' b' _ _ tJ hi)
   exact hu.map (fun e=>(az bN).trans e) fun c ø q2 q3 q4=>⟨q2,q3,q4.sameBut uz fun e=>Ns.lL (e▸S.ns) q4⟩
 case cell=>
  obtain⟨c,q1,q2,q3,q4⟩:=oU;refine wpAny_storeName_cell S.fn hk q1 q4 (fun h' Nk uz=>?_);have hs:∀a o,a≠c->s.heap.get? a=some o->h'.get? a=some o:=fun a o ha q=>(uz.2 a ha).trans q
  refine fin c m {s with heap:=h'} (fun e=>by cases e) q2 q3 hs ?_ rfl rfl (S.ns.sameBut uz fun e=>Ns.lL S.ns (e▸q4)) (fun a ha ø e=>nO.lL ha (e▸q4)) (by simp only[At];exact⟨c,q1,q2,q3,Nk⟩) ?_
  ·obtain⟨o,ho,_⟩:=Nk;exact⟨o,ho⟩
  ·intro j x' k' b' u hj tJ hu
   have bN:x'≠x:=by
    rintro rfl
    exact hj (S.nodup j i x' k' b' _ _ tJ hi)
   exact hu.map id fun c' z1 z2 z3 z4=>⟨z2,z3,z4.sameBut uz fun e=>bN (S.jc x' x c (e▸z1) q1)⟩
 case free=>exact absurd rfl kU
 all_goals exact oU.elim
noncomputable def Nl(P:Pk)(s s':Shared)(hid:List Addr):V->Value->Prop
 | .list l,v=>∃a vs,v= .ref a/\s.heap.get? a=none/\s'.heap.PlainList a vs.toArray/\aU P s'.heap (a::hid) l vs
 | .dict ks l,v=>∃a vs,v= .ref a/\s.heap.get? a=none/\(a==sysModules)=false/\vs.length=ks.length/\s'.heap.DictOf (intKind P.prog P.w) a (ks.zip vs)/\aU P s'.heap (a::hid) l vs
 |_,_=>False
theorem Nl.box{s s':Shared}{hid out:List Addr}{x:V}{v:Value}{L:Addr}(e:Nl P s s' hid x v)(live:cx s.heap hid)(oh:∀a∈out,a∈hid)(Lh:L∈hid):∃a,v= .ref a/\s.heap.get? a=none/\a∉hid/\fc P L s'.heap out (a::hid) x v/\∃o,s'.heap.get? a=some o:=by
 cases x with
 |list l=>
  obtain⟨a,vs,rfl,h1,h2,h3⟩:=e;have hn:=live.not h1;refine⟨a,rfl,h1,hn,?_,?_⟩
  ·exact⟨a,vs,rfl,by simp,fun q=>hn (oh a q),fun q=>hn (q▸Lh),h2,h3⟩
  ·obtain⟨o,ho⟩:=h2;exact⟨_,ho⟩
 |dict ks l=>
  obtain⟨a,vs,rfl,h1,h2,h3,h4,h5⟩:=e;have hn:=live.not h1;refine⟨a,rfl,h1,hn,?_,?_⟩
  ·exact⟨a,vs,rfl,by simp,fun q=>hn (oh a q),fun q=>hn (q▸Lh),h2,h3,h4,h5⟩
  ·obtain⟨o,es,ep,ho,_⟩:=h4;exact⟨_,ho⟩
 |_=>exact e.elim
theorem Nl.dn{s s':Shared}{hid:List Addr}{x:V}{v:Value}(e:Nl P s s' hid x v)(live:cx s.heap hid):Dn P s'.heap hid x v:=by
 cases x with
 |list l=>
  obtain⟨a,vs,rfl,h1,h2,h3⟩:=e;exact .ofList (live.not h1) h2 (aU.less (P:=P) h3 fun a q=>cw _ q)
 |dict ks l=>
  obtain⟨a,vs,rfl,h1,h2,h3,h4,h5⟩:=e;exact⟨a,vs,rfl,live.not h1,h3,h2,h4,aU.less (P:=P) h5 fun a q=>cw _ q⟩
 |_=>exact e.elim
noncomputable def M2(P:Pk)(n:Nat)(K:Cx)(e:Expr)(f:al->Option V):Prop:=
 ∀(A:Around) (env:Env) (out hid:List Addr) (m:Str->Option Value) (B s:Shared) (ρ:al) (x:V) (E:Value->Shared->Prop),bW n A->aB P K env out hid m B s ρ->f ρ=some x->
  wpAny (model P.prog P.w) A (eval e env) (fun v s'=>Kp s s'/\Nl P s s' hid x v) E s
theorem dL{e f}(h:M2 P n K e f):eM P n K lo e f:=fun A env out hid m B s ρ x E r S hf=>
 au (h A env out hid m B s ρ x E r S hf) (fun v s' q=>⟨q.1,by
  have:=Nl.dn (P:=P) q.2 S.live;cases lo
  ·exact this
  ·exact this.less S.oh⟩) fun ø ø q=>q
inductive Fl where
 |next|brk|cont
 |ret (x:V)
noncomputable def TH(P:Pk)(h:Heap)(out:List Addr):Fl->Flow->Prop
 | .next,f=>f= .next
 | .brk,f=>f= .brk
 | .cont,f=>f= .cont
 | .ret x,f=>∃v,f= .ret v/\Dn P h out x v
inductive I7(P:Pk)(K:Cx)(env:Env)(out hid:List Addr)(B s s':Shared)(aY:al)(fl:Fl)(cV:Flow):Prop
 |mk (ao:List Addr) (m':Str->Option Value) (S:aB P K env out ao m' B s' aY) (k:Ks out hid ao s s') (f:TH P s'.heap out fl cV):I7 P K env out hid B s s' aY fl cV
theorem I7.pre{env:Env}{out hid ck:List Addr}{B s s₁ s':Shared}{aY:al}{fl:Fl}{cV:Flow}(q:I7 P K env out ck B s₁ s' aY fl cV)(k:Ks out hid ck s s₁):I7 P K env out hid B s s' aY fl cV:=by
 obtain⟨a,b,c,d,e⟩:=q;exact⟨a,b,c,k.trans d,e⟩
noncomputable def ul(P:Pk)(n:Nat)(K:Cx)(st:Stmt)(f:al->Option (al×Fl)):Prop:=
 ∀(A:Around) (env:Env) (out hid:List Addr) (m:Str->Option Value) (B s:Shared) (ρ aY:al) (fl:Fl) (E:Value->Shared->Prop),bW n A->aB P K env out hid m B s ρ->f ρ=some (aY,fl)->
  wpAny (model P.prog P.w) A (exec st env) (fun cV s'=>I7 P K env out hid B s s' aY fl cV) E s
noncomputable def qa(P:Pk)(n:Nat)(K:Cx)(st:List Stmt)(f:al->Option (al×Fl)):Prop:=
 ∀(A:Around) (env:Env) (out hid:List Addr) (m:Str->Option Value) (B s:Shared) (ρ aY:al) (fl:Fl) (E:Value->Shared->Prop),bW n A->aB P K env out hid m B s ρ->f ρ=some (aY,fl)->
  wpAny (model P.prog P.w) A (execs st env) (fun cV s'=>I7 P K env out hid B s s' aY fl cV) E s
theorem aj:qa P n K [] fun ρ=>some (ρ,.next):=fun A env out hid m B s ρ aY fl E r S hf=>by
 cases hf;exact mZ ⟨hid,m,S,.refl ..,rfl⟩
noncomputable def eO(f g:al->Option (al×Fl)):al->Option (al×Fl):=fun ρ=>(f ρ).bind fun r=>match r.2 with
 | .next=>g r.1
 |fl=>some (r.1,fl)
theorem ac{st:Stmt}{rest:List Stmt}{f g}(h:ul P n K st f)(hr:qa P n K rest g):qa P n K (st::rest) (eO f g):=fun A env out hid m B s ρ aY fl E r S hf=>by
 refine ah hf ?_;clear hf;rintro⟨am,Pw⟩ h1 hf;refine rO (au (h A env out hid m B s ρ am Pw E r S h1) (fun cV s₁ q=>?_) fun ø ø q=>q);obtain⟨ck,m₁,bc,gh,uA⟩:=q;cases Pw<;>dsimp only at hf
 ·obtain rfl:=uA
  exact au (hr A env out ck m₁ B s₁ am aY fl E r bc hf) (fun cV s₂ q=>q.pre gh) fun ø ø q=>q
 ·cases hf;obtain rfl:=uA;exact⟨ck,m₁,bc,gh,rfl⟩
 ·cases hf;obtain rfl:=uA;exact⟨ck,m₁,bc,gh,rfl⟩
 ·cases hf;obtain⟨v,rfl,hv⟩:=uA;exact⟨ck,m₁,bc,gh,v,rfl,hv⟩
theorem xZ{pos}:ul P n K (.Break pos) fun ρ=>some (ρ,.brk):=fun A env out hid m B s ρ aY fl E r S hf=>by
 cases hf;exact wpAny_Break ⟨hid,m,S,.refl ..,rfl⟩
theorem aX{e pos f}(h:eM P n K true e f):ul P n K (.Return (some e) pos) fun ρ=>(f ρ).map fun x=>(ρ,.ret x):=fun A env out hid m B s ρ aY fl E r S hf=>by
 refine bV hf fun x hx e=>?_
 clear hf
 first|refine pair_inv e ?_;clear e|cases e
 exact wpAny_Return_some (au (h A env out hid m B s ρ x E r S hx) (fun v s₁ q=>⟨hid,m,S.after q.1,.gV q.1,v,rfl,q.2⟩) fun ø ø q=>q)
theorem aT{t a b pos c f g}(ht:AT P n K t c)(ha:qa P n K a f)(hb:qa P n K b g):ul P n K (.If t a b pos) (fun ρ=>(c ρ).bind fun z=>if z then f ρ else g ρ):=fun A env out hid m B s ρ aY fl E r S hf=>by
 refine ah hf fun z hz gg=>?_
 clear hf;rename _=>hf
 refine wpAny_If (au (ht A env out hid m B s ρ z E r S hz) (fun z' s₁ ag=>?_) fun ø ø q=>q);rw[ag.2];have bc:=S.after ag.1;cases z
 ·simp only[gz,eW]at hf ⊢
  exact au (hb A env out hid m B s₁ ρ aY fl E r bc hf) (fun cV s₂ q=>q.pre (Ks.gV ag.1)) fun ø ø q=>q
 ·simp only[eI]at hf ⊢
  exact au (ha A env out hid m B s₁ ρ aY fl E r bc hf) (fun cV s₂ q=>q.pre (Ks.gV ag.1)) fun ø ø q=>q
theorem aD(i:Nat){x:Str}{k:NameKind}{p pos:Pos}{e:Expr}{f}(hi:K.vars[i]?=some (x,k,false))(kU:k≠ .free)(h:eM P n K false e f)(hs:∀env,env.kindOf x=some k->swapsWith e (some (.Name x p)) pos.line env=pure false):
  ul P n K (.Assign [.Name x p] e pos) fun ρ=>(f ρ).map fun y=>(upd ρ i y,.next):=fun A env out hid m B s ρ aY fl E r S hf=>by
 refine bV hf fun y hy e=>?_
 clear hf
 first|refine pair_inv e ?_;clear e|cases e
 refine qI (au (h A env out hid m B s ρ y E r S hy) (fun v s₁ ag=>?_) fun ø ø q=>q) (hs env (S.kind i x k _ hi));exact(S.after ag.1).store hi ag.2 (fun q=>by cases q) kU fun m' s' S' K' ø=>⟨hid,m',S',(Ks.gV ag.1).trans K',rfl⟩
theorem dh(i:Nat){x:Str}{k:NameKind}{p pos:Pos}{e:Expr}{f}(hi:K.vars[i]?=some (x,k,true))(kU:k≠ .free)(h:M2 P n K e f)(hs:∀env,env.kindOf x=some k->swapsWith e (some (.Name x p)) pos.line env=pure false):
  ul P n K (.Assign [.Name x p] e pos) fun ρ=>(f ρ).map fun y=>(upd ρ i y,.next):=fun A env out hid m B s ρ aY fl E r S hf=>by
 refine bV hf fun y hy e=>?_
 clear hf
 first|refine pair_inv e ?_;clear e|cases e
 refine qI (au (h A env out hid m B s ρ y E r S hy) (fun v s₁ ag=>?_) fun ø ø q=>q) (hs env (S.kind i x k _ hi));obtain⟨a,rfl,ha,hah,QH,TI⟩:=Nl.box (P:=P) (out:=out) (L:=env.locals) ag.2 S.live S.oh S.Lh;have new:∀b∈a::hid,b∈hid\/s.heap.get? b=none:=fun b hb=>(bp.mp hb).elim (fun q=>.inr (q▸ha)) .inl
 have live:cx s₁.heap (a::hid):=fun b hb=>(bp.mp hb).elim (fun q=>q▸TI) (S.live.kp ag.1 b)
 have bc:=S.grow ag.1 (fun b q=>cw _ q) new live;refine bc.store hi QH (fun ø j x' k' a' hj tJ e oU=>?_) kU fun m' s' S' K' ø=>⟨a::hid,m',S',?_,rfl⟩
 ·cases e
  obtain⟨ov,q1,q2⟩:=S.slot j x' k' true tJ;have:=At.back oU q1 fun c v q=>q.keeps ag.1.keep
  subst this
  cases er:ρ j with
  |none=>rfl
  |some z=>
   rw[er]at q2;obtain⟨u,e,q2⟩:=q2;cases e;obtain⟨a'',e,z1,_⟩:=fc.addr (P:=P) q2;cases e;exact absurd z1 hah
 ·exact⟨fun b o hb q=>K'.keep b o (hb.imp (fun z hm=>(bp.mp hm).elim (fun w=>by rw[w,ha]at q;cases q) z) id) (ag.1.keep b o q),new,fun b q=>cw _ q,ag.1.gens.trans K'.gens,K'.os.trans ag.1.os⟩
end
section
variable{P:Pk}{n:Nat}{K:Cx}{lo:Bool}
theorem dM{M:Model}{A:Around}{E:Value->Shared->Prop}{s:Shared}{f:Value}{l:List (Bool×Sem Value)}{Q:Args->Shared->Prop}(hp:l.any (·.1)=false)
  (h:wpAny M A (spliced l) (fun vs s'=>Q ⟨vs,[]⟩ s') E s):wpAny M A (evalArgs f true l []) Q E s:=by
 cases l with
 |cons a l=>
  obtain⟨b,x⟩:=a;cases b
  ·exact Calls.evalArgs_plain h
  ·simp at hp
 |nil=>
  unfold evalArgs;show wpAny M A (spliced []>>= _) Q E s;refine ar (au h (fun vs s' h'=>?_) fun ø ø x=>x);refine gB ?_;exact ar (bd (ar (bd (bd h'))))
theorem aB.mut{env:Env}{out hid:List Addr}{m:Str->Option Value}{B s s':Shared}{ρ:al}(S:aB P K env out hid m B s ρ){i:Nat}{x:Str}{k:NameKind}(hi:K.vars[i]?=some (x,k,true)){y y':V}{a:Addr}
  (oU:At env m s.heap out hid x k (some (.ref a))) (hy:ρ i=some y) (hb:fc P env.locals s.heap out hid y (.ref a)) (hs:∀b o,b≠a->s.heap.get? b=some o->s'.heap.get? b=some o) (hg:GX s.gens s'.gens) (xY:s'.os=s.os)
  (hb':fc P env.locals s'.heap out hid y' (.ref a)):aB P K env out hid m B s' (upd ρ i y')/\Ks out hid hid s s':=by
 obtain⟨YT,e,h1,h2,h3,h4⟩:=fc.addr (P:=P) hb;cases e;obtain⟨YT,e,_,_,_,h4'⟩:=fc.addr (P:=P) hb';cases e;have tI:∀c v,s.heap.IsCell c v->s'.heap.IsCell c v:=fun c v q=>by
  obtain⟨o,ho,hd⟩:=id q;exact⟨o,hs c o (fun e=>nO.lL h4 (e▸q)) ho,hd⟩
 have vn:s'.heap.Ns env.locals m:=by
  obtain⟨o,es,ep,ho,hr⟩:=S.ns;exact⟨o,es,ep,hs _ o (dW h3) ho,hr⟩
 have TC:∀x' k' u,At env m s.heap out hid x' k' u->At env m s'.heap out hid x' k' u:=fun x' k' u q=>q.grow tI fun ø z=>z
 refine S.fill (m':=m) (s':=s') hi (v:=.ref a) h1 h2 hs hg xY (fun ø q=>q) (fun ø q=>.inl q) (S.live.extBut hs ?_) vn ?_ (TC _ _ _ oU) (fun j x' k' b' u ø ø q=>TC _ _ _ q) hb' ?_
 ·obtain⟨o,ho,_⟩:=h4';exact⟨o,ho⟩
 ·intro j x' k' z a' hj tJ hz G9 Xc e
  subst e;rcases S.apart j i x' x k' k a' hj tJ hi G9 oU with q|q
  ·rw[hz]at q;cases q
  ·rw[hy]at q;cases q
 ·intro _ j x' k' a' hj tJ e G9
  cases e;rcases S.apart j i x' x k' k a hj tJ hi G9 oU with q|q
  ·exact q
  ·rw[hy]at q;cases q
inductive YU(P:Pk)(K:Cx)(env:Env)(out hid:List Addr)(B s s':Shared)(aY:al)(x:V)(v:Value):Prop
 |mk (ao:List Addr) (m':Str->Option Value) (S:aB P K env out ao m' B s' aY) (k:Ks out hid ao s s') (f:Dn P s'.heap ao x v):YU P K env out hid B s s' aY x v
noncomputable def Xd(P:Pk)(n:Nat)(K:Cx)(e:Expr)(f:al->Option (al×V)):Prop:=
 ∀(A:Around) (env:Env) (out hid:List Addr) (m:Str->Option Value) (B s:Shared) (ρ aY:al) (x:V) (E:Value->Shared->Prop),bW n A->aB P K env out hid m B s ρ->f ρ=some (aY,x)->
  wpAny (model P.prog P.w) A (eval e env) (fun v s'=>YU P K env out hid B s s' aY x v) E s
inductive MeQ(P:Pk)(name:Str)(s:Shared)(L:Addr)(out hid:List Addr)(y:V)(v:Value)(xs:List V)(y' r:V):Prop
 |mk (T id:String) (p:PlainAttrs T) (sl:Slot T name id) (t:typeOf (.builtin id)=pure (.type "method_descriptor")) (ty:s.TypeIs v T) (nd:∀a,v= .ref a->∃ob,s.heap.get? a=some ob/\ob.dict=none)
  (h:∀(A:Around) (s₁:Shared) (vs:List Value) (E:Value->Shared->Prop),bW 0 A->P.G s₁.heap->cx s₁.heap hid->fc P L s₁.heap out hid y v->aU P s₁.heap hid xs vs->
   wpAny (model P.prog P.w) A (call (.builtin id) (v::vs)) (fun u s'=>(∀a,v= .ref a->∀b o,b≠a->s₁.heap.get? b=some o->s'.heap.get? b=some o)/\GX s₁.gens s'.gens/\s'.os=s₁.os/\fc P L s'.heap out hid y' v/\Dn P s'.heap hid r u) E s₁):MeQ P name s L out hid y v xs y' r
noncomputable def Ha(P:Pk)(name:Str)(F:V->List V->Option (V×V)):Prop:=
 ∀(s:Shared) (L:Addr) (out hid:List Addr) (y:V) (v:Value) (xs:List V) (y' r:V),fc P L s.heap out hid y v->F y xs=some (y',r)->MeQ P name s L out hid y v xs y' r
noncomputable def jg(F:V->List V->Option (V×V))(i:Nat)(g:al->Option (List V)):al->Option (al×V):=fun ρ=>(ρ i).bind fun y=>(g ρ).bind fun xs=>(F y xs).map fun r=>(upd ρ i r.1,r.2)
theorem nP{args:List Expr}{pos:Pos}{env:Env}(cL:(backTo pos (starEach args env)).any (·.1)=false)(bN:args.length<20):((backTo pos (starEach args env)).all (fun x=>!x.1)&&(backToKw pos (keywordEach [] env)).all (fun x=>x.1.isSome)
  &&decide (args.length+([]:List Keyword).length+(if([]:List Keyword).isEmpty then 0 else 1)<30))=true:=by
 have h1:(backTo pos (starEach args env)).all (fun x=>!x.1)=true:=by
  rw[cD];intro q hq;have:=List.any_eq_false.mp cL q hq;simpa using this
 rw[h1];show(true&&true&&decide (args.length+0+0<30))=true;exact eK (show args.length+0+0<30 from Nat.lt_trans bN (by decide))
theorem cu(i:Nat){x:Str}{k:NameKind}{p apos pos:Pos}{name:Str}{args:List Expr}{F g}(hi:K.vars[i]?=some (x,k,true))(hd:(x==("__debug__":Str))=false)(hc:(x==("__classdict__":Str))=false)
  (hm:Ha P name F) (ha:lH P n K false args g) (eF:∀env,starEach args env=args.map fun e=>(false,eval e env)) (bN:args.length<20) (jh:(apos.endLine==pos.line)=true) (ji:∀env,attributeBase (.Name x p) name env (eval (.Name x p) env)=eval (.Name x p) env):
  Xd P n K (.Call (.Attribute (.Name x p) name apos) args [] pos) (jg F i g):=fun A env out hid m B s ρ aY z E r S hf=>by
 refine ah hf fun y hy gg=>?_
 clear hf;rename _=>hf
 refine ah hf fun xs xv gg=>?_
 clear hf;rename _=>hf
 refine bV hf ?_;clear hf;rintro⟨y',r'⟩ hF hf;cases hf;have cL:(backTo pos (starEach args env)).any (·.1)=false:=dg eF;refine yJ (ji env) (nP cL bN) jh ?_;refine eV (S.load hi hy hd hc fun v hv oU=>?_) hd;rw[aw rfl]at hv;obtain⟨T,id,c1,c2,c3,c4,c5,c6⟩:=hm s env.locals out hid y v xs y' r' hv hF;refine⟨T,id,c1,c2,c3,c4,c5,rL cL ?_⟩;obtain⟨a,rfl,h1,h2,h3,h4⟩:=fc.addr (P:=P) hv;have key:=ha A env out hid m B s ρ xs E pos r S xv;have fin:∀vs s₁,(Kp s s₁/\aU P s₁.heap hid xs vs)->wpAny (model P.prog P.w) A (call (.builtin id) ([Value.ref a]++vs) []) (fun v s'=>YU P K env out hid B s s' (upd ρ i y') r' v) E s₁:=by
  intro vs s₁ ag;have bc:=S.after ag.1;have x0:fc P env.locals s₁.heap out hid y (.ref a):=fc.grow (P:=P) hv ag.1.keep (fun ø q=>q) fun ø q=>.inl q
  have QI:At env m s₁.heap out hid x k (some (.ref a)):=oU.grow (fun c v q=>q.keeps ag.1.keep) fun ø q=>q
  refine au (c6 A s₁ vs E (r.less (dU _)) bc.G bc.live x0 ag.2) (fun u s' q=>?_) fun ø ø q=>q
  obtain⟨q1,q2,q3,q4,q5⟩:=q;obtain⟨z1,z2⟩:=bc.mut hi QI hy x0 (q1 a rfl) q2 q3 q4;exact⟨hid,m,z1,(Ks.gV ag.1).trans z2,q5⟩
 exact dM cL (au key fin fun ø ø q=>q)
theorem di{e:Expr}{pos:Pos}{f}(h:Xd P n K e f)(hi:∀ρ r,f ρ=some r->r.2= .none)(hs:∀env,swapsWith e none pos.line env=pure false):ul P n K (.Expr e pos) (fun ρ=>(f ρ).map fun r=>(r.1,.next)):=fun A env out hid m B s ρ aY fl E r S hf=>by
 refine bV hf ?_;clear hf;rintro⟨am,x⟩ hx e;cases e;have hn:x= .none:=hi _ _ hx;subst hn;refine wpAny_Expr (au (h A env out hid m B s ρ am .none E r S hx) (fun v s₁ q=>?_) fun ø ø q=>q) ?_ (hs env)
 ·obtain⟨ao,m',S',K',hv⟩:=q
  obtain rfl:=hv.none_inv;exact⟨ao,m',S',K',rfl⟩
 ·unfold interactive;simp[S.fn]
theorem DV(i:Nat){x:Str}{k:NameKind}{p pos:Pos}{e:Expr}{f}(hi:K.vars[i]?=some (x,k,false))(kU:k≠ .free)(h:Xd P n K e f)(hs:∀env,env.kindOf x=some k->swapsWith e (some (.Name x p)) pos.line env=pure false):
  ul P n K (.Assign [.Name x p] e pos) fun ρ=>(f ρ).map fun r=>(upd r.1 i r.2,.next):=fun A env out hid m B s ρ aY fl E r S hf=>by
 refine bV hf ?_;clear hf;rintro⟨am,y⟩ hy e;cases e;refine qI (au (h A env out hid m B s ρ am y E r S hy) (fun v s₁ ag=>?_) fun ø ø q=>q) (hs env (S.kind i x k _ hi));obtain⟨ao,m',S',K',hv⟩:=ag;exact S'.store hi hv (fun q=>by cases q) kU fun m'' ie YV K'' ø=>⟨ao,m'',YV,K'.trans K'',rfl⟩
end
section
variable{P:Pk}{n:Nat}{K:Cx}{lo:Bool}
theorem fc.em{L h out hid l v}(e:fc P L h out hid (.list l) v):∃a vs,v= .ref a/\a∈hid/\a∉out/\a≠L/\h.PlainList a vs.toArray/\aU P h hid l vs:=e
theorem fc.ofList{L h out hid l a vs}(h1:a∈hid)(h2:a∉out)(h3:a≠L)(h4:h.PlainList a vs.toArray)(h5:aU P h hid l vs):fc P L h out hid (.list l) (.ref a):=⟨a,vs,rfl,h1,h2,h3,h4,h5⟩
theorem fc.fe{L h out hid ks l v}(e:fc P L h out hid (.dict ks l) v):∃a vs,v= .ref a/\a∈hid/\a∉out/\a≠L/\(a==sysModules)=false/\vs.length=ks.length/\h.DictOf (intKind P.prog P.w) a (ks.zip vs)/\aU P h hid l vs:=e
theorem aU.cons_inv{h:Heap}{hid x xs vs}(e:aU P h hid (x::xs) vs):∃v r,vs=v::r/\Dn P h hid x v/\aU P h hid xs r:=e
theorem aU.nil_inv{h:Heap}{hid vs}(e:aU P h hid [] vs):vs=[]:=e
theorem aU.but{h h':Heap}{hid l vs}{a:Addr}(e:aU P h hid l vs)(ha:a∈hid)(hs:Heap.SameBut a h h'):aU P h' hid l vs:=e.grow (fun b o hb q=>(hs.2 b fun z=>hb (z▸ha)).trans q) fun ø q=>.inl q
theorem Dn.but{h h':Heap}{hid l vs}{a:Addr}(e:Dn P h hid l vs)(ha:a∈hid)(hs:Heap.SameBut a h h'):Dn P h' hid l vs:=e.grow (fun b o hb q=>(hs.2 b fun z=>hb (z▸ha)).trans q) fun ø q=>.inl q
theorem jj{h:Heap}{a:Addr}{xs ys:Array Value}{k:Nat}{f:Array Value->Array Value}(e:h.get? a=some {cls:=.type "list",data:=.seq xs k})(hf:f xs=ys):(h.update a (Obj.mapSeq f)).PlainList a ys:=by
 subst hf;refine⟨if(f xs).size==xs.size then k else k+1,?_⟩;have:Obj.mapSeq f {cls:=.type "list",data:=.seq xs k}={cls:=.type "list",data:=.seq (f xs) (if(f xs).size==xs.size then k else k+1)}:=rfl;rw[ni _ e (by rw[this];rfl),this]
theorem DW{name:Str}{id:String}{F:V->List V->Option (V×V)}(hF0:∀y xs r,F y xs=some r->∃l,y= .list l)(slot:Slot "list" name id)(Xe:typeOf (.builtin id)=pure (.type "method_descriptor"))
  (h:∀(A:Around) (s:Shared) (hid:List Addr) (a:Addr) (l:List V) (ws vs:List Value) (xs:List V) (l' r:V) (E:Value->Shared->Prop),bW 0 A->a∈hid->s.heap.PlainList a ws.toArray->aU P s.heap hid l ws->aU P s.heap hid xs vs->F (.list l) xs=some (l',r)->
   wpAny (model P.prog P.w) A (call (.builtin id) (.ref a::vs)) (fun u s'=>Heap.SameBut a s.heap s'.heap/\GX s.gens s'.gens/\s'.os=s.os/\(∃l₂ DX,l'= .list l₂/\s'.heap.PlainList a DX.toArray/\aU P s'.heap hid l₂ DX)/\Dn P s'.heap hid r u) E s):Ha P name F:=
 fun s L out hid y v xs y' r hb hF=>by
 obtain⟨l,rfl⟩:=hF0 _ _ _ hF;obtain⟨a,vs,rfl,h1,h2,h3,h4,h5⟩:=fc.em hb;refine⟨"list",id,Dl,slot,Xe,h4.isList.typeIs,fun b e=>?_,fun A s₁ gU E rm G live hb hx=>?_⟩
 ·cases e;obtain⟨k,e⟩:=h4;exact⟨_,e,rfl⟩
 ·obtain⟨a',ws,e,c1,c2,c3,c4,c5⟩:=fc.em hb
  cases e;refine au (h A s₁ hid a l ws gU xs y' r E rm c1 c4 c5 hx hF) (fun u s' q=>?_) fun ø ø q=>q
  obtain⟨q1,q2,q3,⟨l₂,DX,rfl,q4,q5⟩,q6⟩:=q;exact⟨fun b e c o bN z=>by cases e;exact(q1.2 c bN).trans z,q2,q3,fc.ofList c1 c2 c3 q4 q5,q6⟩
theorem vo{y:V}{γ:Type}{f:List V->Option γ}{r:γ}(h:y.gF.bind f=some r):∃l,y= .list l:=ah h fun l hl ø=>⟨l,V.fQ hl⟩
noncomputable def V.AZ:V->Option (List Int×List V)
 | .dict ks vs=>some (ks,vs)
 |_=>Option.none
theorem V.oH{x:V}{a}(h:x.AZ=some a):x= .dict a.1 a.2:=by
 cases x<;>first|exact congrArg (fun p:List Int×List V=>V.dict p.1 p.2) (Option.some.inj h)|cases h
noncomputable def V.one?:List V->Option V
 |[x]=>some x
 |_=>Option.none
theorem V.gG:∀{xs:List V} {x},V.one? xs=some x->xs=[x]
 |[_],_,h=>congrArg (fun x=>[x]) (Option.some.inj h)
 |[],_,h|_::_::_,_,h=>nomatch h
noncomputable def DY(y:V)(xs:List V):Option (V×V):=y.gF.bind fun l=>(V.one? xs).bind fun x=>if l.length<most then some (.list (l++[x]),.none)else none
theorem Nm(l:List V)(x:V):DY (.list l) [x]=if l.length<most then some (.list (l++[x]),.none)else none:=id rfl
theorem qV:Ha P "append" DY:=DW (id:="list.append") (fun y xs r h=>vo h) PySem.F.slot_list_append PySem.F.type_list_append fun A s hid a l ws vs xs l' r E rm ha hl hd hx hF=>
 ah (o:=V.one? xs) hF fun x IU hF=>eN hF fun hlen e=>by
 cases V.gG IU;obtain⟨rfl,rfl⟩:=jT e;refine hx.one_k fun u hu=>?_
 refine Dm hl (fun h' jN hs=>⟨hs,.refl _,rfl,⟨_,ws++[u],rfl,by simpa using jN,(aU.but hd ha hs).app (.one (Dn.but hu ha hs))⟩,.sa⟩) ?_;rw[bM,hd.length];exact aA (eY hlen) cZ
theorem aU.erase{h:Heap}{hid}:∀{l:List V} {ws:List Value} (k:Nat),aU P h hid l ws->aU P h hid (l.eraseIdx k) (ws.eraseIdx k)
 |[],ws,k,e=>by obtain rfl:=aU.nil_inv e;simpa using e
 |x::l,ws,0,e=>by
  obtain⟨v,r,rfl,h1,h2⟩:=aU.cons_inv e;simpa using h2
 |x::l,ws,k+1,e=>by
  obtain⟨v,r,rfl,h1,h2⟩:=aU.cons_inv e;simp only[List.eraseIdx_cons_succ];exact .cons h1 (aU.erase k h2)
theorem si(ws:List Value)(k:Nat):ws.toArray.eraseIdxIfInBounds k=(ws.eraseIdx k).toArray:=by
 simp
noncomputable def ff(i:Int)(n:Nat):Option Nat:=if 0<=i then(if i<n then some i.toNat else none)else if 0<=i+n then some (i+n).toNat else none
noncomputable def Ue(l:List V):List V->Option (V×V)
 |[]=>l.getLast?.bind fun x=>if l.length<=most then some (.list l.dropLast,x)else none
 |[y]=>y.int?.bind fun i=>(ff i l.length).bind fun k=>l[k]?.bind fun x=>if l.length<=most then some (.list (l.eraseIdx k),x)else none
 |_=>none
noncomputable def DZ(y:V)(xs:List V):Option (V×V):=y.gF.bind fun l=>Ue l xs
theorem QJ(l:List V):DZ (.list l) []=l.getLast?.bind fun x=>if l.length<=most then some (.list l.dropLast,x)else none:=id rfl
theorem QK(l:List V)(i:Int):DZ (.list l) [.int i]=(ff i l.length).bind fun k=>l[k]?.bind fun x=>if l.length<=most then some (.list (l.eraseIdx k),x)else none:=id rfl
theorem A0{i:Int}{n k:Nat}(h:ff i n=some k)(hn:n<=1000000):seqIndex? i n=some k/\Builtin.List.listFitsIndex i=true:=by
 unfold ff at h;unfold seqIndex? Builtin.List.listFitsIndex;by_cases h0:0<=i
 ·rw[aw h0]at h
  refine eN h fun h1 e=>?_
  subst e;clear h;simp[show ¬i<0 by omega];omega
 ·rw[az h0]at h
  refine eN h fun h1 e=>?_
  subst e;clear h;simp[show i<0 by omega];omega
theorem Px:Ha P "pop" DZ:=DW (id:="list.pop") (fun y xs r h=>vo h) uX PySem.F.type_list_pop fun A s hid a l ws vs xs l' r E rm ha hl hd hx hF=>by
 obtain⟨e0,D1⟩:=id hl;have hlen:=hd.length;replace hF:Ue l xs=some (l',r):=hF
 cases xs with
 |nil=>
  obtain rfl:=aU.nil_inv hx;refine ah hF fun x hg hF=>eN hF fun hle e=>?_
  obtain⟨rfl,rfl⟩:=jT e;clear hF hx;have bN:l≠[]:=by rintro rfl;simp at hg
  have QL:l[l.length-1]?=some x:=by rw[<-List.getLast?_eq_getElem?];exact hg
  obtain⟨v,hv,QM⟩:=aV.get hd QL;have I8:0<l.length:=uY.mpr bN;refine rM uX hl.isList.typeIs Do (PySem.F.args_list_pop_1 _) (PySem.MeetsSeq.list_pop_last a ws.toArray e0 v (by simpa[hlen]using hv) (by rw[bM,hlen];exact aA hle cZ)) ⟨D1,?_⟩;have hs:Heap.SameBut a s.heap (s.heap.update a (Obj.mapSeq fun xs=>xs.eraseIdxIfInBounds (ws.toArray.size-1))):=pj ..;refine⟨hs,.refl _,rfl,⟨_,ws.eraseIdx (ws.length-1),rfl,jj D1 (by rw[bM,si]),?_⟩,Dn.but QM ha hs⟩;have:=aU.but (aU.erase (ws.length-1) hd) ha hs;rw[hlen]at this ⊢;rwa[List.eraseIdx_eq_dropLast (rP I8)]at this
 |cons y xs=>cases xs with
  |cons _ _=>cases hF
  |nil=>
   refine ah hF fun i hi hF=>ah hF fun k hp hF=>ah hF fun x hg hF=>eN hF fun hle e=>?_
   obtain⟨rfl,rfl⟩:=jT e;refine hx.one_k fun u hu=>hu.int_k hi fun t=>?_
   obtain⟨v,hv,QM⟩:=aV.get hd hg;have TJ:=A0 hp (aA hle (cF 1000000));refine rM uX hl.isList.typeIs Do (PySem.F.args_list_pop_2 _ _) (PySem.MeetsSeq.list_pop_at a ws.toArray e0 i t k v TJ.2 (by rw[bM,hlen];exact TJ.1) (by simpa using hv) (by rw[bM,hlen];exact aA hle cZ)) ⟨D1,?_⟩;have hs:Heap.SameBut a s.heap (s.heap.update a (Obj.mapSeq fun xs=>xs.eraseIdxIfInBounds k)):=pj ..;exact⟨hs,.refl _,rfl,⟨_,ws.eraseIdx k,rfl,jj D1 (si ..),aU.but (aU.erase k hd) ha hs⟩,Dn.but QM ha hs⟩
noncomputable def V.Nn:List V->Option (V×V)
 |[x,y]=>some (x,y)
 |_=>Option.none
theorem V.A1:∀{xs:List V} {x},V.Nn xs=some x->xs=[x.1,x.2]
 |[_,_],_,h=>congrArg (fun x=>[x.1,x.2]) (Option.some.inj h)
 |[],_,h|[_],_,h|_::_::_::_,_,h=>nomatch h
noncomputable def No(y:V)(xs:List V):Option (V×V):=y.gF.bind fun l=>(V.Nn xs).bind fun p=>p.1.int?.bind fun i=>if 0<=i/\i<=1000/\l.length<most then some (.list (l.insertIdx (min i.toNat l.length) p.2),.none)else none
theorem QN(l:List V)(i:Int)(x:V):No (.list l) [.int i,x]=if 0<=i/\i<=1000/\l.length<most then some (.list (l.insertIdx (min i.toNat l.length) x),.none)else none:=id rfl
theorem aU.insert{h:Heap}{hid}{x:V}{v:Value}(hx:Dn P h hid x v):∀{l:List V} {ws:List Value} (k:Nat),k<=l.length->aU P h hid l ws->aU P h hid (l.insertIdx k x) (ws.take k++v::ws.drop k)
 |l,ws,0,_,e=>by simpa using aV.cons hx e
 |[],ws,k+1,hk,e=>by simp at hk
 |y::l,ws,k+1,hk,e=>by
  obtain⟨u,r,rfl,h1,h2⟩:=aU.cons_inv e;simp only[List.insertIdx_succ_cons,Dp,List.drop_succ_cons,List.cons_append];exact .cons h1 (aU.insert hx k (by simpa using hk) h2)
theorem Uf:Ha P "insert" No:=DW (id:="list.insert") (fun y xs r h=>vo h) PySem.F.slot_list_insert PySem.F.type_list_insert fun A s hid a l ws vs xs l' r E rm ha hl hd hx hF=>
 ah (o:=V.Nn xs) hF fun p hp hF=>ah hF fun i hi hF=>eN hF fun hc e=>by
 cases V.A1 hp;obtain⟨rfl,rfl⟩:=jT e;obtain⟨e0,D1⟩:=id hl;have hlen:=hd.length;refine hx.two_k fun u u' hu YW=>hu.int_k hi fun t=>?_
 clear hx hF hp hu;refine rM PySem.F.slot_list_insert hl.isList.typeIs PySem.F.entry_list_insert (PySem.F.args_list_insert_3 _ _ _) (AutoSeq1.list_insert_list_int_val_1 a ws.toArray e0 i t u' (by unfold Builtin.List.listFitsIndex;have:=hc.1;have:=hc.2.1;clear hd D1 hl;simp;omega) (by rw[bM,hlen];exact aA (eY hc.2.2) cZ)) ⟨D1,?_⟩;have hs:∀f,Heap.SameBut a s.heap (s.heap.update a (Obj.mapSeq f)):=fun f=>pj ..
 refine⟨hs _,.refl _,rfl,⟨_,ws.take (min i.toNat l.length)++u'::ws.drop (min i.toNat l.length),rfl,jj D1 ?_,?_⟩,.sa⟩
 ·dsimp only
  rw[az (Int.not_lt.mpr hc.1),bM,hlen];apply Array.toList_inj.mp;simp;rw[rQ (by simp[hlen])]
 ·exact aU.but (aU.insert YW _ (Nat.min_le_right _ _) hd) ha (hs _)
end
section
variable{P:Pk}{n:Nat}{K:Cx}{lo:Bool}
structure Mv0(W:List Addr)(gi:Option Nat)(s s':Shared):Prop where
 keep:∀b o,b∉W->s.heap.get? b=some o->s'.heap.get? b=some o
 gens:∀(i:Nat) x,gi≠some i->s.gens[i]?=some x->s'.gens[i]?=some x
 bare:AllBare s.gens->AllBare s'.gens
 os:s'.os=s.os
structure Mv(W:List Addr)(gi:Option Nat)(s s':Shared):Prop extends Mv0 W gi s s' where
 live:cx s'.heap W
noncomputable def owners:List String:=["enumerate","zip","dict_itemiterator","dict_reverseitemiterator","odict_iterator","itertools.zip_longest","itertools.pairwise"]
noncomputable def Quiet(s:Shared)(I:Addr):Prop:=∃o T,s.heap.get? I=some o/\o.cls= .type T/\owners.contains T=false
inductive Ug(P:Pk)(hid:List Addr)(x:V)(St:List Addr->Nat->Shared->Prop)(i:Nat)(I:Addr)(W:List Addr)(gi:Option Nat)(s s':Shared)(r:Option Value):Prop
 |mk (v:Value) (e:r=some v) (d:Dn P s'.heap hid x v) (st:St hid i s') (q:Quiet s' I) (mv:Mv W gi s s'):Ug P hid x St i I W gi s s' r
structure uB(P:Pk)(A:Around)(I:Addr)(W:List Addr)(gi:Option Nat)(xs:List V)(St:List Addr->Nat->Shared->Prop):Prop where
 frame:∀hid ao i s s',(∀a∈W,a∈hid)->St hid i s->Ks W hid ao s s'->St ao i s'
 self:∀hid i s (Q:Value->Shared->Prop) (E:Value->Shared->Prop),St hid i s->Q (.ref I) s->wpAny (model P.prog P.w) A (pyIter (.ref I)) Q E s
 item:∀hid i s x (E:Value->Shared->Prop),xs[i]?=some x->(∀a∈W,a∈hid)->P.G s.heap->cx s.heap hid->St hid i s->
  wpAny (model P.prog P.w) A (pyNext (.ref I)) (fun r s'=>Ug P hid x St (i+1) I W gi s s' r) E s
 done:∀hid s (E:Value->Shared->Prop),(∀a∈W,a∈hid)->P.G s.heap->cx s.heap hid->St hid xs.length s->wpAny (model P.prog P.w) A (pyNext (.ref I)) (fun r s'=>r=none/\Mv0 W gi s s') E s
theorem vp{M:Model}{A:Around}{E:Value->Shared->Prop}{s:Shared}{target:Expr}{I:Addr}{v:Value}{Q:Unit->Shared->Prop}(h:Quiet s I)(hQ:Q () s):wpAny M A (letOwnedTupleGo target (.ref I) v) Q E s:=by
 obtain⟨o,T,ho,hc,hT⟩:=h;unfold letOwnedTupleGo;have aux:wpAny M A (do
   let(.ref r,.ref a):=(Value.ref I,v)|return
   let o <-load r
   match o.cls,o.data with
   | .type n,.fields vs=>
     if owners.contains n&&vs[0]?==some (rawInt a)then
      rule "for.unpacks-the-owned-tuple"
      updateField r 0 .none
   |_,_=>pure ():Sem Unit) Q E s:=by
  cases v<;>try exact bd hQ
  refine ar (wpAny_load ho ?_);rw[hc];cases hd:o.data<;>try exact bd hQ
  dsimp only;rw[hT];exact bd hQ
 cases target<;>first|exact aux|exact bd hQ
inductive TK(P:Pk)(K:Cx)(lc:Bool)(env:Env)(out hid:List Addr)(B s s':Shared)(aY:al):Prop
 |mk (ao:List Addr) (m':Str->Option Value) (S:aB P K env out ao m' B s' aY) (k:Ks out hid ao s s') (l:lc=true->∀b o,b≠env.locals->s.heap.get? b=some o->s'.heap.get? b=some o):TK P K lc env out hid B s s' aY
theorem TK.pre{lc:Bool}{env:Env}{out hid ck:List Addr}{B s s₁ s':Shared}{aY:al}(q:TK P K lc env out ck B s₁ s' aY)(k:Ks out hid ck s s₁)(l:lc=true->∀b o,b≠env.locals->s.heap.get? b=some o->s₁.heap.get? b=some o):TK P K lc env out hid B s s' aY:=by
 obtain⟨a,b,c,d,e⟩:=q;exact⟨a,b,c,k.trans d,fun h b o hb q=>e h b o hb (l h b o hb q)⟩
noncomputable def ze(P:Pk)(K:Cx)(lc:Bool)(t:Expr)(a:al->V->Option al):Prop:=
 ∀(A:Around) (env:Env) (out hid:List Addr) (m:Str->Option Value) (B s:Shared) (ρ aY:al) (x:V) (v:Value) (E:Value->Shared->Prop),A.handled=none->aB P K env out hid m B s ρ->a ρ x=some aY->Dn P s.heap hid x v->
  wpAny (model P.prog P.w) A (assign t env v) (fun ø s'=>TK P K lc env out hid B s s' aY) E s
theorem ap{lc:Bool}(i:Nat){x:Str}{k:NameKind}{p:Pos}(hi:K.vars[i]?=some (x,k,false))(kU:k≠ .free)(YX:lc=true->k= .local):ze P K lc (.Name x p) fun ρ y=>some (upd ρ i y):=fun A env out hid m B s ρ aY y v E hh S hf hv=>by
 cases hf;exact nk (S.store hi hv (fun q=>by cases q) kU fun m' s' S' K' hl=>⟨hid,m',S',K',fun e=>hl.1 (YX e)⟩)
noncomputable def I9(P:Pk)(K:Cx)(lc:Bool)(ts:List Expr)(a:al->List V->Option al):Prop:=
 ∀(A:Around) (env:Env) (out hid:List Addr) (m:Str->Option Value) (B s:Shared) (ρ aY:al) (xs:List V) (vs:List Value) (E:Value->Shared->Prop),A.handled=none->aB P K env out hid m B s ρ->a ρ xs=some aY->aU P s.heap hid xs vs->
  wpAny (model P.prog P.w) A (assignInOrder (ts.map fun t=>assign t env) vs) (fun ø s'=>TK P K lc env out hid B s s' aY) E s
noncomputable def pu:al->List V->Option al:=fun ρ xs=>match xs with|[]=>some ρ|_=>none
noncomputable def dP(a:al->V->Option al)(b:al->List V->Option al):al->List V->Option al:=fun ρ xs=>match xs with|x::xs=>(a ρ x).bind fun aY=>b aY xs|[]=>none
theorem bX{lc:Bool}:I9 P K lc [] pu:=fun A env out hid m B s ρ aY xs vs E hh S hf hv=>by
 cases xs with
 |nil=>
  cases hf;obtain rfl:=aU.nil_inv hv;exact wpAny_assignInOrder_none ⟨hid,m,S,.refl ..,fun ø ø ø ø h=>h⟩
 |cons=>cases hf
theorem ay{lc:Bool}{t:Expr}{ts:List Expr}{a b}(h:ze P K lc t a)(hs:I9 P K lc ts b):I9 P K lc (t::ts) (dP a b):=fun A env out hid m B s ρ aY xs vs E hh S hf hv=>by
 cases xs with
 |nil=>cases hf
 |cons x xs=>
  refine ah hf ?_;rintro am h1 h2;obtain⟨v,r,rfl,hv1,YY⟩:=aU.cons_inv hv;refine wpAny_assignInOrder_more (au (h A env out hid m B s ρ am x v E hh S h1 hv1) (fun ø s₁ q=>?_) fun ø ø q=>q);obtain⟨ck,m₁,bc,gh,YZ⟩:=q;exact au (hs A env out ck m₁ B s₁ am aY xs r E hh bc h2 (YY.ks gh)) (fun ø s₂ q=>q.pre gh YZ) fun ø ø q=>q
theorem cH:∀ρ xs aY,pu ρ xs=some aY->xs.length=0:=fun ρ xs aY h=>by cases xs<;>first|rfl|cases h
theorem aE{a b k}(hb:∀ρ xs aY,b ρ xs=some aY->xs.length=k):∀ρ xs aY,dP a b ρ xs=some aY->xs.length=k+1:=fun ρ xs aY h=>by
 cases xs with
 |nil=>cases h
 |cons x xs=>
  refine ah h ?_;rintro am _ h2;simp[hb _ _ _ h2]
noncomputable def tK(b:al->List V->Option al):al->V->Option al:=fun ρ x=>x.QA.bind (b ρ)
theorem Np(b:al->List V->Option al)(ρ:al)(l:List V):tK b ρ (.tup l)=b ρ l:=rfl
theorem Ja(a:al->V->Option al)(b:al->List V->Option al)(ρ:al)(x:V)(xs:List V):dP a b ρ (x::xs)=(a ρ x).bind fun aY=>b aY xs:=rfl
theorem Nq(ρ:al):pu ρ []=some ρ:=rfl
theorem da{lc:Bool}{ts:List Expr}{k:Nat}{p:Pos}{b}(h:I9 P K lc ts b)(hl:∀ρ xs aY,b ρ xs=some aY->xs.length=ts.length)(he:∀env,assignEach ts env=ts.map fun t=>(false,assign t env)):ze P K lc (.Tuple ts k p) (tK b):=
 fun A env out hid m B s ρ aY x v E hh S hf hv=>by
 refine ah hf fun l jN hf=>?_
 cases V.AV jN;obtain⟨a,vs,rfl,ha,ht,hd⟩:=hv.oF;refine Dq hh ht.zc ?_ ?_ fun h' hx=>?_
 ·rw[he,bi,bM,hd.length,hl _ _ _ hf]
 ·rw[he]
  rw[Dr];intro q hq;obtain⟨t,_,rfl⟩:=bP.mp hq;rfl
 ·have e:(assignEach ts env).map (·.2)=ts.map fun t=>assign t env:=by rw[he];simp
  rw[e];have k1:Kp s {s with heap:=h'}:=.heap fun b o q=>hx b o (fun z=>by rw[z,aP]at q;cases q) q
  refine au (h A env out hid m B {s with heap:=h'} ρ aY l vs E hh (S.after k1) hf (hd.kp k1)) (fun ø s₂ q=>q.pre (Ks.gV k1) fun ø b o ø q=>k1.keep b o q) fun ø ø q=>q
inductive TL(P:Pk)(A:Around)(hid:List Addr)(xs:List V)(s s₂:Shared)(it:Value):Prop
 |mk (I:Addr) (W:List Addr) (gi:Option Nat) (St:List Addr->Nat->Shared->Prop) (e:it= .ref I) (k:Kp s s₂) (h:uB P A I W gi xs St) (f:∀a∈W,s.heap.get? a=none) (l:cx s₂.heap W) (g:∀g,gi=some g->s.gens.size<=g) (st:St (W++hid) 0 s₂):TL P A hid xs s s₂ it
noncomputable def QO(P:Pk)(n:Nat)(K:Cx)(e:Expr)(f:al->Option (List V)):Prop:=
 ∀(A:Around) (env:Env) (out hid:List Addr) (m:Str->Option Value) (B s:Shared) (ρ:al) (xs:List V) (E:Value->Shared->Prop),bW n A->aB P K env out hid m B s ρ->f ρ=some xs->
  wpAny (model P.prog P.w) A (eval e env) (fun v s₁=>wpAny (model P.prog P.w) A (pyIter v) (fun it s₂=>TL P A hid xs s s₂ it) E s₁) E s
noncomputable def fg(asg:al->V->Option al)(body:al->Option (al×Fl)):List V->al->Option (al×Fl)
 |[],ρ=>some (ρ,.next)
 |x::xs,ρ=>(asg ρ x).bind fun am=>(body am).bind fun r=>match r.2 with
  | .next| .cont=>fg asg body xs r.1
  | .brk=>some (r.1,.next)
  | .ret v=>some (r.1,.ret v)
theorem vq(asg:al->V->Option al)(body:al->Option (al×Fl))(x:V)(xs:List V)(ρ:al):fg asg body (x::xs) ρ=(asg ρ x).bind fun am=>(body am).bind fun r=>match r.2 with
 | .next| .cont=>fg asg body xs r.1
 | .brk=>some (r.1,.next)
 | .ret v=>some (r.1,.ret v):=rfl
noncomputable def Hb(it:al->Option (List V))(asg:al->V->Option al)(body:al->Option (al×Fl)):al->Option (al×Fl):=fun ρ=>(it ρ).bind fun xs=>fg asg body xs ρ
theorem aB.Jb{env:Env}{out hid W X:List Addr}{m}{B s:Shared}{ρ}(S:aB P K env out hid m B s ρ){s':Shared}(k:Kp s s')(hW:∀a∈W,s.heap.get? a=none)(lW:cx s'.heap W)(hX:∀a∈X,s.heap.get? a=none)(lX:cx s'.heap X):aB P K env (W++out) (W++(X++hid)) m B s' ρ:=by
 have hn:∀a,a∈hid->a∉W:=fun a h q=>by obtain⟨o,e⟩:=S.live a h;rw[hW a q]at e;cases e
 have toB:∀a,s.heap.get? a=none->B.heap.get? a=none:=fun a h=>by
  cases e:B.heap.get? a with
  |none=>rfl
  |some o=>rw[S.kp.keep a o e]at h;cases h
 exact S.map (fun a h=>(cr.mp h).elim (lW a) fun h=>(cr.mp h).elim (lX a) (S.live.kp k a)) (fun a h=>(cr.mp h).elim (fun q=>bj _ q) fun q=>bw _ (bw _ (S.oh a q)))
  (S.ns.keeps k.keep) (S.kp.trans k) (fun a h ho=>(cr.mp h).elim (fun q=>absurd (bj _ q) ho) fun h=>(cr.mp h).elim (fun q=>toB a (hX a q)) fun q=>S.own a q fun z=>ho (bw _ z))
  (fun a h ho=>⟨bw _ (bw _ h),fun q=>(cr.mp q).elim (hn a h) ho,k.keep a⟩) (fun a o ø e=>k.keep a o e)
  fun a h=>(cr.mp h).elim (fun q=>.inr (hW a q)) fun h=>(cr.mp h).elim (fun q=>.inr (hX a q)) .inl
theorem aB.outer{env:Env}{out hid W:List Addr}{m}{B s:Shared}{ρ}(S:aB P K env out hid m B s ρ){s':Shared}(k:Kp s s')(hW:∀a∈W,s.heap.get? a=none)(lW:cx s'.heap W):aB P K env (W++out) (W++hid) m B s' ρ:=
 S.Jb (X:=[]) k hW lW (fun a h=>nomatch h) fun a h=>nomatch h
theorem aB.inner{env:Env}{out hid W:List Addr}{m}{B s:Shared}{ρ}(S:aB P K env (W++out) hid m B s ρ)(hW:∀a∈W,B.heap.get? a=none):aB P K env out hid m B s ρ:=
 S.map S.live (fun a h=>S.oh a (bw _ h)) S.ns S.kp (fun a h ho=>by
  by_cases q:a∈W
  ·exact hW a q
  ·exact S.own a h fun z=>(cr.mp z).elim q ho) (fun a h ho=>⟨h,fun q=>ho (bw _ q),fun ø e=>e⟩) (fun ø ø ø e=>e) fun ø h=>.inl h
theorem Fw{W:List Addr}{gi:Option Nat}{g0:Array GenState}{s s':Shared}(v:Mv0 W gi s s')(hg:∀g,gi=some g->g0.size<=g)(k:GX g0 s.gens):GX g0 s'.gens:=
 ⟨fun i x h=>v.gens i x (fun e=>by
  have:=hg i e;have:i<g0.size:=(yK.mp h).1;omega) (k.1 i x h),fun h=>v.bare (k.2 h)⟩
theorem GX.size{g g':Array GenState}(h:GX g g'):g.size<=g'.size:=
 yL fun h1=>pN _ (yK.mp (h.1 g'.size g[g'.size] (Array.getElem?_eq_getElem h1))).1
theorem aB.step{env:Env}{out hid W:List Addr}{gi:Option Nat}{m}{B s s':Shared}{ρ}(S:aB P K env out hid m B s ρ)(TM:∀a∈W,a∈out)(v:Mv W gi s s')(hW:∀a∈W,B.heap.get? a=none)(hg:∀g,gi=some g->B.gens.size<=g):aB P K env out hid m B s' ρ:=
 have vr:∀a∈W,a∈hid:=fun a h=>S.oh a (TM a h)
 S.map (fun a h=>by
  by_cases q:a∈W
  ·exact v.live a q
  ·obtain⟨o,ho⟩:=S.live a h
   exact⟨o,v.keep a o q ho⟩) S.oh (S.ns.elim fun o q=>q.elim fun es q=>q.elim fun ep q=>⟨o,es,ep,v.keep _ o (fun z=>S.Lo (TM _ z)) q.1,q.2⟩)
  ⟨fun b o h=>v.keep b o (fun z=>by rw[hW b z]at h;cases h) (S.kp.keep b o h),Fw v.toMv0 hg S.kp.gens,v.os.trans S.kp.os⟩ S.own (fun a h ho=>⟨h,ho,fun o=>v.keep a o fun z=>ho (TM a z)⟩) (fun a o h=>v.keep a o fun z=>h (vr a z)) fun ø h=>.inl h
theorem Ks.mv{out lM hid W:List Addr}{gi:Option Nat}{aW s s':Shared}(k:Ks out lM hid aW s)(v:Mv0 W gi s s')(hW:∀a∈W,aW.heap.get? a=none)(hg:∀g,gi=some g->aW.gens.size<=g):Ks out lM hid aW s' where
 keep:=fun b o hb h=>v.keep b o (fun z=>by rw[hW b z]at h;cases h) (k.keep b o hb h)
 new:=k.new
 sub:=k.sub
 gens:=Fw v hg k.gens
 os:=v.os.trans k.os
theorem aB.last{env:Env}{out hid W:List Addr}{gi:Option Nat}{m}{B s s':Shared}{ρ}(S:aB P K env (W++out) hid m B s ρ)(v:Mv0 W gi s s')(hW:∀a∈W,B.heap.get? a=none)(hg:∀g,gi=some g->B.gens.size<=g)(QP:∀a∈out,a∉W):
  aB P K env out (hid.filter fun a=>!W.contains a) m B s' ρ:=by
 have mem:∀a,a∈hid.filter (fun a=>!W.contains a)<->a∈hid/\a∉W:=fun a=>by simp[kL]
 have vr:∀a∈W,a∈hid:=fun a h=>S.oh a (bj _ h)
 have hLW:env.locals∉W:=fun z=>S.Lo (bj _ z)
 exact S.map (fun a h=>(S.live a ((mem a).mp h).1).elim fun o ho=>⟨o,v.keep a o ((mem a).mp h).2 ho⟩) (fun a h=>(mem a).mpr ⟨S.oh a (bw _ h),QP a h⟩)
  (S.ns.elim fun o q=>q.elim fun es q=>q.elim fun ep q=>⟨o,es,ep,v.keep _ o hLW q.1,q.2⟩)
  ⟨fun b o h=>v.keep b o (fun z=>by rw[hW b z]at h;cases h) (S.kp.keep b o h),Fw v hg S.kp.gens,v.os.trans S.kp.os⟩ (fun a h ho=>S.own a ((mem a).mp h).1 fun z=>(cr.mp z).elim ((mem a).mp h).2 ho)
  (fun a h ho=>⟨(mem a).mpr ⟨h,fun z=>ho (bj _ z)⟩,fun q=>ho (bw _ q),fun o=>v.keep a o fun z=>ho (bj _ z)⟩) (fun a o h=>v.keep a o fun z=>h (vr a z)) fun a h=>.inl ((mem a).mp h).1
theorem Ks.last{out lM hid W:List Addr}{aW s:Shared}(k:Ks out lM hid aW s)(hW:∀a∈W,a∉lM):Ks out lM (hid.filter fun a=>!W.contains a) aW s where
 keep:=k.keep
 new:=fun a h=>k.new a (kL.mp h).1
 sub:=fun a h=>kL.mpr ⟨k.sub a h,by have:a∉W:=fun z=>hW a z h;simp[this]⟩
 gens:=k.gens
 os:=k.os
theorem Ks.only{out W hid ao s s'}(k:Ks out hid ao s s')(h:∀a∈W,a∈out):Ks W hid ao s s':=⟨fun b o hb q=>k.keep b o (hb.imp id (h b)) q,k.new,k.sub,k.gens,k.os⟩
theorem Ks.behind{out lM hid ao W:List Addr}{aW s s':Shared}(k:Ks out lM hid aW s)(v:Ks (W++out) hid ao s s'):Ks out lM ao aW s':=
 k.trans ⟨fun b o hb h=>v.keep b o (hb.imp id fun q=>bw _ q) h,v.new,v.sub,v.gens,v.os⟩
theorem aB.fresh{env:Env}{out hid:List Addr}{m}{B s:Shared}{ρ}(S:aB P K env out hid m B s ρ){a:Addr}(h:s.heap.get? a=none):B.heap.get? a=none:=by
 induction e:B.heap.get? a with
 |none=>rfl
 |some o=>exact nomatch(S.kp.keep a o e).symm.trans h
noncomputable def FE(P:Pk)(A:Around)(E:Value->Shared->Prop)(env:Env):Value->Shared->Prop:=notedBy (model P.prog P.w) A env fun e s'=>cameBackBy (model P.prog P.w) A env E e s'
noncomputable def FB(Q:Flow->Shared->Prop)(J:Shared->Prop)(f:Flow)(s:Shared):Prop:=match f with
 | .next| .cont=>J s
 | .brk=>Q .next s
 | .ret v=>Q (.ret v) s
noncomputable def FA(P:Pk)(A:Around)(E:Value->Shared->Prop)(env:Env)(Q:Flow->Shared->Prop)(target:Expr)(body:List Stmt)(J:Shared->Prop)(v:Value)(_:Unit)(s:Shared):Prop:=
 wpAny (model P.prog P.w) A (assign target env v) (fun ø=>wpAny (model P.prog P.w) A (execs body env) (FB Q J) (FE P A E env)) (FE P A E env) s
noncomputable def FT(P:Pk)(A:Around)(E:Value->Shared->Prop)(env:Env)(Q:Flow->Shared->Prop)(target:Expr)(body:List Stmt)(J:Shared->Prop)(it:Value)(r:Option Value)(s:Shared):Prop:=
 r.elim (Q .next s) fun v=>wpAny (model P.prog P.w) A (letOwnedTupleGo target it v) (FA P A E env Q target body J v) (FE P A E env) s
inductive FG(P:Pk)(A:Around)(E:Value->Shared->Prop)(env:Env)(Q:Flow->Shared->Prop)(target:Expr)(body:List Stmt)(it:Value)(s:Shared):Prop
 |mk (I:Nat->Shared->Prop) (n:Nat) (h:I n s) (turn:∀n s,I n s->wpAny (model P.prog P.w) A (pyNext it) (FT P A E env Q target body (fun t=>∃m,m<n/\I m t) it) (FE P A E env) s):FG P A E env Q target body it s
theorem A2{A:Around}{E:Value->Shared->Prop}{env:Env}{Q:Flow->Shared->Prop}{target iter:Expr}{body:List Stmt}{pos:Pos}{s:Shared}(hs:∀x,foldedSetIterable iter env x=pure x)
  (h:wpAny (model P.prog P.w) A (eval iter env) (fun v s₁=>wpAny (model P.prog P.w) A (pyIter v) (FG P A E env Q target body) E s₁) E s):wpAny (model P.prog P.w) A (exec (.For target iter body [] pos) env) Q E s:=by
 refine wpAny_For (au h (fun v s₁ ag=>au ag (fun it s₂ aH=>?_) fun ø ø q=>q) fun ø ø q=>q) hs;obtain⟨I,n,h,turn⟩:=aH;refine codeAny_forLoop_any I (fun n s hI=>au (turn n s hI) (fun r s₁ ag=>?_) fun ø ø q=>q) n h
 induction r with
 |none=>exact mZ ag
 |some v=>exact au ag (fun ø s₂ aH=>au aH (fun ø cB eh=>au eh (fun f gQ A3=>by cases f<;>exact A3) fun ø ø q=>q) fun ø ø q=>q) fun ø ø q=>q
end
section
variable{P:Pk}{n:Nat}{K:Cx}{lo:Bool}
theorem uB.of{A:Around}{I:Addr}{fp:List Addr}{xs:List V}{Pp:Nat->Value->Prop}{Y0:Nat->Heap->Prop}(W:Walks P.prog P.w A I fp [I] xs.length Pp Y0)(R:List Addr->Shared->Prop)
  (hR:∀out hid ao s s',Ks out hid ao s s'->R hid s->R ao s') (hR2:∀hid s h' tk,(∀b o,b≠I->s.heap.get? b=some o->h'.get? b=some o)->I∈hid->R hid s->R hid {s with heap:=h',toks:=tk})
  (rel:∀hid i x v s,R hid s->xs[i]?=some x->Pp i v->Dn P s.heap hid x v) (cls:∀i h,Y0 i h->∃o T,h.get? I=some o/\o.cls= .type T/\owners.contains T=false):
  uB P A I [I] none xs (fun hid i s=>Y0 i s.heap/\R hid s/\(∀b∈fp,b≠I->b∉hid/\∃o,s.heap.get? b=some o)/\I∈hid)where
 frame:=fun hid ao i s s' hh ⟨h1,h2,h3,h4⟩ k=>by
  refine⟨W.frame i _ _ h1 fun b hb o e=>k.keep b o ?_ e,hR _ hid ao s s' k h2,fun b hb bN=>⟨fun hm=>?_,?_⟩,k.sub I h4⟩
  ·by_cases q:b=I
   ·exact .inr (by simp[q])
   ·exact .inl (h3 b hb q).1
  ·obtain⟨z,o,e⟩:=h3 b hb bN
   exact(k.new b hm).elim z fun w=>by rw[e]at w;cases w
  ·obtain⟨z,o,e⟩:=h3 b hb bN
   exact⟨o,k.keep b o (.inl z) e⟩
 self:=fun hid i s Q E ⟨h1,_⟩ hQ=>W.self i s Q E h1 hQ
 item:=fun hid i s x E hx hW hG live ⟨h1,h2,h3,h4⟩=>by
  have hi:i<xs.length:=by
   by_cases q:i<xs.length
   ·exact q
   ·rw[iL (by omega)]at hx;cases hx
  refine W.item i s _ E hi h1 fun v h' tk hv st hk=>?_
  have zf:∀b o,b≠I->s.heap.get? b=some o->h'.get? b=some o:=fun b o hb e=>hk b o (by simpa using hb) e
  have r2:=hR2 hid s h' tk zf h4 h2;obtain⟨o,T,c1,c2,c3⟩:=cls (i+1) h' st;refine⟨v,rfl,rel hid i x v {s with heap:=h',toks:=tk} r2 hx hv,⟨st,r2,fun b hb bN=>⟨(h3 b hb bN).1,let⟨o,e⟩:=(h3 b hb bN).2;⟨o,zf b o bN e⟩⟩,h4⟩,⟨o,T,c1,c2,c3⟩,⟨⟨fun b o hb e=>zf b o (by simpa using hb) e,fun i x ø e=>e,id,rfl⟩,fun a ha=>?_⟩⟩;obtain rfl:a=I:=by simpa using ha
  exact⟨o,c1⟩
 done:=fun hid s E hW hG live ⟨h1,h2,h3,h4⟩=>by
  refine W.done s _ E h1 fun h' tk hk=>⟨rfl,fun b o hb e=>hk b o hb e,fun i x ø e=>e,id,rfl⟩
theorem aU.other{hid:List Addr}{s:Shared}{h':Heap}{I:Addr}{xs:List V}{vs:List Value}(e:aU P s.heap hid xs vs)(hI:I∈hid)(hk:∀b o,b≠I->s.heap.get? b=some o->h'.get? b=some o):aU P h' hid xs vs:=
 e.grow (fun a o ha q=>hk a o (fun z=>ha (z▸hI)) q) fun a h=>.inl h
theorem uB.list{A:Around}(hh:A.handled=none){I ax:Addr}(bN:ax≠I){xs:List V}{vs:List Value}(hl:vs.length=xs.length):
  uB P A I [I] none xs (fun hid i s=>(s.heap.IsListIter I ax i/\s.heap.IsList ax vs.toArray)/\aU P s.heap hid xs vs/\(∀b∈[I,ax],b≠I->b∉hid/\∃o,s.heap.get? b=some o)/\I∈hid):=by
 have W:=Walks.list (prog:=P.prog) (w:=P.w) hh I ax bN vs.toArray;rw[bM,hl]at W;refine uB.of W (fun hid s=>aU P s.heap hid xs vs) (fun out hid ao s s' k h=>aU.ks (P:=P) h k) (fun hid s h' tk hk hI h=>aU.other (P:=P) h hI hk) (fun hid i x v s hd hx hv=>?_) fun i h st=>?_
 ·obtain⟨u,hu,hr⟩:=aV.get hd hx
  have hv:vs[i]?=some v:=by simpa using hv
  rw[hu]at hv;cases hv;exact hr
 ·obtain⟨⟨o,ho,hc,_⟩,_⟩:=st
  exact⟨o,"list_iterator",ho,hc,by decide⟩
theorem uB.tuple{A:Around}(hh:A.handled=none){I ax:Addr}(bN:ax≠I){xs:List V}{vs:List Value}(hl:vs.length=xs.length):
  uB P A I [I] none xs (fun hid i s=>(s.heap.IsTupleIter I ax i/\s.heap.IsTuple ax vs.toArray)/\aU P s.heap hid xs vs/\(∀b∈[I,ax],b≠I->b∉hid/\∃o,s.heap.get? b=some o)/\I∈hid):=by
 have W:=Walks.tuple (prog:=P.prog) (w:=P.w) hh I ax bN vs.toArray;rw[bM,hl]at W;refine uB.of W (fun hid s=>aU P s.heap hid xs vs) (fun out hid ao s s' k h=>aU.ks (P:=P) h k) (fun hid s h' tk hk hI h=>aU.other (P:=P) h hI hk) (fun hid i x v s hd hx hv=>?_) fun i h st=>?_
 ·obtain⟨u,hu,hr⟩:=aV.get hd hx
  have hv:vs[i]?=some v:=by simpa using hv
  rw[hu]at hv;cases hv;exact hr
 ·obtain⟨⟨o,ho,hc,_⟩,_⟩:=st
  exact⟨o,"tuple_iterator",ho,hc,by decide⟩
noncomputable def elems:V->Option (List V)
 | .list l=>some l
 | .tup l=>some l
 | .str l=>some (l.map fun c=>.str [c])
 |_=>none
set_option tactic.hygienic true in
theorem bQ{e:Expr}{f}(h:eM P n K false e f):QO P n K e (fun ρ=>(f ρ).bind elems):=fun A env out hid m B s ρ xs E rm S hf=>by
 refine ah hf fun x hx gg=>?_
 clear hf;rename _=>hf
 refine au (h A env out hid m B s ρ x E rm S hx) (fun v s₁ ag=>?_) fun ø ø q=>q
 have bc:=S.after ag.1;have eG:s.heap.get? s₁.heap.objs.size=none:=by
  cases e:s.heap.get? s₁.heap.objs.size with
  |none=>rfl
  |some o=>have:=ag.1.keep _ _ e;rw[aP]at this;cases this
 have nh:s₁.heap.objs.size∉hid:=uy bc.live;cases x<;>simp only[elems]at hf<;>try cases hf
 ·rename_i l
  obtain⟨t,rfl⟩:=ag.2.str_inv;have hsz:(pyStr l).cps.size=(l.map fun c=>V.str [c]).length:=by simp
  have rel:∀hid i x v (s:Shared),True->(l.map fun c=>V.str [c])[i]?=some x->SignAt (pyStr l) i v->Dn P s.heap hid x v:=fun hid i x v s ø hx hv=>by
   obtain⟨c,u,hc,rfl⟩:=hv;rw[bL]at hx;have Jc:l[i]?=some c:=by simpa using hc
   rw[Jc]at hx;cases hx;exact .ofStr [c] u
  cases ha:(pyStr l).cps.all (· <128)
  ·have W:=Walks.strWide (prog:=P.prog) (w:=P.w) rm.handled s₁.heap.objs.size (pyStr l) t
   rw[hsz]at W;refine wpAny_pyIter_wide ha ⟨s₁.heap.objs.size,[s₁.heap.objs.size],none,_,rfl,ag.1.trans (Kp.push s₁ _ _),uB.of W (fun ø ø=>True) (fun ø ø ø ø ø ø ø=>trivial) (fun ø ø ø ø ø ø ø=>trivial) rel (fun i h st=>?_),fun b hb=>?_,fun b hb=>?_,fun g q=>(nomatch q),?_⟩
   ·obtain⟨o,ho,hc,_⟩:=st
    exact⟨o,"str_iterator",ho,hc,by decide⟩
   ·obtain rfl:b=s₁.heap.objs.size:=by simpa using hb
    exact eG
   ·obtain rfl:b=s₁.heap.objs.size:=by simpa using hb
    exact⟨_,bD _ rfl⟩
   ·refine⟨⟨_,bD _ rfl,rfl,rfl⟩,trivial,fun b hb D2=>absurd (by simpa using hb) D2,by simp⟩
  ·have W:=Walks.strAscii (prog:=P.prog) (w:=P.w) rm.handled s₁.heap.objs.size (pyStr l) t
   rw[hsz]at W;refine wpAny_pyIter_ascii ha ⟨s₁.heap.objs.size,[s₁.heap.objs.size],none,_,rfl,ag.1.trans (Kp.push s₁ _ _),uB.of W (fun ø ø=>True) (fun ø ø ø ø ø ø ø=>trivial) (fun ø ø ø ø ø ø ø=>trivial) rel (fun i h st=>?_),fun b hb=>?_,fun b hb=>?_,fun g q=>(nomatch q),?_⟩
   ·obtain⟨o,ho,hc,_⟩:=st
    exact⟨o,"str_ascii_iterator",ho,hc,by decide⟩
   ·obtain rfl:b=s₁.heap.objs.size:=by simpa using hb
    exact eG
   ·obtain rfl:b=s₁.heap.objs.size:=by simpa using hb
    exact⟨_,bD _ rfl⟩
   ·refine⟨⟨_,bD _ rfl,rfl,rfl⟩,trivial,fun b hb D2=>absurd (by simpa using hb) D2,by simp⟩
 ·obtain⟨a,vs,rfl,ha,ht,hd⟩:=ag.2.oF
  have bN:a≠s₁.heap.objs.size:=fun e=>by obtain⟨k,z⟩:=ht;rw[e,aP]at z;cases z
  refine wpAny_pyIter_tuple ht.zc ⟨s₁.heap.objs.size,[s₁.heap.objs.size],none,_,rfl,ag.1.trans (Kp.push s₁ _ _),uB.tuple rm.handled bN hd.length,fun b hb=>?_,fun b hb=>?_,fun g q=>(nomatch q),?_⟩
  ·obtain rfl:b=s₁.heap.objs.size:=by simpa using hb
   exact eG
  ·obtain rfl:b=s₁.heap.objs.size:=by simpa using hb
   exact⟨_,bD _ rfl⟩
  ·refine⟨⟨⟨_,bD _ rfl,rfl,rfl⟩,ht.zc.push _⟩,?_,fun b hb D2=>?_,by simp⟩
   ·exact aU.grow (P:=P) hd (fun a o ø q=>bK _ q) fun b hb=>by
     rcases cr.mp hb with q|q
     ·right;obtain rfl:b=s₁.heap.objs.size:=by simpa using q
      exact aP _
     ·exact .inl q
   ·have:b=a:=by
     rcases bp.mp hb with q|q
     ·exact absurd q D2
     ·simpa using q
    subst this;obtain⟨k,z⟩:=ht;exact⟨fun q=>(cr.mp q).elim (fun w=>D2 (by simpa using w)) ha,_,bK _ z⟩
 ·obtain⟨a,vs,rfl,ha,ht,hd⟩:=ag.2.em
  have bN:a≠s₁.heap.objs.size:=fun e=>by obtain⟨k,z⟩:=ht;rw[e,aP]at z;cases z
  refine yM ht.isList ⟨s₁.heap.objs.size,[s₁.heap.objs.size],none,_,rfl,ag.1.trans (Kp.push s₁ _ _),uB.list rm.handled bN hd.length,fun b hb=>?_,fun b hb=>?_,fun g q=>(nomatch q),?_⟩
  ·obtain rfl:b=s₁.heap.objs.size:=by simpa using hb
   exact eG
  ·obtain rfl:b=s₁.heap.objs.size:=by simpa using hb
   exact⟨_,bD _ rfl⟩
  ·refine⟨⟨⟨_,bD _ rfl,rfl,rfl⟩,ht.isList.at fun o q=>bK _ q⟩,?_,fun b hb D2=>?_,by simp⟩
   ·exact aU.grow (P:=P) hd (fun a o ø q=>bK _ q) fun b hb=>by
     rcases cr.mp hb with q|q
     ·right;obtain rfl:b=s₁.heap.objs.size:=by simpa using q
      exact aP _
     ·exact .inl q
   ·have:b=a:=by
     rcases bp.mp hb with q|q
     ·exact absurd q D2
     ·simpa using q
    subst this;obtain⟨k,z⟩:=ht;exact⟨fun q=>(cr.mp q).elim (fun w=>D2 (by simpa using w)) ha,_,bK _ z⟩
noncomputable def eH(a:Int):Bool:=decide (-1000000<=a)&&decide (a<=1000000)
noncomputable def IV(a b c:Int):List V:=(List.range (Builtin.Range.rangeSize a b c).toNat).map fun(i:Nat)=>.int (a+(i:Int)*c)
noncomputable def sj:List V->Option (List V)
 |[x]=>x.int?.bind fun b=>if eH b=true then some (IV 0 b 1)else none
 |[x,y]=>r9 V.int? V.int? (fun a b=>if(eH a&&eH b)=true then some (IV a b 1)else none) x y
 |[x,y,z]=>x.int?.bind fun a=>r9 V.int? V.int? (fun b c=>if(eH a&&eH b&&c== -1)=true then some (IV a b (-1))else none) y z
 |_=>none
theorem D3(b:Int):sj [.int b]=if eH b=true then some (IV 0 b 1)else none:=id rfl
theorem D4(a b:Int):sj [.int a,.int b]=if(eH a&&eH b)=true then some (IV a b 1)else none:=id rfl
theorem Jd(a b c:Int):sj [.int a,.int b,.int c]=if(eH a&&eH b&&c== -1)=true then some (IV a b (-1))else none:=id rfl
theorem jk{a:Int}(h:eH a=true): -1000000<=a/\a<=1000000:=by
 rw[eH,dI,iK,iK]at h;exact h
theorem A4{a b:Int}(h: -1000000<=a/\a<=1000000)(h': -1000000<=b/\b<=1000000):Builtin.Range.small a b 1=true:=
 small_one (by omega) (by omega) (by omega) (by omega)
theorem A5(a b:Int):((Builtin.Range.rangeSize a b 1).toNat:Int)=Builtin.Range.rangeSize a b 1:=by
 rw[rangeSize_one];split<;>omega
theorem pv(a b:Int):Builtin.Range.rangeSize a b (-1)=if a>b then a-b else 0:=by
 unfold Builtin.Range.rangeSize;rw[az (by omega)];split
 ·simp only[Int.neg_neg,Int.ediv_one];omega
 ·rfl
theorem Hc{a b:Int}(h: -1000000<=a/\a<=1000000)(h': -1000000<=b/\b<=1000000):Builtin.Range.small a b (-1)=true:=
 small_down (by omega) (by omega) (by omega) (by omega)
theorem Je(a b:Int):((Builtin.Range.rangeSize a b (-1)).toNat:Int)=Builtin.Range.rangeSize a b (-1):=by
 rw[pv];split<;>omega
theorem A6{A:Around}{E:Value->Shared->Prop}{s:Shared}{xs l:List V}{vs:List Value}{hid:List Addr}(hd:aU P s.heap hid xs vs)(hf:sj xs=some l){Q:Value->Shared->Prop}
  (h:∀(a b c:Int) (t u v:Tok) (k:Nat) s',l=(List.range k).map (fun(i:Nat)=>V.int (a+(i:Int)*c))->(k:Int)=Builtin.Range.rangeSize a b c->Builtin.Range.small a b c=true->IsRange s'.heap s.heap.objs.size a b c t u v->Kp s s'->Q (.ref s.heap.objs.size) s'):
  wpAny (model P.prog P.w) A (call (.type "range") vs) Q E s:=by
 cases xs with
 |nil=>cases hf
 |cons x xs=>cases xs with
  |nil=>
   exact ah hf fun b hb hf=>eN hf fun hc e=>hd.one_k fun u hu=>hu.int_k hb fun t=>
    call_range_1 (h 0 b 1 _ _ _ _ _ e.symm (A5 0 b) (A4 (by decide) (jk hc)) (bD _ rfl) (Kp.push s _ _))
  |cons y xs=>cases xs with
   |nil=>
    exact bI hf fun a b ha hb hf=>eN hf fun hc e=>hd.two_k fun u v hu hv=>hu.int_k ha fun t=>hv.int_k hb fun t'=>
     call_range_2 (h a b 1 _ _ _ _ _ e.symm (A5 a b) (A4 (jk (yN.mp hc).1) (jk (yN.mp hc).2)) (bD _ rfl) (Kp.push s _ _))
   |cons z xs=>cases xs with
    |nil=>
     exact ah hf fun a ha hf=>bI hf fun b c hb Jc hf=>eN hf fun hc e=>by
      obtain⟨hq,hm⟩:=yN.mp hc;obtain rfl:=eq_of_beq hm;have hw:=yN.mp hq;have h1:=jk hw.1;have h2:=jk hw.2;exact hd.three_k fun u v w hu hv hw=>hu.int_k ha fun t=>hv.int_k hb fun t'=>hw.int_k Jc fun Y1=>
       call_range_3 (by decide) (h a b (-1) _ _ _ _ _ e.symm (Je a b) (Hc h1 h2) (bD _ rfl) (Kp.push s _ _)) (Or.inl (PyProof.noPylong_small (by decide)))
    |cons _ _=>cases hf
theorem fh{p pos:Pos}{es:List Expr}{f}(hx:K.aM.contains "range"=true)(hv:P.glob "range"=some (.type "range"))
  (hs:lH P n K false es f) (eF:∀env,starEach es env=es.map fun e=>(false,eval e env)) (bN:es≠[]):QO P n K (.Call (.Name "range" p) es [] pos) (fun ρ=>(f ρ).bind sj):=fun A env out hid m B s ρ xs E rm S hf=>by
 refine ah hf fun y hy gg=>?_
 clear hf;rename _=>hf
 refine kK (bH S hx hv (by decide) ?_);refine yG (dg eF) ?_;refine dM (dg eF) (au (hs A env out hid m B s ρ y E pos rm S hy) (fun vs s₁ ag=>?_) fun ø ø q=>q);have bc:=S.after ag.1;refine A6 (vs:=[]++vs) ag.2 hf fun a b c t u v k s₂ hl hk lE hr kp=>?_
 subst hl;refine wpAny_pyIter_range hr lE ?_;have eG:s.heap.get? s₂.heap.objs.size=none:=by
  cases e:s.heap.get? s₂.heap.objs.size with
  |none=>rfl
  |some o=>have:=kp.keep _ _ (ag.1.keep _ _ e);rw[aP]at this;cases this
 have W:=Walks.range (prog:=P.prog) (w:=P.w) rm.handled s₂.heap.objs.size a c k;have hsz:k=((List.range k).map fun(i:Nat)=>V.int (a+(i:Int)*c)).length:=by simp
 rw[show Walks P.prog P.w A s₂.heap.objs.size [s₂.heap.objs.size] [s₂.heap.objs.size] k _ _=Walks P.prog P.w A s₂.heap.objs.size [s₂.heap.objs.size] [s₂.heap.objs.size] ((List.range k).map fun(i:Nat)=>V.int (a+(i:Int)*c)).length _ _ from by rw[<-hsz]]at W;refine⟨s₂.heap.objs.size,[s₂.heap.objs.size],none,_,rfl,ag.1.trans (kp.trans (Kp.push s₂ _ s₂.toks)),uB.of W (fun ø ø=>True) (fun ø ø ø ø ø ø ø=>trivial) (fun ø ø ø ø ø ø ø=>trivial) (fun hid i x v s ø hx hv=>?_) (fun i h st=>⟨_,"range_iterator",st,rfl,by decide⟩),fun b hb=>?_,fun b hb=>?_,fun g q=>(nomatch q),?_⟩
 ·obtain⟨t,rfl⟩:=hv
  rw[bL]at hx;by_cases hi:i<k
  ·rw[Ds hi]at hx
   cases hx;exact .ofInt _ _
  ·rw[iL (by simpa using hi)]at hx;cases hx
 ·obtain rfl:b=s₂.heap.objs.size:=by simpa using hb
  exact eG
 ·obtain rfl:b=s₂.heap.objs.size:=by simpa using hb
  exact⟨_,bD _ rfl⟩
 ·refine⟨?_,trivial,fun b hb D2=>absurd (by simpa using hb) D2,by simp⟩
  show IsRangeIter _ _ (a+((0:Nat):Int)*c) ((k:Int)-((0:Nat):Int)) c;have e1:a+((0:Nat):Int)*c=a:=by simp
  have e2:(k:Int)-((0:Nat):Int)=k:=by simp
  rw[e1,e2,hk];exact bD _ rfl
end
section
variable{P:Pk}{n:Nat}{K K':Cx}{lo:Bool}
noncomputable def dQ(cells:List (Str×Addr)):List (Str×NameKind)->List (Str×Addr)->List (Str×Addr)
 |[],acc=>acc
 |(x,k)::r,acc=>if k== .free then(match cells.lookup x with|some c=>dQ cells r ((x,c)::acc)|none=>dQ cells r acc)else dQ cells r acc
theorem x3(cells:List (Str×Addr))(acc:List (Str×Addr)):dQ cells [] acc=acc:=rfl
theorem kW(cells:List (Str×Addr))(x:Str)(k:NameKind)(r:List (Str×NameKind))(acc:List (Str×Addr)):dQ cells ((x,k)::r) acc=if k== .free then(match cells.lookup x with|some c=>dQ cells r ((x,c)::acc)|none=>dQ cells r acc)else dQ cells r acc:=rfl
theorem xy{scope:Scope}{env:Env}(h:∀y∈scope.names,y.2= .free->∃c,env.cells.lookup y.1=some c):closureFor scope env=pure (dQ env.cells scope.names []):=by
 unfold closureFor;have key:∀(l:List (Str×NameKind)) (acc:List (Str×Addr)),(∀y∈l,y.2= .free->∃c,env.cells.lookup y.1=some c)->
   (forIn l acc fun(x:Str×NameKind) (cs:List (Str×Addr))=>(if(x.2== .free)=true then(do let c <-cellOf env x.1;pure (ForInStep.yield ((x.1,c)::cs)))else pure (ForInStep.yield cs):Sem (ForInStep (List (Str×Addr)))))=pure (dQ env.cells l acc):=by
  intro l
  induction l with
  |nil=>intro acc _;rfl
  |cons y l ih=>
   intro acc hl;obtain⟨x,k⟩:=y;rw[pP]
   cases hk:(k==NameKind.free)with
   |false=>
    simp only[hk,gz,eW,x3,kW];exact ih acc fun y hy=>hl y (by simp[hy])
   |true=>
    obtain⟨c,hc⟩:=hl (x,k) (by simp) (eq_of_beq hk);have e:cellOf env x=pure c:=by unfold cellOf;rw[hc]
    simp only[hk,eI,x3,kW,e,hc];exact ih ((x,c)::acc) fun y hy=>hl y (by simp[hy])
 have:=key scope.names [] h;simpa using this
set_option tactic.hygienic true in
theorem lN{cells:List (Str×Addr)}:∀{l:List (Str×NameKind)} {acc:List (Str×Addr)} {x c},(x,c)∈dQ cells l acc->(x,c)∈acc\/cells.lookup x=some c
 |[],acc,x,c,h=>.inl h
 |(y,k)::r,acc,x,c,h=>by
  rw[kW]at h;split at h
  ·split at h
   ·rename_i c' hc
    rcases lN h with q|q
    ·rcases bp.mp q with q|q
     ·cases q;exact .inr hc
     ·exact .inl q
    ·exact .inr q
   ·exact lN h
  ·exact lN h
theorem lO{cells:List (Str×Addr)}:∀{l:List (Str×NameKind)} {acc:List (Str×Addr)} {x c},(x,c)∈acc->(x,c)∈dQ cells l acc
 |[],acc,x,c,h=>h
 |(y,k)::r,acc,x,c,h=>by
  rw[kW];split
  ·split
   ·exact lO (cw _ h)
   ·exact lO h
  ·exact lO h
theorem lP{cells:List (Str×Addr)}{x:Str}{c:Addr}(hc:cells.lookup x=some c):∀{l:List (Str×NameKind)} {acc:List (Str×Addr)},(x,NameKind.free)∈l->(x,c)∈dQ cells l acc
 |(y,k)::r,acc,h=>by
  rw[kW];rcases bp.mp h with q|q
  ·cases q
   simp only[hc];rw[aw (by rfl)];exact lO (by simp)
  ·split
   ·split
    ·exact lP hc q
    ·exact lP hc q
   ·exact lP hc q
theorem lookup_mem{l:List (Str×Addr)}:∀{x:Str} {c:Addr},l.lookup x=some c->(x,c)∈l:=by
 induction l with
 |nil=>intro x c h;simp at h
 |cons y l ih=>
  intro x c h;obtain⟨z,d⟩:=y;rw[np]at h
  cases hx:x==z with
  |true=>rw[hx]at h;cases h;rw[eq_of_beq hx];simp
  |false=>rw[hx]at h;exact cw _ (ih h)
theorem mem_lookup{l:List (Str×Addr)}:∀{x:Str} {c:Addr},(x,c)∈l->∃d,l.lookup x=some d:=by
 induction l with
 |nil=>intro x c h;cases h
 |cons y l ih=>
  intro x c h;obtain⟨z,d⟩:=y;rw[np]
  cases hx:x==z with
  |true=>exact⟨d,rfl⟩
  |false=>
   rcases bp.mp h with q|q
   ·cases q;simp at hx
   ·exact ih q
theorem vt{cells l x c}(h:(dQ cells l []).lookup x=some c):cells.lookup x=some c:=by
 rcases lN (lookup_mem h)with q|q
 ·cases q
 ·exact q
theorem A7{cells:List (Str×Addr)}{l:List (Str×NameKind)}{x:Str}{c:Addr}(hc:cells.lookup x=some c)(hx:(x,NameKind.free)∈l):(dQ cells l []).lookup x=some c:=by
 obtain⟨d,hd⟩:=mem_lookup (lP (acc:=[]) hc hx);rw[hd];have:=vt hd;rw[hc]at this;exact this.symm
theorem nQ{l:List (Str×NameKind)}:∀{x:Str} {c:NameKind},l.lookup x=some c->(x,c)∈l:=by
 induction l with
 |nil=>intro x c h;simp at h
 |cons y l ih=>
  intro x c h;obtain⟨z,d⟩:=y;rw[np]at h
  cases hx:x==z with
  |true=>rw[hx]at h;cases h;rw[eq_of_beq hx];simp
  |false=>rw[hx]at h;exact cw _ (ih h)
theorem jl{env:Env}{x:Str}{k:NameKind}:∀{names:List (Str×NameKind)},names.lookup x=some k->
  (names.map fun(n,k)=>if(k==NameKind.free&&env.scope.kind== .function&&env.kindOf n==some .cell)then(n,NameKind.cell)else(n,k)).lookup x=some (if(k==NameKind.free&&env.scope.kind== .function&&env.kindOf x==some .cell)=true then .cell else k)
 |[],h=>by simp at h
 |(z,d)::r,h=>by
  have ih:= @jl env x k r;show List.lookup x ((if(d==NameKind.free&&env.scope.kind== .function&&env.kindOf z==some .cell)=true then(z,NameKind.cell)else(z,d))::_)=_;rw[np]at h
  cases hx:x==z with
  |true=>
   rw[hx]at h;cases h;have e:=eq_of_beq hx;subst e;by_cases hc:(k==NameKind.free&&env.scope.kind== .function&&env.kindOf x==some .cell)=true
   ·rw[aw hc,aw hc,np,hx]
   ·rw[az hc,az hc,np,hx]
  |false=>
   rw[hx]at h;by_cases hc:(d==NameKind.free&&env.scope.kind== .function&&env.kindOf z==some .cell)=true
   ·rw[aw hc,np,hx];exact ih h
   ·rw[az hc,np,hx];exact ih h
structure x4(K K':Cx)(nt:Nat)(mY:List Nat)(scope:Scope):Prop where
 kind:scope.kind= .function
 ncell:∀y∈scope.names,y.2≠ .cell
 names:∀y∈scope.names,y.2= .local->scope.names.lookup y.1=some .local
 glob:∀x∈K'.aM,scope.names.lookup x=some .globalImplicit
 tv:∀(j:Nat) x k b,j<nt->K'.vars[j]?=some (x,k,b)->k= .local/\b=false/\scope.names.lookup x=some .local
 cv:∀(j:Nat) x k b,nt<=j->K'.vars[j]?=some (x,k,b)->∃i:Nat,mY[j-nt]?=some i/\K.vars[i]?=some (x,k,b)/\(k= .cell\/k= .free)/\scope.names.lookup x=some .free
 nodup:∀(i j:Nat) x k b k' b',K'.vars[i]?=some (x,k,b)->K'.vars[j]?=some (x,k',b')->i=j
 free:∀y∈scope.names,y.2= .free->∃(i:Nat) (k:NameKind) (b:Bool),K.vars[i]?=some (y.1,k,b)/\(k= .cell\/k= .free)
noncomputable def Py(K K':Cx)(nt:Nat)(mY:List Nat)(scope:Scope):Bool:=
 scope.kind== .function&&(scope.names.all fun y=>y.2 != .cell&&(y.2 != .local||scope.names.lookup y.1==some .local)&&(y.2 != .free||(K.vars.any fun z=>z.1==y.1&&(z.2.1== .cell||z.2.1== .free))))&&
 (K'.aM.all fun x=>scope.names.lookup x==some .globalImplicit)&&
 ((List.range K'.vars.length).all fun j=>match K'.vars[j]? with
  |some (x,k,b)=>if j<nt then k== .local&&!b&&scope.names.lookup x==some .local else(match mY[j-nt]? with|some i=>K.vars[i]?==some (x,k,b)&&(k== .cell||k== .free)&&scope.names.lookup x==some .free|none=>false)
  |none=>false)&&decide (K'.vars.map (·.1)).Nodup
theorem bB{nt:Nat}{mY:List Nat}{scope:Scope}(h:Py K K' nt mY scope=true):x4 K K' nt mY scope:=by
 simp only[Py,dI,cD,jW,nb,bne_iff_ne,List.any_eq_true,iK]at h;obtain⟨⟨⟨⟨h1,h2⟩,h3⟩,h4⟩,h5⟩:=h;have at4:∀(j:Nat) x k b,K'.vars[j]?=some (x,k,b)->_:=fun j x k b hj=>h4 j (by
  have:j<K'.vars.length:=by
   by_cases q:j<K'.vars.length
   ·exact q
   ·rw[iL (by omega)]at hj;cases hj
  simpa using this)
 refine⟨h1,fun y hy=>(h2 y hy).1.1,fun y hy hl=>(h2 y hy).1.2.resolve_left (fun q=>q hl),h3,fun j x k b hj hv=>?_,fun j x k b hj hv=>?_,fun i j x k b k' b' hi hj=>?_,fun y hy hl=>?_⟩
 ·have:=at4 j x k b hv
  rw[hv]at this;simp only[hj,eI,dI,jW,Bool.not_eq_true']at this;exact⟨this.1.1,this.1.2,this.2⟩
 ·have:=at4 j x k b hv
  rw[hv]at this;simp only[show ¬j<nt by omega,eW]at this
  cases hc:mY[j-nt]? with
  |none=>rw[hc]at this;cases this
  |some i=>
   rw[hc]at this;simp only[dI,jW,nb]at this;exact⟨i,rfl,this.1.1,this.1.2,this.2⟩
 ·have e1:(K'.vars.map (·.1))[i]?=some x:=by rw[bL,hi];rfl
  have e2:(K'.vars.map (·.1))[j]?=some x:=by rw[bL,hj];rfl
  have Ni:i<(K'.vars.map (·.1)).length:=by
   by_cases q:i<(K'.vars.map (·.1)).length
   ·exact q
   ·rw[iL (by omega)]at e1;cases e1
  exact(List.getElem?_inj Ni h5).mp (e1.trans e2.symm)
 ·obtain⟨z,hz,hz1,hz2⟩:=(h2 y hy).2.resolve_left (fun q=>q hl)
  obtain⟨i,hi,e⟩:=Dt hz;obtain⟨x,k,b⟩:=z;exact⟨i,k,b,by rw[dX hi,e,<-hz1],hz2⟩
noncomputable def sk(nt:Nat)(mY:List Nat)(ρ:al):al:=fun j=>if j<nt then none else(mY[j-nt]?).bind ρ
theorem aB.comp{env:Env}{out hid W:List Addr}{m}{B s:Shared}{ρ}(S:aB P K env out hid m B s ρ){nt:Nat}{mY:List Nat}{scope:Scope}(ok:x4 K K' nt mY scope){s':Shared}{C D:Addr}(k:Kp s s')
  (hW:∀a∈W,s.heap.get? a=none) (hC:s.heap.get? C=none) (hD:s.heap.get? D=none) (IW:C≠D) (hCW:C∉W) (lW:cx s'.heap W) (lD:∃o,s'.heap.get? D=some o) {m':Str->Option Value} (ns:s'.heap.Ns C m'):
  aB P K' (compEnvC scope (dQ env.cells scope.names []) C env) (W++(D::out)) (C::D::(W++hid)) m' B s' (sk nt mY ρ):=by
 have hn:∀a,a∈hid->s.heap.get? a≠none:=fun a h q=>by obtain⟨o,e⟩:=S.live a h;rw[q]at e;cases e
 have Y2:∀a∈hid,a∉W:=fun a h q=>hn a h (hW a q)
 have Hd:∀a,a∈W++(D::out)<->a∈W\/a=D\/a∈out:=fun a=>by simp
 have new:∀a∈C::D::(W++hid),a∈hid\/s.heap.get? a=none:=fun a h=>by
  rcases bp.mp h with rfl|h
  ·exact .inr hC
  ·rcases bp.mp h with rfl|h
   ·exact .inr hD
   ·exact(cr.mp h).elim (fun q=>.inr (hW a q)) .inl
 have sub:∀a∈hid,a∈C::D::(W++hid):=fun a h=>cw _ (cw _ (bw _ h))
 have Fx:∀c,c∈hid->c∉out->c∉W++(D::out):=fun c h ho z=>((Hd c).mp z).elim (Y2 c h) fun z=>z.elim (fun e=>hn _ h (e▸hD)) ho
 have Uh:∀(j:Nat) x kd b,K'.vars[j]?=some (x,kd,b)->(compEnvC scope (dQ env.cells scope.names []) C env).kindOf x=some kd:=fun j x kd b hj=>by
  show(relabel scope env).names.lookup x=some kd;by_cases de:j<nt
  ·obtain⟨rfl,rfl,hl⟩:=ok.tv j x kd b de hj
   exact lookup_relabel_local hl
  ·obtain⟨i,_,hi,hk,hl⟩:=ok.cv j x kd b (by omega) hj
   have:=S.kind i x kd b hi;show List.lookup x (scope.names.map _)=_;rw[jl hl,this,S.fn];rcases hk with rfl|rfl<;>rfl
 have atC:∀(i:Nat) x kd b u,K.vars[i]?=some (x,kd,b)->(kd= .cell\/kd= .free)->scope.names.lookup x=some .free->At env m s.heap out hid x kd u->At (compEnvC scope (dQ env.cells scope.names []) C env) m' s'.heap (W++(D::out)) (C::D::(W++hid)) x kd u:=fun i x kd b u hi hk hl h=>by
  have hm:(x,NameKind.free)∈scope.names:=nQ hl;rcases hk with rfl|rfl
  ·obtain⟨c,q1,q2,q3,q4⟩:=h
   exact⟨c,A7 q1 hm,sub c q2,Fx c q2 q3,q4.keeps k.keep⟩
  ·obtain⟨c,q1,q2,q3,q4⟩:=h
   exact⟨c,A7 q1 hm,sub c q2,Fx c q2 q3,q4.keeps k.keep⟩
 refine {fn:=ok.kind,gl:=S.gl,bl:=S.bl,kind:=Uh,pt:=fun x hx=>?_,nodup:=ok.nodup,jc:=fun x y c h1 h2=>S.jc x y c (vt h1) (vt h2),live:=?_,oh:=?_,Lh:=by simp[compEnvC],Lo:=?_,ns:=ns,slot:=?_,apart:=?_,gb:=S.gb,kp:=S.kp.trans k,own:=?_}
 ·show List.lookup x (scope.names.map _)=_
  rw[jl (ok.glob x hx)];rfl
 ·intro a h
  rcases bp.mp h with rfl|h
  ·obtain⟨o,_,_,ho,_⟩:=ns;exact⟨o,ho⟩
  ·rcases bp.mp h with rfl|h
   ·exact lD
   ·exact(cr.mp h).elim (lW a) (S.live.kp k a)
 ·intro a h
  rcases(Hd a).mp h with q|rfl|q
  ·simp[q]
  ·simp
  ·simp[S.oh a q]
 ·show C∉_
  intro h;rcases(Hd C).mp h with q|q|q
  ·exact hCW q
  ·exact IW q
  ·exact hn C (S.oh C q) hC
 ·intro j x kd b hj
  by_cases de:j<nt
  ·obtain⟨rfl,rfl,hl⟩:=ok.tv j x kd b de hj
   exact⟨m' x,by simp[At],by simp[sk,de,qQ]⟩
  ·obtain⟨i,hc,hi,hk,hl⟩:=ok.cv j x kd b (by omega) hj
   obtain⟨ov,h1,h2⟩:=S.slot i x kd b hi;refine⟨ov,atC i x kd b ov hi hk hl h1,?_⟩;have hr:sk nt mY ρ j=ρ i:=by simp[sk,de,hc]
   rw[hr];exact h2.map (fun ø a ø q1 q2 q3=>⟨sub a q1,Fx a q1 q2,fun e=>hn a q1 (e▸hC),k.keep a⟩) (fun e=>Dn.grow (P:=P) e (fun a o ø q=>k.keep a o q) new) fun e=>aU.grow (P:=P) e (fun a o ø q=>k.keep a o q) new
 ·intro i j x y kd M1 a TD hi hj h1 h2
  by_cases de:i<nt
  ·obtain⟨_,q,_⟩:=ok.tv i x kd true de hi;cases q
  ·by_cases Ui:j<nt
   ·obtain⟨_,q,_⟩:=ok.tv j y M1 true Ui hj;cases q
   ·obtain⟨i',c1,v1,k1,l1⟩:=ok.cv i x kd true (by omega) hi
    obtain⟨j',c2,v2,k2,l2⟩:=ok.cv j y M1 true (by omega) hj;have e1:sk nt mY ρ i=ρ i':=by simp[sk,de,c1]
    have e2:sk nt mY ρ j=ρ j':=by simp[sk,Ui,c2]
    rw[e1,e2];obtain⟨ov,q1,_⟩:=S.slot i' x kd true v1;obtain⟨YI,q2,_⟩:=S.slot j' y M1 true v2;have f1:=At.fun (atC i' x kd true ov v1 k1 l1 q1) h1
    have f2:=At.fun (atC j' y M1 true YI v2 k2 l2 q2) h2
    subst f1;subst f2;refine S.apart i' j' x y kd M1 a (fun e=>?_) v1 v2 q1 q2;subst e;rw[v1]at v2;cases v2;exact TD (ok.nodup i j x kd true kd true hi hj)
 ·intro a h ho
  rcases bp.mp h with rfl|h
  ·cases e:B.heap.get? a with
   |none=>rfl
   |some o=>have:=S.kp.keep a o e;rw[hC]at this;cases this
  ·rcases bp.mp h with rfl|h
   ·exact absurd ((Hd a).mpr (.inr (.inl rfl))) ho
   ·rcases cr.mp h with q|q
    ·exact absurd ((Hd a).mpr (.inl q)) ho
    ·exact S.own a q fun z=>ho ((Hd a).mpr (.inr (.inr z)))
end
section
variable{P:Pk}{n:Nat}{K K':Cx}{lo:Bool}
theorem Kp.mv0{W:List Addr}{gi:Option Nat}{aW s s':Shared}(k:Kp aW s)(v:Mv0 W gi s s')(hW:∀a∈W,aW.heap.get? a=none)(hg:∀g,gi=some g->aW.gens.size<=g):Kp aW s':=
 ⟨fun b o h=>v.keep b o (fun z=>nomatch(hW b z).symm.trans h) (k.keep b o h),Fw v hg k.gens,v.os.trans k.os⟩
noncomputable def Fy(ifs:List Expr)(env:Env):Sem Bool:=forIn ifs true fun c r=>if r=true then do let ok <-isTrue c env (eval c env);pure (ForInStep.yield ok)else pure (ForInStep.yield r)
noncomputable def CE(P:Pk)(A:Around)(R:Result->Shared->Prop)(env:Env):Value->Shared->Prop:=notedBy (model P.prog P.w) A env fun e s'=>R (.error e) s'
noncomputable def CX(P:Pk)(A:Around)(R:Result->Shared->Prop)(elt:Expr)(acc:Value)(env:Env)(J:Shared->Prop)(ok:Bool)(s:Shared):Prop:=
 if ok=true then wpAny (model P.prog P.w) A (eval elt env) (fun x gQ=>wpAny (model P.prog P.w) A (call (.builtin "list.append") [acc,x]) (fun ø=>J) (CE P A R env) gQ) (CE P A R env) s else J s
noncomputable def CA(P:Pk)(A:Around)(R:Result->Shared->Prop)(elt target:Expr)(ifs:List Expr)(acc:Value)(env:Env)(J:Shared->Prop)(v:Value)(_:Unit)(s:Shared):Prop:=
 wpAny (model P.prog P.w) A (assign target env v) (fun ø=>wpAny (model P.prog P.w) A (Fy ifs env) (CX P A R elt acc env J) (CE P A R env)) (CE P A R env) s
noncomputable def CT(P:Pk)(A:Around)(R:Result->Shared->Prop)(elt target:Expr)(ifs:List Expr)(acc:Value)(env:Env)(J:Shared->Prop)(it:Value)(r:Option Value)(s:Shared):Prop:=
 r.elim (R (.ok .next) s) fun v=>wpAny (model P.prog P.w) A (letOwnedTupleGo target it v) (CA P A R elt target ifs acc env J v) (CE P A R env) s
theorem oW{A:Around}{R:Result->Shared->Prop}{s:Shared}{elt target iter:Expr}{ifs:List Expr}{scope:Scope}{pos:Pos}{it acc:Value}{env:Env}(I:Nat->Shared->Prop)
  (turn:∀n s,I n s->wpAny (model P.prog P.w) A (pyNext it) (CT P A R elt target ifs acc env (fun s=>∃m,m<n/\I m s) it) (CE P A R env) s)
  (n:Nat) (h:I n s):codeAny (model P.prog P.w) A (.compLoop (.ListComp elt [⟨target,iter,ifs,0⟩] scope pos) 0 it acc env) R s:=by
 refine codeAny_loop rfl I (fun n s hI=>?_) n h;show wpAny _ A ((compTurn (.ListComp elt [⟨target,iter,ifs,0⟩] scope pos) 0 it acc env).onRaise (fun x=>do noteFrame x env;theTreesLotGoes x)) _ _ s;refine wpAny_noted ?_;rw[compTurn_list];refine ar (qJ (ar (au (turn n s hI) (fun r s₁ ag=>?_) fun ø ø h'=>h')))
 cases r with
 |none=>exact bd ag
 |some v=>
  refine ar (au ag (fun ø af3 Uj=>?_) fun ø ø h'=>h');refine ar (au Uj (fun ø s₂ aH=>ar (au aH (fun ok cB eh=>?_) fun ø ø h'=>h')) fun ø ø h'=>h')
  cases ok with
  |false=>exact bd ⟨rfl,eh⟩
  |true=>
   exact ar (ar (au eh (fun x gQ A3=>ar (au A3 (fun ø nR vu=>bd (bd ⟨rfl,vu⟩)) fun ø ø h'=>h')) fun ø ø h'=>h'))
theorem At.Pz{env m}{h h':Heap}{out out' hid ao:List Addr}{x k u}(a:At env m h' out' ao x k u){v}(b:At env m h out hid x k v)(hk:∀c v,h.IsCell c v->h'.IsCell c v):u=v:=by
 cases k<;>simp only[At]at a b
 ·exact a.symm.trans b
 all_goals first
  |exact a.elim
  |(obtain⟨c,h1,_,_,h2⟩:=a;obtain⟨c',IT,_,_,M8⟩:=b;rw[h1]at IT;cases IT;exact IsCell.fun h2 (hk _ _ M8))
noncomputable def A8(P:Pk)(n:Nat)(K:Cx)(ifs:List Expr)(f:al->Option Bool):Prop:=
 ∀(A:Around) (env:Env) (out hid:List Addr) (m:Str->Option Value) (B s:Shared) (ρ:al) (b:Bool) (E:Value->Shared->Prop),bW n A->aB P K env out hid m B s ρ->f ρ=some b->
  wpAny (model P.prog P.w) A (Fy ifs env) (fun c s'=>Kp s s'/\c=b) E s
theorem bY:A8 P n K [] fun ø=>some true:=fun A env out hid m B s ρ b E r S hf=>by
 cases hf;exact bd ⟨.refl s,rfl⟩
theorem qb{c:Expr}{f}(h:AT P n K c f):A8 P n K [c] f:=fun A env out hid m B s ρ b E r S hf=>wpAny_tests_one (h A env out hid m B s ρ b E r S hf)
noncomputable def nS(asg:al->V->Option al)(tf:al->Option Bool)(ef:al->Option V):List V->al->Option (List V)
 |[],_=>some []
 |x::xs,ρ=>(asg ρ x).bind fun am=>(tf am).bind fun ok=>if ok then(ef am).bind fun y=>(nS asg tf ef xs am).map (y:: ·)else nS asg tf ef xs am
theorem Jf(asg:al->V->Option al)(tf:al->Option Bool)(ef:al->Option V)(x:V)(xs:List V)(ρ:al):nS asg tf ef (x::xs) ρ=(asg ρ x).bind fun am=>(tf am).bind fun ok=>if ok then(ef am).bind fun y=>(nS asg tf ef xs am).map (y:: ·)else nS asg tf ef xs am:=rfl
noncomputable def fj(it:al->Option (List V))(asg:al->V->Option al)(tf:al->Option Bool)(ef:al->Option V)(nt:Nat)(mY:List Nat):al->Option V:=fun ρ=>
 (it ρ).bind fun xs=>if xs.length<most then(nS asg tf ef xs (sk nt mY ρ)).map .list else none
inductive D5(P:Pk)(K':Cx)(ce:Env)(out hid:List Addr)(B s:Shared)(C D:Addr)(W:List Addr)(St:List Addr->Nat->Shared->Prop)(i:Nat)(ρ:al)(l:List V)(s':Shared):Prop
 |mk (ao:List Addr) (m':Str->Option Value) (vs:List Value) (S:aB P K' ce (W++(D::out)) ao m' B s' ρ) (p:s'.heap.PlainList D vs.toArray) (d:aU P s'.heap ao l vs) (st:St ao i s') (kp:Kp s s') (sub:∀a∈C::D::(W++hid),a∈ao)
structure vw(P:Pk)(K':Cx)(A:Around)(ce:Env)(B s:Shared)(xs:List V)(I C D:Addr)(W:List Addr)(gi:Option Nat)(St:List Addr->Nat->Shared->Prop):Prop where
 hI:uB P A I W gi xs St
 hW:∀a∈W,s.heap.get? a=none
 hg:∀g,gi=some g->s.gens.size<=g
 hB:∀a,s.heap.get? a=none->B.heap.get? a=none
 He:∀g,gi=some g->B.gens.size<=g
 sC:s.heap.get? C=none
 sD:s.heap.get? D=none
 CD:C≠D
 WC:C∉W
 WD:D∉W
 lc:ce.locals=C
section
variable{A:Around}{ce:Env}{out hid:List Addr}{B s s' ie:Shared}{xs:List V}{I C D:Addr}{W:List Addr}{gi:Option Nat}{St:List Addr->Nat->Shared->Prop}{i:Nat}{ρ aY:al}{l:List V}
theorem D5.kp(c:vw P K' A ce B s xs I C D W gi St)(h:D5 P K' ce out hid B s C D W St i ρ l s')(k:Kp s' ie):D5 P K' ce out hid B s C D W St i ρ l ie:=by
 obtain⟨ao,m',vs,S,p,d,st,kp,sub⟩:=h;exact⟨ao,m',vs,S.after k,p.at fun o e=>k.keep D o e,aU.kp d k,c.hI.frame ao ao i s' ie (fun a h=>sub a (.tail _ (.tail _ (bj _ h)))) st (.gV k),kp.trans k,sub⟩
theorem D5.assign(c:vw P K' A ce B s xs I C D W gi St){ao gj:List Addr}{m₂:Str->Option Value}{vs:List Value}(p:s'.heap.PlainList D vs.toArray)(d:aU P s'.heap ao l vs)(st:St ao i s')(kp:Kp s s')(sub:∀a∈C::D::(W++hid),a∈ao)
  (cC:aB P K' ce (W++(D::out)) gj m₂ B ie aY) (qc:Ks (W++(D::out)) ao gj s' ie) (QQ:∀b o,b≠ce.locals->s'.heap.get? b=some o->ie.heap.get? b=some o):D5 P K' ce out hid B s C D W St i aY l ie:=
 have kC:∀b o,b≠C->s'.heap.get? b=some o->ie.heap.get? b=some o:=fun b o h=>QQ b o (c.lc▸h)
 ⟨gj,m₂,vs,cC,p.at fun o e=>kC D o (dW c.CD) e,aU.ks d qc,c.hI.frame ao gj i s' ie (fun a h=>sub a (.tail _ (.tail _ (bj _ h)))) st (qc.only fun a h=>bj _ h),
  ⟨fun b o h=>kC b o (fun z=>nomatch(z▸c.sC).symm.trans h) (kp.keep b o h),kp.gens.trans qc.gens,qc.os.trans kp.os⟩,fun a h=>qc.sub a (sub a h)⟩
theorem D5.app(c:vw P K' A ce B s xs I C D W gi St){ao:List Addr}{m':Str->Option Value}{vs:List Value}{h':Heap}{y:V}{u:Value}(S:aB P K' ce (W++(D::out)) ao m' B s' ρ)(d:aU P s'.heap ao l vs)(st:St ao i s')(kp:Kp s s')(sub:∀a∈C::D::(W++hid),a∈ao)
  (k:Kp s' ie) (hu:Dn P ie.heap ao y u) (hp:h'.PlainList D (vs++[u]).toArray) (uz:Heap.SameBut D ie.heap h'):D5 P K' ce out hid B s C D W St i ρ (l++[y]) {ie with heap:=h'}:=by
 have kD:∀b o,b≠D->ie.heap.get? b=some o->h'.get? b=some o:=fun b o hb e=>(uz.2 b hb).trans e
 have hD:D∈ao:=sub D (.tail _ (.head _));have vr:∀a∈W,a∈ao:=fun a h=>sub a (.tail _ (.tail _ (bj _ h)))
 have one:∀a∈[D],a=D:=fun a h=>cN.mp h
 have mv:Mv [D] none ie {ie with heap:=h'}:=⟨⟨fun b o hb e=>kD b o (fun z=>hb (z▸ .head _)) e,fun j x ø h=>h,id,rfl⟩,fun a ha=>by
  rw[one a ha];exact hp.elim fun k e=>⟨_,e⟩⟩
 exact⟨ao,m',vs++[u],(S.after k).step (W:=[D]) (fun a h=>bw _ (one a h▸ .head _)) mv (fun a h=>one a h▸c.hB D c.sD) (fun g q=>nomatch q),hp,(aU.but (aU.kp d k) hD uz).app (.one (Dn.but hu hD uz)),
  c.hI.frame ao ao i s' _ vr st ⟨fun b o hb e=>kD b o (fun z=>hb.elim (fun w=>w (z▸hD)) (z▸c.WD)) (k.keep b o e),fun a h=>.inl h,fun a h=>h,k.gens,k.os⟩,
  ⟨fun b o h=>kD b o (fun z=>nomatch(z▸c.sD).symm.trans h) ((kp.trans k).keep b o h),(kp.trans k).gens,(kp.trans k).os⟩,sub⟩
end
inductive CompI(P:Pk)(K':Cx)(ce:Env)(out hid:List Addr)(B s:Shared)(xs l:List V)(asg:al->V->Option al)(tf:al->Option Bool)(ef:al->Option V)(C D:Addr)(W:List Addr)(St:List Addr->Nat->Shared->Prop)(k:Nat)(s':Shared):Prop
 |mk (i:Nat) (am:al) (l₁ rest:List V) (e:k+i=xs.length) (le:l₁.length<=i) (S:D5 P K' ce out hid B s C D W St i am l₁ s') (c:nS asg tf ef (xs.drop i) am=some rest) (el:l=l₁++rest):CompI P K' ce out hid B s xs l asg tf ef C D W St k s'
theorem Hf{elt:Expr}{ef}(he:eM P n K' false elt ef){A:Around}{ce:Env}{out hid:List Addr}{B s s':Shared}{xs l:List V}{I C D:Addr}{W:List Addr}{gi:Option Nat}{St:List Addr->Nat->Shared->Prop}{R:Result->Shared->Prop}{i:Nat}{ρ:al}{J:Shared->Prop}{ok:Bool}
  (rm:bW n A) (hl:l.length<most) (c:vw P K' A ce B s xs I C D W gi St) (h:D5 P K' ce out hid B s C D W St i ρ l s') (hJ:(ok=false->J s')/\(ok=true->∃y,ef ρ=some y/\∀A9,D5 P K' ce out hid B s C D W St i ρ (l++[y]) A9->J A9)):
  CX P A R elt (.ref D) ce J ok s':=by
 cases ok with
 |false=>exact hJ.1 rfl
 |true=>
  obtain⟨y,hy,hJ⟩:=hJ.2 rfl;obtain⟨ao,m',vs,S,p,d,st,kp,sub⟩:=h;refine au (he A ce (W++(D::out)) ao m' B s' ρ y _ rm S hy) (fun u nR vu=>?_) fun ø ø q=>q
  obtain⟨Uk,hu⟩:=vu;refine Dm (p.at fun o e=>Uk.keep D o e) (fun h' jN uz=>hJ _ (D5.app c S d st kp sub Uk hu (List.push_toArray vs u▸jN) uz)) ?_;have:=d.length;have hm:=cZ;rw[bM,this];omega
theorem Hg{elt target:Expr}{ifs:List Expr}{asg tf ef}(ha:ze P K' true target asg)(ht:A8 P n K' ifs tf)(he:eM P n K' false elt ef){A:Around}{ce:Env}{out hid:List Addr}{B s s':Shared}{xs l:List V}{I C D:Addr}{W:List Addr}{gi:Option Nat}{St:List Addr->Nat->Shared->Prop}{R:Result->Shared->Prop}{i:Nat}{ρ aY:al}{J:Shared->Prop}{ok:Bool}{x:V}
  (rm:bW n A) (c:vw P K' A ce B s xs I C D W gi St) (hx:xs[i]?=some x) (h:D5 P K' ce out hid B s C D W St i ρ l s') (h1:asg ρ x=some aY) (h2:tf aY=some ok) (hl:l.length<most)
  (hJ:∀cB,D5 P K' ce out hid B s C D W St (i+1) aY l cB->(ok=false->J cB)/\(ok=true->∃y,ef aY=some y/\∀A9,D5 P K' ce out hid B s C D W St (i+1) aY (l++[y]) A9->J A9)):
  wpAny (model P.prog P.w) A (pyNext (.ref I)) (CT P A R elt target ifs (.ref D) ce J (.ref I)) (CE P A R ce) s':=by
 obtain⟨ao,m',vs,S',p,d,Jg,kps,sub⟩:=h;have vr:∀a∈W,a∈ao:=fun a h=>sub a (.tail _ (.tail _ (bj _ h)))
 refine au (c.hI.item ao i s' x _ hx vr S'.G S'.live Jg) (fun r s₁ ag=>?_) fun ø ø q=>q
 obtain⟨v,rfl,hv,st₁,hq,mv⟩:=ag;have d₁:aU P s₁.heap ao l vs:=aU.grow d (fun a o ha e=>mv.keep a o (fun z=>ha (vr a z)) e) fun a h=>.inl h
 refine vp hq (au (ha A ce (W++(D::out)) ao m' B s₁ ρ aY x v _ rm.handled (S'.step (fun a h=>bj _ h) mv (fun a h=>c.hB a (c.hW a h)) c.He) h1 hv) (fun ø s₂ aH=>?_) fun ø ø q=>q);obtain⟨gj,m₂,cC,qc,QQ⟩:=aH;have Ul:=D5.assign c (p.at fun o e=>mv.keep D o c.WD e) d₁ st₁ (kps.mv0 mv.toMv0 c.hW c.hg) sub cC qc (QQ rfl);refine au (ht A ce (W++(D::out)) gj m₂ B s₂ aY ok _ rm cC h2) (fun Xf cB eh=>?_) fun ø ø q=>q
 obtain⟨Ba,rfl⟩:=eh;exact Hf he rm hl c (Ul.kp c Ba) (hJ _ (Ul.kp c Ba))
theorem Hh{elt target:Expr}{ifs:List Expr}{asg tf ef}(ha:ze P K' true target asg)(ht:A8 P n K' ifs tf)(he:eM P n K' false elt ef){A:Around}{ce:Env}{out hid:List Addr}{B s s':Shared}{xs l:List V}{I C D:Addr}{W:List Addr}{gi:Option Nat}{St:List Addr->Nat->Shared->Prop}{R:Result->Shared->Prop}{k:Nat}
  (rm:bW n A) (hl:xs.length<most) (c:vw P K' A ce B s xs I C D W gi St)
  (fin:∀s₁ m₁ (vs:List Value),Kp s s₁->s₁.heap.PlainList D vs.toArray->aU P s₁.heap (C::D::hid) l vs->s₁.heap.Ns C m₁->R (.ok .next) s₁)
  (h:CompI P K' ce out hid B s xs l asg tf ef C D W St k s'):wpAny (model P.prog P.w) A (pyNext (.ref I)) (CT P A R elt target ifs (.ref D) ce (fun t=>∃m,m<k/\CompI P K' ce out hid B s xs l asg tf ef C D W St m t) (.ref I)) (CE P A R ce) s':=by
 obtain⟨i,am,l₁,rest,e,le,S,hc,el⟩:=h;by_cases de:i<xs.length
 ·rw[pk de]at hc
  refine ah hc fun fk h1 hc=>ah hc fun okb h2 hc=>?_
  obtain⟨j,hj⟩:=yO de;have hk:k=j+1:=by omega
  have Hi:j+(i+1)=xs.length:=by omega
  refine Hg ha ht he rm c (dX de) S h1 h2 (gS (aA le (eY de)) hl) fun cB kX=>⟨fun z=>?_,fun z=>?_⟩
  ·exact⟨j,hk▸m3 j,i+1,fk,l₁,rest,Hi,i9 le,kX,(az (z▸nofun)).symm.trans hc,el⟩
  ·refine ah ((aw z).symm.trans hc) fun y hy hc=>bV hc fun r hr er=>⟨y,hy,fun A9 QR=>⟨j,hk▸m3 j,i+1,fk,l₁++[y],r,Hi,?_,QR,hr,?_⟩⟩
   ·rw[List.length_append];exact nf le 1
   ·rw[el,<-er,List.append_assoc];rfl
 ·have hie:i=xs.length:=by omega
  rw[uZ (yL de)]at hc;have er:=Option.some.inj hc;obtain⟨ao,m',vs,S',p,d,st,kp,sub⟩:=S;have vr:∀a∈W,a∈ao:=fun a h=>sub a (.tail _ (.tail _ (bj _ h)))
  refine au (c.hI.done ao s' _ vr S'.G S'.live (hie▸st)) (fun r s₁ ag=>?_) fun ø ø q=>q
  obtain⟨rfl,mv⟩:=ag;have dl:aU P s₁.heap ao l vs:=by
   rw[el,<-er,gn];exact aU.grow d (fun a o ha e=>mv.keep a o (fun z=>ha (vr a z)) e) fun a h=>.inl h
  obtain⟨o,es,ep,ho,hr⟩:=S'.ns;rw[c.lc]at ho;exact fin s₁ m' vs (kp.mv0 mv c.hW c.hg) (p.at fun o e=>mv.keep D o c.WD e) (dl.less fun a h=>sub a ((bp.mp h).elim (fun e=>e▸ .head _) fun h=>.tail _ ((bp.mp h).elim (fun e=>e▸ .head _) fun h=>.tail _ (bw _ h)))) ⟨o,es,ep,mv.keep C o c.WC ho,hr⟩
theorem D6{elt target iter:Expr}{ifs:List Expr}{scope:Scope}{pos:Pos}{asg tf ef}{nt:Nat}{mY:List Nat}(ok:x4 K K' nt mY scope)(ha:ze P K' true target asg)(ht:A8 P n K' ifs tf)(he:eM P n K' false elt ef){A:Around}{env:Env}{out hid:List Addr}{m Hj}
  {B s s₂ gQ:Shared} {ρ:al} {xs l:List V} {C D:Addr} {it:Value} {R:Result->Shared->Prop} (rm:bW n A) (S:aB P K env out hid m B s ρ) (hl:xs.length<most) (hc:nS asg tf ef xs (sk nt mY ρ)=some l) (h:TL P A hid xs s s₂ it)
  (k4:Kp s₂ gQ) (D0:s₂.heap.get? D=none) (C0:s₂.heap.get? C=none) (IW:C≠D) (lst:gQ.heap.PlainList D ([]:List Value).toArray) (ns:gQ.heap.Ns C Hj)
  (fin:∀s₁ m₁ (vs:List Value),s.heap.get? D=none->s.heap.get? C=none->Kp s s₁->s₁.heap.PlainList D vs.toArray->aU P s₁.heap (C::D::hid) l vs->s₁.heap.Ns C m₁->R (.ok .next) s₁):
  codeAny (model P.prog P.w) A (.compStart (.ListComp elt [⟨target,iter,ifs,0⟩] scope pos) 0 it (.ref D) (compEnvC scope (dQ env.cells scope.names []) C env)) R gQ:=by
 obtain⟨I,W,gi,St,rfl,kp,hI,hW,lW,hg,st⟩:=h;have fresh:∀a,s₂.heap.get? a=none->s.heap.get? a=none:=fun a h=>by
  cases e:s.heap.get? a with
  |none=>rfl
  |some o=>exact nomatch(kp.keep a o e).symm.trans h
 have WC:C∉W:=fun h=>(lW C h).elim fun o e=>nomatch C0.symm.trans e
 have WD:D∉W:=fun h=>(lW D h).elim fun o e=>nomatch D0.symm.trans e
 have He:∀g,gi=some g->B.gens.size<=g:=fun g e=>aA S.kp.gens.size (hg g e)
 have c:vw P K' A (compEnvC scope (dQ env.cells scope.names []) C env) B s xs I C D W gi St:=⟨hI,hW,hg,fun a h=>S.fresh h,He,fresh C C0,fresh D D0,IW,WC,WD,rfl⟩;have jP:=S.comp ok (C:=C) (D:=D) (W:=W) (kp.trans k4) hW c.sC c.sD IW WC (lW.kp k4) (lst.elim fun k q=>⟨_,q⟩) ns;have PA:St (C::D::(W++hid)) 0 gQ:=hI.frame (W++hid) (C::D::(W++hid)) 0 s₂ gQ (fun a h=>bj _ h) st ⟨fun b o ø e=>k4.keep b o e,fun a h=>(bp.mp h).elim (fun e=>.inr (e▸C0)) fun h=>(bp.mp h).elim (fun e=>.inr (e▸D0)) .inl,fun a h=>.tail _ (.tail _ h),k4.gens,k4.os⟩;have main:=oW (iter:=iter) (scope:=scope) (pos:=pos) (fun k s'=>CompI P K' (compEnvC scope (dQ env.cells scope.names []) C env) out hid B s xs l asg tf ef C D W St k s') (fun k s' h=>Hh ha ht he rm hl c (fun s₁ m₁ vs=>fin s₁ m₁ vs c.sD c.sC) h) xs.length
  ⟨0,sk nt mY ρ,[],l,rfl,dU _,⟨C::D::(W++hid),_,[],jP,lst,aV.nil,PA,kp.trans k4,fun ø h=>h⟩,hc,rfl⟩
 exact codeAny_compStart_list main (hI.self _ 0 gQ _ _ PA main)
theorem Jh{α:Type}{asg:al->V->Option al}{tf:al->Option Bool}{ef:al->Option V}(I:al->Prop)(toV:α->V)(p:α->Bool)(h:α->V):∀(us:List α) (ρ:al),(∀x∈us,∀ρ,I ρ->∃am,asg ρ (toV x)=some am/\I am/\tf am=some (p x)/\(p x=true->ef am=some (h x)))->I ρ->nS asg tf ef (us.map toV) ρ=some ((us.filter p).map h):=by
 intro us
 induction us with
 |nil=>exact fun ø ø ø=>rfl
 |cons x xs ih=>
  intro ρ hs hI;obtain⟨am,h1,h2,h3,h4⟩:=hs x (.head _) ρ hI;have ih:=ih am (fun y hy=>hs y (.tail _ hy)) h2;rw[bn,Jf,h1,List.filter_cons];show((tf am).bind fun ok=>if ok then(ef am).bind fun y=>(nS asg tf ef (xs.map toV) am).map (y:: ·)else nS asg tf ef (xs.map toV) am)=_;rw[h3,ih];show(if p x=true then(ef am).bind fun y=>(some _).map (y:: ·)else some _)=_;by_cases hp:p x=true
  ·rw[aw hp,aw hp,h4 hp];rfl
  ·rw[az hp,az hp]
theorem qW{α:Type}{it:al->Option (List V)}{asg:al->V->Option al}{tf:al->Option Bool}{ef:al->Option V}{nt:Nat}{mY:List Nat}{ρ:al}(I:al->Prop)(us:List α)(toV:α->V)(p:α->Bool)(h:α->V)(hi:it ρ=some (us.map toV))(hm:us.length<most)
  (hs:∀x∈us,∀ρ,I ρ->∃am,asg ρ (toV x)=some am/\I am/\tf am=some (p x)/\(p x=true->ef am=some (h x))) (hI:I (sk nt mY ρ)):fj it asg tf ef nt mY ρ=some (.list ((us.filter p).map h)):=by
 unfold fj;rw[hi];show(if(us.map toV).length<most then _ else none)=_;rw[bi,aw hm,Jh I toV p h us _ hs hI];rfl
theorem db{α:Type}{it:al->Option (List V)}{asg:al->V->Option al}{ef:al->Option V}{nt:Nat}{mY:List Nat}{ρ:al}(I:al->Prop)(us:List α)(toV:α->V)(h:α->V)(hi:it ρ=some (us.map toV))(hm:us.length<most)
  (hs:∀x∈us,∀ρ,I ρ->∃am,asg ρ (toV x)=some am/\I am/\ef am=some (h x)) (hI:I (sk nt mY ρ)):fj it asg (fun ø=>some true) ef nt mY ρ=some (.list (us.map h)):=
 (qW (tf:=fun ø=>some true) I us toV (fun ø=>true) h hi hm (fun x hx ρ hI=>by
  obtain⟨am,h1,h2,h3⟩:=hs x hx ρ hI;exact⟨am,h1,h2,rfl,fun ø=>h3⟩) hI).trans (by rw[List.filter_eq_self.mpr fun ø ø=>rfl])
theorem Nr{s:Shared}{o ns:Obj}{ag:Heap}{t:Nat}(ho:o.isFreed=false)(uz:Heap.SameBut (s.heap.push o).objs.size ((s.heap.push o).push ns) ag){Q:Prop}
  (h:Kp s {s with heap:=ag,toks:=t}->s.heap.get? s.heap.objs.size=none->s.heap.get? (s.heap.push o).objs.size=none->(s.heap.push o).objs.size≠s.heap.objs.size->ag.get? s.heap.objs.size=some o->Q):Q:=by
 have e:(s.heap.push o).objs.size=s.heap.objs.size+1:=qK ..;have bN:(s.heap.push o).objs.size≠s.heap.objs.size:=e▸pQ _;have C0:s.heap.get? (s.heap.push o).objs.size=none:=by
  cases q:s.heap.get? (s.heap.push o).objs.size with
  |none=>rfl
  |some o=>exact absurd (f5 q) (e▸kM.mpr (i8 _))
 exact h (.heap fun b o' q=>uz.extBut b o' (fun z=>nomatch(z▸C0).symm.trans q) (bK _ (bK _ q))) (aP _) C0 bN (uz.extBut _ _ bN.symm (bK _ (bD _ ho)))
theorem QS{γ:Type}{c:Prop}[Decidable c]{a:Option γ}{z:γ}{G:Prop}(h:(if c then a else none)=some z)(k:c->a=some z->G):G:=by
 by_cases q:c
 ·exact k q ((aw q).symm.trans h)
 ·exact nomatch(az q).symm.trans h
theorem Bb{elt target iter:Expr}{ifs:List Expr}{scope:Scope}{pos:Pos}{it asg tf ef}{nt:Nat}{mY:List Nat}(hi:QO P n K iter it)(ok:x4 K K' nt mY scope)(ha:ze P K' true target asg)(ht:A8 P n K' ifs tf)(he:eM P n K' false elt ef)
  (hs:∀env x,foldedSetIterable iter env x=pure x) {A:Around} {env:Env} {out hid:List Addr} {m} {B s:Shared} {ρ:al} {x:V} (E:Value->Shared->Prop) (rm:bW n A) (S:aB P K env out hid m B s ρ) (hf:fj it asg tf ef nt mY ρ=some x) {ps:Pos}
  {use:Option (Value->Sem Unit)} {Q:Value->Shared->Prop}
  (Nt:∀D C s₁ m₁ l (vs:List Value),x= .list l->s.heap.get? D=none->s.heap.get? C=none->C≠D->Kp s s₁->s₁.heap.PlainList D vs.toArray->aU P s₁.heap (C::D::hid) l vs->s₁.heap.Ns C m₁->compPost (model P.prog P.w) A E use Q (.ref D) C (.ok .next) s₁):
  wpAny (model P.prog P.w) A (comprehension (.ListComp elt [⟨target,iter,ifs,0⟩] scope pos) scope env ps (newList []) false (eval iter env) use) Q E s:=by
 refine ah hf fun xs xv gg=>?_
 refine QS gg fun hlen hq=>bV hq fun l hl e=>?_
 have kU:∀y∈scope.names,y.2= .free->∃c,env.cells.lookup y.1=some c:=fun y hy h=>by
  obtain⟨i,k,b,hv,hk⟩:=ok.free y hy h;obtain⟨ov,h1,_⟩:=S.slot i y.1 k b hv;rcases hk with rfl|rfl<;>simp only[At]at h1<;>exact⟨_,h1.choose_spec.1⟩
 refine wpAny_comprehension_free (g:=⟨target,iter,ifs,0⟩) (gs:=[]) rfl (hs env) (xy kU) ok.kind ok.names ?_;refine au (hi A env out hid m B s ρ xs E rm S xv) (fun v s₁ ag=>au ag (fun it' s₂ aH=>?_) fun ø ø q=>q) fun ø ø q=>q
 refine pR (wpAny_newFunctionEnv ok.ncell (by intro y hy;simp at hy) (fun ag QT QU=>?_) ok.kind);exact Nr rfl QU fun k4 D0 C0 IW lst=>D6 ok ha ht he rm S hlen hl aH k4 D0 C0 IW ⟨0,lst⟩ QT fun s₁ m₁ vs sD sC kp p d ns=>Nt _ _ s₁ m₁ l vs e.symm sD sC IW kp p d ns
theorem dj{elt target iter:Expr}{ifs:List Expr}{scope:Scope}{pos:Pos}{it asg tf ef}{nt:Nat}{mY:List Nat}(hi:QO P n K iter it)(ok:x4 K K' nt mY scope)(ha:ze P K' true target asg)(ht:A8 P n K' ifs tf)(he:eM P n K' false elt ef)
  (hs:∀env x,foldedSetIterable iter env x=pure x):M2 P n K (.ListComp elt [⟨target,iter,ifs,0⟩] scope pos) (fj it asg tf ef nt mY):=fun A env out hid m B s ρ x E rm S hf=>by
 rw[eval_ListComp];refine Bb (use:=none) hi ok ha ht he hs E rm S hf fun D C s₁ m₁ l vs hx sD sC IW kp so hd vn=>⟨m₁,vn,fun h' uz=>⟨⟨fun b o q=>(uz.2 b fun z=>by rw[z,sC]at q;cases q).trans (kp.keep b o q),kp.gens,kp.os⟩,?_⟩⟩
 subst hx;exact⟨D,vs,rfl,sD,so.at fun o e=>(uz.2 D (dW IW)).trans e,(aU.grow (P:=P) hd (fun a o ha e=>(uz.2 a fun z=>ha (by simp[z])).trans e) fun a h=>.inl h).less fun a h=>by simp at h ⊢;exact .inr h⟩
theorem D7{elt:Expr}{gens:List Comprehension}{scope:Scope}{pos p:Pos}{line:Nat}{x:Str}{env:Env}(hk:env.scope.kind= .function)(hl:env.kindOf x=some .local)(hp:(p.line==pos.line)=true)
  (hn:(scope.names.any fun y=>y.1==x&&(y.2== .local||y.2== .cell))=false):swapsWith (.ListComp elt gens scope pos) (some (.Name x p)) line env=pure true:=by
 unfold swapsWith;have hb:env.blockKind= .function:=by unfold Env.blockKind;simp[hk,ScopeKind.isAnnotationScope]
 have e:(env.blockKind== .function&&env.kindOf x==some .local&&p.line==(Expr.ListComp elt gens scope pos).pos.line&&!(scope.names.any fun y=>y.1==x&&(y.2== .local||y.2== .cell)))=true:=by
  have Nu:(p.line==(Expr.ListComp elt gens scope pos).pos.line)=true:=hp;rw[hb,hl,hn,Nu];rfl
 show(pure _:Sem Bool)=pure true;exact congrArg _ e
theorem D8{elt:Expr}{gens:List Comprehension}{scope:Scope}{pos p:Pos}{line:Nat}{x:Str}{env:Env}{k:NameKind}(hl:env.kindOf x=some k)(hk:k≠ .local):swapsWith (.ListComp elt gens scope pos) (some (.Name x p)) line env=pure false:=by
 unfold swapsWith;have e:(env.blockKind== .function&&env.kindOf x==some .local&&p.line==(Expr.ListComp elt gens scope pos).pos.line&&!(scope.names.any fun y=>y.1==x&&(y.2== .local||y.2== .cell)))=false:=by
  have:(env.kindOf x==some NameKind.local)=false:=by
   rw[hl];cases k<;>first|exact absurd rfl hk|rfl
  rw[this];simp
 show(pure _:Sem Bool)=pure false;exact congrArg _ e
theorem aB.sq{env:Env}{out hid:List Addr}{m}{B s:Shared}{ρ}(S:aB P K env out hid m B s ρ){a c:Addr}(h:a∈hid)(hc:s.heap.get? c=none):a≠c:=fun e=>(S.live a h).elim fun o q=>nomatch(e▸q).symm.trans hc
theorem aB.Ji{env:Env}{out hid out' ao:List Addr}{m}{B s s₁:Shared}{ρ}(S:aB P K env out hid m B s ρ)(k:Kp s s₁){D:Addr}(hD:s.heap.get? D=none)(j:Nat)(x' k' a)(hj:K.vars[j]?=some (x',k',true))(e:Value.ref D= .ref a)(oU:At env m s₁.heap out' ao x' k' (some (.ref a))):ρ j=none:=by
 obtain⟨ov,q1,q2⟩:=S.slot j x' k' true hj;rw[<-At.Pz oU q1 fun c v z=>z.keeps k.keep]at q2
 induction er:ρ j with
 |none=>rfl
 |some z=>
  rw[er]at q2;obtain⟨u,e',q2⟩:=q2;obtain⟨a'',e'',z1,_⟩:=fc.addr (P:=P) q2;exact absurd (Value.ref.inj (e.trans ((Option.some.inj e').trans e''))) (S.sq z1 hD).symm
theorem Bc{env:Env}{out hid:List Addr}{m}{B s s₁:Shared}{ρ}(S:aB P K env out hid m B s ρ){i:Nat}{x:Str}{b:Bool}(Um:K.vars[i]?=some (x,.local,b)){C:Addr}{m₁}{y:V}{v:Value}{A:Around}{E:Value->Shared->Prop}{p:Pos}(kp:Kp s s₁)(sC:s.heap.get? C=none)(vn:s₁.heap.Ns C m₁){X:List Addr}(hX:∀a∈X,s.heap.get? a=none)(lX:cx s₁.heap X)
  (hv:if b then fc P env.locals s₁.heap ([C]++out) ([C]++(X++hid)) y v else Dn P s₁.heap ([C]++(X++hid)) y v)
  (oV:b=true->∀(j:Nat) x' k' a,j≠i->K.vars[j]?=some (x',k',true)->v= .ref a->At env m s₁.heap ([C]++out) ([C]++(X++hid)) x' k' (some (.ref a))->ρ j=none):
  wpAny (model P.prog P.w) A (assign (.Name x p) env v) (fun ø ie=>∃m,ie.heap.Ns C m/\∀h',Heap.SameBut C ie.heap h'->I7 P K env out hid B s {ie with heap:=h'} (upd ρ i y) .next .next) E s₁:=by
 have one:∀a∈[C],a=C:=fun a h=>cN.mp h
 obtain⟨o,es,ep,ho,hr⟩:=vn;have Y3:=S.Jb (W:=[C]) (X:=X) kp (fun a h=>one a h▸sC) (fun a h=>⟨o,one a h▸ho⟩) hX lX;refine nk (Y3.store Um hv oV (by decide) fun m' ie S' gh ø=>⟨m₁,⟨o,es,ep,gh.keep C o (.inr (.head _)) ho,hr⟩,fun h' uz=>?_⟩);have hk:∀b o,b≠C->ie.heap.get? b=some o->h'.get? b=some o:=fun b o hb q=>(uz.2 b hb).trans q
 have YV:=S'.last (s':={ie with heap:=h'}) (gi:=none) ⟨fun b o hb q=>hk b o (fun z=>hb (z▸ .head _)) q,fun j y ø h=>h,id,rfl⟩ (fun a h=>one a h▸S.fresh sC) (fun g q=>nomatch q) fun a h q=>S.sq (S.oh a h) sC (one a q)
 refine⟨_,m',YV,⟨fun b o hb q=>?_,fun a h=>?_,fun a h=>?_,kp.gens.trans gh.gens,gh.os.trans kp.os⟩,rfl⟩
 ·have hbC:b≠C:=fun e=>nomatch(e▸q).symm.trans sC
  exact hk b o hbC (gh.keep b o (hb.imp (fun hn hm=>(bp.mp hm).elim hbC fun z=>(cr.mp (show b∈X++hid from z)).elim (fun z=>nomatch(hX b z).symm.trans q) hn) (.tail _)) (kp.keep b o q))
 ·obtain⟨h1,h2⟩:=kL.mp h
  refine(bp.mp h1).elim (fun z=>?_) fun z=>(cr.mp (show a∈X++hid from z)).elim (fun w=>.inr (hX a w)) .inl
  rw[z,Du,pO]at h2;cases h2
 ·refine kL.mpr ⟨.tail _ (bw X h),?_⟩
  rw[Du,pi.mpr (S.sq h sC)];rfl
theorem g9(i:Nat){x:Str}{b:Bool}{p Y4:Pos}{elt target iter:Expr}{ifs:List Expr}{scope:Scope}{pos:Pos}{it asg tf ef}{nt:Nat}{mY:List Nat}(Um:K.vars[i]?=some (x,.local,b))
  (hi:QO P n K iter it) (ok:x4 K K' nt mY scope) (ha:ze P K' true target asg) (ht:A8 P n K' ifs tf) (he:eM P n K' false elt ef)
  (hs:∀env x,foldedSetIterable iter env x=pure x) (hp:(p.line==pos.line)=true) (hn:(scope.names.any fun y=>y.1==x&&(y.2== .local||y.2== .cell))=false):
  ul P n K (.Assign [.Name x p] (.ListComp elt [⟨target,iter,ifs,0⟩] scope pos) Y4) (fun ρ=>(fj it asg tf ef nt mY ρ).map fun y=>(upd ρ i y,.next)):=fun A env out hid m B s ρ aY fl E rm S hf=>by
 refine bV hf fun y hy e=>pair_inv e ?_
 rw[exec_Assign_Name_used _ _ _ _ (D7 S.fn (S.kind i x _ b Um) hp hn)];refine ar (qJ (ar ?_));show wpAny _ A (do let _ <-comprehension (.ListComp elt [⟨target,iter,ifs,0⟩] scope pos) scope env _ (newList []) false (eval iter env) (some (assign (.Name x p) env))) _ _ s;refine ar (au (Bb (use:=some (assign (.Name x p) env)) (Q:=fun ø s'=>I7 P K env out hid B s s' (upd ρ i y) .next .next) hi ok ha ht he hs E rm S hy fun D C s₁ m₁ l vs hx sD sC IW kp so hd vn=>?_) (fun ø s' hq=>bd (bd hq)) fun ø ø e=>e);show wpAny _ A (assign (.Name x p) env (.ref D)) _ _ _;have one:∀a∈[D],a=D:=fun a h=>cN.mp h
 induction b with
 |false=>
  exact Bc S Um kp sC vn (X:=[]) (fun a h=>nomatch h) (fun a h=>nomatch h) (hx.symm▸Dn.ofList (fun h=>(bp.mp h).elim IW.symm fun h=>S.sq h sD rfl) so (hd.less fun a h=>(bp.mp h).elim (fun e=>e▸ .head _) fun h=>.tail _ (.tail _ h))) nofun
 |true=>
  exact Bc S Um kp sC vn (X:=[D]) (fun a h=>one a h▸sD) (fun a h=>one a h▸so.elim fun k e=>⟨_,e⟩) (hx.symm▸fc.ofList (.tail _ (.head _)) (fun h=>(bp.mp h).elim IW.symm fun h=>S.sq (S.oh D h) sD rfl) (fun e=>S.sq S.Lh sD e.symm) so hd) fun ø j x' k' a hj tJ e oU=>S.Ji kp sD j x' k' a tJ e oU
end
section
variable{P:Pk}{n:Nat}{K K':Cx}{lo:Bool}
noncomputable def oX(xs:List V):al:=fun j=>xs[j]?
noncomputable def Un:al×Fl->Option V
 |(_,.next)=>some .none
 |(_,.ret x)=>some x
 |_=>none
structure vx(K:Cx)(sc:Scope)(ps:List Str):Prop where
 kind:sc.kind= .function
 vars:∀(j:Nat) x k b,K.vars[j]?=some (x,k,b)->sc.names.lookup x=some k/\(k= .local\/k= .cell)
 pars:∀(j:Nat) x,ps[j]?=some x->∃k,K.vars[j]?=some (x,k,false)
 glob:∀x∈K.aM,sc.names.lookup x=some .globalImplicit
 nodup:∀(i j:Nat) x k b k' b',K.vars[i]?=some (x,k,b)->K.vars[j]?=some (x,k',b')->i=j
noncomputable def Nv(K:Cx)(sc:Scope)(ps:List Str):Bool:=
 sc.kind== .function&&(K.vars.all fun z=>sc.names.lookup z.1==some z.2.1&&(z.2.1== .local||z.2.1== .cell))&&decide ((K.vars.take ps.length).map (fun z=>(z.1,z.2.2))=ps.map fun x=>(x,false))&&
 (K.aM.all fun x=>sc.names.lookup x==some .globalImplicit)&&decide (K.vars.map (·.1)).Nodup
theorem vx.of{sc:Scope}{ps:List Str}(h:Nv K sc ps=true):vx K sc ps:=by
 simp only[Nv,dI,cD,jW,nb,iK]at h;obtain⟨⟨⟨⟨h1,h2⟩,h3⟩,h4⟩,h5⟩:=h;refine⟨h1,fun j x k b hj=>?_,fun j x hj=>?_,h4,fun i j x k b k' b' hi hj=>?_⟩
 ·have:=h2 (x,k,b) (mE hj)
  exact⟨this.1,this.2⟩
 ·have e:((K.vars.take ps.length).map (fun z=>(z.1,z.2.2)))[j]?=some (x,false):=by rw[h3,bL,hj];rfl
  rw[bL]at e;refine bV e fun z hz e=>?_
  rw[List.getElem?_take]at hz;split at hz
  ·obtain⟨x',k,b⟩:=z
   cases e;exact⟨k,hz⟩
  ·cases hz
 ·have e1:(K.vars.map (·.1))[i]?=some x:=by rw[bL,hi];rfl
  have e2:(K.vars.map (·.1))[j]?=some x:=by rw[bL,hj];rfl
  have Ni:i<(K.vars.map (·.1)).length:=by
   by_cases q:i<(K.vars.map (·.1)).length
   ·exact q
   ·rw[iL (by omega)]at e1;cases e1
  exact(List.getElem?_inj Ni h5).mp (e1.trans e2.symm)
set_option tactic.hygienic true in
theorem ig{x:Str}:∀{names:List (Str×NameKind)} {k:Nat} {acc:List (Str×Addr)},((x,NameKind.cell)∈names\/∃c,(x,c)∈acc)->∃c,(x,c)∈cellsFrom k names acc
 |[],k,acc,h=>by
  rcases h with h|h
  ·cases h
  ·exact h
 |(y,kd)::r,k,acc,h=>by
  unfold cellsFrom;split
  ·rename_i hk
   refine ig ?_;rcases h with h|⟨c,h⟩
   ·rcases bp.mp h with q|q
    ·cases q;exact .inr ⟨k,by simp⟩
    ·exact .inl q
   ·exact .inr ⟨c,by simp[h]⟩
  ·rename_i hk
   refine ig ?_;rcases h with h|h
   ·rcases bp.mp h with q|q
    ·cases q;exact absurd rfl hk
    ·exact .inl q
   ·exact .inr h
theorem Bd{kindOf:Str->Option NameKind}:∀{l:List (Str×Value)} {m:Str->Option Value} {x:Str},(∀y∈l,y.1≠x)->bindL kindOf l m x=m x
 |[],_,_,_=>rfl
 |(y,v)::r,m,x,h=>by
  unfold bindL;rw[Bd fun z hz=>h z (by simp[hz])];have:x≠y:=fun e=>h (y,v) (by simp) e.symm
  split
  ·simp[this]
  ·rfl
theorem Be{kindOf:Str->Option NameKind}:∀{l:List (Str×Value)} {m:Str->Option Value} {x:Str},(∀y∈l,y.1≠x)->bindC kindOf l m x=m x
 |[],_,_,_=>rfl
 |(y,v)::r,m,x,h=>by
  unfold bindC;rw[Be fun z hz=>h z (by simp[hz])];have:x≠y:=fun e=>h (y,v) (by simp) e.symm
  split
  ·rfl
  ·simp[this]
theorem Bf{kindOf:Str->Option NameKind}:∀{ps:List Str} {vs:List Value} {m:Str->Option Value} {j:Nat} {x:Str} {v:Value},ps.Nodup->ps[j]?=some x->vs[j]?=some v->kindOf x=some .local->bindL kindOf (ps.zip vs) m x=some v
 |[],_,_,_,_,_,_,h,_,_=>by simp at h
 |_::_,[],_,_,_,_,_,_,h,_=>by simp at h
 |p::ps,u::vs,m,0,x,v,hn,hp,hv,hk=>by
  simp at hp hv;subst hp;subst hv;rw[nq];unfold bindL;rw[aw hk,Bd (x:=p) fun y hy e=>(gC.mp hn).1 (by have:=(List.of_mem_zip hy).1;rwa[e]at this)];simp
 |p::ps,u::vs,m,j+1,x,v,hn,hp,hv,hk=>by
  rw[nq];unfold bindL;exact Bf (gC.mp hn).2 (by simpa using hp) (by simpa using hv) hk
theorem Bg{kindOf:Str->Option NameKind}:∀{ps:List Str} {vs:List Value} {m:Str->Option Value} {j:Nat} {x:Str} {v:Value},ps.Nodup->ps[j]?=some x->vs[j]?=some v->kindOf x≠some .local->bindC kindOf (ps.zip vs) m x=some v
 |[],_,_,_,_,_,_,h,_,_=>by simp at h
 |_::_,[],_,_,_,_,_,_,h,_=>by simp at h
 |p::ps,u::vs,m,0,x,v,hn,hp,hv,hk=>by
  simp at hp hv;subst hp;subst hv;rw[nq];unfold bindC;rw[az hk,Be (x:=p) fun y hy e=>(gC.mp hn).1 (by have:=(List.of_mem_zip hy).1;rwa[e]at this)];simp
 |p::ps,u::vs,m,j+1,x,v,hn,hp,hv,hk=>by
  rw[nq];unfold bindC;exact Bg (gC.mp hn).2 (by simpa using hp) (by simpa using hv) hk
end
section
variable{P:Pk}{n:Nat}{K K':Cx}{lo:Bool}
theorem aB.perm{env:Env}{out hid ao:List Addr}{m}{B s:Shared}{ρ}(S:aB P K env out hid m B s ρ)(h:∀a,a∈ao<->a∈hid):aB P K env out ao m B s ρ:=
 S.grow (.refl s) (fun a q=>(h a).mpr q) (fun a q=>.inl ((h a).mp q)) fun a q=>S.live a ((h a).mp q)
inductive kY(P:Pk)(L:Addr)(h:Heap)(out hid:List Addr):List Bool->List V->List Value->List Addr->Prop
 |nil:kY P L h out hid [] [] [] []
 |dat {bs xs vs H x v} (d:Dn P h hid x v) (r:kY P L h out hid bs xs vs H):kY P L h out hid (false::bs) (x::xs) (v::vs) H
 |box {bs xs vs H x a} (ha:a∉H) (b:fc P L h out hid x (.ref a)) (r:kY P L h out hid bs xs vs H):kY P L h out hid (true::bs) (x::xs) (.ref a::vs) (a::H)
theorem kY.grow{L:Addr}{h h':Heap}{out hid ao:List Addr}(hk:∀a o,h.get? a=some o->h'.get? a=some o)(hh:∀a∈hid,a∈ao)(hn:∀a∈ao,a∈hid\/h.get? a=none){bs:List Bool}{xs:List V}{vs:List Value}{H:List Addr}(e:kY P L h out hid bs xs vs H):kY P L h' out ao bs xs vs H:=by
 induction e with
 |nil=>exact .nil
 |dat d _ ih=>exact .dat (Dn.grow (P:=P) d (fun a o ø q=>hk a o q) hn) ih
 |box ha b _ ih=>exact .box ha (fc.grow (P:=P) b hk hh hn) ih
inductive Uo(P:Pk)(K:Cx)(env:Env)(out hid:List Addr)(m:Str->Option Value)(B s s':Shared)(ρ:al)(bs:List Bool)(xs:List V)(vs:List Value):Prop
 |mk (H:List Addr) (S:aB P K env out (H++hid) m B s' ρ) (k:Kp s s') (n:∀a∈H,s.heap.get? a=none) (r:kY P env.locals s'.heap out (H++hid) bs xs vs H):Uo P K env out hid m B s s' ρ bs xs vs
noncomputable def jQ(P:Pk)(n:Nat)(K:Cx)(es:List Expr)(bs:List Bool)(f:al->Option (List V)):Prop:=
 ∀(A:Around) (env:Env) (out hid:List Addr) (m:Str->Option Value) (B s:Shared) (ρ:al) (xs:List V) (E:Value->Shared->Prop) (pos:Pos),bW n A->aB P K env out hid m B s ρ->f ρ=some xs->
  wpAny (model P.prog P.w) A (spliced (backTo pos (starEach es env))) (fun vs s'=>Uo P K env out hid m B s s' ρ bs xs vs) E s
theorem jQ.nil:jQ P n K [] [] fun ø=>some []:=fun A env out hid m B s ρ x E pos rm S hf=>by
 cases hf;exact jU ⟨[],S,.refl s,fun a h=>(nomatch h),.nil⟩
theorem jQ.dat{e:Expr}{es:List Expr}{bs f g}(h:eM P n K false e f)(hs:jQ P n K es bs g)(he:∀env,starEach (e::es) env=(false,eval e env)::starEach es env):jQ P n K (e::es) (false::bs) (aQ f g):=
 fun A env out hid m B s ρ x E pos rm S hf=>by
 refine ah hf fun y hy gg=>?_
 clear hf;rename _=>hf
 refine ah hf fun ys Qy gg=>?_
 clear hf;rename _=>hf
 cases hf;refine jV (au (h A env out hid m B s ρ y E rm S hy) (fun v s₁ ag=>?_) fun ø ø q=>q) (he env);refine au (hs A env out hid m B s₁ ρ ys E pos rm (S.after ag.1) Qy) (fun vs s₂ aH=>?_) fun ø ø q=>q
 obtain⟨H,cC,k₂,hH,hr⟩:=aH;refine⟨H,cC,ag.1.trans k₂,fun a q=>?_,.dat (Dn.grow (P:=P) ag.2 (fun a o ø z=>k₂.keep a o z) (fun a q=>(cr.mp q).elim (fun z=>.inr (hH a z)) .inl)) hr⟩
 cases e:s.heap.get? a with
 |none=>rfl
 |some o=>have:=hH a q;rw[ag.1.keep a o e]at this;cases this
theorem jQ.new{e:Expr}{es:List Expr}{bs f g}(h:M2 P n K e f)(hs:jQ P n K es bs g)(he:∀env,starEach (e::es) env=(false,eval e env)::starEach es env):jQ P n K (e::es) (true::bs) (aQ f g):=
 fun A env out hid m B s ρ x E pos rm S hf=>by
 refine ah hf fun y hy gg=>?_
 clear hf;rename _=>hf
 refine ah hf fun ys Qy gg=>?_
 clear hf;rename _=>hf
 cases hf;refine jV (au (h A env out hid m B s ρ y E rm S hy) (fun v s₁ ag=>?_) fun ø ø q=>q) (he env);obtain⟨a,rfl,ha,hah,QH,TI⟩:=Nl.box (P:=P) (out:=out) (L:=env.locals) ag.2 S.live S.oh S.Lh;have new:∀b∈a::hid,b∈hid\/s.heap.get? b=none:=fun b hb=>(bp.mp hb).elim (fun q=>.inr (q▸ha)) .inl
 have live:cx s₁.heap (a::hid):=fun b hb=>(bp.mp hb).elim (fun q=>q▸TI) (S.live.kp ag.1 b)
 have bc:=S.grow ag.1 (fun b q=>cw _ q) new live;refine au (hs A env out (a::hid) m B s₁ ρ ys E pos rm bc Qy) (fun vs s₂ aH=>?_) fun ø ø q=>q
 obtain⟨H,cC,k₂,hH,hr⟩:=aH;have hp:∀b,b∈(a::H)++hid<->b∈H++(a::hid):=fun b=>by simp;constructor<;>rintro(q|q|q)<;>simp[q]
 have Xg:a∉H:=fun q=>by obtain⟨o,z⟩:=TI;rw[hH a q]at z;cases z
 refine⟨a::H,cC.perm hp,ag.1.trans k₂,fun b q=>?_,.box Xg ?_ ?_⟩
 ·rcases bp.mp q with rfl|q
  ·exact ha
  ·cases e:s.heap.get? b with
   |none=>rfl
   |some o=>have:=hH b q;rw[ag.1.keep b o e]at this;cases this
 ·exact fc.grow (P:=P) QH k₂.keep (fun b q=>by simp at q ⊢;rcases q with q|q<;>simp[q]) fun b q=>by
   rcases cr.mp q with q|q
   ·rcases bp.mp q with rfl|q
    ·exact .inl (by simp)
    ·exact .inr (hH b q)
   ·exact .inl (by simp[q])
 ·exact kY.grow (P:=P) (fun ø ø q=>q) (fun b q=>(hp b).mpr q) (fun b q=>.inl ((hp b).mp q)) hr
theorem kY.app{L:Addr}{h:Heap}{out hid:List Addr}{bs':List Bool}{Dh:List V}{gU:List Value}{H':List Addr}(e':kY P L h out hid bs' Dh gU H'){bs:List Bool}{xs:List V}{vs:List Value}{H:List Addr}(hd:∀a∈H,a∉H')(e:kY P L h out hid bs xs vs H):kY P L h out hid (bs++bs') (xs++Dh) (vs++gU) (H++H'):=by
 induction e with
 |nil=>exact e'
 |dat d _ ih=>exact .dat d (ih hd)
 |box ha b _ ih=>exact .box (fun q=>(cr.mp q).elim ha (hd _ dJ)) b (ih fun c q=>hd c (cw _ q))
theorem kY.rev{L:Addr}{h:Heap}{out hid:List Addr}{bs:List Bool}{xs:List V}{vs:List Value}{H:List Addr}(e:kY P L h out hid bs xs vs H):kY P L h out hid bs.reverse xs.reverse vs.reverse H.reverse:=by
 induction e with
 |nil=>exact .nil
 |dat d _ ih=>
  have:=kY.app (.dat d .nil) (fun a ø q=>nomatch q) ih;rw[qM,qM,qM];rwa[gn]at this
 |box ha b _ ih=>
  rw[qM,qM,qM,qM];exact kY.app (.box qN b .nil) (fun c hc q=>ha (cN.mp q▸pS.mp hc)) ih
theorem kY.but{L:Addr}{h h':Heap}{out hid:List Addr}(hk:∀a o,a∉hid->h.get? a=some o->h'.get? a=some o)(hb:∀a o,nO h a->a≠L->h.get? a=some o->h'.get? a=some o){bs:List Bool}{xs:List V}{vs:List Value}{H:List Addr}(e:kY P L h out hid bs xs vs H):kY P L h' out hid bs xs vs H:=by
 induction e with
 |nil=>exact .nil
 |dat d _ ih=>exact .dat (Dn.grow (P:=P) d hk fun a q=>.inl q) ih
 |box ha b _ ih=>
  obtain⟨a',e,_,_,h3,h4⟩:=fc.addr (P:=P) b;cases e;exact .box ha (fc.keep (P:=P) b (fun o q=>hb _ o h4 h3 q) hk (fun ø q=>q) fun a q=>.inl q) ih
noncomputable def nU(ρ:al):List Nat->List V->al
 |i::is,x::xs=>nU (upd ρ i x) is xs
 |_,_=>ρ
theorem Nw(ρ:al)(i:Nat)(is:List Nat)(x:V)(xs:List V):nU ρ (i::is) (x::xs)=nU (upd ρ i x) is xs:=rfl
theorem Nx(ρ:al)(l:List V):nU ρ [] l=ρ:=rfl
theorem Ny(ρ:al)(i:Nat)(is:List Nat):nU ρ (i::is) []=ρ:=rfl
theorem Jj(ρ:al){i j:Nat}(x y:V)(h:i≠j):upd (upd ρ i x) j y=upd (upd ρ j y) i x:=by
 funext k
 by_cases hj:k=j
 ·subst hj;rw[jf,gZ _ _ (dW h),jf]
 ·rw[gZ _ _ hj]
  by_cases hi:k=i
  ·subst hi;rw[jf,jf]
  ·rw[gZ _ _ hi,gZ _ _ hi,gZ _ _ hj]
theorem Bh:∀(is:List Nat) (xs:List V) (ρ:al) (i:Nat) (x:V),i∉is->nU (upd ρ i x) is xs=upd (nU ρ is xs) i x
 |[],xs,ρ,i,x,_=>by cases xs<;>rfl
 |j::is,[],ρ,i,x,_=>rfl
 |j::is,y::xs,ρ,i,x,h=>by
  simp only[Nw,Nx,Ny];rw[Jj ρ x y (fun e=>h (by simp[e])),Bh is xs (upd ρ j y) i x fun q=>h (by simp[q])]
theorem Hk(i:Nat)(x:V):∀(is:List Nat) (xs:List V) (ρ:al),is.length=xs.length->nU ρ (is++[i]) (xs++[x])=upd (nU ρ is xs) i x:=by
 intro is
 induction is with
 |nil=>
  intro xs ρ h
  cases xs with
  |nil=>rfl
  |cons=>cases h
 |cons j is ih=>
  intro xs ρ h
  cases xs with
  |nil=>cases h
  |cons y xs=>exact ih xs _ (rR h)
theorem Jk:∀(is:List Nat) (xs:List V) (ρ:al),is.Nodup->is.length=xs.length->nU ρ is.reverse xs.reverse=nU ρ is xs:=by
 intro is
 induction is with
 |nil=>
  intro xs ρ _ h
  cases xs with
  |nil=>rfl
  |cons=>cases h
 |cons i is ih=>
  intro xs ρ hn h
  cases xs with
  |nil=>cases h
  |cons x xs=>
   have hl:is.length=xs.length:=rR h;rw[qM,qM,Hk _ _ _ _ _ (by rw[pT,pT];exact hl),ih xs ρ (gC.mp hn).2 hl];exact(Bh is xs ρ i x (gC.mp hn).1).symm
structure Jl(K:Cx)(ts:List (Nat×Str×NameKind×Bool)):Prop where
 vars:∀t∈ts,K.vars[t.1]?=some (t.2.1,t.2.2.1,t.2.2.2)/\t.2.2.1≠ .free
 nodup:(ts.map (·.1)).Nodup
theorem zg{M:Model}{A:Around}{env:Env}{out hid:List Addr}{B:Shared}{E:Value->Shared->Prop}:∀(ts:List (Nat×Str×NameKind×Bool)) (fs:List (Value->Sem Unit)) (xs:List V) (vs:List Value) (H:List Addr) (m:Str->Option Value) (s:Shared) (ρ:al),Jl K ts->
  fs.length=ts.length->(∀(j:Nat) t f,ts[j]?=some t->fs[j]?=some f->∀v s Q,wpAny M A (storeName env t.2.1 v) Q E s->wpAny M A (f v) Q E s)->aB P K env out hid m B s ρ->kY P env.locals s.heap out hid (ts.map (·.2.2.2)) xs vs H->
  (∀(j:Nat) x' k' a,a∈H->K.vars[j]?=some (x',k',true)->At env m s.heap out hid x' k' (some (.ref a))->ρ j=none)->
  wpAny M A (assignInOrder fs vs) (fun ø s'=>∃m',aB P K env out hid m' B s' (nU ρ (ts.map (·.1)) xs)/\Ks out hid hid s s') E s:=by
 intro ts
 induction ts with
 |nil=>
  intro fs xs vs H m s ρ ok hl hf S hr hi
  cases fs with
  |cons=>cases hl
  |nil=>
   cases hr;exact wpAny_assignInOrder_none ⟨m,S,.refl ..⟩
 |cons t ts ih=>
  intro fs xs vs H m s ρ ok hl hf S hr hi;obtain⟨i,x,k,b⟩:=t
  cases fs with
  |nil=>cases hl
  |cons f fs=>
   obtain⟨hv,hk⟩:=ok.vars (i,x,k,b) (by simp);have Xf:Jl K ts:=⟨fun t ht=>ok.vars t (by simp[ht]),(gC.mp ok.nodup).2⟩;have hni:∀t∈ts,t.1≠i:=fun t ht e=>(gC.mp ok.nodup).1 (e▸bP.mpr ⟨t,ht,rfl⟩)
   have go:∀(y:V) (v:Value) (Dh:List V) (gU:List Value) (H':List Addr),(if b then fc P env.locals s.heap out hid y v else Dn P s.heap hid y v)->kY P env.locals s.heap out hid (ts.map (·.2.2.2)) Dh gU H'->(∀a∈H',a∈H)->(b=true->∀a,v= .ref a->a∈H/\a∉H')->
     wpAny M A (assignInOrder (f::fs) (v::gU)) (fun ø s'=>∃m',aB P K env out hid m' B s' (nU (upd ρ i y) (ts.map (·.1)) Dh)/\Ks out hid hid s s') E s:=fun y v Dh gU H' hyv TB hH ha=>by
    refine wpAny_assignInOrder_more (hf 0 (i,x,k,b) f rfl rfl v s _ (S.store hv hyv (fun hb j x' k' a hj tJ e oU=>hi j x' k' a (ha hb a e).1 tJ oU) hk fun m' s' S' K' jN=>?_));have zf:∀a o,a∉hid->s.heap.get? a=some o->s'.heap.get? a=some o:=fun a o q=>K'.keep a o (.inl q)
    have Y5:kY P env.locals s'.heap out hid (ts.map (·.2.2.2)) Dh gU H':=kY.but zf jN.2.2.1 TB;refine au (ih fs Dh gU H' m' s' (upd ρ i y) Xf (rR hl) (fun j t f' h1 h2=>hf (j+1) t f' h1 h2) S' Y5 (fun j x' k' a Xg tJ oU=>?_)) (fun _ s₂ ⟨m₂,cC,qc⟩=>⟨m₂,cC,K'.trans qc⟩) fun ø ø q=>q
    by_cases DU:j=i
    ·subst DU
     exfalso;rw[hv]at tJ;cases tJ;have:=At.fun jN.2.2.2 oU
     cases this;exact(ha rfl a rfl).2 Xg
    ·rw[gZ _ _ DU]
     exact hi j x' k' a (hH a Xg) tJ (jN.2.1 j x' k' true _ DU tJ oU)
   cases hr with
   |dat d r=>exact go _ _ _ _ H d r (fun a q=>q) (fun q=>nomatch q)
   |box ha bx r=>exact go _ _ _ _ _ bx r (fun b q=>cw _ q) (fun ø a' e=>by cases e;exact⟨dJ,ha⟩)
theorem Fz{M:Model}{A:Around}{env:Env}{out hid H:List Addr}{m:Str->Option Value}{B s s₁ s₂:Shared}{ρ:al}{E:Value->Shared->Prop}{ts:List (Nat×Str×NameKind×Bool)}{fs:List (Value->Sem Unit)}{xs:List V}{vs:List Value}(S:aB P K env out hid m B s ρ)
  (ok:Jl K ts) (bc:aB P K env out (H++hid) m B s₁ ρ) (k₁:Kp s s₁) (hH:∀a∈H,s.heap.get? a=none) (hr:kY P env.locals s₁.heap out (H++hid) (ts.map (·.2.2.2)) xs vs H) (k₂:Kp s₁ s₂)
  (hl:fs.length=ts.length) (hf:∀(j:Nat) t f,ts[j]?=some t->fs[j]?=some f->∀v s Q,wpAny M A (storeName env t.2.1 v) Q E s->wpAny M A (f v) Q E s):
  wpAny M A (assignInOrder fs vs) (fun ø s'=>I7 P K env out hid B s s' (nU ρ (ts.map (·.1)) xs) .next .next) E s₂:=by
 have cC:=bc.after k₂;have new:∀b∈H++hid,b∈hid\/s.heap.get? b=none:=fun b hb=>(cr.mp hb).elim (fun q=>.inr (hH b q)) .inl
 refine au (zg ts fs xs vs H m s₂ ρ ok hl hf cC (kY.grow (P:=P) k₂.keep (fun ø q=>q) (fun a q=>.inl q) hr) (fun j x' k' a ha tJ oU=>?_)) (fun _ s' ⟨m',S',K'⟩=>⟨H++hid,m',S',?_,rfl⟩) fun ø ø q=>q
 ·obtain⟨ov,q1,q2⟩:=S.slot j x' k' true tJ
  have:=At.Pz oU q1 fun c v q=>q.keeps (k₁.trans k₂).keep
  subst this
  cases er:ρ j with
  |none=>rfl
  |some z=>
   rw[er]at q2;obtain⟨u,e,q2⟩:=q2;cases e;obtain⟨a'',e,z1,_⟩:=fc.addr (P:=P) q2;cases e;obtain⟨o,ho⟩:=S.live a z1;rw[hH a ha]at ho;cases ho
 ·exact⟨fun b o hb q=>K'.keep b o (hb.imp (fun z hm=>(cr.mp hm).elim (fun w=>by rw[hH b w]at q;cases q) z) id) ((k₁.trans k₂).keep b o q),new,fun b q=>bw _ q,(k₁.trans k₂).gens.trans K'.gens,K'.os.trans (k₁.trans k₂).os⟩
noncomputable abbrev kZ(ts:List (Nat×Str×NameKind×Bool))(ps:List Pos):List Expr:=(ts.zip ps).map fun t=>.Name t.1.2.1 t.2
theorem la(env:Env):∀(ts:List (Nat×Str×NameKind×Bool)) (ps:List Pos),(assignEach (kZ ts ps) env).map (·.2)=(kZ ts ps).map (fun t=>assign t env)/\(assignEach (kZ ts ps) env).length=(kZ ts ps).length/\(assignEach (kZ ts ps) env).findIdx? (·.1)=none
 |[],_=>⟨rfl,rfl,rfl⟩
 |_::_,[]=>⟨rfl,rfl,rfl⟩
 |t::ts,p::ps=>by
  obtain⟨h1,h2,h3⟩:=la env ts ps;have e:assignEach (kZ (t::ts) (p::ps)) env=(false,assign (.Name t.2.1 p) env)::assignEach (kZ ts ps) env:=rfl;rw[e];refine⟨?_,?_,?_⟩
  ·rw[bn,h1];rfl
  ·rw[bA,h2];rfl
  ·rw[List.findIdx?_cons];simp[h3]
theorem lQ{ts:List (Nat×Str×NameKind×Bool)}{ps:List Pos}{es:List Expr}{k k':Nat}{p p' pos:Pos}{f}(ok:Jl K ts)(Bi:ps.length=ts.length)(h:jQ P n K es (ts.map (·.2.2.2)) f)(hes:ts.length<=100)(hlen:∀ρ x,f ρ=some x->x.length=ts.length)
  (zh:∀env out hid H h xs vs,kY P env h out hid (ts.map (·.2.2.2)) xs vs H->vs.length=ts.length)
  (PB:∀env,swapsWithSole [.Tuple (kZ ts ps) k p] (.Tuple es k' p') pos.line env=pure false)
  (eF:(∀env,(∀(i:Nat) x kd b,K.vars[i]?=some (x,kd,b)->env.kindOf x=some kd)->env.scope.kind= .function->swappedStores [.Tuple (kZ ts ps) k p] (.Tuple es k' p') env=pure none\/swappedStores [.Tuple (kZ ts ps) k p] (.Tuple es k' p') env=pure (some (ts.map (·.2.1))))):
  ul P n K (.Assign [.Tuple (kZ ts ps) k p] (.Tuple es k' p') pos) (fun ρ=>(f ρ).map fun xs=>(nU ρ (ts.map (·.1)) xs,.next)):=fun A env out hid m B s ρ aY fl E rm S hf=>by
 refine bV hf fun xs xv e=>?_
 clear hf
 first|refine pair_inv e ?_;clear e|cases e
 have hlx:=hlen _ _ xv;have TN:(kZ ts ps).length=ts.length:=by simp[Bi]
 have vals:∀(R:Value->Shared->Prop),(∀vs s₁ H,aB P K env out (H++hid) m B s₁ ρ->Kp s s₁->(∀a∈H,s.heap.get? a=none)->kY P env.locals s₁.heap out (H++hid) (ts.map (·.2.2.2)) xs vs H->vs.length=ts.length->R (.ref s₁.heap.objs.size) {s₁ with heap:=s₁.heap.push {cls:=.type "tuple",data:=.seq vs.toArray} })->
   wpAny (model P.prog P.w) A (eval (.Tuple es k' p') env) R E s:=fun R hR=>by
  refine wpAny_Tuple (au (h A env out hid m B s ρ xs E p' rm S xv) (fun vs s₁ ag=>?_) fun ø ø q=>q);obtain⟨H,bc,k₁,hH,hr⟩:=ag;have:=zh _ _ _ _ _ _ _ hr;exact⟨by rw[this,gR];omega,hR vs s₁ H bc k₁ hH hr this⟩
 rcases eF env S.kind S.fn with eF|eF
 ·refine wpAny_Assign_stores (vals _ fun vs s₁ H bc k₁ hH hr zh=>?_) (PB env) eF
  show wpAny _ A (assignAll _ [assign (.Tuple (kZ ts ps) k p) env]) _ E _;obtain⟨a1,a2,a3⟩:=la env ts ps;refine Dq rm.handled (items:=vs.toArray) ⟨_,bD _ rfl,rfl,0,rfl⟩ ?_ a3 fun h' hx=>?_
  ·rw[a2,TN,bM,zh]
  ·rw[a1]
   refine Fz (m:=m) (s₁:=s₁) S ok bc k₁ hH hr ?_ (by simp[Bi]) fun j t f h1 h2 v s Q hq=>?_
   ·refine .heap fun b o q=>hx b o (fun z=>?_) (bK _ q)
    have:=f5 q;rw[z,qK]at this;exact absurd this (kM.mpr (i8 _))
   ·rw[bL,bL]at h2
    refine bV h2 ?_;rintro e he rfl;refine bV he ?_;rintro⟨t',p''⟩ Di rfl;rw[List.getElem?_zip_eq_some]at Di;rw[h1]at Di;cases Di.1;exact nk hq
 ·refine PyProof.Rows.Assign_Tuple_swapped (names:=ts.map (·.2.1)) (vals _ fun vs s₁ H bc k₁ hH hr zh=>?_) (PB env) eF
  have hq:(ts.map (·.2.1)).length=vs.toArray.size:=by rw[bi,bM,zh]
  rw[hq];refine wpAny_unpackItems_tuple rm.handled (items:=vs.toArray) ⟨_,bD _ rfl,rfl,0,rfl⟩ fun h' hx=>?_
  have TB:=kY.rev hr;rw[<-List.map_reverse]at TB;have Xf:Jl K ts.reverse:=⟨fun t ht=>ok.vars t (pS.mp ht),by rw[List.map_reverse];exact((rS _).nodup_iff).mpr ok.nodup⟩;have key:=Fz (M:=model P.prog P.w) (A:=A) (E:=E) (m:=m) (s₁:=s₁) (s₂:={s₁ with heap:=h'}) (H:=H.reverse) (fs:=(ts.map (·.2.1)).reverse.map fun n=>bindName env n) S Xf (bc.perm fun a=>by simp) k₁ (fun a ha=>hH a (by simpa using ha))
   (kY.grow (P:=P) (fun ø ø q=>q) (fun b q=>by simpa using q) (fun b q=>.inl (by simpa using q)) TB) ?_ (by simp) fun j t f h1 h2 v s Q hq=>?_
  ·have e:nU ρ (ts.reverse.map (·.1)) xs.reverse=nU ρ (ts.map (·.1)) xs:=by rw[List.map_reverse];exact Jk _ _ _ ok.nodup (by simp[hlx])
   rw[e]at key;exact key
  ·refine .heap fun b o q=>hx b o (fun z=>?_) (bK _ q)
   have:=f5 q;rw[z,qK]at this;exact absurd this (kM.mpr (i8 _))
  ·rw[<-List.map_reverse,dK,bL,h1]at h2
   cases h2;exact wpAny_bindName hq
end
section
variable{P:Pk}{n:Nat}{K K':Cx}{lo:Bool}
inductive FC(M:Model)(A:Around)(E:Value->Shared->Prop)(o i:Value)(Q:Value->Shared->Prop)(s:Shared):Prop
 |mk (T id:String) (l:typeLookup (.type T) "__getitem__"=pure (some (.builtin id))) (t:s.TypeIs o T) (h:wpAny M A (getItem o i) Q E s):FC M A E o i Q s
theorem sr{prog:Program}{w:World}{A:Around}{E:Value->Shared->Prop}{env:Env}{value slice:Expr}{pos:Pos}{s:Shared}{Q:Value->Shared->Prop}
  (h:wpAny (model prog w) A (eval value env) (fun o s₁=>wpAny (model prog w) A (eval slice env) (fun i s₂=>FC (model prog w) A E o i Q s₂) E s₁) E s)
  (hs:∀o i,∃ops,subscripted slice false o i=operate ops (getItem o i)):wpAny (model prog w) A (eval (.Subscript value slice pos) env) Q E s:=by
 refine Subscript_ (au h (fun o s₁ ag=>au ag (fun i s₂ aH=>?_) fun ø ø q=>q) fun ø ø q=>q);obtain⟨T,id,hl,hT,hg⟩:=aH;unfold subscriptTail;refine ar ?_;rw[getitemInPython_of_ne hT.not_modules];refine ar (yP hT hl ?_);obtain⟨ops,e⟩:=hs o i;have fin:wpAny (model prog w) A (subscripted slice false o i) (fun r cB=>wpAny (model prog w) A (letTemporaryGo value o r>>= fun ø=>pure r) Q E cB) E s₂:=by
  rw[e];exact wpAny_operating (au hg (fun r cB eh=>ar (wpAny_letTemporaryGo (bd eh))) fun ø ø x=>x)
 first
  |exact bd (ar fin)
  |exact ar (bd (ar fin))
  |exact ar fin
noncomputable def bR:List Int->List V->Int->Option V
 |k::ks,v::vs,q=>if k=q then some v else bR ks vs q
 |_,_,_=>none
theorem gH(k:Int)(ks:List Int)(v:V)(vs:List V)(q:Int):bR (k::ks) (v::vs) q=if k=q then some v else bR ks vs q:=rfl
theorem iQ(l:List V)(q:Int):bR [] l q=none:=rfl
theorem iR(k:Int)(ks:List Int)(q:Int):bR (k::ks) [] q=none:=rfl
theorem vy{h:Heap}{hid:List Addr}{q:Int}:∀{ks:List Int} {xs:List V} {vs:List Value},vs.length=ks.length->aU P h hid xs vs->match bR ks xs q with
  |some z=>∃v,valueAt (ks.zip vs) q=some v/\Dn P h hid z v
  |none=>valueAt (ks.zip vs) q=none
 |[],xs,vs,hl,hd=>by simp[gH,iQ,iR,valueAt]
 |k::ks,[],vs,hl,hd=>by
  obtain rfl:=aU.nil_inv hd;simp at hl
 |k::ks,x::xs,vs,hl,hd=>by
  obtain⟨v,r,rfl,h1,h2⟩:=aU.cons_inv hd;have ih:=vy (q:=q) (ks:=ks) (by simpa using hl) h2;rw[gH];by_cases hk:k=q
  ·subst hk
   rw[aw rfl];exact⟨v,by simp[valueAt],h1⟩
  ·rw[az hk]
   have e:valueAt ((k::ks).zip (v::r)) q=valueAt (ks.zip r) q:=by simp[valueAt,hk]
   rw[e];exact ih
noncomputable def cI(ks:List Int)(q:Int):List Int:=if ks.contains q then ks else ks++[q]
noncomputable def eP(ks:List Int)(vs:List V)(q:Int)(x:V):List V:=if ks.contains q then List.zipWith (fun k v=>if k=q then x else v) ks vs else vs++[x]
noncomputable def gt(x y:V):Option V:=y.int?.bind fun i=>match x with
 | .list l=>if l.length<=most then(ff i l.length).bind (l[·]?)else none
 | .tup l=>if l.length<=most then(ff i l.length).bind (l[·]?)else none
 | .str l=>if l.length<=most then((ff i l.length).bind (l[·]?)).map fun c=>.str [c]else none
 | .dict ks vs=>bR ks vs i
 |_=>none
theorem uC(l:List V)(i:Int):gt (.list l) (.int i)=if l.length<=most then(ff i l.length).bind (l[·]?)else none:=id rfl
theorem zi(l:List V)(i:Int):gt (.tup l) (.int i)=if l.length<=most then(ff i l.length).bind (l[·]?)else none:=id rfl
theorem FD(l:List Nat)(i:Int):gt (.str l) (.int i)=if l.length<=most then((ff i l.length).bind (l[·]?)).map fun c=>.str [c]else none:=id rfl
theorem FF(ks:List Int)(vs:List V)(i:Int):gt (.dict ks vs) (.int i)=bR ks vs i:=rfl
theorem zj{γ:Type}{c:Prop}[Decidable c]{o:Option γ}{z:γ}{G:Prop}(h:(if c then o else none)=some z)(k:c->o=some z->G):G:=by
 by_cases q:c
 ·rw[aw q]at h;exact k q h
 ·rw[az q]at h;cases h
theorem su{i:Int}{n k:Nat}(h:ff i n=some k)(hn:n<=most):seqIndex? i n=some k/\ -(2^63)<=i/\i<2^63/\k<n:=by
 have hm:most=1000000:=rfl;unfold ff at h;refine⟨(A0 h hn).1,?_⟩;by_cases h0:0<=i
 ·rw[aw h0]at h
  exact eN h fun h1 e=>⟨pn (by decide) h0,Dv h1 (pn (qO.mpr hn) (by decide)),e▸(Int.toNat_lt h0).mpr h1⟩
 ·rw[az h0]at h
  exact eN h fun h1 e=>⟨pn (Int.neg_le_neg (pn (qO.mpr hn) (by decide))) (Int.le_of_add_le_add_right (b:=(n:Int)) (by rw[Int.add_left_neg];exact h1)),Int.lt_trans (pU.mp h0) (by decide),e▸(Int.toNat_lt h1).mpr (Dv (Int.add_lt_add_right (pU.mp h0) n) (Int.le_of_eq (Int.zero_add _)))⟩
theorem Hl{i:Int}{n k:Nat}(h:ff i n=some k)(h0:¬0<=i):i<0/\0<=i+n/\k=(i+n).toNat:=by
 unfold ff at h;rw[az h0]at h;exact eN h fun h1 e=>⟨pU.mp h0,h1,e.symm⟩
theorem Hm{i:Int}{n k:Nat}(h:ff i n=some k)(h0:0<=i):k=i.toNat:=by
 unfold ff at h;rw[aw h0]at h;exact eN h fun h1 e=>e.symm
theorem QV{A:Around}{s:Shared}{hid:List Addr}{x y z:V}{u v:Value}{E:Value->Shared->Prop}(rm:bW 0 A)(hx:Dn P s.heap hid x u)(hy:Dn P s.heap hid y v)(hf:gt x y=some z):
  FC (model P.prog P.w) A E u v (fun r s'=>Kp s s'/\Dn P s'.heap hid z r) s:=by
 refine ah hf fun i hi hf=>hy.int_k hi fun t'=>?_
 clear hy hi
 cases x with
 |str l=>
  refine zj hf fun hle hf=>bV hf fun c hc e=>ah hc fun k hk hc=>?_
  subst e;obtain⟨h1,h2,h3,h4⟩:=su hk hle;refine hx.str_k rfl fun t=>?_
  refine⟨"str","str.__getitem__",F.slot_str_getitem.lookup,typeIs_str _ _ _,PyProof.Rows.getItem_str (c:=c) ?_ ?_ ⟨Kp.toks s _,.ofStr [c] _⟩⟩
  ·clear hf hc hx hk;simp;omega
  ·rw[eu,h1];simpa using hc
 |tup l=>
  refine zj hf fun hle hf=>ah hf fun k hk hc=>?_
  obtain⟨h1,h2,h3,h4⟩:=su hk hle;obtain⟨a,vs,rfl,ha,ht,hd⟩:=hx.oF;obtain⟨w,hw,hz⟩:=aV.get hd hc;exact⟨"tuple","tuple.__getitem__",slot_tuple_getitem.lookup,ht.isTup.typeIs,PyProof.Rows.getItem_tuple ht.isTup h2 h3 (j:=k) (by rw[bM,hd.length];exact h1) (by simpa using hw) ⟨.refl s,hz⟩⟩
 |list l=>
  refine zj hf fun hle hf=>ah hf fun k hk hc=>?_
  obtain⟨h1,h2,h3,h4⟩:=su hk hle;refine hx.jd rfl fun a vs ø ha ø ht hd=>?_
  obtain⟨w,hw,hz⟩:=aV.get hd hc;have hlen:=hd.length;refine⟨"list","list.__getitem__",slot_list_getitem.lookup,ht.isList.typeIs,?_⟩;by_cases h0:0<=i
  ·cases Hm hk h0
   exact wpAny_getItem_list ht.isList h0 h3 (by simpa using hw) ⟨.refl s,hz⟩
  ·obtain⟨z1,z2,rfl⟩:=Hl hk h0
   exact wpAny_getItem_list_neg ht.isList z1 (by rw[bM,hlen];clear hf hc hx hk hz hw hd;omega) h2 (by rw[bM,hlen];simpa using hw) ⟨.refl s,hz⟩
 |dict ks ws=>
  obtain⟨a,vs,rfl,ha,hlen,lE,ht,hd⟩:=hx.fe;have:=vy (P:=P) (q:=i) hlen hd;rw[show bR ks ws i=some z from hf]at this;obtain⟨w,hw,hz⟩:=this;exact⟨"dict","dict.__getitem__",slot_dict_getitem.lookup,ht.typeIs,wpAny_getItem_of (pV P.prog P.w i t') ht.mapOf hw ⟨Kp.toks s _,hz⟩⟩
 |_=>cases hf
noncomputable def f7(f g:al->Option V):al->Option V:=fun ρ=>(f ρ).bind fun x=>(g ρ).bind fun y=>gt x y
theorem aF{o i:Expr}{pos:Pos}{f g}(ho:eM P n K lo o f)(hi:eM P n K true i g)(hs:∀u v,subscripted i false u v=operate [u,v] (getItem u v)):eM P n K lo (.Subscript o i pos) (f7 f g):=fun A env out hid m B s ρ z E rm S hf=>by
 refine ah hf fun x hx gg=>?_
 clear hf;rename _=>hf
 refine ah hf fun y hy gg=>?_
 clear hf;rename _=>hf
 refine sr (au (ho A env out hid m B s ρ x E rm S hx) (fun u s₁ ag=>?_) fun ø ø q=>q) (fun u v=>⟨_,hs u v⟩);refine au (hi A env out hid m B s₁ ρ y E rm (S.after ag.1) hy) (fun v s₂ aH=>?_) fun ø ø q=>q
 have hv:Dn P s₂.heap (av lo out hid) y v:=by
  cases lo
  ·have Nz:∃i,y= .int i:=ah (o:=y.int?) hf fun i hi ø=>⟨i,V.kR hi⟩
   obtain⟨i,rfl⟩:=Nz;exact aH.2.scalar rfl
  ·exact aH.2
 obtain⟨T,id,c1,c2,c3⟩:=QV (E:=E) (rm.less (dU _)) (ag.2.kp aH.1) hv hf;exact⟨T,id,c1,c2,au c3 (fun r cB q=>⟨ag.1.trans (aH.1.trans q.1),q.2⟩) fun ø ø q=>q⟩
noncomputable def pick{α:Type}(l:List α)(lo hi st:Option Int):List α:=(sliceRange (sliceBounds lo hi st l.length).1 (sliceBounds lo hi st l.length).2.1 (sliceBounds lo hi st l.length).2.2).filterMap (l[·]?)
noncomputable def Bj(l:List Nat)(lo hi:Option Int):List Nat:=if((Builtin.Str.strSliceIndices lo hi 1 l.length).length==l.length)=true then l else(Builtin.Str.strSliceIndices lo hi 1 l.length).filterMap (l[·]?)
noncomputable def eT(x:V)(a b c:Option Int):Option V:=match x with
 | .list l=>if l.length<=most/\c≠some 0 then some (.list (pick l a b c))else none
 | .str l=>if l.length<=most/\c=none then some (.str (Bj l a b))else none
 |_=>none
theorem nV(l:List V)(a b c:Option Int):eT (.list l) a b c=if l.length<=most/\c≠some 0 then some (.list (pick l a b c))else none:=id rfl
theorem nX(l:List Nat)(a b:Option Int):eT (.str l) a b none=if l.length<=most then some (.str (Bj l a b))else none:=by
 show(if _ then _ else _)=_;by_cases h:l.length<=most
 ·rw[aw ⟨h,rfl⟩,aw h]
 ·rw[az fun z=>h z.1,az h]
noncomputable def Bk(P:Pk)(n:Nat)(K:Cx)(e:Option Expr)(f:al->Option (Option Int)):Prop:=
 ∀(A:Around) (env:Env) (out hid:List Addr) (m:Str->Option Value) (B s:Shared) (ρ:al) (x:Option Int) (E:Value->Shared->Prop),bW n A->aB P K env out hid m B s ρ->f ρ=some x->
  wpAny (model P.prog P.w) A (evalPart e env) (fun v s'=>Kp s s'/\∃q:Option (Int×Tok),v=partValue q/\q.map (·.1)=x) E s
theorem aO:Bk P n K none fun ø=>some none:=fun A env out hid m B s ρ x E rm S hf=>by
 cases hf;exact evalPart_none_step ⟨.refl s,none,rfl,rfl⟩
noncomputable def mJ:V->Option (Option Int)
 | .int i=>some (some i)
 | .none=>some none
 |_=>none
theorem bt{e:Expr}{f}(h:eM P n K true e f):Bk P n K (some e) fun ρ=>(f ρ).bind mJ:=fun A env out hid m B s ρ x E rm S hf=>by
 refine ah hf fun y hy gg=>?_
 clear hf;rename _=>hf
 refine evalPart_some_step (au (h A env out hid m B s ρ y E rm S hy) (fun v s₁ q=>⟨q.1,?_⟩) fun ø ø q=>q);have hv:=q.2;cases y<;>simp only[mJ]at hf<;>cases hf
 ·obtain rfl:=hv.none_inv
  exact⟨none,rfl,rfl⟩
 ·obtain⟨t,rfl⟩:=hv.int_inv
  exact⟨some (_,t),rfl,rfl⟩
theorem D9{q:Option (Int×Tok)}:IsPart (partValue q) (q.map (·.1)):=by
 rcases q with _|⟨i,t⟩
 ·exact .none
 ·exact .int i t
theorem NA{A:Around}{s:Shared}{hid:List Addr}{x z:V}{u:Value}{a b c:Option (Int×Tok)}{E:Value->Shared->Prop}(live:cx s.heap hid)(hx:Dn P s.heap hid x u)(hf:eT x (a.map (·.1)) (b.map (·.1)) (c.map (·.1))=some z):
  FC (model P.prog P.w) A E u (.ref s.heap.objs.size) (fun r s'=>Kp s s'/\Dn P s'.heap hid z r) {s with heap:=s.heap.push {cls:=.type "slice",data:=.fields #[partValue a,partValue b,partValue c]} }:=by
 have hm:=cZ;generalize j1:({s with heap:=s.heap.push {cls:=.type "slice",data:=.fields #[partValue a,partValue b,partValue c]} }:Shared)=s₁;have k₁:Kp s s₁:=by subst j1;exact Kp.push s _ _
 have Up:s₁.heap.get? s.heap.objs.size=some {cls:=.type "slice",data:=.fields #[partValue a,partValue b,partValue c]}:=by subst j1;exact bD _ rfl
 have Jm:=hx.kp k₁
 cases x with
 |str l=>
  refine ite_inv hf fun hc=>?_
  have hle:=hc.1
  cases c with
  |some c=>exact absurd hc.2 (by simp)
  |none=>
  clear hf hx;refine Jm.str_k rfl fun t=>?_
  refine⟨"str","str.__getitem__",F.slot_str_getitem.lookup,typeIs_str _ _ _,wpAny_getItem_str_slice (l:=a) (u:=b) (st:=none) ⟨_,Up,rfl,rfl⟩ rfl ?_⟩;unfold sliceMade slicePicked;simp only[Option.map_none,Option.getD_none,pO,ja,eu];unfold Bj;split
  ·exact⟨k₁.trans (.refl s₁),.ofStr _ _⟩
  ·refine⟨?_,k₁.trans (Kp.toks s₁ _),?_⟩
   ·show(List.filterMap _ _).toArray.size<=sizeLine
    rw[bM];refine aA (List.length_filterMap_le _ _) (aA (sliceIndices_le _ _ _) (aA hle hm))
   ·have e:(List.filterMap (fun x=>(pyStr l).cps[x]?) (Builtin.Str.strSliceIndices (a.map (·.1)) (b.map (·.1)) 1 l.length))=(Builtin.Str.strSliceIndices (a.map (·.1)) (b.map (·.1)) 1 l.length).filterMap (l[·]?):=by simp
    rw[e];exact .ofStr _ _
 |list l=>
  refine ite_inv hf fun hc=>Jm.jd rfl fun ad vs ø ha ø ht hd=>?_
  clear hf hx Jm;refine⟨"list","list.__getitem__",slot_list_getitem.lookup,ht.isList.typeIs,wpAny_getItem_list_slice ht.isList ⟨_,Up,rfl,rfl⟩ D9 D9 D9 hc.2 ⟨k₁.trans (Kp.push s₁ _ s₁.toks),?_⟩ (by rw[bM,hd.length];exact aA hc.1 hm)⟩;have hp:slicePick vs.toArray (a.map (·.1)) (b.map (·.1)) (c.map (·.1))=((sliceRange (sliceBounds (a.map (·.1)) (b.map (·.1)) (c.map (·.1)) l.length).1 (sliceBounds (a.map (·.1)) (b.map (·.1)) (c.map (·.1)) l.length).2.1 (sliceBounds (a.map (·.1)) (b.map (·.1)) (c.map (·.1)) l.length).2.2).filterMap (vs[·]?)).toArray:=by
   unfold slicePick;rw[bM,hd.length];simp
  rw[hp];refine Dn.newList (live.kp k₁) ?_;unfold pick;generalize sliceRange _ _ _=ix
  induction ix with
  |nil=>exact .nil
  |cons i ix ih=>
   cases hi:l[i]? with
   |none=>
    have hv:vs[i]?=none:=by
     rw[List.getElem?_eq_none_iff]at hi ⊢;rw[hd.length];exact hi
    rw[nr,hi,nr,hv];exact ih
   |some x=>
    obtain⟨v,hv,QM⟩:=aV.get hd hi;rw[nr,hi,nr,hv];exact .cons QM ih
 |_=>cases hf
noncomputable def jm(f:al->Option V)(a b c:al->Option (Option Int)):al->Option V:=fun ρ=>(f ρ).bind fun x=>(a ρ).bind fun p=>(b ρ).bind fun q=>(c ρ).bind fun r=>eT x p q r
theorem bC{o:Expr}{l u st:Option Expr}{p pos:Pos}{f a b c}(ho:eM P n K lo o f)(ha:Bk P n K l a)(hb:Bk P n K u b)(hc:Bk P n K st c):eM P n K lo (.Subscript o (.Slice l u st p) pos) (jm f a b c):=fun A env out hid m B s ρ z E rm S hf=>by
 refine ah hf fun x hx gg=>?_
 clear hf;rename _=>hf
 refine ah hf fun Y6 h1 gg=>?_
 clear hf;rename _=>hf
 refine ah hf fun Y7 h2 gg=>?_
 clear hf;rename _=>hf
 refine ah hf fun Y8 h3 gg=>?_
 clear hf;rename _=>hf
 refine sr (au (ho A env out hid m B s ρ x E rm S hx) (fun v s₁ lR=>?_) fun ø ø q=>q) (fun u v=>by cases st<;>exact⟨_,rfl⟩);have bc:=S.after lR.1;refine wpAny_Slice (au (ha A env out hid m B s₁ ρ Y6 E rm bc h1) (fun Y9 s₂ lS=>?_) fun ø ø q=>q);have cC:=bc.after lS.1;refine au (hb A env out hid m B s₂ ρ Y7 E rm cC h2) (fun Za cB um=>?_) fun ø ø q=>q
 have kX:=cC.after um.1;refine au (hc A env out hid m B cB ρ Y8 E rm kX h3) (fun ag2 gQ NB=>?_) fun ø ø q=>q
 have jP:=kX.after NB.1;obtain⟨ag3,rfl,rfl⟩:=lS.2;obtain⟨ag4,rfl,rfl⟩:=um.2;obtain⟨ag5,rfl,rfl⟩:=NB.2;have kk:=lR.1.trans (lS.1.trans (um.1.trans NB.1));obtain⟨T,id,c1,c2,c3⟩:=NA (P:=P) (A:=A) (E:=E) (jP.G6 lo) (((lR.2.kp lS.1).kp um.1).kp NB.1) hf;exact⟨T,id,c1,c2,au c3 (fun r nR q=>⟨kk.trans q.1,q.2⟩) fun ø ø q=>q⟩
end
section
variable{P:Pk}{n:Nat}{K K':Cx}{lo:Bool}
noncomputable def Bl(x y:V):Option V:=(r9 V.int? V.int? (fun a b=>some (.int (a+b))) x y).or
 (r9 V.jO V.jO (fun a b=>if a.length+b.length<=most then some (.str (a++b))else none) x y)
theorem Jn(a b:List Nat)(h:a.length+b.length<=most):Bl (.str a) (.str b)=some (.str (a++b)):=by
 show(if _ then _ else _)=_;rw[aw h]
noncomputable def Uq:V->V->Option V:=r9 V.int? V.int? fun a b=>some (.int (a-b))
noncomputable def Jo(P:Pk)(op:Operator)(F:V->V->Option V):Prop:=
 ∀(A:Around) (s:Shared) (hid:List Addr) (x y z:V) (u v:Value) (E:Value->Shared->Prop),bW 0 A->cx s.heap hid->Dn P s.heap hid x u->Dn P s.heap hid y v->F x y=some z->
  wpAny (model P.prog P.w) A (inplaceOp op u v) (fun r s'=>Kp s s'/\Dn P s'.heap hid z r) E s
theorem i2(i:Nat){x:Str}{k:NameKind}{p pos:Pos}{op:Operator}{e:Expr}{F f}(hi:K.vars[i]?=some (x,k,false))(kU:k≠ .free)(hc:(x==("__classdict__":Str))=false)(hd:(x==("__debug__":Str))=false)(ho:Jo P op F)(h:eM P n K false e f):
  ul P n K (.AugAssign (.Name x p) op e pos) (fun ρ=>(ρ i).bind fun a=>(f ρ).bind fun b=>(F a b).map fun c=>(upd ρ i c,.next)):=fun A env out hid m B s ρ aY fl E rm S hf=>by
 refine ah hf fun a ha gg=>?_
 clear hf;rename _=>hf
 refine ah hf fun b hb gg=>?_
 clear hf;rename _=>hf
 refine bV hf fun c Jc e=>?_
 clear hf
 first|refine pair_inv e ?_;clear e|cases e
 refine wpAny_AugAssign_Name (S.load hi ha hd hc fun u hu ø=>?_);rw[az (by decide)]at hu;refine au (h A env out hid m B s ρ b E rm S hb) (fun v s₁ ag=>?_) fun ø ø q=>q
 have bc:=S.after ag.1;refine au (ho A s₁ hid a b c u v E (rm.less (dU _)) bc.live (hu.kp ag.1) ag.2 Jc) (fun r s₂ aH=>?_) fun ø ø q=>q
 exact(bc.after aH.1).store hi aH.2 (fun q=>by cases q) kU fun m' s' S' K' ø=>⟨hid,m',S',(Ks.gV (ag.1.trans aH.1)).trans K',rfl⟩
noncomputable def PC(P:Pk)(F:V->V->V->Option V):Prop:=
 ∀(A:Around) (s:Shared) (L:Addr) (out hid:List Addr) (y i x y':V) (a:Addr) (iv v:Value) (E:Value->Shared->Prop),bW 0 A->fc P L s.heap out hid y (.ref a)->Dn P s.heap hid i iv->Dn P s.heap hid x v->F y i x=some y'->
  wpAny (model P.prog P.w) A (setItem (.ref a) iv v) (fun ø s'=>Heap.SameBut a s.heap s'.heap/\s'.gens=s.gens/\s'.os=s.os/\fc P L s'.heap out hid y' (.ref a)) E s
theorem lT(i:Nat){x:Str}{k:NameKind}{p sp pos:Pos}{ix e:Expr}{F f g}(hi:K.vars[i]?=some (x,k,true))(hd:(x==("__debug__":Str))=false)(hc:(x==("__classdict__":Str))=false)(ho:PC P F)(h:eM P n K false e f)(hx:eM P n K false ix g)
  (hs:∀env,swapsWith e (some (.Subscript (.Name x p) ix sp)) pos.line env=pure false):
  ul P n K (.Assign [.Subscript (.Name x p) ix sp] e pos) (fun ρ=>(f ρ).bind fun v=>(ρ i).bind fun y=>(g ρ).bind fun j=>(F y j v).map fun y'=>(upd ρ i y',.next)):=fun A env out hid m B s ρ aY fl E rm S hf=>by
 refine ah hf fun v hv gg=>?_
 clear hf;rename _=>hf
 refine ah hf fun y hy gg=>?_
 clear hf;rename _=>hf
 refine ah hf fun j hj gg=>?_
 clear hf;rename _=>hf
 refine bV hf fun y' Nz e=>?_
 clear hf
 first|refine pair_inv e ?_;clear e|cases e
 refine wpAny_Assign_Subscript (au (h A env out hid m B s ρ v E rm S hv) (fun u s₁ ag=>?_) fun ø ø q=>q) (hs env);have bc:=S.after ag.1;refine eV (bc.load hi hy hd hc fun w hw oU=>?_) hd;rw[aw rfl]at hw;obtain⟨a,rfl,b1,b2,b3,b4⟩:=fc.addr (P:=P) hw;refine au (hx A env out hid m B s₁ ρ j E rm bc hj) (fun jv s₂ aH=>?_) fun ø ø q=>q
 have cC:=bc.after aH.1;have PD:fc P env.locals s₂.heap out hid y (.ref a):=fc.grow (P:=P) hw aH.1.keep (fun ø q=>q) fun ø q=>.inl q
 refine au (ho A s₂ env.locals out hid y j v y' a jv u E (rm.less (dU _)) PD aH.2 (ag.2.kp aH.1) Nz) (fun ø cB q=>?_) fun ø ø q=>q
 obtain⟨q1,q2,q3,q4⟩:=q;obtain⟨z1,z2⟩:=cC.mut (s':=cB) hi (oU.grow (fun c v q=>q.keeps aH.1.keep) fun ø q=>q) hy PD (fun b o hb q=>(q1.2 b hb).trans q) (by rw[q2];exact .refl _) q3 q4;exact⟨hid,m,z1,(Ks.gV (ag.1.trans aH.1)).trans z2,rfl⟩
noncomputable def Jp(y i x:V):Option V:=i.int?.bind fun k=>match y with
 | .dict ks vs=>if ks.length<=most then some (.dict (cI ks k) (eP ks vs k x))else none
 | .list l=>if 0<=k/\k<l.length/\l.length<=most then some (.list (l.set k.toNat x))else none
 |_=>none
theorem Ea(ks:List Int)(vs:List V)(k:Int)(x:V):Jp (.dict ks vs) (.int k) x=if ks.length<=most then some (.dict (cI ks k) (eP ks vs k x))else none:=id rfl
theorem Eb(l:List V)(k:Int)(x:V):Jp (.list l) (.int k) x=if 0<=k/\k<l.length/\l.length<=most then some (.list (l.set k.toNat x))else none:=id rfl
theorem tL{h:Heap}{hid:List Addr}{q:Int}{x:V}{v:Value}(hx:Dn P h hid x v){ks:List Int}{xs:List V}{vs:List Value}(hl:vs.length=ks.length)(hd:aU P h hid xs vs):
  ∃gU,stored (ks.zip vs) q v=(cI ks q).zip gU/\gU.length=(cI ks q).length/\aU P h hid (eP ks xs q x) gU:=by
 have Ur:∀(ks:List Int) (vs:List Value),vs.length=ks.length->((ks.zip vs).any fun kv=>decide (kv.1=q))=ks.contains q:=by
  intro ks
  induction ks with
  |nil=>intro vs _;rfl
  |cons k ks ih=>
   intro vs hl
   cases vs with
   |nil=>simp at hl
   |cons w vs=>
    rw[nq,List.any_cons,ih vs (by simpa using hl),Du]
    congr 1
    show decide (k=q)=(q==k);by_cases e:k=q
    ·subst e;simp
    ·have:¬q=k:=fun z=>e z.symm
     simp[e,this]
 unfold stored cI eP;rw[Ur ks vs hl]
 cases hc:ks.contains q with
 |false=>
  simp only[gz,eW];exact⟨vs++[v],by rw[List.zip_append hl.symm];rfl,by simp[hl],hd.app (.one hx)⟩
 |true=>
  simp only[eI];clear hc Ur;refine⟨List.zipWith (fun k w=>if k=q then v else w) ks vs,?_,?_,?_⟩
  ·induction ks generalizing vs xs with
   |nil=>simp
   |cons k ks ih=>
    cases vs with
    |nil=>simp at hl
    |cons w vs=>
     obtain⟨w',r,e,h1,h2⟩:∃w' r,xs=w'::r/\True/\True:=by
      cases xs with
      |nil=>have:=aU.nil_inv hd;cases this
      |cons a b=>exact⟨a,b,rfl,trivial,trivial⟩
     subst e;obtain⟨_,_,e,_,hr⟩:=aU.cons_inv hd;cases e;rw[nq,bn,ih (by simpa using hl) hr,yQ,nq];by_cases e:k=q<;>simp[e]
  ·simp[hl]
  ·induction ks generalizing vs xs with
   |nil=>exact .nil
   |cons k ks ih=>
    cases vs with
    |nil=>simp at hl
    |cons w vs=>
     cases xs with
     |nil=>have:=aU.nil_inv hd;cases this
     |cons y ys=>
      obtain⟨_,_,e,h1,hr⟩:=aU.cons_inv hd;cases e;rw[yQ,yQ];refine .cons ?_ (ih (by simpa using hl) hr);by_cases e:k=q<;>simp[e,hx,h1]
theorem vz:Jo P .Add Bl:=fun A s hid x y z u v E rm hh hx hy hf=>lK hf
 (fun hf=>bI hf fun a b ha hb hz=>some_inv hz <| hx.int_k ha fun t=>hy.int_k hb fun t'=>PyProof.Rows.iadd_int ⟨Kp.toks s _,.ofInt _ _⟩)
 fun hf=>bI hf fun a b ha hb hz=>ite_inv hz fun hc=>hx.str_k ha fun t=>hy.str_k hb fun t'=>
  PyProof.Rows.iadd_str (fun t' tk=>⟨Kp.toks s _,by rw[oG];exact .ofStr _ _⟩) (by rw[eu,eu];exact aA hc cZ)
theorem QW:Jo P .Sub Uq:=fun A s hid x y z u v E rm hh hx hy hf=>bI hf fun a b ha hb hz=>some_inv hz <| hx.int_k ha fun t=>hy.int_k hb fun t'=>PyProof.Rows.isub_int ⟨Kp.toks s _,.ofInt _ _⟩
theorem aU.set{h:Heap}{hid}{x:V}{v:Value}(hx:Dn P h hid x v):∀{l:List V} {ws:List Value} (k:Nat),aU P h hid l ws->aU P h hid (l.set k x) (ws.set k v)
 |[],ws,k,e=>by obtain rfl:=aU.nil_inv e;simpa using e
 |y::l,ws,0,e=>by
  obtain⟨u,r,rfl,h1,h2⟩:=aU.cons_inv e;exact .cons hx h2
 |y::l,ws,k+1,e=>by
  obtain⟨u,r,rfl,h1,h2⟩:=aU.cons_inv e;exact .cons h1 (aU.set hx k h2)
theorem NC{n:Nat}(h:n<=most):(n:Int)<2^63:=by
 have:most=1000000:=rfl;omega
theorem xz{prog:Program}{w:World}{A:Around}{E:Value->Shared->Prop}{s:Shared}{l:Addr}{items:Array Value}{k:Int}{t:Tok}{v:Value}{Q:Unit->Shared->Prop}(hl:s.heap.PlainList l items)(h0:0<=k)(Zb:k<2^63)(hn:k<items.size)
  (hQ:∀h',h'.PlainList l (items.setIfInBounds k.toNat v)->Heap.SameBut l s.heap h'->Q () {s with heap:=h'}):wpAny (model prog w) A (setItem (.ref l) (.int k t) v) Q E s:=by
 obtain⟨e0,ho⟩:=id hl;have hT:=hl.isList.typeIs;unfold setItem
 try with_reducible refine gB ?_
 first|refine ar (bd ?_)|skip
 refine ar (wpAny_sequenceKey hT (by decide) ?_);refine ar (pW (name:=Str.ofString "__setitem__") hT slot_list_setitem (po slot_list_setitem hT entry_list_setitem ?_ (args_list_setitem _ _ _)));show wpAny _ _ (Builtin.List.listSubscript? (.int k t)>>= _) _ _ s;refine ar (wpAny_listSubscript_int (fitsIndex_of h0 Zb) ?_);obtain⟨j,rfl⟩:=Dw h0;have hj:j<items.size:=by omega
 have IX:items[j]?=some items[j]:=Array.getElem?_eq_getElem hj;show wpAny _ _ ((seqItemAt l j>>= fun r=>pure (r.map (j,·)))>>= _) _ _ s;refine ar (ar (wpAny_seqItemAt ho rfl (bd ?_)));rw[IX];show wpAny _ _ (setSeqItemAt l j v>>= _) _ _ s;refine ar (wpAny_setSeqItemAt ho rfl ?_);have hp:=jj (f:=(·.setIfInBounds j v)) ho rfl
 first
  |exact ar (bd (bd ⟨.none,rfl,bd (hQ _ hp (pj ..))⟩))
  |exact bd ⟨.none,rfl,bd (hQ _ hp (pj ..))⟩
theorem fc.jd{L h out hid l a}{G:Prop}(e:fc P L h out hid (.list l) (.ref a))(k:∀vs,a∈hid->a∉out->a≠L->h.PlainList a vs.toArray->aU P h hid l vs->G):G:=by
 obtain⟨a',vs,e,h1,h2,h3,h4,h5⟩:=fc.em e;cases e;exact k vs h1 h2 h3 h4 h5
theorem FH:PC P Jp:=fun A s L out hid y i x y' a iv v E rm hb hi hx hf=>ah hf fun k hk hf=>hi.int_k hk fun t=>by
 clear hi hk
 cases y with
 |list l=>
  refine ite_inv hf fun hc=>fc.jd hb fun ws c1 c2 c3 c4 c5=>?_
  clear hf hb;refine xz c4 hc.1 (Int.lt_trans hc.2.1 (NC hc.2.2)) (by rw[bM,c5.length];exact hc.2.1) fun h' jN hs=>⟨hs,rfl,rfl,?_⟩
  exact fc.ofList c1 c2 c3 (vs:=ws.set k.toNat v) (by simpa using jN) (aU.set (Dn.but hx c1 hs) _ (aU.but c5 c1 hs))
 |dict ks vs=>
  refine ite_inv hf fun hc=>?_
  obtain⟨a',ws,e,c1,c2,c3,c4,c5,c6,c7⟩:=fc.fe hb;cases e;clear hf hb;refine wpAny_setItem_pairs (pV P.prog P.w k t) c6 (fun h' i1 hs=>⟨hs,rfl,rfl,?_⟩) (by rw[u0,c5,u1];exact aA hc cZ);obtain⟨gU,e1,e2,e3⟩:=tL (P:=P) (q:=k) (Dn.but hx c1 hs) c5 (aU.but c7 c1 hs);rw[e1]at i1;exact⟨a,gU,rfl,c1,c2,c3,c4,e2,i1,e3⟩
 |_=>cases hf
end
section
variable{P:Pk}{n:Nat}{K K':Cx}{lo:Bool}
noncomputable def V.QX:V->Option Nat
 | .list l=>some l.length
 | .tup l=>some l.length
 | .str l=>some l.length
 | .dict ks _=>some ks.length
 |_=>Option.none
noncomputable def one?:List V->Option V
 |[x]=>some x
 |_=>none
theorem gG:∀{xs:List V} {x},one? xs=some x->xs=[x]
 |[_],_,h=>congrArg (fun x=>[x]) (Option.some.inj h)
 |[],_,h|_::_::_,_,h=>nomatch h
noncomputable def qX(xs:List V):Option V:=(one? xs).bind fun x=>x.QX.bind fun n=>if n<=most then some (.int n)else none
theorem uD{x:V}{n:Nat}(h:x.QX=some n)(hm:n<=most):qX [x]=some (.int n):=by
 unfold qX one?;rw[m4,h,m4,aw hm]
theorem FI{h:Heap}{hid x vs}(e:aU P h hid [x] vs):∃v,vs=[v]/\Dn P h hid x v:=by
 obtain⟨v,r,rfl,h1,h2⟩:=aU.cons_inv e;obtain rfl:=aU.nil_inv h2;exact⟨v,rfl,h1⟩
@[elab_as_elim] theorem aU.one?_k {h:Heap} {hid xs x vs} {C:List Value->Prop} (e:aU P h hid xs vs) (q:one? xs=some x) (k:∀v,Dn P h hid x v->C [v]):C vs:=by
 cases gG q;exact e.one_k k
theorem V.QY{x:V}{n:Nat}{G:Prop}(h:x.QX=some n)(k1:∀l,x= .list l->n=l.length->G)(k2:∀l,x= .tup l->n=l.length->G)(k3:∀l,x= .str l->n=l.length->G)(k4:∀ks l,x= .dict ks l->n=ks.length->G):G:=by
 cases x with
 |list l=>exact k1 l rfl (Option.some.inj h).symm
 |tup l=>exact k2 l rfl (Option.some.inj h).symm
 |str l=>exact k3 l rfl (Option.some.inj h).symm
 |dict ks l=>exact k4 ks l rfl (Option.some.inj h).symm
 |_=>cases h
theorem iw{n:Nat}(h:n<=most):(n:Int)<2^63:=by
 have:most=1000000:=rfl;omega
theorem FJ{ws:List Value}{ks:List Int}(h:ws.length=ks.length):(ks.zip ws).length=ks.length:=by rw[u0,h,u1]
theorem jn:aZ P n (.builtin "len") qX:=fun A s hid xs x vs E rm hG live hd hf=>ah hf fun y hy hf=>ah hf fun n hn hf=>ite_inv hf fun hm=>hd.one?_k hy fun v hv=>by
 clear hd hf hy;refine V.QY hn (fun l e1 e2=>?_) (fun l e1 e2=>?_) (fun l e1 e2=>?_) fun ks l e1 e2=>?_<;>subst e1<;>subst e2
 ·refine hv.jd rfl fun a ws k ha ø ht i1=>?_
  refine Calls.call_len_list ht.isList (by rw[bM,i1.length];first|exact iw hm|exact pU.mpr (iw hm)) ⟨Kp.toks s _,?_⟩;rw[bM,i1.length];exact .ofInt _ _
 ·obtain⟨a,ws,rfl,ha,ht,i1⟩:=hv.oF
  refine PyProof.Rows.len_tuple ht.isTup (by rw[bM,i1.length];first|exact iw hm|exact pU.mpr (iw hm)) ⟨Kp.toks s _,?_⟩;rw[bM,i1.length];exact .ofInt _ _
 ·refine hv.str_k rfl fun t=>?_
  refine PySem.P.len_str (by rw[eu];first|exact iw hm|exact pU.mpr (iw hm)) ⟨Kp.toks s _,?_⟩;rw[eu];exact .ofInt _ _
 ·obtain⟨a,ws,rfl,ha,hlen,lE,ht,i1⟩:=hv.fe
  refine call_len_dict lE ht (by rw[FJ hlen];first|exact iw hm|exact pU.mpr (iw hm)) ⟨Kp.toks s _,?_⟩;rw[FJ hlen];exact .ofInt _ _
noncomputable def Us(xs:List V):Option V:=(one? xs).bind fun x=>x.jO.bind fun l=>(QE l).map fun(c:Nat)=>V.int (Int.ofNat c)
theorem QZ(c:Nat):Us [.str [c]]=some (.int (c:Int)):=rfl
theorem Jq:aZ P n (.builtin "ord") Us:=fun A s hid xs x vs E rm hG live hd hf=>ah hf fun y hy hf=>ah hf fun l hl hf=>map_inv hf fun c hc=>hd.one?_k hy fun v hv=>by
 cases AY hc;exact hv.str_k hl fun t=>PySem.P.ord_of_char ⟨Kp.toks s _,.ofInt _ _⟩
noncomputable def Ec(xs:List V):Option V:=(one? xs).bind fun x=>x.int?.bind fun i=>if 0<=i/\i<=0x10FFFF then some (.str [i.toNat])else none
theorem Q0(i:Int):Ec [.int i]=if 0<=i/\i<=0x10FFFF then some (.str [i.toNat])else none:=id rfl
theorem Bm:aZ P n (.builtin "chr") Ec:=fun A s hid xs x vs E rm hG live hd hf=>ah hf fun y hy hf=>ah hf fun i hi hf=>ite_inv hf fun hc=>hd.one?_k hy fun v hv=>hv.int_k hi fun t=>
 PySem.P.chr_of_int (by clear hd hf hv;simp;omega) ⟨Kp.toks s _,.ofStr [i.toNat] _⟩
noncomputable def digits(i:Int):List Nat:=(Str.ofString (toString i)).cps.toList
noncomputable def Q1(xs:List V):Option V:=(one? xs).bind fun x=>x.int?.bind fun i=>if 0<=i/\i<=1000000 then some (.str (digits i))else none
theorem Q2(i:Int):Q1 [.int i]=if 0<=i/\i<=1000000 then some (.str (digits i))else none:=id rfl
theorem Hn{i:Int}(hc:0<=i/\i<=1000000):i.natAbs<2^64:=by omega
theorem Ut:aZ P n (.type "str") Q1:=fun A s hid xs x vs E rm hG live hd hf=>ah hf fun y hy hf=>ah hf fun i hi hf=>ite_inv hf fun hc=>hd.one?_k hy fun v hv=>hv.int_k hi fun t=>by
 refine PySem.P.str_of_int ?_ ⟨Kp.toks s _,.ofStr (digits i) _⟩;have h1:=Hn hc;clear hd hf hv hy hi hc;by_cases h0:i.natAbs=0
 ·rw[h0];decide
 ·have:=(Nat.log2_lt h0).mpr h1
  omega
noncomputable def j2:List V->Option (List Int)
 |[]=>some []
 |x::l=>x.int?.bind fun i=>(j2 l).map (i:: ·)
theorem Jr:j2 []=some []:=rfl
theorem Bn(i:Int)(l:List V):j2 (.int i::l)=(j2 l).map (i:: ·):=rfl
theorem sv{y:V}{l:List V}{is:List Int}(h:j2 (y::l)=some is):∃k PE,y= .int k/\j2 l=some PE/\is=k::PE:=by
 obtain⟨i,hi,h⟩:=nc.mp h;obtain⟨r,h1,h2⟩:=ph.mp h;exact⟨i,r,V.kR hi,h1,h2.symm⟩
theorem Bo:∀{l:List V} {is:List Int} {i:Nat} {x:V},j2 l=some is->l[i]?=some x->∃k,x= .int k/\is[i]?=some k
 |[],is,i,x,h,hx=>by simp at hx
 |y::l,is,i,x,h,hx=>by
  obtain⟨k,PE,rfl,h',rfl⟩:=sv h
  cases i with
  |zero=>simp at hx;subst hx;exact⟨k,rfl,by simp⟩
  |succ i=>simpa using Bo (l:=l) (i:=i) h' (by simpa using hx)
theorem sw:∀{l:List V} {is:List Int},j2 l=some is->is.length=l.length
 |[],is,h=>by cases h;rfl
 |y::l,is,h=>by
  obtain⟨k,PE,rfl,h',rfl⟩:=sv h;simp[sw h']
noncomputable def zk(xs:List V):Option V:=(one? xs).bind fun x=>x.gF.bind fun l=>(j2 l).map fun is=>.int is.sum
theorem Q3(l:List V):zk [.list l]=(j2 l).map fun is=>.int is.sum:=rfl
theorem Ed(is:List Int):preSum (fun j=>(is[j]?).getD 0) is.length=is.sum:=by
 have key:∀(is:List Int) (k:Nat),k<=is.length->preSum (fun j=>(is[j]?).getD 0) k=(is.take k).sum:=by
  intro is k
  induction k with
  |zero=>intro _;simp[preSum]
  |succ k ih=>
   intro hk;rw[preSum,ih (by omega),List.take_succ_eq_append_getElem (by omega),List.sum_append];simp[show k<is.length by omega]
 rw[key is is.length (cF _),List.take_length]
theorem PF:aZ P n (.builtin "sum") zk:=fun A s hid xs x vs E rm hG live hd hf=>ah hf fun y hy hf=>ah hf fun l hl hf=>map_inv hf fun is ND=>hd.one?_k hy fun v hv=>hv.jd hl fun a ws ø ha ø ht i1=>by
 clear hd hf hy
 ·
  have bN:a≠s.heap.objs.size:=fun e=>by obtain⟨k,z⟩:=ht;rw[e,aP]at z;cases z
  refine call_sum_walkAnyS (yM ht.isList ?_);have W:=(Walks.list (prog:=P.prog) (w:=P.w) (A:=A.in1) rm.handled s.heap.objs.size a bN ws.toArray).toS;refine⟨_,_,_,_,_,_,_,fun j=>(is[j]?).getD 0,rfl,W,⟨⟨_,bD _ rfl,rfl,rfl⟩,ht.isList.at fun o q=>bK _ q⟩,fun b hb=>?_,fun i v hv=>?_,fun s' t' mv=>?_⟩
  ·rw[qK]
   rcases bp.mp hb with rfl|hb
   ·exact m3 _
   ·obtain rfl:b=a:=by simpa using hb
    obtain⟨k,z⟩:=ht;exact nu (f5 z)
  ·have hv:ws[i]?=some v:=by simpa using hv
   obtain⟨y,hy,hr⟩:=aV.get' i1 hv;obtain⟨k,rfl,hk⟩:=Bo ND hy;obtain⟨t,rfl⟩:=Dn.int_inv (P:=P) hr;exact⟨t,by simp[hk]⟩
  ·refine⟨⟨fun b o q=>mv.heap b o (fun hm=>?_) (bK _ q),?_,mv.os⟩,?_⟩
   ·obtain rfl:b=s.heap.objs.size:=by simpa using hm
    rw[aP]at q;cases q
   ·have:=mv.gens
    rw[show s'.gens=s.gens from this];exact .refl _
   ·rw[bM,i1.length,<-sw ND,Ed]
    exact .ofInt _ _
noncomputable def vA(f:Nat->Int):Nat->Int
 |0=>f 0
 |k+1=>max (vA f k) (f (k+1))
theorem FK(f:Nat->Int):vA f 0=f 0:=rfl
theorem zl(f:Nat->Int)(k:Nat):vA f (k+1)=max (vA f k) (f (k+1)):=rfl
theorem tM(f:Nat->Int):∀k,f (argBest (fun i j=>decide (f i>f j)) k)=vA f k
 |0=>rfl
 |k+1=>by
  have ih:=tM f k;unfold argBest;rw[zl];rw[<-ih];by_cases h:f (k+1)>f (argBest (fun i j=>decide (f i>f j)) k)
  ·rw[aw (by simpa using h)];omega
  ·rw[az (by simpa using h)];omega
noncomputable def Js(l:List V):Option V:=if l.isEmpty=true then none else(j2 l).map fun is=>.int (vA (fun j=>(is[j]?).getD 0) (is.length-1))
noncomputable def Ee:List V->Option V
 |[x]=>x.gF.bind Js
 |[x,y]=>r9 V.int? V.int? (fun a b=>some (.int (if b>a then b else a))) x y
 |_=>none
theorem Q4(l:List V):Ee [.list l]=Js l:=rfl
theorem Q5(a b:Int):Ee [.int a,.int b]=some (.int (if b>a then b else a)):=rfl
theorem Bp{l:List V}{is:List Int}{h:Heap}{hid:List Addr}:∀{ws:List Value},j2 l=some is->aU P h hid l ws->∃ts:List (Int×Tok),ws.toArray=intItems ts.toArray/\ts.map (·.1)=is:=by
 induction l generalizing is with
 |nil=>
  intro ws h1 h2;cases h1;obtain rfl:=aU.nil_inv h2;exact⟨[],by simp[intItems],rfl⟩
 |cons y l ih=>
  intro ws h1 h2;obtain⟨v,r,rfl,hv,hr⟩:=aU.cons_inv h2;obtain⟨k,PE,rfl,h',rfl⟩:=sv h1;obtain⟨t,rfl⟩:=hv.int_inv;obtain⟨ts,e1,e2⟩:=ih h' hr;refine⟨(k,t)::ts,?_,by simp[e2]⟩;have e1':r=ts.map fun p=>Value.int p.1 p.2:=by
   have:=congrArg Array.toList e1;simpa[intItems]using this
  simp[intItems,e1']
theorem NE{A:Around}{s:Shared}{hid:List Addr}{l:List V}{x:V}{v:Value}{E:Value->Shared->Prop}(rm:bW n A)(hv:Dn P s.heap hid (.list l) v)(hf:Js l=some x):
  wpAny (model P.prog P.w) A (call (.builtin "max") [v]) (fun r s'=>Kp s s'/\Dn P s'.heap hid x r) E s:=by
 unfold Js at hf;by_cases bN:l.isEmpty=true
 ·rw[aw bN]at hf;cases hf
 ·rw[az bN]at hf
  refine map_inv hf fun is ND=>hv.jd rfl fun a ws ø ha ø ht i1=>?_
  clear hf hv;obtain⟨ts,e1,e2⟩:=Bp ND i1;rw[e1]at ht;have hlen:ts.length=is.length:=by rw[<-e2];simp
  have hl:is.length=l.length:=sw ND;have I8:0<ts.toArray.size:=by
   rw[bM,hlen,hl];exact uY.mpr fun z=>bN (by rw[z];rfl)
  have oU:numAt ts.toArray=fun j=>(is[j]?).getD 0:=by
   funext j
   unfold numAt;rw[<-e2];simp
  refine max_intList rm.handled ht.isList I8 fun v h' tk Ud hk=>⟨.heap hk,?_⟩
  obtain⟨t,rfl⟩:=intItems_at Ud;have e3:=tM (numAt ts.toArray) (ts.toArray.size-1);rw[e3,oU,bM,hlen];exact .ofInt _ _
theorem Jt:aZ P n (.builtin "max") Ee:=fun A s hid xs x vs E rm hG live hd hf=>by
 cases xs with
 |nil=>cases hf
 |cons y xs=>cases xs with
  |nil=>exact ah hf fun l hl hf=>hd.one_k fun v hv=>NE rm (V.fQ hl▸hv) hf
  |cons z xs=>cases xs with
   |nil=>
    exact bI hf fun a b ha hb hf=>some_inv hf <| hd.two_k fun v w hv hw=>hv.int_k ha fun t=>hw.int_k hb fun t'=>max_two_ints rm.handled fun h' tk hk=>⟨.heap hk,by
     by_cases h:b>a
     ·rw[aw h,aw h];exact .ofInt _ _
     ·rw[az h,az h];exact .ofInt _ _⟩
   |cons _ _=>cases hf
end
section
variable{P:Pk}{n:Nat}{K K':Cx}{lo:Bool}
inductive DmQ(P:Pk)(name:Str)(s:Shared)(hid:List Addr)(y:V)(v:Value)(xs:List V)(r:V):Prop
 |mk (T id:String) (p:PlainAttrs T) (sl:Slot T name id) (t:typeOf (.builtin id)=pure (.type "method_descriptor")) (ty:s.TypeIs v T) (nd:∀a,v= .ref a->∃ob,s.heap.get? a=some ob/\ob.dict=none)
  (h:∀(A:Around) (s₁:Shared) (vs:List Value) (E:Value->Shared->Prop),bW 0 A->P.G s₁.heap->cx s₁.heap hid->Dn P s₁.heap hid y v->aU P s₁.heap hid xs vs->
   wpAny (model P.prog P.w) A (call (.builtin id) (v::vs)) (fun u s'=>Kp s₁ s'/\Dn P s'.heap hid r u) E s₁):DmQ P name s hid y v xs r
noncomputable def NF(P:Pk)(name:Str)(F:V->List V->Option V):Prop:=
 ∀(s:Shared) (hid:List Addr) (y:V) (v:Value) (xs:List V) (r:V),P.G s.heap->Dn P s.heap hid y v->F y xs=some r->DmQ P name s hid y v xs r
noncomputable def Q6(F:V->List V->Option V)(f:al->Option V)(g:al->Option (List V)):al->Option V:=fun ρ=>(f ρ).bind fun y=>(g ρ).bind fun xs=>F y xs
theorem eE{o:Expr}{apos pos:Pos}{name:Str}{args:List Expr}{F f g}(ho:eM P n K lo o f)
  (hm:NF P name F) (ha:lH P n K lo args g) (eF:∀env,starEach args env=args.map fun e=>(false,eval e env)) (bN:args.length<20) (jh:(apos.endLine==pos.line)=true) (ji:∀env,attributeBase o name env (eval o env)=eval o env):
  eM P n K lo (.Call (.Attribute o name apos) args [] pos) (Q6 F f g):=fun A env out hid m B s ρ z E r S hf=>by
 refine ah hf fun y hy gg=>?_
 clear hf;rename _=>hf
 refine ah hf fun xs xv hF=>?_
 have cL:(backTo pos (starEach args env)).any (·.1)=false:=dg eF;refine yJ (ji env) (nP cL bN) jh ?_;refine au (ho A env out hid m B s ρ y E r S hy) (fun v s₁ q=>?_) fun ø ø q=>q
 have bc:=S.after q.1;obtain⟨T,id,c1,c2,c3,c4,c5,c6⟩:=hm s₁ (av lo out hid) y v xs z bc.G q.2 hF;refine⟨T,id,c1,c2,c3,c4,c5,rL cL ?_⟩;have key:=ha A env out hid m B s₁ ρ xs E pos r bc xv;have fin:∀vs s₂,(Kp s₁ s₂/\aU P s₂.heap (av lo out hid) xs vs)->wpAny (model P.prog P.w) A (call (.builtin id) ([v]++vs) []) (fun u s'=>Kp s s'/\Dn P s'.heap (av lo out hid) z u) E s₂:=by
  intro vs s₂ aH;have cC:=bc.after aH.1;exact au (c6 A s₂ vs E (r.less (dU _)) cC.G (cC.G6 lo) (Dn.kp (P:=P) q.2 aH.1) aH.2) (fun u s' q'=>⟨(q.1.trans aH.1).trans q'.1,q'.2⟩) fun ø ø q=>q
 exact dM cL (au key fin fun ø ø q=>q)
noncomputable def j3:List V->Option (List (List Nat))
 |[]=>some []
 |x::l=>x.jO.bind fun i=>(j3 l).map (i:: ·)
theorem Ju:j3 []=some []:=rfl
theorem Jv(i:List Nat)(l:List V):j3 (.str i::l)=(j3 l).map (i:: ·):=rfl
theorem sx{y:V}{l:List V}{is:List (List Nat)}(h:j3 (y::l)=some is):∃k PE,y= .str k/\j3 l=some PE/\is=k::PE:=by
 obtain⟨i,hi,h⟩:=nc.mp h;obtain⟨r,h1,h2⟩:=ph.mp h;exact⟨i,r,V.kS hi,h1,h2.symm⟩
theorem sy{h:Heap}{hid}:∀{l:List V} {ts:List (List Nat)} {vs:List Value},j3 l=some ts->aU P h hid l vs->∃w:List (Str×Tok),vs=strValues w/\w.map (·.1)=ts.map pyStr
 |[],ts,vs,e,d=>by cases e;obtain rfl:=aU.nil_inv d;exact⟨[],rfl,rfl⟩
 |y::l,ts,vs,e,d=>by
  obtain⟨t,ts',rfl,h',rfl⟩:=sx e;obtain⟨v,r,rfl,h1,h2⟩:=aU.cons_inv d;obtain⟨k,rfl⟩:=h1.str_inv;obtain⟨w,rfl,hw⟩:=sy h' h2;exact⟨(pyStr t,k)::w,rfl,by simp[hw]⟩
noncomputable def nY(sep:List Nat):List (List Nat)->List Nat
 |[]=>[]
 |[x]=>x
 |x::y::r=>x++sep++nY sep (y::r)
theorem jo(sep:List Nat):nY sep []=[]:=rfl
theorem jp(sep x:List Nat):nY sep [x]=x:=rfl
theorem jq(sep x y:List Nat)(r:List (List Nat)):nY sep (x::y::r)=x++sep++nY sep (y::r):=rfl
theorem FL(sep:List Nat):∀ts:List (List Nat),Str.join (pyStr sep) (ts.map pyStr)=pyStr (nY sep ts)
 |[]=>rfl
 |[x]=>rfl
 |x::y::r=>by
  show pyStr x++pyStr sep++Str.join (pyStr sep) ((y::r).map pyStr)=_;rw[FL sep (y::r),oG,oG];rfl
noncomputable def Uu(sep:List Nat)(l:List V):Option V:=(j3 l).bind fun ts=>if JoinOk (pyStr sep) (ts.map pyStr)=true then some (.str (nY sep ts))else none
noncomputable def tN(y:V)(xs:List V):Option V:=y.jO.bind fun sep=>(V.one? xs).bind fun x=>x.gF.bind (Uu sep)
theorem uE(sep:List Nat)(l:List V):tN (.str sep) [.list l]=(j3 l).bind fun ts=>if JoinOk (pyStr sep) (ts.map pyStr)=true then some (.str (nY sep ts))else none:=rfl
theorem qY:NF P "join" tN:=fun s hid y v xs r G hv hF=>ah hF fun sep hs hF=>ah hF fun x IU hF=>ah hF fun l hl hF=>ah hF fun ts NG hF=>eN hF fun Dj e=>by
 cases V.gG IU;subst e;exact hv.str_k hs fun t=>⟨"str","str.join",PySem.F.plainAttrs_str,PySem.F.slot_str_join,PySem.F.type_str_join,typeIs_str _ _ _,(fun ø e=>nomatch e),fun A s₁ vs E rm NH live x0 hx=>hx.one_k fun u hu=>hu.jd hl fun a ws ø ha ø ht hd=>by
  obtain⟨w,rfl,hw⟩:=sy NG hd;refine PySem.SC.join ht.isList hw Dj fun t' k=>⟨Kp.toks s₁ k,?_⟩
  rw[show Txt.join (pyStr sep) (ts.map pyStr)=pyStr (nY sep ts)from(PySem.StrLaws.glued_eq_join _ _).trans (FL sep ts)];exact .ofStr _ _⟩
noncomputable def oY(l:List Nat):List Nat:=(Txt.lower (pyStr l)).cps.toList
noncomputable def Q7(y:V)(xs:List V):Option V:=y.jO.bind fun l=>if xs.isEmpty=true/\Builtin.Str.tooLong (Txt.lower (pyStr l)).length=false then some (.str (oY l))else none
theorem Q8(l:List Nat)(h:Builtin.Str.tooLong (Txt.lower (pyStr l)).length=false):Q7 (.str l) []=some (.str (oY l)):=by
 show(if _ then _ else _)=_;rw[aw ⟨rfl,h⟩]
theorem Uv:NF P "lower" Q7:=fun s hid y v xs r G hv hF=>ah hF fun l hl hF=>eN hF fun Dj e=>by
 subst e;obtain⟨h1,Dj⟩:=Dj
 cases xs with
 |cons _ _=>cases h1
 |nil=>
  exact hv.str_k hl fun t=>⟨"str","str.lower",PySem.F.plainAttrs_str,PySem.F.slot_str_lower,PySem.F.type_str_lower,typeIs_str _ _ _,(fun ø e=>nomatch e),fun A s₁ vs E rm NH live x0 hx=>by
   obtain rfl:=aU.nil_inv hx;exact PySem.SC.lower (t:=t) Dj ⟨Kp.toks s₁ _,.ofStr (oY l) _⟩⟩
end
section
variable{P:Pk}{n:Nat}{K K':Cx}{lo:Bool}
noncomputable def Uw(xs:List V):Option V:=(V.one? xs).bind fun x=>x.gF.bind fun l=>if l.length<=most then some (.tup l)else none
theorem Q9(l:List V):Uw [.list l]=if l.length<=most then some (.tup l)else none:=id rfl
theorem Ra{A:Around}{s:Shared}{hid:List Addr}{a:Addr}{ws:List Value}{l:List V}{E:Value->Shared->Prop}(live:cx s.heap hid)(ht:s.heap.PlainList a ws.toArray)(hd:aU P s.heap hid l ws)(hm:l.length<=most):
  wpAny (model P.prog P.w) A (call (.type "tuple") [.ref a]) (fun r s'=>Kp s s'/\Dn P s'.heap hid (.tup l) r) E s:=by
 refine PySem.call_tuple_list ht.isList (fun h' hk=>?_) (by rw[bM,hd.length];exact aA hm cZ);have kp:Kp s {s with heap:=h'.push {cls:=.type "tuple",data:=.seq ws.toArray} }:=⟨fun b o e=>bK _ (hk b o e),.refl _,rfl⟩;refine⟨kp,.Pr ?_ ⟨0,bD _ rfl⟩ (aU.kp (P:=P) hd kp)⟩;intro q;obtain⟨o,e⟩:=live _ q;have:=hk _ _ e;rw[aP]at this;cases this
noncomputable def Zc(xs:List V):Option V:=(sj xs).bind fun l=>if l.length<=most then some (.list l)else none
theorem aU.Zd{h:Heap}{hid}{l:List V}:∀{vs:List Value},vs.length=l.length->(∀(i:Nat) x v,l[i]?=some x->vs[i]?=some v->Dn P h hid x v)->aU P h hid l vs:=by
 induction l with
 |nil=>
  intro vs hl _;cases List.length_eq_zero_iff.mp hl;exact aV.nil
 |cons x l ih=>
  intro vs hl h1
  cases vs with
  |nil=>cases hl
  |cons v vs=>exact .cons (h1 0 x v rfl rfl) (ih (rR hl) fun i y u hy hu=>h1 (i+1) y u hy hu)
set_option tactic.hygienic true in
theorem uo{p p2 pos vB:Pos}{es:List Expr}{f}(hx:K.aM.contains "range"=true)(hv:P.glob "range"=some (.type "range"))(IX:K.aM.contains "list"=true)(Ud:P.glob "list"=some (.type "list"))
  (hs:lH P n K false es f) (eF:∀env,starEach es env=es.map fun e=>(false,eval e env)) (Jw:∀env,starEach [.Call (.Name "range" p2) es [] vB] env=[(false,eval (.Call (.Name "range" p2) es [] vB) env)]):
  M2 P n K (.Call (.Name "list" p) [.Call (.Name "range" p2) es [] vB] [] pos) (fun ρ=>(f ρ).bind Zc):=fun A env out hid m B s ρ x E rm S hf=>by
 refine ah hf fun y hy gg=>?_
 clear hf;rename _=>hf
 refine ah hf fun l hl gg=>?_
 clear hf;rename _=>hf
 split at hf
 case isFalse=>cases hf
 rename_i hm;cases hf;have hp:(backTo pos (starEach [.Call (.Name "range" p2) es [] vB] env)).any (·.1)=false:=by rw[Jw];rfl
 refine kK (bH S IX Ud (by decide) ?_);refine yG hp ?_;refine dM hp (jV (Q:=fun vs s'=>wpAny (model P.prog P.w) A (call (.type "list") ([]++vs) []) (fun v s'=>Kp s s'/\Nl P s s' hid (.list l) v) E s') ?_ (Jw env));refine kK (bH S hx hv (by decide) ?_);refine yG (dg eF) ?_;refine dM (dg eF) (au (hs A env out hid m B s ρ y E vB rm S hy) (fun vs s₁ ag=>?_) fun ø ø q=>q);refine A6 (vs:=[]++vs) ag.2 hl fun a b c t u v k s₂ jN hk lE hr kp=>?_
 subst jN;refine jU ?_;have Ux:k<=most:=by simpa using hm
 have Bq:most=1000000:=rfl;refine call_list_range rm.handled hr lE hk.symm (by omega) fun h' tk xA c' Uy hS hit=>?_
 have kp':Kp s₂ {s₂ with heap:=h',toks:=tk}:=.heap Uy;refine⟨ag.1.trans (kp.trans kp'),?_⟩;have eG:s.heap.get? s₂.heap.objs.size=none:=by
  cases e:s.heap.get? s₂.heap.objs.size with
  |none=>rfl
  |some o=>have:=kp.keep _ _ (ag.1.keep _ _ e);rw[aP]at this;cases this
 refine⟨_,xA.toList,rfl,eG,⟨c',by simpa using hS⟩,aU.Zd (by simp[hit.1]) fun i z w hz hw=>?_⟩;rw[bL]at hz;have hw':xA[i]?=some w:=by simpa using hw
 obtain⟨t',rfl⟩:=hit.2 i w hw';by_cases hi:i<k
 ·rw[Ds hi]at hz
  cases hz;exact .ofInt _ _
 ·rw[iL (by simpa using hi)]at hz;cases hz
end
section
variable{P:Pk}{n:Nat}{K K':Cx}{lo:Bool}
noncomputable def getL(d:List Int×List V):List V->Option V
 |[x]=>x.int?.bind fun k=>some ((bR d.1 d.2 k).getD .none)
 |[x,z]=>x.int?.bind fun k=>some ((bR d.1 d.2 k).getD z)
 |_=>none
noncomputable def Rb(y:V)(xs:List V):Option V:=y.AZ.bind fun d=>getL d xs
theorem Rc(ks:List Int)(vs:List V)(k:Int)(d:V):Rb (.dict ks vs) [.int k,d]=some ((bR ks vs k).getD d):=rfl
theorem vC{h:Heap}{hid:List Addr}{q:Int}{ks:List Int}{xs:List V}{vs:List Value}{d:V}{u:Value}(hl:vs.length=ks.length)(hd:aU P h hid xs vs)(hu:Dn P h hid d u):Dn P h hid ((bR ks xs q).getD d) ((valueAt (ks.zip vs) q).getD u):=by
 have:=vy (P:=P) (q:=q) hl hd
 cases e:bR ks xs q with
 |some z=>rw[e]at this;obtain⟨w,hw,hz⟩:=this;rw[hw];exact hz
 |none=>rw[e]at this;rw[this];exact hu
theorem Jx:NF P "get" Rb:=fun s hid y v xs r G hv hF=>ah hF fun d hd hF=>by
 cases V.oH hd;clear hd;replace hF:getL d xs=some r:=hF;obtain⟨a,vs,rfl,ha,hlen,lE,ht,hd⟩:=hv.fe;refine⟨"dict","dict.get",yR,u2,PySem.F.type_dict_get,ht.typeIs,ht.mapOf.noDict,fun A s₁ us E rm NH live x0 hx=>?_⟩;clear ht hlen hd hv;obtain⟨a',gU,e,ha,hlen,lE,ht,hd⟩:=x0.fe;cases e
 cases xs with
 |nil=>cases hF
 |cons x xs=>cases xs with
  |nil=>
   exact ah hF fun k hk hF=>some_inv hF <| hx.one_k fun u hu=>hu.int_k hk fun t=>
    u3 u2 ht.typeIs Dx (PySem.F.args_dict_get_2 _ _) (meets_dict_get _ a (pV P.prog P.w k t) lE) ⟨_,ht.mapOf,Kp.toks s₁ _,vC hlen hd .sa⟩
  |cons z xs=>cases xs with
   |nil=>
    exact ah hF fun k hk hF=>some_inv hF <| hx.two_k fun u u' hu YW=>hu.int_k hk fun t=>
     u3 u2 ht.typeIs Dx (PySem.F.args_dict_get_3 _ _ _) (meets_dict_get_default _ a (pV P.prog P.w k t) lE u') ⟨_,ht.mapOf,Kp.toks s₁ _,vC hlen hd YW⟩
   |cons _ _=>cases hF
noncomputable def Jy(P:Pk)(a:Addr)(name:Str)(F:List V->Option V):Prop:=
 ∀(s:Shared),P.G s.heap->∃(T id:String),PlainAttrs T/\Slot T name id/\typeOf (.builtin id)=pure (.type "method_descriptor")/\s.TypeIs (.ref a) T/\(∃ob,s.heap.get? a=some ob/\ob.dict=none)/\
  ∀(A:Around) (s₁:Shared) (hid:List Addr) (xs:List V) (r:V) (vs:List Value) (E:Value->Shared->Prop),bW 0 A->P.G s₁.heap->cx s₁.heap hid->aU P s₁.heap hid xs vs->F xs=some r->
   wpAny (model P.prog P.w) A (call (.builtin id) (.ref a::vs)) (fun u s'=>Kp s₁ s'/\Dn P s'.heap hid r u) E s₁
theorem Br{id:Str}{p apos pos:Pos}{name:Str}{args:List Expr}{a:Addr}{F g}(hx:K.aM.contains id=true)(hv:P.glob id=some (.ref a))(hd:(id==("__debug__":Str))=false)
  (hm:Jy P a name F) (ha:lH P n K lo args g) (eF:∀env,starEach args env=args.map fun e=>(false,eval e env)) (bN:args.length<20) (jh:(apos.endLine==pos.line)=true) (ji:∀env,attributeBase (.Name id p) name env (eval (.Name id p) env)=eval (.Name id p) env):
  eM P n K lo (.Call (.Attribute (.Name id p) name apos) args [] pos) (eD F g):=fun A env out hid m B s ρ z E r S hf=>by
 refine ah hf fun xs xv hF=>?_
 have cL:(backTo pos (starEach args env)).any (·.1)=false:=dg eF;refine yJ (ji env) (nP cL bN) jh ?_;refine bH S hx hv hd ?_;obtain⟨T,id,c1,c2,c3,c4,c5,c6⟩:=hm s S.G;refine⟨T,id,c1,c2,c3,c4,fun b e=>by cases e;exact c5,rL cL ?_⟩;have key:=ha A env out hid m B s ρ xs E pos r S xv;have fin:∀vs s₂,(Kp s s₂/\aU P s₂.heap (av lo out hid) xs vs)->wpAny (model P.prog P.w) A (call (.builtin id) ([.ref a]++vs) []) (fun u s'=>Kp s s'/\Dn P s'.heap (av lo out hid) z u) E s₂:=by
  intro vs s₂ aH;have cC:=S.after aH.1;exact au (c6 A s₂ _ xs z vs E (r.less (dU _)) cC.G (cC.G6 lo) aH.2 hF) (fun u s' q'=>⟨aH.1.trans q'.1,q'.2⟩) fun ø ø q=>q
 exact dM cL (au key fin fun ø ø q=>q)
noncomputable def Jz(ks:List Int)(ts:List (List Nat))(xs:List V):Option V:=(V.one? xs).bind fun x=>x.int?.bind fun k=>some ((bR ks (ts.map .str) k).getD .none)
theorem Rd(ks:List Int)(ts:List (List Nat))(k:Int):Jz ks ts [.int k]=some ((bR ks (ts.map .str) k).getD .none):=rfl
theorem Uz{a:Addr}{ks:List Int}{ts:List (List Nat)}(lE:(a==sysModules)=false)(h:∀h,P.G h->∃jM:List (Str×Tok),jM.map (·.1)=ts.map pyStr/\jM.length=ks.length/\h.DictOf (intKind P.prog P.w) a (ks.zip (strValues jM))):
  Jy P a "get" (Jz ks ts):=fun s G=>by
 obtain⟨jM,e1,e2,ht⟩:=h _ G;refine⟨"dict","dict.get",yR,u2,PySem.F.type_dict_get,ht.typeIs,ht.mapOf.noDict _ rfl,fun A s₁ hid xs r vs E rm NH live hx hF=>?_⟩;refine ah hF fun y hy hF=>ah hF fun k hk hF=>some_inv hF ?_
 cases V.gG hy;refine hx.one_k fun u hu=>hu.int_k hk fun t=>?_
 clear hF hy hu hx ht e1 e2 jM;obtain⟨jM,e1,e2,ht⟩:=h _ NH;have key:∀(jM:List (Str×Tok)) (ts:List (List Nat)),jM.map (·.1)=ts.map pyStr->aU P s₁.heap hid (ts.map .str) (strValues jM):=by
  intro jM
  induction jM with
  |nil=>intro ts e;cases ts with
   |nil=>exact aV.nil
   |cons t ts=>simp at e
  |cons p jM ih=>intro ts e;cases ts with
   |nil=>simp at e
   |cons t ts=>
    simp only[bn,List.cons.injEq]at e;obtain⟨x,y⟩:=p;obtain⟨rfl,e⟩:=e;exact .cons (Dn.ofStr (P:=P) _ _) (ih ts e)
 exact u3 u2 ht.typeIs Dx (PySem.F.args_dict_get_2 _ _) (meets_dict_get _ a (pV P.prog P.w k t) lE) ⟨_,ht.mapOf,Kp.toks s₁ _,vC (by simpa[strValues]using e2) (key jM ts e1) .sa⟩
end
section
variable{P:Pk}{n:Nat}{K K':Cx}{lo:Bool}
noncomputable def JA(T:Int->Bool)(x:V):Option V:=x.int?.map fun k=>.bool (T k)
theorem JB(T:Int->Bool)(k:Int):JA T (.int k)=some (.bool (T k)):=rfl
theorem Bs{l:Expr}{id:Str}{p pos:Pos}{a:Addr}{T:Int->Bool}{f}(hx:K.aM.contains id=true)(hv:P.glob id=some (.ref a))(hd:(id==("__debug__":Str))=false)
  (hG:∀h,P.G h->∃n,h.SetOf (intKind P.prog P.w) a T n) (hl:eM P n K true l f) (hm:behindInMarks .In (.Name id p)=false):
  eM P n K lo (.Compare l [.In] [.Name id p] pos) (fun ρ=>(f ρ).bind (JA T)):=fun A env out hid m B s ρ z E rm S hf=>by
 refine ah hf fun x IX gg=>?_
 clear hf;rename _=>hf
 refine bV hf fun k hk e=>?_
 cases V.kR hk;subst e;refine wpAny_Compare1 (au (hl A env out hid m B s ρ _ E rm S IX) (fun u s₁ ag=>?_) fun ø ø q=>q) hm;have bc:=S.after ag.1;refine bH bc hx hv hd ?_;obtain⟨t,rfl⟩:=ag.2.int_inv;obtain⟨n,hS⟩:=hG _ bc.G;exact wpAny_inSet_of (pV P.prog P.w k t) rfl hS ⟨ag.1.trans (Kp.toks s₁ _),.ofBool _⟩
noncomputable def tabS(T:List Nat->Option Int)(x:V):Option V:=x.jO.bind fun l=>(T l).map .int
theorem Bt{i:Expr}{id:Str}{p pos:Pos}{a:Addr}{T:List Nat->Option Int}{g}(hx:K.aM.contains id=true)(hv:P.glob id=some (.ref a))(hd:(id==("__debug__":Str))=false)
  (hG:∀h,P.G h->∃f:Str->Option Value,h.MapOf (strKind P.prog P.w) a f/\∀l k,T l=some k->∃t,f (pyStr l)=some (.int k t)) (hi:eM P n K true i g)
  (hs:∀u v,subscripted i false u v=operate [u,v] (getItem u v)):eM P n K lo (.Subscript (.Name id p) i pos) (fun ρ=>(g ρ).bind (tabS T)):=fun A env out hid m B s ρ z E rm S hf=>by
 refine ah hf fun y hy gg=>?_
 clear hf;rename _=>hf
 refine ah hf fun l hl hf=>bV hf fun k hk e=>?_
 cases V.kS hl;subst e;refine sr ?_ (fun u v=>⟨_,hs u v⟩);refine bH S hx hv hd ?_;refine au (hi A env out hid m B s ρ _ E rm S hy) (fun v s₂ aH=>?_) fun ø ø q=>q
 obtain⟨t,rfl⟩:=aH.2.str_inv;obtain⟨f,hm,hf⟩:=hG _ (S.after aH.1).G;obtain⟨t',e⟩:=hf l k hk;exact⟨"dict","dict.__getitem__",slot_dict_getitem.lookup,hm.typeIs,wpAny_getItem_of (strKind_is P.prog P.w (pyStr l) t) hm e ⟨aH.1.trans (Kp.toks s₂ _),.ofInt _ _⟩⟩
end
section
section
variable{prog:Program}{w:World}{A:Around}{E:Value->Shared->Prop}{s:Shared}{KK:Type}[DecidableEq KK]{knd:KeyKind prog w KK}
theorem zm{d:Addr}{jM:List (KK×Value)}{ep:Nat}{Q:List Value->Shared->Prop}(hh:A.handled=none)(hd:(d==sysModules)=false)(hm:s.heap.DictAt knd d jM ep)(hn:jM.length<=sizeLine)
  (hQ:∀s' acc,Kp s s'->ItemsOf (fun i v=>∃k x,jM[i]?=some (k,x)/\knd.is k v=true) acc jM.length->Q acc.toList s'):wpAny (model prog w) A (collect (.ref d)) Q E s:=by
 have hT:s.TypeIs (.ref d) "dict":=hm.dictOf.typeIs;obtain⟨od,Xh,hcd⟩:=id hT;have Re:s.heap.objs.size≠d:=fun e=>by rw[<-e,aP]at Xh;cases Xh
 unfold collect;refine ar (wpAny_runValue (nv F.entry_proto_collect ?_));rw[pX F.plain_proto_collect _];show wpAny _ A.in1 (newList []>>= fun l=>again (.builtin "list.__iadd__" ⟨[l,.ref d],[]⟩)) _ _ s;refine ar (pR ?_);refine bd ⟨rT yS _,nv F.entry_list_iadd ?_⟩;rw[pX yS _]
 let s₁:Shared:={s with heap:=s.heap.push {cls:=.type "list",data:=.seq ([]:List Value).toArray} }
 have JC:s₁.heap.DictAt knd d jM ep:=hm.at' fun o e=>bK _ e
 have FM:s₁.TypeIs (.ref d) "dict":=JC.dictOf.typeIs;have Bu:s₁.heap.get? s.heap.objs.size=some {cls:=.type "list",data:=.seq ([]:List Value).toArray}:=bD _ rfl;have h1:Builtin.List.listSameRef (.ref s.heap.objs.size) (.ref d)=false:=by simp[Builtin.List.listSameRef,Re]
 show wpAny _ A.in1 (Builtin.List.listExtendWith (.ref s.heap.objs.size) (.ref d) (.ref s.heap.objs.size)) _ _ s₁;unfold Builtin.List.listExtendWith;refine ar (wpAny_typeOf FM ?_);have h2:(Value.type "dict"==Value.type "list")=false:=by decide
 have h3:(Value.type "dict"==Value.type "tuple")=false:=by decide
 rw[az (by rw[h1,h2,h3];decide)];refine ar (wpAny_pyIter_dict hd JC ?_)
 let s₂:Shared:={s₁ with heap:=s₁.heap.push {cls:=.type "dict_keyiterator",data:=.fields #[.ref d,.int 0 0,.int jM.length 0,.int ep 0]} }
 have PG:s₂.heap.DictAt knd d jM ep:=JC.at' fun o e=>bK _ e
 have vD:s₂.TypeIs (.ref d) "dict":=PG.dictOf.typeIs;have x5:s₂.heap.get? s.heap.objs.size=some {cls:=.type "list",data:=.seq ([]:List Value).toArray}:=bK _ Bu;have Bv:s₂.heap.get? s₁.heap.objs.size=some {cls:=.type "dict_keyiterator",data:=.fields #[.ref d,.int 0 0,.int jM.length 0,.int ep 0]}:=bD _ rfl;show wpAny _ A.in1 _ _ _ s₂;refine ar (gB ?_);unfold Builtin.List.listLengthHint;refine ar (yP vD PySem.F.slot_dict_len.lookup ?_)
 (generalize hid:("dict.__len__":String)=UA;(fail_if_success (clear hid UA));wp_delta;rw[show splitId UA=some ("dict","__len__")from by subst hid;decide+kernel];subst hid)
 refine ar (u4 (b:=true) vD (by rw[yT];kernel_rfl) ?_);refine ar (wpAny_typeOf vD ?_);refine bd ?_;show wpAny _ A.in1 (rule "list.extend.makes-room">>= fun ø=>Builtin.List.listTouch (.ref s.heap.objs.size)>>= fun ø=>
  again (.builtin "list.extend.loop" ⟨[.ref s.heap.objs.size,.ref s₁.heap.objs.size,.ref s.heap.objs.size],[]⟩)) _ _ s₂
 refine ar (rU ?_);refine ar ?_;show wpAny _ A.in1 (updateSeq s.heap.objs.size (·.push .none)>>= fun ø=>updateSeq s.heap.objs.size (·.pop)) _ _ s₂;refine ar (yU x5 rfl ?_);have Bw:=ni (Obj.mapSeq (·.push Value.none)) x5 rfl;refine yU Bw rfl ?_;have JD:=ni (Obj.mapSeq (·.pop)) Bw rfl;have PH:∀b o,b≠s.heap.objs.size->s₂.heap.get? b=some o->((s₂.heap.update s.heap.objs.size (Obj.mapSeq (·.push Value.none))).update s.heap.objs.size (Obj.mapSeq (·.pop))).get? b=some o:=
  fun b o hb e=>(yV _ _ (dW hb)).trans ((yV _ _ (dW hb)).trans e)
 have Rf:s₁.heap.objs.size≠s.heap.objs.size:=fun e=>by
  have:=aP s₁.heap;rw[e,Bu]at this;cases this
 have Ze:d≠s₁.heap.objs.size:=fun e=>by
  have:=aP s₁.heap;obtain⟨o,ho,_⟩:=FM;rw[<-e,ho]at this;cases this
 have W:=(Walks.dictKeys (prog:=prog) (w:=w) (knd:=knd) (A:=A.in1) hh s₁.heap.objs.size d Ze jM ep).toS;refine bd ⟨rT F.plain_extend_loop _,codeAny_extend_loopS W hn _ (by simp[dW Rf,Re]) _ jM.length 0 _ _ _ rfl (dU _)
  ⟨⟨_,PH _ _ Rf Bv,rfl,rfl⟩,PG.at' fun o e=>PH _ _ (dW Re) e⟩ JD (ItemsOf.nil _) fun s' xA c' NI NJ JE=>?_⟩
 show wpAny _ A (load s.heap.objs.size>>= _) _ _ s';refine ar (wpAny_load NJ ?_);refine bd (hQ s' xA ⟨fun b o e=>?_,by rw[NI.gens];exact .refl _,NI.os⟩ JE);have PJ:b≠s.heap.objs.size:=fun q=>by rw[q,aP]at e;cases e
 have JF:b≠s₁.heap.objs.size:=fun q=>by
  have:=aP s₁.heap;have z:s₁.heap.get? b=some o:=bK _ e;rw[<-q,z]at this;cases this
 exact NI.heap b o (by simp[PJ,JF]) (PH b o PJ (bK _ (bK _ e)))
theorem intsAre_of{l:List Value}:∀{ns:List Int},l.length=ns.length->(∀(i:Nat) v,l[i]?=some v->∃k t,ns[i]?=some k/\v= .int k t)->IntsAre l ns:=by
 induction l with
 |nil=>intro ns hl _;cases ns with
  |nil=>exact .nil
  |cons _ _=>simp at hl
 |cons v l ih=>intro ns hl h;cases ns with
  |nil=>simp at hl
  |cons k ns=>
   obtain⟨k',t,hk,rfl⟩:=h 0 v rfl;obtain rfl:k=k':=by simpa using hk
   exact .cons k t (ih (by simpa using hl) fun i u hu=>by simpa using h (i+1) u (by simpa using hu))
theorem uq{d:Addr}{jM:List (Int×Value)}{b:Bool}{Q:Value->Shared->Prop}(hh:A.handled=none)(hd:(d==sysModules)=false)(hm:s.heap.DictOf (intKind prog w) d jM)(Zf:jM.length<64)
  (h:∀s' a (out:Array Value) (ns:List Int) e,Kp s s'->s.heap.get? a=none->s'.heap.get? a=some (seqObj "list" out e)->IntsAre out.toList ns->ns.Perm (jM.map (·.1))->Ordered b ns->Q (.ref a) s'):
  wpAny (model prog w) A (call (.builtin "sorted") [.ref d] [(Str.ofString "reverse",.bool b)]) Q E s:=by
 obtain⟨ep,hm⟩:∃ep,s.heap.DictAt (intKind prog w) d jM ep:=by
  obtain⟨o,es,ep,ho,r⟩:=hm;exact⟨ep,o,es,ho,r⟩
 refine call_function_entry_kw kind_sorted plain_sorted entry_sorted (args_sorted_rev _ _) ?_;unfold Builtin.«sorted»;refine ar (m:=checkCount "sorted" 1 1 _) (bd ?_);refine ar (zm hh hd hm (by rw[gR];omega) fun s' acc kp hit=>?_);refine ar (wpAny_newList ?_ (hsz:=by rw[Array.length_toList,hit.1,gR];omega));have Rg:(s'.heap.push (seqObj "list" acc.toList.toArray 0)).get? s'.heap.objs.size=some (seqObj "list" acc.toList.toArray 0):=bD _ rfl;have hI:IntsAre acc.toList (jM.map (·.1)):=intsAre_of (by simp[hit.1]) fun i v hv=>by
  obtain⟨k,x,hk,hi⟩:=hit.2 i v (by simpa using hv);obtain⟨t,rfl⟩:=Value.isInt_shape hi;exact⟨k,t,by simp[hk],rfl⟩
 have eG:s.heap.get? s'.heap.objs.size=none:=by
  cases e:s.heap.get? s'.heap.objs.size with
  |none=>rfl
  |some o=>have:=kp.keep _ _ e;rw[aP]at this;cases this
 show wpAny _ _ _ _ _ {s' with heap:=s'.heap.push (seqObj "list" acc.toList.toArray 0)};refine ar (gB (wpAny_call_entry_kw slot_list_sort ⟨_,Rg,rfl⟩ entry_list_sort (list_sort_tree_rev Rg hI (by simp[hit.1];exact Zf) fun out ns' a1 a2 a3=>⟨_,rfl,?_⟩) (args_list_sort_rev _ _)));obtain⟨e,he⟩:=sortedHeap_at (vs:=acc.toList) (out:=out) Rg;refine bd ⟨_,rfl,h _ _ out ns' e (kp.trans ⟨fun c o hc=>?_,.refl _,rfl⟩) eG he a1 a2 a3⟩;have de:=f5 hc;show(sortedHeap (s'.heap.push (seqObj "list" acc.toList.toArray 0)) s'.heap.objs.size acc.toList out).get? c=some o;rw[sortedHeap_old (jX de) (by rw[size_push'];exact nu de)];exact bK _ hc
end
end
section
variable{P:Pk}{n:Nat}{K K':Cx}{lo:Bool}
theorem fT{es:List Expr}{pos:Pos}{f}(hs:lH P n K false es f)(hl:es.length<=100)(hlen:∀ρ x,f ρ=some x->x.length=es.length):M2 P n K (.List es pos) (fun ρ=>(f ρ).map .list):=fun A env out hid m B s ρ x E rm S hf=>by
 refine bV hf ?_;clear hf;rintro y hy rfl;refine wpAny_List (au (hs A env out hid m B s ρ y E pos rm S hy) (fun vs s₁ ag=>⟨?_,ag.1.trans (Kp.push s₁ _ _),?_⟩) fun ø ø q=>q)
 ·rw[ag.2.length,hlen _ _ hy,gR];omega
 ·have eG:s.heap.get? s₁.heap.objs.size=none:=by
   cases e:s.heap.get? s₁.heap.objs.size with
   |none=>rfl
   |some o=>have:=ag.1.keep _ _ e;rw[aP]at this;cases this
  exact⟨_,vs,rfl,eG,⟨0,bD _ rfl⟩,ag.2.grow (fun a o ø e=>bK _ e) fun a ha=>by
   rcases bp.mp ha with rfl|ha
   ·exact .inr (aP _)
   ·exact .inl ha⟩
theorem j4{pos:Pos}:M2 P n K (.Dict [] [] pos) (fun ø=>some (.dict [] [])):=fun A env out hid m B s ρ x E rm S hf=>by
 cases hf;refine wpAny_Dict_empty ⟨Kp.push s _ s.toks,?_⟩;have bN:(s.heap.objs.size==sysModules)=false:=by
  obtain⟨mg,mb,h1,h2,_⟩:=P.aM S.G;rw[pi];intro e;have:=h1.lt;rw[e]at this;exact absurd this (by decide)
 exact⟨_,[],rfl,aP _,bN,rfl,Heap.DictOf.new _,aV.nil⟩
noncomputable def sA(x:V):Option V:=x.int?.map fun i=>.int (-i)
theorem dc{e:Expr}{pos:Pos}{f}(h:eM P n K lo e f):eM P n K lo (.UnaryOp .USub e pos) (fun ρ=>(f ρ).bind sA):=fun A env out hid m B s ρ x E rm S hf=>by
 refine ah hf fun y hy gg=>?_
 clear hf;rename _=>hf
 refine wpAny_UnaryOp (au (h A env out hid m B s ρ y E rm S hy) (fun v s₁ ag=>?_) fun ø ø q=>q);refine bV hf fun i hi e=>?_
 cases V.kR hi;subst e;obtain⟨t,rfl⟩:=ag.2.int_inv;exact PyProof.Rows.neg_int ⟨ag.1.trans (Kp.toks s₁ _),.ofInt _ _⟩
noncomputable def Xi(P:Pk)(n:Nat)(K:Cx)(e:Expr)(f:al->Option V):Prop:=
 ∀(A:Around) (env:Env) (out hid:List Addr) (m:Str->Option Value) (B s:Shared) (ρ:al) (l:List V) (E:Value->Shared->Prop),bW n A->aB P K env out hid m B s ρ->f ρ=some (.list l)->
  wpAny (model P.prog P.w) A (eval e env) (fun v s'=>Kp s s'/\∃a vs,v= .ref a/\s'.heap.PlainList a vs.toArray/\aU P s'.heap hid l vs) E s
theorem vF{e f}(h:eM P n K false e f):Xi P n K e f:=fun A env out hid m B s ρ l E rm S hf=>
 au (h A env out hid m B s ρ _ E rm S hf) (fun v s' q=>⟨q.1,by
  obtain⟨p,vs,rfl,d1,d2,d3⟩:=q.2.em;exact⟨p,vs,rfl,d2,d3⟩⟩) fun ø ø q=>q
theorem Ho(i:Nat){x:Str}{k:NameKind}{pos:Pos}(hi:K.vars[i]?=some (x,k,true))(hd:(x==("__debug__":Str))=false)(hc:(x==("__classdict__":Str))=false):
  Xi P n K (.Name x pos) fun ρ=>ρ i:=fun A env out hid m B s ρ y E r S hf=>
 eV (S.load hi hf hd hc fun v hv ø=>⟨Kp.refl s,by
  rw[aw rfl]at hv;obtain⟨a,vs,rfl,h1,h2,h3,h4,h5⟩:=fc.em hv;exact⟨a,vs,rfl,h4,h5⟩⟩) hd
noncomputable def Rh:V->V->Option V:=r9 V.gF V.gF fun a b=>if a.length+b.length<=most then some (.list (a++b))else none
theorem FN(a b:List V):Rh (.list a) (.list b)=if a.length+b.length<=most then some (.list (a++b))else none:=rfl
theorem vG{l r:Expr}{pos:Pos}{f g}(hl:Xi P n K l f)(hr:Xi P n K r g):
  M2 P n K (.BinOp l .Add r pos) (dA Rh f g):=fun A env out hid m B s ρ z E rm S hf=>by
 refine ah hf fun x hx gg=>?_
 clear hf;rename _=>hf
 refine ah hf fun y hy gg=>?_
 clear hf;rename _=>hf
 refine bI hf fun a b ha hb hf=>eN hf fun hc he=>?_
 cases V.fQ ha;cases V.fQ hb;subst he;refine wpAny_BinOp (au (hl A env out hid m B s ρ _ E rm S hx) (fun u s₁ ag=>?_) fun ø ø q=>q);refine au (hr A env out hid m B s₁ ρ _ E rm (S.after ag.1) hy) (fun v s₂ aH=>?_) fun ø ø q=>q
 obtain⟨k1,p,vs,rfl,⟨n₁,d2⟩,d3⟩:=ag;obtain⟨k2,p',gU,rfl,⟨QD,d2'⟩,d3'⟩:=aH;have eG:s.heap.get? s₂.heap.objs.size=none:=by
  cases e:s.heap.get? s₂.heap.objs.size with
  |none=>rfl
  |some o=>have:=k2.keep _ _ (k1.keep _ _ e);rw[aP]at this;cases this
 replace d3:=aU.kp (P:=P) d3 k2;refine PySem.P.add_list (n:=n₁) (n2:=QD) (k2.keep _ _ d2) d2' ⟨k1.trans (k2.trans (Kp.push s₂ _ s₂.toks)),?_⟩ (by rw[bM,bM,d3.length,d3'.length];exact aA hc cZ);rw[Dk];exact⟨_,vs++gU,rfl,eG,⟨0,bD _ rfl⟩,aU.grow (P:=P) (d3.app d3') (fun a o ø e=>bK _ e) fun a ha=>by
  rcases bp.mp ha with rfl|ha
  ·exact .inr (aP _)
  ·exact .inl ha⟩
end
section
variable{P:Pk}{n:Nat}{K K':Cx}{lo:Bool}
theorem oJ{t e:Expr}{pos:Pos}{a f}(ha:ze P K false t a)(h:eM P n K false e f)(hs:∀env,swapsWithSole [t] e pos.line env=pure false)(hw:∀env,swappedStores [t] e env=pure none)
  (he:∀env,(assignEach [t] env).map (·.2)=[assign t env]):ul P n K (.Assign [t] e pos) fun ρ=>(f ρ).bind fun y=>(a ρ y).map fun aY=>(aY,.next):=fun A env out hid m B s ρ aY fl E r S hf=>by
 refine ah hf fun y hy e'=>?_
 refine bV e' ?_;rintro am Nz e';cases e';refine wpAny_Assign_stores (au (h A env out hid m B s ρ y E r S hy) (fun v s₁ ag=>?_) fun ø ø x=>x) (hs env) (hw env);rw[he];refine au (ha A env out hid m B s₁ ρ _ y v E r.handled (S.after ag.1) Nz ag.2) (fun ø s₂ q=>?_) fun ø ø x=>x
 obtain⟨ao,m',S',K',_⟩:=q;exact⟨ao,m',S',(Ks.gV ag.1).trans K',rfl⟩
theorem Ef(i j k:Nat){x y z:Str}{kx ky kz:NameKind}{p1 p2 p3 pos:Pos}{e:Expr}{c:Int}(hi:K.vars[i]?=some (x,kx,false))(hj:K.vars[j]?=some (y,ky,false))(hk:K.vars[k]?=some (z,kz,false))
  (fx:kx≠ .free) (fy:ky≠ .free) (fz:kz≠ .free) (h:eM P n K false e fun ø=>some (.int c)) (hw:∀env,swappedStores [.Name x p1,.Name y p2,.Name z p3] e env=pure none)
  (he:∀env,(assignEach [.Name x p1,.Name y p2,.Name z p3] env).map (·.2)=[assign (.Name x p1) env,assign (.Name y p2) env,assign (.Name z p3) env]):
  ul P n K (.Assign [.Name x p1,.Name y p2,.Name z p3] e pos) fun ρ=>some (upd (upd (upd ρ i (.int c)) j (.int c)) k (.int c),.next):=fun A env out hid m B s ρ aY fl E r S hf=>by
 cases hf;refine wpAny_Assign_three (au (h A env out hid m B s ρ _ E r S rfl) (fun v s₁ ag=>?_) fun ø ø x=>x) (he env) (hw env);obtain⟨t,rfl⟩:=ag.2.int_inv;refine nk ((S.after ag.1).store hi (y:=.int c) (show Dn P s₁.heap hid (.int c) (.int c t)from .ofInt c t) (fun q=>by cases q) fx fun m₁ s₂ cC qc ø=>?_);refine nk (cC.store hj (y:=.int c) (show Dn P s₂.heap hid (.int c) (.int c t)from .ofInt c t) (fun q=>by cases q) fy fun m₂ cB kX Bx ø=>?_);exact nk (kX.store hk (y:=.int c) (show Dn P cB.heap hid (.int c) (.int c t)from .ofInt c t) (fun q=>by cases q) fz fun By gQ jP mS ø=>⟨hid,By,jP,(Ks.gV ag.1).trans (qc.trans (Bx.trans mS)),rfl⟩)
end
section
section
variable{prog:Program}{w:World}{A:Around}{E:Value->Shared->Prop}{s:Shared}
theorem x6{it t:Addr}{items:Array Value}(bN:t≠it):∀(n i:Nat) (s:Shared) (Q:List Value->Shared->Prop),s.heap.IsListIter it t i->s.heap.IsList t items->i+n<=items.size->
  (∀h',h'.IsListIter it t (i+n)->Heap.SameBut it s.heap h'->Q ((items.toList.drop i).take n) {s with heap:=h'})->wpAny (model prog w) A (draw (.ref it) n) Q E s
 |0,i,s,Q,hit,_,_,hQ=>by
  show wpAny _ _ (pure []) Q E s;exact bd (by simpa using hQ s.heap hit (Heap.SameBut.refl ..))
 |n+1,i,s,Q,hit,ht,hle,hQ=>by
  have de:i<items.size:=by omega
  show wpAny _ _ (pyNext (.ref it)>>= _) Q E s;refine ar (wpAny_pyNext_list_item hit ht (x:=items[i]) (by simp[de]) fun ag Eg j1=>?_);refine ar (gB (x6 bN n (i+1) _ _ Eg (ht.extBut j1.extBut bN) (by omega) fun aH Ri FO=>bd ?_));have hd:items.toList.drop i=items[i]::items.toList.drop (i+1):=by simp[pk,de]
  have:=hQ aH (by rw[show i+(n+1)=i+1+n by omega];exact Ri) (j1.trans FO);rw[hd,Dp]at this;exact this
theorem sB{t:Addr}{items:Array Value}{Q:List Value->Shared->Prop}(hh:A.handled=none)(ht:s.heap.IsList t items)
  (hQ:∀h',Heap.ExtBut s.heap.objs.size s.heap h'->Q items.toList {s with heap:=h'}):wpAny (model prog w) A (unpackItems (.ref t) items.size none) Q E s:=by
 have de:t≠s.heap.objs.size:=by obtain⟨o,ho,_⟩:=ht;exact jX (f5 ho)
 unfold unpackItems;refine ar ?_
 ·unfold notIterableAtAll
  refine ar (yP ht.typeIs slot_list_iter.lookup ?_);refine bd ?_;simp only[gz,eW];refine ar (gB (yM ht ?_));refine ar (gB (x6 de items.size 0 _ _ ⟨_,bD _ rfl,rfl,rfl⟩ (ht.push _) (by omega) fun ag Eg j1=>?_));have r6:List.take items.size (List.drop 0 items.toList)=items.toList:=by
   rw[List.drop_zero];exact rQ (by simp)
  rw[r6];rw[az (by simp)];have UB:ag.IsList t items:=(ht.push _).extBut j1.extBut de;refine ar (gB (wpAny_pyNext_list_end hh Eg UB (by simp) fun aH UC=>?_));simp only[Option.isSome_none,gz,eW];refine bd (hQ aH fun b o hb e=>UC b o hb (j1.extBut b o hb (bK _ e)))
theorem Bz{t:Addr}{items:Array Value}{targets:List (Bool×(Value->Sem Unit))}{Q:Unit->Shared->Prop}(hh:A.handled=none)(ht:s.heap.IsList t items)
  (hn:targets.length=items.size) (UD:targets.findIdx? (·.1)=none)
  (h:∀h',Heap.ExtBut s.heap.objs.size s.heap h'->wpAny (model prog w) A (assignInOrder (targets.map (·.2)) items.toList) Q E {s with heap:=h'}):
  wpAny (model prog w) A (unpack (.ref t) targets) Q E s:=by
 unfold unpack;rw[hn,UD];exact ar (gB (sB hh ht h))
end
variable{P:Pk}{n:Nat}{K K':Cx}{lo:Bool}
noncomputable def JG(b:al->List V->Option al):al->V->Option al:=fun ρ x=>match x with
 | .list l=>b ρ l
 |_=>none
set_option tactic.hygienic true in
theorem Hp{lc:Bool}{ts:List Expr}{k:Nat}{p:Pos}{b}(h:I9 P K lc ts b)(hl:∀ρ xs aY,b ρ xs=some aY->xs.length=ts.length)(he:∀env,assignEach ts env=ts.map fun t=>(false,assign t env)):ze P K lc (.Tuple ts k p) (JG b):=
 fun A env out hid m B s ρ aY x v E hh S hf hv=>by
 cases x<;>simp only[JG]at hf<;>try cases hf
 rename_i l;obtain⟨a,vs,rfl,ha,ht,hd⟩:=hv.em;rw[arm_assign_Tuple];refine ar (qJ (Bz hh ht.isList ?_ ?_ fun h' hx=>?_))
 ·rw[he,bi,bM,hd.length,hl _ _ _ hf]
 ·rw[he]
  rw[Dr];intro q hq;obtain⟨t,_,rfl⟩:=bP.mp hq;rfl
 ·have e:(assignEach ts env).map (·.2)=ts.map fun t=>assign t env:=by rw[he];simp
  rw[e];have k1:Kp s {s with heap:=h'}:=.heap fun b o q=>hx b o (fun z=>by rw[z,aP]at q;cases q) q
  refine au (h A env out hid m B {s with heap:=h'} ρ aY l vs E hh (S.after k1) hf (hd.kp k1)) (fun ø s₂ q=>q.pre (Ks.gV k1) fun ø b o ø q=>k1.keep b o q) fun ø ø q=>q
end
section
variable{P:Pk}{n:Nat}{K K':Cx}{lo:Bool}
noncomputable def cW(ks:List Int)(vs:List V):List Int->List V->List Int×List V
 |k::jR,v::gU=>cW (cI ks k) (eP ks vs k v) jR gU
 |_,_=>(ks,vs)
theorem fm(ks:List Int)(vs:List V)(k:Int)(jR:List Int)(v:V)(gU:List V):cW ks vs (k::jR) (v::gU)=cW (cI ks k) (eP ks vs k v) jR gU:=rfl
theorem fo(ks:List Int)(vs l:List V):cW ks vs [] l=(ks,vs):=rfl
theorem fq(ks:List Int)(vs:List V)(k:Int)(l:List Int):cW ks vs (k::l) []=(ks,vs):=rfl
theorem qZ{h:Heap}{hid:List Addr}:∀(jR:List Int) (Dh:List V) (DX:List Value) (ks:List Int) (xs:List V) (ws:List Value),ws.length=ks.length->aU P h hid xs ws->DX.length=jR.length->aU P h hid Dh DX->
  ∃us,merged (ks.zip ws) (jR.zip DX)=(cW ks xs jR Dh).1.zip us/\us.length=(cW ks xs jR Dh).1.length/\aU P h hid (cW ks xs jR Dh).2 us
 |[],Dh,DX,ks,xs,ws,hl,hd,jN,i1=>⟨ws,by simp[merged,fm,fo,fq],by simp[fm,fo,fq,hl],by simpa[fm,fo,fq]using hd⟩
 |k::jR,[],DX,ks,xs,ws,hl,hd,jN,i1=>by
  obtain rfl:=aU.nil_inv i1;simp at jN
 |k::jR,x::Dh,DX,ks,xs,ws,hl,hd,jN,i1=>by
  obtain⟨w,r,rfl,h1,h2⟩:=aU.cons_inv i1;obtain⟨us,e1,e2,e3⟩:=tL (P:=P) (q:=k) h1 hl hd;obtain⟨us',f1,f2,f3⟩:=qZ jR Dh r (cI ks k) (eP ks xs k x) us e2 e3 (by simpa using jN) h2;refine⟨us',?_,by simpa[fm,fo,fq]using f2,by simpa[fm,fo,fq]using f3⟩;rw[nq];show merged (stored (ks.zip ws) k w) (jR.zip r)=_;rw[e1,f1];rfl
noncomputable def NK(y:V)(xs:List V):Option (V×V):=y.AZ.bind fun d=>(V.one? xs).bind fun x=>x.AZ.bind fun e=>
 if d.1.length+e.1.length<=most then some (.dict (cW d.1 d.2 e.1 e.2).1 (cW d.1 d.2 e.1 e.2).2,.none)else none
theorem Rj(ks:List Int)(vs:List V)(jR:List Int)(gU:List V):NK (.dict ks vs) [.dict jR gU]=if ks.length+jR.length<=most then some (.dict (cW ks vs jR gU).1 (cW ks vs jR gU).2,.none)else none:=rfl
theorem UE:Ha P "update" NK:=fun s L out hid y v xs y' r hb hF=>ah hF fun d hd hF=>ah hF fun x IU hF=>ah hF fun e he hF=>eN hF fun hc eq=>by
 cases V.oH hd;cases V.gG IU;cases V.oH he;obtain⟨rfl,rfl⟩:=jT eq;clear hF hd IU he;obtain⟨a,ws,rfl,b1,b2,b3,b4,b5,b6,b7⟩:=fc.fe hb;refine⟨"dict","dict.update",yR,PySem.F.slot_dict_update,PySem.F.type_dict_update,b6.typeIs,fun c e=>by cases e;exact b6.mapOf.noDict _ rfl,fun A s₁ us E rm G live hb hx=>hx.one_k fun u hu=>?_⟩;clear hx b1 b2 b3 b4 b5 b6 b7;obtain⟨a',ws₁,e,c1,c2,c3,c4,c5,c6,c7⟩:=fc.fe hb;cases e;obtain⟨d,DX,rfl,d1,d2,d3,d4,d5⟩:=hu.fe;have bN:a≠d:=fun e=>d1 (e▸c1)
 refine u3 PySem.F.slot_dict_update c6.typeIs PySem.F.entry_dict_update (PySem.F.args_dict_update_2 _ _) (meets_dict_update (intKind P.prog P.w) a d bN d3) ⟨_,_,c6,d4,?_,fun h' i1 JH hs=>?_⟩
 ·rw[u0,u0,c5,d2,u1,u1];exact aA hc cZ
 ·obtain⟨us,e1,e2,e3⟩:=qZ (P:=P) _ _ DX _ _ ws₁ c5 c7 d2 d5
  rw[e1]at i1;refine⟨fun b e c o bN z=>by cases e;exact(hs.2 c bN).trans z,.refl _,rfl,?_,.sa⟩;exact⟨a,us,rfl,c1,c2,c3,c4,e2,i1,aU.but e3 c1 hs⟩
end
section
variable{P:Pk}{n:Nat}{K K':Cx}{lo:Bool}
noncomputable def j5(ks:List Int):List Int:=ks.mergeSort fun a b=>decide (b<=a)
noncomputable def Rk(x:V):Option V:=x.AZ.bind fun p=>if p.1.length<64 then some (.list ((j5 p.1).map .int))else none
theorem Rm(ks:List Int)(vs:List V):Rk (.dict ks vs)=if ks.length<64 then some (.list ((j5 ks).map .int))else none:=rfl
theorem vH{ks ns:List Int}(hp:ns.Perm ks)(ho:Ordered true ns):ns=j5 ks:=by
 have h1:ns.Pairwise (fun a b=>b<=a):=by
  have:Ordered true ns=ns.Pairwise (· >= ·):=rfl;rw[this]at ho;exact ho
 have h2:(j5 ks).Pairwise (fun a b=>b<=a):=by
  have:=List.pairwise_mergeSort (le:=fun a b:Int=>decide (b<=a)) (fun a b c x y=>by simp at x y ⊢;omega) (fun a b=>by simp;omega) ks;exact this.imp fun h=>by simpa using h
 exact List.Perm.eq_of_pairwise (le:=fun a b:Int=>b<=a) (fun a b ø ø x y=>by omega) h1 h2 (hp.trans (u5 ks _).symm)
set_option tactic.hygienic true in
theorem ur{p pos kp pp:Pos}{kk:Nat}{e:Expr}{f}(hx:K.aM.contains "sorted"=true)(hv:P.glob "sorted"=some (.builtin "sorted"))(h:eM P n K true e f)
  (eF:∀env,starEach [e] env=[(false,eval e env)]):
  M2 P n K (.Call (.Name "sorted" p) [e] [⟨some "reverse",.Constant (.bool true) kk pp,kp⟩] pos) (fun ρ=>(f ρ).bind Rk):=fun A env out hid m B s ρ x E rm S hf=>by
 refine ah hf fun y hy gg=>?_
 clear hf;rename _=>hf
 refine ah hf fun p hp hf=>eN hf fun hlen e=>?_
 cases V.oH hp;obtain⟨ks,vs⟩:=p;subst e;refine kK (bH S hx hv (by decide) ?_);refine callWith_kw (jV (au (h A env out hid m B s ρ _ E rm S hy) (fun u s₁ ag=>jU ?_) fun ø ø q=>q) (eF env)) (by rw[eF];rfl) (by rw[eF];rfl);refine kws_cons (uR (kws_nil ?_));obtain⟨d,ws,rfl,d1,d2,d3,d4,d5⟩:=ag.2.fe;have hz:(ks.zip ws).map (·.1)=ks:=by rw[List.map_fst_zip (by omega)]
 refine uq (b:=true) rm.handled d3 d4 (by rw[u0,d2,u1];exact hlen) fun s' a out ns e kp hn ho hI hp JI=>?_
 rw[hz]at hp;obtain rfl:=vH hp JI;refine⟨ag.1.trans kp,?_⟩;have Xj:s.heap.get? a=none:=by
  cases q:s.heap.get? a with
  |none=>rfl
  |some o=>have:=ag.1.keep _ _ q;rw[hn]at this;cases this
 have key:∀{vs:List Value} {ns:List Int} {h:Heap} {hid:List Addr},IntsAre vs ns->aU P h hid (ns.map .int) vs:=by
  intro vs ns h hid hI
  induction hI with
  |nil=>exact aV.nil
  |cons k t _ ih=>exact .cons (Dn.ofInt (P:=P) k t) ih
 exact⟨a,out.toList,rfl,Xj,⟨e,by simpa[seqObj]using ho⟩,key hI⟩
end
theorem intLit(n:Nat):Int.ofNat (no_index (@OfNat.ofNat Nat n (instOfNatNat n)))= @OfNat.ofNat Int n instOfNat:=rfl
noncomputable def Zg:Stmt:=(PySem.Challenge.pw_sl0032_01.main.body[8]?).getD (.Pass default)
noncomputable def PK(S:Stmt):Program:={PySem.Challenge.pw_sl0032_01 with main:={PySem.Challenge.pw_sl0032_01.main with body:=PySem.Challenge.pw_sl0032_01.main.body.set 8 S} }
noncomputable def pqT:{q:Program//True}:=by
 refine⟨?q,(?f:(fun S:Stmt=>PK S) Zg=?q->True) ?p⟩
 case p=>conv=>lhs;arg 0;unfold PK PySem.Challenge.pw_sl0032_01;reduce;dsimp only[intLit]
 case f=>exact fun ø=>trivial
noncomputable abbrev pq:Program:=pqT.1
theorem UF:PySem.Challenge.pw_sl0032_01=pq:=by kernel_rfl!
noncomputable def aJ(b:List Stmt)(i:Nat):Stmt:=match b[i]? with
 |some s=>s
 |none=>.Pass default
noncomputable def qd{α:Type}(d:α)(fD:Arguments->List Stmt->Scope->α)(fC:List Stmt->α)(fA:List Expr->Expr->Pos->α)(fF:Expr->Expr->List Stmt->α)(fI:Expr->List Stmt->List Stmt->α)(s:Stmt):α:=
 @Stmt.casesOn (fun ø=>α) s (fun ø a b ø ø ø s ø ø ø=>fD a b s) (fun ø ø ø ø ø ø ø ø ø ø=>d) (fun ø ø ø b ø ø ø ø ø ø ø=>fC b) (fun ø ø=>d) (fun ø ø=>d) (fun t v p=>fA t v p) (fun ø ø ø ø ø ø ø=>d) (fun ø ø ø ø=>d) (fun ø ø ø ø ø=>d) (fun t i b ø ø=>fF t i b) (fun ø ø ø ø ø=>d) (fun ø ø ø ø=>d) (fun t b e ø=>fI t b e) (fun ø ø ø=>d) (fun ø ø ø=>d) (fun ø ø ø=>d) (fun ø ø ø=>d) (fun ø ø ø ø ø=>d) (fun ø ø ø ø ø=>d) (fun ø ø ø=>d) (fun ø ø=>d) (fun ø ø ø ø=>d) (fun ø ø=>d) (fun ø ø=>d) (fun ø ø=>d) (fun ø=>d) (fun ø=>d) (fun ø=>d)
noncomputable def JJ{α:Type}(d:α)(fK:List (Option Expr)->List Expr->Pos->α)(fN:Int->Nat->Pos->α)(fS:Str->Nat->Pos->α)(e:Expr):α:=
 @Expr.casesOn (fun ø=>α) e (fun ø ø ø=>d) (fun ø ø ø=>d) (fun ø ø ø ø=>d) (fun ø ø ø=>d) (fun ø ø ø ø=>d) (fun ø ø ø ø=>d) (fun k v p=>fK k v p) (fun ø ø ø=>d) (fun ø ø ø ø=>d) (fun ø ø ø ø=>d) (fun ø ø ø ø ø=>d) (fun ø ø ø ø=>d) (fun ø ø=>d) (fun ø ø=>d) (fun ø ø=>d) (fun ø ø ø ø=>d) (fun ø ø ø ø=>d) (fun ø ø ø ø=>d) (fun ø ø=>d) (fun c n p=> @Const.casesOn (fun ø=>α) c d (fun ø=>d) (fun i=>fN i n p) (fun ø=>d) (fun ø ø=>d) (fun x=>fS x n p) (fun ø=>d) d) (fun ø ø ø=>d) (fun ø ø ø=>d) (fun ø ø=>d) (fun ø ø=>d) (fun ø ø=>d) (fun ø ø ø=>d) (fun ø ø ø ø=>d)
noncomputable def dz:Stmt->List Stmt:=qd [] (fun ø b ø=>b) (fun ø=>[]) (fun ø ø ø=>[]) (fun ø ø ø=>[]) (fun ø ø ø=>[])
noncomputable def UG:Stmt->Arguments:=qd default (fun a ø ø=>a) (fun ø=>default) (fun ø ø ø=>default) (fun ø ø ø=>default) (fun ø ø ø=>default)
noncomputable def kl:Stmt->Scope:=qd default (fun ø ø s=>s) (fun ø=>default) (fun ø ø ø=>default) (fun ø ø ø=>default) (fun ø ø ø=>default)
noncomputable def e6:Stmt->List Stmt:=qd [] (fun ø ø ø=>[]) (fun b=>b) (fun ø ø ø=>[]) (fun ø ø ø=>[]) (fun ø ø ø=>[])
noncomputable def seg(i n:Nat):List Stmt:=(pq.main.body.drop i).take n
noncomputable def E:Env:={scope:=pq.main.scope,locals:=mainNs,globals:=mainNs,cells:=[],code:=.ref 13,frame:=some 14}
noncomputable abbrev cE:Code:=.body (behindTheImports pq) E
noncomputable abbrev SS(T:Params->BT)(n k:Nat)(w:World)(os:OsState):SharedT:=⟨T w.params,n,{},#[],{},k,os⟩
noncomputable abbrev fp:Pos:=⟨0,0,0,0⟩
noncomputable def dE(P:Params)(x:Str)(n:Nat)(v:Value):DictEntry:=⟨PySem.PyData.keyHash P x,.str x n,v⟩
noncomputable def mO(c:Value)(d:Data):Obj:={cls:=c,dict:=none,data:=d,slots:= #[]}
noncomputable def fD(a b:Str)(s:Stmt)(g:Addr)(m c:Value):Data:=.func {name:=a,qualname:=b,params:=UG s,body:=.stmts (dz s),scope:=kl s,globals:=g,closure:=[],defaults:=.none,kwdefaults:=.none,doc:=.none,pyModule:=m,annotations:=none,code:=c,closureTuple:=.none,builtins:=0}
noncomputable def lf(o:Obj):BT:=.node o .nil .nil
noncomputable def iv(n:Int):Value:=.int n 0
noncomputable def cO(a:Str)(t:Nat)(b:Str)(t2:Nat)(c:Str)(t3:Nat)(l m n o f:Int)(r:Addr)(k:Bool)(q:Int)(r2:Addr)(v w x:Value)(i j:Int)(d:Str)(t4:Nat):Obj:=mO (.type "code") (.fields #[.str a t,.str b t2,.str c t3,iv l,iv m,iv n,iv o,iv f,.ref r,.bool k,iv q,.ref r2,.none,v,w,x,iv i,iv j,.str d t4])
noncomputable def d0(P:Params):DictEntry:=dE P s0 165 (.str s1 228)
noncomputable def d1(P:Params):DictEntry:=dE P s2 166 .none
noncomputable def d2(P:Params):DictEntry:=dE P ⟨#[95,95,112,97,99,107,97,103,101,95,95]⟩ 167 .none
noncomputable def d3(P:Params):DictEntry:=dE P ⟨#[95,95,108,111,97,100,101,114,95,95]⟩ 168 (.builtin "__main__.__loader__#opaque")
noncomputable def d4(P:Params):DictEntry:=dE P ⟨#[95,95,115,112,101,99,95,95]⟩ 169 .none
noncomputable def d5(P:Params):DictEntry:=dE P ⟨#[95,95,97,110,110,111,116,97,116,105,111,110,115,95,95]⟩ 170 (.ref 6)
noncomputable def d6(P:Params):DictEntry:=dE P ⟨#[95,95,98,117,105,108,116,105,110,115,95,95]⟩ 171 (.ref 4)
noncomputable def d7(P:Params):DictEntry:=dE P ⟨#[95,95,102,105,108,101,95,95]⟩ 173 (.str s3 172)
noncomputable def d8(P:Params):DictEntry:=dE P ⟨#[95,95,99,97,99,104,101,100,95,95]⟩ 174 .none
noncomputable def d9(P:Params):DictEntry:=dE P s4 193 (.ref 21)
noncomputable def NL(P:Params):DictEntry:=dE P s5 205 (.ref 28)
noncomputable def NM(P:Params):DictEntry:=dE P s6 217 (.ref 35)
noncomputable def NN(P:Params):DictEntry:=dE P s7 227 (.ref 42)
noncomputable def PL(P:Params):DictEntry:=dE P s8 289 (.ref 50)
noncomputable def Rn(P:Params):DictEntry:=dE P s9 296 (.ref 60)
noncomputable def TO(P:Params):DictEntry:=dE P WU 2247 (.ref 61)
noncomputable def Xk(P:Params):DictEntry:=dE P s0 165 (.str IM 2256)
noncomputable def UH(P:Params):DictEntry:=dE P MW 2255 (.ref 106)
noncomputable def UI(P:Params):DictEntry:=dE P DR 2358 (.ref 168)
noncomputable def d19(P:Params):DictEntry:=dE P ⟨#[95,95,109,111,100,117,108,101,95,95]⟩ 2265 (.str IM 2256)
noncomputable def d20(P:Params):DictEntry:=dE P ⟨#[95,95,102,105,114,115,116,108,105,110,101,110,111,95,95]⟩ 2269 (.int (58) 2268)
noncomputable def d21(P:Params):DictEntry:=dE P T2 2273 (.str ⟨#[32]⟩ 2271)
noncomputable def d22(P:Params):DictEntry:=dE P T3 2274 (.str ⟨#[9]⟩ 2272)
noncomputable def d23(P:Params):DictEntry:=dE P WV 2289 (.ref 123)
noncomputable def d24(P:Params):DictEntry:=dE P Pm 2298 (.ref 130)
noncomputable def d25(P:Params):DictEntry:=dE P MX 2310 (.ref 137)
noncomputable def d26(P:Params):DictEntry:=dE P Pn 2318 (.ref 144)
noncomputable def d27(P:Params):DictEntry:=dE P Po 2329 (.ref 151)
noncomputable def d28(P:Params):DictEntry:=dE P WW 2337 (.ref 158)
noncomputable def d29(P:Params):DictEntry:=dE P WX 2345 (.ref 165)
noncomputable def d30(P:Params):DictEntry:=dE P ⟨#[95,95,115,116,97,116,105,99,95,97,116,116,114,105,98,117,116,101,115,95,95]⟩ 2351 (.ref 166)
noncomputable def Xl(P:Params):DictEntry:=dE P ⟨#[76,80,65,82]⟩ 2360 (.int (7) 2359)
noncomputable def Xm(P:Params):DictEntry:=dE P ⟨#[82,80,65,82]⟩ 2362 (.int (8) 2361)
noncomputable def Xn(P:Params):DictEntry:=dE P ⟨#[76,83,81,66]⟩ 2364 (.int (9) 2363)
noncomputable def Xo(P:Params):DictEntry:=dE P ⟨#[82,83,81,66]⟩ 2366 (.int (10) 2365)
noncomputable def Xp(P:Params):DictEntry:=dE P ⟨#[67,79,76,79,78]⟩ 2368 (.int (11) 2367)
noncomputable def Xq(P:Params):DictEntry:=dE P ⟨#[67,79,77,77,65]⟩ 2370 (.int (12) 2369)
noncomputable def Xr(P:Params):DictEntry:=dE P ⟨#[83,69,77,73]⟩ 2372 (.int (13) 2371)
noncomputable def Xs(P:Params):DictEntry:=dE P ⟨#[80,76,85,83]⟩ 2374 (.int (14) 2373)
noncomputable def Xu(P:Params):DictEntry:=dE P ⟨#[77,73,78,85,83]⟩ 2376 (.int (15) 2375)
noncomputable def Xv(P:Params):DictEntry:=dE P ⟨#[83,84,65,82]⟩ 2378 (.int (16) 2377)
noncomputable def Xw(P:Params):DictEntry:=dE P ⟨#[83,76,65,83,72]⟩ 2380 (.int (17) 2379)
noncomputable def Xx(P:Params):DictEntry:=dE P ⟨#[86,66,65,82]⟩ 2382 (.int (18) 2381)
noncomputable def Xy(P:Params):DictEntry:=dE P ⟨#[65,77,80,69,82]⟩ 2384 (.int (19) 2383)
noncomputable def Xz(P:Params):DictEntry:=dE P ⟨#[76,69,83,83]⟩ 2386 (.int (20) 2385)
noncomputable def XA(P:Params):DictEntry:=dE P ⟨#[71,82,69,65,84,69,82]⟩ 2388 (.int (21) 2387)
noncomputable def XB(P:Params):DictEntry:=dE P ⟨#[69,81,85,65,76]⟩ 2390 (.int (22) 2389)
noncomputable def XC(P:Params):DictEntry:=dE P ⟨#[68,79,84]⟩ 2392 (.int (23) 2391)
noncomputable def XD(P:Params):DictEntry:=dE P ⟨#[80,69,82,67,69,78,84]⟩ 2394 (.int (24) 2393)
noncomputable def XE(P:Params):DictEntry:=dE P ⟨#[76,66,82,65,67,69]⟩ 2396 (.int (25) 2395)
noncomputable def XF(P:Params):DictEntry:=dE P ⟨#[82,66,82,65,67,69]⟩ 2398 (.int (26) 2397)
noncomputable def XG(P:Params):DictEntry:=dE P ⟨#[69,81,69,81,85,65,76]⟩ 2400 (.int (27) 2399)
noncomputable def XH(P:Params):DictEntry:=dE P ⟨#[78,79,84,69,81,85,65,76]⟩ 2402 (.int (28) 2401)
noncomputable def XI(P:Params):DictEntry:=dE P ⟨#[76,69,83,83,69,81,85,65,76]⟩ 2404 (.int (29) 2403)
noncomputable def XJ(P:Params):DictEntry:=dE P ⟨#[71,82,69,65,84,69,82,69,81,85,65,76]⟩ 2406 (.int (30) 2405)
noncomputable def Zh(P:Params):DictEntry:=dE P ⟨#[84,73,76,68,69]⟩ 2408 (.int (31) 2407)
noncomputable def Zi(P:Params):DictEntry:=dE P ⟨#[67,73,82,67,85,77,70,76,69,88]⟩ 2410 (.int (32) 2409)
noncomputable def Zj(P:Params):DictEntry:=dE P ⟨#[76,69,70,84,83,72,73,70,84]⟩ 2412 (.int (33) 2411)
noncomputable def Zk(P:Params):DictEntry:=dE P ⟨#[82,73,71,72,84,83,72,73,70,84]⟩ 2414 (.int (34) 2413)
noncomputable def Zl(P:Params):DictEntry:=dE P ⟨#[68,79,85,66,76,69,83,84,65,82]⟩ 2416 (.int (35) 2415)
noncomputable def Zm(P:Params):DictEntry:=dE P ⟨#[80,76,85,83,69,81,85,65,76]⟩ 2418 (.int (36) 2417)
noncomputable def Zn(P:Params):DictEntry:=dE P ⟨#[77,73,78,69,81,85,65,76]⟩ 2420 (.int (37) 2419)
noncomputable def Zo(P:Params):DictEntry:=dE P ⟨#[83,84,65,82,69,81,85,65,76]⟩ 2422 (.int (38) 2421)
noncomputable def Zp(P:Params):DictEntry:=dE P ⟨#[83,76,65,83,72,69,81,85,65,76]⟩ 2424 (.int (39) 2423)
noncomputable def Zq(P:Params):DictEntry:=dE P ⟨#[80,69,82,67,69,78,84,69,81,85,65,76]⟩ 2426 (.int (40) 2425)
noncomputable def Zr(P:Params):DictEntry:=dE P ⟨#[65,77,80,69,82,69,81,85,65,76]⟩ 2428 (.int (41) 2427)
noncomputable def Zs(P:Params):DictEntry:=dE P ⟨#[86,66,65,82,69,81,85,65,76]⟩ 2430 (.int (42) 2429)
noncomputable def Zt(P:Params):DictEntry:=dE P ⟨#[67,73,82,67,85,77,70,76,69,88,69,81,85,65,76]⟩ 2432 (.int (43) 2431)
noncomputable def Zu(P:Params):DictEntry:=dE P ⟨#[76,69,70,84,83,72,73,70,84,69,81,85,65,76]⟩ 2434 (.int (44) 2433)
noncomputable def Zv(P:Params):DictEntry:=dE P ⟨#[82,73,71,72,84,83,72,73,70,84,69,81,85,65,76]⟩ 2436 (.int (45) 2435)
noncomputable def Zw(P:Params):DictEntry:=dE P ⟨#[68,79,85,66,76,69,83,84,65,82,69,81,85,65,76]⟩ 2438 (.int (46) 2437)
noncomputable def Zx(P:Params):DictEntry:=dE P ⟨#[68,79,85,66,76,69,83,76,65,83,72]⟩ 2440 (.int (47) 2439)
noncomputable def Zy(P:Params):DictEntry:=dE P ⟨#[68,79,85,66,76,69,83,76,65,83,72,69,81,85,65,76]⟩ 2442 (.int (48) 2441)
noncomputable def Zz(P:Params):DictEntry:=dE P ⟨#[65,84]⟩ 2444 (.int (49) 2443)
noncomputable def ZA(P:Params):DictEntry:=dE P ⟨#[65,84,69,81,85,65,76]⟩ 2446 (.int (50) 2445)
noncomputable def ZB(P:Params):DictEntry:=dE P ⟨#[82,65,82,82,79,87]⟩ 2448 (.int (51) 2447)
noncomputable def ZC(P:Params):DictEntry:=dE P ⟨#[69,76,76,73,80,83,73,83]⟩ 2450 (.int (52) 2449)
noncomputable def ZD(P:Params):DictEntry:=dE P ⟨#[67,79,76,79,78,69,81,85,65,76]⟩ 2452 (.int (53) 2451)
noncomputable def ZE(P:Params):DictEntry:=dE P ⟨#[69,88,67,76,65,77,65,84,73,79,78]⟩ 2454 (.int (54) 2453)
noncomputable def d79(P:Params):DictEntry:=dE P WY 2551 (.ref 173)
noncomputable def d80(P:Params):DictEntry:=dE P ⟨#[45,62]⟩ 2489 (.int (51) 2447)
noncomputable def d81(P:Params):DictEntry:=dE P ⟨#[46]⟩ 2491 (.int (23) 2391)
noncomputable def d82(P:Params):DictEntry:=dE P ⟨#[46,46,46]⟩ 2493 (.int (52) 2449)
noncomputable def d83(P:Params):DictEntry:=dE P ⟨#[47]⟩ 2495 (.int (17) 2379)
noncomputable def d84(P:Params):DictEntry:=dE P ⟨#[47,47]⟩ 2497 (.int (47) 2439)
noncomputable def d85(P:Params):DictEntry:=dE P ⟨#[47,47,61]⟩ 2499 (.int (48) 2441)
noncomputable def d86(P:Params):DictEntry:=dE P ⟨#[47,61]⟩ 2501 (.int (39) 2423)
noncomputable def d87(P:Params):DictEntry:=dE P ⟨#[58]⟩ 2503 (.int (11) 2367)
noncomputable def d88(P:Params):DictEntry:=dE P ⟨#[58,61]⟩ 2505 (.int (53) 2451)
noncomputable def d89(P:Params):DictEntry:=dE P ⟨#[59]⟩ 2507 (.int (13) 2371)
noncomputable def d90(P:Params):DictEntry:=dE P ⟨#[60]⟩ 2509 (.int (20) 2385)
noncomputable def d91(P:Params):DictEntry:=dE P ⟨#[60,60]⟩ 2511 (.int (33) 2411)
noncomputable def d92(P:Params):DictEntry:=dE P ⟨#[60,60,61]⟩ 2513 (.int (44) 2433)
noncomputable def d93(P:Params):DictEntry:=dE P ⟨#[60,61]⟩ 2515 (.int (29) 2403)
noncomputable def d94(P:Params):DictEntry:=dE P ⟨#[61]⟩ 2517 (.int (22) 2389)
noncomputable def d95(P:Params):DictEntry:=dE P ⟨#[61,61]⟩ 2519 (.int (27) 2399)
noncomputable def d96(P:Params):DictEntry:=dE P ⟨#[62]⟩ 2521 (.int (21) 2387)
noncomputable def d97(P:Params):DictEntry:=dE P ⟨#[62,61]⟩ 2523 (.int (30) 2405)
noncomputable def d98(P:Params):DictEntry:=dE P ⟨#[62,62]⟩ 2524 (.int (34) 2413)
noncomputable def d99(P:Params):DictEntry:=dE P ⟨#[62,62,61]⟩ 2525 (.int (45) 2435)
noncomputable def UJ(P:Params):DictEntry:=dE P ⟨#[64]⟩ 2526 (.int (49) 2443)
noncomputable def UK(P:Params):DictEntry:=dE P ⟨#[64,61]⟩ 2527 (.int (50) 2445)
noncomputable def UL(P:Params):DictEntry:=dE P ⟨#[91]⟩ 2528 (.int (9) 2363)
noncomputable def UM(P:Params):DictEntry:=dE P ⟨#[93]⟩ 2529 (.int (10) 2365)
noncomputable def UN(P:Params):DictEntry:=dE P ⟨#[94]⟩ 2530 (.int (32) 2409)
noncomputable def UO(P:Params):DictEntry:=dE P ⟨#[94,61]⟩ 2531 (.int (43) 2431)
noncomputable def UP(P:Params):DictEntry:=dE P ⟨#[123]⟩ 2532 (.int (25) 2395)
noncomputable def UQ(P:Params):DictEntry:=dE P ⟨#[124]⟩ 2533 (.int (18) 2381)
noncomputable def UR(P:Params):DictEntry:=dE P ⟨#[124,61]⟩ 2534 (.int (42) 2429)
noncomputable def US(P:Params):DictEntry:=dE P ⟨#[125]⟩ 2535 (.int (26) 2397)
noncomputable def UT(P:Params):DictEntry:=dE P ⟨#[126]⟩ 2536 (.int (31) 2407)
noncomputable def ak:Obj:=mO (.type "tuple") (.seq #[] 0)
noncomputable def aG:Obj:=mO .none (.fields #[])
noncomputable def lU:Obj:=cO s24 182 s24 183 s3 184 1 0 0 0 0 11 false 181 12 .none .none .none 185 1 s3 186
noncomputable def km:Obj:={cls:=(.type "frame"),dict:=none,data:=.plain,slots:= #[(some (.ref 13)),(some (.ref 3)),(some (.ref 3)),none,(some (.str s25 164)),none,(some (.ref 0))]}
noncomputable def H_a(P:Params):Heap:=⟨#[(boot_o_0 P),(boot_o_1 P),(boot_o_2 P),(boot_o_3 P),(boot_o_4 P),(boot_o_5 P),(boot_o_6 P),(boot_o_7 P),(boot_o_8 P),(boot_o_9 P),(boot_o_10 P),ak,aG,lU,km],{ }⟩
noncomputable def T_b(P:Params):BT:=(.node (boot_o_0 P) (.node (boot_o_1 P) (.node (boot_o_3 P) (lf (boot_o_7 P)) (lf ak)) (.node (boot_o_5 P) (lf (boot_o_9 P)) (lf lU))) (.node (boot_o_2 P) (.node (boot_o_4 P) (lf (boot_o_8 P)) (lf aG)) (.node (boot_o_6 P) (lf (boot_o_10 P)) (lf km))))
noncomputable def UU(P:Params):Obj:=mO (.type "dict") (.dict #[(d0 P),(d1 P),(d2 P),(d3 P),(d4 P),(d5 P),(d6 P),(d7 P),(d8 P),(d9 P),(NL P),(NM P),(NN P)] 13)
noncomputable def JK:Obj:=mO .none (.fields #[(iv 1),(iv 0),(.ref 20),(iv 5),(iv 0),(.ref 27),(iv 18),(iv 0),(.ref 34),(iv 36),(iv 0),(.ref 41)])
noncomputable def sE:Obj:=mO (.type "tuple") (.seq #[(.str Qq 190)] 0)
noncomputable def sF:Obj:=mO .none (fD s4 s4 (aJ pq.main.body 0) 0 .none .none)
noncomputable def sG:Obj:=cO s4 187 s4 188 s3 189 1 1 0 0 3 15 true 181 16 (.ref 17) (.ref 18) (.ref 19) 191 1 s3 192
noncomputable def sH:Obj:=mO (.type "function") (fD s4 s4 (aJ pq.main.body 0) 3 (.str s25 164) (.ref 20))
noncomputable def sI:Obj:=mO (.type "tuple") (.seq #[(.str Qr 199),(.str T4 200),(.str ⟨#[101,115,99,97,112,101]⟩ 201),(.str Qs 202)] 0)
noncomputable def sJ:Obj:=mO .none (fD s5 s5 (aJ pq.main.body 2) 0 .none .none)
noncomputable def nZ:Obj:=cO s5 196 s5 197 s3 198 5 1 0 0 35 22 true 181 23 (.ref 24) (.ref 25) (.ref 26) 203 5 s3 204
noncomputable def jr:Obj:=mO (.type "function") (fD s5 s5 (aJ pq.main.body 2) 3 (.str Yj 194) (.ref 27))
noncomputable def sK:Obj:=mO (.type "tuple") (.seq #[(.str Qr 209),(.str T6 210),(.str s32 211),(.str s33 212),(.str T4 213),(.str Qs 214)] 0)
noncomputable def sL:Obj:=mO .none (fD s6 s6 (aJ pq.main.body 3) 0 .none .none)
noncomputable def qe:Obj:=cO s6 206 s6 207 s3 208 18 1 0 0 3 29 true 181 30 (.ref 31) (.ref 32) (.ref 33) 215 18 s3 216
noncomputable def ko:Obj:=mO (.type "function") (fD s6 s6 (aJ pq.main.body 3) 3 (.str Yj 194) (.ref 34))
noncomputable def sM:Obj:=mO (.type "tuple") (.seq #[(.str Qr 221),(.str Ft 222),(.str T4 223),(.str Qs 224)] 0)
noncomputable def sN:Obj:=mO .none (fD s7 s7 (aJ pq.main.body 4) 0 .none .none)
noncomputable def qf:Obj:=cO s7 218 s7 219 s3 220 36 1 0 0 3 36 true 181 37 (.ref 38) (.ref 39) (.ref 40) 225 36 s3 226
noncomputable def kq:Obj:=mO (.type "function") (fD s7 s7 (aJ pq.main.body 4) 3 (.str Yj 194) (.ref 41))
noncomputable def b0:BT:=(.node aG (lf ak) .nil)
noncomputable def b1:BT:=(.node ak (lf qf) .nil)
noncomputable def b2:BT:=(.node sI (lf sN) .nil)
noncomputable def b3:BT:=(.node sJ (lf kq) .nil)
noncomputable def b4:BT:=(.node ak (lf sM) .nil)
noncomputable def ZF(P:Params):BT:=(.node (boot_o_0 P) (.node (boot_o_1 P) (.node (UU P) (.node (boot_o_7 P) (.node ak (lf sK) .nil) b0) (.node ak (.node sF (lf ko) .nil) (lf nZ))) (.node (boot_o_5 P) (.node (boot_o_9 P) (.node sE (lf sL) .nil) b1) (.node lU (.node sH (lf aG) .nil) (lf ak)))) (.node (boot_o_2 P) (.node (boot_o_4 P) (.node (boot_o_8 P) b0 b2) (.node JK (.node sG (lf ak) .nil) (lf jr))) (.node (boot_o_6 P) (.node (boot_o_10 P) (.node ak (lf qe) .nil) b3) (.node km b4 (lf aG)))))
noncomputable def UV(P:Params):Obj:=mO (.type "dict") (.dict #[(d0 P),(d1 P),(d2 P),(d3 P),(d4 P),(d5 P),(d6 P),(d7 P),(d8 P),(d9 P),(NL P),(NM P),(NN P),(PL P)] 14)
noncomputable def sO:Obj:=mO (.type "list") (.seq #[(.int (173) 230),(.int (847) 231),(.int (6150) 232),(.int (6155) 233),(.int (6156) 234),(.int (6157) 235),(.int (8203) 236),(.int (8204) 237),(.int (8205) 238),(.int (8288) 239),(.int (65279) 240)] 0)
noncomputable def sP:Obj:=mO (.type "range") (.fields #[(.int (65024) 241),(.int (65040) 242),(.int (1) 243)])
noncomputable def sQ:Obj:=mO (.type "list") (.seq #[(.int (65024) 246),(.int (65025) 247),(.int (65026) 248),(.int (65027) 249),(.int (65028) 250),(.int (65029) 251),(.int (65030) 252),(.int (65031) 253),(.int (65032) 254),(.int (65033) 255),(.int (65034) 256),(.int (65035) 257),(.int (65036) 258),(.int (65037) 259),(.int (65038) 260),(.int (65039) 261)] 18)
noncomputable def sR:Obj:=mO (.type "range_iterator") (.fields #[(iv 65040),(iv 0),(iv 1)])
noncomputable def vI:Obj:=mO (.type "StopIteration") (.fields #[(.ref 47),.none,.none,.none,(.bool false),.none])
noncomputable def vJ:Obj:=mO (.type "list") (.seq #[(.int (173) 230),(.int (847) 231),(.int (6150) 232),(.int (6155) 233),(.int (6156) 234),(.int (6157) 235),(.int (8203) 236),(.int (8204) 237),(.int (8205) 238),(.int (8288) 239),(.int (65279) 240),(.int (65024) 246),(.int (65025) 247),(.int (65026) 248),(.int (65027) 249),(.int (65028) 250),(.int (65029) 251),(.int (65030) 252),(.int (65031) 253),(.int (65032) 254),(.int (65033) 255),(.int (65034) 256),(.int (65035) 257),(.int (65036) 258),(.int (65037) 259),(.int (65038) 260),(.int (65039) 261)] 0)
noncomputable def kr(P:Params):Obj:=mO (.type "set") (.set #[((65024),(.int (65024) 246)),((65025),(.int (65025) 247)),((65026),(.int (65026) 248)),((65027),(.int (65027) 249)),((65028),(.int (65028) 250)),((65029),(.int (65029) 251)),((6150),(.int (6150) 232)),((65030),(.int (65030) 252)),((65031),(.int (65031) 253)),((65032),(.int (65032) 254)),((65033),(.int (65033) 255)),((6155),(.int (6155) 233)),((6156),(.int (6156) 234)),((6157),(.int (6157) 235)),((8203),(.int (8203) 236)),((8204),(.int (8204) 237)),((8205),(.int (8205) 238)),((65034),(.int (65034) 256)),((65035),(.int (65035) 257)),((65036),(.int (65036) 258)),((65037),(.int (65037) 259)),((65038),(.int (65038) 260)),((65039),(.int (65039) 261)),((173),(.int (173) 230)),((847),(.int (847) 231)),((8288),(.int (8288) 239)),((65279),(.int (65279) 240))] 29 {mask:=127,place:= #[0,1,2,3,4,5,6,7,8,9,10,11,12,13,14,15,16,17,18,19,20,21,22,45,79,96,127],dummies:= #[],finger:=0,led:=!(P.followText "set-order"),moves:=2,plain:=true})
noncomputable def vK:Obj:=mO (.type "list_iterator") (.fields #[.none,(iv 27)])
noncomputable def vL:Obj:=mO (.type "StopIteration") (.fields #[(.ref 52),.none,.none,.none,(.bool false),.none])
noncomputable def b5:BT:=(.node ak (lf sK) (lf ak))
noncomputable def b6:BT:=(.node sF (lf ko) (lf vK))
noncomputable def b7:BT:=(.node sE (lf sL) (lf vJ))
noncomputable def b8:BT:=(.node lU (.node sH (lf aG) (lf vL)) (.node ak (lf sQ) .nil))
noncomputable def b9:BT:=(.node aG (lf ak) (lf vI))
noncomputable def b10:BT:=(.node sG (lf ak) (lf ak))
noncomputable def b11(P:Params):BT:=(.node ak (lf qe) (lf (kr P)))
noncomputable def b12:BT:=(.node aG (lf sR) .nil)
noncomputable def ZG(P:Params):BT:=(.node (boot_o_0 P) (.node (boot_o_1 P) (.node (UV P) (.node (boot_o_7 P) b5 b0) (.node ak b6 (.node nZ (lf sO) .nil))) (.node (boot_o_5 P) (.node (boot_o_9 P) b7 b1) b8)) (.node (boot_o_2 P) (.node (boot_o_4 P) (.node (boot_o_8 P) b9 b2) (.node JK b10 (.node jr (lf sP) .nil))) (.node (boot_o_6 P) (.node (boot_o_10 P) (b11 P) b3) (.node km b4 b12))))
noncomputable def PM(P:Params):Obj:=mO (.type "dict") (.dict #[(d0 P),(d1 P),(d2 P),(d3 P),(d4 P),(d5 P),(d6 P),(d7 P),(d8 P),(d9 P),(NL P),(NM P),(NN P),(PL P),(Rn P)] 15)
noncomputable def JL:Obj:=mO .none (.fields #[(iv 1),(iv 0),(.ref 20),(iv 5),(iv 0),(.ref 27),(iv 18),(iv 0),(.ref 34),(iv 36),(iv 0),(.ref 41),(iv 49),(iv 0),(.ref 59)])
noncomputable def vM:Obj:=mO (.type "tuple") (.seq #[(.str WZ 293)] 0)
noncomputable def vN:Obj:=mO .none (fD s9 s9 (aJ pq.main.body 7) 0 .none .none)
noncomputable def sS:Obj:=cO s9 290 s9 291 s3 292 49 1 0 0 3 54 true 181 55 (.ref 56) (.ref 57) (.ref 58) 294 49 s3 295
noncomputable def lV:Obj:=mO (.type "function") (fD s9 s9 (aJ pq.main.body 7) 3 (.str s1 228) (.ref 59))
noncomputable def PN(P:Params):BT:=(.node (boot_o_0 P) (.node (boot_o_1 P) (.node (PM P) (.node (boot_o_7 P) b5 (.node aG (lf ak) (lf aG))) (.node ak b6 (.node nZ (lf sO) (lf sS)))) (.node (boot_o_5 P) (.node (boot_o_9 P) b7 (.node ak (lf qf) (lf ak))) b8)) (.node (boot_o_2 P) (.node (boot_o_4 P) (.node (boot_o_8 P) b9 (.node sI (lf sN) (lf vM))) (.node JL b10 (.node jr (lf sP) (lf lV)))) (.node (boot_o_6 P) (.node (boot_o_10 P) (b11 P) (.node sJ (lf kq) (lf vN))) (.node km (.node ak (lf sM) (lf ak)) b12))))
theorem UW(w:World):(fun os=>topGo treeTable pq w 11 (some (.ref 6)) 12 ⟨boot_heap w.params,#[],boot_drawn,boot_toks,os⟩ (topStub pq))=fun os=>some (⟨H_a w.params,#[],{},187,os⟩,⟨denote treeTable cE,cE,⟨0,0,0,0⟩,[topFrame fp]⟩):=by
 rw[PySem.W.Fast.te15667345088766844465,gD,Dy]
 kernel_rfl!
theorem NO(w:World):(fun os=>segRun treeTable pq w 11 (some (.ref 6)) 1 1 ⟨H_a w.params,#[],{},187,os⟩ (blockOf (behindTheImports pq) E cE ⟨0,0,0,0⟩ [topFrame fp]))=fun os=>some (.next,(SS T_b 15 187 w os).abs,cE,⟨0,0,0,0⟩):=by
 rw[PySem.W.Fast.te14374325043358763698,gD]
 kernel_rfl!
theorem h_5(w:World):(fun os=>segRunT treeTable pq w 11 (some (.ref 6)) 1 146 (SS T_b 15 187 w os) (piecesOf (seg 0 6) E cE ⟨0,0,0,0⟩ [topFrame fp]))=fun os=>some (.next,SS ZF 43 230 w os,cE,⟨47,0,47,8⟩):=by
 rw[jY,gD]
 kernel_rfl!
noncomputable def JM(w:World):Prop:=(fun os=>segRunT treeTable pq w 11 (some (.ref 6)) 1 999 (SS ZF 43 230 w os) (piecesOf (seg 6 1) E cE ⟨47,0,47,8⟩ [topFrame fp]))=fun os=>some (.next,SS ZG 54 290 w os,cE,⟨48,0,48,6⟩)
theorem ZH(w:World):JM ((w.withFollow "special-get-raises" false).withFollow "set-order" false):=by
 unfold JM;rw[jY,gD]
 kernel_rfl!
theorem ZI(w:World):JM ((w.withFollow "special-get-raises" true).withFollow "set-order" false):=by
 unfold JM;rw[jY,gD]
 kernel_rfl!
theorem ZJ(w:World):JM ((w.withFollow "special-get-raises" false).withFollow "set-order" true):=by
 unfold JM;rw[jY,gD]
 kernel_rfl!
theorem ZK(w:World):JM ((w.withFollow "special-get-raises" true).withFollow "set-order" true):=by
 unfold JM;rw[jY,gD]
 kernel_rfl!
theorem h_6(w:World):(fun os=>segRunT treeTable pq w 11 (some (.ref 6)) 1 999 (SS ZF 43 230 w os) (piecesOf (seg 6 1) E cE ⟨47,0,47,8⟩ [topFrame fp]))=fun os=>some (.next,SS ZG 54 290 w os,cE,⟨48,0,48,6⟩):=byRow2 "set-order" (P:=JM) (byRow2 "special-get-raises" (P:=fun w=>JM (w.withFollow "set-order" false)) ZH ZI) (byRow2 "special-get-raises" (P:=fun w=>JM (w.withFollow "set-order" true)) ZJ ZK) w
noncomputable def tO:Stmt->List (Option Expr):=qd [] (fun ø ø ø=>[]) (fun ø=>[]) (fun ø v ø=>JJ [] (fun k ø ø=>k) (fun ø ø ø=>[]) (fun ø ø ø=>[]) v) (fun ø ø ø=>[]) (fun ø ø ø=>[])
noncomputable def tP:Stmt->List Expr:=qd [] (fun ø ø ø=>[]) (fun ø=>[]) (fun ø v ø=>JJ [] (fun ø v ø=>v) (fun ø ø ø=>[]) (fun ø ø ø=>[]) v) (fun ø ø ø=>[]) (fun ø ø ø=>[])
noncomputable def NP:Stmt->List Expr:=qd [] (fun ø ø ø=>[]) (fun ø=>[]) (fun t ø ø=>t) (fun ø ø ø=>[]) (fun ø ø ø=>[])
noncomputable def Eh:Stmt->Pos:=qd default (fun ø ø ø=>default) (fun ø=>default) (fun ø ø p=>p) (fun ø ø ø=>default) (fun ø ø ø=>default)
noncomputable def mK:Stmt->Pos:=qd default (fun ø ø ø=>default) (fun ø=>default) (fun ø v ø=>JJ default (fun ø ø p=>p) (fun ø ø ø=>default) (fun ø ø ø=>default) v) (fun ø ø ø=>default) (fun ø ø ø=>default)
noncomputable def aK(l:List DictEntry)(n:Nat):Obj:={cls:=.type "dict",data:=.dict l.toArray n}
noncomputable def Hq(a b:Int):Bool:= @Int.rec (fun ø=>Bool) (fun m=> @Int.rec (fun ø=>Bool) (fun n=>Nat.beq m n) (fun ø=>false) b) (fun ø=>a==b) a
theorem Ro{a b:Int}(h:Hq a b=false):a≠b:=by
 intro e;subst e
 cases a with
 |ofNat m=>simp[Hq,Nat.beq_refl]at h
 |negSucc m=>simp[Hq]at h
noncomputable def lY(h:Int)(l:List DictEntry):Bool:= @List.rec DictEntry (fun ø=>Bool) true (fun e ø ih=> @Bool.rec (fun ø=>Bool) ih false (Hq e.hash h)) l
theorem x7{h:Int}:∀{l:List DictEntry},lY h l=true->∀e∈l,e.hash≠h
 |[],_,e,he=>by cases he
 |a::l,q,e,he=>by
  have q': @Bool.rec (fun ø=>Bool) (lY h l) false (Hq a.hash h)=true:=q
  cases hb:Hq a.hash h with
  |true=>rw[hb]at q';cases q'
  |false=>
   rw[hb]at q';rcases bp.mp he with rfl|he
   ·exact Ro hb
   ·exact x7 (l:=l) q' e he
noncomputable def TP{α:Type}(x:Sem α)(o:Obj):Sem α:= @Sem.casesOn α (fun ø=>Sem α) x (fun ø=>x) (fun ø=>x) (fun ø=>x) (fun ø=>x) (fun ø ø=>x) (fun ø ø=>x) (fun ø ø k=>k o) (fun ø ø ø ø=>x) (fun ø ø=>x) (fun ø ø=>x) (fun ø ø=>x) (fun ø ø=>x) (fun ø=>x) (fun ø=>x) (fun ø ø ø=>x) (fun ø ø ø=>x) (fun ø ø ø ø ø=>x) (fun ø ø=>x) (fun ø ø=>x) (fun ø ø=>x) (fun ø ø ø ø=>x) (fun ø ø ø ø=>x) (fun ø=>x) (fun ø ø=>x) (fun ø=>x) (fun ø ø ø ø ø=>x)
noncomputable def Hr(d:Addr)(key:Value)(h:Int):Sem (Option Nat):=match key with
 | .int k t=>.load d (keyPart (.int k t)) fun o=>match o.data with
   | .dict es n=> @Bool.rec (fun ø=>Sem (Option Nat)) (TP (dictFind d (.int k t) h) o) (.pure none) (lY h es.toList)
   |_=>TP (dictFind d (.int k t) h) o
 |key=>dictFind d key h
theorem Ei{es:Array DictEntry}{h:Int}(q:lY h es.toList=true):placesWithHash es.size (fun i=>es[i]?.map (·.hash)) h=[]:=by
 unfold placesWithHash;rw[List.filter_eq_nil_iff];intro i hi;have hi:=gE.mp hi;have:=x7 q es[i] (by simp);simp[hi,this]
set_option tactic.hygienic true in
theorem BA: @dictFind=Hr:=by
 funext d key h
 cases key<;>try rfl
 rename_i k t;show dictFind d (.int k t) h= .load d (keyPart (.int k t)) _;have e1:dictFind d (.int k t) h= .load d (keyPart (.int k t)) (fun o=>TP (dictFind d (.int k t) h) o):=rfl;rw[e1]
 congr 1
 funext o
 obtain⟨c,dd,data,sl⟩:=o
 cases data with
 |dict es n=>
  show TP (dictFind d (.int k t) h) _= @Bool.rec (fun ø=>Sem (Option Nat)) (TP (dictFind d (.int k t) h) _) (.pure none) (lY h es.toList)
  cases q:lY h es.toList with
  |false=>rfl
  |true=>
   show TP (dictFind d (.int k t) h) _= .pure none;have hp:=Ei q;show(if(Value.int k t::List.filterMap (fun i=>Option.map (fun x=>x.key) es[i]?) (placesWithHash es.size (fun i=>Option.map (fun x=>x.hash) es[i]?) h)).all carriedByValue=true then dictWalkPlain d (Value.int k t) h es (placesWithHash es.size (fun i=>Option.map (fun x=>x.hash) es[i]?) h)else _)=_;rw[hp];rfl
 |_=>rfl
section
section
variable{tb:String->Option Builtin}{p:Program}{w:World}{n₀:Nat}{ann:Option Value}
noncomputable def lZ(tb:String->Option Builtin)(p:Program)(w:World)(n₀:Nat)(ann:Option Value)(b:Nat)(s:Shared)(t:Thread)(s':Shared)(t':Thread):Prop:=
 ∀N r,topRun tb p w n₀ ann N s' t'=some r->topRun tb p w n₀ ann (b+N) s t=some r
theorem lZ.refl(s t):lZ tb p w n₀ ann 0 s t s t:=fun N r h=>by rw[gq];exact h
theorem lZ.trans{b b' s t s' t' ie Y1}(h:lZ tb p w n₀ ann b s t s' t')(h':lZ tb p w n₀ ann b' s' t' ie Y1):lZ tb p w n₀ ann (b+b') s t ie Y1:=fun N r q=>by
 rw[Nat.add_assoc];exact h _ _ (h' _ _ q)
theorem lZ.mono{b b' s t s' t'}(h:lZ tb p w n₀ ann b s t s' t')(hb:b<=b'):lZ tb p w n₀ ann b' s t s' t':=fun N r q=>by
 have:=topRun_mono (b'-b) _ _ _ _ (h N r q);rwa[show b+N+(b'-b)=b'+N by omega]at this
theorem lZ.step{s t s' t'}(ht:through t=false)(hk:stepOk n₀ ann t=true)(hs:step (denote tb) p w s t= .go s' t'):lZ tb p w n₀ ann 1 s t s' t':=fun N r q=>by
 rw[Nat.add_comm];show topRun tb p w n₀ ann (N+1) s t=some r;unfold topRun;rw[ht,hk,hs];exact q
noncomputable def Ev(tb:String->Option Builtin)(p:Program)(w:World)(n₀:Nat)(ann:Option Value)(c:Code){α:Type}(b:Nat)(x:Sem α)(s:Shared)(pos:Pos)(a:α)(s':Shared)(pos':Pos):Prop:=
 ∀(K:α->Sem Fin) (H:Value->Sem Fin) (gd:Bool->Bool) (lv:List Value->List Value) (f:Frame) (B:List Frame),lZ tb p w n₀ ann b s ⟨x.wrap K H gd lv,c,pos,f::B⟩ s' ⟨K a,c,pos',f::B⟩
variable{c:Code}{α β:Type}{s s':Shared}{pos pos':Pos}{a:α}{b:Nat}
theorem Ev.mono{x:Sem α}{b'}(h:Ev tb p w n₀ ann c b x s pos a s' pos')(hb:b<=b'):Ev tb p w n₀ ann c b' x s pos a s' pos':=fun K H gd lv f B=>(h K H gd lv f B).mono hb
theorem Ev.pure:Ev tb p w n₀ ann c 0 (.pure a) s pos a s pos:=fun K H gd lv f B=>lZ.refl _ _
theorem Ev.bind{m:Sem α}{f:α->Sem β}{y:β}{b' ie iy}(h:Ev tb p w n₀ ann c b m s pos a s' pos')(h':Ev tb p w n₀ ann c b' (f a) s' pos' y ie iy):Ev tb p w n₀ ann c (b+b') (m>>= f) s pos y ie iy:=fun K H gd lv fr B=>by
 show lZ tb p w n₀ ann _ s ⟨(m.bind f).wrap K H gd lv,c,pos,fr::B⟩ _ _;rw[Sem.bind_eq_wrap,ny];exact(h _ _ _ _ fr B).trans (h' K H gd lv fr B)
theorem Ev.PO{m:Sem α}{f:α->Sem β}{y:β}{b' ie iy}(h:Ev tb p w n₀ ann c 0 m s pos a s' pos')(h':Ev tb p w n₀ ann c b' (f a) s' pos' y ie iy):Ev tb p w n₀ ann c b' (m>>= f) s pos y ie iy:=by
 have:=h.bind h';rwa[gq]at this
theorem Ev.keep{x:Sem α}{vs}(h:Ev tb p w n₀ ann c b x s pos a s' pos'):Ev tb p w n₀ ann c b (x.keep vs) s pos a s' pos':=fun K H gd lv f B=>by
 rw[Sem.keep_eq_wrap,ny];exact h _ _ _ _ f B
theorem Ev.holding{x:Sem α}{vs}(h:Ev tb p w n₀ ann c b x s pos a s' pos'):Ev tb p w n₀ ann c b (holding vs x) s pos a s' pos':=by
 unfold PySem.holding;split
 ·exact h
 ·exact h.keep
theorem Ev.onRaise{x:Sem α}{g}(h:Ev tb p w n₀ ann c b x s pos a s' pos'):Ev tb p w n₀ ann c b (x.onRaise g) s pos a s' pos':=fun K H gd lv f B=>by
 rw[Sem.onRaise_eq_wrap,ny];exact h _ _ _ _ f B
theorem Ev.tryCatch{x:Sem α}{g}(h:Ev tb p w n₀ ann c b x s pos a s' pos'):Ev tb p w n₀ ann c b (x.tryCatch g) s pos a s' pos':=fun K H gd lv f B=>by
 rw[Sem.tryCatch_eq_wrap,ny];exact h _ _ _ _ f B
theorem Ev.rule{t}{k:Unit->Sem α}(h:Ev tb p w n₀ ann c b (k ()) s pos a s' pos'):Ev tb p w n₀ ann c (1+b) (.rule t k) s pos a s' pos':=fun K H gd lv f B=>
 lZ.trans (lZ.step rfl rfl (by obtain⟨h,g,d,tk,os⟩:=s;rfl)) (h K H gd lv f B)
theorem Ev.at{q}{k:Unit->Sem α}(h:Ev tb p w n₀ ann c b (k ()) s q a s' pos'):Ev tb p w n₀ ann c (1+b) (.at q k) s pos a s' pos':=fun K H gd lv f B=>
 lZ.trans (lZ.step rfl rfl (by obtain⟨h,g,d,tk,os⟩:=s;rfl)) (h K H gd lv f B)
theorem Ev.fresh{k:Tok->Sem α}(h:Ev tb p w n₀ ann c b (k s.toks) {s with toks:=s.toks+1} pos a s' pos'):Ev tb p w n₀ ann c (1+b) (.fresh k) s pos a s' pos':=fun K H gd lv f B=>
 lZ.trans (lZ.step rfl rfl (by obtain⟨h,g,d,tk,os⟩:=s;rfl)) (h K H gd lv f B)
theorem Ev.ask{k:Setting->Sem α}(h:Ev tb p w n₀ ann c b (k ⟨p,w.params⟩) s pos a s' pos'):Ev tb p w n₀ ann c (1+b) (.ask k) s pos a s' pos':=fun K H gd lv f B=>
 lZ.trans (lZ.step rfl rfl (by obtain⟨h,g,d,tk,os⟩:=s;rfl)) (h K H gd lv f B)
theorem Ev.alloc{o}{k:Addr->Sem α}(h:Ev tb p w n₀ ann c b (k s.heap.objs.size) {s with heap:=s.heap.push o} pos a s' pos'):Ev tb p w n₀ ann c (1+b) (.alloc o k) s pos a s' pos':=fun K H gd lv f B=>
 lZ.trans (lZ.step rfl rfl (by obtain⟨h,g,d,tk,os⟩:=s;rfl)) (h K H gd lv f B)
theorem Ev.load{d:Addr}{q o}{k:Obj->Sem α}(ho:s.heap.get? d=some o)(h:Ev tb p w n₀ ann c b (k o) s pos a s' pos'):Ev tb p w n₀ ann c (1+b) (.load d q k) s pos a s' pos':=fun K H gd lv f B=>
 lZ.trans (lZ.step rfl rfl (by obtain⟨hp,gs,dd,tk,os⟩:=s;show(match hp.get? d with|some o=>_|none=>_)=_;rw[show hp.get? d=some o from ho])) (h K H gd lv f B)
theorem Ev.update{d:Addr}{q o g}{k:Unit->Sem α}(ho:s.heap.get? d=some o)(hn:n₀<=d)(h:Ev tb p w n₀ ann c b (k ()) {s with heap:=s.heap.update d g} pos a s' pos'):Ev tb p w n₀ ann c (1+b) (.update d q g k) s pos a s' pos':=fun K H gd lv f B=>
 lZ.trans (lZ.step rfl (by
    show(true&&(Nat.ble n₀ d||d==mainNs||d==cStatics||ann==some (.ref d)))=true;rw[Nat.ble_eq_true_of_le hn];rfl)
  (by obtain⟨hp,gs,dd,tk,os⟩:=s;show(if(hp.get? d).isSome then _ else _)=_;rw[show hp.get? d=some o from ho];rfl)) (h K H gd lv f B)
theorem Ev.call{id:String}{args:Args}{hd g l}{k:Result->Sem α}{r:Result}{y:Sem Fin}(h1:denote tb (.call (.builtin id) args)= .pure (.again (.builtin id args)))(h2:denote tb (.builtin id args)=y)(hid:id.startsWith "lifetime."=false)
  {b' ie iy} (hy:∀f B,lZ tb p w n₀ ann b s ⟨y,.builtin id args,pos,f::B⟩ s' ⟨.pure (match r with| .ok f=>.done f| .error _=>.done .next),.builtin id args,pos',f::B⟩) (hr:∃v,r= .ok v)
  (h:Ev tb p w n₀ ann c b' (k r) s' pos a ie iy):Ev tb p w n₀ ann c (1+(1+(b+(1+b')))) (.call (.call (.builtin id) args) hd g l k) s pos a ie iy:=fun K H gd lv f B=>by
 obtain⟨v,rfl⟩:=hr;obtain⟨hp,gs,dd,tk,os⟩:=s;obtain⟨Nu,gs',dd',TQ,os'⟩:=s';refine lZ.trans (t':=⟨denote tb (.call (.builtin id) args),.call (.builtin id) args,pos,.ret (fun x=>(k x).wrap K H gd lv) hd (gd g) (lv l) c pos _::f::B⟩) (lZ.step rfl rfl rfl) ?_;rw[h1];refine lZ.trans (lZ.step rfl (by
  show((!(id.startsWith "lifetime.")||_)&&_&&_&&_)=true;rw[hid];rfl) step_again) ?_
 rw[h2];refine lZ.trans (hy _ _) (lZ.trans (lZ.step rfl rfl rfl) (h K H gd lv f B))
end
theorem JN(k:Int)(t:Tok):denote treeTable (.call (.builtin "int.__hash__") ⟨[.int k t],[]⟩)= .pure (.again (.builtin "int.__hash__" ⟨[.int k t],[]⟩)):=by
 rw[Dy,gD]
 kernel_rfl!
theorem JO(k:Int)(t:Tok):denote treeTable (.builtin "int.__hash__" ⟨[.int k t],[]⟩)= .fresh fun tk=>.pure (.done (.ret (.int (rawHash k) tk))):=by
 rw[Dy,gD]
 kernel_rfl!
section
variable{p:Program}{w:World}{n₀:Nat}{ann:Option Value}{c:Code}{s:Shared}{pos:Pos}
theorem BB(k:Int)(t:Tok):Ev treeTable p w n₀ ann c 4 (PySem.call (.builtin "int.__hash__") [.int k t]) s pos (.int (rawHash k) s.toks) {s with toks:=s.toks+1} pos:=by
 refine Ev.mono (b:=1+(1+(1+(1+0)))+0) ?_ (cF _);unfold PySem.call runValue run;refine Ev.bind (a:=.ret (.int (rawHash k) s.toks)) (s':={s with toks:=s.toks+1}) (pos':=pos) ?_ Ev.pure;refine Ev.call (pos':=pos) (r:=.ok (.ret (.int (rawHash k) s.toks))) (JN k t) (JO k t) (by decide+kernel) (b:=1) (fun f B=>?_) ⟨_,rfl⟩ Ev.pure;exact lZ.step rfl rfl (by obtain⟨h,g,d,tk,os⟩:=s;rfl)
theorem NQ(k:Int)(t:Tok):Ev treeTable p w n₀ ann c 5 (pyHash (.int k t)) s pos (hashInt k) {s with toks:=s.toks+1} pos:=by
 have hr:=rawHash_range k;show Ev treeTable p w n₀ ann c 5 (pyHashByItsType (.int k t)) s pos (hashInt k) {s with toks:=s.toks+1} pos;unfold pyHashByItsType;have hv:cRoomFor "hash" [Value.int k t]=(Pure.pure ():Sem Unit):=rfl;have hs:specialOf (.int k t) "__hash__"=(Pure.pure (some (.builtin "int.__hash__")):Sem _):=slot_int_hash.lookup;rw[hv,hs];refine Ev.bind (b:=0) (b':=5) Ev.pure (Ev.bind (b:=0) (b':=5) Ev.pure ?_);dsimp only;rw[az (by rw[beq_builtin_none];exact m5)];refine Ev.bind (b:=0) (b':=5) Ev.pure ?_;rw[az (by exact m5)];refine Ev.bind (b:=5) (b':=0) (a:=some (.int (rawHash k) s.toks)) (s':={s with toks:=s.toks+1}) (pos':=pos) ?_ ?_
 ·simp only[callSpecialIfBoundUnlessNone?,bindSpecialIfBound?,hs]
  refine Ev.holding (Ev.bind (b:=1) (b':=4) (a:=some (.builtin "int.__hash__",[.int k t])) (s':=s) (pos':=pos) ?_ ?_)
  ·show Ev treeTable p w n₀ ann c 1 (.ask fun st=>_) s pos _ s pos
   refine Ev.ask (b:=0) ?_;simp only[slot_int_hash.bind];refine Ev.bind (b:=0) (b':=0) Ev.pure ?_;dsimp only;split
   ·exact Ev.pure
   ·exact Ev.tryCatch (x:=(Sem.pure (some (Value.builtin "int.__hash__",[Value.int k t])):Sem (Option (Value×List Value)))) Ev.pure
  ·show Ev treeTable p w n₀ ann c 4 (if(Value.builtin "int.__hash__"==Value.none)=true then _ else _) s pos _ _ pos
   rw[az (by simp only[builtin_beq_none];exact m5)];exact Ev.bind (b:=4) (b':=0) (BB k t) Ev.pure
 ·show Ev treeTable p w n₀ ann c 0 (if(decide (-(2:Int)^63<=rawHash k)&&decide (rawHash k<2^63))=true then _ else _) _ pos _ _ pos
  rw[aw (by rw[eK hr.1,eK hr.2];rfl)];exact Ev.pure
end
end
section
noncomputable def hp(h:Heap)(l:List Obj):Heap:=⟨h.objs++l.toArray,h.life⟩
theorem Rp(h:Heap):hp h []=h:=by simp[hp]
theorem FP(h:Heap)(l:List Obj)(o:Obj):(hp h l).push o=hp h (l++[o]):=by
 show Heap.mk ((h.objs++l.toArray).push o) h.life=Heap.mk (h.objs++(l++[o]).toArray) h.life
 congr 1
 apply Array.toList_inj.mp;simp
theorem FQ(h:Heap)(l:List Obj):(hp h l).objs.size=h.objs.size+l.length:=by simp[hp]
theorem qg(h:Heap)(l₁ l₂:List Obj)(es n):(hp h (l₁++aK es n::l₂)).get? (h.objs.size+l₁.length)=some (aK es n):=by
 unfold Heap.get?;have:(hp h (l₁++aK es n::l₂)).objs[h.objs.size+l₁.length]?=some (aK es n):=by
  show(h.objs++(l₁++aK es n::l₂).toArray)[h.objs.size+l₁.length]?=_;rw[Array.getElem?_append_right (by omega)];simp
 rw[this];rfl
theorem Hs(h:Heap)(l₁ l₂:List Obj)(o)(f:Obj->Obj):(hp h (l₁++o::l₂)).update (h.objs.size+l₁.length) f=hp h (l₁++f o::l₂):=by
 show Heap.mk ((h.objs++(l₁++o::l₂).toArray).modify _ f) h.life=Heap.mk _ h.life
 congr 1
 apply Array.ext
 ·simp
 ·intro i h1 h2
  rw[Array.getElem_modify];by_cases hi:i<h.objs.size
  ·rw[az (by omega),Array.getElem_append_left hi,Array.getElem_append_left hi]
  ·rw[Array.getElem_append_right (by omega),Array.getElem_append_right (by omega)]
   simp only[List.getElem_toArray];by_cases hj:h.objs.size+l₁.length=i
   ·subst hj
    simp
   ·rw[az hj]
    by_cases hk:i-h.objs.size<l₁.length
    ·rw[List.getElem_append_left hk,List.getElem_append_left hk]
    ·rw[List.getElem_append_right (by omega),List.getElem_append_right (by omega)]
     have:i-h.objs.size-l₁.length≠0:=by omega
     obtain⟨j,hj⟩:=Nat.exists_eq_succ_of_ne_zero this;simp[hj]
noncomputable def BC(h:Int)(es:List DictEntry):Prop:=∀e∈es,e.hash≠h
theorem q9{h:Int}:∀{l:List DictEntry},BC h l->lY h l=true
 |[],_=>rfl
 |a::l,q=>by
  show @Bool.rec (fun ø=>Bool) (lY h l) false (Hq a.hash h)=true;have:Hq a.hash h=false:=by
   cases hb:Hq a.hash h with
   |false=>rfl
   |true=>
    exfalso;refine q a (by simp) ?_;revert hb;generalize a.hash=x;intro hb;cases x<;>cases h
    ·simp only[Hq]at hb;rw[Nat.eq_of_beq_eq_true hb]
    ·simp[Hq]at hb
    ·simp[Hq]at hb
    ·simpa[Hq]using hb
  rw[this];exact q9 fun e he=>q e (cw _ he)
section
variable{p:Program}{w:World}{n₀:Nat}{ann:Option Value}{c:Code}{h:Heap}{g:Array GenState}{dr:Drawn}{tk:Nat}{os:OsState}{pos:Pos}
theorem FR{l₁ l₂:List Obj}{es n}{k:Int}{t:Tok}{x:Int}(hf:BC x es):
  Ev treeTable p w n₀ ann c 1 (dictFind (h.objs.size+l₁.length) (.int k t) x) ⟨hp h (l₁++aK es n::l₂),g,dr,tk,os⟩ pos none ⟨hp h (l₁++aK es n::l₂),g,dr,tk,os⟩ pos:=by
 rw[BA];refine Ev.load (b:=0) (qg h l₁ l₂ es n) ?_;show Ev treeTable p w n₀ ann c 0 (@Bool.rec (fun ø=>Sem (Option Nat)) _ (.pure none) (lY x es.toArray.toList)) _ pos none _ pos;rw[q9 hf];exact Ev.pure
theorem vO{l₁ l₂:List Obj}{es n}{e:DictEntry}{part}(hn:n₀<=h.objs.size+l₁.length)(hl:es.length<1000):
  Ev treeTable p w n₀ ann c 3 (updateDictKeys (h.objs.size+l₁.length) (·.push e) part) ⟨hp h (l₁++aK es n::l₂),g,dr,tk,os⟩ pos () ⟨hp h (l₁++aK (es++[e]) (n+1)::l₂),g,dr,tk,os⟩ pos:=by
 unfold updateDictKeys;have hm:(aK es n).mapDictKeys (·.push e)=aK (es++[e]) (n+1):=by
  show Obj.mk _ _ (.dict (es.toArray.push e) (n+1)) _=Obj.mk _ _ (.dict (es++[e]).toArray (n+1)) _;rw[List.push_toArray]
 refine Ev.load (b:=2) (qg h l₁ l₂ es n) ?_;refine Ev.update (b:=1) (qg h l₁ l₂ es n) hn ?_;rw[Hs,hm];refine Ev.load (b:=0) (qg h l₁ l₂ (es++[e]) (n+1)) ?_;refine Ev.bind (b:=0) (b':=0) Ev.pure ?_;have:(aK (es++[e]) (n+1)).data.pastItsLine=none:=by
  show(if(es++[e]).toArray.size>sizeLine+1 then _ else _)=_;rw[az (by rw[gR];simp;omega)]
 rw[this];exact Ev.pure
theorem Rq{l₁ l₂:List Obj}{es n}{k:Int}{t:Tok}{v:Value}{x:Int}(hf:BC x es)(hn:n₀<=h.objs.size+l₁.length)(hl:es.length<1000):
  Ev treeTable p w n₀ ann c 4 (dictPut (h.objs.size+l₁.length) x (.int k t) v) ⟨hp h (l₁++aK es n::l₂),g,dr,tk,os⟩ pos () ⟨hp h (l₁++aK (es++[⟨x,.int k t,v⟩]) (n+1)::l₂),g,dr,tk,os⟩ pos:=by
 unfold dictPut;exact Ev.bind (b:=1) (b':=3) (FR hf) (vO hn hl)
theorem JP{l₁ l₂:List Obj}{es n}{k:Int}{t:Tok}{v:Value}(hf:BC (hashInt k) es)(hn:n₀<=h.objs.size+l₁.length)(hl:es.length<1000):
  Ev treeTable p w n₀ ann c 10 (dictSet (h.objs.size+l₁.length) (.int k t) v) ⟨hp h (l₁++aK es n::l₂),g,dr,tk,os⟩ pos () ⟨hp h (l₁++aK (es++[⟨hashInt k,.int k t,v⟩]) (n+1)::l₂),g,dr,tk+1,os⟩ pos:=by
 unfold dictSet;refine Ev.holding (Ev.bind (b:=5) (b':=5) (NQ k t) ?_);unfold dictSetHashed;refine Ev.holding (Ev.bind (b:=1) (b':=4) (FR hf) ?_);exact Ev.rule (b:=3) (vO hn hl)
noncomputable def aS:Nat->List (Int×Str)->List DictEntry
 |_,[]=>[]
 |T,(k,x)::r=>⟨hashInt k,.int k T,.str x (T+1)⟩::aS (T+3) r
theorem rb(T:Nat):aS T []=[]:=rfl
theorem rc(T:Nat)(k:Int)(x:Str)(r:List (Int×Str)):aS T ((k,x)::r)=⟨hashInt k,.int k T,.str x (T+1)⟩::aS (T+3) r:=rfl
noncomputable def gW:Nat->List (Int×Str)->List DictEntry
 |_,[]=>[]
 |T,(k,x)::r=>⟨hashInt k,.int k T,.str x (T+1)⟩::gW (T+2) r
theorem rd(T:Nat):gW T []=[]:=rfl
theorem re(T:Nat)(k:Int)(x:Str)(r:List (Int×Str)):gW T ((k,x)::r)=⟨hashInt k,.int k T,.str x (T+1)⟩::gW (T+2) r:=rfl
noncomputable def xB(k:Int):Sem Value:=mkInt k
noncomputable def xC(q:Pos)(x:Str):Sem Value:=do let v <-mkText x;standAt q;pure v
noncomputable def dB(q:Pos)(l:List (Int×Str)):List (Sem Value×Sem Value):=l.map fun(k,x)=>(xB k,xC q x)
theorem JQ{s:Shared}(k:Int):Ev treeTable p w n₀ ann c 1 (xB k) s pos (.int k s.toks) {s with toks:=s.toks+1} pos:=Ev.fresh (b:=0) Ev.pure
theorem JR{s:Shared}(q:Pos)(x:Str):Ev treeTable p w n₀ ann c 2 (xC q x) s pos (.str x s.toks) {s with toks:=s.toks+1} q:=Ev.fresh (b:=1) (Ev.at (b:=0) Ev.pure)
noncomputable def Apart(es:List DictEntry):List (Int×Str)->Prop
 |[]=>True
 |(k,_)::r=>BC (hashInt k) es/\(∀y∈r,hashInt y.1≠hashInt k)/\Apart es r
theorem Apart.push{es:List DictEntry}{k x v}:∀{l:List (Int×Str)},Apart es l->(∀y∈l,hashInt y.1≠hashInt k)->Apart (es++[⟨hashInt k,x,v⟩]) l
 |[],_,_=>trivial
 |(k',_)::r,h,hk=>⟨fun e he=>by
  rcases cr.mp he with he|he
  ·exact h.1 e he
  ·obtain rfl:=cN.mp he
   exact fun q=>hk (k',_) (dJ) q.symm,h.2.1,Apart.push h.2.2 fun y hy=>hk y (by simp[hy])⟩
theorem BD{l₁ l₂:List Obj}(q:Pos)(hn:n₀<=h.objs.size+l₁.length):∀(l:List (Int×Str)) (es:List DictEntry) (n tk:Nat) (pos:Pos),Apart es l->es.length+l.length<1000->
  Ev treeTable p w n₀ ann c (13*l.length) (forIn (dB q l) PUnit.unit fun(x:Sem Value×Sem Value) (_:PUnit)=>(do
    let kv <-x.1
    let vv <-holding [kv] x.2
    holding [kv,vv] (dictSet (h.objs.size+l₁.length) kv vv)
    pure (ForInStep.yield PUnit.unit):Sem (ForInStep PUnit))) ⟨hp h (l₁++aK es n::l₂),g,dr,tk,os⟩ pos PUnit.unit
   ⟨hp h (l₁++aK (es++aS tk l) (n+l.length)::l₂),g,dr,tk+3*l.length,os⟩ (if l=[]then pos else q)
 |[],es,n,tk,pos,_,_=>by
  simp only[dB,nz,yW,rb,rc,gn,eZ,pY,m6,eI];exact Ev.pure
 |(k,x)::r,es,n,tk,pos,ha,hl=>by
  simp only[dB,bn,pP];simp only[bA]at hl;refine Ev.mono (b:=(1+(2+(10+0)))+13*r.length) ?_ (by simp only[bA];omega);refine Ev.bind (a:=ForInStep.yield PUnit.unit) (s':=⟨hp h (l₁++aK (es++[⟨hashInt k,.int k tk,.str x (tk+1)⟩]) (n+1)::l₂),g,dr,tk+3,os⟩) (pos':=q) ?_ ?_
  ·refine Ev.bind (JQ k) (Ev.bind (Ev.holding (JR q x)) (Ev.bind (Ev.holding (JP ha.1 hn (by omega))) Ev.pure))
  ·have:=BD (l₂:=l₂) q hn r (es++[⟨hashInt k,.int k tk,.str x (tk+1)⟩]) (n+1) (tk+3) q (ha.2.2.push ha.2.1) (by simp only[List.length_append,pZ];omega)
   simp only[List.append_assoc,u6,ite_self]at this;simp only[rb,rc,bA,eW,reduceCtorEq];rw[show n+(r.length+1)=n+1+r.length by omega,show tk+3*(r.length+1)=tk+3+3*r.length by omega];exact this
theorem FS{l₁:List Obj}(q:Pos)(l:List (Int×Str))(hn:n₀<=h.objs.size+l₁.length)(ha:Apart [] l)(hl:l.length=17):
  Ev treeTable p w n₀ ann c 223 (subDict (dB q l)) ⟨hp h l₁,g,dr,tk,os⟩ pos (h.objs.size+l₁.length) ⟨hp h (l₁++[aK (aS tk l) 17]),g,dr,tk+51,os⟩ q:=by
 unfold subDict;refine Ev.alloc (b:=222) ?_;rw[FP,FQ];refine Ev.bind (b:=0) (b':=222) Ev.pure ?_;have bN:l≠[]:=fun e=>by rw[e]at hl;cases hl
 have key:=BD (p:=p) (w:=w) (ann:=ann) (c:=c) (g:=g) (dr:=dr) (os:=os) (l₂:=[]) q hn l [] 0 tk pos ha (by simp[hl]);rw[az bN,hl]at key;refine Ev.bind (b:=222) (b':=0) (a:=()) (Ev.holding ?_) Ev.pure;rw[az (by simp[dB,hl])];exact Ev.mono (b:=1+(0+(13*17+0))) (Ev.rule (Ev.bind Ev.pure (Ev.bind key Ev.pure))) (by omega)
noncomputable def TR:Nat->List (Int×Str)->List (Value×Value)
 |_,[]=>[]
 |T,(k,x)::r=>(.int k T,.str x (T+1))::TR (T+2) r
theorem zn(T:Nat):TR T []=[]:=rfl
theorem zo(T:Nat)(k:Int)(x:Str)(r:List (Int×Str)):TR T ((k,x)::r)=(.int k T,.str x (T+1))::TR (T+2) r:=rfl
theorem BE(q:Pos):∀(l:List (Int×Str)) (s:Shared) (pos:Pos),Ev treeTable p w n₀ ann c (3*l.length) (evalPairs (dB q l)) s pos (TR s.toks l) {s with toks:=s.toks+2*l.length} (if l=[]then pos else q)
 |[],s,pos=>by
  simp only[dB,nz,evalPairs,zn,zo,eZ,pY,m6,eI];exact Ev.pure
 |(k,x)::r,s,pos=>by
  simp only[dB,bn,evalPairs];refine Ev.mono (b:=1+(2+(3*r.length+0))) ?_ (by simp only[bA];omega);have:=BE q r {s with toks:=s.toks+2} q;simp only[ite_self]at this;simp only[eW,reduceCtorEq,zn,zo,bA];rw[show s.toks+2*(r.length+1)=s.toks+2+2*r.length by omega];exact Ev.bind (JQ k) (Ev.bind (Ev.holding (JR q x)) (Ev.bind (Ev.holding this) Ev.pure))
theorem BF{l₁ l₂:List Obj}(hn:n₀<=h.objs.size+l₁.length):∀(l:List (Int×Str)) (T:Nat) (es:List DictEntry) (n tk:Nat) (pos:Pos),Apart es l->es.length+l.length<1000->
  Ev treeTable p w n₀ ann c (10*l.length) (forIn (TR T l) PUnit.unit fun(x:Value×Value) (_:PUnit)=>(do
    dictSet (h.objs.size+l₁.length) x.1 x.2
    pure (ForInStep.yield PUnit.unit):Sem (ForInStep PUnit))) ⟨hp h (l₁++aK es n::l₂),g,dr,tk,os⟩ pos PUnit.unit
   ⟨hp h (l₁++aK (es++gW T l) (n+l.length)::l₂),g,dr,tk+l.length,os⟩ pos
 |[],T,es,n,tk,pos,_,_=>by
  simp only[zn,zo,yW,rd,re,gn,eZ,pY,m6];exact Ev.pure
 |(k,x)::r,T,es,n,tk,pos,ha,hl=>by
  simp only[zn,zo,pP];simp only[bA]at hl;refine Ev.mono (b:=(10+0)+10*r.length) ?_ (by simp only[bA];omega);refine Ev.bind (a:=ForInStep.yield PUnit.unit) (s':=⟨hp h (l₁++aK (es++[⟨hashInt k,.int k T,.str x (T+1)⟩]) (n+1)::l₂),g,dr,tk+1,os⟩) (pos':=pos) ?_ ?_
  ·exact Ev.bind (JP ha.1 hn (by omega)) Ev.pure
  ·have:=BF (l₂:=l₂) hn r (T+2) (es++[⟨hashInt k,.int k T,.str x (T+1)⟩]) (n+1) (tk+1) pos (ha.2.2.push ha.2.1) (by simp only[List.length_append,pZ];omega)
   simp only[List.append_assoc,u6]at this;simp only[rd,re,bA];rw[show n+(r.length+1)=n+1+r.length by omega,show tk+(r.length+1)=tk+1+r.length by omega];exact this
theorem NR{l₁:List Obj}(q:Pos)(l:List (Int×Str))(hn:n₀<=h.objs.size+l₁.length)(ha:Apart [] l)(hl:l.length<=15)(bN:l≠[]):
  Ev treeTable p w n₀ ann c (1+13*l.length) (subDict (dB q l)) ⟨hp h l₁,g,dr,tk,os⟩ pos (h.objs.size+l₁.length) ⟨hp h (l₁++[aK (gW tk l) l.length]),g,dr,tk+2*l.length+l.length,os⟩ q:=by
 unfold subDict;refine Ev.alloc (b:=13*l.length) ?_;rw[FP,FQ];refine Ev.mono (b:=0+(3*l.length+(10*l.length+0)+0)) ?_ (by omega);refine Ev.bind Ev.pure ?_;refine Ev.bind (a:=()) (Ev.holding ?_) Ev.pure;rw[aw (by simpa[dB]using hl)];have k1:=BE (p:=p) (w:=w) (n₀:=n₀) (ann:=ann) (c:=c) q l ⟨hp h (l₁++[aK [] 0]),g,dr,tk,os⟩ pos;rw[az bN]at k1;refine Ev.bind k1 (Ev.holding ?_);have k2:=BF (p:=p) (w:=w) (ann:=ann) (c:=c) (g:=g) (dr:=dr) (os:=os) (l₂:=[]) hn l tk [] 0 (tk+2*l.length) q ha (by simp;omega);rw[kN,gq]at k2;exact Ev.bind k2 Ev.pure
theorem qh{l₁ l₂:List Obj}{es:List DictEntry}{n:Nat}{part}:Ev treeTable p w n₀ ann c 1 (dictEntries (h.objs.size+l₁.length) part) ⟨hp h (l₁++aK es n::l₂),g,dr,tk,os⟩ pos es.toArray ⟨hp h (l₁++aK es n::l₂),g,dr,tk,os⟩ pos:=
 Ev.load (b:=0) (qg h l₁ l₂ es n) Ev.pure
theorem BG{l₁ l₂:List Obj}{es:List DictEntry}{n:Nat}{part}:Ev treeTable p w n₀ ann c 1 (dictEpoch (h.objs.size+l₁.length) part) ⟨hp h (l₁++aK es n::l₂),g,dr,tk,os⟩ pos n ⟨hp h (l₁++aK es n::l₂),g,dr,tk,os⟩ pos:=
 Ev.load (b:=0) (qg h l₁ l₂ es n) Ev.pure
theorem BH{l₁ l₂:List Obj}{es':List DictEntry}{n':Nat}(hn:n₀<=h.objs.size+l₁.length)
  (hk:∀e∈es',∃k t,e.key= .int k t):∀(m i:Nat) (es:List DictEntry) (n:Nat),i+m=es'.length->es.length+m<1000->(es'.drop i).Pairwise (fun a b=>a.hash≠b.hash)->(∀a∈es,∀b∈es'.drop i,a.hash≠b.hash)->
  Ev treeTable p w n₀ ann c (6*m) (forIn (List.range' i m) PUnit.unit fun(i:Nat) (_:PUnit)=>(do
    let x <-dictEntries (h.objs.size+(l₁++aK es n::l₂).length)
    match x[i]? with
    |some e=>do
     holding [e.key,e.val] (dictPut (h.objs.size+l₁.length) e.hash e.key e.val)
     let ep <-dictEpoch (h.objs.size+(l₁++aK es n::l₂).length)
     if(ep != n')=true then do
      unsupported "dict.changed-during-merge"
      pure (ForInStep.yield PUnit.unit)
     else pure (ForInStep.yield PUnit.unit)
    |x=>do
     unsupported "dict.changed-during-merge"
     pure (ForInStep.yield PUnit.unit):Sem (ForInStep PUnit))) ⟨hp h ((l₁++aK es n::l₂)++[aK es' n']),g,dr,tk,os⟩ pos PUnit.unit
   ⟨hp h ((l₁++aK (es++es'.drop i) (n+m)::l₂)++[aK es' n']),g,dr,tk,os⟩ pos
 |0,i,es,n,hi,hl,Nu,hf=>by
  have:es'.drop i=[]:=uZ (by omega);simp only[List.range'_zero,yW,this,gn,pY,m6];exact Ev.pure
 |m+1,i,es,n,hi,hl,oV,hf=>by
  have de:i<es'.length:=by omega
  have hd:es'.drop i=es'[i]::es'.drop (i+1):=(pk de);rw[hd]at oV hf ⊢;obtain⟨k,t,Ht⟩:=hk es'[i] (by simp);simp only[List.range'_succ,pP];refine Ev.mono (b:=(1+(4+(1+0)))+6*m) ?_ (by omega);refine Ev.bind (a:=ForInStep.yield PUnit.unit) (s':=⟨hp h ((l₁++aK (es++[es'[i]]) (n+1)::l₂)++[aK es' n']),g,dr,tk,os⟩) (pos':=pos) ?_ ?_
  ·refine Ev.bind (qh (l₁:=l₁++aK es n::l₂) (l₂:=[])) ?_
   have he:es'.toArray[i]?=some es'[i]:=by simp[de]
   rw[he];have NS:=Rq (p:=p) (w:=w) (n₀:=n₀) (ann:=ann) (c:=c) (h:=h) (g:=g) (dr:=dr) (tk:=tk) (os:=os) (pos:=pos) (l₁:=l₁) (l₂:=l₂++[aK es' n']) (es:=es) (n:=n) (k:=k) (t:=t) (v:=es'[i].val) (x:=es'[i].hash) (fun e Di=>hf e Di _ dJ) hn (by omega);rw[<-Ht]at NS;have e0:(⟨es'[i].hash,es'[i].key,es'[i].val⟩:DictEntry)=es'[i]:=rfl;rw[e0]at NS;simp only[List.append_assoc,List.cons_append]at NS ⊢;refine Ev.bind (Ev.holding NS) ?_;have hep:=BG (p:=p) (w:=w) (n₀:=n₀) (ann:=ann) (c:=c) (h:=h) (g:=g) (dr:=dr) (tk:=tk) (os:=os) (pos:=pos) (l₁:=l₁++aK (es++[es'[i]]) (n+1)::l₂) (l₂:=[]) (es:=es') (n:=n') (part:=none);simp only[List.append_assoc,List.cons_append,List.length_append,bA]at hep ⊢;refine Ev.bind hep ?_;rw[az (by simp)];exact Ev.pure
  ·have:=BH (l₁:=l₁) (l₂:=l₂) (n':=n') hn hk m (i+1) (es++[es'[i]]) (n+1) (by omega) (by simp;omega) (List.Pairwise.of_cons oV) (fun a ha b hb=>by
    rcases cr.mp ha with ha|ha
    ·exact hf a ha b (cw _ hb)
    ·obtain rfl:=cN.mp ha
     exact(List.pairwise_cons.mp oV).1 b hb)
   simp only[List.append_assoc,u6,List.length_append,bA]at this ⊢;rw[show n+(m+1)=n+1+m by omega];exact this
theorem BI{l₁ l₂:List Obj}{es es':List DictEntry}{n n':Nat}(hn:n₀<=h.objs.size+l₁.length)(bN:es≠[])(lE:(h.objs.size+(l₁++aK es n::l₂).length==sysModules)=false)
  (hk:∀e∈es',∃k t,e.key= .int k t) (oV:es'.Pairwise fun a b=>a.hash≠b.hash) (hf:∀a∈es,∀b∈es',a.hash≠b.hash) (hl:es.length+es'.length<1000):
  Ev treeTable p w n₀ ann c (5+6*es'.length) (mergeMapping (h.objs.size+l₁.length) (.ref (h.objs.size+(l₁++aK es n::l₂).length)) false) ⟨hp h ((l₁++aK es n::l₂)++[aK es' n']),g,dr,tk,os⟩ pos ()
   ⟨hp h ((l₁++aK (es++es') (n+es'.length)::l₂)++[aK es' n']),g,dr,tk,os⟩ pos:=by
 unfold mergeMapping;have s0:=qg h (l₁++aK es n::l₂) [] es' n';have Xe:Ev treeTable p w n₀ ann c 1 (PySem.typeOf (.ref (h.objs.size+(l₁++aK es n::l₂).length))) ⟨hp h ((l₁++aK es n::l₂)++[aK es' n']),g,dr,tk,os⟩ pos (.type "dict") ⟨hp h ((l₁++aK es n::l₂)++[aK es' n']),g,dr,tk,os⟩ pos:=Ev.load (b:=0) s0 Ev.pure;refine Ev.mono (b:=(1+0)+((1+0)+(1+(1+(1+(6*es'.length+0)))))) ?_ (by omega);refine Ev.bind (a:=true) (s':=⟨hp h ((l₁++aK es n::l₂)++[aK es' n']),g,dr,tk,os⟩) (pos':=pos) ?_ ?_
 ·unfold isInstance
  refine Ev.bind Xe ?_;rw[isSubtype_dict_dict];exact Ev.pure
 ·dsimp only
  rw[aw rfl];refine Ev.bind (a:=some (.builtin "dict.__iter__")) (s':=⟨hp h ((l₁++aK es n::l₂)++[aK es' n']),g,dr,tk,os⟩) (pos':=pos) ?_ ?_
  ·unfold specialOf
   refine Ev.bind Xe ?_;rw[PySem.F.slot_dict_iter.lookup];exact Ev.pure
  ·have e1:(some (Value.builtin "dict.__iter__")==some (Value.builtin "dict.__iter__"))=true:=by simp
   rw[e1];refine Ev.PO Ev.pure ?_;dsimp only;rw[az (by rw[lE];exact m5)];have k1:=qh (p:=p) (w:=w) (n₀:=n₀) (ann:=ann) (c:=c) (h:=h) (g:=g) (dr:=dr) (tk:=tk) (os:=os) (pos:=pos) (l₁:=l₁) (l₂:=l₂++[aK es' n']) (es:=es) (n:=n) (part:=none);have k2:=qh (p:=p) (w:=w) (n₀:=n₀) (ann:=ann) (c:=c) (h:=h) (g:=g) (dr:=dr) (tk:=tk) (os:=os) (pos:=pos) (l₁:=l₁++aK es n::l₂) (l₂:=[]) (es:=es') (n:=n') (part:=none);have k3:=BG (p:=p) (w:=w) (n₀:=n₀) (ann:=ann) (c:=c) (h:=h) (g:=g) (dr:=dr) (tk:=tk) (os:=os) (pos:=pos) (l₁:=l₁++aK es n::l₂) (l₂:=[]) (es:=es') (n:=n') (part:=none);have k4:=BH (p:=p) (w:=w) (n₀:=n₀) (ann:=ann) (c:=c) (h:=h) (g:=g) (dr:=dr) (tk:=tk) (os:=os) (pos:=pos) (l₁:=l₁) (l₂:=l₂) (es':=es') (n':=n') hn hk es'.length 0 es n (by omega) hl (by simpa using oV) (by simpa using hf);rw[<-List.cons_append,<-List.append_assoc]at k1;refine Ev.bind k1 ?_;rw[az (by simpa using bN)];refine Ev.bind k2 (Ev.bind k3 ?_);rw[List.range_eq_range'];simp only[List.drop_zero]at k4;refine Ev.bind (a:=PUnit.unit) ?_ Ev.pure;exact k4
noncomputable def gX:Nat->List (List (Int×Str))->List DictEntry
 |_,[]=>[]
 |T,l::r=>aS T l++gX (T+51) r
theorem vP(T:Nat):gX T []=[]:=rfl
theorem vQ(T:Nat)(l:List (Int×Str))(r:List (List (Int×Str))):gX T (l::r)=aS T l++gX (T+51) r:=rfl
noncomputable def px:Nat->List (List (Int×Str))->List Obj
 |_,[]=>[]
 |T,l::r=>aK (aS T l) 17::px (T+51) r
theorem BJ(T:Nat):px T []=[]:=rfl
theorem BK(T:Nat)(l:List (Int×Str))(r:List (List (Int×Str))):px T (l::r)=aK (aS T l) 17::px (T+51) r:=rfl
noncomputable def cz(q:Pos)(l:List (Int×Str)):List (Option (Sem Value)×Sem Value):=l.map fun(k,x)=>(some (xB k),xC q x)
noncomputable def hs(l:List (Int×Str)):List Int:=l.map fun y=>hashInt y.1
theorem js:∀(l:List (Int×Str)) (T:Nat),(aS T l).map (·.hash)=hs l
 |[],_=>rfl
 |(k,x)::r,T=>by simp only[rb,rc,bn,js r,hs]
theorem vR:∀(l:List (Int×Str)) (T:Nat),(gW T l).map (·.hash)=hs l
 |[],_=>rfl
 |(k,x)::r,T=>by simp only[rd,re,bn,vR r,hs]
theorem gu:∀(l:List (Int×Str)) (T:Nat),(aS T l).length=l.length
 |[],_=>rfl
 |(k,x)::r,T=>by simp only[rb,rc,bA,gu r]
theorem sT:∀(l:List (Int×Str)) (T:Nat),(gW T l).length=l.length
 |[],_=>rfl
 |(k,x)::r,T=>by simp only[rd,re,bA,sT r]
theorem x8:∀(l:List (Int×Str)) (T:Nat),∀e∈aS T l,∃k t,e.key= .int k t
 |[],_,e,he=>by cases he
 |(k,x)::r,T,e,he=>by
  rcases bp.mp he with rfl|he
  ·exact⟨_,_,rfl⟩
  ·exact x8 r _ e he
theorem x9:∀(l:List (Int×Str)) (T:Nat),∀e∈gW T l,∃k t,e.key= .int k t
 |[],_,e,he=>by cases he
 |(k,x)::r,T,e,he=>by
  rcases bp.mp he with rfl|he
  ·exact⟨_,_,rfl⟩
  ·exact x9 r _ e he
theorem tQ{es:List DictEntry}(h:(es.map (·.hash)).Nodup):es.Pairwise fun a b=>a.hash≠b.hash:=List.pairwise_map.mp h
theorem rf:∀{l:List (Int×Str)} {es:List DictEntry},(es.map (·.hash)++hs l).Nodup->Apart es l
 |[],_,_=>trivial
 |(k,x)::r,es,hn=>by
  have h2:=(kO.mp hn);refine⟨fun e he q=>h2.2.2 _ (bP.mpr ⟨e,he,rfl⟩) _ (dJ) q,fun y hy q=>?_,rf ?_⟩
  ·exact(gC.mp h2.2.1).1 (bP.mpr ⟨y,hy,q⟩)
  ·exact hn.sublist (List.sublist_append_right [_] _ |>.append_left _)
theorem BL(q:Pos)(k:Int)(x:Str)(r:List (Int×Str)):cz q ((k,x)::r)=(some (xB k),xC q x)::cz q r:=rfl
section
variable{F:Option (Sem Value)×Sem Value->Option Addr×List (Sem Value×Sem Value)->Sem (ForInStep (Option Addr×List (Sem Value×Sem Value)))}
theorem fill(xD:∀k v main run,run.length+1≠17->F (some k,v) (main,run)=pure (.yield (main,run++[(k,v)])))(q:Pos)(rest:List (Option (Sem Value)×Sem Value))(main:Option Addr):
  ∀(l:List (Int×Str)) (run:List (Sem Value×Sem Value)),run.length+l.length<17->forIn (cz q l++rest) (main,run) F=forIn rest (main,run++dB q l) F
 |[],run,_=>by simp[cz,dB]
 |(k,x)::r,run,hl=>by
  simp only[bA]at hl;rw[BL,List.cons_append,pP,xD _ _ _ _ (by omega)];have:=fill xD q rest main r (run++[(xB k,xC q x)]) (by simp;omega);show forIn (cz q r++rest) (main,run++[(xB k,xC q x)]) F=_;rw[this,List.append_assoc];rfl
variable{R:Addr->Value->Sem Unit}
variable(xD:∀k v main run,run.length+1≠17->F (some k,v) (main,run)=pure (.yield (main,run++[(k,v)])))
 (UX:∀k v run,run.length+1=17->F (some k,v) (none,run)=(do let d <-(do let d <-subDict (run++[(k,v)]);pure (some d));pure (.yield (d,[]))))
 (XK:∀k v d run,run.length+1=17->F (some k,v) (some d,run)=(do
  let m <-(do
   let sub <-holding [.ref d] (subDict (run++[(k,v)]))
   (holding [.ref d,.ref sub] (mergeMapping d (.ref sub) false)).onRaise (R d)
   pure (some d))
  pure (.yield (m,[]))))
include xD
theorem FU{l:List (Int×Str)}(hl:l.length=17):∃l' k x,l=l'++[(k,x)]/\l'.length=16:=by
 refine⟨l.dropLast,(l.getLast (by intro e;rw[e]at hl;cases hl)).1,(l.getLast (by intro e;rw[e]at hl;cases hl)).2,?_,by simp[hl]⟩;exact(rV (by intro e;rw[e]at hl;cases hl)).symm
include XK
theorem JT{q:Pos}{l:List (Int×Str)}{rest:List (Option (Sem Value)×Sem Value)}(hl:l.length=17){E:List DictEntry}{n:Nat}{subs:List Obj}(hE:E≠[])(vS:(E.map (·.hash)++hs l).Nodup)(hlen:E.length+17<1000)
  (hn:n₀<=h.objs.size) (lE:sysModules<h.objs.size) {b:Nat} {a ie iy}
  (k:Ev treeTable p w n₀ ann c b (forIn rest (some h.objs.size,[]) F) ⟨hp h (aK (E++aS tk l) (n+17)::subs++[aK (aS tk l) 17]),g,dr,tk+51,os⟩ q a ie iy):
  Ev treeTable p w n₀ ann c (400+b) (forIn (cz q l++rest) (some h.objs.size,[]) F) ⟨hp h (aK E n::subs),g,dr,tk,os⟩ pos a ie iy:=by
 obtain⟨l',k',x',rfl,jN⟩:=FU xD hl;have e1:cz q (l'++[(k',x')])++rest=cz q l'++((some (xB k'),xC q x')::rest):=by simp[cz]
 rw[e1,fill xD q _ _ l' [] (by simp[jN]),kN,pP,XK _ _ _ _ (by simp[dB,jN])];have e2:dB q l'++[(xB k',xC q x')]=dB q (l'++[(k',x')]):=by simp[dB]
 rw[e2];generalize hL:l'++[(k',x')]=L at*;have d0:(hs L).Nodup:=(kO.mp vS).2.1;have dd:=(kO.mp vS).2.2;have k1:=FS (p:=p) (w:=w) (n₀:=n₀) (ann:=ann) (c:=c) (h:=h) (g:=g) (dr:=dr) (tk:=tk) (os:=os) (pos:=pos) (l₁:=aK E n::subs) q L (by omega) (rf (by simpa using d0)) hl;have k2:=BI (p:=p) (w:=w) (n₀:=n₀) (ann:=ann) (c:=c) (h:=h) (g:=g) (dr:=dr) (tk:=tk+51) (os:=os) (pos:=q) (l₁:=[]) (l₂:=subs) (es:=E) (es':=aS tk L) (n:=n) (n':=17) (by simpa using hn) hE
  (pi.mpr (Nat.ne_of_gt (rW lE (nA _ _)))) (x8 L tk) (tQ (by rw[js];exact d0)) (fun a ha b hb=>dd _ (bP.mpr ⟨a,ha,rfl⟩) _ (by rw[<-js L tk];exact bP.mpr ⟨b,hb,rfl⟩)) (by rw[gu,hl];exact hlen)
 simp only[kN,eZ,m6,gu,hl]at k2;refine Ev.mono (b:=(((223+(5+6*17+0))+0)+b)) ?_ (by omega);refine Ev.bind (a:=ForInStep.yield (some h.objs.size,[])) (Ev.bind (a:=some h.objs.size) (Ev.bind (Ev.holding k1) (Ev.bind (Ev.onRaise (Ev.holding k2)) Ev.pure)) Ev.pure) k
theorem ya{q:Pos}{rest:List (Option (Sem Value)×Sem Value)}(hn:n₀<=h.objs.size)(lE:sysModules<h.objs.size){b:Nat}{a ie iy}:∀(cs:List (List (Int×Str))) (E:List DictEntry) (n:Nat) (subs:List Obj) (tk:Nat),
  (∀l∈cs,l.length=17)->E≠[]->(E.map (·.hash)++hs cs.flatten).Nodup->E.length+17*cs.length<1000->
  (Ev treeTable p w n₀ ann c b (forIn rest (some h.objs.size,[]) F) ⟨hp h (aK (E++gX tk cs) (n+17*cs.length)::subs++px tk cs),g,dr,tk+51*cs.length,os⟩ q a ie iy)->
  Ev treeTable p w n₀ ann c (400*cs.length+b) (forIn (cz q cs.flatten++rest) (some h.objs.size,[]) F) ⟨hp h (aK E n::subs),g,dr,tk,os⟩ q a ie iy
 |[],E,n,subs,tk,_,_,_,_,k=>by
  simp only[List.flatten_nil,cz,nz,kN,eZ,pY,gq];simpa only[vP,vQ,BJ,BK,gn,eZ,pY,m6]using k
 |l::cs,E,n,subs,tk,hl,hE,vS,hlen,k=>by
  simp only[bA]at hlen;have h1:l.length=17:=hl l (by simp);have XL:hs (l++cs.flatten)=hs l++hs cs.flatten:=by simp[hs]
  rw[gA,XL,<-List.append_assoc]at vS;have e1:cz q (l::cs).flatten++rest=cz q l++(cz q cs.flatten++rest):=by simp[cz]
  rw[e1];refine Ev.mono (b:=400+(400*cs.length+b)) ?_ (by simp only[bA];omega);refine JT xD XK h1 hE (kO.mp vS).1 (by omega) hn lE ?_;have:=ya hn lE cs (E++aS tk l) (n+17) (subs++[aK (aS tk l) 17]) (tk+51) (fun y hy=>hl y (by simp[hy])) (by simp[hE]) (by rw[List.map_append,js];exact vS) (by rw[List.length_append,gu,h1];omega)
   (by
    simp only[vP,vQ,BJ,BK,bA]at k;rw[show n+17+17*cs.length=n+17*(cs.length+1) by omega,show tk+51+51*cs.length=tk+51*(cs.length+1) by omega];simpa only[List.append_assoc,List.cons_append,kN,u6]using k)
  simpa only[List.cons_append]using this
omit XK in
include UX in
theorem JU{q:Pos}{l:List (Int×Str)}{rest:List (Option (Sem Value)×Sem Value)}(hl:l.length=17)(vS:(hs l).Nodup)(hn:n₀<=h.objs.size){b:Nat}{a ie iy}
  (k:Ev treeTable p w n₀ ann c b (forIn rest (some h.objs.size,[]) F) ⟨hp h [aK (aS tk l) 17],g,dr,tk+51,os⟩ q a ie iy):
  Ev treeTable p w n₀ ann c (400+b) (forIn (cz q l++rest) (none,[]) F) ⟨h,g,dr,tk,os⟩ pos a ie iy:=by
 obtain⟨l',k',x',rfl,jN⟩:=FU xD hl;have e1:cz q (l'++[(k',x')])++rest=cz q l'++((some (xB k'),xC q x')::rest):=by simp[cz]
 rw[e1,fill xD q _ _ l' [] (by simp[jN]),kN,pP,UX _ _ _ (by simp[dB,jN])];have e2:dB q l'++[(xB k',xC q x')]=dB q (l'++[(k',x')]):=by simp[dB]
 rw[e2];generalize hL:l'++[(k',x')]=L at*;have k1:=FS (p:=p) (w:=w) (n₀:=n₀) (ann:=ann) (c:=c) (h:=h) (g:=g) (dr:=dr) (tk:=tk) (os:=os) (pos:=pos) (l₁:=[]) q L (by simpa using hn) (rf (by simpa using vS)) hl;simp only[Rp,eZ,m6,kN]at k1;refine Ev.mono (b:=(((223+0)+0)+b)) ?_ (by omega);exact Ev.bind (a:=ForInStep.yield (some h.objs.size,[])) (Ev.bind (a:=some h.objs.size) (Ev.bind k1 Ev.pure) Ev.pure) k
end
theorem yb:∀(cs:List (List (Int×Str))),(∀l∈cs,l.length=17)->∀T,(gX T cs).length=17*cs.length
 |[],_,_=>rfl
 |l::cs,hc,T=>by
  simp only[vP,vQ,List.length_append,gu,bA,yb cs (fun y hy=>hc y (by simp[hy])),hc l (by simp)];omega
theorem BM:∀(cs:List (List (Int×Str))) (T:Nat),(gX T cs).map (·.hash)=hs cs.flatten
 |[],_=>rfl
 |l::cs,T=>by
  have:hs (l++cs.flatten)=hs l++hs cs.flatten:=by simp[hs]
  rw[gX,List.map_append,js,BM cs,gA,this]
theorem Ej{q:Pos}(rg:List (Int×Str))(cs:List (List (Int×Str)))(l:List (Int×Str))(h0:rg.length=17)(hc:∀l∈cs,l.length=17)(hl:l.length<=15)(bN:l≠[])(vS:(hs rg++hs cs.flatten++hs l).Nodup)
  (hlen:17*cs.length<900) (hn:n₀<=h.objs.size) (lE:sysModules<h.objs.size):
  Ev treeTable p w n₀ ann c (400*cs.length+1000) (dictDisplay (cz q (rg++(cs.flatten++l)))) ⟨h,g,dr,tk,os⟩ pos (.ref h.objs.size)
   ⟨hp h (aK (aS tk rg++gX (tk+51) cs++gW (tk+51+51*cs.length) l) (17+17*cs.length+l.length)::px (tk+51) cs++[aK (gW (tk+51+51*cs.length) l) l.length]),g,dr,tk+51+51*cs.length+3*l.length,os⟩ q:=by
 have e1:cz q (rg++(cs.flatten++l))=cz q rg++(cz q cs.flatten++(cz q l++[])):=by simp[cz]
 unfold dictDisplay;dsimp only;rw[e1];refine Ev.mono (b:=(400+(400*cs.length+0))+((1+13*l.length)+((5+6*l.length)+0)+0)) ?_ (by omega);have JV:=kO.mp vS;have ZL:=kO.mp JV.1;refine Ev.bind (a:=(some h.objs.size,dB q l)) (s':=⟨hp h (aK (aS tk rg++gX (tk+51) cs) (17+17*cs.length)::px (tk+51) cs),g,dr,tk+51+51*cs.length,os⟩) (pos':=q) ?_ ?_
 ·have xD:∀(k:Sem Value) (v:Sem Value) (main:Option Addr) (run:List (Sem Value×Sem Value)),run.length+1≠17->(((run++[(k,v)]).length==17)=true)=False:=fun k v main run hr=>by simpa using hr
  have UX:∀(k:Sem Value) (v:Sem Value) (run:List (Sem Value×Sem Value)),run.length+1=17->(((run++[(k,v)]).length==17)=true)=True:=fun k v run hr=>by simpa using hr
  have hE:∀(k:Sem Value) (v:Sem Value) (run:List (Sem Value×Sem Value)),((run++[(k,v)]).isEmpty=true)=False:=fun k v run=>by simp
  refine JU (fun k v main run hr=>?_) (fun k v run hr=>?_) h0 ZL.1 hn (ya (R:=fun d x=>do let _ <-holding [Value.ref d,x] (runValue (Code.builtin "proto.let_go" { }));pure ()) (fun k v main run hr=>?_) (fun k v d run hr=>?_) hn lE cs (aS tk rg) 17 [] (tk+51) hc (fun e=>?_) (by rw[js];exact JV.1) (by rw[gu,h0];omega) ?_)
  ·dsimp only;rw[az (by rw[xD k v main run hr];exact id)]
  ·dsimp only;rw[aw (by rw[UX k v run hr];trivial),az (by rw[hE];exact id)]
  ·dsimp only;rw[az (by rw[xD k v main run hr];exact id)]
  ·dsimp only;rw[aw (by rw[UX k v run hr];trivial),az (by rw[hE];exact id)]
  ·have:=gu rg tk
   rw[e,h0]at this;cases this
  ·rw[fill (fun k v main run hr=>by dsimp only;rw[az (by rw[xD k v main run hr];exact id)]) q [] _ l [] (by simp;omega)]
   simp only[yW,kN];exact Ev.pure
 ·have hlp:(dB q l).isEmpty=false:=by
   cases l with
   |nil=>exact absurd rfl bN
   |cons=>rfl
  dsimp only;rw[az (by rw[hlp];exact m5)];have len:(aS tk rg++gX (tk+51) cs).length=17+17*cs.length:=by rw[List.length_append,gu,h0,yb cs hc]
  have hsE:(aS tk rg++gX (tk+51) cs).map (·.hash)=hs rg++hs cs.flatten:=by rw[List.map_append,js,BM]
  have k1:=NR (p:=p) (w:=w) (n₀:=n₀) (ann:=ann) (c:=c) (h:=h) (g:=g) (dr:=dr) (tk:=tk+51+51*cs.length) (os:=os) (pos:=q) (l₁:=aK (aS tk rg++gX (tk+51) cs) (17+17*cs.length)::px (tk+51) cs) q l (by omega) (rf (by simpa using JV.2.1)) hl bN;have k2:=BI (p:=p) (w:=w) (n₀:=n₀) (ann:=ann) (c:=c) (h:=h) (g:=g) (dr:=dr) (tk:=tk+51+51*cs.length+2*l.length+l.length) (os:=os) (pos:=q) (l₁:=[]) (l₂:=px (tk+51) cs) (es:=aS tk rg++gX (tk+51) cs) (es':=gW (tk+51+51*cs.length) l) (n:=17+17*cs.length) (n':=l.length) (by simpa using hn)
   (by intro e;rw[e,eZ]at len;omega)
   (pi.mpr (Nat.ne_of_gt (rW lE (nA _ _)))) (x9 l _) (tQ (by rw[vR];exact JV.2.1))
   (fun a ha b hb=>JV.2.2 _ (by rw[<-hsE];exact bP.mpr ⟨a,ha,rfl⟩) _ (by rw[<-vR l (tk+51+51*cs.length)];exact bP.mpr ⟨b,hb,rfl⟩)) (by rw[len,sT];omega)
  simp only[kN,eZ,m6,sT]at k2;rw[show tk+51+51*cs.length+3*l.length=tk+51+51*cs.length+2*l.length+l.length by omega];refine Ev.bind (a:=some h.objs.size) (Ev.bind (Ev.holding k1) (Ev.bind (Ev.onRaise (Ev.holding k2)) Ev.pure)) Ev.pure
end
noncomputable abbrev Ent:=(Int×Nat×Pos)×(Str×Nat×Pos)
noncomputable def kE(d:Ent):Option Expr:=some (.Constant (.int d.1.1) d.1.2.1 d.1.2.2)
noncomputable def vE(d:Ent):Expr:=.Constant (.str d.2.1) d.2.2.1 d.2.2.2
theorem JW(q:Pos)(env:Env)(D:List Ent):(evalEachOpt (D.map kE) env).zip ((evalEach (D.map vE) env).map fun v=>do let x <-v;standAt q;pure x)=cz q (D.map fun d=>(d.1.1,d.2.1)):=by
 induction D with
 |nil=>rfl
 |cons d D ih=>exact congrArg (List.cons _) ih
noncomputable def l3:Nat->List (Int×Str)->Bool
 |_,[]=>true
 |n,(.ofNat k,_)::r=>Nat.ble n k&&l3 (k+1) r
 |_,(.negSucc _,_)::_=>false
theorem l5(n k:Nat)(x:Str)(r:List (Int×Str)):l3 n ((.ofNat k,x)::r)=(Nat.ble n k&&l3 (k+1) r):=rfl
theorem l6(n k:Nat)(x:Str)(r:List (Int×Str)):l3 n ((.negSucc k,x)::r)=false:=rfl
set_option tactic.hygienic true in
theorem pz{k:Nat}(hk:k<2^61-1):hashInt (Int.ofNat k)=Int.ofNat k:=by
 have h1:rawHash (Int.ofNat k)=Int.ofNat k:=by
  have e:((k:Int) % ((2^61-1:Nat):Int))=(k:Int):=Int.emod_eq_of_lt (by omega) (by omega);simp only[rawHash,Int.ofNat_eq_natCast,Int.natAbs_natCast,e];split
  ·omega
  ·split
   ·rename_i h;have:=eq_of_beq h;omega
   ·rfl
 unfold hashInt;rw[h1,az];intro h;have:=eq_of_beq h;have:(0:Int)<=Int.ofNat k:=mF k;omega
theorem JX:∀{l:List (Int×Str)} {n:Nat},l3 n l=true->∀y∈l,∃k:Nat,y.1=Int.ofNat k/\n<=k
 |[],_,_,y,hy=>by cases hy
 |(.ofNat k,x)::r,n,h,y,hy=>by
  simp only[l5,l6,dI,Nat.ble_eq]at h;rcases bp.mp hy with rfl|hy
  ·exact⟨k,rfl,h.1⟩
  ·obtain⟨k',e,hk⟩:=JX h.2 y hy
   exact⟨k',e,by omega⟩
 |(.negSucc _,_)::_,_,h,_,_=>by simp[l5,l6]at h
theorem yc:∀{l:List (Int×Str)} {n:Nat},l3 n l=true->(∀y∈l,y.1<2^31)->(hs l).Nodup
 |[],_,_,_=>qP
 |(.ofNat k,x)::r,n,h,hb=>by
  simp only[l5,l6,dI,Nat.ble_eq]at h;refine gC.mpr ⟨fun hm=>?_,yc h.2 fun y hy=>hb y (by simp[hy])⟩;obtain⟨y,hy,e⟩:=bP.mp hm;obtain⟨k',e',hk⟩:=JX h.2 y hy;have b1:=hb y (by simp[hy]);have b2:=hb (Int.ofNat k,x) (by simp);rw[e']at e b1;have b1':((k':Nat):Int)<2147483648:=b1;have b2':((k:Nat):Int)<2147483648:=b2;dsimp only at e;rw[pz (by omega),pz (by omega)]at e;have:=rX e;omega
 |(.negSucc _,_)::_,_,h,_=>by simp[l5,l6]at h
end
noncomputable def kt:Stmt:=aJ pq.main.body 8
noncomputable def UY(k:Option Expr)(v:Expr):Ent:=(k.elim (0,0,default) (JJ (0,0,default) (fun ø ø ø=>(0,0,default)) (fun i n p=>(i,n,p)) (fun ø ø ø=>(0,0,default))),JJ (default,0,default) (fun ø ø ø=>(default,0,default)) (fun ø ø ø=>(default,0,default)) (fun x n p=>(x,n,p)) v)
noncomputable def ZM:List Ent:=(tO kt).zipWith UY (tP kt)
noncomputable def FV:List (Int×Str):=ZM.map fun d=>(d.1.1,d.2.1)
noncomputable def c0:List (Int×Str):=FV.take 17
noncomputable def cn(j:Nat):List (Int×Str):=(FV.drop (17*j)).take 17
noncomputable def cs:List (List (Int×Str)):=[cn 1,cn 2,cn 3,cn 4,cn 5,cn 6,cn 7,cn 8,cn 9,cn 10,cn 11,cn 12,cn 13,cn 14,cn 15,cn 16,cn 17,cn 18,cn 19,cn 20,cn 21,cn 22,cn 23,cn 24,cn 25,cn 26,cn 27,cn 28,cn 29,cn 30,cn 31,cn 32,cn 33,cn 34,cn 35,cn 36,cn 37]
noncomputable def cl:List (Int×Str):=FV.drop 646
noncomputable def sU:Obj:=aK (aS 297 c0++gX 348 cs++gW 2235 cl) 650
noncomputable def zp:Obj:=aK (aS 348 (cn 1)) 17
noncomputable def zq:Obj:=aK (aS 399 (cn 2)) 17
noncomputable def zr:Obj:=aK (aS 450 (cn 3)) 17
noncomputable def zt:Obj:=aK (aS 501 (cn 4)) 17
noncomputable def zu:Obj:=aK (aS 552 (cn 5)) 17
noncomputable def zv:Obj:=aK (aS 603 (cn 6)) 17
noncomputable def zw:Obj:=aK (aS 654 (cn 7)) 17
noncomputable def zx:Obj:=aK (aS 705 (cn 8)) 17
noncomputable def zy:Obj:=aK (aS 756 (cn 9)) 17
noncomputable def zz:Obj:=aK (aS 807 (cn 10)) 17
noncomputable def zA:Obj:=aK (aS 858 (cn 11)) 17
noncomputable def zB:Obj:=aK (aS 909 (cn 12)) 17
noncomputable def zC:Obj:=aK (aS 960 (cn 13)) 17
noncomputable def zD:Obj:=aK (aS 1011 (cn 14)) 17
noncomputable def zE:Obj:=aK (aS 1062 (cn 15)) 17
noncomputable def zF:Obj:=aK (aS 1113 (cn 16)) 17
noncomputable def zG:Obj:=aK (aS 1164 (cn 17)) 17
noncomputable def zH:Obj:=aK (aS 1215 (cn 18)) 17
noncomputable def zI:Obj:=aK (aS 1266 (cn 19)) 17
noncomputable def zJ:Obj:=aK (aS 1317 (cn 20)) 17
noncomputable def zK:Obj:=aK (aS 1368 (cn 21)) 17
noncomputable def zL:Obj:=aK (aS 1419 (cn 22)) 17
noncomputable def zM:Obj:=aK (aS 1470 (cn 23)) 17
noncomputable def zN:Obj:=aK (aS 1521 (cn 24)) 17
noncomputable def zO:Obj:=aK (aS 1572 (cn 25)) 17
noncomputable def zP:Obj:=aK (aS 1623 (cn 26)) 17
noncomputable def zQ:Obj:=aK (aS 1674 (cn 27)) 17
noncomputable def zR:Obj:=aK (aS 1725 (cn 28)) 17
noncomputable def zS:Obj:=aK (aS 1776 (cn 29)) 17
noncomputable def zT:Obj:=aK (aS 1827 (cn 30)) 17
noncomputable def zU:Obj:=aK (aS 1878 (cn 31)) 17
noncomputable def zV:Obj:=aK (aS 1929 (cn 32)) 17
noncomputable def JY:Obj:=aK (aS 1980 (cn 33)) 17
noncomputable def JZ:Obj:=aK (aS 2031 (cn 34)) 17
noncomputable def J0:Obj:=aK (aS 2082 (cn 35)) 17
noncomputable def J1:Obj:=aK (aS 2133 (cn 36)) 17
noncomputable def J2:Obj:=aK (aS 2184 (cn 37)) 17
noncomputable def J3:Obj:=aK (gW 2235 cl) 4
noncomputable def UZ(P:Params):Obj:=mO (.type "dict") (.dict #[(d0 P),(d1 P),(d2 P),(d3 P),(d4 P),(d5 P),(d6 P),(d7 P),(d8 P),(d9 P),(NL P),(NM P),(NN P),(PL P),(Rn P),(TO P)] 16)
noncomputable def b13(P:Params):BT:=(.node (boot_o_7 P) (.node ak (.node sK (lf zq) (lf JZ)) (.node ak (lf zH) .nil)) (.node aG (.node ak (lf zz) .nil) (.node aG (lf zP) .nil)))
noncomputable def b14:BT:=(.node ak (.node sF (.node ko (lf zv) (lf J3)) (.node vK (lf zL) .nil)) (.node nZ (.node sO (lf zD) .nil) (.node sS (lf zT) .nil)))
noncomputable def b15(P:Params):BT:=(.node (boot_o_5 P) (.node (boot_o_9 P) (.node sE (.node sL (lf zt) (lf J1)) (.node vJ (lf zJ) .nil)) (.node ak (.node qf (lf zB) .nil) (.node ak (lf zR) .nil))) (.node lU (.node sH (.node aG (lf zx) .nil) (.node vL (lf zN) .nil)) (.node ak (.node sQ (lf zF) .nil) (.node sU (lf zV) .nil))))
noncomputable def b16(P:Params):BT:=(.node (boot_o_2 P) (.node (boot_o_4 P) (.node (boot_o_8 P) (.node aG (.node ak (lf zr) (lf J0)) (.node vI (lf zI) .nil)) (.node sI (.node sN (lf zA) .nil) (.node vM (lf zQ) .nil))) (.node JL (.node sG (.node ak (lf zw) .nil) (.node ak (lf zM) .nil)) (.node jr (.node sP (lf zE) .nil) (.node lV (lf zU) .nil)))) (.node (boot_o_6 P) (.node (boot_o_10 P) (.node ak (.node qe (lf zu) (lf J2)) (.node (kr P) (lf zK) .nil)) (.node sJ (.node kq (lf zC) .nil) (.node vN (lf zS) .nil))) (.node km (.node ak (.node sM (lf zy) .nil) (.node ak (lf zO) .nil)) (.node aG (.node sR (lf zG) .nil) (.node zp (lf JY) .nil)))))
noncomputable def U0(P:Params):BT:=(.node (boot_o_0 P) (.node (boot_o_1 P) (.node (UZ P) (b13 P) b14) (b15 P)) (b16 P))
noncomputable def Hu(P:Params):BT:=(.node (boot_o_0 P) (.node (boot_o_1 P) (.node (PM P) (b13 P) b14) (b15 P)) (b16 P))
theorem h_7(w:World):(fun os=>segRunT treeTable pq w 11 (some (.ref 6)) 1 30 (SS ZG 54 290 w os) (piecesOf (seg 7 1) E cE ⟨48,0,48,6⟩ [topFrame fp]))=fun os=>some (.next,SS PN 61 297 w os,cE,⟨49,0,50,30⟩):=by
 rw[jY,gD]
 kernel_rfl!
theorem vT:FV=c0++(cs.flatten++cl):=by kernel_rfl!
theorem ZN:tO kt=ZM.map kE:=by kernel_rfl!
theorem ZO:tP kt=ZM.map vE:=by kernel_rfl!
theorem Rr:l3 0 FV=true:=by kernel_rfl!
theorem J4:(FV.all fun y=>y.1<2147483648)=true:=by kernel_rfl!
theorem BN:(hs c0++hs cs.flatten++hs cl).Nodup:=by
 have h:=yc Rr fun y hy=>by
  have:=cD.mp J4 y hy;simpa using this
 rw[vT]at h;simpa[hs]using h
theorem Rs:kt= .Assign (NP kt) (.Dict (tO kt) (tP kt) (mK kt)) (Eh kt):=by kernel_rfl!
theorem NT:seg 8 1=[kt]:=by kernel_rfl!
theorem J5(env:Env):swapsWithSole (NP kt) (.Dict (tO kt) (tP kt) (mK kt)) (Eh kt).line E=pure false:=by kernel_rfl!
noncomputable def vU(v:Value):Sem Flow:=do assignStores E v (<-swappedStores (NP kt) (.Dict (tO kt) (tP kt) (mK kt)) E) ((assignEach (NP kt) E).map (·.2))
theorem ZP(w:World):(fun os=>segRunT treeTable pq w 11 (some (.ref 6)) 1 8 (SS Hu 100 2247 w os) ⟨(vU (.ref 61)).wrap doneF deadEnd id id,cE,mK kt,[topFrame fp]⟩)=fun os=>some (.next,SS U0 100 2248 w os,cE,⟨51,0,51,13⟩):=by
 rw[jY,gD]
 kernel_rfl!
theorem ZQ(P:Params):hp (absHeap (PN P) 61 {}) (aK (aS 297 c0++gX 348 cs++gW 2235 cl) 650::px 348 cs++[aK (gW 2235 cl) 4])=absHeap (Hu P) 100 {}:=by kernel_rfl!
theorem Rt(P:Params):(absHeap (PN P) 61 {}).objs.size=61:=by kernel_rfl!
theorem J6:cs.length=37:=by kernel_rfl!
theorem Ek:cl.length=4:=by kernel_rfl!
theorem Ru:c0.length=17:=by kernel_rfl!
theorem Rv:(cs.all fun l=>l.length==17)=true:=by kernel_rfl!
theorem h_8(w:World)(os:OsState){rest:List Stmt}{N:Nat}{r:Shared}
  (k:topRun treeTable pq w 11 (some (.ref 6)) N (SS U0 100 2248 w os).abs (restOf rest E cE ⟨51,0,51,13⟩ [topFrame fp])=some r):
  topRun treeTable pq w 11 (some (.ref 6)) (16000+N) (SS PN 61 297 w os).abs (restOf (seg 8 1++rest) E cE ⟨49,0,50,30⟩ [topFrame fp])=some r:=by
 rw[NT];unfold restOf;rw[u6,execs_cons_wrap];generalize hK:(fun f:Flow=>_)=K at*;have U1:=Ej (p:=pq) (w:=w) (n₀:=11) (ann:=some (.ref 6)) (c:=cE) (h:=absHeap (PN w.params) 61 {}) (g:= #[]) (dr:={}) (tk:=297) (os:=os) (pos:=mK kt) (q:=mK kt) c0 cs cl Ru (fun l hl=>by simpa using cD.mp Rv l hl) (by rw[Ek];decide) (by intro e;have:=Ek;rw[e]at this;cases this) BN (by rw[J6];decide) (by rw[Rt];decide) (by rw[Rt];decide);rw[J6,Ek,Rt,<-vT]at U1;have hh:=ZQ w.params;have hd:Ev treeTable pq w 11 (some (.ref 6)) cE (1+(400*37+1000)) (eval (.Dict (tO kt) (tP kt) (mK kt)) E) (SS PN 61 297 w os).abs (Eh kt) (.ref 61) (SS Hu 100 2247 w os).abs (mK kt):=by
  rw[arm_eval_Dict,ZN,ZO,JW];refine Ev.at (Ev.PO Ev.pure ?_);rw[show(SS Hu 100 2247 w os).abs=⟨absHeap (Hu w.params) 100 {},#[],{},2247,os⟩from rfl,<-hh];exact U1
 have e8:exec kt E=(standAt (Eh kt)).bind fun ø=>(eval (.Dict (tO kt) (tP kt) (mK kt)) E).bind vU:=by
  conv=>lhs;rw[Rs]
  rw[arm_exec_Assign,J5 E];rfl
 generalize hD:eval (.Dict (tO kt) (tP kt) (mK kt)) E=D at*;have hE:(D.bind vU).wrap K (leaveH E) id id=D.wrap (fun v=>(vU v).wrap K (leaveH E) id id) (leaveH E) id id:=by rw[Sem.bind_eq_wrap,ny];rfl
 have hS:(exec kt E).wrap K (leaveH E) id id=(standAt (Eh kt)).wrap (fun ø=>(D.bind vU).wrap K (leaveH E) id id) (leaveH E) id id:=by rw[e8,Sem.bind_eq_wrap,ny];rfl
 rw[hS];have s1:lZ treeTable pq w 11 (some (.ref 6)) 1 (SS PN 61 297 w os).abs ⟨(standAt (Eh kt)).wrap (fun ø=>(D.bind vU).wrap K (leaveH E) id id) (leaveH E) id id,cE,⟨49,0,50,30⟩,[topFrame fp]⟩ (SS PN 61 297 w os).abs ⟨(D.bind vU).wrap K (leaveH E) id id,cE,Eh kt,[topFrame fp]⟩:=
  Ev.at (b:=0) Ev.pure (fun ø=>(D.bind vU).wrap K (leaveH E) id id) (leaveH E) id id (topFrame fp) []
 have s2:=hd (fun v=>(vU v).wrap K (leaveH E) id id) (leaveH E) id id (topFrame fp) [];rw[hE]at s1 ⊢;obtain⟨a,ha,s3⟩:=seg_top (res:=id) (K':=K) (H':=leaveH E) (gd:=id) (lv:=id) (B:=[topFrame fp]) rfl 8 (SS Hu 100 2247 w os).abs ⟨(vU (.ref 61)).wrap doneF deadEnd id id,cE,mK kt,[topFrame fp]⟩ ⟨(vU (.ref 61)).wrap K (leaveH E) id id,cE,mK kt,[topFrame fp]⟩ _ _ _ _ ⟨rfl,rfl,.inl ⟨rfl,rfl,_,rfl,rfl⟩⟩ (lF (congrFun (ZP w) os));obtain rfl:a= .next:=ha
 have s4:topRun treeTable pq w 11 (some (.ref 6)) N (SS U0 100 2248 w os).abs ⟨K .next,cE,⟨51,0,51,13⟩,[topFrame fp]⟩=some r:=by
  rw[<-hK];exact k
 have s5:=lZ.mono (s1.trans s2) (Nat.le_of_ble_eq_true rfl:1+(1+(400*37+1000))<=15992) (8+N) r (s3 N r s4);rw[<-Nat.add_assoc]at s5;exact s5
noncomputable def Rw(P:Params):Obj:=mO (.type "dict") (.dict #[(Xk P),(d1 P),(d2 P),(d3 P),(d4 P),(d5 P),(d6 P),(d7 P),(d8 P),(d9 P),(NL P),(NM P),(NN P),(PL P),(Rn P),(TO P),(UH P),(UI P)] 18)
noncomputable def NU:Obj:=mO .none (.fields #[(iv 1),(iv 0),(.ref 20),(iv 5),(iv 0),(.ref 27),(iv 18),(iv 0),(.ref 34),(iv 36),(iv 0),(.ref 41),(iv 49),(iv 0),(.ref 59),(iv 52),(iv 0),(.ref 105),(iv 58),(iv 0),(.ref 112)])
noncomputable def J7:Obj:=mO (.type "tuple") (.seq #[(.str WZ 2251),(.str ⟨#[114]⟩ 2252)] 0)
noncomputable def J8:Obj:=mO .none (fD MW MW (aJ pq.main.body 9) 0 .none .none)
noncomputable def BO:Obj:=cO MW 2248 MW 2249 s3 2250 52 1 0 0 3 100 true 181 101 (.ref 102) (.ref 103) (.ref 104) 2253 52 s3 2254
noncomputable def n4:Obj:=mO (.type "function") (fD MW MW (aJ pq.main.body 9) 3 (.str s1 228) (.ref 105))
noncomputable def J9:Obj:=mO (.type "builtin_function_or_method") (.fields #[(.builtin "type.__prepare__"),(.type "type")])
noncomputable def BP(P:Params):Obj:=mO (.type "dict") (.dict #[(d19 P),(dE P ⟨#[95,95,113,117,97,108,110,97,109,101,95,95]⟩ 2267 (.str DR 2266)),(d20 P),(d21 P),(d22 P),(d23 P),(d24 P),(d25 P),(d26 P),(d27 P),(d28 P),(d29 P),(d30 P)] 13)
noncomputable def BR:Obj:=mO .none (.fields #[(iv 61),(iv 4),(.ref 122),(iv 84),(iv 4),(.ref 129),(iv 88),(iv 4),(.ref 136),(iv 95),(iv 4),(.ref 143),(iv 98),(iv 4),(.ref 150),(iv 106),(iv 4),(.ref 157),(iv 109),(iv 4),(.ref 164)])
noncomputable def vV:Obj:=cO DR 2260 DR 2261 s3 2262 58 0 0 0 0 110 false 181 111 .none .none .none 2263 58 s3 2264
noncomputable def vW:Obj:={cls:=(.type "frame"),dict:=none,data:=.plain,slots:= #[(some (.ref 112)),(some (.ref 3)),(some (.ref 109)),none,(some (.str IM 2256)),none,(some (.ref 0))]}
noncomputable def vX:Obj:=mO (.type "str_ascii_iterator") (.fields #[.none,(iv 2)])
noncomputable def vY:Obj:=mO (.type "StopIteration") (.fields #[(.ref 115),.none,.none,.none,(.bool false),.none])
noncomputable def vZ:Obj:=mO (.type "tuple") (.seq #[(.str AQ 2278),(.str ⟨#[119,115]⟩ 2279),(.str T2 2280),(.str T3 2281),(.str Tw 2282),(.str ⟨#[98]⟩ 2283),(.str T7 2284),(.str ⟨#[110,116]⟩ 2285),(.str Qs 2286)] 0)
noncomputable def v3:Obj:=mO .none (fD WV Yk (aJ (e6 (aJ pq.main.body 11)) 1) 0 .none .none)
noncomputable def rh:Obj:=cO WV 2275 Yk 2276 s3 2277 61 2 0 0 3 117 true 181 118 (.ref 119) (.ref 120) (.ref 121) 2287 61 s3 2288
noncomputable def iz:Obj:=mO (.type "function") (fD WV Yk (aJ (e6 (aJ pq.main.body 11)) 1) 3 (.str IM 2256) (.ref 122))
noncomputable def v4:Obj:=mO (.type "tuple") (.seq #[(.str AQ 2293),(.str Tw 2294),(.str W1 2295)] 0)
noncomputable def v5:Obj:=mO .none (fD Pm Yl (aJ (e6 (aJ pq.main.body 11)) 2) 0 .none .none)
noncomputable def ri:Obj:=cO Pm 2290 Yl 2291 s3 2292 84 1 0 0 3 124 true 181 125 (.ref 126) (.ref 127) (.ref 128) 2296 84 s3 2297
noncomputable def jt:Obj:=mO (.type "function") (fD Pm Yl (aJ (e6 (aJ pq.main.body 11)) 2) 3 (.str IM 2256) (.ref 129))
noncomputable def v6:Obj:=mO (.type "tuple") (.seq #[(.str AQ 2302),(.str Ym 2303),(.str Tw 2304),(.str W1 2305),(.str ⟨#[105,108]⟩ 2306),(.str ⟨#[105]⟩ 2307)] 0)
noncomputable def v7:Obj:=mO .none (fD MX Yn (aJ (e6 (aJ pq.main.body 11)) 3) 0 .none .none)
noncomputable def rj:Obj:=cO MX 2299 Yn 2300 s3 2301 88 2 0 0 3 131 true 181 132 (.ref 133) (.ref 134) (.ref 135) 2308 88 s3 2309
noncomputable def ju:Obj:=mO (.type "function") (fD MX Yn (aJ (e6 (aJ pq.main.body 11)) 3) 3 (.str IM 2256) (.ref 136))
noncomputable def v8:Obj:=mO (.type "tuple") (.seq #[(.str AQ 2314),(.str Pq 2315)] 0)
noncomputable def v9:Obj:=mO .none (fD Pn Yo (aJ (e6 (aJ pq.main.body 11)) 4) 0 .none .none)
noncomputable def rk:Obj:=cO Pn 2311 Yo 2312 s3 2313 95 2 0 0 3 138 true 181 139 (.ref 140) (.ref 141) (.ref 142) 2316 95 s3 2317
noncomputable def jw:Obj:=mO (.type "function") (fD Pn Yo (aJ (e6 (aJ pq.main.body 11)) 4) 3 (.str IM 2256) (.ref 143))
noncomputable def wb:Obj:=mO (.type "tuple") (.seq #[(.str AQ 2322),(.str Pq 2323),(.str T7 2324),(.str ⟨#[97]⟩ 2325),(.str ⟨#[116,115]⟩ 2326)] 0)
noncomputable def wc:Obj:=mO .none (fD Po Yp (aJ (e6 (aJ pq.main.body 11)) 5) 0 .none .none)
noncomputable def rl:Obj:=cO Po 2319 Yp 2320 s3 2321 98 2 0 0 3 145 true 181 146 (.ref 147) (.ref 148) (.ref 149) 2327 98 s3 2328
noncomputable def jx:Obj:=mO (.type "function") (fD Po Yp (aJ (e6 (aJ pq.main.body 11)) 5) 3 (.str IM 2256) (.ref 150))
noncomputable def we:Obj:=mO (.type "tuple") (.seq #[(.str AQ 2333),(.str Pq 2334)] 0)
noncomputable def wf:Obj:=mO .none (fD WW Yq (aJ (e6 (aJ pq.main.body 11)) 6) 0 .none .none)
noncomputable def wg:Obj:=cO WW 2330 Yq 2331 s3 2332 106 2 0 0 3 152 true 181 153 (.ref 154) (.ref 155) (.ref 156) 2335 106 s3 2336
noncomputable def Ka:Obj:=mO (.type "function") (fD WW Yq (aJ (e6 (aJ pq.main.body 11)) 6) 3 (.str IM 2256) (.ref 157))
noncomputable def Kb:Obj:=mO (.type "tuple") (.seq #[(.str AQ 2341),(.str Pq 2342)] 0)
noncomputable def Kc:Obj:=mO .none (fD WX Yr (aJ (e6 (aJ pq.main.body 11)) 7) 0 .none .none)
noncomputable def Kd:Obj:=cO WX 2338 Yr 2339 s3 2340 109 2 0 0 3 159 true 181 160 (.ref 161) (.ref 162) (.ref 163) 2343 109 s3 2344
noncomputable def Ke:Obj:=mO (.type "function") (fD WX Yr (aJ (e6 (aJ pq.main.body 11)) 7) 3 (.str IM 2256) (.ref 164))
noncomputable def Kf:Obj:=mO (.type "tuple") (.seq #[(.str ⟨#[105,115,95,115,105,109,112,108,101]⟩ 2346),(.str T7 2347),(.str ⟨#[110,111,114,109]⟩ 2348),(.str ⟨#[110,116]⟩ 2349),(.str ⟨#[114,97,119]⟩ 2350)] 0)
noncomputable def iA(P:Params):Obj:=mO (.type "dict") (.dict #[(d19 P),(d20 P),(d21 P),(d22 P),(d23 P),(d24 P),(d25 P),(d26 P),(d27 P),(d28 P),(d29 P),(d30 P),(dE P s49 2353 (.ref 169)),(dE P s50 2355 (.ref 170)),(dE P s2 2356 .none)] 4)
noncomputable def wi:Obj:={cls:=(.type "type"),dict:=none,data:=(.cls {name:=DR,bases:=[(.type "object")],mro:=[(.ref 168),(.type "object")],ns:=167,qualname:=DR,hasDict:=true,slotNames:=[],subclasses:=[],abstract:=false,collection:=none,hasDel:=false}),slots:= #[none,none,(some (.str DR 2258)),(some (.str DR 2266)),(some (.builtin "object.__new__")),(some (.bool true))]}
noncomputable def Kg:Obj:=mO (.type "getset_descriptor") (.fields #[(.str s49 2352),(.ref 168),(.builtin "function.__dict__"),(.builtin "function.__dict__#set")])
noncomputable def Kh:Obj:=mO (.type "getset_descriptor") (.fields #[(.str s50 2354),(.ref 168),(.builtin "ExceptionGroup.__weakref__"),.none])
noncomputable def Ki:Obj:=mO (.type "super") (.fields #[(.ref 168),(.ref 168),(.ref 168)])
noncomputable def Kj:Obj:=mO (.type "builtin_function_or_method") (.fields #[(.builtin "object.__init_subclass__"),(.ref 168)])
noncomputable def ZR:BT:=(.node JZ (lf ak) .nil)
noncomputable def b18:BT:=(.node sK (.node zq (lf ak) .nil) ZR)
noncomputable def b19:BT:=(.node zH (lf rk) .nil)
noncomputable def ZS(P:Params):BT:=(.node ak (lf (iA P)) .nil)
noncomputable def b21(P:Params):BT:=(.node aG (.node ak (.node zz (lf v7) .nil) (ZS P)) (.node aG (.node zP (lf jx) .nil) (lf vZ)))
noncomputable def ZT(P:Params):BT:=(.node (boot_o_7 P) (.node ak b18 (.node ak b19 (lf BR))) (b21 P))
noncomputable def ZU:BT:=(.node J3 (lf Kc) .nil)
noncomputable def ZV:BT:=(.node ak (lf Ki) .nil)
noncomputable def XM:BT:=(.node ak (.node sF (.node ko (.node zv (lf ak) .nil) ZU) (.node vK (.node zL (lf wb) .nil) (lf ak))) (.node nZ (.node sO (.node zD (lf aG) .nil) ZV) (.node sS (.node zT (lf ak) .nil) (lf iz))))
noncomputable def ZW:BT:=(.node J1 (lf Kb) .nil)
noncomputable def ZX:BT:=(.node BO (lf Kg) .nil)
noncomputable def b28(P:Params):BT:=(.node (boot_o_9 P) (.node sE (.node sL (.node zt (lf ri) .nil) ZW) (.node vJ (.node zJ (lf ak) .nil) (lf vW))) (.node ak (.node qf (.node zB (lf ju) .nil) ZX) (.node ak (.node zR (lf aG) .nil) (lf v3))))
noncomputable def ZY:BT:=(.node aG (lf Ke) .nil)
noncomputable def b30:BT:=(.node sH (.node aG (.node zx (lf v6) .nil) ZY) (.node vL (.node zN (lf wc) .nil) (lf ak)))
noncomputable def b31:BT:=(.node zF (lf ak) .nil)
noncomputable def b32:BT:=(.node sU (.node zV (lf wg) .nil) (lf aG))
noncomputable def ZZ(P:Params):BT:=(.node (boot_o_5 P) (b28 P) (.node lU b30 (.node ak (.node sQ b31 (lf (BP P))) b32)))
noncomputable def Z0:BT:=(.node J0 (lf aG) .nil)
noncomputable def Z1:BT:=(.node J8 (lf wi) .nil)
noncomputable def Z2:BT:=(.node ak (lf Kd) .nil)
noncomputable def Z3:BT:=(.node J9 (lf Kj) .nil)
noncomputable def b38(P:Params):BT:=(.node (boot_o_4 P) (.node (boot_o_8 P) (.node aG (.node ak (.node zr (lf v5) .nil) Z0) (.node vI (.node zI (lf jw) .nil) (lf vV))) (.node sI (.node sN (.node zA (lf rj) .nil) Z1) (.node vM (.node zQ (lf ak) .nil) (lf ak)))) (.node NU (.node sG (.node ak (.node zw (lf aG) .nil) Z2) (.node ak (.node zM (lf ak) .nil) (lf vY))) (.node jr (.node sP (.node zE (lf v8) .nil) Z3) (.node lV (.node zU (lf wf) .nil) (lf ak)))))
noncomputable def Z4:BT:=(.node J2 (lf ak) .nil)
noncomputable def Z5:BT:=(.node n4 (lf Kh) .nil)
noncomputable def b41(P:Params):BT:=(.node (boot_o_10 P) (.node ak (.node qe (.node zu (lf jt) .nil) Z4) (.node (kr P) (.node zK (lf aG) .nil) (lf vX))) (.node sJ (.node kq (.node zC (lf ak) .nil) Z5) (.node vN (.node zS (lf we) .nil) (lf rh))))
noncomputable def Z6:BT:=(.node J7 (lf Kf) .nil)
noncomputable def b43:BT:=(.node ak (.node sM (.node zy (lf ak) .nil) Z6) (.node ak (.node zO (lf rl) .nil) (lf aG)))
noncomputable def b44:BT:=(.node zG (lf v9) .nil)
noncomputable def Z7:BT:=(.node JY (lf Ka) .nil)
noncomputable def b46:BT:=(.node zp Z7 (lf v4))
noncomputable def Z8(P:Params):BT:=(.node (boot_o_2 P) (b38 P) (.node (boot_o_6 P) (b41 P) (.node km b43 (.node aG (.node sR b44 (lf ak)) b46))))
noncomputable def Rx(P:Params):BT:=(.node (boot_o_0 P) (.node (boot_o_1 P) (.node (Rw P) (ZT P) XM) (ZZ P)) (Z8 P))
noncomputable def Ry(P:Params):Obj:=mO (.type "dict") (.dict #[(Xk P),(d1 P),(d2 P),(d3 P),(d4 P),(d5 P),(d6 P),(d7 P),(d8 P),(d9 P),(NL P),(NM P),(NN P),(PL P),(Rn P),(TO P),(UH P),(UI P),(Xl P),(Xm P),(Xn P),(Xo P),(Xp P),(Xq P),(Xr P),(Xs P),(Xu P),(Xv P),(Xw P),(Xx P),(Xy P),(Xz P),(XA P),(XB P),(XC P),(XD P),(XE P),(XF P),(XG P),(XH P),(XI P),(XJ P)] 42)
noncomputable def U2(P:Params):BT:=(.node (boot_o_0 P) (.node (boot_o_1 P) (.node (Ry P) (ZT P) XM) (ZZ P)) (Z8 P))
noncomputable def Rz(P:Params):Obj:=mO (.type "dict") (.dict #[(Xk P),(d1 P),(d2 P),(d3 P),(d4 P),(d5 P),(d6 P),(d7 P),(d8 P),(d9 P),(NL P),(NM P),(NN P),(PL P),(Rn P),(TO P),(UH P),(UI P),(Xl P),(Xm P),(Xn P),(Xo P),(Xp P),(Xq P),(Xr P),(Xs P),(Xu P),(Xv P),(Xw P),(Xx P),(Xy P),(Xz P),(XA P),(XB P),(XC P),(XD P),(XE P),(XF P),(XG P),(XH P),(XI P),(XJ P),(Zh P),(Zi P),(Zj P),(Zk P),(Zl P),(Zm P),(Zn P),(Zo P),(Zp P),(Zq P),(Zr P),(Zs P),(Zt P),(Zu P),(Zv P),(Zw P),(Zx P),(Zy P),(Zz P),(ZA P),(ZB P),(ZC P),(ZD P),(ZE P)] 66)
noncomputable def RA(P:Params):BT:=(.node (boot_o_0 P) (.node (boot_o_1 P) (.node (Rz P) (ZT P) XM) (ZZ P)) (Z8 P))
noncomputable def RB(P:Params):Obj:=mO (.type "dict") (.dict #[(Xk P),(d1 P),(d2 P),(d3 P),(d4 P),(d5 P),(d6 P),(d7 P),(d8 P),(d9 P),(NL P),(NM P),(NN P),(PL P),(Rn P),(TO P),(UH P),(UI P),(Xl P),(Xm P),(Xn P),(Xo P),(Xp P),(Xq P),(Xr P),(Xs P),(Xu P),(Xv P),(Xw P),(Xx P),(Xy P),(Xz P),(XA P),(XB P),(XC P),(XD P),(XE P),(XF P),(XG P),(XH P),(XI P),(XJ P),(Zh P),(Zi P),(Zj P),(Zk P),(Zl P),(Zm P),(Zn P),(Zo P),(Zp P),(Zq P),(Zr P),(Zs P),(Zt P),(Zu P),(Zv P),(Zw P),(Zx P),(Zy P),(Zz P),(ZA P),(ZB P),(ZC P),(ZD P),(ZE P),(d79 P)] 67)
noncomputable def jy(P:Params):Obj:=mO (.type "dict") (.dict #[(dE P ⟨#[33]⟩ 2455 (.int (54) 2453)),(dE P ⟨#[33,61]⟩ 2457 (.int (28) 2401)),(dE P ⟨#[37]⟩ 2459 (.int (24) 2393)),(dE P ⟨#[37,61]⟩ 2461 (.int (40) 2425)),(dE P ⟨#[38]⟩ 2463 (.int (19) 2383)),(dE P ⟨#[38,61]⟩ 2465 (.int (41) 2427)),(dE P ⟨#[40]⟩ 2467 (.int (7) 2359)),(dE P ⟨#[41]⟩ 2469 (.int (8) 2361)),(dE P ⟨#[42]⟩ 2471 (.int (16) 2377)),(dE P ⟨#[42,42]⟩ 2473 (.int (35) 2415)),(dE P ⟨#[42,42,61]⟩ 2475 (.int (46) 2437)),(dE P ⟨#[42,61]⟩ 2477 (.int (38) 2421)),(dE P ⟨#[43]⟩ 2479 (.int (14) 2373)),(dE P ⟨#[43,61]⟩ 2481 (.int (36) 2417)),(dE P ⟨#[44]⟩ 2483 (.int (12) 2369)),(dE P ⟨#[45]⟩ 2485 (.int (15) 2375)),(dE P ⟨#[45,61]⟩ 2487 (.int (37) 2419)),(d80 P),(d81 P),(d82 P),(d83 P),(d84 P),(d85 P),(d86 P),(d87 P),(d88 P),(d89 P),(d90 P),(d91 P),(d92 P),(d93 P),(d94 P),(d95 P),(d96 P),(d97 P),(d98 P),(d99 P),(UJ P),(UK P),(UL P),(UM P),(UN P),(UO P),(UP P),(UQ P),(UR P),(US P),(UT P)] 48)
noncomputable def Kk(P:Params):Obj:=mO (.type "dict") (.dict #[(d80 P),(d81 P),(d82 P),(d83 P),(d84 P),(d85 P),(d86 P),(d87 P),(d88 P),(d89 P),(d90 P),(d91 P),(d92 P),(d93 P),(d94 P),(d95 P),(d96 P)] 17)
noncomputable def Kl(P:Params):Obj:=mO (.type "dict") (.dict #[(d97 P),(d98 P),(d99 P),(UJ P),(UK P),(UL P),(UM P),(UN P),(UO P),(UP P),(UQ P),(UR P),(US P),(UT P)] 14)
noncomputable def Z9(P:Params):BT:=(.node BR (lf (Kl P)) .nil)
noncomputable def b49(P:Params):BT:=(.node (BP P) (lf (jy P)) .nil)
noncomputable def b50(P:Params):BT:=(.node ak (lf (Kk P)) .nil)
noncomputable def RC(P:Params):BT:=(.node (boot_o_0 P) (.node (boot_o_1 P) (.node (RB P) (.node (boot_o_7 P) (.node ak b18 (.node ak b19 (Z9 P))) (b21 P)) XM) (.node (boot_o_5 P) (b28 P) (.node lU b30 (.node ak (.node sQ b31 (b49 P)) b32)))) (.node (boot_o_2 P) (b38 P) (.node (boot_o_6 P) (b41 P) (.node km b43 (.node aG (.node sR b44 (b50 P)) b46)))))
noncomputable def ew(P:Params):Obj:=mO (.type "dict") (.dict #[(dE P s0 165 (.str M5 2552)),(d1 P),(d2 P),(d3 P),(d4 P),(d5 P),(d6 P),(d7 P),(d8 P),(d9 P),(NL P),(NM P),(NN P),(PL P),(Rn P),(TO P),(UH P),(UI P),(Xl P),(Xm P),(Xn P),(Xo P),(Xp P),(Xq P),(Xr P),(Xs P),(Xu P),(Xv P),(Xw P),(Xx P),(Xy P),(Xz P),(XA P),(XB P),(XC P),(XD P),(XE P),(XF P),(XG P),(XH P),(XI P),(XJ P),(Zh P),(Zi P),(Zj P),(Zk P),(Zl P),(Zm P),(Zn P),(Zo P),(Zp P),(Zq P),(Zr P),(Zs P),(Zt P),(Zu P),(Zv P),(Zw P),(Zx P),(Zy P),(Zz P),(ZA P),(ZB P),(ZC P),(ZD P),(ZE P),(d79 P),(dE P IN 2559 (.ref 180)),(dE P IO 2565 (.ref 185)),(dE P G5 2572 (.ref 192)),(dE P MY 2585 (.ref 199)),(dE P IP 2591 (.ref 204)),(dE P IQ 2597 (.ref 209)),(dE P IR 2607 (.ref 216)),(dE P Qt 2613 (.ref 221))] 75)
noncomputable def FW:Obj:=mO .none (.fields #[(iv 1),(iv 0),(.ref 20),(iv 5),(iv 0),(.ref 27),(iv 18),(iv 0),(.ref 34),(iv 36),(iv 0),(.ref 41),(iv 49),(iv 0),(.ref 59),(iv 52),(iv 0),(.ref 105),(iv 58),(iv 0),(.ref 112),(iv 161),(iv 0),(.ref 179),(iv 178),(iv 0),(.ref 184),(iv 193),(iv 0),(.ref 191),(iv 195),(iv 0),(.ref 198),(iv 208),(iv 0),(.ref 203),(iv 218),(iv 0),(.ref 208),(iv 230),(iv 0),(.ref 215),(iv 238),(iv 0),(.ref 220)])
noncomputable def BS:Obj:=mO .none (fD IN IN (aJ pq.main.body 62) 0 .none .none)
noncomputable def wj:Obj:=cO IN 2554 IN 2555 s3 2556 161 2 0 0 3 176 true 181 177 .none .none (.ref 178) 2557 161 s3 2558
noncomputable def lb:Obj:=mO (.type "function") (fD IN IN (aJ pq.main.body 62) 3 (.str M5 2552) (.ref 179))
noncomputable def BU:Obj:=mO .none (fD IO IO (aJ pq.main.body 63) 0 .none .none)
noncomputable def wk:Obj:=cO IO 2560 IO 2561 s3 2562 178 3 0 0 3 181 true 181 182 .none .none (.ref 183) 2563 178 s3 2564
noncomputable def ld:Obj:=mO (.type "function") (fD IO IO (aJ pq.main.body 63) 3 (.str M5 2552) (.ref 184))
noncomputable def BV:Obj:=mO (.type "tuple") (.seq #[(.str M6 2569)] 0)
noncomputable def BW:Obj:=mO .none (fD G5 G5 (aJ pq.main.body 64) 0 .none .none)
noncomputable def wm:Obj:=cO G5 2566 G5 2567 s3 2568 193 1 0 0 3 186 true 181 187 (.ref 188) (.ref 189) (.ref 190) 2570 193 s3 2571
noncomputable def lh:Obj:=mO (.type "function") (fD G5 G5 (aJ pq.main.body 64) 3 (.str M5 2552) (.ref 191))
noncomputable def BX:Obj:=mO (.type "tuple") (.seq #[(.str W2 2576),(.str ⟨#[108,101,102,116]⟩ 2577),(.str Ys 2578),(.str Yt 2579),(.str Tx 2580),(.str ⟨#[117,110,105,116]⟩ 2581),(.str s65 2582)] 0)
noncomputable def BY:Obj:=mO .none (fD MY MY (aJ pq.main.body 65) 0 .none .none)
noncomputable def wn:Obj:=cO MY 2573 MY 2574 s3 2575 195 1 0 0 3 193 true 181 194 (.ref 195) (.ref 196) (.ref 197) 2583 195 s3 2584
noncomputable def lj:Obj:=mO (.type "function") (fD MY MY (aJ pq.main.body 65) 3 (.str M5 2552) (.ref 198))
noncomputable def BZ:Obj:=mO .none (fD IP IP (aJ pq.main.body 66) 0 .none .none)
noncomputable def wo:Obj:=cO IP 2586 IP 2587 s3 2588 208 1 0 0 3 200 true 181 201 .none .none (.ref 202) 2589 208 s3 2590
noncomputable def ll:Obj:=mO (.type "function") (fD IP IP (aJ pq.main.body 66) 3 (.str M5 2552) (.ref 203))
noncomputable def B0:Obj:=mO .none (fD IQ IQ (aJ pq.main.body 67) 0 .none .none)
noncomputable def wp:Obj:=cO IQ 2592 IQ 2593 s3 2594 218 1 0 0 3 205 true 181 206 .none .none (.ref 207) 2595 218 s3 2596
noncomputable def jz:Obj:=mO (.type "function") (fD IQ IQ (aJ pq.main.body 67) 3 (.str M5 2552) (.ref 208))
noncomputable def B1:Obj:=mO (.type "tuple") (.seq #[(.str IZ 2601),(.str W3 2602),(.str IS 2603),(.str Ft 2604)] 0)
noncomputable def B2:Obj:=mO .none (fD IR IR (aJ pq.main.body 68) 0 .none .none)
noncomputable def wq:Obj:=cO IR 2598 IR 2599 s3 2600 230 1 0 0 3 210 true 181 211 (.ref 212) (.ref 213) (.ref 214) 2605 230 s3 2606
noncomputable def lm:Obj:=mO (.type "function") (fD IR IR (aJ pq.main.body 68) 3 (.str M5 2552) (.ref 215))
noncomputable def B3:Obj:=mO .none (fD Qt Qt (aJ pq.main.body 69) 0 .none .none)
noncomputable def B4:Obj:=cO Qt 2608 Qt 2609 s3 2610 238 1 0 0 3 217 true 181 218 .none .none (.ref 219) 2611 238 s3 2612
noncomputable def B5:Obj:=mO (.type "function") (fD Qt Qt (aJ pq.main.body 69) 3 (.str M5 2552) (.ref 220))
noncomputable def U3(P:Params):BT:=(.node (boot_o_0 P) (.node (boot_o_1 P) (.node (ew P) (.node (boot_o_7 P) (.node ak (.node sK (.node zq (lf ak) (lf wm)) ZR) (.node ak (.node zH (lf rk) (lf B0)) (Z9 P))) (.node aG (.node ak (.node zz (lf v7) (lf lj)) (ZS P)) (.node aG (.node zP (lf jx) (lf wq)) (.node vZ (lf BU) .nil)))) (.node ak (.node sF (.node ko (.node zv (lf ak) (lf BX)) ZU) (.node vK (.node zL (lf wb) (lf aG)) (.node ak (lf wj) .nil))) (.node nZ (.node sO (.node zD (lf aG) (lf wo)) ZV) (.node sS (.node zT (lf ak) (lf B3)) (.node iz (lf aG) .nil))))) (.node (boot_o_5 P) (.node (boot_o_9 P) (.node sE (.node sL (.node zt (lf ri) (lf ak)) ZW) (.node vJ (.node zJ (lf ak) (lf jz)) (.node vW (lf aG) .nil))) (.node ak (.node qf (.node zB (lf ju) (lf aG)) ZX) (.node ak (.node zR (lf aG) (lf ak)) (.node v3 (lf ld) .nil)))) (.node lU (.node sH (.node aG (.node zx (lf v6) (lf BY)) ZY) (.node vL (.node zN (lf wc) (lf ak)) (.node ak (lf ak) .nil))) (.node ak (.node sQ (.node zF (lf ak) (lf ak)) (b49 P)) (.node sU (.node zV (lf wg) (lf B5)) b0))))) (.node (boot_o_2 P) (.node (boot_o_4 P) (.node (boot_o_8 P) (.node aG (.node ak (.node zr (lf v5) (lf lh)) Z0) (.node vI (.node zI (lf jw) (lf wp)) (.node vV (lf ak) .nil))) (.node sI (.node sN (.node zA (lf rj) (lf ak)) Z1) (.node vM (.node zQ (lf ak) (lf lm)) (.node ak (lf wk) .nil)))) (.node FW (.node sG (.node ak (.node zw (lf aG) (lf ak)) Z2) (.node ak (.node zM (lf ak) (lf B1)) (.node vY (lf lb) .nil))) (.node jr (.node sP (.node zE (lf v8) (lf ll)) Z3) (.node lV (.node zU (lf wf) (lf B4)) (.node ak (lf BV) .nil))))) (.node (boot_o_6 P) (.node (boot_o_10 P) (.node ak (.node qe (.node zu (lf jt) (lf aG)) Z4) (.node (kr P) (.node zK (lf aG) (lf ak)) (.node vX (lf BS) .nil))) (.node sJ (.node kq (.node zC (lf ak) (lf BZ)) Z5) (.node vN (.node zS (lf we) (lf aG)) (.node rh (lf ak) .nil)))) (.node km (.node ak (.node sM (.node zy (lf ak) (lf wn)) Z6) (.node ak (.node zO (lf rl) (lf B2)) (.node aG (lf aG) .nil))) (.node aG (.node sR (.node zG (lf v9) (lf aG)) (b50 P)) (.node zp Z7 (.node v4 (lf BW) .nil)))))))
noncomputable def TS(P:Params):BT:=(.node (boot_o_0 P) (.node (boot_o_1 P) (.node (ew P) (.node (boot_o_7 P) (.node ak (.node sK (.node zq (lf ak) (lf wm)) ZR) (.node ak (.node zH (lf rk) (lf B0)) (Z9 P))) (.node aG (.node ak (.node zz (lf v7) (lf lj)) (ZS P)) (.node aG (.node zP (lf jx) (lf wq)) (.node vZ (lf BU) .nil)))) (.node ak (.node sF (.node ko (.node zv (lf ak) (lf BX)) ZU) (.node vK (.node zL (lf wb) (lf aG)) (.node ak (lf wj) .nil))) (.node nZ (.node sO (.node zD (lf aG) (lf wo)) ZV) (.node sS (.node zT (lf ak) (lf B3)) (.node iz (lf aG) .nil))))) (.node (boot_o_5 P) (.node (boot_o_9 P) (.node sE (.node sL (.node zt (lf ri) (lf ak)) ZW) (.node vJ (.node zJ (lf ak) (lf jz)) (.node vW (lf aG) .nil))) (.node ak (.node qf (.node zB (lf ju) (lf aG)) ZX) (.node ak (.node zR (lf aG) (lf ak)) (.node v3 (lf ld) .nil)))) (.node lU (.node sH (.node aG (.node zx (lf v6) (lf BY)) ZY) (.node vL (.node zN (lf wc) (lf ak)) (.node ak (lf ak) .nil))) (.node ak (.node sQ (.node zF (lf ak) (lf ak)) (b49 P)) (.node sU (.node zV (lf wg) (lf B5)) b0))))) (.node (boot_o_2 P) (.node (boot_o_4 P) (.node (boot_o_8 P) (.node aG (.node ak (.node zr (lf v5) (lf lh)) Z0) (.node vI (.node zI (lf jw) (lf wp)) (.node vV (lf ak) .nil))) (.node sI (.node sN (.node zA (lf rj) (lf ak)) Z1) (.node vM (.node zQ (lf ak) (lf lm)) (.node ak (lf wk) .nil)))) (.node FW (.node sG (.node ak (.node zw (lf aG) (lf ak)) Z2) (.node ak (.node zM (lf ak) (lf B1)) (.node vY (lf lb) .nil))) (.node jr (.node sP (.node zE (lf v8) (lf ll)) Z3) (.node lV (.node zU (lf wf) (lf B4)) (.node ak (lf BV) .nil))))) (.node (boot_o_6 P) (.node (boot_o_10 P) (.node ak (.node qe (.node zu (lf jt) (lf aG)) Z4) (.node (kr P) (.node zK (lf aG) (lf ak)) (.node vX (lf BS) .nil))) (.node sJ (.node kq (.node zC (lf ak) (lf BZ)) Z5) (.node vN (.node zS (lf we) (lf aG)) (.node rh (lf ak) .nil)))) (.node km (.node ak (.node sM (.node zy (lf ak) (lf wn)) Z6) (.node ak (.node zO (lf rl) (lf B2)) (.node aG (lf aG) .nil))) (.node aG (.node sR (.node zG (lf v9) (lf aG)) (b50 P)) (.node zp Z7 (.node v4 (lf BW) .nil)))))))
noncomputable def Km(w:World):Prop:=(fun os=>segRunT treeTable pq w 11 (some (.ref 6)) 1 533 (SS U0 100 2248 w os) (piecesOf (seg 9 3) E cE ⟨51,0,51,13⟩ [topFrame fp]))=fun os=>some (.next,SS Rx 173 2359 w os,cE,⟨58,0,110,16⟩)
theorem U4(w:World):Km (w.withFollow "special-get-raises" false):=by
 unfold Km;rw[jY,gD]
 kernel_rfl!
theorem U5(w:World):Km (w.withFollow "special-get-raises" true):=by
 unfold Km;rw[jY,gD]
 kernel_rfl!
theorem aa0(w:World):(fun os=>segRunT treeTable pq w 11 (some (.ref 6)) 1 533 (SS U0 100 2248 w os) (piecesOf (seg 9 3) E cE ⟨51,0,51,13⟩ [topFrame fp]))=fun os=>some (.next,SS Rx 173 2359 w os,cE,⟨58,0,110,16⟩):=byRow2 "special-get-raises" (P:=Km) U4 U5 w
theorem aa1(w:World):(fun os=>segRunT treeTable pq w 11 (some (.ref 6)) 1 217 (SS Rx 173 2359 w os) (piecesOf (seg 12 24) E cE ⟨58,0,110,16⟩ [topFrame fp]))=fun os=>some (.next,SS U2 173 2407 w os,cE,⟨134,0,134,12⟩):=by
 rw[jY,gD]
 kernel_rfl!
theorem aa2(w:World):(fun os=>segRunT treeTable pq w 11 (some (.ref 6)) 1 217 (SS U2 173 2407 w os) (piecesOf (seg 36 24) E cE ⟨134,0,134,12⟩ [topFrame fp]))=fun os=>some (.next,SS RA 173 2455 w os,cE,⟨158,0,158,11⟩):=by
 rw[jY,gD]
 kernel_rfl!
noncomputable def Kn(w:World):Prop:=(fun os=>segRunT treeTable pq w 11 (some (.ref 6)) 1 979 (SS RA 173 2455 w os) (piecesOf (seg 60 1) E cE ⟨158,0,158,11⟩ [topFrame fp]))=fun os=>some (.next,SS RC 176 2552 w os,cE,⟨159,0,159,17⟩)
theorem U6(w:World):Kn (w.withFollow "special-get-raises" false):=by
 unfold Kn;rw[jY,gD]
 kernel_rfl!
theorem U7(w:World):Kn (w.withFollow "special-get-raises" true):=by
 unfold Kn;rw[jY,gD]
 kernel_rfl!
theorem aa3(w:World):(fun os=>segRunT treeTable pq w 11 (some (.ref 6)) 1 979 (SS RA 173 2455 w os) (piecesOf (seg 60 1) E cE ⟨158,0,158,11⟩ [topFrame fp]))=fun os=>some (.next,SS RC 176 2552 w os,cE,⟨159,0,159,17⟩):=byRow2 "special-get-raises" (P:=Kn) U6 U7 w
theorem aa4(w:World):(fun os=>segRunT treeTable pq w 11 (some (.ref 6)) 1 236 (SS RC 176 2552 w os) (piecesOf (seg 61 9) E cE ⟨159,0,159,17⟩ [topFrame fp]))=fun os=>some (.next,SS U3 222 2614 w os,cE,⟨238,0,269,50⟩):=by
 rw[jY,gD]
 kernel_rfl!
theorem U8(w:World):(fun os=>topRun treeTable pq w 11 (some (.ref 6)) 2 (SS U3 222 2614 w os).abs ⟨doneF .next,cE,⟨238,0,269,50⟩,[topFrame fp]⟩)=fun os=>some (SS TS 222 2614 w os).abs:=by
 rw[PySem.W.Fast.te14082659384304107361,gD]
 kernel_rfl!
theorem NV:behindTheImports pq=seg 0 6++(seg 6 1++(seg 7 1++(seg 8 1++(seg 9 3++(seg 12 24++(seg 36 24++(seg 60 1++(seg 61 9++[])))))))):=by kernel_rfl!
theorem U9(w:World)(os:OsState):topRun treeTable pq w 11 (some (.ref 6)) (12+(1+(146+(999+(30+(16000+(533+(217+(217+(979+(236+2))))))))))) ⟨boot_heap w.params,#[],boot_drawn,boot_toks,os⟩ (topStub pq)=some (SS TS 222 2614 w os).abs:=by
 refine go_top (congrFun (UW w) os) ?_;refine piece_block (congrFun (NO w) os) ?_;have k9:=nB (rest:=[]) (lF (congrFun (aa4 w) os)) (piece_nil (congrFun (U8 w) os));have k8:=nB (lF (congrFun (aa3 w) os)) k9;have k7:=nB (lF (congrFun (aa2 w) os)) k8;have k6:=nB (lF (congrFun (aa1 w) os)) k7;have k5:=nB (lF (congrFun (aa0 w) os)) k6;have k4:=h_8 w os k5;have k3:=nB (lF (congrFun (h_7 w) os)) k4;have k2:=nB (lF (congrFun (h_6 w) os)) k3;have k1:=nB (lF (congrFun (h_5 w) os)) k2;rw[<-NV]at k1;exact k1
noncomputable def VQ:Program:={pq with main:={pq.main with body:=seg 69 1} }
noncomputable def LS:List Str:=pq.boundNames.filter fun x=>!(x==(Str.ofString "law"))
noncomputable def HZ(P:Params):Heap:=absHeap (TS P) 222 {}
theorem RD(w:World):((boot_heap w.params).isNs mainGlobals&&(#[]:Array GenState).size==0,(boot_heap w.params).objs.size,(boot_heap w.params).nsMap mainGlobals "__annotations__")=(true,11,some (.ref 6)):=by kernel_rfl!
theorem NW(w:World):(fun os=>(staticsOk (importedModules pq.main.body) (boot_heap w.params) (HZ w.params)&&namesBound pq (HZ w.params)&&gensDone ⟨HZ w.params,#[],{},2614,os⟩&&laidKept (boot_heap w.params) (HZ w.params)))=fun(_:OsState)=>true:=by kernel_rfl!
noncomputable def XT(s:Shared):Bool:=recOk (RowW.records (OpenRow.toRowW (OpenLaw.row PySem.Challenge.rw_sl0032_01))) s
theorem NX(w:World):(fun os=>openSeen VQ LS (importedModules pq.main.body) XT true ⟨HZ w.params,#[],{},2614,os⟩)=fun ø=>openGood VQ LS:=by
 rw[PySem.W.Fast.te4187177175401517315]
 kernel_rfl!
theorem RE:LeftO pq VQ LS XT (fun s=>s.heap) (fun w=>HZ w.params) 40000 true:=
 LeftO.of_pieces (H₀:=boot_heap) (H₁:=HZ) (gs₀:=Array.mk []) (gs₁:= #[]) (d₀:=boot_drawn) (d₁:={}) (k₀:=boot_toks) (k₁:=2614) (m₀:=11) (ann:=some (.ref 6)) (M:=12+(1+(146+(999+(30+(16000+(533+(217+(217+(979+(236+2)))))))))))
  (boot_open (by kernel_rfl!) (by decide) fun s=>by kernel_rfl!) RD U9 (by decide)
  fun w=>by
   funext os
   exact Prod.ext (congrFun (NW w) os) (Prod.ext (congrFun (NX w) os) rfl)
noncomputable def rq:OpenLaw:={prog:=pq,name:=(PySem.Str.ofString "law"),about:=[(PySem.Str.ofString "_check_parenthesis")],foot:=8,most:=some 63,bound:=none,writes:=false}
theorem Va:PySem.Challenge.rw_sl0032_01=rq:=congrArg (fun p=>({prog:=p,name:=(PySem.Str.ofString "law"),about:=[(PySem.Str.ofString "_check_parenthesis")],foot:=8,most:=some 63,bound:=none,writes:=false}:OpenLaw)) UF
theorem Vb:OpenLaw.wellSaid rq=true:=by
 rw[PySem.W.Fast.te9446332074065402090]
 delta PySem.W.Fast.tw9446332074065402090 PySem.W.Fast.tw17960256430627541270 PySem.W.Fast.tw2436336058641802641 PySem.W.Fast.tw12908688711261696721
 repeat' (with_reducible refine look_both ?_ ?_)
 all_goals as_aux_lemma=>kernel_rfl!
noncomputable abbrev RW:OpenRow:=OpenLaw.row rq
noncomputable def oZ:DefRec:=⟨Str.ofString "law",UG (aJ pq.main.body 69),dz (aJ pq.main.body 69),kl (aJ pq.main.body 69),(aJ pq.main.body 69).pos⟩
noncomputable abbrev YP(w:World)(h:Heap):Prop:=∀a o,(HZ w.params).get? a=some o->h.get? a=some o
theorem top_holds(hw:RW.toRowW.promised)(walk:WalkO VQ LS (fun ø ø=>True) YP RW.toRowW oZ [] fun f vs=>PySem.call f vs):PySem.Challenge.rw_sl0032_01.Holds:=by
 rw[Va];refine holds_law Vb fun aa5=>?_
 have hl:=RE;exact PySem.W.holds_open (q:=VQ) (loose:=LS) (Xt:=XT) (XP:=fun ø ø=>True) (Yf:=fun s=>s.heap) (Ya:=fun w=>HZ w.params) (YP:=YP) (N:=40000) hl
  (fun w s e a o h=>by rw[show s.heap=HZ w.params from e];exact h) (fun w h h' y k a o e=>k a o (y a o e)) (fun ø ø=>trivial) (fun ø ø ø ø ø=>trivial)
  (d:=oZ) (kwd:=[]) (by kernel_rfl!) (by kernel_rfl!) (by kernel_rfl!) (fun s e=>recFacts_of e) (by kernel_rfl!) aa5 (by kernel_rfl!) ⟨rfl,rfl,rfl,rfl,rfl,by decide+kernel⟩ hw walk
theorem prom:RW.toRowW.promised:=RowW.promised_of_found (by decide+kernel)
noncomputable def Ko(prog:Program)(w:World)(OB:Heap->Addr->List Value->(Addr->Prop)->Prop)(ok:I1 OB)(ag:Heap)(mg mb:Str->Option Value)(hg:ag.Ns mainGlobals mg)(hb:ag.Ns builtinsNs mb)(nl:ag.NoLimit):Pk where
 prog:=prog
 w:=w
 OB:=OB
 ok:=ok
 G:=fun h=>∀b o,ag.get? b=some o->h.get? b=some o
 Gk:=fun g k b o e=>k b o (g b o e)
 glob:=fun x=>match mg x with
  |some v=>some v
  |none=>mb x
 nolim:=fun g=>by
  obtain⟨mc,h1,h2⟩:=nl;exact⟨mc,h1.keeps g,h2⟩
 aM:=fun g=>⟨mg,mb,hg.keeps g,hb.keeps g,fun x v e=>by
  cases q:mg x with
  |some u=>rw[q]at e;exact .inl e
  |none=>rw[q]at e;exact .inr ⟨rfl,e⟩⟩
theorem NY(w:World)(cl:Str->Option Addr)(aa6:ExcName->Option Value)(args:List WData)(s₁ s':Shared)(k:Kp s₁ s')(hg:s₁.gens= #[]):GoodWG RW.toRowW.claim cl aa6 args s₁ (.ok (.ret (.bool true))) s':=by
 refine⟨.inl ⟨_,.bool true,[],rfl,fun cls=>rfl,.bool true,?_,fun ø=>⟨qP,fun a h=>(nomatch h)⟩⟩,.of_keep k.keep,k.os,k.gens.2 (.of_eq hg)⟩
 kernel_rfl
set_option tactic.hygienic true in
theorem items_int{R:WRecords}:∀{xs:List WData},WShape.hasItems R xs .int=true->∃ns:List Int,xs=ns.map .int
 |[],_=>⟨[],rfl⟩
 |x::xs,h=>by
  simp only[WShape.hasItems,dI]at h;obtain⟨h1,h2⟩:=h;obtain⟨ns,rfl⟩:=items_int h2;cases x<;>try cases h1
  rename_i i;exact⟨i::ns,rfl⟩
set_option tactic.hygienic true in
theorem NZ{R:WRecords}{args:List WData}(h:WShape.hasAll R args [.list .int]=true):∃ns:List Int,args=[.list (ns.map .int)]:=by
 cases args with
 |nil=>simp[WShape.hasAll]at h
 |cons x xs=>
  cases xs with
  |cons y ys=>simp[WShape.hasAll]at h
  |nil=>
   simp only[WShape.hasAll,dI]at h;obtain⟨h1,_⟩:=h;cases x<;>try(first|cases h1|exact absurd h1 m5)
   rename_i _ xs;have h2:(WShape.hasItems R xs .int||false)=true:=h1;obtain⟨ns,rfl⟩:=items_int ((Bool.or_false _).symm.trans h2);exact⟨ns,rfl⟩
theorem N0{args:List WData}(h:RW.toRowW.claim.pre args=true):∃ns:List Int,args=[.list (ns.map .int)]/\ns.length<=63:=by
 have h':(WShape.hasAll RW.toRowW.records args RW.toRowW.args&&RW.toRowW.pre.holds RW.toRowW.records {args:=args})=true:=h;rw[dI]at h';have e1:RW.toRowW.args=[.list .int]:=by kernel_rfl
 have e2:RW.toRowW.pre= .and (.not (.lt (.lit (.int 63)) (.len (.arg 0)))) (.lit (.bool true)):=by kernel_rfl
 rw[e1,e2]at h';obtain⟨ns,rfl⟩:=NZ h'.1;refine⟨ns,rfl,?_⟩;have h2:WTm.holds RW.toRowW.records (.and (.not (.lit (.bool (decide ((63:Int)<((ns.map WData.int).length:Int)))))) (.lit (.bool true))) {args:=[.list (ns.map .int)]}=true:=h'.2;rw[bi]at h2;by_cases hc:ns.length<=63
 ·exact hc
 ·rw[eK (by omega)]at h2
  exact absurd (h2:false=true) m5
theorem yd{P:Pk}{Q:Params}{h:Heap}{hid:List Addr}:∀{ns:List Int} {vs:List Value},WellAll Q h vs (ns.map .int)->aU P h hid (ns.map .int) vs
 |[],vs,e=>by cases e;exact aV.nil
 |n::ns,vs,e=>by
  cases e with
  |cons h1 h2=>
   cases h1;exact .cons (Dn.ofInt (P:=P) _ _) (yd h2)
theorem N1(OB:Heap->Addr->List Value->(Addr->Prop)->Prop)(ok:I1 OB)
  (core:∀(w:World) (ag:Heap) (mg mb:Str->Option Value) (hg:ag.Ns mainGlobals mg) (hb:ag.Ns builtinsNs mb) (nl:ag.NoLimit),(∀x:Str,x≠"__name__"->mb x=bootBuiltins x)->YP w ag->
   ∀(a:Addr) (o:Obj) (pm cd doc dV kV:Value),ag.get? a=some o->o.data= .func {docDef oZ.name oZ.params oZ.body oZ.scope pm cd doc with defaults:=dV,kwdefaults:=kV}->ag.CodeRec cd oZ.name->Dflts mg ag oZ.params [] dV kV->
    ∃n F,aZ (Ko RW.toRowW.prog w OB ok ag mg mb hg hb nl) n (.ref a) F/\bW n callerA/\∀ns:List Int,ns.length<=63->F [.list (ns.map .int)]=some (.bool true)):
  WalkO VQ LS (fun ø ø=>True) YP RW.toRowW oZ [] fun f vs=>PySem.call f vs:=by
 intro w aW s₁ mg mb G y a o pm cd doc dV kV ho hd hc hD hm Vc args vals as aa7 ag6 hrd Vd ag7;obtain⟨ns,rfl,hlen⟩:=N0 aa7;obtain⟨n,F,hF,hR,hT⟩:=core w s₁.heap mg mb G.T.g G.T.b G.T.nolimit G.T.builtins y a o pm cd doc dV kV ho hd hc hD
 cases Vd with
 |cons h1 h2=>
  cases h2
  cases h1 with
  |list hl hi=>
   refine au (hF callerA s₁ [] [.list (ns.map .int)] (.bool true) _ _ hR (fun ø ø e=>e) (fun ø q=>(nomatch q)) (.cons (Dn.ofList (fun q=>(nomatch q)) ⟨0,hl⟩ (yd hi)) .nil) (hT ns hlen)) (fun v s' q=>?_) fun ø ø q=>q
   obtain rfl:=q.2.bool_inv;exact NY w _ _ _ s₁ s' q.1 Vc
noncomputable def RF{α:Type}(d:α)(fK:Array DictEntry->α)(fS:Array (Int×Value)->α)(fF:FuncData->α)(x:Data):α:= @Data.casesOn (fun ø=>α) x d (fun ø=>d) (fun ø ø=>d) (fun es ø=>fK es) (fun es ø ø=>fS es) (fun ø ø=>d) (fun ø=>d) (fF) (fun ø=>d) (fun ø=>d) d
noncomputable def ents(o:Obj):Array DictEntry:=RF #[] (fun es=>es) (fun ø=> #[]) (fun ø=> #[]) o.data
theorem rn(P:Params){a:Nat}{o:Obj}(ha:(TS P).get a=some o)(de:a<222)(hf:o.alive=true):(HZ P).get? a=some o:=by
 have h1:(HZ P).objs[a]?=some o:=by
  unfold HZ;rw[absHeap_at,aw de,ha];rfl
 exact(u7 _ _ _).mpr ⟨h1,hf⟩
theorem at3(P:Params):(HZ P).get? mainGlobals=some (ew P):=rn P (by kernel_rfl) (by decide) (by kernel_rfl)
theorem PP{w:World}{ag:Heap}{mg:Str->Option Value}(hg:ag.Ns mainGlobals mg)(y:YP w ag)(x:Str):mg x=nsFind (ents (ew w.params)) x:=by
 obtain⟨o,es,ep,h1,h2,h3,h4⟩:=hg;have h5:=y _ _ (at3 w.params);rw[h1]at h5;cases h5;rw[<-h4];unfold ents;rw[h2];rfl
theorem RG(P:Params):nsFind (ents (ew P)) "range"=none/\nsFind (ents (ew P)) "len"=none/\nsFind (ents (ew P)) "ord"=none/\nsFind (ents (ew P)) "chr"=none/\nsFind (ents (ew P)) "sum"=none/\nsFind (ents (ew P)) "max"=none/\nsFind (ents (ew P)) "sorted"=none/\nsFind (ents (ew P)) "set"=none/\nsFind (ents (ew P)) "str"=none/\nsFind (ents (ew P)) "list"=none/\nsFind (ents (ew P)) "tuple"=none/\nsFind (ents (ew P)) "enumerate"=none:=by
 refine⟨?_,?_,?_,?_,?_,?_,?_,?_,?_,?_,?_,?_⟩<;>kernel_rfl
theorem Ve:bootBuiltins "range"=some (.type "range")/\bootBuiltins "len"=some (.builtin "len")/\bootBuiltins "ord"=some (.builtin "ord")/\bootBuiltins "chr"=some (.builtin "chr")/\bootBuiltins "sum"=some (.builtin "sum")/\bootBuiltins "max"=some (.builtin "max")/\bootBuiltins "sorted"=some (.builtin "sorted")/\bootBuiltins "set"=some (.type "set")/\bootBuiltins "str"=some (.type "str")/\bootBuiltins "list"=some (.type "list")/\bootBuiltins "tuple"=some (.type "tuple")/\bootBuiltins "enumerate"=some (.type "enumerate"):=by
 refine⟨?_,?_,?_,?_,?_,?_,?_,?_,?_,?_,?_,?_⟩<;>kernel_rfl
noncomputable def fdOf(o:Obj):FuncData:=RF default (fun ø=>default) (fun ø=>default) (fun fd=>fd) o.data
theorem iB{w:World}{ag h:Heap}(y:YP w ag)(g:∀b o,ag.get? b=some o->h.get? b=some o){a c:Nat}{o oc:Obj}{vs t}(ha:(TS w.params).get a=some o)(de:a<222)(hf:o.alive=true)(hd:o.data= .func (fdOf o))(hk:o.cls= .type "function")
  (hc:(TS w.params).get c=some oc) (aa8:c<222) (hcf:oc.alive=true) (hcd:oc.data= .fields vs) (Vf:(fdOf o).code= .ref c) (hq:vs[1]?=some (.str (fdOf o).qualname t)):
  (∃o',h.get? a=some o'/\o'.cls= .type "function"/\o'.data= .func (fdOf o))/\h.CodeRec (fdOf o).code (fdOf o).qualname:=
 ⟨⟨o,g _ _ (y _ _ (rn _ ha de hf)),hk,hd⟩,⟨c,oc,vs,t,Vf,g _ _ (y _ _ (rn _ hc aa8 hcf)),hcd,hq⟩⟩
theorem xE{C:List Value->Prop}(h:∀a0,C [a0]):∀vs:List Value,vs.length=1->C vs:=fun vs e=>by
 obtain⟨a0,rfl⟩:∃a0,vs=[a0]:=by
  rcases vs with _|⟨a0,_|⟨b,vs⟩⟩<;>first|exact⟨_,rfl⟩|simp at e
 exact h _
theorem Kq{C:List Value->Prop}(h:∀a0 a1,C [a0,a1]):∀vs:List Value,vs.length=2->C vs:=fun vs e=>by
 obtain⟨a0,a1,rfl⟩:∃a0 a1,vs=[a0,a1]:=by
  rcases vs with _|⟨a0,_|⟨a1,_|⟨b,vs⟩⟩⟩<;>first|exact⟨_,_,rfl⟩|simp at e
 exact h _ _
theorem aa9{C:List Value->Prop}(h:∀a0 a1 a2,C [a0,a1,a2]):∀vs:List Value,vs.length=3->C vs:=fun vs e=>by
 obtain⟨a0,a1,a2,rfl⟩:∃a0 a1 a2,vs=[a0,a1,a2]:=by
  rcases vs with _|⟨a0,_|⟨a1,_|⟨a2,_|⟨b,vs⟩⟩⟩⟩<;>first|exact⟨_,_,_,rfl⟩|simp at e
 exact h _ _ _
structure n5(fd:FuncData)(s:Stmt)(ps:List Str):Prop where
 body:fd.body= .stmts (dz s)
 gl:fd.globals=mainGlobals
 bl:fd.builtins=builtinsNs
 clo:fd.closure=[]
 scope:fd.scope=kl s
 bind:∀vs:List Value,vs.length=ps.length->bindArgs fd ⟨vs,[]⟩=pure (ps.zip vs)
theorem Vg{w:World}{ag h:Heap}(y:YP w ag)(g:∀b o,ag.get? b=some o->h.get? b=some o):(∃o',h.get? 28=some o'/\o'.cls= .type "function"/\o'.data= .func (fdOf jr))/\h.CodeRec (fdOf jr).code (fdOf jr).qualname:=
 iB (a:=28) (c:=27) (oc:=nZ) y g (by kernel_rfl) (by decide) (by kernel_rfl) rfl rfl (by kernel_rfl) (by decide) (by kernel_rfl) rfl rfl rfl
theorem PQ{w:World}{ag h:Heap}(y:YP w ag)(g:∀b o,ag.get? b=some o->h.get? b=some o):(∃o',h.get? 35=some o'/\o'.cls= .type "function"/\o'.data= .func (fdOf ko))/\h.CodeRec (fdOf ko).code (fdOf ko).qualname:=
 iB (a:=35) (c:=34) (oc:=qe) y g (by kernel_rfl) (by decide) (by kernel_rfl) rfl rfl (by kernel_rfl) (by decide) (by kernel_rfl) rfl rfl rfl
noncomputable abbrev Vh:List Str:=[Qr]
theorem Vi(P:Params):n5 (fdOf ko) (aJ pq.main.body 3) Vh:=⟨rfl,rfl,rfl,rfl,rfl,xE fun v0=>rfl⟩
theorem PR{w:World}{ag h:Heap}(y:YP w ag)(g:∀b o,ag.get? b=some o->h.get? b=some o):(∃o',h.get? 42=some o'/\o'.cls= .type "function"/\o'.data= .func (fdOf kq))/\h.CodeRec (fdOf kq).code (fdOf kq).qualname:=
 iB (a:=42) (c:=41) (oc:=qf) y g (by kernel_rfl) (by decide) (by kernel_rfl) rfl rfl (by kernel_rfl) (by decide) (by kernel_rfl) rfl rfl rfl
noncomputable abbrev Vj:List Str:=[Qr]
theorem Vk(P:Params):n5 (fdOf kq) (aJ pq.main.body 4) Vj:=⟨rfl,rfl,rfl,rfl,rfl,xE fun v0=>rfl⟩
theorem PS{w:World}{ag h:Heap}(y:YP w ag)(g:∀b o,ag.get? b=some o->h.get? b=some o):(∃o',h.get? 60=some o'/\o'.cls= .type "function"/\o'.data= .func (fdOf lV))/\h.CodeRec (fdOf lV).code (fdOf lV).qualname:=
 iB (a:=60) (c:=59) (oc:=sS) y g (by kernel_rfl) (by decide) (by kernel_rfl) rfl rfl (by kernel_rfl) (by decide) (by kernel_rfl) rfl rfl rfl
noncomputable abbrev Vl:List Str:=[WZ]
theorem Vm(P:Params):n5 (fdOf lV) (aJ pq.main.body 7) Vl:=⟨rfl,rfl,rfl,rfl,rfl,xE fun v0=>rfl⟩
theorem Kr{w:World}{ag h:Heap}(y:YP w ag)(g:∀b o,ag.get? b=some o->h.get? b=some o):(∃o',h.get? 106=some o'/\o'.cls= .type "function"/\o'.data= .func (fdOf n4))/\h.CodeRec (fdOf n4).code (fdOf n4).qualname:=
 iB (a:=106) (c:=105) (oc:=BO) y g (by kernel_rfl) (by decide) (by kernel_rfl) rfl rfl (by kernel_rfl) (by decide) (by kernel_rfl) rfl rfl rfl
noncomputable abbrev RH:List Str:=[WZ]
theorem RI(P:Params):n5 (fdOf n4) (aJ pq.main.body 9) RH:=⟨rfl,rfl,rfl,rfl,rfl,xE fun v0=>rfl⟩
theorem Kt{w:World}{ag h:Heap}(y:YP w ag)(g:∀b o,ag.get? b=some o->h.get? b=some o):(∃o',h.get? 123=some o'/\o'.cls= .type "function"/\o'.data= .func (fdOf iz))/\h.CodeRec (fdOf iz).code (fdOf iz).qualname:=
 iB (a:=123) (c:=122) (oc:=rh) y g (by kernel_rfl) (by decide) (by kernel_rfl) rfl rfl (by kernel_rfl) (by decide) (by kernel_rfl) rfl rfl rfl
noncomputable abbrev Ku:List Str:=[AQ,⟨#[119,115]⟩]
theorem RJ(P:Params):n5 (fdOf iz) (aJ (e6 (aJ pq.main.body 11)) 1) Ku:=⟨rfl,rfl,rfl,rfl,rfl,Kq fun v0 v1=>rfl⟩
theorem Kv{w:World}{ag h:Heap}(y:YP w ag)(g:∀b o,ag.get? b=some o->h.get? b=some o):(∃o',h.get? 130=some o'/\o'.cls= .type "function"/\o'.data= .func (fdOf jt))/\h.CodeRec (fdOf jt).code (fdOf jt).qualname:=
 iB (a:=130) (c:=129) (oc:=ri) y g (by kernel_rfl) (by decide) (by kernel_rfl) rfl rfl (by kernel_rfl) (by decide) (by kernel_rfl) rfl rfl rfl
noncomputable abbrev RK:List Str:=[AQ]
theorem RL(P:Params):n5 (fdOf jt) (aJ (e6 (aJ pq.main.body 11)) 2) RK:=⟨rfl,rfl,rfl,rfl,rfl,xE fun v0=>rfl⟩
theorem Kw{w:World}{ag h:Heap}(y:YP w ag)(g:∀b o,ag.get? b=some o->h.get? b=some o):(∃o',h.get? 137=some o'/\o'.cls= .type "function"/\o'.data= .func (fdOf ju))/\h.CodeRec (fdOf ju).code (fdOf ju).qualname:=
 iB (a:=137) (c:=136) (oc:=rj) y g (by kernel_rfl) (by decide) (by kernel_rfl) rfl rfl (by kernel_rfl) (by decide) (by kernel_rfl) rfl rfl rfl
noncomputable abbrev RM:List Str:=[AQ,Ym]
theorem RN(P:Params):n5 (fdOf ju) (aJ (e6 (aJ pq.main.body 11)) 3) RM:=⟨rfl,rfl,rfl,rfl,rfl,Kq fun v0 v1=>rfl⟩
theorem Kx{w:World}{ag h:Heap}(y:YP w ag)(g:∀b o,ag.get? b=some o->h.get? b=some o):(∃o',h.get? 144=some o'/\o'.cls= .type "function"/\o'.data= .func (fdOf jw))/\h.CodeRec (fdOf jw).code (fdOf jw).qualname:=
 iB (a:=144) (c:=143) (oc:=rk) y g (by kernel_rfl) (by decide) (by kernel_rfl) rfl rfl (by kernel_rfl) (by decide) (by kernel_rfl) rfl rfl rfl
noncomputable abbrev RO:List Str:=[AQ,Pq]
theorem RP(P:Params):n5 (fdOf jw) (aJ (e6 (aJ pq.main.body 11)) 4) RO:=⟨rfl,rfl,rfl,rfl,rfl,Kq fun v0 v1=>rfl⟩
theorem Ky{w:World}{ag h:Heap}(y:YP w ag)(g:∀b o,ag.get? b=some o->h.get? b=some o):(∃o',h.get? 151=some o'/\o'.cls= .type "function"/\o'.data= .func (fdOf jx))/\h.CodeRec (fdOf jx).code (fdOf jx).qualname:=
 iB (a:=151) (c:=150) (oc:=rl) y g (by kernel_rfl) (by decide) (by kernel_rfl) rfl rfl (by kernel_rfl) (by decide) (by kernel_rfl) rfl rfl rfl
noncomputable abbrev RQ:List Str:=[AQ,Pq]
theorem RR(P:Params):n5 (fdOf jx) (aJ (e6 (aJ pq.main.body 11)) 5) RQ:=⟨rfl,rfl,rfl,rfl,rfl,Kq fun v0 v1=>rfl⟩
theorem Kz{w:World}{ag h:Heap}(y:YP w ag)(g:∀b o,ag.get? b=some o->h.get? b=some o):(∃o',h.get? 180=some o'/\o'.cls= .type "function"/\o'.data= .func (fdOf lb))/\h.CodeRec (fdOf lb).code (fdOf lb).qualname:=
 iB (a:=180) (c:=179) (oc:=wj) y g (by kernel_rfl) (by decide) (by kernel_rfl) rfl rfl (by kernel_rfl) (by decide) (by kernel_rfl) rfl rfl rfl
noncomputable abbrev KA:List Str:=[Ty,Qu]
theorem RS(P:Params):n5 (fdOf lb) (aJ pq.main.body 62) KA:=⟨rfl,rfl,rfl,rfl,rfl,Kq fun v0 v1=>rfl⟩
theorem KB{w:World}{ag h:Heap}(y:YP w ag)(g:∀b o,ag.get? b=some o->h.get? b=some o):(∃o',h.get? 185=some o'/\o'.cls= .type "function"/\o'.data= .func (fdOf ld))/\h.CodeRec (fdOf ld).code (fdOf ld).qualname:=
 iB (a:=185) (c:=184) (oc:=wk) y g (by kernel_rfl) (by decide) (by kernel_rfl) rfl rfl (by kernel_rfl) (by decide) (by kernel_rfl) rfl rfl rfl
noncomputable abbrev El:List Str:=[IS,Qu,M6]
theorem RT(P:Params):n5 (fdOf ld) (aJ pq.main.body 63) El:=⟨rfl,rfl,rfl,rfl,rfl,aa9 fun v0 v1 v2=>rfl⟩
theorem KC{w:World}{ag h:Heap}(y:YP w ag)(g:∀b o,ag.get? b=some o->h.get? b=some o):(∃o',h.get? 192=some o'/\o'.cls= .type "function"/\o'.data= .func (fdOf lh))/\h.CodeRec (fdOf lh).code (fdOf lh).qualname:=
 iB (a:=192) (c:=191) (oc:=wm) y g (by kernel_rfl) (by decide) (by kernel_rfl) rfl rfl (by kernel_rfl) (by decide) (by kernel_rfl) rfl rfl rfl
noncomputable abbrev RU:List Str:=[M6]
theorem RV(P:Params):n5 (fdOf lh) (aJ pq.main.body 64) RU:=⟨rfl,rfl,rfl,rfl,rfl,xE fun v0=>rfl⟩
theorem KD{w:World}{ag h:Heap}(y:YP w ag)(g:∀b o,ag.get? b=some o->h.get? b=some o):(∃o',h.get? 199=some o'/\o'.cls= .type "function"/\o'.data= .func (fdOf lj))/\h.CodeRec (fdOf lj).code (fdOf lj).qualname:=
 iB (a:=199) (c:=198) (oc:=wn) y g (by kernel_rfl) (by decide) (by kernel_rfl) rfl rfl (by kernel_rfl) (by decide) (by kernel_rfl) rfl rfl rfl
noncomputable abbrev RX:List Str:=[W2]
theorem RY(P:Params):n5 (fdOf lj) (aJ pq.main.body 65) RX:=⟨rfl,rfl,rfl,rfl,rfl,xE fun v0=>rfl⟩
theorem KE{w:World}{ag h:Heap}(y:YP w ag)(g:∀b o,ag.get? b=some o->h.get? b=some o):(∃o',h.get? 204=some o'/\o'.cls= .type "function"/\o'.data= .func (fdOf ll))/\h.CodeRec (fdOf ll).code (fdOf ll).qualname:=
 iB (a:=204) (c:=203) (oc:=wo) y g (by kernel_rfl) (by decide) (by kernel_rfl) rfl rfl (by kernel_rfl) (by decide) (by kernel_rfl) rfl rfl rfl
noncomputable abbrev RZ:List Str:=[Yu]
theorem R0(P:Params):n5 (fdOf ll) (aJ pq.main.body 66) RZ:=⟨rfl,rfl,rfl,rfl,rfl,xE fun v0=>rfl⟩
theorem KF{w:World}{ag h:Heap}(y:YP w ag)(g:∀b o,ag.get? b=some o->h.get? b=some o):(∃o',h.get? 209=some o'/\o'.cls= .type "function"/\o'.data= .func (fdOf jz))/\h.CodeRec (fdOf jz).code (fdOf jz).qualname:=
 iB (a:=209) (c:=208) (oc:=wp) y g (by kernel_rfl) (by decide) (by kernel_rfl) rfl rfl (by kernel_rfl) (by decide) (by kernel_rfl) rfl rfl rfl
noncomputable abbrev KG:List Str:=[IZ]
theorem R1(P:Params):n5 (fdOf jz) (aJ pq.main.body 67) KG:=⟨rfl,rfl,rfl,rfl,rfl,xE fun v0=>rfl⟩
theorem KH{w:World}{ag h:Heap}(y:YP w ag)(g:∀b o,ag.get? b=some o->h.get? b=some o):(∃o',h.get? 216=some o'/\o'.cls= .type "function"/\o'.data= .func (fdOf lm))/\h.CodeRec (fdOf lm).code (fdOf lm).qualname:=
 iB (a:=216) (c:=215) (oc:=wq) y g (by kernel_rfl) (by decide) (by kernel_rfl) rfl rfl (by kernel_rfl) (by decide) (by kernel_rfl) rfl rfl rfl
noncomputable abbrev R2:List Str:=[IZ]
theorem R3(P:Params):n5 (fdOf lm) (aJ pq.main.body 68) R2:=⟨rfl,rfl,rfl,rfl,rfl,xE fun v0=>rfl⟩
inductive sV:List (Int×Str)->List DictEntry->Prop
 |nil:sV [] []
 |cons {k x T T' ps es}:sV ps es->sV ((k,x)::ps) (⟨hashInt k,.int k T,.str x T'⟩::es)
theorem sV.app{a b:List (Int×Str)}{x y:List DictEntry}(h:sV a x)(h':sV b y):sV (a++b) (x++y):=by
 induction h with
 |nil=>exact h'
 |cons _ ih=>exact .cons ih
theorem Em:∀(l:List (Int×Str)) (T:Nat),sV l (aS T l)
 |[],T=>.nil
 |(k,x)::r,T=>.cons (Em r _)
theorem KI:∀(l:List (Int×Str)) (T:Nat),sV l (gW T l)
 |[],T=>.nil
 |(k,x)::r,T=>.cons (KI r _)
theorem KJ:∀(l:List (List (Int×Str))) (T:Nat),sV l.flatten (gX T l)
 |[],T=>.nil
 |l::r,T=>by rw[gA];exact(Em l T).app (KJ r _)
theorem N2:sV FV (aS 297 c0++gX 348 cs++gW 2235 cl):=by
 rw[vT,List.append_assoc];exact(Em _ _).app ((KJ _ _).app (KI _ _))
theorem sV.dict{prog:Program}{w:World}{ps:List (Int×Str)}{es:List DictEntry}(h:sV ps es):∃jM:List (Str×Tok),jM.map (·.1)=ps.map (·.2)/\jM.length=ps.length/\KeysOf (intKind prog w) es.toArray/\Pairs (intKind prog w) es ((ps.map (·.1)).zip (strValues jM)):=by
 induction h with
 |nil=>exact⟨[],rfl,rfl,fun e he=>by simp at he,.nil⟩
 | @cons k x T T' ps es _ ih=>
   obtain⟨jM,h1,h2,h3,h4⟩:=ih;refine⟨(x,T')::jM,by simp[h1],by simp[h2],fun e he=>?_,.cons (by simp[intKind,Value.isInt]) rfl h4⟩;have Di:e∈(⟨hashInt k,.int k T,.str x T'⟩:DictEntry)::es:=by simpa using he
   rcases bp.mp Di with rfl|Di
   ·exact⟨k,by simp[intKind,Value.isInt],rfl⟩
   ·exact h3 e (by simpa using Di)
noncomputable abbrev R4:List Int:=FV.map (·.1)
noncomputable abbrev R5:List (List Nat):=FV.map fun p=>p.2.cps.toList
theorem Vn(P:Params):(HZ P).get? 61=some sU:=rn P (by kernel_rfl) (by decide) (by kernel_rfl)
theorem R6{P:Pk}(hG:∀h,P.G h->YP P.w h):Jy P 61 "get" (Jz R4 R5):=by
 refine Uz (by decide) fun h G=>?_
 obtain⟨jM,h1,h2,h3,h4⟩:=N2.dict (prog:=P.prog) (w:=P.w);refine⟨jM,?_,by rw[h2,bi],sU,_,_,hG h G _ _ (Vn _),⟨rfl,rfl,rfl⟩,rfl,h3,by simpa using h4,?_⟩
 ·rw[h1,dK]
  refine pr fun p ø=>?_
  simp[pyStr]
 ·rw[List.map_fst_zip (by rw[bi];simp[strValues,h2])]
  exact BN
section
section
variable{M:Model}{A:Around}{R:GenEnd}{Y:Protocol}{n:Nat}{aW:Shared}{c:Code}{fs:List Frame}{s:Shared}{env:Env}
theorem jA{α β:Type}{m:Sem α}{k:α->Sem β}{K:β->Sem Fin}{H:Value->Sem Fin}{gd:Bool->Bool}{lv:List Value->List Value}
  (h:∀E,wpAny M (A.over c fs) m (fun a s'=>Seg M A R Y n aW c ((k a).wrap K H gd lv) fs s') E s):Seg M A R Y n aW c ((m>>= k).wrap K H gd lv) fs s:=by
 rw[Sem.bind_eq_wrap',ny];exact seg_wrap (h _)
theorem zW{m:Sem Flow}{K:Flow->Sem Fin}{H:Value->Sem Fin}{gd:Bool->Bool}{lv:List Value->List Value}
 (h:∀E,wpAny M (A.over c fs) m (fun a s'=>Seg M A R Y n aW c (K a) fs s') E s):Seg M A R Y n aW c (m.wrap K H gd lv) fs s:=seg_wrap (h _)
theorem sW{test:Expr}{a b:List Stmt}{pos:Pos}{K:Flow->Sem Fin}{H:Value->Sem Fin}{gd:Bool->Bool}{lv:List Value->List Value}
  (h:∀E,wpAny M (A.over c fs) (isTrue test env (eval test env)) (fun z s'=>Seg M A R Y n aW c ((if z=true then execs a env else execs b env).wrap K H gd lv) fs s') E s):
  Seg M A R Y n aW c ((exec (.If test a b pos) env).wrap K H gd lv) fs s:=by
 rw[exec_If];refine jA fun E=>qJ (jA fun E=>?_)
 exact h E
theorem N3{target iter:Expr}{body orelse:List Stmt}{pos:Pos}{K:Flow->Sem Fin}{H:Value->Sem Fin}{gd:Bool->Bool}{lv:List Value->List Value}(hs:∀x,foldedSetIterable iter env x=pure x)
  (h:∀E,wpAny M (A.over c fs) (eval iter env) (fun x s₁=>∀E,wpAny M (A.over c fs) (pyIter x) (fun it s₂=>∀k l p,(∀f,k (.ok f)=K f)->
   Seg M A R Y n aW (.forLoop target it body orelse env) (M.den (.forLoop target it body orelse env)) (.ret k none (gd false) l c p []::fs) s₂) E s₁) E s):
  Seg M A R Y n aW c ((exec (.For target iter body orelse pos) env).wrap K H gd lv) fs s:=by
 rw[exec_For];refine jA fun E=>qJ (jA fun E=>?_)
 refine au (h E) (fun x s₁ ag=>?_) fun ø ø q=>q
 refine jA fun E=>wpAny_of_eq (hs x) (jA fun E=>qJ (jA fun E=>gB (au (ag E) (fun it s₂ aH=>?_) fun ø ø q=>q)))
 exact seg_call fun p=>aH _ _ p fun f=>rfl
end
section
variable{prog:Program}{w:World}{A:Around}{R:GenEnd}{Y:Protocol}{n:Nat}{aW:Shared}{fs:List Frame}{s:Shared}{env:Env}
theorem B6{target:Expr}{it:Value}{body:List Stmt}
  (h:∀E,wpAny (model prog w) (A.over (.forLoop target it body [] env) fs) (pyNext it) (fun r s₁=>match r with
   |none=>Seg (model prog w) A R Y n aW (.block [] env) (leafOf (.ok .next)) fs s₁
   |some v=>∀E,wpAny (model prog w) (A.over (.forLoop target it body [] env) fs) (letOwnedTupleGo target it v) (fun ø s₂=>∀E,wpAny (model prog w) (A.over (.forLoop target it body [] env) fs) (assign target env v) (fun ø cB=>
    ∀K H,(∀f,K f=match f with
       | .next| .cont=>.pure (.again (.forLoop target it body [] env))
       | .brk=>.pure (.done .next)
       | .ret v=>.pure (.done (.ret v)))->Seg (model prog w) A R Y n aW (.forLoop target it body [] env) ((execs body env).wrap K H id id) fs cB) E s₂) E s₁) E s):
  Seg (model prog w) A R Y n aW (.forLoop target it body [] env) ((model prog w).den (.forLoop target it body [] env)) fs s:=by
 show Seg _ A R Y n aW _ ((forTurn target it body [] env).onRaise (fun x=>do noteFrame x env;theTreesLotGoes x)) fs s;rw[Sem.onRaise_eq_wrap];unfold forTurn;refine jA fun E=>qJ (jA fun E=>wpAny_onRaise (au (h _) (fun r s₁ ag=>?_) fun ø ø q=>qJ q))
 cases r with
 |none=>
  refine seg_again (c':=.block [] env) rfl ?_;exact ag
 |some v=>
  refine jA fun E=>au (ag E) (fun ø s₂ aH=>?_) fun ø ø q=>q
  refine jA fun E=>au (aH E) (fun ø cB eh=>?_) fun ø ø q=>q
  rw[Sem.bind_eq_wrap',ny];exact eh _ _ fun f=>by cases f<;>rfl
end
end
section
section
variable{prog:Program}{w:World}{A:Around}{E:Value->Shared->Prop}{s:Shared}
theorem B7{Q:Value->Shared->Prop}(h:∀h' e,(∀b o,s.heap.get? b=some o->h'.get? b=some o)->(∃o,h'.get? e=some o/\o.cls= .type "StopIteration")->Q (.ref e) {s with heap:=h'}):wpAny (model prog w) A (newExc (.type "StopIteration") []) Q E s:=by
 refine ar (pR ?_ (dU _));refine ar (m:=firstArgMember _ _) (wpAny_of_eq (a:=Value.none) (by first|rfl|(simp only[firstArgMember];rfl)) ?_);refine pR ?_ (by size_fits);exact h _ _ (fun b o e=>bK _ (bK _ e)) ⟨_,bD _ rfl,rfl⟩
theorem wt{α:Type}(hh:A.handled=none){Q:α->Shared->Prop}(h:∀h' e,(∀b o,s.heap.get? b=some o->h'.get? b=some o)->(∃o,h'.get? e=some o/\o.cls= .type "StopIteration")->E (.ref e) {s with heap:=h'}):
 wpAny (model prog w) A (do raiseNew (<-newExc (.type "StopIteration") []):Sem α) Q E s:=ar (B7 fun h' e hk he=>wpAny_raiseNew_none hh (h h' e hk he))
theorem Hv{it:Addr}{x:Str}{t:Tok}{i:Nat}{Q:Value->Shared->Prop}(hh:A.handled=none)(hit:s.heap.IsStrIter it "str_ascii_iterator" x t i)(hx:x.cps[i]?=none)
  (hE:∀h' e,Heap.ExtBut it s.heap h'->(∃o,h'.get? it=some o)->(∃o,h'.get? e=some o/\o.cls= .type "StopIteration")->E (.ref e) {s with heap:=h'}):
  wpAny (model prog w) A (Builtin.SmallTypes.nextOf (.ref it)) Q E s:=by
 have hT:=hit.typeIs;obtain⟨o,ho,hc,hd⟩:=hit;refine ar (pW hT F.slot_str_ascii_iterator_next (po F.slot_str_ascii_iterator_next hT F.entry_str_ascii_iterator_next ?_ (F.args_str_ascii_iterator_next_1 _)));show wpAny _ _ (field (.ref it) 0>>= _) _ _ s;refine ar (u8 ho hd (x:=.str x t) rfl ?_);show wpAny _ _ (field (.ref it) 1>>= _) _ _ s;refine ar (u8 ho hd (x:=.int i 0) rfl ?_);simp only[lG,hx];refine ar (rU (ar (wpAny_setField ho hd (by simp) (ar (wpAny_letGo ?_)))));refine wt (A:=A.in1) hh fun h' e hk he=>?_
 exact hE _ _ (fun b o q r=>hk b o ((pj ..).extBut b o q r)) ⟨_,hk _ _ (ni _ ho (Obj.isFreed_of_fields (Obj.data_mapFields hd _)))⟩ he
theorem KL{it:Addr}{x:Str}{t:Tok}{i:Nat}{Q:Value->Shared->Prop}(hh:A.handled=none)(hit:s.heap.IsStrIter it "str_iterator" x t i)(hx:x.cps[i]?=none)
  (hE:∀h' e,Heap.ExtBut it s.heap h'->(∃o,h'.get? it=some o)->(∃o,h'.get? e=some o/\o.cls= .type "StopIteration")->E (.ref e) {s with heap:=h'}):
  wpAny (model prog w) A (Builtin.SmallTypes.nextOf (.ref it)) Q E s:=by
 have hT:=hit.typeIs;obtain⟨o,ho,hc,hd⟩:=hit;refine ar (pW hT F.slot_str_iterator_next (po F.slot_str_iterator_next hT F.entry_str_iterator_next ?_ (F.args_str_iterator_next_1 _)));show wpAny _ _ (field (.ref it) 0>>= _) _ _ s;refine ar (u8 ho hd (x:=.str x t) rfl ?_);show wpAny _ _ (field (.ref it) 1>>= _) _ _ s;refine ar (u8 ho hd (x:=.int i 0) rfl ?_);simp only[lG,hx];refine ar (rU (ar (wpAny_setField ho hd (by simp) (ar (wpAny_letGo ?_)))));refine wt (A:=A.in1) hh fun h' e hk he=>?_
 exact hE _ _ (fun b o q r=>hk b o ((pj ..).extBut b o q r)) ⟨_,hk _ _ (ni _ ho (Obj.isFreed_of_fields (Obj.data_mapFields hd _)))⟩ he
theorem KM{e it:Addr}{x:Str}{t:Tok}{i:Nat}{j:Int}{old:Value}{Q:Option Value->Shared->Prop}(hh:A.handled=none)(he:IsEnum s.heap e it j old)(eF:s.heap.IsStrIter it (strIterType x) x t i)(hx:x.cps[i]?=none)
  (hQ:∀h',Heap.ExtBut it s.heap h'->(∃o,h'.get? it=some o)->Q none {s with heap:=h'}):wpAny (model prog w) A (pyNext (.ref e)) Q E s:=by
 have hT:s.TypeIs (.ref e) "enumerate":=⟨_,he,rfl⟩;refine ar (yX (pW hT F.slot_enumerate_next (po F.slot_enumerate_next hT F.entry_enumerate_next ?_ (F.args_enumerate_next_1 _))));show wpAny _ _ (field (.ref e) 2>>= _) _ _ _;refine ar (u8 he rfl (x:=.ref it) rfl ?_);have fin:∀h' y,Heap.ExtBut it s.heap h'->(∃o,h'.get? it=some o)->(∃o,h'.get? y=some o/\o.cls= .type "StopIteration")->wpAny (model prog w) A (do if <-isInstance (.ref y) (.type "StopIteration")then pure none else throw (.ref y):Sem (Option Value)) Q E {s with heap:=h'}:=fun h' y h1 h2 h3=>by
  obtain⟨o,ho,hc⟩:=h3;refine ar (u4 (T:="StopIteration") (b:=true) ⟨o,ho,hc⟩ isSubtype_stop ?_);exact bd (hQ _ h1 h2)
 cases ha:x.cps.all (· <128)
 ·refine ar (KL hh (by simpa[strIterType,ha]using eF) hx fun h' y h1 h2 h3=>?_)
  exact fin h' y h1 h2 h3
 ·refine ar (Hv hh (by simpa[strIterType,ha]using eF) hx fun h' y h1 h2 h3=>?_)
  exact fin h' y h1 h2 h3
end
end
section
noncomputable def hO(p:Nat):Bool->List Nat->List (Nat×List Nat)
 |true,[]=>[(p-1,[92])]
 |false,[]=>[]
 |true,c::cs=>(p,[92,c])::hO (p+1) false cs
 |false,c::cs=>if c=92 then hO (p+1) true cs else(p,[c])::hO (p+1) false cs
theorem zX(p:Nat):hO p true []=[(p-1,[92])]:=rfl
theorem FX(p:Nat):hO p false []=[]:=rfl
theorem zY(p c:Nat)(cs:List Nat):hO p true (c::cs)=(p,[92,c])::hO (p+1) false cs:=rfl
theorem uF(p c:Nat)(cs:List Nat):hO p false (c::cs)=if c=92 then hO (p+1) true cs else(p,[c])::hO (p+1) false cs:=rfl
section
variable(L it:Addr)(items:List (Nat×List Nat))
structure GK(aW s₁:Shared):Prop where
 keep:∀b o,b≠L->b≠it->b≠it+1->aW.heap.get? b=some o->s₁.heap.get? b=some o
 gens:s₁.gens=aW.gens
 os:s₁.os=aW.os
noncomputable def GP(n:Nat)(aW s₁:Shared):Prop:=n=0/\GK L it aW s₁
noncomputable def GR:GenEnd:=fun n aW r s₁=>r= .ok (.ret .none)/\GP L it n aW s₁
noncomputable def Agree(s₁ s₂:Shared):Prop:=∀b,(b=L\/b=it\/b=it+1)->∀o,s₁.heap.get? b=some o->s₂.heap.get? b=some o
inductive PT(m:Nat)(aW:Shared)(v:Value)(s₁:Shared):Prop
 |mk (p:Nat) (str:List Nat) (T:Addr) (t1 t2:Tok) (e:items[items.length-(m+1)]?=some (p,str)) (ev:v= .ref T) (t:zb s₁.heap T #[.int (p:Nat) t1,.str (pyStr str) t2]) (n:aW.heap.get? T=none) (n1:T≠L) (n2:T≠it) (n3:T≠it+1):PT m aW v s₁
inductive GYP(m:Nat)(aW:Shared)(v:Value)(s₁:Shared)(M3:Resume->Shared->Prop):Prop
 |mk (k:GK L it aW s₁) (l:∀b,(b=L\/b=it\/b=it+1)->∃o,s₁.heap.get? b=some o) (i:PT L it items m aW v s₁) (kp:∀s₂,Agree L it s₁ s₂->M3 (.send .none) s₂):GYP m aW v s₁ M3
noncomputable def GY:Protocol:=fun m aW v s₁ M3=>GYP L it items m aW v s₁ M3
end
theorem GK.refl(L it s):GK L it s s:=⟨fun ø ø ø ø ø h=>h,rfl,rfl⟩
theorem GK.trans{L it a b c}(x:GK L it a b)(y:GK L it b c):GK L it a c:=⟨fun q o h1 h2 h3 h=>y.keep q o h1 h2 h3 (x.keep q o h1 h2 h3 h),y.gens.trans x.gens,y.os.trans x.os⟩
theorem GK.heap{L it}{s:Shared}{h':Heap}{tk:Nat}(h:∀b o,b≠L->b≠it->b≠it+1->s.heap.get? b=some o->h'.get? b=some o):GK L it s {s with heap:=h',toks:=tk}:=⟨h,rfl,rfl⟩
inductive Lf(items:List (Nat×List Nat))(x:List Nat)(i:Nat)(b:Bool)(n:Nat):Prop
 |mk (l:n=(hO i b (x.drop i)).length) (e:hO i b (x.drop i)=items.drop (items.length-n)) (h:n<=items.length)
theorem Lf.same{items x i b n i' b'}(h:Lf items x i b n)(e:hO i b (x.drop i)=hO i' b' (x.drop i')):Lf items x i' b' n:=by
 obtain⟨l,q,h⟩:=h;rw[e]at l q;exact⟨l,q,h⟩
theorem Lf.cut{items:List (Nat×List Nat)}{n:Nat}{p:Nat×List Nat}{r:List (Nat×List Nat)}(l:n=r.length+1)(q:p::r=items.drop (items.length-n))(h:n<=items.length):items[items.length-(r.length+1)]?=some p/\r=items.drop (items.length-r.length):=by
 rw[l]at q h;have e:items.length-r.length=items.length-(r.length+1)+1:=(rP (Nat.sub_pos_of_lt h)).symm;have q0:=congrArg (·[0]?) q;rw[Dz]at q0;rw[e,<-List.drop_drop,<-q];exact⟨q0.symm,rfl⟩
theorem Lf.cons{items x i b n i' b' p}(h:Lf items x i b n)(e:hO i b (x.drop i)=p::hO i' b' (x.drop i')):∃n',n=n'+1/\items[items.length-(n'+1)]?=some p/\Lf items x i' b' n':=by
 obtain⟨l,q,h⟩:=h;rw[e]at l q;have c:=Lf.cut l q h;exact⟨_,l,c.1,rfl,c.2,u9 (aA (iM l.symm) h)⟩
theorem KN{L it:Addr}{items:List (Nat×List Nat)}{n:Nat}{aW s:Shared}{p:Nat}{FY:List Nat}{t u:Tok}{tk:Nat}{M3:Resume->Shared->Prop}(k:GK L it aW s)(l:∀b,(b=L\/b=it\/b=it+1)->∃o,s.heap.get? b=some o)(hit:items[items.length-(n+1)]?=some (p,FY))
  (hk:∀s₂,Agree L it {s with toks:=tk,heap:=s.heap.push {cls:=.type "tuple",data:=.seq #[.int (p:Nat) t,.str (pyStr FY) u]} } s₂->M3 (.send .none) s₂):
  GY L it items n aW (.ref s.heap.objs.size) {s with toks:=tk,heap:=s.heap.push {cls:=.type "tuple",data:=.seq #[.int (p:Nat) t,.str (pyStr FY) u]} } M3:=by
 have ne:∀b,(b=L\/b=it\/b=it+1)->s.heap.objs.size≠b:=fun b hb z=>(l b hb).elim fun o q=>nomatch(z▸aP s.heap).symm.trans q
 refine⟨⟨fun b o h1 h2 h3 h=>bK _ (k.keep b o h1 h2 h3 h),k.gens,k.os⟩,fun b hb=>(l b hb).elim fun o q=>⟨o,bK _ q⟩,⟨p,FY,s.heap.objs.size,t,u,hit,rfl,⟨0,bD _ rfl⟩,?_,ne _ (.inl rfl),ne _ (.inr (.inl rfl)),ne _ (.inr (.inr rfl))⟩,hk⟩
 induction e:aW.heap.get? s.heap.objs.size with
 |none=>rfl
 |some o=>exact nomatch(aP s.heap).symm.trans (k.keep _ o (ne _ (.inl rfl)) (ne _ (.inr (.inl rfl))) (ne _ (.inr (.inr rfl))) e)
section
variable{prog:Program}{w:World}{A:Around}{n:Nat}{aW:Shared}{s:Shared}{env:Env}{it:Addr}{items:List (Nat×List Nat)}{x:List Nat}{tx:Tok}
structure KO(env:Env)(it:Addr)(i:Nat)(b:Bool)(s:Shared):Prop where
 ns:∃m t,s.heap.Ns env.locals m/\m "escape"=some (.bool b)/\m "pos"=some (.int ((i-1:Nat):Int) t)
 en:∃old,IsEnum s.heap (it+1) it i old
 li:∃o,s.heap.get? it=some o
inductive GF(env:Env)(it:Addr)(x:List Nat)(tx:Tok)(i:Nat)(b:Bool)(s:Shared):Prop
 |mk (h:KO env it i b s) (st:s.heap.IsStrIter it (strIterType (pyStr x)) (pyStr x) tx i)
inductive GS(env:Env)(it:Addr)(x:List Nat)(tx:Tok)(i:Nat)(b:Bool)(c:Nat)(s:Shared):Prop
 |mk (m:Str->Option Value) (t u:Tok) (old:Value) (ns:s.heap.Ns env.locals m) (he:m "escape"=some (.bool b)) (hp:m "pos"=some (.int (i:Nat) t)) (hc:m "ch"=some (.str (pyStr [c]) u)) (en:IsEnum s.heap (it+1) it (i+1:Nat) old) (st:s.heap.IsStrIter it (strIterType (pyStr x)) (pyStr x) tx (i+1))
theorem GF.moved{env it x tx i b s s'}(h:GF env it x tx i b s)(hk:∀b,(b=env.locals\/b=it\/b=it+1)->∀o,s.heap.get? b=some o->s'.heap.get? b=some o):GF env it x tx i b s':=by
 obtain⟨⟨⟨m,t,ns,he,hp⟩,⟨old,en⟩,li⟩,oi,qi,c⟩:=h;have Vo:=hk _ (.inr (.inl rfl)) _ qi;exact⟨⟨⟨m,t,ns.at fun o q=>hk _ (.inl rfl) o q,he,hp⟩,⟨old,hk _ (.inr (.inr rfl)) _ en⟩,⟨oi,Vo⟩⟩,oi,Vo,c⟩
theorem GF.agree{env it x tx i b s s₂}(h:GF env it x tx i b s){o tk}(ha:Agree env.locals it {s with toks:=tk,heap:=s.heap.push o} s₂):GF env it x tx i b s₂:=
 h.moved fun b hb o' q=>ha b hb o' (bK _ q)
theorem GS.gf{env it x tx i b c s}(h:GS env it x tx i b c s):GF env it x tx (i+1) b s:=by
 obtain⟨m,t,u,old,ns,he,hp,hc,en,oi,qi,q⟩:=h;exact⟨⟨⟨m,t,ns,he,hp⟩,⟨old,en⟩,⟨oi,qi⟩⟩,oi,qi,q⟩
theorem KO.live{env it i b s}(h:KO env it i b s):∀b,(b=env.locals\/b=it\/b=it+1)->∃o,s.heap.get? b=some o:=by
 obtain⟨⟨m,t,⟨oL,es,ep,qL,_⟩,_⟩,⟨old,en⟩,o1,q1⟩:=h;exact fun b hb=>hb.elim (fun e=>e▸⟨oL,qL⟩) fun hb=>hb.elim (fun e=>e▸⟨o1,q1⟩) fun e=>e▸⟨_,en⟩
structure sX(env:Env):Prop where
 fn:env.scope.kind= .function
 co:env.scope.isCoroutine=false
 kp:env.kindOf "pos"=some .local
 ke:env.kindOf "escape"=some .local
 kc:env.kindOf "ch"=some .local
theorem sX.hp{env:Env}(g:sX env):(env.scope.kind== .class||(env.scope.kind== .module&&env.locals != env.globals))=false:=by rw[g.fn];rfl
theorem R7{A:Around}{e1 e2:Expr}{k:Nat}{pos:Pos}{u:Value}{Pv:Value->Prop}{E:Value->Shared->Prop}{Q:Value->Shared->Prop}
  (h1:∀E (Q:Value->Shared->Prop),Q u s->wpAny (model prog w) A (eval e1 env) Q E s) (h2:∀E (Q:Value->Shared->Prop),(∀v tk,Pv v->Q v {s with toks:=tk})->wpAny (model prog w) A (eval e2 env) Q E s)
  (he1:starEach [e1,e2] env=(false,eval e1 env)::starEach [e2] env) (he2:starEach [e2] env=(false,eval e2 env)::starEach [] env)
  (hQ:∀v tk,Pv v->Q (.ref s.heap.objs.size) {s with toks:=tk,heap:=s.heap.push {cls:=.type "tuple",data:=.seq #[u,v]} }):wpAny (model prog w) A (eval (.Tuple [e1,e2] k pos) env) Q E s:=by
 refine wpAny_Tuple (jV (h1 _ _ (jV (h2 _ _ fun v tk hv=>jU ⟨?_,?_⟩) he2)) he1)
 ·rw[gR];exact aA (show 2<=100 by decide) (by decide)
 ·exact hQ v tk hv
theorem PU(c:Nat):((pyStr [c])==(pyStr [92]))=decide (c=92):=by
 rw[sh];by_cases h:c=92
 ·subst h;decide
 ·simp[h]
noncomputable abbrev tR(gp:Nat->Pos):List Stmt:=
 [.If (.Name "escape" (gp 20)) [.Expr (.Yield (some (.Tuple [.Name "pos" (gp 21),.BinOp (.Constant (.str "\\") 0 (gp 22)) .Add (.Name "ch" (gp 23)) (gp 24)] 0 (gp 25))) (gp 26)) (gp 27),.Assign [.Name "escape" (gp 28)] (.Constant (.bool false) 0 (gp 29)) (gp 30)]
  [.If (.Compare (.Name "ch" (gp 31)) [.Eq] [.Constant (.str "\\") 0 (gp 32)] (gp 33)) [.Assign [.Name "escape" (gp 34)] (.Constant (.bool true) 0 (gp 35)) (gp 36)] [.Expr (.Yield (some (.Tuple [.Name "pos" (gp 37),.Name "ch" (gp 38)] 0 (gp 39))) (gp 40)) (gp 41)] (gp 42)] (gp 43)]
section
variable{gp:Nat->Pos}{a1 a2 a3 a4 a5 a6 a7 a8 a9:Pos}
theorem i3{M:Model}{R:GenEnd}{Y:Protocol}{c:Code}{fs:List Frame}{z z':Bool}{a b:List Stmt}{K:Flow->Sem Fin}{H:Value->Sem Fin}{gd:Bool->Bool}{lv:List Value->List Value}(e:z=z')(h:Seg M A R Y n aW c ((execs (cond z' a b) env).wrap K H gd lv) fs s):Seg M A R Y n aW c ((if z=true then execs a env else execs b env).wrap K H gd lv) fs s:=by
 rw[e]
 induction z'<;>exact h
theorem inter(g:sX env):interactive env=false:=by unfold interactive;rw[g.fn];rfl
theorem KP(g:sX env){fs:List Frame}{c:Code}{b:Bool}{K:Flow->Sem Fin}{H:Value->Sem Fin}(KQ:fs=[])(hA:(A.over c fs).handled=none)
  (hK:K .next= .pure (.done (.ret .none))) (hi:KO env it x.length b s) (k:GK env.locals it aW s) (lf:Lf items x x.length b n):
  Seg (model prog w) A (GR env.locals it) (GY env.locals it items) n aW c ((execs [.If (.Name "escape" a1) [.Expr (.Yield (some (.Tuple [.Name "pos" a2,.Constant (.str "\\") 0 a3] 0 a4)) a5) a6] [] a7] env).wrap K H id id) fs s:=by
 obtain⟨⟨m,t,hm,he,hp⟩,_⟩:=id hi;obtain⟨hn,hx,bN⟩:=lf;rw[va]at hn hx;refine jZ (sW fun E=>uT (eV (kJ g.fn g.ke hm he (pg (i3 rfl ?_))) rfl) rfl)
 induction b with
 |false=>
  refine yY (yY ?_);rw[hK,KQ];exact seg_end (.ok (.ret .none)) ⟨rfl,hn,k⟩
 |true=>
  rw[zX]at hn hx;have hc:=Lf.cut (r:=[]) hn hx bN;rw[hn];refine jZ (seg_Expr_Yield (KQ▸rfl) rfl (KQ▸rfl) (R7 (u:=.int ((x.length-1:Nat):Int) t) (Pv:=fun v=>v= .str (pyStr [92]) s.toks) (fun E Q h=>eV (kJ g.fn g.kp hm hp h) rfl) (fun E Q h=>uQ (h _ _ rfl)) rfl rfl fun v tk hv M3 hk=>?_) g.co (inter g));rw[hv];refine KN k hi.live hc.1 fun s₂ ø=>hk _ _ (yY (yY ?_))
  rw[hK,KQ];exact seg_end (.ok (.ret .none)) ⟨rfl,rfl,.refl ..⟩
noncomputable abbrev pA(gp:Nat->Pos):Expr:=.Tuple [.Name "pos" (gp 17),.Name "ch" (gp 18)] 0 (gp 19)
theorem ye{A:Around}(hA:A.handled=none):Draws prog w A.in1 it [it] (pyStr x).cps.size (fun i v=>∃c u,(pyStr x).cps[i]?=some c/\v= .str ⟨#[c]⟩ u) (fun i h=>h.IsStrIter it (strIterType (pyStr x)) (pyStr x) tx i):=by
 cases ha:(pyStr x).cps.all (· <128)
 ·rw[show strIterType (pyStr x)="str_iterator" by unfold strIterType;rw[ha];rfl];exact Draws.strWide (A:=A.in1) hA it (pyStr x) tx
 ·rw[show strIterType (pyStr x)="str_ascii_iterator" by unfold strIterType;rw[ha];rfl];exact Draws.strAscii (A:=A.in1) hA it (pyStr x) tx
theorem KR(g:sX env)(hL:env.locals≠it)(FZ:env.locals≠it+1){R:GenEnd}{Y:Protocol}{fs:List Frame}{body:List Stmt}(hA:(A.over (.forLoop (pA gp) (.ref (it+1)) body [] env) fs).handled=none){i:Nat}{b:Bool}(hI:GF env it x tx i b s){c:Nat}(hc:x[i]?=some c)
  (h:∀s' K H,K .next= .pure (.again (.forLoop (pA gp) (.ref (it+1)) body [] env))->GK env.locals it s s'->GS env it x tx i b c s'->Seg (model prog w) A R Y n aW (.forLoop (pA gp) (.ref (it+1)) body [] env) ((execs body env).wrap K H id id) fs s'):
  Seg (model prog w) A R Y n aW (.forLoop (pA gp) (.ref (it+1)) body [] env) ((model prog w).den (.forLoop (pA gp) (.ref (it+1)) body [] env)) fs s:=by
 have W:=WalksT.enumerateD (prog:=prog) (w:=w) (ye (it:=it) (x:=x) (tx:=tx) hA) (it+1) (pQ _) (fun h=>pQ _ (cN.mp h)) (.head _);obtain⟨⟨⟨m,t,hm,he,hp⟩,XN,_⟩,eF⟩:=hI;have sz:(pyStr x).cps.size=x.length:=bM ..;have nw:∀b,b≠it->b≠it+1->b∉[it+1,it]:=fun b q1 q2 h=>(bp.mp h).elim q2 fun h=>q1 (cN.mp h)
 refine B6 fun E=>W.item i s _ _ (sz▸(eX.mp hc).1) ⟨XN,eF⟩ fun T vals ag tk hP hT Vp Vq hk E=>?_
 obtain⟨t',v,⟨c',u,Jc,e2⟩,e1⟩:=hP;rw[e1,e2,show c'=c from Option.some.inj (Jc.symm.trans (List.getElem?_toArray.trans hc))]at Vp;refine W.go _ _ _ i T _ _ _ Vq fun aH R8 yf E=>?_
 obtain⟨oT,qT,cT,nT,dT⟩:=Vp;have Vr:aH.IsTuple T #[.int i t',.str ⟨#[c]⟩ u]:=⟨oT,yf _ _ (W.apart _ _ _ Vq) qT,cT,nT,dT⟩;obtain⟨⟨R9,hen₂⟩,oi,qi,ci⟩:=R8;have En:∀b o,b≠it->b≠it+1->s.heap.get? b=some o->aH.get? b=some o:=fun b o q1 q2 e=>yf b o (nw b q1 q2) (hk b o (nw b q1 q2) e)
 have hm2:aH.Ns env.locals m:=hm.at fun o e=>En _ o hL FZ e
 refine Dq hA Vr rfl rfl fun eh Vs=>?_
 have hk3:∀b o,aH.get? b=some o->eh.get? b=some o:=fun b o e=>Vs b o (fun z=>nomatch(z▸aP aH).symm.trans e) e
 refine ar (gB (nk (rN g.kp (hm2.at fun o e=>hk3 _ o e) (fun A3 Vt Vu=>?_) g.hp)));refine ar (gB (nk (rN g.kc Vt (fun vu KS KT=>bd fun K H hK=>?_) g.hp)));have Sa:∀b o,b≠env.locals->aH.get? b=some o->vu.get? b=some o:=fun b o q e=>(KT.2 b q).trans ((Vu.2 b q).trans (hk3 b o e))
 exact h _ K H (hK .next) ⟨fun b o q0 q1 q2 e=>Sa b o q0 (En b o q1 q2 e),rfl,rfl⟩ ⟨_,t',u,R9,KS,(az (by decide+kernel)).trans ((az (by decide+kernel)).trans he),(az (by decide+kernel)).trans (aw rfl),aw rfl,Sa _ _ (dW FZ) hen₂,oi,Sa _ _ (dW hL) qi,ci⟩
noncomputable def SL(prog:Program)(w:World)(A:Around)(env:Env)(it:Addr)(items:List (Nat×List Nat))(gp:Nat->Pos)(fs:List Frame)(n:Nat)(aW:Shared)(K:Sem Fin)(s:Shared):Prop:=Seg (model prog w) A (GR env.locals it) (GY env.locals it items) n aW (.forLoop (pA gp) (.ref (it+1)) (tR gp) [] env) K fs s
theorem wu(g:sX env)(hL:env.locals≠it)(FZ:env.locals≠it+1){A:Around}{i:Nat}{b b':Bool}(hf:GF env it x tx i b s){E:Value->Shared->Prop}{Q:Unit->Shared->Prop}(h:∀s',GK env.locals it s s'->GF env it x tx i b' s'->Q () s'):
  wpAny (model prog w) A (storeName env "escape" (.bool b')) Q E s:=by
 obtain⟨⟨⟨m,t,ns,he,hp⟩,⟨old,en⟩,li⟩,oi,qi,c⟩:=hf;refine rN g.ke ns (fun vu KS KT=>?_) g.hp;have Sa:∀b o,b≠env.locals->s.heap.get? b=some o->vu.get? b=some o:=fun b o q e=>(KT.2 b q).trans e
 have Vo:=Sa _ _ (dW hL) qi;exact h _ ⟨fun b o q1 ø ø e=>Sa b o q1 e,rfl,rfl⟩ ⟨⟨⟨_,t,KS,aw rfl,(az (by decide+kernel)).trans hp⟩,⟨old,Sa _ _ (dW FZ) en⟩,⟨oi,Vo⟩⟩,oi,Vo,c⟩
section
variable{fs:List Frame}{i c:Nat}{K:Flow->Sem Fin}{H:Value->Sem Fin}
theorem N4(g:sX env)(hL:env.locals≠it)(FZ:env.locals≠it+1)(KQ:splitAtGen fs=none)(TT:fs.any Frame.guarded=false)(hit:items[items.length-(n+1)]?=some (i,[92,c]))(k:GK env.locals it aW s)(gs:GS env it x tx i true c s)
  (next:∀s₂ s',GK env.locals it s₂ s'->GF env it x tx (i+1) false s'->SL prog w A env it items gp fs n s₂ (K .next) s'):SL prog w A env it items gp fs (n+1) aW ((execs (tR gp) env).wrap K H id id) s:=by
 obtain⟨m,t,u,old,hm,he,hp,hch,_⟩:=id gs;refine jZ (sW fun E=>uT (eV (kJ g.fn g.ke hm he (pg (i3 rfl ?_))) rfl) rfl);refine jZ (seg_Expr_Yield KQ rfl TT (R7 (u:=.int (i:Nat) t) (Pv:=fun v=>∃u',v= .str (pyStr [92,c]) u') (fun E Q h=>eV (kJ g.fn g.kp hm hp h) rfl)
  (fun E Q h=>wpAny_BinOp (uQ (eV (kJ g.fn g.kc hm hch (add_str (fun t' tk=>h _ _ ⟨_,rfl⟩) ?_)) rfl))) rfl rfl fun v tk hv M3 hk=>?_) g.co (inter g))
 ·rw[gR];show 1+1<=_;decide
 ·obtain⟨u',e⟩:=hv
  rw[e];exact KN k gs.gf.1.live hit fun s₂ ha=>hk _ _ (jZ (zW fun E=>qI (uR (wu g hL FZ (gs.gf.agree ha) fun h' k' f'=>next s₂ _ k' f')) rfl))
theorem N5(g:sX env)(hL:env.locals≠it)(FZ:env.locals≠it+1)(k:GK env.locals it aW s)(gs:GS env it x tx i false 92 s)
  (next:∀s',GK env.locals it aW s'->GF env it x tx (i+1) true s'->SL prog w A env it items gp fs n aW (K .next) s'):SL prog w A env it items gp fs n aW ((execs (tR gp) env).wrap K H id id) s:=by
 obtain⟨m,t,u,old,hm,he,hp,hch,_⟩:=id gs;refine jZ (sW fun E=>uT (eV (kJ g.fn g.ke hm he (pg (i3 rfl ?_))) rfl) rfl);refine jZ (sW fun E=>uS (eV (kJ g.fn g.kc hm hch (uQ (eq_str (pg (i3 (PU 92) ?_))))) rfl) rfl);exact jZ (zW fun E=>qI (uR (wu (s:={s with toks:=s.toks+1}) g hL FZ (gs.gf.moved fun ø ø ø q=>q) fun h' k' f'=>next _ (k.trans ⟨k'.1,k'.2,k'.3⟩) f')) rfl)
theorem N6(g:sX env)(KQ:splitAtGen fs=none)(TT:fs.any Frame.guarded=false)(hc:c≠92)(hit:items[items.length-(n+1)]?=some (i,[c]))(k:GK env.locals it aW s)(gs:GS env it x tx i false c s)
  (next:∀s₂,GF env it x tx (i+1) false s₂->SL prog w A env it items gp fs n s₂ (K .next) s₂):SL prog w A env it items gp fs (n+1) aW ((execs (tR gp) env).wrap K H id id) s:=by
 obtain⟨m,t,u,old,hm,he,hp,hch,_⟩:=id gs;refine jZ (sW fun E=>uT (eV (kJ g.fn g.ke hm he (pg (i3 rfl ?_))) rfl) rfl);refine jZ (sW fun E=>uS (eV (kJ g.fn g.kc hm hch (uQ (eq_str (pg (i3 ((PU c).trans (mG hc)) ?_))))) rfl) rfl);refine jZ (seg_Expr_Yield KQ rfl TT (R7 (u:=.int (i:Nat) t) (Pv:=fun v=>v= .str (pyStr [c]) u) (fun E Q h=>eV (kJ g.fn g.kp hm hp h) rfl) (fun E Q h=>eV (kJ g.fn g.kc hm hch (h _ _ rfl)) rfl) rfl rfl fun v tk hv M3 hk=>?_) g.co (inter g));rw[hv];exact KN (s:={s with toks:=s.toks+1}) ⟨k.1,k.2,k.3⟩ gs.gf.1.live hit fun s₂ ha=>hk _ _ (next s₂ (gs.gf.agree ha))
end
theorem KU(g:sX env)(hL:env.locals≠it)(FZ:env.locals≠it+1){fs:List Frame}(KQ:splitAtGen fs=none)(TT:fs.any Frame.guarded=false)
  (hA:(A.over (.forLoop (pA gp) (.ref (it+1)) (tR gp) [] env) fs).handled=none)
  (ab0:∀b aW s n,KO env it x.length b s->GK env.locals it aW s->Lf items x x.length b n->Seg (model prog w) A (GR env.locals it) (GY env.locals it items) n aW (.block [] env) (leafOf (.ok .next)) fs s):
  ∀k i b aW s n,i+k=x.length->Lf items x i b n->GF env it x tx i b s->GK env.locals it aW s->SL prog w A env it items gp fs n aW ((model prog w).den (.forLoop (pA gp) (.ref (it+1)) (tR gp) [] env)) s:=by
 intro k
 induction k with
 |zero=>
  intro i b aW s n (e:i=_) lf hI k;obtain⟨⟨⟨m,t,hm,he,hp⟩,⟨old,XN⟩,_⟩,eF⟩:=hI;refine B6 fun E=>KM hA XN eF (yZ (e▸iM (bM ..))) fun h' IX jN=>?_
  rw[e]at hp lf;exact ab0 b aW _ n ⟨⟨m,t,hm.at fun o e=>IX _ o hL e,he,hp⟩,⟨old,IX _ _ (pQ _) (e▸XN)⟩,jN⟩ (k.trans (.heap (tk:=s.toks) fun b o h1 h2 h3 e=>IX b o h2 e)) lf
 |succ k ih=>
  intro i b aW s n hk lf hI k₀;have de:i<x.length:=by omega
  have zf:i+1+k=x.length:=by omega
  have hc:=dX de;refine KR g hL FZ hA hI hc fun s' K H hK k' gs=>?_
  have go:∀n b' aW s,Lf items x (i+1) b' n->GF env it x tx (i+1) b' s->GK env.locals it aW s->SL prog w A env it items gp fs n aW (K .next) s:=fun n b' aW s lf hf k=>by
   rw[hK];exact seg_again rfl (ih (i+1) b' aW s n zf lf hf k)
  have hd:=pk de
  induction b with
  |false=>
   by_cases XO:x[i]=92
   ·exact N5 g hL FZ (k₀.trans k') (XO▸gs) fun s₂ k₂ Sb=>go n true aW s₂ (lf.same (by rw[hd,uF,aw XO])) Sb k₂
   ·obtain⟨n',e,hit,lf'⟩:=lf.cons (i':=i+1) (b':=false) (p:=(i,[x[i]])) (by rw[hd,uF,az XO])
    rw[e];exact N6 g KQ TT XO hit (k₀.trans k') gs fun s₂ Sb=>go n' false s₂ s₂ lf' Sb (.refl ..)
  |true=>
   obtain⟨n',e,hit,lf'⟩:=lf.cons (i':=i+1) (b':=false) (p:=(i,[92,x[i]])) (by rw[hd,zY]);rw[e];exact N4 g hL FZ KQ TT hit (k₀.trans k') gs fun s₂ cB Ba ab1=>go n' false s₂ cB lf' ab1 Ba
end
end
end
section
section
variable{prog:Program}{w:World}{A:Around}{E:Value->Shared->Prop}{s:Shared}
theorem B8{a:Addr}{g n:Nat}{gs:GenState}{L it:Addr}{Y:Protocol}{Q:Option Value->Shared->Prop}(hh:A.handled=none)(hl:s.heap.NoLimit)(wv:A.depth<recursionLimit)(hg:s.heap.IsGen a g)(yg:s.gens[g]?=some gs)
  (PV:gs.Goes (model prog w) A.in1 (GR L it) Y n (.send .none) (s.setGen g .running))
  (hY:∀v s₁ gs',gs'.bare=true->Y (n-1) (s.setGen g .running) v s₁ (fun r' ie=>match n with|0=>False|m+1=>gs'.Goes (model prog w) A.in1 (GR L it) Y m r' ie)->Q (some v) (s₁.setGen g gs'))
  (hP:∀s₁,GP L it n (s.setGen g .running) s₁->∀h',(∀b o,s₁.heap.get? b=some o->h'.get? b=some o)->Q none {s₁.setGen g .finished with heap:=h'}):wpAny (model prog w) A (pyNext (.ref a)) Q E s:=by
 have Nt:gs≠ .running/\gs≠ .finished:=⟨fun e=>by subst e;exact PV.elim,fun e=>by subst e;exact PV.elim⟩;refine ar (yX (pW hg.typeIs slot_gen_next (po slot_gen_next hg.typeIs entry_gen_next ?_ (args_gen_next _))));show wpAny _ A.in1 (Builtin.Generator.genWake (.ref a) (.send .none)) _ _ s;unfold Builtin.Generator.genWake;refine ar (gB (wpAny_genNumber hg (ar (wpAny_genState yg ?_))))
 cases gs with
 |running=>exact absurd rfl Nt.1
 |finished=>exact absurd rfl Nt.2
 |_=>
  refine ar (wpAny_roomToWake hl wv ?_);show wpAny _ A.in1 (.resume g (.send .none) [] _) _ _ s;refine wpAny_resumeQ yg PV (fun x s₁ hx=>?_) (fun v s₁ gs' hb hv=>?_)
  ·obtain⟨rfl,hp⟩:=hx
   show wpAny _ A.in1 (newExc (.type "StopIteration") []>>= _) _ _ _;refine ar (B7 fun h' e hk he=>ar (wpAny_raiseNew_none hh ?_));obtain⟨o,ho,hc⟩:=he;refine ar (u4 (T:="StopIteration") (b:=true) ⟨o,ho,hc⟩ isSubtype_stop ?_);exact bd (hP s₁ hp _ hk)
  ·exact bd ⟨v,rfl,bd (hY v s₁ gs' hb hv)⟩
end
inductive KV(P:Pk)(hid:List Addr)(x:V)(St:List Addr->List Addr->Nat->Shared->Prop)(i:Nat)(I:Addr)(W:List Addr)(gi:Option Nat)(s s':Shared)(r:Option Value):Prop
 |mk (v:Value) (X:List Addr) (e:r=some v) (n:∀a∈X,s.heap.get? a=none) (l:cx s'.heap X) (d:Dn P s'.heap (X++hid) x v) (st:St (X++W) (X++hid) (i+1) s') (q:Quiet s' I) (mv:Mv W gi s s'):KV P hid x St i I W gi s s' r
structure KW(P:Pk)(A:Around)(I:Addr)(gi:Option Nat)(xs:List V)(St:List Addr->List Addr->Nat->Shared->Prop):Prop where
 frame:∀W hid ao i s s',(∀a∈W,a∈hid)->St W hid i s->Ks W hid ao s s'->St W ao i s'
 item:∀W hid i s x (E:Value->Shared->Prop),xs[i]?=some x->(∀a∈W,a∈hid)->P.G s.heap->cx s.heap hid->St W hid i s->
  wpAny (model P.prog P.w) A (pyNext (.ref I)) (fun r s'=>KV P hid x St i I W gi s s' r) E s
 done:∀W hid s (E:Value->Shared->Prop),(∀a∈W,a∈hid)->P.G s.heap->cx s.heap hid->St W hid xs.length s->wpAny (model P.prog P.w) A (pyNext (.ref I)) (fun r s'=>r=none/\Mv0 W gi s s') E s
noncomputable abbrev mL(p:Nat×List Nat):V:=.tup [.int p.1,.str p.2]
section
variable{P:Pk}{A:Around}{a L g:Nat}{items:List (Nat×List Nat)}
inductive GS0(P:Pk)(A:Around)(a L:Nat)(items:List (Nat×List Nat))(W:List Addr)(i:Nat)(s:Shared)(gs:GenState):Prop
 |mk (e:i=0) (w:W=[a,L]) (h:∀s₂,(∀o,s.heap.get? L=some o->s₂.heap.get? L=some o)->P.G s₂.heap->gs.Goes (model P.prog P.w) A.in1 (GR L s₂.heap.objs.size) (GY L s₂.heap.objs.size items) items.length (.send .none) s₂):GS0 P A a L items W i s gs
inductive GS1(P:Pk)(A:Around)(a L:Nat)(items:List (Nat×List Nat))(W:List Addr)(i:Nat)(s:Shared)(gs:GenState):Prop
 |mk (it:Nat) (h0:0<i) (h1:i<=items.length) (w:W=[it,it+1,a,L]) (n1:a≠it) (n2:a≠it+1) (l1:∃o,s.heap.get? it=some o) (l2:∃o,s.heap.get? (it+1)=some o) (h:∀s₂,Agree L it s s₂->gs.Goes (model P.prog P.w) A.in1 (GR L it) (GY L it items) (items.length-i) (.send .none) s₂):GS1 P A a L items W i s gs
inductive TU(P:Pk)(A:Around)(a L g:Nat)(items:List (Nat×List Nat))(W hid:List Addr)(i:Nat)(s:Shared):Prop
 |mk (gs:GenState) (hg:s.heap.IsGen a g) (yg:s.gens[g]?=some gs) (n:a≠L) (l:∃o,s.heap.get? L=some o) (wa:a∈W) (wl:L∈W) (h:GS0 P A a L items W i s gs\/GS1 P A a L items W i s gs):TU P A a L g items W hid i s
theorem B9{s s₁:Shared}{g:Nat}{gs gs':GenState}(hg:s.gens[g]?=some gs)(e:s₁.gens=(s.setGen g .running).gens):(∀(i:Nat) x,(some g:Option Nat)≠some i->s.gens[i]?=some x->(s₁.setGen g gs').gens[i]?=some x)/\(s₁.setGen g gs').gens[g]?=some gs':=by
 refine⟨fun i x hi hx=>?_,?_⟩
 ·have:g≠i:=fun z=>hi (by rw[z])
  simp only[Shared.setGen,e,Array.getElem?_setIfInBounds,az this];exact hx
 ·have de:g<s.gens.size:=(yK.mp hg).1
  simp[Shared.setGen,e,de]
theorem yh{s s₁:Shared}{g:Nat}{gs':GenState}(e:s₁.gens=(s.setGen g .running).gens)(hb:gs'.bare=true)(h:AllBare s.gens):AllBare (s₁.setGen g gs').gens:=by
 intro y hy;simp only[Shared.setGen,e,Array.setIfInBounds_setIfInBounds]at hy;rcases Array.mem_or_eq_of_mem_setIfInBounds hy with q|rfl
 ·exact h _ q
 ·exact hb
inductive Vv(P:Pk)(A:Around)(a L g:Nat)(items:List (Nat×List Nat))(W:List Addr)(i:Nat)(s:Shared)(gs:GenState):Prop
 |mk (X:List Addr) (it:Nat) (w:X++W=[it,it+1,a,L]) (x:∀b∈X,s.heap.get? b=none) (n1:a≠it) (n2:a≠it+1) (go:gs.Goes (model P.prog P.w) A.in1 (GR L it) (GY L it items) (items.length-i) (.send .none) (s.setGen g .running)):Vv P A a L g items W i s gs
theorem Vv.of{W:List Addr}{i:Nat}{s:Shared}{gs:GenState}(hG:P.G s.heap)(ha:∃o,s.heap.get? a=some o)(h:GS0 P A a L items W i s gs\/GS1 P A a L items W i s gs):Vv P A a L g items W i s gs:=by
 rcases h with⟨e,w,h⟩|⟨it,h0,h1,w,n1,n2,h4,h5,h6⟩
 ·obtain⟨o,ho⟩:=ha
  have old:∀b,s.heap.objs.size<=b->s.heap.get? b=none:=fun b h=>by
   induction e:s.heap.get? b with
   |none=>rfl
   |some o=>exact absurd (f5 e) (kM.mpr h)
  rw[w,e];exact⟨[s.heap.objs.size,s.heap.objs.size+1],s.heap.objs.size,rfl,fun b hb=>old b ((bp.mp hb).elim (fun e=>iM e.symm) fun h=>cN.mp h▸i8 _),jX (f5 ho),jX (nu (f5 ho)),h (s.setGen g .running) (fun ø e=>e) hG⟩
 ·rw[w]
  exact⟨[],it,rfl,fun b hb=>(nomatch hb),n1,n2,h6 (s.setGen g .running) fun b hb o e=>e⟩
theorem TU.frame{W hid ao:List Addr}{i:Nat}{s s':Shared}(st:TU P A a L g items W hid i s)(k:Ks W hid ao s s'):TU P A a L g items W ao i s':=by
 obtain⟨gs,⟨oa,nm,qn,hoa,ra⟩,yg,Sc,⟨oL,qL⟩,wa,wl,h⟩:=st;have hk:∀b∈W,∀o,s.heap.get? b=some o->s'.heap.get? b=some o:=fun b hb o e=>k.keep b o (.inr hb) e
 refine⟨gs,⟨oa,nm,qn,hk a wa _ hoa,ra⟩,k.gens.1 _ _ yg,Sc,⟨oL,hk L wl _ qL⟩,wa,wl,?_⟩;rcases h with⟨e,w,h⟩|⟨it,h0,h1,w,n1,n2,⟨o1,h4⟩,⟨o2,h5⟩,h6⟩
 ·exact .inl ⟨e,w,fun s₂ q=>h s₂ fun o e=>q o (hk L wl o e)⟩
 ·have m0:it∈W:=w▸ .head _
  have m1:it+1∈W:=w▸ .tail _ (.head _);exact .inr ⟨it,h0,h1,w,n1,n2,⟨o1,hk it m0 _ h4⟩,⟨o2,hk _ m1 _ h5⟩,fun s₂ q=>h6 s₂ fun b hb o e=>q b hb o (hk b (hb.elim (fun z=>z▸wl) fun hb=>hb.elim (fun z=>z▸m0) fun z=>z▸m1) o e)⟩
theorem KX{it b:Nat}{X W:List Addr}(w:X++W=[it,it+1,a,L]){s:Shared}(hX:∀b∈X,s.heap.get? b=none)(hb:b∉W){o}(e:s.heap.get? b=some o):b≠L/\b≠it/\b≠it+1:=by
 have h:b∉[it,it+1,a,L]:=w▸fun h=>(cr.mp h).elim (fun h=>nomatch(hX b h).symm.trans e) hb
 exact⟨fun z=>h (z▸ .tail _ (.tail _ (.tail _ (.head _)))),fun z=>h (z▸ .head _),fun z=>h (z▸ .tail _ (.head _))⟩
theorem KY{W hid:List Addr}{i m:Nat}{s s₁:Shared}{gs gs':GenState}{v:Value}{pc:Nat×List Nat}(Vw:items[i]?=some pc)(hm:items.length-i=m+1)(live:cx s.heap hid)(hg:s.heap.IsGen a g)(yg:s.gens[g]?=some gs)(Sc:a≠L)
  {X:List Addr} {it:Nat} (w:X++W=[it,it+1,a,L]) (hX:∀b∈X,s.heap.get? b=none) (n1:a≠it) (n2:a≠it+1) (hb:gs'.bare=true)
  (hv:GY L it items m (s.setGen g .running) v s₁ fun r' ie=>gs'.Goes (model P.prog P.w) A.in1 (GR L it) (GY L it items) m r' ie):KV P hid (mL pc) (TU P A a L g items) i a W (some g) s (s₁.setGen g gs') (some v):=by
 obtain⟨k,lv,⟨p,str,T,t1,t2,hit,ev,hT,hTn,hTL,hT0,hT1⟩,Sd⟩:=hv;obtain⟨oa,nm,qn,hoa,ra⟩:=hg;have hi:i<items.length:=(eX.mp Vw).1;have JH:items.length-(i+1)=m:=congrArg Nat.pred hm;rw[show items.length-(m+1)=i from hm▸Nat.sub_sub_self (eY hi),Vw]at hit;rw[Option.some.inj hit];have ka:=k.keep a _ Sc n1 n2 hoa;have l4:∀b∈X++W,∃o,s₁.heap.get? b=some o:=w▸fun b hb=>(bp.mp hb).elim (fun e=>lv b (.inr (.inl e))) fun hb=>(bp.mp hb).elim (fun e=>lv b (.inr (.inr e))) fun hb=>(bp.mp hb).elim (fun e=>e▸⟨oa,ka⟩) fun hb=>lv b (.inl (cN.mp hb))
 have hTX:T∉X++W:=w▸fun hb=>(bp.mp hb).elim hT0 fun hb=>(bp.mp hb).elim hT1 fun hb=>(bp.mp hb).elim (fun e=>nomatch(e▸hTn:s.heap.get? a=none).symm.trans hoa) fun hb=>hTL (cN.mp hb)
 obtain⟨q1,q2⟩:=B9 (gs':=gs') yg k.gens;refine⟨v,X,rfl,hX,fun b hb=>l4 b (bj _ hb),?_,?_,⟨oa,"generator",ka,ra.1,by decide⟩,⟨⟨fun b o hb e=>?_,q1,yh k.gens hb,k.os⟩,fun b hb=>l4 b (bw _ hb)⟩⟩
 ·rw[ev]
  exact Dn.Pr (fun hm=>(cr.mp hm).elim (fun h=>hTX (bj _ h)) fun h=>(live T h).elim fun o e=>nomatch(hTn:s.heap.get? T=none).symm.trans e) hT (.cons (Dn.ofInt (P:=P) _ _) (.cons (Dn.ofStr (P:=P) _ _) .nil))
 ·rw[w]
  exact⟨gs',⟨oa,nm,qn,ka,ra⟩,q2,Sc,lv L (.inl rfl),.tail _ (.tail _ (.head _)),.tail _ (.tail _ (.tail _ (.head _))),.inr ⟨it,nC _,hi,rfl,n1,n2,lv _ (.inr (.inl rfl)),lv _ (.inr (.inr rfl)),fun s₂ ha=>JH▸Sd s₂ ha⟩⟩
 ·have h:=KX w hX hb e
  exact k.keep b o h.1 h.2.1 h.2.2 e
theorem uB.gen(hh:A.handled=none)(wv:A.depth<recursionLimit):KW P A a (some g) (items.map mL) (TU P A a L g items)where
 frame:=fun W hid ao i s s' hW st k=>st.frame k
 item:=fun W hid i s x E hx hW hG live st=>by
  obtain⟨gs,hg,yg,Sc,hL,wa,wl,h⟩:=st;rw[bL]at hx;refine bV hx fun pc Vw ex=>?_
  obtain⟨m,JH⟩:=Nat.exists_eq_succ_of_ne_zero (Nat.sub_ne_zero_of_lt (eX.mp Vw).1);obtain⟨X,it,w,hX,n1,n2,go⟩:=Vv.of (g:=g) hG (hg.elim fun o q=>q.elim fun ø q=>q.elim fun ø q=>⟨o,q.1⟩) h;rw[JH]at go;exact B8 hh (P.nolim hG) wv hg yg go (fun v s₁ gs' hb hv=>ex▸KY Vw JH live hg yg Sc w hX n1 n2 hb hv) fun s₁ hp h' hk=>nomatch hp.1
 done:=fun W hid s E hW hG live st=>by
  obtain⟨gs,hg,yg,Sc,hL,wa,wl,h⟩:=st;obtain⟨X,it,w,hX,n1,n2,go⟩:=Vv.of (g:=g) hG (hg.elim fun o q=>q.elim fun ø q=>q.elim fun ø q=>⟨o,q.1⟩) h;rw[bi,Nat.sub_self]at go;refine B8 hh (P.nolim hG) wv hg yg go (fun v s₁ gs' hb hv=>?_) fun s₁ hp h' hk=>?_
  ·obtain⟨_,_,_,Sd⟩:=hv
   exact(Sd s₁ fun ø ø ø e=>e).elim
  ·obtain⟨_,k⟩:=hp
   obtain⟨q1,q2⟩:=B9 (gs':=.finished) yg k.gens;refine⟨rfl,fun b o hb e=>?_,q1,yh k.gens rfl,k.os⟩;have h:=KX w hX hb e;exact hk b o (k.keep b o h.1 h.2.1 h.2.2 e)
end
end
section
variable{P:Pk}{n:Nat}{K:Cx}{lo:Bool}
noncomputable def ro(h h':Heap)(W:List Addr):Heap:={h' with objs:=h'.objs.mapIdx fun i o=>if i∈W then(h.objs[i]?).getD o else o}
theorem N7(h h':Heap)(W:List Addr){a:Addr}(lW:cx h' W)(lW':cx h W):(ro h h' W).get? a=if a∈W then h.get? a else h'.get? a:=by
 have key:∀o,(ro h h' W).get? a=some o<->(if a∈W then h.get? a else h'.get? a)=some o:=by
  intro o;rw[u7];unfold ro;simp only[Array.getElem?_mapIdx,ph];by_cases hm:a∈W
  ·simp only[hm,eI]
   obtain⟨o1,q1⟩:=lW a hm;obtain⟨o2,q2⟩:=lW' a hm;have e1:=((u7 _ _ _).mp q1).1;have e2:=(u7 _ _ _).mp q2;rw[q2];constructor
   ·rintro⟨⟨x,hx,rfl⟩,h2⟩
    rw[e2.1];rfl
   ·intro q
    cases q;exact⟨⟨o1,e1,by rw[e2.1];rfl⟩,e2.2⟩
  ·simp only[hm,eW]
   rw[u7];constructor
   ·rintro⟨⟨x,hx,rfl⟩,h2⟩;exact⟨hx,h2⟩
   ·rintro⟨h1,h2⟩;exact⟨⟨o,h1,rfl⟩,h2⟩
 cases e:(if a∈W then h.get? a else h'.get? a)with
 |none=>
  cases e':(ro h h' W).get? a with
  |none=>rfl
  |some o=>have:=(key o).mp e';rw[e]at this;cases this
 |some o=>exact(key o).mpr e
theorem aB.Vx{env:Env}{out hid W X:List Addr}{gi:Option Nat}{m}{B s s':Shared}{ρ}(S:aB P K env out hid m B s ρ)(TM:∀a∈W,a∈out)(v:Mv W gi s s')(hW:∀a∈W,B.heap.get? a=none)(hg:∀g,gi=some g->B.gens.size<=g)
  (hX:∀a∈X,s.heap.get? a=none) (lX:cx s'.heap X):aB P K env (X++out) (X++hid) m B s' ρ:=by
 have lW:cx s.heap W:=fun a h=>S.live a (S.oh a (TM a h))
 let sm:Shared:={s with heap:=ro s.heap s'.heap W}
 have Se:∀a,sm.heap.get? a=if a∈W then s.heap.get? a else s'.heap.get? a:=fun a=>N7 _ _ W v.live lW
 have k1:Kp s sm:=⟨fun b o h=>by
  rw[Se];by_cases hm:b∈W
  ·rw[aw hm];exact h
  ·rw[az hm];exact v.keep b o hm h,.refl _,rfl⟩
 have lX':cx sm.heap X:=fun a h=>by
  rw[Se];have:a∉W:=fun q=>by obtain⟨o,e⟩:=lW a q;rw[hX a h]at e;cases e
  rw[az this];exact lX a h
 have S1:=S.outer k1 hX lX';have v1:Mv W gi sm s':=⟨⟨fun b o hb h=>by rw[Se,az hb]at h;exact h,v.gens,v.bare,v.os⟩,v.live⟩;exact S1.step (fun a h=>bw _ (TM a h)) v1 hW hg
inductive xF(P:Pk)(A:Around)(hid:List Addr)(xs:List V)(s s₂:Shared)(it:Value):Prop
 |mk (I:Addr) (W:List Addr) (gi:Option Nat) (St:List Addr->List Addr->Nat->Shared->Prop) (e:it= .ref I) (k:Kp s s₂) (h:KW P A I gi xs St) (f:∀a∈W,s.heap.get? a=none) (l:cx s₂.heap W) (g:∀g,gi=some g->s.gens.size<=g) (st:St W (W++hid) 0 s₂):xF P A hid xs s s₂ it
noncomputable def Vy(P:Pk)(n:Nat)(K:Cx)(e:Expr)(f:al->Option (List V)):Prop:=
 ∀(A:Around) (env:Env) (out hid:List Addr) (m:Str->Option Value) (B s:Shared) (ρ:al) (xs:List V) (E:Value->Shared->Prop),bW n A->aB P K env out hid m B s ρ->f ρ=some xs->
  wpAny (model P.prog P.w) A (eval e env) (fun v s₁=>∀E,wpAny (model P.prog P.w) A (pyIter v) (fun it s₂=>xF P A hid xs s s₂ it) E s₁) E s
theorem TH.less{h:Heap}{out out':List Addr}{fl:Fl}{f:Flow}(x:TH P h out fl f)(hs:∀a∈out',a∈out):TH P h out' fl f:=by
 cases fl with
 |ret v=>exact x.elim fun u q=>⟨u,q.1,q.2.less hs⟩
 |_=>exact x
inductive XQ(P:Pk)(K:Cx)(env:Env)(out hid:List Addr)(B s:Shared)(St:List Addr->List Addr->Nat->Shared->Prop)(i:Nat)(ρ:al)(s':Shared):Prop
 |mk (W ao:List Addr) (m':Str->Option Value) (S:aB P K env (W++out) ao m' B s' ρ) (K':Ks out hid ao s s') (wh:∀a∈W,a∈ao) (w:∀a∈W,s.heap.get? a=none) (st:St W ao i s'):XQ P K env out hid B s St i ρ s'
inductive N8(P:Pk)(K:Cx)(env:Env)(out hid:List Addr)(B s:Shared)(xs:List V)(asg:al->V->Option al)(bf:al->Option (al×Fl))(aY:al)(fl:Fl)(St:List Addr->List Addr->Nat->Shared->Prop)(k:Nat)(s':Shared):Prop
 |mk (i:Nat) (am:al) (e:k+i=xs.length) (F:XQ P K env out hid B s St i am s') (l:fg asg bf (xs.drop i) am=some (aY,fl)):N8 P K env out hid B s xs asg bf aY fl St k s'
section
variable{lc:Bool}{target:Expr}{body:List Stmt}{asg:al->V->Option al}{bf:al->Option (al×Fl)}{A:Around}{env:Env}{out hid:List Addr}{B s s':Shared}{xs:List V}{E:Value->Shared->Prop}{I:Addr}{gi:Option Nat}{St:List Addr->List Addr->Nat->Shared->Prop}{Q:Flow->Shared->Prop}
theorem KZ(rm:bW n A)(ha:ze P K lc target asg)(hb:qa P n K body bf)(hI:KW P A I gi xs St)(hg:∀g,gi=some g->s.gens.size<=g)(He:∀g,gi=some g->B.gens.size<=g)(hB:∀a,s.heap.get? a=none->B.heap.get? a=none){i:Nat}{x:V}{am fk iN:al}{fl:Fl}{J:Shared->Prop}
  (hx:xs[i]?=some x) (F:XQ P K env out hid B s St i am s') (h1:asg am x=some fk) (h2:bf fk=some (iN,fl)) (hJ:∀cV nR,XQ P K env out hid B s St (i+1) iN nR->TH P nR.heap out fl cV->FB Q J cV nR):
  wpAny (model P.prog P.w) A (pyNext (.ref I)) (FT P A E env Q target body J (.ref I)) (FE P A E env) s':=by
 obtain⟨W,ao,m',S',K',vr,hW,Jg⟩:=F;refine au (hI.item W ao i s' x _ hx vr S'.G S'.live Jg) (fun r cB eh=>?_) fun ø ø q=>q
 obtain⟨v,X,er,hX,lX,hv,K0,hq,mv⟩:=eh;rw[er];have Vz:=S'.Vx (fun a h=>bj _ h) mv (fun a h=>hB a (hW a h)) He hX lX;have kX:aB P K env ((X++W)++out) (X++ao) m' B cB am:=by rw[List.append_assoc];exact Vz
 have hXs:∀a∈X,s.heap.get? a=none:=fun a h=>by
  induction e:s.heap.get? a with
  |none=>rfl
  |some o=>
   by_cases q:a∈hid
   ·exact(S'.live a (K'.sub a q)).elim fun o' e'=>nomatch e'.symm.trans (hX a h)
   ·exact nomatch(K'.keep a o (.inl q) e).symm.trans (hX a h)
 have k1:=K'.mv mv.toMv0 hW hg;have Bx:Ks out hid (X++ao) s cB:=⟨k1.keep,fun a h=>(cr.mp h).elim (fun q=>.inr (hXs a q)) (k1.new a),fun a h=>bw _ (k1.sub a h),k1.gens,k1.os⟩;have Sf:∀a∈X++W,a∈X++ao:=fun a h=>(cr.mp h).elim (fun q=>bj _ q) fun q=>bw _ (vr a q)
 refine vp hq (au (ha A env _ _ m' B cB am fk x v _ rm.handled kX h1 hv) (fun ø gQ A3=>?_) fun ø ø q=>q);obtain⟨n6,Hj,jP,mS,_⟩:=A3;refine au (hb A env _ n6 Hj B gQ fk iN fl _ rm jP h2) (fun f nR vu=>?_) fun ø ø q=>q
 obtain⟨l7,Ca,ww,sY,uA⟩:=vu;exact hJ f nR ⟨X++W,l7,Ca,ww,(Bx.behind mS).behind sY,fun a h=>sY.sub a (mS.sub a (Sf a h)),fun a h=>(cr.mp h).elim (hXs a) (hW a),
  hI.frame _ n6 l7 (i+1) gQ nR (fun a h=>mS.sub a (Sf a h)) (hI.frame _ _ n6 (i+1) cB gQ Sf K0 (mS.only fun a h=>bj _ h)) (sY.only fun a h=>bj _ h)⟩ (uA.less fun a h=>bw _ h)
theorem K2(rm:bW n A)(ha:ze P K lc target asg)(hb:qa P n K body bf)(hI:KW P A I gi xs St)(hg:∀g,gi=some g->s.gens.size<=g)(He:∀g,gi=some g->B.gens.size<=g)(hB:∀a,s.heap.get? a=none->B.heap.get? a=none)(hl:cx s.heap hid)(ho:∀a∈out,a∈hid){aY:al}{fl:Fl}
  (hQ:∀cV s',I7 P K env out hid B s s' aY fl cV->Q cV s') {k:Nat} (h:N8 P K env out hid B s xs asg bf aY fl St k s'):wpAny (model P.prog P.w) A (pyNext (.ref I)) (FT P A E env Q target body (fun t=>∃m,m<k/\N8 P K env out hid B s xs asg bf aY fl St m t) (.ref I)) (FE P A E env) s':=by
 obtain⟨i,am,e,F,jN⟩:=h;by_cases de:i<xs.length
 ·obtain⟨j,hj⟩:=yO de
  have hk:k=j+1:=by omega
  have Hi:j+(i+1)=xs.length:=by omega
  rw[pk de]at jN;refine ah jN fun fk h1 jN=>ah jN fun ab2 h2 jN=>?_
  obtain⟨iN,fl₃⟩:=ab2;refine KZ rm ha hb hI hg He hB (dX de) F h1 h2 fun cV nR Sg uA=>?_
  have inn:∀{VA:al} {fl':Fl} {cV:Flow},some (iN,fl')=some (VA,fl)->VA=aY->TH P nR.heap out fl' cV->Q cV nR:=fun e e' h=>hQ _ _ (by
   cases e;obtain⟨W,l7,Ca,ww,sY,wh,w,st⟩:=Sg;exact⟨l7,Ca,e'▸ww.inner fun a h=>hB a (w a h),sY,h⟩)
  cases fl₃ with
  |next=>exact(show cV= .next from uA)▸⟨j,hk▸m3 j,i+1,iN,Hi,Sg,jN⟩
  |cont=>exact(show cV= .cont from uA)▸⟨j,hk▸m3 j,i+1,iN,Hi,Sg,jN⟩
  |brk=>exact(show cV= .brk from uA)▸inn jN rfl rfl
  |ret v=>exact uA.elim fun u q=>q.1▸inn jN rfl ⟨u,rfl,q.2⟩
 ·have he:i=xs.length:=by omega
  rw[uZ (yL de)]at jN;obtain⟨W,ao,m',S',K',vr,hW,Jg⟩:=F;refine au (hI.done W ao s' _ vr S'.G S'.live (he▸Jg)) (fun r cB eh=>?_) fun ø ø q=>q
  obtain⟨er,mv⟩:=eh;rw[er];have hn:∀a∈W,a∉hid:=fun a h q=>(hl a q).elim fun o e=>nomatch e.symm.trans (hW a h)
  obtain⟨e1,e2⟩:=jT (Option.some.inj jN);exact hQ .next cB ⟨_,m',e1▸S'.last mv (fun a h=>hB a (hW a h)) He (fun a h q=>hn a q (ho a h)),(K'.mv mv hW hg).last hn,e2▸rfl⟩
end
theorem Eo{lc:Bool}{target iter:Expr}{body:List Stmt}{pos:Pos}{asg bf}{A:Around}{env:Env}{out hid:List Addr}{m:Str->Option Value}{B s:Shared}{ρ aY:al}{fl:Fl}{xs:List V}{E:Value->Shared->Prop}(rm:bW n A)(S:aB P K env out hid m B s ρ)
  (hi:wpAny (model P.prog P.w) A (eval iter env) (fun v s₁=>wpAny (model P.prog P.w) A (pyIter v) (fun it s₂=>xF P A hid xs s s₂ it) E s₁) E s)
  (ha:ze P K lc target asg) (hb:qa P n K body bf) (hs:∀x,foldedSetIterable iter env x=pure x) (hf:fg asg bf xs ρ=some (aY,fl)):
  wpAny (model P.prog P.w) A (exec (.For target iter body [] pos) env) (fun cV s'=>I7 P K env out hid B s s' aY fl cV) E s:=by
 refine A2 hs (au hi (fun v s₁ ag=>au ag (fun it s₂ aH=>?_) fun ø ø q=>q) fun ø ø q=>q);obtain⟨I,W,gi,St,e,kp,hI,hW,lW,hg,st⟩:=aH;rw[e];have qc:Ks out hid (W++hid) s s₂:=⟨fun b o ø h=>kp.keep b o h,fun a h=>(cr.mp h).elim (fun q=>.inr (hW a q)) .inl,fun a h=>bw _ h,kp.gens,kp.os⟩;exact⟨fun k s'=>N8 P K env out hid B s xs asg bf aY fl St k s',xs.length,⟨0,ρ,rfl,⟨W,W++hid,m,S.outer kp hW lW,qc,fun a h=>bj _ h,hW,st⟩,hf⟩,
  fun k s' h=>K2 rm ha hb hI hg (fun g e=>aA S.kp.gens.size (hg g e)) (fun a h=>S.fresh h) S.live S.oh (fun ø ø q=>q) h⟩
theorem qj{lc:Bool}{target iter:Expr}{body:List Stmt}{pos:Pos}{it asg bf}(hi:Vy P n K iter it)(ha:ze P K lc target asg)(hb:qa P n K body bf)(hs:∀env x,foldedSetIterable iter env x=pure x):
  ul P n K (.For target iter body [] pos) (Hb it asg bf):=fun A env out hid m B s ρ aY fl E rm S hf=>by
 refine ah hf fun xs xv gg=>?_
 clear hf;rename _=>hf
 exact Eo rm S (au (hi A env out hid m B s ρ xs E rm S xv) (fun v s₁ h=>h E) fun ø ø q=>q) ha hb (hs env) hf
theorem uB.toG{A:Around}{I:Addr}{W:List Addr}{gi:Option Nat}{xs:List V}{St:List Addr->Nat->Shared->Prop}(h:uB P A I W gi xs St):KW P A I gi xs (fun W' hid i s=>W'=W/\St hid i s)where
 frame:=fun W' hid ao i s s' hW st k=>by
  obtain⟨rfl,st⟩:=st;exact⟨rfl,h.frame hid ao i s s' hW st k⟩
 item:=fun W' hid i s x E hx hW hG live st=>by
  obtain⟨rfl,st⟩:=st;exact au (h.item hid i s x E hx hW hG live st) (fun r s' q=>by obtain⟨v,q1,q2,q3,q4,q5⟩:=q;exact⟨v,[],q1,fun a h=>(nomatch h),fun a h=>(nomatch h),q2,⟨rfl,q3⟩,q4,q5⟩) fun ø ø q=>q
 done:=fun W' hid s E hW hG live st=>by
  obtain⟨rfl,st⟩:=st;exact h.done hid s E hW hG live st
theorem TL.toG{A:Around}{hid:List Addr}{xs:List V}{s s₂:Shared}{it:Value}(q:TL P A hid xs s s₂ it):xF P A hid xs s s₂ it:=by
 obtain⟨I,W,gi,St,e,k,h,f,l,g,st⟩:=q;exact⟨I,W,gi,_,e,k,h.toG,f,l,g,rfl,st⟩
theorem fU{lc:Bool}{target iter:Expr}{body:List Stmt}{pos:Pos}{it asg bf}(hi:QO P n K iter it)(ha:ze P K lc target asg)(hb:qa P n K body bf)(hs:∀env x,foldedSetIterable iter env x=pure x):
  ul P n K (.For target iter body [] pos) (Hb it asg bf):=fun A env out hid m B s ρ aY fl E rm S hf=>by
 refine ah hf fun xs xv gg=>?_
 clear hf;rename _=>hf
 exact Eo rm S (au (hi A env out hid m B s ρ xs E rm S xv) (fun v s₁ h=>au h (fun ø ø q=>q.toG) fun ø ø q=>q) fun ø ø q=>q) ha hb (hs env) hf
theorem K3{A:Around}(hh:A.handled=none){s aW:Shared}(kp:Kp aW s){hid:List Addr}{l:List Nat}{t:Tok}{E:Value->Shared->Prop}:
  wpAny (model P.prog P.w) A (pyIter (.str (pyStr l) t)) (fun it s₂=>xF P A hid (l.map fun c=>V.str [c]) aW s₂ it) E s:=by
 have eG:aW.heap.get? s.heap.objs.size=none:=by
  cases e:aW.heap.get? s.heap.objs.size with
  |none=>rfl
  |some o=>have:=kp.keep _ _ e;rw[aP]at this;cases this
 have hsz:(pyStr l).cps.size=(l.map fun c=>V.str [c]).length:=by simp
 have rel:∀hid i x v (s:Shared),True->(l.map fun c=>V.str [c])[i]?=some x->SignAt (pyStr l) i v->Dn P s.heap hid x v:=fun hid i x v s ø hx hv=>by
  obtain⟨c,u,hc,rfl⟩:=hv;rw[bL]at hx;have Jc:l[i]?=some c:=by simpa using hc
  rw[Jc]at hx;cases hx;exact .ofStr [c] u
 cases ha:(pyStr l).cps.all (· <128)
 ·have W:=Walks.strWide (prog:=P.prog) (w:=P.w) hh s.heap.objs.size (pyStr l) t
  rw[hsz]at W;refine wpAny_pyIter_wide ha ⟨s.heap.objs.size,[s.heap.objs.size],none,_,rfl,kp.trans (Kp.push s _ _),uB.toG (uB.of W (fun ø ø=>True) (fun ø ø ø ø ø ø ø=>trivial) (fun ø ø ø ø ø ø ø=>trivial) rel (fun i h st=>?_)),fun b hb=>?_,fun b hb=>?_,fun g q=>(nomatch q),rfl,?_⟩
  ·obtain⟨o,ho,hc,_⟩:=st
   exact⟨o,"str_iterator",ho,hc,by decide⟩
  ·obtain rfl:b=s.heap.objs.size:=by simpa using hb
   exact eG
  ·obtain rfl:b=s.heap.objs.size:=by simpa using hb
   exact⟨_,bD _ rfl⟩
  ·refine⟨⟨_,bD _ rfl,rfl,rfl⟩,trivial,fun b hb D2=>absurd (by simpa using hb) D2,by simp⟩
 ·have W:=Walks.strAscii (prog:=P.prog) (w:=P.w) hh s.heap.objs.size (pyStr l) t
  rw[hsz]at W;refine wpAny_pyIter_ascii ha ⟨s.heap.objs.size,[s.heap.objs.size],none,_,rfl,kp.trans (Kp.push s _ _),uB.toG (uB.of W (fun ø ø=>True) (fun ø ø ø ø ø ø ø=>trivial) (fun ø ø ø ø ø ø ø=>trivial) rel (fun i h st=>?_)),fun b hb=>?_,fun b hb=>?_,fun g q=>(nomatch q),rfl,?_⟩
  ·obtain⟨o,ho,hc,_⟩:=st
   exact⟨o,"str_ascii_iterator",ho,hc,by decide⟩
  ·obtain rfl:b=s.heap.objs.size:=by simpa using hb
   exact eG
  ·obtain rfl:b=s.heap.objs.size:=by simpa using hb
   exact⟨_,bD _ rfl⟩
  ·refine⟨⟨_,bD _ rfl,rfl,rfl⟩,trivial,fun b hb D2=>absurd (by simpa using hb) D2,by simp⟩
end
section
variable{P:Pk}{n:Nat}{K:Cx}{lo:Bool}
section
variable{gp:Nat->Pos}
noncomputable abbrev j6(gp:Nat->Pos):List Stmt:=
 [.Assign [.Name "pos" (gp 0)] (.Constant (.int 0) 0 (gp 1)) (gp 2),.Assign [.Name "escape" (gp 3)] (.Constant (.bool false) 0 (gp 4)) (gp 5),
  .For (pA gp) (.Call (.Name "enumerate" (gp 6)) [.Name "addr" (gp 7)] [] (gp 8)) (tR gp) [] (gp 9),
  .If (.Name "escape" (gp 10)) [.Expr (.Yield (some (.Tuple [.Name "pos" (gp 11),.Constant (.str "\\") 0 (gp 12)] 0 (gp 13))) (gp 14)) (gp 15)] [] (gp 16)]
structure PW(fd:FuncData):Prop where
 gl:fd.globals=mainGlobals
 bl:fd.builtins=builtinsNs
 clo:fd.closure=[]
 bind:∀v,bindArgs fd ⟨[v],[]⟩=pure [((Str.ofString "addr"),v)]
 fn:fd.scope.kind= .function
 co:fd.scope.isCoroutine=false
 gen:fd.scope.isGenerator=true
 ka:fd.scope.names.lookup (Str.ofString "addr")=some .local
 kp:fd.scope.names.lookup (Str.ofString "pos")=some .local
 ke:fd.scope.names.lookup (Str.ofString "escape")=some .local
 kc:fd.scope.names.lookup (Str.ofString "ch")=some .local
 kn:fd.scope.names.lookup (Str.ofString "enumerate")=some .globalImplicit
 cell:∀x∈fd.scope.names,x.2≠ .cell
theorem zZ{A:Around}(hh:A.handled=none)(c c':Code)(k:Result->Sem Fin)(g:Bool)(l:List Value)(p:Pos):(A.in1.over c [.ret k none g l c' p []]).handled=none:=by
 show(marksOver [.ret k none g l c' p []] (A.handled,A.handled)).1=none;rw[hh];rfl
theorem N9{A:Around}(hh:A.handled=none){env:Env}(g:sX env)(ka:env.kindOf "addr"=some .local)(kn:env.kindOf "enumerate"=some .globalImplicit){x:List Nat}{tx t:Tok}{aW s:Shared}{it:Addr}(hit:s.heap.objs.size=it)(hL:env.locals<it){K:Flow->Sem Fin}{H:Value->Sem Fin}(hK:K .next= .pure (.done (.ret .none)))
  (glob:∀{A':Around} {E':Value->Shared->Prop} {Q:Value->Shared->Prop} {tk:Nat},Q (.type "enumerate") {s with toks:=tk}->wpAny (model P.prog P.w) A' (loadGlobal env "enumerate") Q E' {s with toks:=tk})
  {m:Str->Option Value} (hm:s.heap.Ns env.locals m) (ha:m "addr"=some (.str (pyStr x) tx)) (he:m "escape"=some (.bool false)) (hp:m "pos"=some (.int 0 t)) (k₁:GK env.locals it aW s):
  Seg (model P.prog P.w) A.in1 (GR env.locals it) (GY env.locals it (hO 0 false x)) (hO 0 false x).length aW (.func (j6 gp) env) ((execs [.For (pA gp) (.Call (.Name "enumerate" (gp 6)) [.Name "addr" (gp 7)] [] (gp 8)) (tR gp) [] (gp 9),
   .If (.Name "escape" (gp 10)) [.Expr (.Yield (some (.Tuple [.Name "pos" (gp 11),.Constant (.str "\\") 0 (gp 12)] 0 (gp 13))) (gp 14)) (gp 15)] [] (gp 16)] env).wrap K H id id) [] s:=by
 subst hit;refine jZ (N3 (fun x=>rfl) fun E=>kK (Name_function_global g.fn kn (glob ?_) rfl));refine DA (jV (eV (kJ g.fn ka hm ha (jU ?_)) rfl));refine call_enumerate_str fun eh PX Ep af4 PY E=>?_
 have W:=WalksT.enumerateD (ye (prog:=P.prog) (w:=P.w) (A:=A.in1.over (.func (j6 gp) env) []) (it:=s.heap.objs.size) (x:=x) (tx:=tx) hh) (s.heap.objs.size+1) (pQ _) (fun h=>pQ _ (cN.mp h)) (.head _);refine W.self 0 _ _ _ ⟨⟨.none,PX⟩,Ep⟩ fun k l p hk=>?_
 refine KU (x:=x) (tx:=tx) g (jX hL) (jX (nu hL)) rfl rfl (zZ hh _ _ _ _ _ _) (fun b aW s' n' hI k' lf=>seg_leaf (.ok .next) ?_) x.length 0 false aW _ _ (gq _) ⟨rfl,by rw[Nat.sub_self];rfl,cF _⟩
  ⟨⟨⟨m,t,hm.at fun o q=>PY _ o q,he,hp⟩,⟨.none,PX⟩,Ep.elim fun o q=>⟨o,q.1⟩⟩,Ep⟩ ⟨fun b o e1 e2 e3 e=>PY b o (k₁.keep b o e1 e2 e3 e),k₁.gens,k₁.os⟩
 rw[hk];exact KP g (x:=x) (fs:=[]) rfl (by exact hh) hK hI k' lf
theorem Hw{A:Around}(hh:A.handled=none){env:Env}(g:sX env)(ka:env.kindOf "addr"=some .local)(kn:env.kindOf "enumerate"=some .globalImplicit)(gl:env.globals=mainGlobals)(bl:env.builtins=builtinsNs){x:List Nat}{tx:Tok}{s:Shared}
  (hLg:env.locals≠mainGlobals) (hLb:env.locals≠builtinsNs) (hG:P.G s.heap) (wx:P.glob "enumerate"=some (.type "enumerate")) {m:Str->Option Value} (hm:s.heap.Ns env.locals m) (hma:m "addr"=some (.str (pyStr x) tx)):
  Seg (model P.prog P.w) A.in1 (GR env.locals s.heap.objs.size) (GY env.locals s.heap.objs.size (hO 0 false x)) (hO 0 false x).length s (.func (j6 gp) env)
   ((model P.prog P.w).den (.func (j6 gp) env)) [] s:=by
 refine seg_func ?_;refine jZ (zW fun E=>qI (wpAny_Constant_int (rN g.kp hm (fun ag yi j1=>?_) g.hp)) rfl);refine jZ (zW fun E=>qI (uR (rN g.ke yi (fun aH VB FO=>?_) g.hp)) rfl);have hsz:aH.objs.size=s.heap.objs.size:=FO.1.trans j1.1;have En:∀b o,b≠env.locals->s.heap.get? b=some o->aH.get? b=some o:=fun b o q e=>(FO.2 b q).trans ((j1.2 b q).trans e)
 obtain⟨mg,mb,z1,z2,z3⟩:=P.aM hG;have z1':aH.Ns env.globals mg:=gl▸z1.at fun o q=>En _ o (dW hLg) q
 have z2':aH.Ns env.builtins mb:=bl▸z2.at fun o q=>En _ o (dW hLb) q
 exact N9 hh g ka kn hsz (hm.elim fun oL q=>q.elim fun es q=>q.elim fun ep q=>f5 q.1) rfl (fun h=>(z3 _ _ wx).elim (fun q=>loadGlobal_global z1' q h) fun q=>loadGlobal_builtin z1' q.1 z2' q.2 h) VB
  ((az (by decide+kernel)).trans ((az (by decide+kernel)).trans hma)) (aw rfl) ((az (by decide+kernel)).trans (aw rfl)) ⟨fun b o e1 ø ø e=>En b o e1 e,rfl,rfl⟩
theorem K4(wx:P.glob "enumerate"=some (.type "enumerate")){A:Around}{s s₁:Shared}{hid:List Addr}{x:List Nat}{tx:Tok}{E:Value->Shared->Prop}{env:Env}{ag:Heap}(hh:A.handled=none)(Hx:A.depth<recursionLimit)(hG:P.G s.heap)
  (g:sX env) (ka:env.kindOf "addr"=some .local) (kn:env.kindOf "enumerate"=some .globalImplicit) (gl:env.globals=mainGlobals) (bl:env.builtins=builtinsNs) (eL:env.locals=s.heap.objs.size)
  (yi:ag.Ns env.locals (fun y=>([((Str.ofString "addr"),Value.str (pyStr x) tx)]:List (Str×Value)).reverse.lookup y)) (hsz:ag.objs.size=s.heap.objs.size+1) (TV:∀b o,s.heap.get? b=some o->ag.get? b=some o) (En:∀b o,ag.get? b=some o->s₁.heap.get? b=some o)
  (lg:∃o,s₁.heap.get? ag.objs.size=some o) (ut:s₁.heap.IsGen ag.objs.size s.gens.size) (yg:s₁.gens=s.gens.push (GenState.fresh (Code.func (j6 gp) env))) (xY:s₁.os=s.os):
  wpAny (model P.prog P.w) A (pyIter (.ref ag.objs.size)) (fun it s₂=>xF P A hid ((hO 0 false x).map mL) s s₂ it) E s₁:=by
 obtain⟨oL,es,ep,qL,_⟩:=id yi;obtain⟨mg,mb,z1,z2,_⟩:=P.aM hG;have bN:ag.objs.size≠env.locals:=by rw[eL,hsz];exact pQ _
 have old:∀b,s.heap.objs.size<=b->s.heap.get? b=none:=fun b h=>by
  induction e:s.heap.get? b with
  |none=>rfl
  |some o=>exact absurd (f5 e) (kM.mpr h)
 refine wpAny_pyIter_gen ut ⟨ag.objs.size,[ag.objs.size,env.locals],some s.gens.size,_,rfl,⟨fun b o e=>En b o (TV b o e),⟨fun i y e=>?_,fun hb=>yg▸AllBare.push hb rfl⟩,xY⟩,uB.gen (L:=env.locals) hh Hx,fun b hb=>old b ?_,fun b hb=>(bp.mp hb).elim (fun e=>e▸lg) fun h=>cN.mp h▸⟨oL,En _ _ qL⟩,fun g' e=>iM (Option.some.inj e),?_⟩
 ·rw[yg,Array.getElem?_push,az (jX (yK.mp e).1)];exact e
 ·exact(bp.mp hb).elim (fun e=>e▸hsz▸i8 _) fun h=>iM (eL.symm.trans (cN.mp h).symm)
 ·refine⟨.fresh (.func (j6 gp) env),ut,by rw[yg];exact Array.getElem?_push_size ..,bN,⟨oL,En _ _ qL⟩,.head _,.tail _ (.head _),.inl ⟨rfl,rfl,fun s₂ hL2 hG2=>⟨rfl,?_⟩⟩⟩
  exact Hw hh g ka kn gl bl (fun e=>pN _ (eL▸e▸z1.lt)) (fun e=>pN _ (eL▸e▸z2.lt)) hG2 wx (yi.at fun o e=>hL2 o (En _ _ e)) rfl
theorem K5{a:Addr}{fd:FuncData}(Df:∀h,P.G h->(∃o,h.get? a=some o/\o.data= .func fd)/\h.CodeRec fd.code fd.qualname)(gf:PW fd)
  (n7:fd.body= .stmts (j6 gp)) (wx:P.glob "enumerate"=some (.type "enumerate"))
  {A:Around} {s:Shared} {hid:List Addr} {x:List Nat} {tx:Tok} {E:Value->Shared->Prop} (rm:bW n A) (hG:P.G s.heap):
  wpAny (model P.prog P.w) A (call (.ref a) [.str (pyStr x) tx]) (fun v s₁=>∀E,wpAny (model P.prog P.w) A (pyIter v) (fun it s₂=>xF P A hid ((hO 0 false x).map mL) s s₂ it) E s₁) E s:=by
 obtain⟨⟨o,ho,Qz⟩,hcr⟩:=Df _ hG;have Hx:A.depth<recursionLimit:=gS (aA (nA _ _) rm.depth) (by decide);refine wpAny_call (codeAny_call_generator Hx ho Qz gf.co gf.gen n7 hcr ?_);rw[gf.bind,gf.clo];refine bd (wpAny_newFunctionEnv gf.cell (fun y hy=>cN.mp hy▸gf.ka) (fun ag yi j1=>?_) gf.fn);have TV:∀b o,s.heap.get? b=some o->ag.get? b=some o:=fun b o e=>j1.extBut b o (jX (f5 e)) (bK _ e)
 exact⟨(P.nolim hG).keeps TV,fun E=>K4 (env:=newEnv fd.scope s.heap.objs.size fd.globals [] (fd.qualname++".<locals>.") (some a) fd.code none fd.builtins) wx rm.handled Hx hG ⟨gf.fn,gf.co,gf.kp,gf.ke,gf.kc⟩ gf.ka gf.kn gf.gl gf.bl rfl yi
  (j1.1.trans (qK ..)) TV (fun b o e=>bK _ e) ⟨_,bD _ rfl⟩ ⟨_,_,_,bD _ rfl,rfl,rfl,rfl⟩ rfl rfl⟩
noncomputable def Sh(xs:List V):Option (List V):=(V.one? xs).bind fun x=>x.jO.bind fun l=>if l.length<=most then some ((hO 0 false l).map mL)else none
theorem Si(l:List Nat):Sh [.str l]=if l.length<=most then some ((hO 0 false l).map mL)else none:=id rfl
noncomputable def Cb(P:Pk)(a:Addr):Prop:=∃fd:FuncData,(∀h,P.G h->(∃o,h.get? a=some o/\o.data= .func fd)/\h.CodeRec fd.code fd.qualname)/\PW fd/\P.glob "enumerate"=some (.type "enumerate")/\
 ∃gp,fd.body= .stmts (j6 gp)
theorem xF.pre{A:Around}{hid:List Addr}{xs:List V}{s s₁ s₂:Shared}{it:Value}(h:xF P A hid xs s₁ s₂ it)(k:Kp s s₁):xF P A hid xs s s₂ it:=by
 obtain⟨I,W,gi,St,z1,z2,z3,z4,z5,z6,z7⟩:=h;refine⟨I,W,gi,St,z1,k.trans z2,z3,fun b hb=>?_,z5,fun g e=>aA k.gens.size (z6 g e),z7⟩
 induction e:s.heap.get? b with
 |none=>rfl
 |some o=>exact nomatch(k.keep _ _ e).symm.trans (z4 b hb)
theorem n8{id:Str}{p pos:Pos}{es:List Expr}{f}{a:Addr}(hx:K.aM.contains id=true)(hv:P.glob id=some (.ref a))(hd:(id==("__debug__":Str))=false)(hg:Cb P a)
  (hs:lH P n K true es f) (eF:∀env,starEach es env=es.map fun e=>(false,eval e env)) (bN:es≠[]):Vy P n K (.Call (.Name id p) es [] pos) (fun ρ=>(f ρ).bind Sh):=fun A env out hid m B s ρ xs E rm S hf=>by
 obtain⟨fd,Df,gf,wx,gp,n7⟩:=hg;refine ah hf fun y hy hq=>ah hq fun y1 hy1 hq=>ah hq fun x IU hq=>eN hq fun VC e=>?_
 rw[V.gG hy1,V.kS IU]at hy;obtain⟨⟨o,ho,Qz⟩,_⟩:=Df _ S.G;refine kK (bH S hx hv hd (callWith_function (o:=o) (fd:=fd) ?_));have key:=hs A env out hid m B s ρ _ E pos rm S hy
 induction es with
 |nil=>exact absurd rfl bN
 |cons iH es' _=>
 have hb:backTo pos (starEach (iH::es') env)=(false,eval iH env)::(backTo pos (starEach (iH::es') env)).tail:=by rw[eF];rfl
 rw[hb]at key ⊢;refine uV (au key (fun vs s₁ ag=>⟨⟨ag.1.keep _ _ ho,Qz⟩,?_⟩) fun ø ø q=>q);obtain⟨k₁,Cc⟩:=ag;obtain⟨v,ev,hv⟩:=FI Cc;obtain⟨t,et⟩:=hv.str_inv;rw[ev,et];exact au (K5 (hid:=hid) Df gf n7 wx rm (S.after k₁).G) (fun v s₂ aH E=>au (aH E) (fun it cB eh=>e▸eh.pre k₁) fun ø ø q=>q) fun ø ø q=>q
end
end
section
variable{P:Pk}{n:Nat}{K:Cx}{lo:Bool}
noncomputable def oK(env:Env)(hid:List Addr):List Addr:=env.locals::((env.cells.filter fun y=>env.cells.lookup y.1==some y.2).map (·.2)++hid)
theorem K6{env:Env}{hid:List Addr}{y:Str}{d:Addr}(h:env.cells.lookup y=some d):d∈oK env hid:=
 .tail _ (bj _ (bP.mpr ⟨(y,d),kL.mpr ⟨lookup_mem h,jW.mpr h⟩,rfl⟩))
theorem yj{env:Env}{hid:List Addr}{C:Addr->Prop}(h0:C env.locals)(h1:∀y d,env.cells.lookup y=some d->C d)(h2:∀c∈hid,C c):∀c∈oK env hid,C c:=fun c hc=>
 (bp.mp hc).elim (fun e=>e▸h0) fun hc=>(cr.mp hc).elim (fun q=>by
  obtain⟨y,hy,e⟩:=bP.mp q;exact e▸h1 y.1 y.2 (eq_of_beq (kL.mp hy).2)) (h2 c)
theorem K7{fd:FuncData}{ps:List Str}(ok:vx K fd.scope ps)(Bi:ps.Nodup){env:Env}{s s₁:Shared}{hid:List Addr}{xs:List V}{vs:List Value}(hG:P.G s.heap)(live:cx s.heap hid)(hd:aU P s.heap hid xs vs)(hlen:xs.length=ps.length)
  (fn:env.scope.kind= .function) (gl:env.globals=mainGlobals) (bl:env.builtins=builtinsNs) (eL:env.locals=s.heap.objs.size) (ek:∀y,env.kindOf y=fd.scope.names.lookup y) (ecl:env.cells=cellsFrom (s.heap.objs.size+1) fd.scope.names [])
  (ic:InCallC s env.locals (bindL env.kindOf (ps.zip vs) fun ø=>none) env.cells (bindC env.kindOf (ps.zip vs) fun ø=>none) s₁):
  aB P K env hid (oK env hid) (bindL env.kindOf (ps.zip vs) fun ø=>none) s s₁ (oX xs)/\∀c∈oK env hid,c∈hid\/s.heap.get? c=none:=by
 have kp:Kp s s₁:=by
  obtain⟨h',tk,e⟩:=ic.toInCall.same;have hk:=ic.toInCall.keep;rw[e]at hk ⊢;exact .heap hk
 have s0:∀c,s.heap.objs.size<=c->s.heap.get? c=none:=fun c hc=>by
  induction e:s.heap.get? c with
  |none=>rfl
  |some o=>exact absurd (f5 e) (kM.mpr hc)
 have hcn:∀y c,env.cells.lookup y=some c->s.heap.get? c=none:=fun y c q=>s0 c (eL▸eY (ic.above y c (lookup_mem q)))
 have Fx:∀y c,env.cells.lookup y=some c->c∉hid:=fun y c q z=>(live _ z).elim fun o e=>nomatch e.symm.trans (hcn y c q)
 have hL0:s.heap.get? env.locals=none:=by rw[eL];exact aP _
 have eG:∀c∈oK env hid,c∈hid\/s.heap.get? c=none:=yj (.inr hL0) (fun y d q=>.inr (hcn y d q)) fun c h=>.inl h
 have tI:∀y,fd.scope.names.lookup y=some .cell->∃d,env.cells.lookup y=some d:=fun y hl=>by
  obtain⟨c,hc⟩:=ig (k:=s.heap.objs.size+1) (acc:=[]) (.inl (nQ hl));rw[<-ecl]at hc;exact mem_lookup hc
 have oU:∀y k ov,fd.scope.names.lookup y=some k->(k= .local\/k= .cell)->(k= .local->bindL env.kindOf (ps.zip vs) (fun ø=>none) y=ov)->(k= .cell->bindC env.kindOf (ps.zip vs) (fun ø=>none) y=ov)->At env (bindL env.kindOf (ps.zip vs) fun ø=>none) s₁.heap hid (oK env hid) y k ov:=fun y k ov hl hk h1 h2=>by
  rcases hk with e|e
  ·rw[e];exact h1 e
  ·obtain⟨d,i1⟩:=tI y (e▸hl)
   rw[e,<-h2 e];exact⟨d,i1,K6 i1,Fx _ _ i1,ic.cell _ _ i1⟩
 refine⟨⟨fn,gl,bl,fun j y k b hj=>(ek y).trans (ok.vars j y k b hj).1,fun y hy=>(ek y).trans (ok.glob y hy),ok.nodup,fun y z c q1 q2=>?_,?_,fun c hc=>.tail _ (bw _ hc),.head _,
  fun hc=>(live _ hc).elim fun o q=>(nomatch q.symm.trans hL0),ic.toInCall.ns,fun j y k b hj=>?_,fun i j y z k k' c TD hi hj ø ø=>.inl ?_,hG,kp,fun c hc ho=>(eG c hc).elim (fun q=>absurd q ho) id⟩,eG⟩
 ·obtain⟨i,hi,e1⟩:=Dt (lookup_mem q1)
  obtain⟨j,hj,e2⟩:=Dt (lookup_mem q2);have pw:=fun i j hi hj de=>DB.mp ic.apart i j hi hj de
  rcases Nat.lt_trichotomy i j with de|heq|hgt
  ·exact absurd (by rw[e1,e2]) (pw i j hi hj de)
  ·exact congrArg Prod.fst (e1.symm.trans ((getElem_congr_idx heq).trans e2))
  ·exact absurd (by rw[e1,e2]) (pw j i hj hi hgt)
 ·exact yj (ic.toInCall.ns.elim fun o q=>q.elim fun ø q=>q.elim fun ø q=>⟨o,q.1⟩) (fun y d q=>(ic.cell y d q).elim fun o q=>⟨o,q.1⟩) (live.kp kp)
 ·obtain⟨hl,hk⟩:=ok.vars j y k b hj
  by_cases XR:j<ps.length
  ·obtain⟨k',hv⟩:=ok.pars j ps[j] (dX XR)
   obtain⟨ey,q⟩:=jT (Option.some.inj (hj.symm.trans hv));have eb:=(jT q).2;have hjx:j<xs.length:=hlen▸XR;obtain⟨v,hv,QM⟩:=aV.get (i:=j) (x:=xs[j]) hd (dX hjx);have hp:ps[j]?=some y:=ey▸dX XR;refine⟨some v,oU y k _ hl hk (fun e=>Bf Bi hp hv ((ek _).trans (e▸hl))) (fun e=>Bg Bi hp hv (by rw[ek,hl,e];nofun)),?_⟩;rw[show oX xs j=some xs[j]from dX hjx,eb];exact⟨v,rfl,Dn.grow (P:=P) QM (fun c o ø q=>kp.keep c o q) eG⟩
  ·have e:oX xs j=none:=iL (hlen▸kM.mp XR)
   rcases hk with q|q
   ·exact⟨_,oU y k _ hl (.inl q) (fun ø=>rfl) (fun z=>nomatch q.symm.trans z),by rw[e];trivial⟩
   ·exact⟨_,oU y k _ hl (.inr q) (fun z=>nomatch q.symm.trans z) (fun ø=>rfl),by rw[e];trivial⟩
 ·by_cases XS:i<ps.length
  ·obtain⟨k',hv⟩:=ok.pars i ps[i] (dX XS)
   exact nomatch(jT (jT (Option.some.inj (hi.symm.trans hv))).2).2
  ·exact iL (hlen▸kM.mp XS)
theorem wy{a:Addr}{fd:FuncData}{body:List Stmt}{ps:List Str}(Df:∀h,P.G h->(∃o,h.get? a=some o/\o.data= .func fd)/\h.CodeRec fd.code fd.qualname)(n7:fd.body= .stmts body)
  (AL:fd.globals=mainGlobals) (Sj:fd.builtins=builtinsNs) (Er:fd.closure=[]) (wz:∀vs:List Value,vs.length=ps.length->bindArgs fd ⟨vs,[]⟩=pure (ps.zip vs)) (ok:vx K fd.scope ps) (Bi:ps.Nodup)
  (Oa:fd.scope.isCoroutine=false) (ut:fd.scope.isGenerator=false) {A:Around} {s:Shared} {hid:List Addr} {xs:List V} {vs:List Value} {Q:Value->Shared->Prop} {E:Value->Shared->Prop} (rm:bW (n+1) A) (hG:P.G s.heap) (live:cx s.heap hid) (hd:aU P s.heap hid xs vs) (hlen:xs.length=ps.length)
  (h:∀env s₁ ao m E',aB P K env hid ao m s s₁ (oX xs)->(∀c∈ao,c∈hid\/s.heap.get? c=none)->bW n (A.deeper env)->wpAny (model P.prog P.w) (A.deeper env) (execs body env) (fun f s'=>Q (match f with| .ret v=>v|_=>.none) s') E' s₁):
  wpAny (model P.prog P.w) A (call (.ref a) vs) Q E s:=by
 obtain⟨⟨o,ho,Qz⟩,hcr⟩:=Df _ hG;have zh:vs.length=ps.length:=hd.length.trans hlen;have Hx:A.depth<recursionLimit:=gS (aA (nA _ _) rm.depth) (by decide);have ln:∀y∈ps.zip vs,∃j v,ps[j]?=some y.1/\vs[j]?=some v:=fun y hy=>by
  obtain⟨j,hj⟩:=DC.mp hy;rw[List.getElem?_zip_eq_some]at hj;exact⟨j,y.2,hj.1,hj.2⟩
 have hbk:∀y∈ps.zip vs,fd.scope.names.lookup y.1=some .local\/(fd.scope.names.lookup y.1=some .cell/\((cellsFrom (s.heap.objs.size+1) fd.scope.names []).lookup y.1).isSome=true):=fun y hy=>by
  obtain⟨j,v,hj,_⟩:=ln y hy;obtain⟨k,hv⟩:=ok.pars j y.1 hj;obtain⟨hl,hk⟩:=ok.vars j _ _ _ hv;rcases hk with rfl|rfl
  ·exact .inl hl
  ·refine .inr ⟨hl,?_⟩
   obtain⟨c,hc⟩:=ig (k:=s.heap.objs.size+1) (acc:=[]) (.inl (nQ hl));obtain⟨d,hd⟩:=mem_lookup hc;rw[hd];rfl
 refine wpAny_call (codeAny_call_cells Hx ho Qz (P.nolim hG) hcr n7 (wz vs zh) Er hbk (fun s₁ ic=>?_) Oa ut ok.kind);have S:=K7 (env:=callEnvC fd s.heap.objs.size a) ok Bi hG live hd hlen ok.kind AL Sj rfl (fun ø=>rfl) rfl ic;exact h _ s₁ _ _ _ S.1 S.2 (rm.deeper _)
theorem aZ.fn{a:Addr}{fd:FuncData}{body:List Stmt}{ps:List Str}{f:al->Option (al×Fl)}(Df:∀h,P.G h->(∃o,h.get? a=some o/\o.data= .func fd)/\h.CodeRec fd.code fd.qualname)(n7:fd.body= .stmts body)
  (AL:fd.globals=mainGlobals) (Sj:fd.builtins=builtinsNs) (Er:fd.closure=[]) (wz:∀vs:List Value,vs.length=ps.length->bindArgs fd ⟨vs,[]⟩=pure (ps.zip vs)) (ok:vx K fd.scope ps) (Bi:ps.Nodup)
  (Oa:fd.scope.isCoroutine=false) (ut:fd.scope.isGenerator=false) (h:qa P n K body f):aZ P (n+1) (.ref a) (fun xs=>if xs.length=ps.length then(f (oX xs)).bind Un else none):=fun A s hid xs x vs E rm hG live hd hf=>zj hf fun hlen hf=>by
 refine ah hf ?_;rintro⟨aY,fl⟩ h1 h2;refine wy Df n7 AL Sj Er wz ok Bi Oa ut rm hG live hd hlen fun env s₁ ao m E' S ø VD=>?_
 refine au (h (A.deeper env) env hid ao m s s₁ (oX xs) aY fl _ VD S h1) (fun cV s' q=>?_) fun ø ø q=>q
 obtain⟨gj,m₂,cC,_,uA⟩:=q;cases fl
 case next=>
  obtain rfl:=uA;exact some_inv h2 ⟨cC.kp,.sa⟩
 case ret=>
  obtain⟨v,rfl,hv⟩:=uA;exact some_inv h2 ⟨cC.kp,hv⟩
 all_goals cases h2
end
section
variable{P:Pk}{n:Nat}{K:Cx}{lo:Bool}
noncomputable def bE:List Str:=[(Str.ofString "raw"),(Str.ofString "n"),(Str.ofString "nt"),(Str.ofString "norm"),(Str.ofString "is_simple")]
inductive iC(C:Addr)(h:Heap)(x dx:Addr)(ws:List Value):Prop
 |mk (o:Obj) (mA:Str->Option Value) (e:h.get? x=some o) (c:o.cls= .ref C) (d:∀c,o.data≠ .cls c) (dd:o.dict=some dx) (n:dx≠x) (ns:h.Ns1 dx mA) (v:∀(i:Nat) v nm,ws[i]?=some v->bE[i]?=some nm->mA nm=some v) (no:∀nm,nm∉bE.take ws.length->mA nm=none):iC C h x dx ws
theorem iC.at{C:Addr}{h h':Heap}{x dx ws}(I:iC C h x dx ws)(k1:∀o,h.get? x=some o->h'.get? x=some o)(k2:∀o,h.get? dx=some o->h'.get? dx=some o):iC C h' x dx ws:=by
 obtain⟨o,mA,h1,h2,h3,h4,h5,h6,h7,h8⟩:=I;exact⟨o,mA,k1 _ h1,h2,h3,h4,h5,h6.at k2,h7,h8⟩
theorem iC.inst{C:Addr}{h:Heap}{x dx ws}(I:iC C h x dx ws):∃mA,h.Inst x C mA/\(∀(i:Nat) v nm,ws[i]?=some v->bE[i]?=some nm->mA nm=some v)/\∀nm,nm∉bE.take ws.length->mA nm=none:=by
 obtain⟨o,mA,h1,h2,h3,h4,h5,h6,h7,h8⟩:=I;exact⟨mA,⟨o,h1,h2,h3,.inr ⟨dx,h4,h5,h6⟩⟩,h7,h8⟩
noncomputable def Es(C:Addr)(h:Heap)(a:Addr)(vs:List Value)(T:Addr->Prop):Prop:=(∃t,vs=[.int (a:Nat) t])\/(vs.length=5/\∃d,iC C h a d vs/\T a/\T d)
theorem Es.ok(C:Addr):I1 (Es C):=fun h h' T T' a vs hk hT e=>by
 rcases e with e|⟨hl,d,I,h1,h2⟩
 ·exact .inl e
 ·obtain⟨o,mA,q1,q2,q3,q4,q5,q6,q7,q8⟩:=id I
  obtain⟨od,es,ep,z,_⟩:=id q6;exact .inr ⟨hl,d,I.at (fun o e=>hk a o h1 e) (fun o e=>hk d o h2 e),hT a o h1 q1,hT d od h2 z⟩
structure cP(P:Pk)(C N:Addr)(mN:Str->Option Value):Prop where
 ob:P.OB=Es C
 cls:∀h,P.G h->ClsAt h C N mN
 ng:mN (Str.ofString "__getattribute__")=none
 nh:mN (Str.ofString "__getattr__")=none
 nsa:mN (Str.ofString "__setattr__")=none
 names:∀nm∈bE,mN nm=none
theorem cP.yk{P:Pk}{C N:Addr}{mN:Str->Option Value}(W:cP P C N mN){h:Heap}(G:P.G h){R:Prop}(k:∀nm q bs sn sub col dd k0 k1 k2 k3 k5,h.get? C=some (excClassObj nm q C N bs [.type "object"] true sn sub false col dd k0 k1 k2 k3 k5 "object.__new__")->h.Ns N mN->R):R:=by
 obtain⟨X,hN⟩:=W.cls _ G;obtain⟨nm,q,bs,sn,sub,col,dd,k0,k1,k2,k3,k5,hC⟩:=X;exact k nm q bs sn sub col dd k0 k1 k2 k3 k5 hC hN
theorem cP.ne{P:Pk}{C N:Addr}{mN:Str->Option Value}(W:cP P C N mN){h:Heap}(G:P.G h){x:Addr}(hx:h.get? x=none):x≠C:=
 W.yk G fun ø ø ø ø ø ø ø ø ø ø ø ø hC ø z=>by rw[<-z,hx]at hC;cases hC
theorem noAttr:∀nm∈bE,typeLookup (.type "object") nm=pure none:=by
 intro nm h;simp only[bE,bp,qN,nD]at h;rcases h with rfl|rfl|rfl|rfl|rfl<;>(rw[p0,p5];kernel_rfl)
theorem Hy{h:Heap}{hid}{x:V}{v:Value}(e:Dn P h hid x v):handedOut v=pure v:=by
 cases x
 ·rw[e.none_inv];rfl
 ·rw[e.bool_inv];rfl
 ·obtain⟨t,rfl⟩:=e;rfl
 ·obtain⟨t,rfl⟩:=e;rfl
 ·obtain⟨a,vs,rfl,_⟩:=e;rfl
 ·obtain⟨a,vs,rfl,_⟩:=e;rfl
 ·obtain⟨a,vs,rfl,_⟩:=e;rfl
 ·obtain⟨a,vs,rfl,_⟩:=e;rfl
theorem Dn.Ga{C N mN}(W:cP P C N mN){h:Heap}{hid}{l:List V}{v:Value}(e:Dn P h hid (.obj l) v)(hl:l.length=5):∃a d vs,v= .ref a/\iC C h a d vs/\a∉hid/\d∉hid/\vs.length=5/\aU P h hid l vs:=by
 obtain⟨a,vs,rfl,h1,h2⟩:=e;rw[W.ob]at h1;have hv:=h2.length;rcases h1 with⟨t,rfl⟩|⟨h3,d,I,q1,q2⟩
 ·rw[hl]at hv;cases hv
 ·exact⟨a,d,vs,rfl,I,q1,q2,h3,h2⟩
theorem Dn.uG{C N mN}(W:cP P C N mN){h:Heap}{hid}{x:Addr}{v:Value}(e:Dn P h hid (.obj [.int (x:Nat)]) v):v= .ref x:=by
 obtain⟨a,vs,rfl,h1,h2⟩:=e;rw[W.ob]at h1;have hv:=h2.length;obtain⟨u,rfl,hu⟩:=FI (P:=P) (hid:=hid) h2;obtain⟨t,rfl⟩:=hu.int_inv;rcases h1 with⟨t',e⟩|⟨h3,_⟩
 ·have:(x:Int)=(a:Nat):=by
   simp only[List.cons.injEq,Value.int.injEq]at e;exact e.1.1
  have:x=a:=by exact_mod_cast this
  rw[this]
 ·cases h3
theorem Dn.Gb{C N mN}(W:cP P C N mN){h:Heap}{hid}(x:Addr):Dn P h hid (.obj [.int (x:Nat)]) (.ref x):=by
 exact⟨x,[.int (x:Nat) 0],rfl,by rw[W.ob];exact .inl ⟨0,rfl⟩,.one (Dn.ofInt (P:=P) (h:=h) (hid:=hid) _ _)⟩
noncomputable def VE(i:Nat)(x:V):Option V:=x.QB.bind fun l=>if l.length=5 then l[i]? else none
theorem jB{C N mN}(W:cP P C N mN)(i:Nat){o:Expr}{nm:Str}{pos:Pos}{f}(hi:bE[i]?=some nm)(ho:eM P n K lo o f)
  (he:∀env,attributeBase o nm env (eval o env)=eval o env):eM P n K lo (.Attribute o nm pos) (fun ρ=>(f ρ).bind (VE i)):=fun A env out hid m B s ρ z E r S hf=>by
 refine ah hf fun y hy gg=>?_
 clear hf;rename _=>hf
 refine Attribute_any_ (au (ho A env out hid m B s ρ y E r S hy) (fun v s₁ q=>?_) fun ø ø q=>q) (by rw[DD,he]);have bc:=S.after q.1;refine ah hf fun l Nz hz=>?_
 cases V.AW Nz;by_cases hl:l.length=5
 case neg=>rw[az hl]at hz;cases hz
 rw[aw hl]at hz;obtain⟨a,d,vs,rfl,I,h1,h2,h3,h4⟩:=q.2.Ga W hl;obtain⟨u,hu,hzu⟩:=aV.get h4 hz;obtain⟨mA,I',h5,h6⟩:=I.inst;refine W.yk bc.G fun XU q' bs sn sub col dd k0 k1 k2 k3 k5 hC hN=>?_
 have ln:nm∈bE:=mE hi;exact load_attr hC hN W.ng (W.names _ ln) (noAttr _ ln) I' (h5 i u nm hu hi) (Hy (P:=P) hzu) ⟨q.1.trans (Kp.toks _ _),hzu⟩
noncomputable def z0(F:List V->Option V)(f:al->Option V)(g:al->Option (List V)):al->Option V:=fun ρ=>(f ρ).bind fun y=>y.QB.bind fun l=>if l.length=5 then(g ρ).bind fun xs=>F (.obj l::xs)else Option.none
theorem cX{C N mN}(W:cP P C N mN){o:Expr}{apos pos:Pos}{name:Str}{args:List Expr}{fa:Addr}{F f g}(ho:eM P n K lo o f)(hf:mN name=some (.ref fa))(hfo:∀h,P.G h->∃of fd,h.get? fa=some of/\of.cls= .type "function"/\of.data= .func fd)
  {y:Option Value} (hB:typeLookup (.type "object") name=pure y) (hnw:name∉bE) (hc:aZ P n (.ref fa) F)
  (ha:lH P n K lo args g) (eF:∀env,starEach args env=args.map fun e=>(false,eval e env)) (bN:args.length<20) (jh:(apos.endLine==pos.line)=true) (ji:∀env,attributeBase o name env (eval o env)=eval o env):
  eM P n K lo (.Call (.Attribute o name apos) args [] pos) (z0 F f g):=fun A env out hid m B s ρ z E r S hff=>by
 refine ah hff fun x hx hff=>?_
 refine ah hff fun l Nz hz=>?_
 cases V.AW Nz;by_cases hl:l.length=5
 case neg=>rw[az hl]at hz;cases hz
 rw[aw hl]at hz;refine ah hz fun xs xv hF=>?_
 have cL:(backTo pos (starEach args env)).any (·.1)=false:=dg eF;rw[arm_eval_Call,ji];refine ar (au (ho A env out hid m B s ρ _ E r S hx) (fun v s₁ q=>?_) fun ø ø q=>q);refine ar (qJ ?_);have VF:methodCallForm (args.length+([]:List Keyword).length) (backTo pos (starEach args env)) (backToKw pos (keywordEach [] env))=true:=nP cL bN;have I8:methodCallPos true o env apos pos=pure pos:=by unfold methodCallPos;simp[jh]
 unfold methodCall;rw[VF];have bc:=S.after q.1;obtain⟨a,d,vs,rfl,I,h1,h2,h3,h4⟩:=q.2.Ga W hl;obtain⟨mA,I',h5,h6⟩:=I.inst;refine W.yk bc.G fun XU q' bs sn sub col dd k0 k1 k2 k3 k5 hC hN=>?_
 obtain⟨of,fd,TW,ho2,ho3⟩:=hfo _ bc.G;have fin:∀{Q:Value×List Value->Shared->Prop},Q (.ref fa,[.ref a]) s₁->wpAny (model P.prog P.w) A (getMethod (.ref a) name (pure true)) Q E s₁:=fun hQ=>by
  exact method_of hC hN W.ng W.nh hf TW ho2 hB I' (h6 _ fun hm=>hnw (y0 hm)) hQ
 have ab3:∀{pl:Sem Bool} {Q:Value×List Value->Shared->Prop},Q (.ref fa,[.ref a]) s₁->wpAny (model P.prog P.w) A (getMethod (.ref a) name pl) Q E s₁:=fun hQ=>by
  exact method_of hC hN W.ng W.nh hf TW ho2 hB I' (h6 _ fun hm=>hnw (y0 hm)) hQ
 refine ar (gB (ab3 ?_));refine ar (wpAny_of_eq I8 ?_);refine callWith_function (o:=of) (fd:=fd) ?_;have key:=ha A env out hid m B s₁ ρ xs E pos r bc xv;refine dM cL (au key (fun ws s₂ aH=>⟨⟨aH.1.keep _ _ TW,ho3⟩,?_⟩) fun ø ø q=>q);exact au (hc A s₂ (av lo out hid) (.obj l::xs) z (.ref a::ws) E r (bc.after aH.1).G ((bc.after aH.1).G6 lo) (.cons (Dn.kp (P:=P) q.2 aH.1) aH.2) hF) (fun v cB eh=>⟨q.1.trans (aH.1.trans eh.1),eh.2⟩) fun ø ø q=>q
theorem rp{C:Addr}{id nm:Str}{p pos:Pos}{l:List Nat}{t:Tok}(hx:K.aM.contains id=true)(hv:P.glob id=some (.ref C))(hd:(id==("__debug__":Str))=false)
  (hG:∀h,P.G h->∃(Fr:Frag) (mc:Value),Fr.In h/\readsIn Fr C mc=true/\findCls Fr (.ref C) mc nm=some (.val (.str (pyStr l) t))) (he:∀env,attributeBase (.Name id p) nm env (eval (.Name id p) env)=eval (.Name id p) env):
  eM P n K lo (.Attribute (.Name id p) nm pos) (fun ø=>some (.str l)):=fun A env out hid m B s ρ z E r S hf=>by
 cases hf;refine Attribute_any_ (bH S hx hv hd ?_) (by rw[DD,he]);obtain⟨Fr,mc,X,h1,h2⟩:=hG _ S.G;exact cls_value X h1 h2 rfl ⟨Kp.toks _ _,.ofStr _ _⟩
end
section
variable{P:Pk}{n:Nat}{K:Cx}{lo:Bool}{C N:Addr}{mN:Str->Option Value}
theorem aB.rebase{env:Env}{out hid:List Addr}{m}{B B' s:Shared}{ρ}(S:aB P K env out hid m B s ρ)(k:Kp B' B)(hG:P.G B'.heap):aB P K env out hid m B' s ρ:=
 {fn:=S.fn,gl:=S.gl,bl:=S.bl,kind:=S.kind,pt:=S.pt,nodup:=S.nodup,jc:=S.jc,live:=S.live,oh:=S.oh,Lh:=S.Lh,Lo:=S.Lo,ns:=S.ns,slot:=S.slot,apart:=S.apart,gb:=hG,kp:=k.trans S.kp
  own:=fun a h ho=>by
   cases e:B'.heap.get? a with
   |none=>rfl
   |some o=>have:=k.keep a o e;rw[S.own a h ho]at this;cases this}
noncomputable def sZ(x:Addr)(ρ:al):Bool:= @decide (ρ 0=some (.obj [.int (x:Nat)])) (Classical.propDecidable _)
theorem wA{x:Addr}{ρ:al}(h:sZ x ρ=true):ρ 0=some (.obj [.int (x:Nat)]):= @mH _ (Classical.propDecidable _) h
theorem i4{x:Addr}{ρ:al}(h:ρ 0=some (.obj [.int (x:Nat)])):sZ x ρ=true:= @eK _ (Classical.propDecidable _) h
inductive BwQ(P:Pk)(K:Cx)(C:Addr)(env:Env)(out:List Addr)(B:Shared)(x dx:Addr)(aY:al)(AM:List V)(cV:Flow)(s':Shared):Prop
 |mk (f:cV= .next) (ao:List Addr) (m':Str->Option Value) (DX:List Value) (S:aB P K env ([x,dx]++out) ao m' B s' aY) (I:iC C s'.heap x dx DX) (d:aU P s'.heap ao AM DX):BwQ P K C env out B x dx aY AM cV s'
noncomputable def tU(P:Pk)(n:Nat)(K:Cx)(C:Addr)(st:List Stmt)(F:Addr->al->List V->Option (al×List V)):Prop:=
 ∀(A:Around) (env:Env) (out hid:List Addr) (m:Str->Option Value) (B s:Shared) (x dx:Addr) (ρ:al) (lv:List V) (ws:List Value) (aY:al) (AM:List V) (E:Value->Shared->Prop),bW n A->aB P K env ([x,dx]++out) hid m B s ρ->
  B.heap.get? x=none->B.heap.get? dx=none->iC C s.heap x dx ws->aU P s.heap hid lv ws->F x ρ lv=some (aY,AM)->
  wpAny (model P.prog P.w) A (execs st env) (fun cV s'=>BwQ P K C env out B x dx aY AM cV s') E s
theorem tU.nil:tU P n K C [] (fun x ρ lv=>some (ρ,lv)):=fun A env out hid m B s x dx ρ lv ws aY AM E rm S hx Hz I hd hf=>by
 cases hf;exact mZ ⟨rfl,hid,m,ws,S,I,hd⟩
noncomputable def stW(f:al->Option (al×Fl))(g:Addr->al->List V->Option (al×List V)):Addr->al->List V->Option (al×List V):=fun x ρ lv=>(f ρ).bind fun r=>match r.2 with
 | .next=>g x r.1 lv
 |_=>none
theorem tU.st{st:Stmt}{rest:List Stmt}{f g}(h:ul P n K st f)(hr:tU P n K C rest g):tU P n K C (st::rest) (stW f g):=fun A env out hid m B s x dx ρ lv ws aY AM E rm S hx Hz I hd hf=>by
 refine ah hf ?_;clear hf;rintro⟨am,fl⟩ h1 hf;refine rO (au (h A env _ hid m B s ρ am fl E rm S h1) (fun cV s₁ q=>?_) fun ø ø q=>q);obtain⟨ck,m₁,bc,gh,uA⟩:=q;cases fl<;>dsimp only at hf<;>try cases hf
 obtain rfl:=uA;exact hr A env out ck m₁ B s₁ x dx am lv ws aY AM E rm bc hx Hz (I.at (fun o e=>gh.keep x o (.inr (by simp)) e) fun o e=>gh.keep dx o (.inr (by simp)) e) (hd.ks gh) hf
noncomputable def K8(idx:Nat)(f:al->Option V)(g:Addr->al->List V->Option (al×List V)):Addr->al->List V->Option (al×List V):=fun x ρ lv=>
 if lv.length=idx/\sZ x ρ=true then(f ρ).bind fun v=>g x ρ (lv++[v])else none
theorem xG:bE.Nodup:=by decide+kernel
theorem Et{ws:List Value}{idx:Nat}{u:Value}{nm:Str}{mA:Str->Option Value}(HA:ws.length=idx)(HB:bE[idx]?=some nm)(h5:∀(i:Nat) v nm,ws[i]?=some v->bE[i]?=some nm->mA nm=some v)(h6:∀nm,nm∉bE.take ws.length->mA nm=none):
  (∀(i:Nat) v K9,(ws++[u])[i]?=some v->bE[i]?=some K9->(if K9=nm then some u else mA K9)=some v)/\∀K9,K9∉bE.take (ws++[u]).length->(if K9=nm then some u else mA K9)=none:=by
 refine⟨fun i v K9 hi HC=>?_,fun K9 HC=>?_⟩
 ·by_cases de:i<ws.length
  ·rw[List.getElem?_append_left de]at hi
   rw[az fun z=>?_]
   ·exact h5 i v K9 hi HC
   ·have a1:=eX.mp HC
    have a2:=eX.mp HB;exact DB.mp xG i idx a1.1 a2.1 (HA▸de) (a1.2.trans (z.trans a2.2.symm))
  ·rw[List.getElem?_append_right (kM.mp de)]at hi
   have h1:i-ws.length<1:=(eX.mp hi).1;have e:i=idx:=HA▸Nat.le_antisymm (Nat.le_of_sub_eq_zero (Nat.lt_one_iff.mp h1)) (kM.mp de);rw[Nat.lt_one_iff.mp h1]at hi;rw[e]at HC;rw[aw (Option.some.inj (HC.symm.trans HB))];exact hi
 ·have h1:bE.take (ws++[u]).length=bE.take ws.length++[nm]:=by
   rw[List.length_append,HA];show bE.take (idx+1)=_;rw[List.take_add_one,HB];rfl
  rw[h1]at HC;rw[az (c:=K9=nm) fun z=>HC (bw _ (z▸ .head _))];exact h6 _ fun z=>HC (bj _ z)
theorem Ob{h:Heap}{x dx C:Addr}{mA:Str->Option Value}{ws:List Value}(Ih:h.Inst x C mA)(hs:∃o,h.get? x=some o/\o.dict=some dx)(hv:(∀(i:Nat) v nm,ws[i]?=some v->bE[i]?=some nm->mA nm=some v)/\∀nm,nm∉bE.take ws.length->mA nm=none):iC C h x dx ws:=by
 obtain⟨o,z1,z2,z3,z4⟩:=Ih;obtain⟨VG,y1,y2⟩:=hs;rw[<-Option.some.inj (z1.symm.trans y1)]at y2;rcases z4 with⟨z4,_⟩|⟨d',z4,z5,z6⟩
 ·exact nomatch z4.symm.trans y2
 ·have ed:=Option.some.inj (z4.symm.trans y2)
  rw[ed]at z4 z5 z6;exact⟨o,_,z1,z2,z3,z4,z5,z6,hv.1,hv.2⟩
theorem iC.two{h:Heap}{x dx C:Addr}{ws:List Value}(I:iC C h x dx ws):cx h [x,dx]:=by
 obtain⟨o,mA,z1,_,_,_,_,⟨o',es,ep,z6,_⟩,_⟩:=I;exact fun b hb=>(bp.mp hb).elim (fun e=>e▸⟨o,z1⟩) fun hb=>cN.mp hb▸⟨o',z6⟩
theorem tU.go{env:Env}{out hid:List Addr}{m}{B s₁:Shared}{x dx:Addr}{ρ aY:al}{lv AM:List V}{ws:List Value}{v:V}{u:Value}{A:Around}{E:Value->Shared->Prop}{rest:List Stmt}{g}(hr:tU P n K C rest g)(rm:bW n A)(bc:aB P K env ([x,dx]++out) hid m B s₁ ρ)
  (hx:B.heap.get? x=none) (Hz:B.heap.get? dx=none) (Cc:aU P s₁.heap hid lv ws) (hu:Dn P s₁.heap hid v u) (hf:g x ρ (lv++[v])=some (aY,AM)) {h':Heap} {TQ:Nat} (Oc:iC C h' x dx (ws++[u])) (hk:∀b o,b≠x->b≠dx->s₁.heap.get? b=some o->h'.get? b=some o):
  wpAny (model P.prog P.w) A (execs rest env) (fun cV s'=>BwQ P K C env out B x dx aY AM cV s') E {s₁ with heap:=h',toks:=TQ}:=by
 have NI:Mv [x,dx] none s₁ {s₁ with heap:=h',toks:=TQ}:=⟨⟨fun b o hb e=>hk b o (fun z=>hb (z▸ .head _)) (fun z=>hb (z▸ .tail _ (.head _))) e,fun i y ø e=>e,id,rfl⟩,Oc.two⟩;have cC:=bc.step (W:=[x,dx]) (gi:=none) (fun a ha=>bj _ ha) NI (fun a ha=>(bp.mp ha).elim (fun e=>e▸hx) fun ha=>cN.mp ha▸Hz) fun g e=>nomatch e
 have zf:∀a o,a∉hid->s₁.heap.get? a=some o->h'.get? a=some o:=fun a o ha e=>hk a o (fun z=>ha (z▸bc.oh _ (.head _))) (fun z=>ha (z▸bc.oh _ (.tail _ (.head _)))) e
 exact hr A env out hid m B _ x dx ρ (lv++[v]) (ws++[u]) aY AM E rm cC hx Hz Oc (aV.app (aU.grow (P:=P) Cc zf fun a h=>.inl h) (.one (Dn.grow (P:=P) hu zf fun a h=>.inl h))) hf
set_option tactic.hygienic true in
theorem tU.store(W:cP P C N mN)(idx:Nat){nm self:Str}{kd:NameKind}{p p' pos:Pos}{e:Expr}{rest:List Stmt}{f g}(HB:bE[idx]?=some nm)(hk0:K.vars[0]?=some (self,kd,false))(i1:(self==("__debug__":Str))=false)(hc:(self==("__classdict__":Str))=false)
  (h:eM P n K false e f) (hr:tU P n K C rest g) (hs:∀env,swapsWith e (some (.Attribute (.Name self p) nm p')) pos.line env=pure false):tU P n K C (.Assign [.Attribute (.Name self p) nm p'] e pos::rest) (K8 idx f g):=
 fun A env out hid m B s x dx ρ lv ws aY AM E rm S hx Hz I hd hf=>by
 refine QS hf fun hif hf=>ah hf fun v hv hf=>?_
 refine rO (plainObj_wpAny_Assign_Attribute (au (h A env _ hid m B s ρ v E rm S hv) (fun u s₁ q=>?_) fun ø ø q=>q) (hs env));have bc:=S.after q.1;refine eV (bc.load hk0 (wA hif.2) i1 hc fun v0 hv0 ø=>?_) i1;rw[Dn.uG W hv0];have VH:iC C s₁.heap x dx ws:=I.at (fun o e=>q.1.keep _ o e) fun o e=>q.1.keep _ o e
 have Cc:aU P s₁.heap hid lv ws:=hd.kp q.1;obtain⟨mA,IA,h5,h6⟩:=VH.inst;refine W.yk bc.G fun XU q' bs sn sub col dd k0 k1 k2 k3 k5 hC hN=>?_
 have ln:nm∈bE:=mE HB;obtain⟨ox,mA2,z1,z2,z3,z4,_⟩:=id VH;refine store_attr (ns:=bE) PySem.F.store_object hC hN W.nsa (W.names _ ln) (noAttr _ ln) (W.ne S.gb hx) IA (fun h' TQ Ih hk VI=>?_) (fun y hy=>?_) (by rw[gR];exact aA (show bE.length<=100 by decide) (by decide))
 ·obtain⟨VG,y1,_,_,_,y2⟩:=VI ox z1
  exact tU.go hr rm bc hx Hz Cc q.2 hf (Ob Ih ⟨VG,y1,y2 dx z4⟩ (Et (hd.length.trans hif.1) HB h5 h6)) fun b o b1 b2 e=>hk b o b1 (fun ag8 dx' e1 e2 z=>b2 (z.trans (Option.some.inj (e2.symm.trans ((congrArg Obj.dict (Option.some.inj (e1.symm.trans z1))).trans z4))))) e
 ·exact Classical.byContradiction fun hm=>hy (h6 y fun z=>hm (y0 z))
noncomputable def VJ(asg:al->V->Option al)(bf:al->Option (al×Fl))(g:Addr->al->List V->Option (al×List V)):Addr->al->List V->Option (al×List V):=fun x ρ lv=>
 if sZ x ρ=true then(lv.head?.bind V.jO).bind fun l=>(fg asg bf (l.map fun c=>V.str [c]) ρ).bind fun r=>match r.2 with
  | .next=>g x r.1 lv
  |_=>none
 else none
set_option tactic.hygienic true in
theorem tU.for(W:cP P C N mN){lc:Bool}{self:Str}{kd:NameKind}{target:Expr}{body rest:List Stmt}{p p' pos:Pos}{asg bf g}(hk0:K.vars[0]?=some (self,kd,false))(i1:(self==("__debug__":Str))=false)(hc:(self==("__classdict__":Str))=false)
  (he:∀env,attributeBase (.Name self p) (Str.ofString "raw") env (eval (.Name self p) env)=eval (.Name self p) env) (ha:ze P K lc target asg) (hb:qa P n K body bf) (hr:tU P n K C rest g):
  tU P n K C (.For target (.Attribute (.Name self p) (Str.ofString "raw") p') body [] pos::rest) (VJ asg bf g):=fun A env out hid m B s x dx ρ lv ws aY AM E rm S hx Hz I hd hf=>by
 refine QS hf fun VK hf=>ah hf fun l hl hf=>ah hl fun v hv hl=>?_
 obtain⟨lv0,rfl⟩:=List.head?_eq_some_iff.mp hv;cases V.kS hl;refine ah hf ?_;clear hf;rintro⟨am,fl⟩ h1 hf;have h0:=wA VK;refine rO (au (Eo (fl:=fl) (aY:=am) (xs:=l.map fun c=>V.str [c]) rm S ?_ ha hb (fun x=>rfl) h1) (fun cV s₁ q=>?_) fun ø ø q=>q)
 ·refine Attribute_any_ (eV (S.load hk0 h0 i1 hc fun v0 hv0 ø=>?_) i1) (by rw[DD,he])
  obtain rfl:=Dn.uG W hv0;obtain⟨mA,IA,h5,h6⟩:=I.inst;refine W.yk S.G fun XU q' bs sn sub col dd k0 k1 k2 k3 k5 hC hN=>?_
  obtain⟨u,r,rfl,hu,_⟩:=aU.cons_inv hd;obtain⟨t,rfl⟩:=hu.str_inv;have ln:(Str.ofString "raw")∈bE:=by decide+kernel
  have hh:=rm.handled;obtain⟨hp,g',d',tk,os⟩:=s;exact load_attr hC hN W.ng (W.names _ ln) (noAttr _ ln) IA (h5 0 _ _ rfl rfl) rfl (K3 hh (Kp.toks (Shared.mk hp g' d' tk os) _))
 ·obtain⟨ck,m₁,bc,gh,uA⟩:=q
  cases fl<;>dsimp only at hf<;>try cases hf
  obtain rfl:=uA;exact hr A env out ck m₁ B s₁ x dx am _ ws aY AM E rm bc hx Hz (I.at (fun o e=>gh.keep x o (.inr (by simp)) e) fun o e=>gh.keep dx o (.inr (by simp)) e) (hd.ks gh) hf
theorem Eu(W:cP P C N mN){id:Str}{p pos:Pos}{e:Expr}{F0:Addr->al->List V->Option (al×List V)}{F:List V->Option (List V)}{f}{fI:Addr}{fd:FuncData}{body:List Stmt}{ps:List Str}{K':Cx}(hx:K.aM.contains id=true)(hv:P.glob id=some (.ref C))(Od:(id==("__debug__":Str))=false)
  (hi:mN (Str.ofString "__init__")=some (.ref fI)) (hfo:∀h,P.G h->∃of,h.get? fI=some of/\of.cls= .type "function")
  (Df:∀h,P.G h->(∃o,h.get? fI=some o/\o.data= .func fd)/\h.CodeRec fd.code fd.qualname) (n7:fd.body= .stmts body)
  (AL:fd.globals=mainGlobals) (Sj:fd.builtins=builtinsNs) (Er:fd.closure=[]) (wz:∀vs:List Value,vs.length=ps.length->bindArgs fd ⟨vs,[]⟩=pure (ps.zip vs)) (ok:vx K' fd.scope ps) (Bi:ps.Nodup)
  (Oa:fd.scope.isCoroutine=false) (ut:fd.scope.isGenerator=false)
  (hB:tU P n K' C body F0) (hF:∀x xs r,F xs=some r->xs.length+1=ps.length/\r.length=5/\∃aY,F0 x (oX (.obj [.int (x:Nat)]::xs)) []=some (aY,r))
  (hs:lH P (n+2) K lo [e] f) (he:∀env,starEach [e] env=(false,eval e env)::starEach [] env):eM P (n+2) K lo (.Call (.Name id p) [e] [] pos) (fun ρ=>(f ρ).bind fun xs=>(F xs).map .obj):=fun A env out hid m B s ρ z E rm S hf=>by
 refine ah hf fun y hy gg=>?_
 clear hf;rename _=>hf
 refine bV hf ?_;clear hf;rintro r hr rfl;refine kK (bH S hx hv Od ?_);refine callWith_cls (W.cls _ S.G) (au (hs A env out hid m B s ρ y E pos rm S hy) (fun vs s₁ ag=>⟨ag.1.keep,?_⟩) fun ø ø q=>q) (he env) rfl;have bc:=S.after ag.1;have live:=bc.G6 lo;have XV:=bc.G;refine W.yk XV fun XU q' bs sn sub col dd k0 k1 k2 k3 k5 hC hN=>?_
 obtain⟨oI,hoI,hcI⟩:=hfo _ XV;have XW:=ag.2;have k01:=ag.1;clear ag;obtain⟨hlen,hlen5,_⟩:=hF 0 y r hr;obtain⟨hp,g',d',tk,os⟩:=s₁;refine wpAny_call_obj_init PySem.F.objNew hC hN hi hoI hcI fun h' x dx mo=>?_
 have k12:Kp ⟨hp,g',d',tk,os⟩ ⟨h',g',d',tk,os⟩:=⟨mo.keeps,.refl _,rfl⟩;obtain⟨o,mA⟩:∃o,h'.get? x=some o:=by obtain⟨o,e,_⟩:=mo.inst;exact⟨o,e⟩
 have hI:iC C h' x dx []:=by
  obtain⟨o,z1,z2,z3,z4⟩:=mo.inst;have Hz:=mo.dict o z1;rcases z4 with⟨z4,_⟩|⟨d2,z4,z5,z6⟩
  ·rw[Hz]at z4;cases z4
  ·rw[Hz]at z4;cases z4
   exact⟨o,_,z1,z2,z3,Hz,z5,z6,fun i v nm h=>by simp at h,fun ø ø=>rfl⟩
 obtain⟨odx,hodx⟩:∃o,h'.get? dx=some o:=by obtain⟨_,_,_,_,_,_,_,⟨o,_,_,z,_⟩,_⟩:=hI;exact⟨o,z⟩
 have VD:bW (n+1) (A.under (.builtin "type.__call__" ⟨.ref C::vs,[]⟩)):=by
  refine⟨rm.handled,?_,?_⟩
  ·rw[depth_under_make];have:=rm.depth;omega
  ·show A.units+(Code.builtin "type.__call__" ⟨.ref C::vs,[]⟩).cUnits+10*(n+1)+10<=9000
   have h4:(Code.builtin "type.__call__" ⟨.ref C::vs,[]⟩).cUnits<=10:=by
    show 1+3*(Code.builtin "type.__call__" ⟨.ref C::vs,[]⟩).frames<=10;have:(Code.builtin "type.__call__" ⟨.ref C::vs,[]⟩).frames<=3:=by
     show(Code.builtin "type.__call__" ⟨[],[]⟩).frames<=3
     decide+kernel
    omega
   have:=rm.units;omega
 have hx0:x∉av lo out hid:=live.not mo.newX;have ab4:dx∉av lo out hid:=live.not mo.newD;have VL:cx h' ([x,dx]++av lo out hid):=fun a h=>by
  simp only[List.cons_append,kN,bp]at h;rcases h with rfl|rfl|h
  ·exact⟨_,mA⟩
  ·exact⟨_,hodx⟩
  ·obtain⟨o,e⟩:=live a h;exact⟨o,mo.keeps _ _ e⟩
 have eG:∀a∈[x,dx]++av lo out hid,a∈av lo out hid\/hp.get? a=Option.none:=fun a h=>by
  simp only[List.cons_append,kN,bp]at h;rcases h with rfl|rfl|h
  ·exact .inr mo.newX
  ·exact .inr mo.newD
  ·exact .inl h
 have i1:aU P h' ([x,dx]++av lo out hid) y vs:=aU.grow (P:=P) XW (fun a o ø e=>mo.keeps a o e) eG;refine wy (xs:=.obj [.int (x:Nat)]::y) Df n7 AL Sj Er wz ok Bi Oa ut VD (P.Gk XV mo.keeps) VL (.cons (Dn.Gb W x) i1) (by simp[hlen]) fun VM s₂ ao m' E' cC HC rm2=>?_
 have kX:aB P K' VM ([x,dx]++av lo out hid) ao m' ⟨hp,g',d',tk,os⟩ s₂ _:=cC.rebase k12 XV;obtain⟨_,_,aY,hf0⟩:=hF x y r hr;have Oc:iC C s₂.heap x dx []:=hI.at (fun o e=>cC.kp.keep _ o e) fun o e=>cC.kp.keep _ o e
 refine au (hB _ VM _ ao m' _ s₂ x dx _ [] [] aY r E' rm2 kX mo.newX mo.newD Oc .nil hf0) (fun cV cB q=>?_) fun ø ø q=>q
 obtain⟨rfl,qk,By,ws,jP,I₄,PZ⟩:=q;refine⟨rfl,k01.trans jP.kp,?_⟩;refine⟨x,ws,rfl,?_,aU.less (P:=P) PZ fun a h=>jP.oh a (bw _ h)⟩;rw[W.ob];exact .inr ⟨PZ.length.trans hlen5,dx,I₄,hx0,ab4⟩
end
section
variable{P:Pk}{n:Nat}{K:Cx}{lo:Bool}
theorem aZ.up{v F}(h:aZ P n v F):aZ P (n+1) v F:=fun A s hid xs x vs E rm hG live hd hf=>h A s hid xs x vs E (rm.less (i8 _)) hG live hd hf
theorem aZ.qH{v F}(h:aZ P n v F)(k:Nat):aZ P (n+k) v F:=by
 induction k with
 |zero=>exact h
 |succ k ih=>exact ih.up
inductive EtQ(P:Pk)(K:Cx)(env:Env)(out hid:List Addr)(B s s':Shared)(aY:al)(b c:Bool):Prop
 |mk (ao:List Addr) (m':Str->Option Value) (S:aB P K env out ao m' B s' aY) (k:Ks out hid ao s s') (e:c=b):EtQ P K env out hid B s s' aY b c
noncomputable def XX(P:Pk)(n:Nat)(K:Cx)(e:Expr)(f:al->Option (al×Bool)):Prop:=
 ∀(A:Around) (env:Env) (out hid:List Addr) (m:Str->Option Value) (B s:Shared) (ρ aY:al) (b:Bool) (E:Value->Shared->Prop),bW n A->aB P K env out hid m B s ρ->f ρ=some (aY,b)->
  wpAny (model P.prog P.w) A (isTrue e env (eval e env)) (fun c s'=>EtQ P K env out hid B s s' aY b c) E s
noncomputable def ab5(F:V->V->Option Bool)(f:al->Option (al×V))(g:al->Option V):al->Option (al×Bool):=fun ρ=>(f ρ).bind fun r=>(g r.1).bind fun y=>(F r.2 y).map fun b=>(r.1,b)
theorem XX.cmp{l r:Expr}{op:CmpOp}{pos:Pos}{F f g}(ho:mI P op F)(hl:Xd P n K l f)(hr:eM P n K false r g)(hm:behindInMarks op r=false):XX P n K (.Compare l [op] [r] pos) (ab5 F f g):=fun A env out hid m B s ρ aY b E rm S hf=>by
 refine ah hf ?_;clear hf;rintro⟨am,x⟩ hx hf;refine ah hf fun y hy gg=>?_
 clear hf;rename _=>hf
 refine bV hf fun b' hb e=>?_
 clear hf
 first|refine pair_inv e ?_;clear e|cases e
 refine uS (au (hl A env out hid m B s ρ am x E rm S hx) (fun u s₁ ag=>?_) fun ø ø q=>q) hm;obtain⟨ck,m₁,bc,gh,hu⟩:=ag;refine au (hr A env out ck m₁ B s₁ am y E rm bc hy) (fun v s₂ aH=>?_) fun ø ø q=>q
 have cC:=bc.after aH.1;refine au (ho A s₂ ck x y b' u v E (rm.less (dU _)) cC.G cC.live (hu.kp aH.1) aH.2 hb) (fun w cB eh=>?_) fun ø ø q=>q
 rw[eh.2];exact pg ⟨ck,m₁,cC.after eh.1,(gh.trans (.gV aH.1)).trans (.gV eh.1),rfl⟩
theorem Ew{t a b pos c f g}(ht:XX P n K t c)(ha:qa P n K a f)(hb:qa P n K b g):ul P n K (.If t a b pos) (fun ρ=>(c ρ).bind fun z=>if z.2 then f z.1 else g z.1):=fun A env out hid m B s ρ aY fl E r S hf=>by
 refine ah hf ?_;clear hf;rintro⟨am,z⟩ hz hf;refine wpAny_If (au (ht A env out hid m B s ρ am z E r S hz) (fun z' s₁ ag=>?_) fun ø ø q=>q);obtain⟨ck,m₁,bc,gh,rfl⟩:=ag;cases z'<;>simp only[gz,eW,eI]at hf ⊢
 ·exact au (hb A env out ck m₁ B s₁ am aY fl E r bc hf) (fun cV s₂ q=>q.pre gh) fun ø ø q=>q
 ·exact au (ha A env out ck m₁ B s₁ am aY fl E r bc hf) (fun cV s₂ q=>q.pre gh) fun ø ø q=>q
theorem La{asg:al->V->Option al}{body:al->Option (al×Fl)}(I:Nat->al->Prop)(Q:al×Fl->Prop){xs:List V}
  (step:∀(i:Nat) x ρ,xs[i]?=some x->I i ρ->∃am r,asg ρ x=some am/\body am=some r/\match r.2 with
   | .next| .cont=>I (i+1) r.1
   | .brk=>Q (r.1,.next)
   | .ret v=>Q (r.1,.ret v))
  (done:∀ρ,I xs.length ρ->Q (ρ,.next)) {ρ:al} (h0:I 0 ρ):∃r,fg asg body xs ρ=some r/\Q r:=by
 have go:∀(k:Nat) (i:Nat) ρ,k=xs.length-i->i<=xs.length->I i ρ->∃r,fg asg body (xs.drop i) ρ=some r/\Q r:=by
  intro k
  induction k with
  |zero=>
   intro i ρ hk hi h;have:i=xs.length:=by omega
   subst this;rw[va];exact⟨_,rfl,done ρ h⟩
  |succ k ih=>
   intro i ρ hk hi h;have de:i<xs.length:=by omega
   rw[pk de];obtain⟨am,r,h1,h2,h3⟩:=step i xs[i] ρ (by simp[de]) h;rw[vq];rw[h1,m4,h2,m4];obtain⟨fk,fl⟩:=r;cases fl<;>dsimp only at h3 ⊢
   ·exact ih (i+1) fk (by omega) de h3
   ·exact⟨_,rfl,h3⟩
   ·exact ih (i+1) fk (by omega) de h3
   ·exact⟨_,rfl,h3⟩
 simpa using go _ 0 ρ rfl (dU _) h0
end
section
variable{P:Pk}{n:Nat}{K:Cx}{lo:Bool}
theorem len0:∀(ρ:al) (x:List V),(fun _:al=>some ([]:List V)) ρ=some x->x.length=0:=fun ρ x h=>by cases h;rfl
theorem kY.len0{L:Addr}{h:Heap}{out hid:List Addr}{bs:List Bool}{xs:List V}{vs:List Value}{H:List Addr}(e:kY P L h out hid bs xs vs H):vs.length=bs.length:=by
 induction e with
 |nil=>rfl
 |dat _ _ ih=>exact congrArg Nat.succ ih
 |box _ _ _ ih=>exact congrArg Nat.succ ih
theorem kY.len{ts:List (Nat×Str×NameKind×Bool)}:∀(L:Addr) (out hid:List Addr) (H:List Addr) (h:Heap) (xs:List V) (vs:List Value),kY P L h out hid (ts.map (·.2.2.2)) xs vs H->vs.length=ts.length:=fun L out hid H h xs vs e=>by
 rw[kY.len0 e];simp
theorem gI{i:Nat}{g}:∀ρ r,jg DY i g ρ=some r->r.2= .none:=by
 intro ρ r h;simp only[jg,nc,ph]at h;obtain⟨y,_,xs,_,r',hF,rfl⟩:=h;exact ah hF fun l ø hF=>ah hF fun x ø hF=>eN hF fun ø e=>by subst e;rfl
theorem Lb{i:Nat}{g}:∀ρ r,jg No i g ρ=some r->r.2= .none:=by
 intro ρ r h;simp only[jg,nc,ph]at h;obtain⟨y,_,xs,_,r',hF,rfl⟩:=h;exact ah hF fun l ø hF=>ah hF fun p ø hF=>ah hF fun n ø hF=>eN hF fun ø e=>by subst e;rfl
theorem Lc{i:Nat}{g}:∀ρ r,jg NK i g ρ=some r->r.2= .none:=by
 intro ρ r h;simp only[jg,nc,ph]at h;obtain⟨y,_,xs,_,r',hF,rfl⟩:=h;exact ah hF fun d ø hF=>ah hF fun x ø hF=>ah hF fun e ø hF=>eN hF fun ø e=>by subst e;rfl
theorem z8{env:Env}(h:env.scope.kind= .function):env.blockKind= .function:=by
 unfold Env.blockKind;rw[h];rfl
theorem VN{α:Type _}{b:Bool}{x y z:α}(h:b=false)(e:y=z):(if b=true then x else y)=z:=by
 subst h;exact e
theorem VO{α:Type _}{b:Bool}{x y:α}(e:y=x):(if b=true then x else y)=x:=by
 rw[e,ite_self]
noncomputable def VP:{q:(Expr->Bool)×(Env->List Expr->Expr->Option Str)//∀ts es k k' p p' env,swappedStores [.Tuple ts k p] (.Tuple es k' p') env=
  if(!(ts.length==2||ts.length==3)||es.length != ts.length||env.blockKind != .function)=true then pure none else if es.any q.1=true then pure none else
   if((ts.filterMap (q.2 env ts)).length != ts.length||(ts.filterMap (q.2 env ts)).eraseDups.length != (ts.filterMap (q.2 env ts)).length)=true then pure none else
    if es.all (foldedForSure 8)=true then pure none else if es.all (constantsAlone 8)=true then(do unsupported "assign.tuple-of-constant-expressions:order-of-the-stores";pure (some (ts.filterMap (q.2 env ts))))else pure (some (ts.filterMap (q.2 env ts)))}:=
 ⟨(_,_),fun ø ø ø ø ø ø ø=>rfl⟩
noncomputable abbrev star:Expr->Bool:=VP.1.1
noncomputable abbrev wB(env:Env)(ts:List Expr):Expr->Option Str:=VP.1.2 env ts
theorem n9{env:Env}{x y:Str}{p q:Pos}{ts:List Expr}(h:env.kindOf x=some .local)(hl:(p.line==q.line)=true):wB env (.Name y q::ts) (.Name x p)=some x:=by
 show(if(env.kindOf x==some .local&&p.line==q.line)=true then some x else none)=some x;rw[h,hl];rfl
theorem Gc{env:Env}{ts es:List Expr}{k k':Nat}{p p':Pos}{names:List Str}(hl:(!(ts.length==2||ts.length==3)||es.length != ts.length||env.blockKind != .function)=false)(h1:es.any star=false)(hn:ts.filterMap (wB env ts)=names)
  (HC:(names.length != ts.length||names.eraseDups.length != names.length)=false) (h2:es.all (foldedForSure 8)=false) (h3:es.all (constantsAlone 8)=false):swappedStores [.Tuple ts k p] (.Tuple es k' p') env=pure (some names):=by
 subst hn;exact(VP.2 ..).trans (VN hl (VN h1 (VN HC (VN h2 (VN h3 rfl)))))
theorem Gd{env:Env}{ts es:List Expr}{k k':Nat}{p p':Pos}{names:List Str}(hn:ts.filterMap (wB env ts)=names)(h:(names.length != ts.length||names.eraseDups.length != names.length)=true):swappedStores [.Tuple ts k p] (.Tuple es k' p') env=pure none:=by
 subst hn;exact(VP.2 ..).trans (VO (VO (aw h)))
theorem P0{env:Env}{es:List Expr}{m:Nat}(hs:(es.length != m)=false)(hf:env.scope.kind= .function):(es.length != m||env.blockKind != .function)=false:=by
 rw[hs,z8 hf];rfl
theorem VR{K:Cx}{i j:Nat}{x y:Str}{b b':Bool}{p1 p2 p p':Pos}{k k':Nat}{es:List Expr}(hi:K.vars[i]?=some (x,.local,b))(hj:K.vars[j]?=some (y,.local,b'))(hl:(p2.line==p1.line)=true)(hn:([x,y].eraseDups.length != 2)=false)
  (hs:(es.length != 2)=false) (h1:es.any star=false) (h2:es.all (foldedForSure 8)=false) (h3:es.all (constantsAlone 8)=false):
  ∀env:Env,(∀(i:Nat) x kd b,K.vars[i]?=some (x,kd,b)->env.kindOf x=some kd)->env.scope.kind= .function->swappedStores [.Tuple [.Name x p1,.Name y p2] k p] (.Tuple es k' p') env=pure none\/swappedStores [.Tuple [.Name x p1,.Name y p2] k p] (.Tuple es k' p') env=pure (some [x,y]):=fun env hk hf=>
 .inr (Gc (P0 hs hf) h1 ((rY (n9 (hk i x _ _ hi) (pO _))).trans (congrArg _ (rY (n9 (hk j y _ _ hj) hl)))) hn h2 h3)
theorem VS{K:Cx}{i j l:Nat}{x y z:Str}{b b' b'':Bool}{p1 p2 p3 p p':Pos}{k k':Nat}{es:List Expr}(hi:K.vars[i]?=some (x,.local,b))(hj:K.vars[j]?=some (y,.local,b'))(hz:K.vars[l]?=some (z,.local,b''))(hl:(p2.line==p1.line)=true)(Sk:(p3.line==p1.line)=true)(hn:([x,y,z].eraseDups.length != 3)=false)
  (hs:(es.length != 3)=false) (h1:es.any star=false) (h2:es.all (foldedForSure 8)=false) (h3:es.all (constantsAlone 8)=false):
  ∀env:Env,(∀(i:Nat) x kd b,K.vars[i]?=some (x,kd,b)->env.kindOf x=some kd)->env.scope.kind= .function->swappedStores [.Tuple [.Name x p1,.Name y p2,.Name z p3] k p] (.Tuple es k' p') env=pure none\/swappedStores [.Tuple [.Name x p1,.Name y p2,.Name z p3] k p] (.Tuple es k' p') env=pure (some [x,y,z]):=fun env hk hf=>
 .inr (Gc (P0 hs hf) h1 ((rY (n9 (hk i x _ _ hi) (pO _))).trans (congrArg _ ((rY (n9 (hk j y _ _ hj) hl)).trans (congrArg _ (rY (n9 (hk l z _ _ hz) Sk)))))) hn h2 h3)
theorem Oe{K:Cx}{ts:List Expr}{p p':Pos}{k k':Nat}{es:List Expr}{names:List Str}(h1:es.any star=false)(h2:es.all (foldedForSure 8)=true):
 ∀env:Env,(∀(i:Nat) x kd b,K.vars[i]?=some (x,kd,b)->env.kindOf x=some kd)->env.scope.kind= .function->swappedStores [.Tuple ts k p] (.Tuple es k' p') env=pure none\/swappedStores [.Tuple ts k p] (.Tuple es k' p') env=pure (some names):=fun env hk hf=>.inl ((VP.2 ..).trans (VO (VO (VO (aw h2)))))
theorem Of{K:Cx}{i j:Nat}{x y:Str}{b:Bool}{p1 p2 p p':Pos}{k k':Nat}{es:List Expr}{names:List Str}(hj:K.vars[j]?=some (y,.cell,b))(h1:es.any star=false):
  ∀env:Env,(∀(i:Nat) x kd b,K.vars[i]?=some (x,kd,b)->env.kindOf x=some kd)->env.scope.kind= .function->swappedStores [.Tuple [.Name x p1,.Name y p2] k p] (.Tuple es k' p') env=pure none\/swappedStores [.Tuple [.Name x p1,.Name y p2] k p] (.Tuple es k' p') env=pure (some names):=fun env hk hf=>.inl (by
 have e2:wB env [.Name x p1,.Name y p2] (.Name y p2)=none:=by
  show(if(env.kindOf y==some .local&&p2.line==p1.line)=true then some y else none)=none;rw[hk j y _ _ hj];rfl
 cases e1:wB env [.Name x p1,.Name y p2] (.Name x p1)with
 |none=>exact Gd ((DE e1).trans (DE e2)) rfl
 |some a=>exact Gd ((rY e1).trans (congrArg _ (DE e2))) rfl)
end
section
variable{P:Pk}{n:Nat}{K K':Cx}{lo:Bool}
noncomputable def Og(P:Pk)(n:Nat)(K:Cx)(st:List Stmt)(f:al->Option V):Prop:=
 ∀(A:Around) (env:Env) (out hid:List Addr) (m:Str->Option Value) (B s:Shared) (ρ:al) (x:V) (E:Value->Shared->Prop),bW n A->aB P K env out hid m B s ρ->f ρ=some x->
  wpAny (model P.prog P.w) A (execs st env) (fun cV s'=>Kp B s'/\∃v,cV= .ret v/\Dn P s'.heap out x v) E s
theorem Ld{st f}(h:qa P n K st f):Og P n K st (fun ρ=>(f ρ).bind fun r=>match r.2 with| .ret x=>some x|_=>Option.none):=fun A env out hid m B s ρ x E rm S hf=>by
 refine ah hf ?_;clear hf;rintro⟨aY,fl⟩ h1 hf;cases fl<;>dsimp only at hf<;>try cases hf
 refine au (h A env out hid m B s ρ aY _ E rm S h1) (fun cV s' q=>?_) fun ø ø q=>q
 obtain⟨ao,m',S',K',v,rfl,hv⟩:=q;exact⟨S'.kp,v,rfl,hv⟩
noncomputable def HD(f:al->Option (al×Fl))(g:al->Option V):al->Option V:=fun ρ=>(f ρ).bind fun r=>match r.2 with
 | .next=>g r.1
 | .ret x=>some x
 |_=>Option.none
theorem bk{st:Stmt}{rest:List Stmt}{f g}(h:ul P n K st f)(hr:Og P n K rest g):Og P n K (st::rest) (HD f g):=fun A env out hid m B s ρ x E rm S hf=>by
 refine ah hf ?_;clear hf;rintro⟨am,fl⟩ h1 hf;refine rO (au (h A env out hid m B s ρ am fl E rm S h1) (fun cV s₁ q=>?_) fun ø ø q=>q);obtain⟨ck,m₁,bc,gh,uA⟩:=q;cases fl<;>dsimp only at hf<;>try cases hf
 ·obtain rfl:=uA
  exact hr A env out ck m₁ B s₁ am x E rm bc hf
 ·obtain⟨v,rfl,hv⟩:=uA
  exact⟨bc.kp,v,rfl,hv⟩
theorem aB.freeze{env:Env}{out hid:List Addr}{m}{B s:Shared}{ρ}(S:aB P K env out hid m B s ρ)(i:Nat){x:Str}{k:NameKind}(hi:K.vars[i]?=some (x,k,true))(hv:K'.vars=K.vars.set i (x,k,false))(hg:K'.aM=K.aM){y:V}(hy:ρ i=some y):
  ∃ao,aB P K' env out ao m B s ρ:=by
 obtain⟨ov,TF,VT⟩:=S.slot i x k true hi;rw[hy]at VT;obtain⟨v0,rfl,bx⟩:=VT;rw[aw rfl]at bx;obtain⟨a,rfl,ha1,XY,ha3,ha4⟩:=fc.addr (P:=P) bx;have mem:∀b,b∈hid.filter (fun b=>decide (b≠a))<->b∈hid/\b≠a:=fun b=>by simp[kL]
 have sub:∀b∈hid.filter (fun b=>decide (b≠a)),b∈hid:=fun b h=>((mem b).mp h).1
 have XZ:a∉hid.filter (fun b=>decide (b≠a)):=fun q=>((mem a).mp q).2 rfl
 refine⟨hid.filter fun b=>decide (b≠a),S.unbox hi hv hg hy TF ha4 (fun b h=>(mem b).mpr ⟨S.oh b h,fun e=>XY (e▸h)⟩) (fun b h ho=>S.own b (sub b h) ho) (fun b h ho bN=>⟨(mem b).mpr ⟨h,bN⟩,ho⟩) ha3 sub
  (fun h=>h.map id fun c ø q2 q3 q4=>⟨(mem c).mpr ⟨q2,fun e=>ha4.lL (e▸q4)⟩,q3,q4⟩) (fun ø ø=>rfl) hy ?_⟩
 cases y
 case list=>
  obtain⟨a',vs,e,z1,z2,z3,z4,z5⟩:=bx;cases e;exact .ofList XZ z4 (aU.less (P:=P) z5 sub)
 case dict=>
  obtain⟨a',vs,e,z1,z2,z3,z4,z5,z6,z7⟩:=bx;cases e;exact⟨a,vs,rfl,XZ,z5,z4,z6,aU.less (P:=P) z7 sub⟩
 all_goals exact bx.elim
theorem rr(i:Nat){x:Str}{k:NameKind}{rest:List Stmt}{g}(hi:K.vars[i]?=some (x,k,true))(hv:K'.vars=K.vars.set i (x,k,false))(hg:K'.aM=K.aM)(hr:Og P n K' rest g):Og P n K rest (fun ρ=>(ρ i).bind fun ø=>g ρ):=fun A env out hid m B s ρ x E rm S hf=>by
 refine ah hf fun y hy gg=>?_
 clear hf;rename _=>hf
 obtain⟨ao,S'⟩:=S.freeze i hi hv hg hy;exact hr A env out ao m B s ρ x E rm S' hf
set_option tactic.hygienic true in
theorem aZ.fnT{a:Addr}{fd:FuncData}{body:List Stmt}{ps:List Str}{f:al->Option V}(Df:∀h,P.G h->(∃o,h.get? a=some o/\o.data= .func fd)/\h.CodeRec fd.code fd.qualname)(n7:fd.body= .stmts body)
  (AL:fd.globals=mainGlobals) (Sj:fd.builtins=builtinsNs) (Er:fd.closure=[]) (wz:∀vs:List Value,vs.length=ps.length->bindArgs fd ⟨vs,[]⟩=pure (ps.zip vs)) (ok:vx K fd.scope ps) (Bi:ps.Nodup)
  (Oa:fd.scope.isCoroutine=false) (ut:fd.scope.isGenerator=false) (h:Og P n K body f):aZ P (n+1) (.ref a) (fun xs=>if xs.length=ps.length then f (oX xs)else Option.none):=
 fun A s hid xs x vs E rm hG live hd hf=>by
 dsimp only at hf;split at hf
 case isFalse=>cases hf
 rename_i hlen;refine wy Df n7 AL Sj Er wz ok Bi Oa ut rm hG live hd hlen fun env s₁ ao m E' S ø VD=>?_
 refine au (h _ env hid ao m s s₁ (oX xs) x E' VD S hf) (fun cV s' q=>?_) fun ø ø q=>q
 obtain⟨k,v,rfl,hv⟩:=q;exact⟨k,hv⟩
theorem z9(i:Nat){id x:Str}{k:NameKind}{p xp pos:Pos}(hi:K.vars[i]?=some (x,k,true))(hd:(x==("__debug__":Str))=false)(hc:(x==("__classdict__":Str))=false)(hx:K.aM.contains id=true)(hv:P.glob id=some (.type "tuple"))(Od:(id==("__debug__":Str))=false):
  eM P n K false (.Call (.Name id p) [.Name x xp] [] pos) (fun ρ=>(ρ i).bind fun y=>Uw [y]):=fun A env out hid m B s ρ z E rm S hf=>by
 refine ah hf fun y hy gg=>?_
 clear hf;rename _=>hf
 refine kK (bH S hx hv Od ?_);refine DA (jV (eV (S.load hi hy hd hc fun v bx ø=>jU ?_) hd));rw[aw rfl]at bx;refine ah (o:=y.gF) hf fun l hl hf=>ite_inv hf fun hm=>?_
 cases V.fQ hl;obtain⟨a,ws,rfl,_,_,_,ht,i1⟩:=bx.em;exact Ra S.live ht i1 hm
end
section
section tables
theorem xH(t:SetTable)(n:Nat):(t.orStandIn n).led=t.led/\(t.plain=false->(t.orStandIn n).plain=false):=by
 unfold SetTable.orStandIn;split
 ·exact⟨rfl,id⟩
 ·exact⟨rfl,fun ø=>rfl⟩
theorem Oh(t:SetTable)(j:Nat):(t.put j).1.led=t.led/\(t.put j).1.plain=t.plain:=by
 unfold SetTable.put;exact⟨rfl,rfl⟩
set_option tactic.hygienic true in
theorem Ex(t:SetTable)(es:Array (Int×Value))(h:Int)(x:Value):(layNew t es h x).2.1.led=t.led/\(t.plain=false->(layNew t es h x).2.1.plain=false):=by
 unfold layNew;split
 ·rename_i slot wd _
  have h1:=Oh t slot;generalize t.put slot=q at h1 ⊢;obtain⟨t',p⟩:=q;dsimp only at h1 ⊢;have h2:=xH t' (SetTable.insertAt es p (h,x)).size;exact⟨h2.1.trans h1.1,fun e=>h2.2 (h1.2.trans e)⟩
 ·exact⟨rfl,fun ø=>rfl⟩
theorem Ey{t:SetTable}{hs:Array Int}{w:Nat}{r:SetTable×Array Nat}(h:t.relaid hs w=some r):r.1.led=t.led/\r.1.plain=t.plain:=by
 unfold SetTable.relaid SetTable.laid at h;simp only[Option.bind_eq_bind,nc]at h;obtain⟨ow,_,h⟩:=h;cases h;exact⟨rfl,rfl⟩
set_option tactic.hygienic true in
theorem Aa(t:SetTable)(es:Array (Int×Value))(w:Nat):(relayAll t es w).2.1.led=t.led/\(t.plain=false->(relayAll t es w).2.1.plain=false):=by
 unfold relayAll;split
 ·rename_i t' order hr
  have:=Ey hr;dsimp only at this ⊢;split
  ·exact⟨this.1,fun e=>this.2.trans e⟩
  ·exact⟨rfl,fun ø=>rfl⟩
 ·exact⟨rfl,fun ø=>rfl⟩
end tables
section
variable{prog:Program}{w:World}{K:Type}[DecidableEq K]{knd:KeyKind prog w K}{A:Around}{E:Value->Shared->Prop}{s:Shared}
structure HE(knd:KeyKind prog w K)(o:Obj)(es:Array (Int×Value))(ep:Nat)(t:SetTable)(ks:List K)(led:Bool):Prop where
 h1:o.ExactSet
 h2:o.data= .set es ep t
 h3:ElemsOf knd es.toList
 h4:es.size=ks.length
 h5:∀k,k∈ks<->∃e∈es.toList,knd.is k e.2=true
 h6:es.size<scanBound
 h7:t.fits es.size=true
 h8:t.led=led
 h9:es.size≠0->t.plain=false
inductive ql(knd:KeyKind prog w K)(h:Heap)(a:Addr)(ks:List K)(led:Bool):Prop
 |mk (o:Obj) (es:Array (Int×Value)) (ep:Nat) (t:SetTable) (e:h.get? a=some o) (d:HE knd o es ep t ks led):ql knd h a ks led
theorem ql.at{h h':Heap}{a ks led}(x:ql knd h a ks led)(k:∀o,h.get? a=some o->h'.get? a=some o):ql knd h' a ks led:=let⟨o,es,ep,t,e,r⟩:=x;⟨o,es,ep,t,k o e,r⟩
theorem wC{h:Heap}{a:Addr}{o:Obj}{es mT:Array (Int×Value)}{ep:Nat}{t t1:SetTable}{ks:List K}{led}(ho:h.get? a=some o)(hex:o.ExactSet)(hd:o.data= .set es ep t)(h1:ElemsOf knd mT.toList)(h2:mT.size=ks.length)
  (h3:∀k,k∈ks<->∃e∈mT.toList,knd.is k e.2=true) (h4:mT.size<scanBound) (h5:t1.fits mT.size=true) (h6:t1.led=led) (h7:t1.plain=false):
  (h.update a (Obj.putSet mT t1)).get? a=some {o with data:=.set mT (ep+1) t1}/\ql knd (h.update a (Obj.putSet mT t1)) a ks led:=by
 have hg:(h.update a (Obj.putSet mT t1)).get? a=some {o with data:=.set mT (ep+1) t1}:=by
  have:=ni (Obj.putSet mT t1) ho (by rw[putSet_of mT t1 hd];rfl);rw[putSet_of mT t1 hd]at this;exact this
 exact⟨hg,_,mT,ep+1,t1,hg,hex,rfl,h1,h2,h3,h4,h5,h6,fun ø=>h7⟩
set_option tactic.hygienic true in
theorem Le{a:Addr}{ks:List K}{led:Bool}{k:K}{x:Value}{Q:Bool->Shared->Prop}(Ht:knd.is k x=true)(Ub:x.scannable=true)(so:plainKind x=false)(hS:ql knd s.heap a ks led)(wv:ks.length+1<scanBound)
  (h:∀b h',Heap.SameBut a s.heap h'->ql knd h' a (if k∈ks then ks else ks++[k]) led->Q b {s with heap:=h'}):
  wpAny (model prog w) A (setAddHashed a x (knd.hash k)) Q E s:=by
 obtain⟨o,es,ep,t,ho,hex,hd,Sl,hn,ln,hb,hf,HF,cL⟩:=hS;have PJ:es.size+1<scanBound:=by rw[hn];exact wv
 unfold setAddHashed setAddHashedIn;refine gB (ar (p6 ho hd hf ?_));dsimp only;rw[byScan_of Ub hb Sl];simp only[↓reduceIte];unfold setAddByScan;refine ar (ar (rU (ar (wpAny_setScan_of Ht ho hd hf Sl ?_))))
 cases hr:List.findIdx? (fun e=>knd.is k e.2) es.toList with
 |some j=>
  dsimp only;obtain⟨hj,hpj,_⟩:=List.findIdx?_eq_some_iff_getElem.mp hr;have hk:k∈ks:=(ln k).mpr ⟨es.toList[j],vb hj,hpj⟩;refine bd (bd ?_);have:=h false s.heap (Heap.SameBut.refl a s.heap) (by rw[aw hk];exact⟨o,es,ep,t,ho,hex,hd,Sl,hn,ln,hb,hf,HF,cL⟩);exact this
 |none=>
  dsimp only;have hk:k∉ks:=fun hk=>by
   obtain⟨e,he,hp⟩:=(ln k).mp hk;have:=Dr.mp hr e he;rw[hp]at this;cases this
  rw[az hk]at h;have hgw:∀(b:Bool) {s₁:Shared} {Q':Unit->Shared->Prop},Q' () s₁->wpAny (model prog w) A (match b with|true=>rule "set.scan.the-table-gave-way"|false=>pure ()) Q' E s₁:=fun b s₁ Q' hq=>by cases b<;>first|exact bd hq|exact rU hq
  have jC:=layNew_perm t es (knd.hash k) x;have Ge:=layNew_fits t es (knd.hash k) x;have Gf:=Ex t es (knd.hash k) x;generalize hL:layNew t es (knd.hash k) x=L at jC Ge Gf ⊢;obtain⟨mT,t1,Lg,gave⟩:=L;dsimp only at jC Ge Gf ⊢;rw[Array.toList_push]at jC;have VU:ElemsOf knd mT.toList:=(Sl.push Ht Ub).perm jC;have Sm:mT.size=(ks++[k]).length:=by rw[<-Array.length_toList,jC.length_eq,List.length_append,Array.length_toList,hn,List.length_append];rfl
  have P1:∀k',k'∈ks++[k]<->∃e∈mT.toList,knd.is k' e.2=true:=fun k'=>by
   rw[cr,cN,ln k'];constructor
   ·rintro(⟨e,he,hp⟩|rfl)
    ·exact⟨e,jC.mem_iff.mpr (bj _ he),hp⟩
    ·exact⟨_,jC.mem_iff.mpr (bw _ (cN.mpr rfl)),Ht⟩
   ·rintro⟨e,he,hp⟩
    rcases cr.mp (jC.mem_iff.mp he)with he|he
    ·exact .inl ⟨e,he,hp⟩
    ·rw[cN]at he;subst he
     exact .inr (knd.inj x k' k hp Ht)
  have Sn:mT.size<scanBound:=by rw[Sm,List.length_append];exact wv
  refine ar (hgw _ ?_);have tail:∀t2:SetTable,t2.fits mT.size=true->t2.led=led->t2.plain=false->wpAny (model prog w) A (do
    storeSet a mT t2
    if(!Lg&&t2.tooFull)=true then do
       (match(relayAll t2 mT (SetTable.grown mT.size)).2.2 with|true=>rule "set.scan.the-table-gave-way"|false=>pure ())
       storeSet a (relayAll t2 mT (SetTable.grown mT.size)).1 (relayAll t2 mT (SetTable.grown mT.size)).2.1
       pure (some true)
     else pure (some true)) (fun r s'=>∃h',r=some true/\s'={s with heap:=h'}/\Heap.SameBut a s.heap h'/\ql knd h' a (ks++[k]) led) E s:=by
   intro t2 hf2 Oi hp2;refine ar (wpAny_storeSet_of ho hd ?_ (vc Sn));obtain⟨TW,hS1⟩:=wC (knd:=knd) ho hex hd VU Sm P1 Sn hf2 Oi hp2;have VV:=pj s.heap a (Obj.putSet mT t2);split
   ·have hp:=relayAll_perm t2 mT (SetTable.grown mT.size)
    have hfr:=relayAll_fits t2 mT (SetTable.grown mT.size);have X0:=Aa t2 mT (SetTable.grown mT.size);generalize hRl:relayAll t2 mT (SetTable.grown mT.size)=Rl at hp hfr X0 ⊢;obtain⟨es2,t3,af5⟩:=Rl;dsimp only at hp hfr X0 ⊢;have hsz:es2.size=mT.size:=by rw[<-Array.length_toList,hp.length_eq,Array.length_toList]
    have JF:es2.size<scanBound:=by rw[hsz];exact Sn
    refine ar (hgw _ ?_);refine ar (wpAny_storeSet_of TW rfl ?_ (vc JF));obtain⟨_,hS2⟩:=wC (knd:=knd) (ks:=ks++[k]) (led:=led) TW hex rfl (VU.perm hp) (hsz.trans Sm) (fun k'=>(P1 k').trans ⟨fun⟨e,he,q⟩=>⟨e,hp.mem_iff.mpr he,q⟩,fun⟨e,he,q⟩=>⟨e,hp.mem_iff.mp he,q⟩⟩) JF hfr (X0.1.trans Oi) (X0.2 hp2);exact bd ⟨_,rfl,rfl,VV.trans (pj _ a _),hS2⟩
   ·exact bd ⟨_,rfl,rfl,VV,hS1⟩
  split
  ·refine ar ?_
   rw[hashByValue_scannable 8 Ub,so];refine bd ?_;simp only[gz,↓reduceIte];refine au (tail {t1 with plain:=false} (SetTable.fits_plain_off Ge) (Gf.1.trans HF) rfl) (fun r s' q=>?_) fun ø ø q=>q
   obtain⟨h',rfl,rfl,h1,h2⟩:=q;exact bd (h true h' h1 h2)
  ·rename_i hnp
   refine ar (bd ?_);simp only[↓reduceIte];refine au (tail t1 Ge (Gf.1.trans HF) (by simpa using hnp)) (fun r s' q=>?_) fun ø ø q=>q
   obtain⟨h',rfl,rfl,h1,h2⟩:=q;exact bd (h true h' h1 h2)
end
end
section
section
variable{prog:Program}{w:World}{A:Around}{E:Value->Shared->Prop}{s:Shared}
noncomputable def l8(ks:List Str)(k:Str):List Str:=if k∈ks then ks else ks++[k]
noncomputable def dd(xs:List (List Nat)):List Str:=(xs.map pyStr).foldl l8 []
theorem Ez(ks:List Str)(k:Str):(l8 ks k).length<=ks.length+1:=by
 unfold l8;split
 ·omega
 ·simp
theorem Cd{I S:Addr}{fp wr:List Addr}{G:Array GenState->Array GenState->Prop}{xs:List (List Nat)}{St:Nat->Shared->Prop}{led:Bool}
  (W:WalksS prog w A.in1 I fp wr G xs.length (fun i v=>∃x t,xs[i]?=some x/\v= .str (pyStr x) t) St) (X1:S∉fp) (hb:xs.length+1<scanBound) {R:Result->Shared->Prop}:
  ∀(k i:Nat) (s:Shared) (ks:List Str),xs.length-i=k->i<=xs.length->St i s->ks.length<=i->ql (strKind prog w) s.heap S ks led->
   (∀s',Moved (S::wr) G s s'->ql (strKind prog w) s'.heap S (((xs.drop i).map pyStr).foldl l8 ks) led->R (.ok (.ret .none)) s')->
   codeAny (model prog w) A (.builtin "set.update.loop" ⟨[.ref S,.ref I],[]⟩) R s:=by
 have hSw:S∉wr:=fun h=>X1 (W.sub _ h)
 have HG:∀b∈wr,b∈S::wr:=fun b hb=>cw _ hb
 intro k
 induction k with
 |zero=>
  intro i s ks hk hi eF hle hS hR;have hin:i=xs.length:=by omega
  subst hin;refine nv IY ?_;rw[pX DF _];show wpAny _ A.in1 (pyNext (.ref I)>>= _) _ _ s;refine ar (W.done s _ _ eF fun s' hm=>?_);show wpAny _ A.in1 (ret Value.none) _ _ s';refine bd (hR s' (hm.mono HG) ?_);rw[va];exact hS.at fun o e=>hm.heap S _ hSw e
 |succ k ih=>
  intro i s ks hk hi eF hle hS hR;have de:i<xs.length:=by omega
  refine nv IY ?_;rw[pX DF _];show wpAny _ A.in1 (pyNext (.ref I)>>= _) _ _ s;refine ar (W.item i s _ _ de eF fun v s' hP ab6 hm=>?_);obtain⟨x,t,hx,rfl⟩:=hP;have NJ:ql (strKind prog w) s'.heap S ks led:=hS.at fun o e=>hm.heap S _ hSw e
  show wpAny _ A.in1 (holding [Value.str (pyStr x) t] (setAdd S (.str (pyStr x) t))>>= _) _ _ s';refine ar (gB ?_);unfold setAdd;refine gB ?_;refine ar ((strKind prog w).pyHash (k:=pyStr x) (strKind_is _ _ _ _) ?_);refine Le (knd:=strKind prog w) (s:={s' with toks:=s'.toks+1}) (strKind_is _ _ _ _) rfl rfl NJ (by omega) fun b h' uz hS2=>?_
  have Li:xs.drop i=x::xs.drop (i+1):=by
   rw[pk de];have:=(eX.mp hx).2;rw[this]
  refine bd ⟨rT DF _,ih (i+1) _ (l8 ks (pyStr x)) (by omega) de (W.frame _ s' _ _ ab6 (i8 _) fun b hb o e=>?_) (by have:=Ez ks (pyStr x);omega) hS2 fun ie ab7 ab8=>?_⟩
  ·rw[uz.2 b (fun h:b=S=>X1 (by rw[<-h];exact hb))];exact e
  ·refine hR ie (Moved.trans W.gtrans ((hm.mono HG).then_heap (i8 _) fun b o hb e=>?_) ab7) ?_
   ·rw[uz.2 b (fun h:b=S=>hb (by rw[h];exact dJ))];exact e
   ·rw[Li];exact ab8
noncomputable abbrev mM(w:World):Bool:=!(w.params.followText "set-order")
noncomputable abbrev dN(w:World):Obj:={cls:=.type "set",dict:=none,data:=.set #[] 0 (.fresh 0 0 (mM w))}
theorem ta(a:Value){Q₁:Value->Shared->Prop}(h:Q₁ (.ref s.heap.objs.size) {s with heap:=s.heap.push (dN w)}):
  codeAny (model prog w) A (.call (.builtin "set.__new__") ⟨[.type "set",a],[]⟩) (wants Q₁ E) s:=by
 refine codeAny_of_tree ?_;show wpAny _ A.in1 (do checkBuiltinCall "set.__new__" ⟨[.type "set",a],[]⟩;again (.builtin "set.__new__" ⟨[.type "set",a],[]⟩)) _ _ s;refine ar (wpAny_of_eq (F.newCall_set_1 a) (bd ⟨rT F.plain_set_new _,nv F.entry_set_new ?_⟩));rw[pX F.plain_set_new _];unfold Builtin.«set.__new__» Builtin.Frozenset.newClass;have HG:=sub_set_self;obtain⟨hp,g,d,tk,os⟩:=s;dsimp only
 wp_walk
 refine wpAny_askSetting (bd ?_);dsimp only;simp only[newObj];refine ar (wpAny_alloc (bd ?_));exact bd h
end
end
section
section
variable{prog:Program}{w:World}{A:Around}{E:Value->Shared->Prop}{s:Shared}
theorem EA{h:Heap}{a:Addr}(hg:h.get? a=some (dN w)):ql (strKind prog w) h a [] (mM w):=
 ⟨_,#[],0,_,hg,⟨rfl,rfl,rfl⟩,rfl,fun e he=>by simp at he,rfl,fun k=>by simp,by decide,by rfl,rfl,fun q=>absurd rfl q⟩
set_option maxHeartbeats 3200000 in
theorem wD{l:Addr}{items:Array Value}{xs:List (List Nat)}{Q:Value->Shared->Prop}(hh:A.handled=none)(hl:s.heap.IsList l items)(hi:∀(i:Nat) v,items[i]?=some v->∃x t,xs[i]?=some x/\v= .str (pyStr x) t)(hsz:items.size=xs.length)(hb:xs.length+1<scanBound)
  (h:∀(h':Heap) (tk:Nat),ql (strKind prog w) h' s.heap.objs.size (dd xs) (mM w)->(∀b o,s.heap.get? b=some o->h'.get? b=some o)->Q (.ref s.heap.objs.size) {s with heap:=h',toks:=tk}):
  wpAny (model prog w) A (call (.type "set") [.ref l]) Q E s:=by
 obtain⟨c,tl,ag9⟩:=nE.mro;have af6:=nE.made;have HG:=nE.sub;refine wpAny_call (codeAny_of_tree ?_);show wpAny _ _ (callAny (.type "set") _) _ _ _;refine bd ⟨Code.quiet_builtin _ (by decide+kernel),nv F.entry_type_call ?_⟩;rw[Around.under_plain (weight_type_call_type "set" [.ref l] []) rfl];have h1:=nE.notType;have h2:=nE.canCreate;have hct:=F.typeCall_set_1 (.ref l)
 repeat (any_goals (first|assumption|wp_step))
 refine codeAny_mono (ta (.ref l) (E:=E) (Q₁:=fun obj s₁=>obj= .ref s.heap.objs.size/\s₁={s with heap:=s.heap.push (dN w)}) ⟨rfl,rfl⟩) fun r s₁ hr=>?_
 cases r with
 |error e=>exact hr
 |ok fl=>
  cases fl with
  |ret obj=>
   obtain⟨rfl,rfl⟩:=hr;have hS:(s.heap.push (dN w)).get? s.heap.objs.size=some (dN w):=bD _ rfl;have hT:Shared.TypeIs {s with heap:=s.heap.push (dN w)} (.ref s.heap.objs.size) "set":=⟨_,hS,rfl⟩;have Xb:=nE.init.lookup;have hbi:=nE.init.bind (.ref s.heap.objs.size)
   repeat (any_goals (first|assumption|wp_step))
   refine codeAny_mono (codeAny_call_builtin (R:=wants (fun r s₂=>r= .none/\∃h' tk,s₂={s with heap:=h',toks:=tk}/\ql (strKind prog w) h' s.heap.objs.size (dd xs) (mM w)/\(∀b o,s.heap.get? b=some o->h'.get? b=some o)) E) nE.init.plain F.entry_set_init (check_set_init_1 hT ?_)) fun ab9 s₂ Lj=>?_
   ·obtain⟨ol,hol,Nk,nl,So⟩:=hl
    obtain⟨ah0,odict,af7,oslots⟩:=ol;simp only at Nk So;subst Nk;subst So;have ac0:(s.heap.push (dN w)).get? l=some {cls:=.type "list",dict:=odict,data:=.seq items nl,slots:=oslots}:=bK _ hol;have ah1:=F.sub_list_set;have ah2:=F.sub_list_frozenset;have bN:(Value.type "list"==Value.type "dict")=false:=by decide
    have QL:(s.heap.push (dN w)).IsList l items:=⟨_,ac0,rfl,nl,rfl⟩;refine DS fun Q₁ AS yl Ce=>?_
    unfold Builtin.«set.__init__» noKeywords Builtin.Frozenset.updateFrom;generalize hPI:pyIter=PI
    wp_walk
    subst hPI;refine yM QL ?_;refine ar (wpAny_runValue ?_);have hlS:l<s.heap.objs.size:=f5 hol;have hh3:A.in1.in1.in1.handled=none:=by simp[hh]
    have ac1:l≠(s.heap.push (dN w)).objs.size:=by
     rw[qK];exact jX (nu hlS)
    have X1:s.heap.objs.size∉[(s.heap.push (dN w)).objs.size,l]:=by
     rw[qK];simp only[bp,cN,qN,nD,not_or];exact⟨jX (m3 _),Nat.ne_of_gt hlS⟩
    have W0:=(Walks.list (prog:=prog) (w:=w) hh3 _ l ac1 items).toS;rw[hsz]at W0;have W:WalksS prog w A.in1.in1.in1 (s.heap.push (dN w)).objs.size [(s.heap.push (dN w)).objs.size,l] [(s.heap.push (dN w)).objs.size] (fun a b=>b=a) xs.length (fun i v=>∃x t,xs[i]?=some x/\v= .str (pyStr x) t) _:=
     {sub:=W0.sub,grefl:=W0.grefl,gtrans:=W0.gtrans,frame:=W0.frame,done:=W0.done,self:=W0.self,item:=fun i s Q E de st hQ=>W0.item i s Q E de st fun v s' hP=>hQ v s' (hi i v hP)}
    refine Cd (A:=A.in1.in1) (led:=mM w) W X1 hb (xs.length-0) 0 _ [] rfl (dU _) ⟨⟨_,bD _ rfl,rfl,rfl⟩,(QL.push _)⟩ (dU _) ?hS0 ?hR
    case hS0=>exact EA (bK _ hS)
    case hR=>
     intro s' hm NJ;obtain⟨h',g',d',TQ,os'⟩:=s';have eg:g'=s.gens:=hm.gens;have ed:d'=s.drawn:=hm.drawn;have eo:os'=s.os:=hm.os;subst eg;subst ed;subst eo;show wpAny _ _ _ _ _ _;refine bd ?_;show wpAny _ _ (ret Value.none) _ _ _;refine bd (yl _ _ ⟨rfl,h',TQ,rfl,NJ,fun b o e=>?_⟩);have hb:=f5 e;have PJ:b≠s.heap.objs.size:=jX hb;have JF:b≠(s.heap.push (dN w)).objs.size:=by
      rw[qK];exact jX (nu hb)
     exact hm.heap b o (by simp only[bp,cN,qN,nD,not_or];exact⟨PJ,JF⟩) (bK _ (bK _ e))
   ·cases ab9 with
    |error e=>exact Lj
    |ok VW=>
     cases VW with
     |ret r=>
      obtain⟨rfl,h',tk,rfl,NJ,zf⟩:=Lj
      repeat (any_goals (first|assumption|wp_step))
      exact h _ _ NJ zf
     |_=>exact Lj.elim
  |_=>exact hr.elim
end
end
section
section facts
theorem dH:Slot "set_iterator" "__next__" "set_iterator.__next__":=
 .of (owner:="set_iterator") (n:="__next__") (by rw[p0,p5];kernel_rfl) (by decide+kernel) (by decide+kernel) (by decide+kernel)
  (by first|exact .inl (by decide+kernel)|exact .inr (by decide+kernel)) (by rw[yT];kernel_rfl)
theorem lp:entryFor table "set_iterator.__next__"=some Builtin.«set_iterator.__next__» :=entryFor_of_tree (by kernel_rfl)
theorem tV:Manifest.owners.lookup (String.ofList ['r','o','t','a','r','e','t','i','_','t','e','s'].reverse)=some Manifest.sig_set_iterator:=by kernel_rfl
theorem mP(a:Value):argsOk "set_iterator.__next__" ⟨[a],[]⟩:=by
 unfold argsOk;rw[PySem.signature?_of (id:="set_iterator.__next__") (n:=['_','_','t','x','e','n','_','_']) (o:=['r','o','t','a','r','e','t','i','_','t','e','s']) (by kernel_rfl) tV];kernel_rfl
theorem wE:entryFor table "set.__iter__"=some Builtin.«frozenset.__iter__» :=entryFor_alias (id':="frozenset.__iter__") (by kernel_rfl) rfl (by decide+kernel) (by kernel_rfl)
end facts
section perms
theorem qm{α:Type}:∀(l:List α) (i:Nat) (h:i<l.length),(l[i]::l.eraseIdx i).Perm l
 |[],i,h=>by simp at h
 |x::xs,0,h=>by simp
 |x::xs,i+1,h=>by
  simp only[List.getElem_cons_succ,List.eraseIdx_cons_succ];exact(List.Perm.swap _ _ _).trans ((qm xs i (by simpa using h)).cons x)
theorem Gg(next:Nat->Nat){α:Type}:∀(fuel k:Nat) (left:List α) (out:Array α),left.length<=fuel->(pickOrder.go next fuel k left out).toList.Perm (out.toList++left)
 |0,k,left,out,h=>by
  have:left=[]:=vd (by omega);subst this;rw[gn];exact .refl _
 |fuel+1,k,[],out,h=>by
  rw[gn];exact .refl _
 |fuel+1,k,x::xs,out,h=>by
  show(match(x::xs)[next k % (x::xs).length]? with
   |some y=>pickOrder.go next fuel (k+1) ((x::xs).eraseIdx (next k % (x::xs).length)) (out.push y)
   |none=>out).toList.Perm _
  have de:next k % (x::xs).length<(x::xs).length:=Nat.mod_lt _ (by simp)
  have e:(x::xs)[next k % (x::xs).length]?=some ((x::xs)[next k % (x::xs).length]):=by simp[de]
  rw[e];dsimp only;have ih:=Gg next fuel (k+1) ((x::xs).eraseIdx (next k % (x::xs).length)) (out.push ((x::xs)[next k % (x::xs).length])) (by rw[DG de];simp at h ⊢;omega)
  refine ih.trans ?_;rw[Array.toList_push,List.append_assoc];refine List.Perm.append_left _ ?_;exact qm _ _ de
theorem ym{α:Type}(next:Nat->Nat)(xs:Array α):(pickOrder next xs).toList.Perm xs.toList:=by
 unfold pickOrder;simpa using Gg next xs.size 0 xs.toList #[] (by simp)
variable{M:Model}{A:Around}{E:Value->Shared->Prop}{s:Shared}
theorem xI{src:Source}{n:Nat}{Q:Nat->Shared->Prop}(hn:n≠0)(h:∀i d,i<n->Q i {s with drawn:=d}):wpAny M A (choose src n) Q E s:=fun Γ p ø=>⟨hn,h _ _ (Nat.mod_lt _ (DH hn))⟩
theorem mQ{α:Type}:∀(n:Nat) (xs:List α) (s:Shared) (Q:List α->Shared->Prop),n=xs.length->(∀l d,l.Perm xs->Q l {s with drawn:=d})->wpAny M A (drawOrder n xs) Q E s
 |0,xs,s,Q,hn,h=>by
  have:xs=[]:=vd hn.symm;subst this;exact bd (h [] s.drawn (.refl _))
 |n+1,[],s,Q,hn,h=>by simp at hn
 |n+1,x::xs,s,Q,hn,h=>by
  refine ar (m:=choose .order (x::xs).length) (xI (by simp) fun i d hi=>?_);have e:(x::xs)[i]?=some ((x::xs)[i]):=by simp[hi]
  rw[e];dsimp only;refine ar (mQ n ((x::xs).eraseIdx i) _ _ (by rw[DG hi];simp at hn ⊢;omega) fun l d' hl=>bd (h _ d' ?_));exact(List.Perm.cons _ hl).trans (qm _ _ hi)
end perms
section
variable{prog:Program}{w:World}{A:Around}{E:Value->Shared->Prop}{s:Shared}
noncomputable abbrev oe(first:Value)(i:Nat)(S:Addr)(n ep:Nat):Obj:={cls:=.type "set_iterator",data:=.fields #[first,rawInt i,.ref S,rawInt n,rawInt ep]}
inductive ku(w:World)(S:Addr)(es:Array (Int×Value))(ep:Nat)(t:SetTable)(first:Nat->Value)(vals:List Value)(h:Heap):Prop
 |txt (a1:w.params.followText "set-order"=true) (a2:∀i,first i=rawInt (0:Nat)) (a3:vals=(pickOrder (w.params.setOrder S ep) es).toList.map (·.2)):ku w S es ep t first vals h
 |drw (a1:w.params.followText "set-order"=false) (tp:Addr) (places:List Nat) (a2:∀i,first i= .ref tp) (a3:zb h tp (places.map fun(p:Nat)=>rawInt p).toArray) (a4:places.Perm (List.range es.size)) (a5:vals=places.filterMap fun p=>(es[p]?).map (·.2)):ku w S es ep t first vals h
 |one (a1:w.params.followText "set-order"=false) (a2:es.size<=1) (a3:t.led=true) (a4:first 0=rawInt (0:Nat)) (a5:∀p,t.place[0]?=some p->first 1=rawInt (p+1:Nat)) (a6:vals=es.toList.map (·.2)):ku w S es ep t first vals h
theorem Cf{S:Addr}{es:Array (Int×Value)}{ep:Nat}{t:SetTable}{first:Nat->Value}{vals:List Value}{h:Heap}(x:ku w S es ep t first vals h):vals.Perm (es.toList.map (·.2)):=by
 rcases x with⟨_,_,rfl⟩|⟨_,tp,places,_,_,hp,rfl⟩|⟨_,_,_,_,_,rfl⟩
 ·exact(ym _ _).map _
 ·have e:es.toList.map (·.2)=(List.range es.size).filterMap fun p=>(es[p]?).map (·.2):=by
   have:=filterMap_getElem?_range es;rw[<-this,List.map_filterMap]
  rw[e];exact hp.filterMap _
 ·exact .refl _
theorem fV{Q:Bool->Shared->Prop}(h:Q (w.params.followText "set-order") s):wpAny (model prog w) A setsByText Q E s:=by
 unfold setsByText;exact ar (wpAny_askSetting (bd h))
theorem EB{S:Addr}{o:Obj}{es:Array (Int×Value)}{ep:Nat}{t:SetTable}{ks:List Str}{Q:Value->Shared->Prop}(ho:s.heap.get? S=some o)(hD:HE (strKind prog w) o es ep t ks (mM w))
  (h:∀I first vals h' d,h'.get? I=some (oe (first 0) 0 S es.size ep)->s.heap.get? I=none->(∀b o,s.heap.get? b=some o->h'.get? b=some o)->ku w S es ep t first vals h'->I≠S->(∀tp,first 0= .ref tp->I≠tp)->Q (.ref I) {s with heap:=h',drawn:=d}):
  wpAny (model prog w) A (pyIter (.ref S)) Q E s:=by
 obtain⟨hex,hd,Sl,hn,ln,hb,hf,HF,cL⟩:=hD;have hT:s.TypeIs (.ref S) "set":=⟨o,ho,hex.1⟩;have eF:∀{A':Around} {E':Value->Shared->Prop} {s':Shared} {Q':(Array (Int×Value)×Nat×SetTable)->Shared->Prop},s'.heap.get? S=some o->Q' (es,ep,t) s'->wpAny (model prog w) A' (setState S) Q' E' s':=fun e q=>p6 e hd hf q
 refine wpAny_pyIter_slot hT F.slot_set_iter (po F.slot_set_iter hT wE ?_ (F.args_set_iter_1 _));show wpAny _ A.in1 (Builtin.Frozenset.sizeOf S>>= _) _ _ s;unfold Builtin.Frozenset.sizeOf setEntries;refine ar (ar (ar (eF ho (bd (bd ?_)))));dsimp only;show wpAny _ A.in1 (setDrawn S>>= _) _ _ s;unfold setDrawn;refine ar (ar (eF ho ?_));dsimp only;refine ar (fV (bd ?_));have lt:=f5 ho;have fin:∀(first:Nat->Value) (vals:List Value) (s':Shared),s'.heap.get? S=some o->(∀b o,s.heap.get? b=some o->s'.heap.get? b=some o)->s.heap.get? s'.heap.objs.size=none->s'.gens=s.gens->s'.os=s.os->s'.toks=s.toks->
   (∀h',(∀b o,s'.heap.get? b=some o->h'.get? b=some o)->ku w S es ep t first vals h')->(∀tp,first 0= .ref tp->∃o,s'.heap.get? tp=some o)->wpAny (model prog w) A.in1 (do ret (<-newFields "set_iterator" [first 0,rawInt 0,.ref S,rawInt es.size,rawInt (<-setEpoch S)])) (fun fin s'=>∃v,fin= .done (.ret v)/\∃T' r,s'.TypeIs v T'/\typeLookup (.type T') (Str.ofString "__next__")=pure (some r)/\Q v s') E s':=by
  intro first vals s' h1 h2 h3 h4 h5 h6 h7 h8
  unfold setEpoch;refine ar (ar (eF h1 (bd ?_)));dsimp only;simp only[newFields];refine ar (pR ?_ (by size_fits));refine bd ⟨_,rfl,"set_iterator",_,⟨_,bD _ rfl,rfl⟩,dH.lookup,?_⟩;obtain⟨hp,g,d,tk,os⟩:=s';obtain rfl:=h4;obtain rfl:=h5;obtain rfl:=h6;refine h _ first vals _ d (bD _ rfl) h3 (fun b o e=>bK _ (h2 b o e)) (h7 _ fun b o e=>bK _ e) ?_ ?_
  ·intro e
   have:=f5 h1;rw[<-e]at this;exact absurd this (pN _)
  ·intro tp e1 e2
   obtain⟨o',e3⟩:=h8 tp e1;have:=f5 e3;rw[<-e2]at this;exact absurd this (pN _)
 show wpAny _ A.in1 (if(!w.params.followText "set-order"&&(!t.plain&&decide (es.size>1)))=true then _ else _) _ _ _;cases htx:w.params.followText "set-order"
 ·by_cases hsz:es.size>1
  ·have hp:t.plain=false:=cL (by omega)
   rw[hp];simp only[Bool.not_false,ja,hsz,decide_true,eI];refine ar (mQ es.size (List.range es.size) _ _ (by simp) fun places d jC=>?_);have hlen:places.length=es.size:=by rw[jC.length_eq];simp
   simp only[newTuple];refine ar (pR ?_ (by
    show(List.map _ places).toArray.size<=sizeLine;rw[bM,bi,hlen];exact vc hb))
   refine fin (fun ø=>.ref s.heap.objs.size) (places.filterMap fun p=>(es[p]?).map (·.2)) _ (bK _ ho) (fun b o e=>bK _ e) ?_ rfl rfl rfl (fun h' hk=>.drw htx s.heap.objs.size places (fun ø=>rfl) ⟨0,hk _ _ (bD _ rfl)⟩ jC rfl) fun tp e=>?_
   ·cases e:s.heap.get? (s.heap.push {cls:=.type "tuple",data:=.seq (List.map (fun(i:Nat)=>rawInt i) places).toArray}).objs.size with
    |none=>rfl
    |some o'=>
     have:=f5 e;rw[qK]at this;exact absurd this (kM.mpr (i8 _))
   ·cases e
    exact⟨_,bD _ rfl⟩
  ·simp only[hsz,decide_false,Bool.and_false,gz,eW]
   refine ar (bd ?_);refine fin (fun i=>if i=0 then rawInt (0:Nat)else rawInt ((t.place[0]?.getD 0)+1:Nat)) (es.toList.map (·.2)) s ho (fun b o e=>e) (aP _) rfl rfl rfl (fun h' hk=>.one htx (by omega) ?_ rfl (fun p hp=>?_) rfl) fun tp e=>?_
   ·rw[HF];simp[mM,htx]
   ·simp[hp]
   ·simp[rawInt]at e
 ·simp only[Bool.not_true,Bool.false_and,gz,eW]
  refine ar (bd ?_);refine fin (fun ø=>rawInt (0:Nat)) _ s ho (fun b o e=>e) (aP _) rfl rfl rfl (fun h' hk=>.txt htx (fun ø=>rfl) rfl) fun tp e=>?_
  simp[rawInt]at e
end
end
section
theorem mR:Slot "set_iterator" "__iter__" "set_iterator.__iter__":=
 .of (owner:="set_iterator") (n:="__iter__") (by rw[p0,p5];kernel_rfl) (by decide+kernel) (by decide+kernel) (by decide+kernel)
  (by first|exact .inl (by decide+kernel)|exact .inr (by decide+kernel)) (by rw[yT];kernel_rfl)
theorem tc:entryFor table "set_iterator.__iter__"=some Builtin.«dict_keyiterator.__iter__» :=entryFor_alias (id':="dict_keyiterator.__iter__") (by kernel_rfl) rfl (by decide+kernel) (by kernel_rfl)
theorem uu(a:Value):argsOk "set_iterator.__iter__" ⟨[a],[]⟩:=by
 unfold argsOk;rw[PySem.signature?_of (id:="set_iterator.__iter__") (n:=['_','_','r','e','t','i','_','_']) (o:=['r','o','t','a','r','e','t','i','_','t','e','s']) (by kernel_rfl) tV];kernel_rfl
section
variable{prog:Program}{w:World}{A:Around}{E:Value->Shared->Prop}{s:Shared}
theorem ru{α β:Type}:∀(l:List α) (f:α->Option β),(∀p∈l,(f p).isSome=true)->∀i:Nat,(l.filterMap f)[i]?=(l[i]?).bind f
 |[],f,h,i=>by simp
 |x::xs,f,h,i=>by
  obtain⟨y,hy⟩:=Option.isSome_iff_exists.mp (h x (by simp));rw[nr,hy]
  cases i with
  |zero=>simp[hy]
  |succ i=>simpa using ru xs f (fun p hp=>h p (by simp[hp])) i
noncomputable def Sp{α:Type}(d:α)(fI:Int->Tok->α)(fS:Str->Tok->α)(fR:Addr->α)(v:Value):α:= @Value.casesOn (fun ø=>α) v d d d (fun ø=>d) (fun k t=>fI k t) (fun ø ø=>d) (fun x t=>fS x t) (fun ø ø=>d) (fun ø=>d) (fun ø=>d) (fun a=>fR a)
noncomputable def vInt:Value->Option (Int×Tok):=Sp none (fun k t=>some (k,t)) (fun ø ø=>none) (fun ø=>none)
noncomputable def vStr:Value->Option (Str×Tok):=Sp none (fun ø ø=>none) (fun x t=>some (x,t)) (fun ø=>none)
noncomputable def VX:Value->Option Addr:=Sp none (fun ø ø=>none) (fun ø ø=>none) some
theorem wF{v:Value}{p}(h:vInt v=some p):v= .int p.1 p.2:=by
 cases v<;>cases h;rfl
theorem Lk{v:Value}{p}(h:vStr v=some p):v= .str p.1 p.2:=by
 cases v<;>cases h;rfl
theorem Cg{v:Value}{a}(h:VX v=some a):v= .ref a:=by
 cases v<;>cases h;rfl
noncomputable def Oj(first:Nat->Value):List Addr:=(VX (first 0)).toList
structure P2(w:World)(I S:Addr)(o:Obj)(es:Array (Int×Value))(ep:Nat)(t:SetTable)(first:Nat->Value)(vals:List Value)(i:Nat)(s:Shared):Prop where
 it:s.heap.get? I=some (oe (first i) i S es.size ep)
 st:s.heap.get? S=some o
 od:ku w S es ep t first vals s.heap
theorem yn{I S o es ep t first vals i}{s:Shared}(x:P2 w I S o es ep t first vals i s):vals.length=es.size:=by
 have:=(Cf x.od).length_eq;simpa using this
theorem ku.keep{S:Addr}{es:Array (Int×Value)}{ep:Nat}{t:SetTable}{first:Nat->Value}{vals:List Value}{h h':Heap}(x:ku w S es ep t first vals h)(k:∀b∈Oj first,∀o,h.get? b=some o->h'.get? b=some o):ku w S es ep t first vals h':=by
 rcases x with⟨a,b,c⟩|⟨a,tp,places,b,c,d,e⟩|⟨a,b,c,d,e,f⟩
 ·exact .txt a b c
 ·obtain⟨n,c⟩:=c
  exact .drw a tp places b ⟨n,k tp (by unfold Oj;rw[b 0];exact List.mem_singleton_self _) _ c⟩ d e
 ·exact .one a b c d e f
theorem HH(p:Nat):1<=SetTable.below.go #[p] (p+1) 1 0 1:=by
 show 1<=(if p<p+1 then SetTable.below.go #[p] (p+1) 0 1 1 else SetTable.below.go #[p] (p+1) 0 0 0);rw[aw (m3 p)];exact cF 1
theorem Ch{S:Addr}{o:Obj}{es:Array (Int×Value)}{ep:Nat}{t:SetTable}{ks:List Str}(hS:s.heap.get? S=some o)(hD:HE (strKind prog w) o es ep t ks (mM w))(a1:w.params.followText "set-order"=true){i:Nat}{Q:Option (Value×Nat)->Shared->Prop}
  (h:Q (((pickOrder (w.params.setOrder S ep) es)[i]?).map fun e=>(e.2,0)) s):wpAny (model prog w) A (setNext S ((0:Nat):Int).toNat (i:Int).toNat (ep:Int).toNat) Q E s:=by
 have eF:∀{A':Around} {E':Value->Shared->Prop} {s':Shared} {Q':(Array (Int×Value)×Nat×SetTable)->Shared->Prop},s'.heap.get? S=some o->Q' (es,ep,t) s'->wpAny (model prog w) A' (setState S) Q' E' s':=fun e q=>p6 e hD.h2 hD.h7 q
 unfold setNext;refine ar (eF hS ?_);dsimp only;refine ar (fV ?_);rw[a1];simp only[eI,lG,bne_self_eq_false,gz,eW];unfold setWalk;refine ar (ar (eF hS ?_));dsimp only;refine ar (fV ?_);rw[a1];rw[aw rfl];refine ar (wpAny_askSetting (bd ?_));exact bd h
theorem rv{S:Addr}{o:Obj}{es:Array (Int×Value)}{ep:Nat}{t:SetTable}{ks:List Str}(hS:s.heap.get? S=some o)(hD:HE (strKind prog w) o es ep t ks (mM w))(a1:w.params.followText "set-order"=false)(hsz:es.size<=1)(a3:t.led=true){k i:Nat}{Q:Option (Value×Nat)->Shared->Prop}
  (h:Q (match es[SetTable.below t.place k]?,t.place[SetTable.below t.place k]? with
   |some (_,x),some j=>some (x,j+1)
   |_,_=>none) s):wpAny (model prog w) A (setNext S (k:Int).toNat (i:Int).toNat (ep:Int).toNat) Q E s:=by
 unfold setNext;refine ar (p6 hS hD.h2 hD.h7 ?_);dsimp only;refine ar (fV ?_);rw[a1];rw[az m5];show wpAny _ _ (if(!t.plain&&decide (es.size>1))=true then _ else _) _ _ _;rw[az (by simp;omega)];show wpAny _ _ ((if(!t.led&&!es.isEmpty)=true then _ else _)>>= _) _ _ _;rw[a3];refine ar (bd ?_);rw[lG];exact bd h
theorem one_place{es:Array (Int×Value)}{t:SetTable}(hf:t.fits es.size=true)(h:es.size=1):∃p,t.place= #[p]:=by
 have Bi:t.place.size=1:=by
  simp only[SetTable.fits,dI,jW]at hf;omega
 have:t.place.toList.length=1:=by simpa using Bi
 obtain⟨p,e⟩:=List.length_eq_one_iff.mp this;exact⟨p,by rw[<-Array.toArray_toList (xs:=t.place),e]⟩
set_option tactic.hygienic true in
theorem Ll(hh:A.handled=none){I S:Addr}{o:Obj}{es:Array (Int×Value)}{ep:Nat}{t:SetTable}{ks:List Str}(hD:HE (strKind prog w) o es ep t ks (mM w))(first:Nat->Value)(vals:List Value)(Rf:I≠S)(hIt:∀tp,first 0= .ref tp->I≠tp):
  WalksS prog w A I (I::S::Oj first) [I] (fun a b=>b=a) es.size (fun i v=>vals[i]?=some v) (P2 w I S o es ep t first vals)where
 sub:=fun b hb=>by simp at hb;simp[hb]
 grefl:=fun ø=>rfl
 gtrans:=fun ø ø ø h1 h2=>h2.trans h1
 frame:=fun i s h' tk st ø hk=>⟨hk _ (by simp) _ st.it,hk _ (by simp) _ st.st,st.od.keep fun b hb o e=>hk b (by simp[hb]) o e⟩
 self:=fun i s Q E st hQ=>by
  have hT:s.TypeIs (.ref I) "set_iterator":=⟨_,st.it,rfl⟩;refine wpAny_pyIter_slot hT mR (po mR hT tc ?_ (uu _));show wpAny _ _ (ret (.ref I)) _ _ s;exact bd ⟨_,rfl,"set_iterator",_,hT,dH.lookup,hQ⟩
 item:=fun i s Q E hi st hQ=>by
  have hT:s.TypeIs (.ref I) "set_iterator":=⟨_,st.it,rfl⟩;have hl:vals.length=es.size:=yn st;obtain⟨v,hv⟩:∃v,vals[i]?=some v:=⟨vals[i]'(by rw[hl];exact hi),by simp[hl,hi]⟩;unfold pyNext;refine ar (yX (pW hT dH (po dH hT lp ?_ (mP _))));refine DS fun Q₁ AS yl Ce=>?_
  have key:∀(h':Heap) (tk:Nat),h'.get? I=some (oe (first (i+1)) (i+1) S es.size ep)->(∀b o,b≠I->s.heap.get? b=some o->h'.get? b=some o)->s.toks<=tk->Q₁ (Fin.done (Flow.ret v)) {s with heap:=h',toks:=tk}:=fun h' tk h1 h2 h3=>
   yl _ _ ⟨_,rfl,bd (hQ v _ hv ⟨h1,h2 _ _ (dW Rf) st.st,st.od.keep fun b hb o e=>h2 b o (fun z=>by
    exact hIt _ (Cg (Option.mem_toList.mp hb)) z.symm) e⟩ ⟨fun b o hb e=>h2 b o (by simpa using hb) e,rfl,rfl,rfl,h3⟩)⟩
  clear yl hQ Ce;show wpAny _ _ (fieldsOf (.ref I)>>= _) _ _ s;refine ar (wpAny_fieldsOf st.it rfl ?_);show wpAny _ _ (setEntries S>>= _) _ _ s;unfold setEntries;refine ar (ar (p6 st.st hD.h2 hD.h7 (bd ?_)));dsimp only;rw[az (by simp[rawInt])];have stores:∀(nx:Nat),first (i+1)=rawInt nx->
    wpAny (model prog w) A.in1 (do setField (.ref I) 0 (rawInt nx);setField (.ref I) 1 (rawInt ((i:Int)+1));ret v) Q₁ AS s:=by
   intro nx hf1;refine ar (rZ st.it (by simp) fun h1 q1 Lm=>?_);refine ar (rZ q1 (by simp) fun h2 q2 VY=>?_);replace Lm:Heap.SameBut I s.heap h1:=Lm;replace VY:Heap.SameBut I h1 h2:=VY;refine bd (key h2 s.toks ?_ (fun b o hb e=>(VY.2 b hb).trans ((Lm.2 b hb).trans e)) (cF _));rw[q2,hf1];simp[oe,rawInt]
  rcases st.od with⟨a1,a2,a3⟩|⟨a1,tp,places,a2,a3,a4,a5⟩|⟨a1,a2,a3,a4,a5,a6⟩
  ·rw[a2 i]
   dsimp only[rawInt];rw[a3,bL,ph]at hv;obtain⟨e,he,rfl⟩:=hv;rw[DI]at he;refine ar (Ch st.st hD a1 ?_);rw[he];exact stores 0 (a2 _)
  ·rw[a2 i]
   dsimp only;obtain⟨n,a3⟩:=a3;refine ar (wpAny_seqItems a3 rfl ?_);have so:∃p,places[i]?=some p/\∃e,es[p]?=some e/\e.2=v:=by
    rw[a5,ru places _ (fun p hp=>by
     have:p<es.size:=by simpa using a4.mem_iff.mp hp
     simp[this])]at hv
    refine ah hv fun p hp hv=>?_
    refine bV hv ?_;rintro e he rfl;exact⟨p,hp,e,he,rfl⟩
   obtain⟨p,hp,e,he,rfl⟩:=so;have e1:(places.map fun(p:Nat)=>rawInt p).toArray[(i:Int).toNat]?=some (.int (p:Nat) 0):=by simp[hp,rawInt]
   dsimp only;rw[e1];dsimp only;unfold setNextDrawn;refine ar (ar (p6 st.st hD.h2 hD.h7 ?_));dsimp only;rw[az (by simp),lG,he];refine bd ?_;refine ar (rZ st.it (by simp) fun h1 q1 Lm=>?_);replace Lm:Heap.SameBut I s.heap h1:=Lm;refine bd (key h1 s.toks ?_ (fun b o hb e=>(Lm.2 b hb).trans e) (cF _));rw[q1,a2 (i+1),a2 i];simp[oe,rawInt]
  ·have VZ:i=0:=by omega
   subst VZ;obtain⟨p,hp⟩:=one_place hD.h7 (show es.size=1 by omega);rw[a4];dsimp only[rawInt];have ac2:SetTable.below t.place 0=0:=by
    rw[hp];show SetTable.below.go #[p] 0 1 0 1=0;rfl
   have ev:∃e,es[0]?=some e/\e.2=v:=by
    rw[a6,bL,ph]at hv;obtain⟨e,he,rfl⟩:=hv;rw[DI]at he;exact⟨e,he,rfl⟩
   obtain⟨e,he,rfl⟩:=ev;refine ar (rv st.st hD a1 a2 a3 ?_);rw[ac2,he];rw[show t.place[0]?=some p by rw[hp];rfl];exact stores (p+1) (a5 p (by rw[hp];rfl))
 done:=fun s Q E st hQ=>by
  have hT:s.TypeIs (.ref I) "set_iterator":=⟨_,st.it,rfl⟩;have zh:=yn st;unfold pyNext;refine ar (yX (pW hT dH (po dH hT lp ?_ (mP _))));refine DS fun Q₁ AS yl Ce=>?_
  have raised:∀(h':Heap),(∀b o,b≠I->s.heap.get? b=some o->h'.get? b=some o)->wpAny (model prog w) A.in1 (do raiseNew (<-newExc (.type "StopIteration") []):Sem PySem.Fin) Q₁ AS {s with heap:=h'}:=by
   intro h' hk;refine wt (A:=A.in1) (s:={s with heap:=h'}) hh fun h2 e En he=>Ce _ _ ?_
   obtain⟨o',M0,Jc⟩:=he;refine ar (u4 (T:="StopIteration") (b:=true) ⟨o',M0,Jc⟩ isSubtype_stop ?_);exact bd (hQ _ ⟨fun b o hb e=>En b o (hk b o (by simpa using hb) e),rfl,rfl,rfl,cF _⟩)
  clear yl hQ Ce;show wpAny _ _ (fieldsOf (.ref I)>>= _) _ _ s;refine ar (wpAny_fieldsOf st.it rfl ?_);show wpAny _ _ (setEntries S>>= _) _ _ s;unfold setEntries;refine ar (ar (p6 st.st hD.h2 hD.h7 (bd ?_)));dsimp only;rw[az (by simp[rawInt])];have ends:wpAny (model prog w) A.in1 (do setField (.ref I) 2 .none;raiseNew (<-newExc (.type "StopIteration") []):Sem PySem.Fin) Q₁ AS s:=
   ar (rZ st.it (by simp) fun h1 q1 Lm=>raised h1 fun b o hb e=>(Lm.2 b hb).trans e)
  rcases st.od with⟨a1,a2,a3⟩|⟨a1,tp,places,a2,a3,a4,a5⟩|⟨a1,a2,a3,a4,a5,a6⟩
  ·rw[a2 es.size]
   dsimp only[rawInt];have he:(pickOrder (w.params.setOrder S ep) es)[es.size]?=none:=by
    have h1:(pickOrder (w.params.setOrder S ep) es).size=es.size:=by
     have:=(ym (w.params.setOrder S ep) es).length_eq;simpa using this
    exact yZ (by rw[h1];exact cF _)
   refine ar (Ch st.st hD a1 ?_);rw[he];exact ends
  ·rw[a2 es.size]
   dsimp only;obtain⟨n,a3⟩:=a3;refine ar (wpAny_seqItems a3 rfl ?_);have so:places.length=es.size:=by have:=a4.length_eq;simpa using this
   have e1:(places.map fun(p:Nat)=>rawInt p).toArray[((es.size:Nat):Int).toNat]?=none:=by simp[so]
   dsimp only;rw[e1];dsimp only;refine ar (rZ st.it (by simp) fun h1 q1 Lm=>?_);refine ar (rZ q1 (by simp) fun h2 q2 VY=>?_);exact raised h2 fun b o hb e=>(VY.2 b hb).trans ((Lm.2 b hb).trans e)
  ·have Sq:∃k:Nat,first es.size=rawInt k/\es[SetTable.below t.place k]?=none:=by
    by_cases h0:es.size=0
    ·exact⟨0,by rw[h0];exact a4,yZ (by omega)⟩
    ·have hsz:es.size=1:=by omega
     obtain⟨p,hp⟩:=one_place hD.h7 hsz;refine⟨p+1,by rw[hsz];exact a5 p (by rw[hp];rfl),yZ ?_⟩;rw[hp,hsz];show 1<=SetTable.below.go #[p] (p+1) 1 0 1;exact HH p
   obtain⟨k,TV,En⟩:=Sq;rw[TV];dsimp only[rawInt];refine ar (rv st.st hD a1 a2 a3 ?_);rw[En];exact ends
end
end
section
section
variable{prog:Program}{w:World}{A:Around}{E:Value->Shared->Prop}{s:Shared}
set_option tactic.hygienic true in
theorem Ci{d:Addr}{o:Obj}{es:Array (Int×Value)}{ep:Nat}{t:SetTable}{ks:List Str}{Q:List Value->Shared->Prop}(hh:A.handled=none)(ho:s.heap.get? d=some o)(hD:HE (PySem.strKind prog w) o es ep t ks (mM w))
  (hQ:∀s' (acc:Array Value),Kp s s'->acc.toList.Perm (es.toList.map (·.2))->Q acc.toList s'):wpAny (model prog w) A (collect (.ref d)) Q E s:=by
 have hT:s.TypeIs (.ref d) "set":=⟨o,ho,hD.1.1⟩;have Re:s.heap.objs.size≠d:=fun e=>by rw[<-e,aP]at ho;cases ho
 have hn:es.size<=sizeLine:=vc hD.h6;unfold collect;refine ar (wpAny_runValue (nv F.entry_proto_collect ?_));rw[pX F.plain_proto_collect _];show wpAny _ A.in1 (newList []>>= fun l=>again (.builtin "list.__iadd__" ⟨[l,.ref d],[]⟩)) _ _ s;refine ar (pR ?_);refine bd ⟨rT yS _,nv F.entry_list_iadd ?_⟩;rw[pX yS _]
 let s₁:Shared:={s with heap:=s.heap.push {cls:=.type "list",data:=.seq ([]:List Value).toArray} }
 have Ln:s₁.heap.get? d=some o:=bK _ ho;have FM:s₁.TypeIs (.ref d) "set":=⟨o,Ln,hD.1.1⟩;have Bu:s₁.heap.get? s.heap.objs.size=some {cls:=.type "list",data:=.seq ([]:List Value).toArray}:=bD _ rfl;have h1:Builtin.List.listSameRef (.ref s.heap.objs.size) (.ref d)=false:=by simp[Builtin.List.listSameRef,Re]
 show wpAny _ A.in1 (Builtin.List.listExtendWith (.ref s.heap.objs.size) (.ref d) (.ref s.heap.objs.size)) _ _ s₁;unfold Builtin.List.listExtendWith;refine ar (wpAny_typeOf FM ?_);have h2:(Value.type "set"==Value.type "list")=false:=by decide
 have h3:(Value.type "set"==Value.type "tuple")=false:=by decide
 rw[az (by rw[h1,h2,h3];decide)];refine ar (EB Ln hD fun I first vals aH dr hI hIn yf JI Ze hIt=>?_)
 let s₂:Shared:={s₁ with heap:=aH,drawn:=dr}
 have P3:s₂.heap.get? d=some o:=yf _ _ Ln;have vD:s₂.TypeIs (.ref d) "set":=⟨o,P3,hD.1.1⟩;have x5:s₂.heap.get? s.heap.objs.size=some {cls:=.type "list",data:=.seq ([]:List Value).toArray}:=yf _ _ Bu;show wpAny _ A.in1 _ _ _ s₂;refine ar (gB ?_);unfold Builtin.List.listLengthHint;refine ar (yP vD PySem.F.slot_set_len.lookup ?_)
 (generalize hid:("set.__len__":String)=UA;(fail_if_success (clear hid UA));wp_delta;rw[show splitId UA=some ("set","__len__")from by subst hid;decide+kernel];subst hid)
 refine ar (u4 (b:=true) vD (by rw[yT];kernel_rfl) ?_);refine ar (wpAny_typeOf vD ?_);refine bd ?_;show wpAny _ A.in1 (rule "list.extend.makes-room">>= fun ø=>Builtin.List.listTouch (.ref s.heap.objs.size)>>= fun ø=>
  again (.builtin "list.extend.loop" ⟨[.ref s.heap.objs.size,.ref I,.ref s.heap.objs.size],[]⟩)) _ _ s₂
 refine ar (rU ?_);refine ar ?_;show wpAny _ A.in1 (updateSeq s.heap.objs.size (·.push .none)>>= fun ø=>updateSeq s.heap.objs.size (·.pop)) _ _ s₂;refine ar (yU x5 rfl ?_);have Bw:=ni (Obj.mapSeq (·.push Value.none)) x5 rfl;refine yU Bw rfl ?_;have JD:=ni (Obj.mapSeq (·.pop)) Bw rfl;have PH:∀b o,b≠s.heap.objs.size->s₂.heap.get? b=some o->((s₂.heap.update s.heap.objs.size (Obj.mapSeq (·.push Value.none))).update s.heap.objs.size (Obj.mapSeq (·.pop))).get? b=some o:=
  fun b o hb e=>(yV _ _ (dW hb)).trans ((yV _ _ (dW hb)).trans e)
 have Rf:I≠s.heap.objs.size:=fun e=>by
  rw[e,Bu]at hIn;cases hIn
 have V0:s.heap.objs.size∉Oj first:=fun hm=>by
  have e:=Cg (Option.mem_toList.mp hm);rcases JI with⟨_,x,_⟩|⟨_,tp',pl,x,⟨n,y⟩,_⟩|⟨_,_,_,x,_⟩
  ·rw[x 0]at e;cases e
  ·rw[x 0]at e
   cases e;rw[x5]at y;simp at y
  ·rw[x]at e;cases e
 have W:=Ll (prog:=prog) (w:=w) (A:=A.in1) hh hD first vals Ze hIt
 have zh:vals.Perm (es.toList.map (·.2)):=Cf JI;refine bd ⟨rT F.plain_extend_loop _,codeAny_extend_loopS W hn _ (by simp[dW Rf,Re,V0]) _ es.size 0 _ _ _ rfl (dU _)
  ⟨PH _ _ Rf hI,PH _ _ (dW Re) P3,JI.keep fun b hb o e=>PH b o (fun z=>V0 (z▸hb)) e⟩ JD (ItemsOf.nil _) fun s' xA c' NI NJ JE=>?_⟩
 show wpAny _ A (load s.heap.objs.size>>= _) _ _ s';refine ar (wpAny_load NJ ?_);refine bd (hQ s' xA ⟨fun b o e=>?_,by rw[NI.gens];exact .refl _,NI.os⟩ ?_)
 ·have PJ:b≠s.heap.objs.size:=fun q=>by rw[q,aP]at e;cases e
  have JF:b≠I:=fun q=>by
   have z:s₁.heap.get? b=some o:=bK _ e;rw[q,hIn]at z;cases z
  exact NI.heap b o (by simp[PJ,JF]) (PH b o PJ (yf _ _ (bK _ e)))
 ·have e:xA.toList=vals:=by
   refine ve fun i=>?_
   by_cases hi:i<es.size
   ·have Ni:i<xA.size:=by rw[JE.1];exact hi
    have e1:xA[i]?=some xA[i]:=by simp[Ni]
    rw[DI,e1,JE.2 i _ e1]
   ·rw[iL (by simp[JE.1];omega),iL (by rw[zh.length_eq];simp;omega)]
  rw[e];exact zh
end
noncomputable def pB(l:List (List Nat)):List (List Nat):=l.mergeSort fun a b=>decide (a<=b)
theorem Lp{l ns:List (List Nat)}(hp:ns.Perm l)(ho:ns.Pairwise fun a b=>a<=b):ns=pB l:=by
 have h2:(pB l).Pairwise (fun a b=>a<=b):=by
  have:=List.pairwise_mergeSort (le:=fun a b:List Nat=>decide (a<=b)) (fun a b c x y=>by simp only[iK]at x y ⊢;exact List.le_trans x y) (fun a b=>by simp only[nb,iK];exact List.le_total a b) l;exact this.imp fun h=>by simpa using h
 exact List.Perm.eq_of_pairwise (le:=fun a b:List Nat=>a<=b) (fun a b ø ø x y=>List.le_antisymm x y) ho h2 (hp.trans (u5 l _).symm)
noncomputable def EC(l:List (List Nat)):List (List Nat):=l.foldl (fun ks k=>if k∈ks then ks else ks++[k]) []
theorem Lq(xs:List (List Nat)):dd xs=(EC xs).map pyStr:=by
 have go:∀(l:List (List Nat)) (acc:List (List Nat)),(l.map pyStr).foldl l8 (acc.map pyStr)=(l.foldl (fun ks k=>if k∈ks then ks else ks++[k]) acc).map pyStr:=by
  intro l
  induction l with
  |nil=>intro acc;rfl
  |cons x l ih=>
   intro acc;simp only[bn,eJ];rw[<-ih]
   congr 1
   unfold l8;have:pyStr x∈acc.map pyStr<->x∈acc:=by
    constructor
    ·intro h
     obtain⟨y,hy,e⟩:=bP.mp h;have:y=x:=by
      have:=congrArg (fun s:Str=>s.cps.toList) e;simpa[pyStr]using this
     exact this▸hy
    ·exact fun h=>nF h
   by_cases h:x∈acc
   ·rw[aw (this.mpr h),aw h]
   ·rw[az (fun q=>h (this.mp q)),az h];simp
 exact go xs []
end
section
theorem tW{α:Type}[DecidableEq α]:∀(l l':List α),l.Nodup->(∀x∈l,x∈l')->l'.length<=l.length->l'.Perm l
 |[],l',_,_,h=>by
  have:l'=[]:=vd (by simpa using h);rw[this]
 |x::r,l',hn,hs,h=>by
  have hx:x∈l':=hs x (by simp);have h1:=List.perm_cons_erase hx;have Xj:=gC.mp hn;refine h1.trans (List.Perm.cons x (tW r (l'.erase x) Xj.2 (fun y hy=>?_) ?_))
  ·have bN:y≠x:=fun e=>Xj.1 (e▸hy)
   exact(List.mem_erase_of_ne bN).mpr (hs y (by simp[hy]))
  ·rw[List.length_erase_of_mem hx];exact Nat.sub_le_of_le_add h
set_option tactic.hygienic true in
theorem V1(l:List Str):∀acc:List Str,acc.Nodup->(l.foldl l8 acc).Nodup:=by
 induction l with
 |nil=>exact fun acc h=>h
 |cons x l ih=>
  intro acc h;refine ih _ ?_;unfold l8;split
  ·exact h
  ·rename_i hx
   rw[kO];exact⟨h,by simp,fun a ha b hb e=>hx (by simp at hb;rw[<-hb,<-e];exact ha)⟩
theorem Lr(xs:List (List Nat)):(dd xs).Nodup:=V1 _ [] qP
section
variable{prog:Program}{w:World}{A:Around}{E:Value->Shared->Prop}{s:Shared}
set_option tactic.hygienic true in
theorem rx{k:Str}{v:Value}(h:(PySem.strKind prog w).is k v=true):∃t,v= .str k t:=by
 cases v<;>simp[PySem.strKind,Value.isStrOf]at h;rename_i x t;exact⟨t,by rw[h]⟩
theorem ED{d:Addr}{xs:List (List Nat)}{Q:Value->Shared->Prop}(hh:A.handled=none)(hS:ql (PySem.strKind prog w) s.heap d (dd xs) (mM w))(Zf:(EC xs).length<64)
  (h:∀s' a (out:Array Value) e,Kp s s'->s.heap.get? a=none->s'.heap.get? a=some (seqObj "list" out e)->StrsAre out.toList ((pB (EC xs)).map pyStr)->Q (.ref a) s'):
  wpAny (model prog w) A (call (.builtin "sorted") [.ref d]) Q E s:=by
 obtain⟨o,es,ep,t,ho,hD⟩:=hS;have hD':=hD;obtain⟨hex,hd,Sl,hn,ln,hb,hf,HF,cL⟩:=hD';have hlen:es.size=(EC xs).length:=by rw[hn,Lq];simp
 refine Calls.call_function_entry kind_sorted plain_sorted entry_sorted (args_sorted1 _) ?_;unfold Builtin.«sorted»;refine ar (m:=checkCount "sorted" 1 1 _) (bd ?_);refine ar (Ci hh ho hD fun s' acc kp jC=>?_);have hsz:acc.toList.length=es.size:=by rw[jC.length_eq];simp
 have Ab:∀v∈acc.toList,∃x t,v= .str x t:=fun v hv=>by
  have:=jC.mem_iff.mp hv;obtain⟨e,he,rfl⟩:=bP.mp this;obtain⟨⟨k,hk,_⟩,_⟩:=Sl e he;obtain⟨t,e⟩:=rx hk;exact⟨k,t,e⟩
 have X2:StrsAre acc.toList (acc.toList.map strOf):=strsAre_map _ Ab;refine ar (wpAny_newList ?_ (hsz:=by rw[hsz];exact vc hb));have Rg:(s'.heap.push (seqObj "list" acc.toList.toArray 0)).get? s'.heap.objs.size=some (seqObj "list" acc.toList.toArray 0):=bD _ rfl;have eG:s.heap.get? s'.heap.objs.size=none:=by
  cases e:s.heap.get? s'.heap.objs.size with
  |none=>rfl
  |some o=>have:=kp.keep _ _ e;rw[aP]at this;cases this
 show wpAny _ _ _ _ _ {s' with heap:=s'.heap.push (seqObj "list" acc.toList.toArray 0)};refine ar (gB (po slot_list_sort ⟨_,Rg,rfl⟩ entry_list_sort (list_sort_treeK strKind_oneLt Rg X2.keysOf (fun Y9 Za rest e=>keyKind_strs (ss:=acc.toList.map strOf) (by rw[<-e];exact X2)) (by rw[hsz,hlen];exact Zf) fun Jg hp hs=>⟨_,rfl,?_⟩) (args_list_sort _)));obtain⟨e,he⟩:=sortedHeap_at (vs:=acc.toList) (out:=(arrOf Jg).map (·.2)) Rg;refine bd ⟨_,rfl,h _ _ _ e (kp.trans ⟨fun c o hc=>?_,.refl _,rfl⟩) eG he ?_⟩
 ·have de:=f5 hc
  show(sortedHeap (s'.heap.push (seqObj "list" acc.toList.toArray 0)) s'.heap.objs.size acc.toList _).get? c=some o;rw[sortedHeap_old (jX de) (by rw[size_push'];exact nu de)];exact bK _ hc
 ·
  generalize xv:arrOf Jg=ys at hp hs;have hl:ys.toList.Perm (acc.toList.zip acc.toList):=by rw[<-pairsOf_toList];exact Array.perm_iff_toList_perm.mp hp
  have hm:∀p,p∈ys.toList->p.1=p.2/\p.1∈acc.toList:=fun p Nu=>mem_zip_self (hl.mem_iff.mp Nu)
  have e1:(ys.map (·.2)).toList=ys.toList.map (·.1):=by
   rw[Array.toList_map];exact pr fun p Nu=>(hm p Nu).1.symm
  rw[e1];have h1:=strsAre_map (ys.toList.map (·.1)) (by
   intro v hv;obtain⟨p,Nu,rfl⟩:=bP.mp hv;exact Ab _ (hm p Nu).2)
  have e3:(ys.toList.map (·.1)).map strOf=(pB (EC xs)).map pyStr:=by
   have hpw:((ys.toList.map (·.1)).map fun v=>(strOf v).cps.toList).Pairwise fun a b=>a<=b:=by
    rw[dK,DB];intro i j hi hj TD;have Ni:i<ys.size:=by simpa using hi
    have Hi:j<ys.size:=by simpa using hj
    have h1:=hs i j (eY TD) (by rw[<-hp.size_eq];exact Hi);obtain⟨x,t,ex⟩:=Ab _ (hm ys[i] (by simp)).2;obtain⟨y,u,ey⟩:=Ab _ (hm ys[j] (by simp)).2;rw[KK_str Ni (x:=x) (t:=t) (q:=ys[i].2) (Prod.ext ex rfl),KK_str Hi (x:=y) (t:=u) (q:=ys[j].2) (Prod.ext ey rfl)]at h1;change decide (y.cps.toList<x.cps.toList)=false at h1;simp only[List.getElem_map,Array.getElem_toList,Function.comp];rw[show strOf ys[i].1=x by rw[ex];rfl,show strOf ys[j].1=y by rw[ey];rfl];exact List.not_lt.mp (by simpa using h1)
   have hpm:((ys.toList.map (·.1)).map fun v=>(strOf v).cps.toList).Perm (EC xs):=by
    have a1:(ys.toList.map (·.1)).Perm acc.toList:=by
     have:=hl.map Prod.fst;rwa[List.map_fst_zip (cF _)]at this
    have a2:=(a1.trans jC).map fun v=>(strOf v).cps.toList
    refine a2.trans ?_;have P4:(es.toList.map (·.2)).map strOf |>.Perm (dd xs):=by
     refine tW _ _ (Lr xs) (fun k hk=>?_) ?_
     ·obtain⟨e,he,hk⟩:=(ln k).mp hk
      obtain⟨t',e'⟩:=rx hk;exact bP.mpr ⟨e.2,nF he,by rw[e'];rfl⟩
     ·simp[hn]
    have a3:=P4.map fun x:Str=>x.cps.toList
    have:((EC xs).map pyStr).map (fun x:Str=>x.cps.toList)=EC xs:=by
     rw[dK]
     conv=>rhs;rw[<-List.map_id (EC xs)]
     exact pr fun x ø=>rfl
    rw[Lq,this]at a3;have e4:((es.toList.map (·.2)).map fun v=>(strOf v).cps.toList)=((es.toList.map (·.2)).map strOf).map fun x:Str=>x.cps.toList:=by simp[dK,Function.comp]
    rw[e4];exact a3
   have:=Lp hpm hpw;rw[<-this];simp only[dK];exact pr fun v ø=>by simp[pyStr,Function.comp]
  rw[e3]at h1;exact h1
end
variable{P:Pk}{n:Nat}{K K':Cx}{lo:Bool}
noncomputable def wG(x:V):Option V:=x.gF.bind fun l=>(j3 l).bind fun ts=>if l.length<64 then some (.list ((pB (EC ts)).map .str))else none
theorem EE(l:List V):wG (.list l)=(j3 l).bind fun ts=>if l.length<64 then some (.list ((pB (EC ts)).map .str))else none:=rfl
set_option tactic.hygienic true in
theorem Gh(ts:List (List Nat)):(EC ts).length<=ts.length:=by
 have go:∀(l acc:List (List Nat)),(l.foldl (fun ks k=>if k∈ks then ks else ks++[k]) acc).length<=acc.length+l.length:=by
  intro l
  induction l with
  |nil=>intro acc;simp
  |cons x l ih=>
   intro acc;simp only[eJ,bA];have:=ih (if x∈acc then acc else acc++[x]);split at this
   ·rename_i h;rw[aw h];omega
   ·rename_i h;rw[az h];simp at this ⊢;omega
 have:=go ts [];simp only[eZ,gq]at this;exact this
theorem yo:∀{l:List V} {ts:List (List Nat)},j3 l=some ts->l.length=ts.length
 |[],ts,e=>by cases e;rfl
 |y::l,ts,e=>by
  obtain⟨t,ts',rfl,h',rfl⟩:=sx e;simp[yo h']
theorem Cj{h:Heap}{hid:List Addr}:∀{vs:List Value} {ss:List (List Nat)},StrsAre vs (ss.map pyStr)->aU P h hid (ss.map .str) vs:=by
 intro vs ss hS;generalize e:ss.map pyStr=q at hS
 induction hS generalizing ss with
 |nil=>
  cases ss with
  |nil=>exact aV.nil
  |cons _ _=>simp at e
 |cons x t hr ih=>
  cases ss with
  |nil=>simp at e
  |cons y r=>
   simp only[bn,List.cons.injEq]at e;obtain⟨rfl,e⟩:=e;exact .cons (Dn.ofStr (P:=P) y t) (ih e)
set_option tactic.hygienic true in
theorem uv{id P5:Str}{p p2 pos vB:Pos}{e:Expr}{f}(hx:K.aM.contains id=true)(hv:P.glob id=some (.builtin "sorted"))(hd:(id==("__debug__":Str))=false)
  (VC:K.aM.contains P5=true) (YY:P.glob P5=some (.type "set")) (hd2:(P5==("__debug__":Str))=false) (h:eM P n K true e f) (eF:∀env,starEach [e] env=(false,eval e env)::starEach [] env)
  (Jw:∀env,starEach [.Call (.Name P5 p2) [e] [] vB] env=(false,eval (.Call (.Name P5 p2) [e] [] vB) env)::starEach [] env):
  M2 P n K (.Call (.Name id p) [.Call (.Name P5 p2) [e] [] vB] [] pos) (fun ρ=>(f ρ).bind wG):=fun A env out hid m B s ρ x E rm S hf=>by
 refine ah hf fun y hy gg=>?_
 clear hf;rename _=>hf
 refine ah hf fun l hl hf=>ah hf fun ts NG hf=>eN hf fun hlen e=>?_
 cases V.fQ hl;subst e;have de:=yo NG;refine kK (bH S hx hv hd ?_);have hb:backTo pos (starEach [.Call (.Name P5 p2) [e] [] vB] env)=[(false,eval (.Call (.Name P5 p2) [e] [] vB) env)]:=by rw[Jw];rfl
 rw[hb];refine rL (by rfl) (uV ?_);rw[<-hb];refine jV ?_ (Jw env);refine kK (bH S VC YY hd2 ?_);refine DA (jV (au (h A env out hid m B s ρ _ E rm S hy) (fun v s₁ q=>jU ?_) fun ø ø q=>q) (eF env)) (eF env) rfl;obtain⟨a,vs,rfl,ha,so,hds⟩:=q.2.em;obtain⟨w',hvs,hw'⟩:=sy NG hds;have hsz:vs.length=ts.length:=by rw[hds.length,de]
 refine wD rm.handled so.isList (xs:=ts) (fun i v hv=>?_) (by simp[hsz]) (by have:scanBound=4096:=rfl;omega) fun h' tk hQ hk=>?_
 ·have hv:vs[i]?=some v:=by simpa using hv
  obtain⟨z,hz,hzv⟩:=aV.get' hds hv;have hzs:∃t,ts[i]?=some t/\z= .str t:=by
   have go:∀(l:List V) (ts:List (List Nat)) (i:Nat) (z:V),j3 l=some ts->l[i]?=some z->∃t,ts[i]?=some t/\z= .str t:=by
    intro l
    induction l with
    |nil=>intro ts i z e h;simp at h
    |cons y l ih=>
     intro ts i z e h;obtain⟨t,ts',rfl,h',rfl⟩:=sx e
     cases i with
     |zero=>simp at h;exact⟨_,rfl,h.symm⟩
     |succ i=>simpa using ih ts' i z h' (by simpa using h)
   exact go l ts i z NG hz
  obtain⟨t,ht,rfl⟩:=hzs;obtain⟨k,rfl⟩:=Dn.str_inv (P:=P) (hid:=out) hzv;exact⟨t,k,ht,rfl⟩
 refine jU ?_;have k1:Kp s₁ {s₁ with heap:=h',toks:=tk}:=.heap hk;refine ED rm.handled hQ (by have:=Gh ts;omega) fun s' a' out' e' kp hn ho X2=>?_
 have kk:=q.1.trans (k1.trans kp);refine⟨kk,?_⟩;refine⟨a',out'.toList,rfl,?_,⟨e',by simpa[seqObj]using ho⟩,Cj X2⟩
 cases e1:s.heap.get? a' with
 |none=>rfl
 |some o=>have:=(q.1.trans k1).keep _ _ e1;rw[hn]at this;cases this
end
section
variable{P:Pk}{n:Nat}{K:Cx}{lo:Bool}{C N:Addr}
structure EF(P:Pk)(n:Nat)(C:Addr)(F:List V->Option (List V)):Prop where
 ok:∀{K:Cx} {lo:Bool} {id:Str} {p pos:Pos} {e:Expr} {f},K.aM.contains id=true->P.glob id=some (.ref C)->(id==("__debug__":Str))=false->lH P n K lo [e] f->(∀env,starEach [e] env=(false,eval e env)::starEach [] env)->
  eM P n K lo (.Call (.Name id p) [e] [] pos) (fun ρ=>(f ρ).bind fun xs=>(F xs).map .obj)
theorem eM.mk{F:List V->Option (List V)}(m:EF P n C F){id:Str}{p pos:Pos}{e:Expr}{f}(hx:K.aM.contains id=true)(hv:P.glob id=some (.ref C))(Od:(id==("__debug__":Str))=false)(hs:lH P n K lo [e] f)(he:∀env,starEach [e] env=(false,eval e env)::starEach [] env):
 eM P n K lo (.Call (.Name id p) [e] [] pos) (fun ρ=>(f ρ).bind fun xs=>(F xs).map .obj):=m.ok hx hv Od hs he
end
theorem ac3(P:Params):(HZ P).get? 50=some (kr P):=rn P (by kernel_rfl) (by decide) (by kernel_rfl)
theorem P6(P:Params):(HZ P).get? 167=some (iA P):=rn P (by kernel_rfl) (by decide) (by kernel_rfl)
theorem P7(P:Params):(HZ P).get? 168=some wi:=rn P (by kernel_rfl) (by decide) (by kernel_rfl)
theorem V2(P:Params):(HZ P).get? 173=some (jy P):=rn P (by kernel_rfl) (by decide) (by kernel_rfl)
theorem at2(P:Params):(HZ P).get? 2=some (boot_o_2 P):=rn P (by kernel_rfl) (by decide) (by kernel_rfl)
noncomputable def Ls(o:Obj):Array (Int×Value):=RF #[] (fun ø=> #[]) (fun es=>es) (fun ø=> #[]) o.data
noncomputable def V3(es:List (Int×Value)):Bool:=es.all fun e=>(vInt e.2).elim false fun k=>e.1==hashInt k.1&&e.2.scannable
noncomputable def V4:List Int:=[65024,65025,65026,65027,65028,65029,6150,65030,65031,65032,65033,6155,6156,6157,8203,8204,8205,65034,65035,65036,65037,65038,65039,173,847,8288,65279]
noncomputable def P8(es:List (Int×Value)):List Int:=es.filterMap fun e=>(vInt e.2).map (·.1)
theorem Lu{α:Type}{o:Option α}{f:α->Bool}(h:o.elim false f=true):∃a,o=some a/\f a=true:=by
 cases o with
 |none=>cases h
 |some a=>exact⟨a,rfl,h⟩
set_option tactic.hygienic true in
theorem Sr{P:Pk}(hG:∀h,P.G h->YP P.w h):∀h,P.G h->∃n,h.SetOf (intKind P.prog P.w) 50 (fun k=>decide (k∈V4)) n:=fun h G=>by
 have hk:P8 (Ls (kr P.w.params)).toList=V4:=by kernel_rfl
 have ND:V3 (Ls (kr P.w.params)).toList=true:=by kernel_rfl
 refine⟨_,kr P.w.params,Ls (kr P.w.params),_,_,hG h G _ _ (ac3 _),⟨rfl,rfl,rfl⟩,rfl,fun e he=>?_,fun k=>?_,?_,?_,rfl⟩
 ·obtain⟨p,h1,h2⟩:=Lu (cD.mp ND e he)
  obtain⟨h3,h4⟩:=(dI _ _).mp h2;exact⟨⟨p.1,by rw[wF h1];simp[intKind,Value.isInt],eq_of_beq h3⟩,h4⟩
 ·rw[iK,<-hk]
  unfold P8;rw[List.mem_filterMap];constructor
  ·rintro⟨e,he,hq⟩
   refine bV hq fun p hp hq=>⟨e,he,?_⟩
   rw[wF hp];simp[intKind,Value.isInt,hq]
  ·rintro⟨e,he,hq⟩
   obtain⟨t,ht⟩:=Value.isInt_shape hq;exact⟨e,he,by rw[ht];rfl⟩
 ·show 27<scanBound
  decide
 ·kernel_rfl
noncomputable def EG(P:Params)(l:List Nat):Option Int:=(findBy (fun(k:Str) v=>v.isStrOf k) (ents (jy P)) (pyStr l)).bind fun v=>(vInt v).map (·.1)
noncomputable def keysOk(P:Params):List DictEntry->Prop
 |[]=>True
 |e::es=>((vStr e.key).elim False fun x=>e.hash=PySem.PyData.keyHash P x.1)/\keysOk P es
set_option tactic.hygienic true in
theorem yp{prog:Program}{w:World}:∀{es:List DictEntry},keysOk w.params es->∀e∈es,∃k,(PySem.strKind prog w).is k e.key=true/\e.hash=(PySem.strKind prog w).hash k
 |[],_,e,he=>by cases he
 |x::es,h,e,he=>by
  obtain⟨h1,h2⟩:=h;rcases bp.mp he with rfl|he
  ·cases q:vStr e.key with
   |none=>rw[q]at h1;cases h1
   |some y=>
    rw[q]at h1;exact⟨y.1,by rw[Lk q];simp[PySem.strKind,Value.isStrOf],h1⟩
  ·exact yp h2 e he
theorem Lv(P:Params):keysOk P (ents (jy P)).toList:=⟨rfl,rfl,rfl,rfl,rfl,rfl,rfl,rfl,rfl,rfl,rfl,rfl,rfl,rfl,rfl,rfl,rfl,rfl,rfl,rfl,rfl,rfl,rfl,rfl,rfl,rfl,rfl,rfl,rfl,rfl,rfl,rfl,rfl,rfl,rfl,rfl,rfl,rfl,rfl,rfl,rfl,rfl,rfl,rfl,rfl,rfl,rfl,rfl,trivial⟩
set_option tactic.hygienic true in
theorem Ok{P:Pk}(hG:∀h,P.G h->YP P.w h):∀h,P.G h->∃f:Str->Option Value,h.MapOf (PySem.strKind P.prog P.w) 173 f/\∀l k,EG P.w.params l=some k->∃t,f (pyStr l)=some (.int k t):=fun h G=>by
 refine⟨fun k=>findBy (fun(k:Str) v=>v.isStrOf k) (ents (jy P.w.params)) k,⟨jy P.w.params,ents (jy P.w.params),_,hG h G _ _ (V2 _),⟨rfl,rfl,rfl⟩,rfl,fun e he=>yp (Lv _) e (by simpa using he),fun k=>rfl⟩,fun l k hk=>?_⟩;refine ah hk fun v hv hk=>bV hk fun p hp hk=>⟨p.2,?_⟩
 rw[<-hk,<-wF hp];exact hv
theorem Ss(P:Params):EG P [40]=some 7/\EG P [41]=some 8/\EG P [91]=some 9/\EG P [93]=some 10/\EG P [123]=some 25/\EG P [125]=some 26:=by
 refine⟨?_,?_,?_,?_,?_,?_⟩<;>kernel_rfl
noncomputable def Lw(P:Params)(x:Str):Option Value:=nsFind (ents (iA P)) x
noncomputable def strKeys(es:List DictEntry):Bool:=es.all fun e=>match e.key with
 | .str _ _=>true
 |_=>false
theorem Ol(P:Params):strKeys (ents (iA P)).toList=true:=by kernel_rfl
set_option tactic.hygienic true in
theorem Om(P:Params):StrKeys (ents (iA P)):=fun e he=>by
 have:=cD.mp (Ol P) e (by simpa using he);split at this
 ·rename_i x t q
  exact⟨x,t,q⟩
 ·cases this
theorem og{P:Pk}(hob:P.OB=Es 168)(hG:∀h,P.G h->YP P.w h):cP P 168 167 (Lw P.w.params)where
 ob:=hob
 cls:=fun h G=>⟨⟨_,_,_,_,_,_,_,_,_,_,_,_,hG h G _ _ (P7 _)⟩,⟨iA P.w.params,ents (iA P.w.params),_,hG h G _ _ (P6 _),rfl,Om _,fun ø=>rfl⟩⟩
 ng:=by kernel_rfl
 nh:=by kernel_rfl
 nsa:=by kernel_rfl
 names:=fun nm h=>by
  simp only[bE,bp,qN,nD]at h;rcases h with rfl|rfl|rfl|rfl|rfl<;>kernel_rfl
theorem Lx(P:Params):Lw P (Str.ofString "__init__")=some (.ref 123)/\Lw P "longest_run_of_spaces"=some (.ref 130)/\Lw P "indent_level"=some (.ref 137)/\Lw P "equal"=some (.ref 144)/\Lw P "not_equal_witness"=some (.ref 151):=by
 refine⟨?_,?_,?_,?_,?_⟩<;>kernel_rfl
noncomputable def Su(P:Params):Frag:=[(2,boot_o_2 P),(167,iA P),(168,wi)]
theorem Gi{P:Pk}(hG:∀h,P.G h->YP P.w h):∀h,P.G h->(Su P.w.params).In h:=fun h G=>
 Frag.in_of (as:=[2,167,168]) rfl (by
  have y:=hG h G;simp only[Su,bn,nz];rw[y _ _ (at2 _),y _ _ (P6 _),y _ _ (P7 _)])
theorem Ck(P:Params):readsIn (Su P) 168 (.type "type")=true:=by kernel_rfl
theorem ac4(P:Params):findCls (Su P) (.ref 168) (.type "type") "S"=some (.val (.str (pyStr [32]) 2271)):=by kernel_rfl
section
variable{P:Pk}{n:Nat}
noncomputable def KB1:Cx:={vars:=[("code",.local,false)],aM:=["ord","b1_set"]}
end
section
variable{P:Pk}{n:Nat}
noncomputable def KB3:Cx:={vars:=[("code",.local,false),("r",.local,false)],aM:=["ord","b3_exceptions"]}
end
section
noncomputable def gpL:List Pos:=[⟨6,4,6,7⟩,⟨6,10,6,11⟩,⟨6,4,6,11⟩,⟨7,4,7,10⟩,⟨7,13,7,18⟩,⟨7,4,7,18⟩,⟨8,19,8,28⟩,⟨8,29,8,33⟩,⟨8,19,8,34⟩,⟨8,4,15,27⟩,⟨16,7,16,13⟩,⟨17,15,17,18⟩,⟨17,20,17,24⟩,⟨17,14,17,25⟩,⟨17,8,17,25⟩,⟨17,8,17,25⟩,⟨16,4,17,25⟩,⟨8,8,8,11⟩,⟨8,13,8,15⟩,⟨8,8,8,15⟩,⟨9,11,9,17⟩,⟨10,19,10,22⟩,⟨10,24,10,28⟩,⟨10,31,10,33⟩,⟨10,24,10,33⟩,⟨10,18,10,34⟩,⟨10,12,10,34⟩,⟨10,12,10,34⟩,⟨11,12,11,18⟩,⟨11,21,11,26⟩,⟨11,12,11,26⟩,⟨12,13,12,15⟩,⟨12,19,12,23⟩,⟨12,13,12,23⟩,⟨13,12,13,18⟩,⟨13,21,13,25⟩,⟨13,12,13,25⟩,⟨15,19,15,22⟩,⟨15,24,15,26⟩,⟨15,18,15,27⟩,⟨15,12,15,27⟩,⟨15,12,15,27⟩,⟨12,8,15,27⟩,⟨9,8,15,27⟩]
theorem ac5(P:Params):findCls (Su P) (.ref 168) (.type "type") "T"=some (.val (.str (pyStr [9]) 2272)):=by kernel_rfl
structure bF(P:Pk):Prop where
 ob:P.OB=Es 168
 top:∀h,P.G h->YP P.w h
 glob:∀(x:Str) v,nsFind (ents (ew P.w.params)) x=some v->P.glob x=some v
 built:∀(x:Str) v,x≠"__name__"->nsFind (ents (ew P.w.params)) x=none->bootBuiltins x=some v->P.glob x=some v
theorem Sv(w:World)(ag:Heap)(mg mb:Str->Option Value)(hg:ag.Ns mainGlobals mg)(hb:ag.Ns builtinsNs mb)(nl:ag.NoLimit)(hB:∀x:Str,x≠"__name__"->mb x=bootBuiltins x)(y:YP w ag):bF (Ko RW.toRowW.prog w (Es 168) (Es.ok 168) ag mg mb hg hb nl)where
 ob:=rfl
 top:=fun h G a o e=>G _ _ (y a o e)
 glob:=fun x v e=>by
  show(match mg x with|some v=>some v|none=>mb x)=some v;replace e:nsFind (ents (ew w.params)) x=some v:=e;rw[PP hg y,e]
 built:=fun x v h1 h2 h3=>by
  show(match mg x with|some v=>some v|none=>mb x)=some v;replace h2:nsFind (ents (ew w.params)) x=none:=h2;rw[PP hg y,h2];show mb x=some v;rw[hB x h1,h3]
section
variable{P:Pk}(X:bF P)
include X
theorem bF.fn{h:Heap}(G:P.G h){a:Nat}{Q:Heap->Prop}(f:∀{ag h:Heap},YP P.w ag->(∀b o,ag.get? b=some o->h.get? b=some o)->Q h):Q h:=f (X.top h G) fun ø ø e=>e
theorem bF.enum:P.glob "enumerate"=some (.type "enumerate"):=X.built _ _ (by decide) (RG _).2.2.2.2.2.2.2.2.2.2.2 Ve.2.2.2.2.2.2.2.2.2.2.2
theorem bF.gen:Cb P 28:=⟨fdOf jr,fun h G=>by
 obtain⟨⟨o,h1,h2,h3⟩,h4⟩:=Vg (X.top h G) fun ø ø e=>e
 exact⟨⟨o,h1,h3⟩,h4⟩,⟨rfl,rfl,rfl,fun v=>rfl,rfl,rfl,rfl,by kernel_rfl,by kernel_rfl,by kernel_rfl,by kernel_rfl,by kernel_rfl,by
  show ∀x∈(kl (aJ pq.main.body 2)).names,x.2≠ .cell
  decide+kernel⟩,X.enum,⟨fun i=>gpL.getD i default,by kernel_rfl⟩⟩
end
end
noncomputable def clip(v:Option Int)(d n:Nat):Nat:=match v with
 |none=>d
 |some i=>(max 0 (min (if i<0 then i+n else i) n)).toNat
theorem On{v:Option Int}{d n:Nat}(h:d<=n):clip v d n<=n:=by
 cases v with
 |none=>exact h
 |some i=>exact Int.toNat_le.mpr (Int.max_le.mpr ⟨mF _,Int.min_le_right _ _⟩)
theorem clz(v:Option Int)(d n:Nat):(clip v d n:Int)=v.elim (d:Int) fun i=>max 0 (min (if i<0 then i+n else i) n):=by
 cases v with
 |none=>rfl
 |some i=>exact Int.toNat_of_nonneg (Int.le_max_left _ _)
theorem lq(d:Nat){n k:Nat}(h0:0<k)(hk:k<=n):clip (some (-(k:Int))) d n=n-k:=by
 show(max 0 (min (if-(k:Int)<0 then-(k:Int)+n else-(k:Int)) n)).toNat=_;rw[aw (by omega),Int.min_eq_left (by omega),r0 (by omega)];omega
theorem Cl(d:Nat){n i:Nat}(h:n<=i):clip (some (i:Int)) d n=n:=by
 show(max 0 (min (if(i:Int)<0 then(i:Int)+n else(i:Int)) n)).toNat=_;rw[az (by omega),Int.min_eq_right (by omega),r0 (by omega)];rfl
theorem oj(i d n:Nat)(h:i<=n):clip (some (i:Int)) d n=i:=by
 show(max 0 (min (if(i:Int)<0 then(i:Int)+n else(i:Int)) n)).toNat=_;rw[az (by omega),Int.min_eq_left (by omega),r0 (by omega)];rfl
theorem wH{α:Type}(l:List α)(a:Nat):∀k:Nat,((List.range k).map fun(j:Nat)=>a+j).filterMap (l[·]?)=(l.drop a).take k
 |0=>rfl
 |k+1=>by
  rw[y3,List.map_append,List.filterMap_append,wH l a k,List.take_add_one,Dz];cases h:l[a+k]?<;>simp[h]
theorem Ly(a b:Nat):(if(a:Int)<b then((b:Int)-a+1-1)/1 else 0).toNat=b-a:=by
 by_cases h:(a:Int)<b
 ·rw[aw h,Int.ediv_one,DJ,Int.toNat_sub]
 ·rw[az h,Nat.sub_eq_zero_of_le (qO.mp (Int.not_lt.mp h))]
  rfl
theorem Cm(a b:Nat):sliceRange (a:Int) (b:Int) 1=(List.range (b-a)).map fun(k:Nat)=>a+k:=by
 show(List.range (if(a:Int)<b then((b:Int)-a+1-1)/1 else 0).toNat).map (fun(k:Nat)=>((a:Int)+1*(k:Int)).toNat)=_;rw[Ly];exact pr fun k ø=>by rw[Int.one_mul];rfl
theorem Cn{α:Type}(l:List α)(a b:Nat):(sliceRange (a:Int) (b:Int) 1).filterMap (l[·]?)=(l.drop a).take (b-a):=by
 rw[Cm,wH]
theorem HI(a b:Nat):(sliceRange (a:Int) (b:Int) 1).length=b-a:=by
 rw[Cm,bi,j0]
theorem V5(lo hi:Option Int)(n:Nat):sliceBounds lo hi none n=((clip lo 0 n:Int),(clip hi n n:Int),1):=by
 rw[clz,clz];cases lo<;>cases hi<;>rfl
theorem V6(lo hi:Option Int)(n:Nat):Builtin.Str.strSliceIndices lo hi 1 n=sliceRange (clip lo 0 n:Int) (clip hi n n:Int) 1:=by
 rw[clz,clz];cases lo<;>cases hi<;>rfl
theorem uH{α:Type}(l:List α)(lo hi:Option Int):pick l lo hi none=(l.drop (clip lo 0 l.length)).take (clip hi l.length l.length-clip lo 0 l.length):=by
 unfold pick;rw[V5];exact Cn l _ _
theorem om(l:List Nat)(lo hi:Option Int):Bj l lo hi=(l.drop (clip lo 0 l.length)).take (clip hi l.length l.length-clip lo 0 l.length):=by
 unfold Bj;rw[V6,HI,Cn];refine ite_eq_right_iff.mpr fun h=>(((List.take_sublist _ _).trans (List.drop_sublist _ _)).eq_of_length ?_).symm
 have h1:clip hi l.length l.length<=l.length:=On (cF _);have h2:=eq_of_beq h;rw[nG,m7];exact Nat.le_antisymm (aA (Nat.min_le_right _ _) (r4 _ _)) (Nat.le_min.mpr ⟨iM h2.symm,aA (iM h2.symm) (Nat.sub_le_sub_right h1 _)⟩)
noncomputable def bg{σ α τ:Type}(step:σ->α->Sum σ τ):List α->σ->Sum σ τ
 |[],s=>.inl s
 |x::xs,s=>match step s x with
  | .inl s'=>bg step xs s'
  | .inr t=>.inr t
theorem cQ{σ α τ:Type}(step:σ->α->Sum σ τ)(s:σ):bg step [] s= .inl s:=rfl
theorem bZ{σ α τ:Type}(step:σ->α->Sum σ τ)(x:α)(xs:List α)(s:σ):bg step (x::xs) s=match step s x with
 | .inl s'=>bg step xs s'
 | .inr t=>.inr t:=rfl
theorem Sw(a b:List Nat):Dg (.str a) (.str b)=some (!(a==b)):=rfl
theorem jD(a b:Int):G8 (.int a) (.int b)=some (decide (a=b)):=by
 unfold G8;show(if(0:Nat)<=50 then some (PyData.eqv (.int a) (.int b))else none)=_;rw[aw (by decide)];have e:PyData.eqv (.int a) (.int b)=(a==b):=by simp[PyData.eqv]
 rw[e];rfl
theorem Lz(a b:Int):Dg (.int a) (.int b)=some (!decide (a=b)):=by
 unfold Dg;rw[jD];rfl
theorem uI(a b:Int)(h: -(2^64)<b/\b<2^64):xw (.int a) (.int b)=some (.int (a*b)):=by show Option.or (if _ then some _ else _) _=_;rw[aw h];rfl
theorem Ac(a b:Int)(h:0<b/\b<1073741824):p9 (.int a) (.int b)=some (.int (a % b)):=by show(if _ then some _ else _)=_;rw[aw h,Int.fmod_eq_emod_of_nonneg _ (Int.le_of_lt h.1)]
theorem Gj(a b:Int)(h:0<b/\b<1073741824):Na (.int a) (.int b)=some (.int (a/b)):=by show(if _ then some _ else _)=_;rw[aw h,Int.fdiv_eq_ediv_of_nonneg _ (Int.le_of_lt h.1)]
theorem j7(a b:List Nat)(h:a.length+b.length<=most):nM (.str a) (.str b)=some (.str (a++b)):=by show Option.or (if _ then _ else _) _=_;rw[aw h];rfl
theorem uJ(a b:List V)(h:a.length+b.length<=most):nM (.list a) (.list b)=some (.list (a++b)):=by show(if _ then _ else _)=_;rw[aw h]
theorem on(a b:List Nat)(h:a.length+b.length<=most):Bl (.str a) (.str b)=some (.str (a++b)):=Jn a b h
theorem oo(a:List Nat)(h:a.length<=most):qX [.str a]=some (.int a.length):=uD rfl h
theorem oq(a:List V)(h:a.length<=most):qX [.list a]=some (.int a.length):=uD rfl h
theorem LA(a:List V)(h:a.length<=most):qX [.tup a]=some (.int a.length):=uD rfl h
noncomputable def sl{α:Type}(l:List α)(s e:Nat):List α:=(l.drop s).take (e-s)
theorem HJ(l:List Nat)(a b:Nat)(ha:a<=l.length)(hb:b<=l.length)(h:l.length<=most):eT (.str l) (some (a:Int)) (some (b:Int)) none=some (.str (sl l a b)):=by
 rw[nX,aw h,om,oj _ _ _ ha,oj _ _ _ hb];rfl
theorem Co(l:List Nat)(a:Nat)(ha:a<=l.length)(h:l.length<=most):eT (.str l) (some (a:Int)) none none=some (.str (sl l a l.length)):=by
 rw[nX,aw h,om,oj _ _ _ ha];rfl
theorem ma(l:List V)(x:V)(h:l.length<most):DY (.list l) [x]=some (.list (l++[x]),.none):=by rw[Nm,aw h]
theorem me(l:List V)(b:Nat)(h:l.length<=most):eT (.list l) none (some (b:Int)) none=some (.list (l.take b)):=by
 rw[nV,aw ⟨h,nofun⟩,uH];show some (V.list (l.take (clip (some (b:Int)) l.length l.length)))=_;by_cases q:b<=l.length
 ·rw[oj _ _ _ q]
 ·rw[Cl _ (y4 q),List.take_length,rQ (y4 q)]
theorem mf(l:List V)(a:Nat)(h:l.length<=most):eT (.list l) (some (a:Int)) none none=some (.list (l.drop a)):=by
 rw[nV,aw ⟨h,nofun⟩,uH];show some (V.list ((l.drop (clip (some (a:Int)) 0 l.length)).take (l.length-clip (some (a:Int)) 0 l.length)))=_;by_cases q:a<=l.length
 ·rw[oj _ _ _ q,rQ (iM m7)]
 ·rw[Cl _ (y4 q),va,uZ (y4 q),List.take_nil]
theorem ry(l:List Int):V.Fu (l.map .int)=some (l.map .int):=by
 induction l with
 |nil=>rfl
 |cons y l ih=>simp only[bn,V.sb,V.sd,V.tD,V.tE,V.tF,V.tG,V.tH,ih,m4]
theorem EH(l:List Int):PyData.depthAll (l.map .int)<=1:=by
 induction l with
 |nil=>simp[PyData.depthAll]
 |cons y l ih=>simp only[bn,PyData.depthAll,PyData.depth];omega
theorem HK(l:List Int):G8 (.list (l.map .int)) (.list [])=some l.isEmpty:=by
 rw[vl _ _ rfl];simp only[AX,V.tD,V.tE,V.tF,V.tG,V.tH,ry,m8,m4,V.sb,V.sd];rw[aw]
 ·cases l<;>rfl
 ·have:=EH l;simp only[PyData.depth];omega
theorem cR{α β:Type}(a:α)(f:α->Option β):(some a).bind f=f a:=by
 have h:∀o:Option α,o=some a->o.bind f=f a:=fun o e=>by subst e;rfl
 exact h _ rfl
theorem aq{f:al->Option V}{g:al->Option (List V)}{ρ:al}{x:V}{xs:List V}(hf:f ρ=some x)(hg:g ρ=some xs):aQ f g ρ=some (x::xs):=by
 unfold aQ;rw[hf,hg,cR,cR]
theorem ca{ρ:al}{i:Nat}{a:V}(h:ρ i=some a):upd ρ i a=ρ:=by
 funext j
 by_cases e:j=i
 ·subst e;rw[jf,h]
 ·rw[gZ _ _ e]
@[elab_as_elim] theorem ex1 {C:al->Prop} (ρ:al) {i:Nat} {a:V} (h1:ρ i=some a) (f:∀σ,C (upd σ i a)):C ρ:=by
 have:=f ρ;rwa[ca h1]at this
@[elab_as_elim] theorem ex2 {C:al->Prop} (ρ:al) {i j:Nat} {a b:V} (h1:ρ i=some a) (h2:ρ j=some b) (f:∀σ,C (upd (upd σ i a) j b)):C ρ:=by
 have:=f ρ;rwa[ca h1,ca h2]at this
@[elab_as_elim] theorem ex4 {C:al->Prop} (ρ:al) {i j k l:Nat} {a b c d:V} (h1:ρ i=some a) (h2:ρ j=some b) (h3:ρ k=some c) (h4:ρ l=some d) (f:∀σ,C (upd (upd (upd (upd σ i a) j b) k c) l d)):C ρ:=by
 have:=f ρ;rwa[ca h1,ca h2,ca h3,ca h4]at this
@[elab_as_elim] theorem ex3 {C:al->Prop} (ρ:al) {i j k:Nat} {a b c:V} (h1:ρ i=some a) (h2:ρ j=some b) (h3:ρ k=some c) (f:∀σ,C (upd (upd (upd σ i a) j b) k c)):C ρ:=by
 have:=f ρ;rwa[ca h1,ca h2,ca h3]at this
theorem bJ{F:List V->Option V}{f:al->Option V}{ρ:al}{x:V}{r}(hf:f ρ=some x)(hF:F [x]=r):eD F (aQ f fun ø=>some []) ρ=r:=by
 unfold eD aQ;rw[hf,cR,cR,cR];exact hF
theorem td{α:Type}{c:Option Bool}{t e r:Option α}(hc:c=some true)(h:t=r):(c.bind fun z=>if z=true then t else e)=r:=by
 subst hc;exact h
theorem j8{α:Type}{c:Option Bool}{t e r:Option α}(hc:c=some false)(h:e=r):(c.bind fun z=>if z=true then t else e)=r:=by
 subst hc;exact h
theorem bO{f g:al->Option (al×Fl)}{ρ am:al}{r}(h:f ρ=some (am,.next))(hg:g am=r):eO f g ρ=r:=by
 unfold eO;rw[h];exact hg
theorem Sx{f g:al->Option (al×Fl)}{ρ am:al}{v}(h:f ρ=some (am,.ret v)):eO f g ρ=some (am,.ret v):=by
 unfold eO;rw[h];rfl
theorem P9{a b:Int}(h:a=b):Dg (.int a) (.int b)=some false:=by rw[Lz,h];simp
theorem neT{a b:Int}(h:a≠b):Dg (.int a) (.int b)=some true:=by rw[Lz];simp[h]
theorem ba{F:V->V->Option Bool}{f g:al->Option V}{ρ:al}{x y:V}{r}(hf:f ρ=some x)(hg:g ρ=some y)(hF:F x y=r):qS F f g ρ=r:=by
 unfold qS;rw[hf,hg,cR,cR];exact hF
theorem pC{F:V->List V->Option (V×V)}{i:Nat}{f:al->Option V}{ρ:al}{y x:V}{r}(hy:ρ i=some y)(hf:f ρ=some x)(hF:F y [x]=some r):jg F i (aQ f fun ø=>some []) ρ=some (upd ρ i r.1,r.2):=by
 unfold jg aQ;rw[hy,hf,cR,cR,cR,cR,hF];rfl
theorem bh{α β:Type}{o:Option α}{a:α}{f:α->β}{b:Option β}(h:o=some a)(hb:some (f a)=b):o.map f=b:=by subst h;exact hb
@[elab_as_elim] theorem ex5 {C:al->Prop} (ρ:al) {i j k l m:Nat} {a b c d e:V} (h1:ρ i=some a) (h2:ρ j=some b) (h3:ρ k=some c) (h4:ρ l=some d) (h5:ρ m=some e) (f:∀σ,C (upd (upd (upd (upd (upd σ i a) j b) k c) l d) m e)):C ρ:=by
 have:=f ρ;rwa[ca h1,ca h2,ca h3,ca h4,ca h5]at this
theorem dy{α β:Type}{o:Option α}{a:α}{f:α->Option β}{r}(h:o=some a)(hf:f a=r):o.bind f=r:=by subst h;exact hf
theorem bu{F:V->V->Option V}{f g:al->Option V}{ρ:al}{x y:V}{r}(hf:f ρ=some x)(hg:g ρ=some y)(hF:F x y=r):dA F f g ρ=r:=dy hf (dy hg hF)
theorem eA{f:al->Option V}{a b c:al->Option (Option Int)}{ρ:al}{x p q s r}(hf:f ρ=some x)(ha:a ρ=some p)(hb:b ρ=some q)(hc:c ρ=some s)(h:eT x p q s=r):jm f a b c ρ=r:=dy hf (dy ha (dy hb (dy hc h)))
theorem md{f:al->Option V}{ρ:al}{a b:Int}(hf:f ρ=some (.int a))(h:decide (0<b/\b<1073741824)=true):dA p9 f (fun ø=>some (.int b)) ρ=some (.int (a % b)):=bu hf rfl (Ac a b (mH h))
theorem dv{f:al->Option V}{ρ:al}{a b:Int}(hf:f ρ=some (.int a))(h:decide (0<b/\b<1073741824)=true):dA Na f (fun ø=>some (.int b)) ρ=some (.int (a/b)):=bu hf rfl (Gj a b (mH h))
theorem ml{f:al->Option V}{ρ:al}{a b:Int}(hf:f ρ=some (.int a))(h:decide (-(2^64)<b/\b<2^64)=true):dA xw f (fun ø=>some (.int b)) ρ=some (.int (a*b)):=bu hf rfl (uI a b (mH h))
theorem ad{f g:al->Option V}{ρ:al}{a b:Int}(hf:f ρ=some (.int a))(hg:g ρ=some (.int b)):dA nM f g ρ=some (.int (a+b)):=bu hf hg rfl
theorem Qa{f g:al->Option Bool}{ρ:al}{a b:Bool}(hf:f ρ=some a)(hg:g ρ=some b):YK f g ρ=some (a||b):=dy hf (by cases a;exact hg;rfl)
theorem Sy{f g:al->Option Bool}{ρ:al}{a b:Bool}(hf:f ρ=some a)(hg:g ρ=some b):M9 f g ρ=some (a&&b):=dy hf (by cases a;rfl;exact hg)
theorem iD{α β:Type}(f:α->β)(l:List α)(x:α):l.map f++[f x]=(l++[x]).map f:=(List.map_append (f:=f) (l₁:=l) (l₂:=[x])).symm
theorem wI{α:Type}{p:α->Prop}{l:List α}{x:α}(h:∀e∈l,p e)(hx:p x):∀e∈l++[x],p e:=List.forall_mem_append.mpr ⟨h,List.forall_mem_singleton.mpr hx⟩
theorem cM{f g:al->Option V}{ρ:al}{x y:V}{r}(hf:f ρ=some x)(hg:g ρ=some y)(h:gt x y=r):f7 f g ρ=r:=dy hf (dy hg h)
theorem HL{F:V->List V->Option V}{f:al->Option V}{g:al->Option (List V)}{ρ:al}{y:V}{xs:List V}{r}(hf:f ρ=some y)(hg:g ρ=some xs)(h:F y xs=r):Q6 F f g ρ=r:=dy hf (dy hg h)
theorem e7{F:List V->Option V}{f:al->Option V}{g:al->Option (List V)}{ρ:al}{l xs:List V}{r}(hf:f ρ=some (.obj l))(hl:l.length=5)(hg:g ρ=some xs)(h:F (.obj l::xs)=r):z0 F f g ρ=r:=dy hf (dy (a:=l) rfl ((aw hl).trans (dy hg h)))
theorem LB{α:Type}{l:List α}{f:α->V}(h:l.length<=8):(l.map f).length<=most:=by rw[bi];exact aA h (by decide)
theorem mt8{α:Type}{l:List α}{f:α->V}(h:l.length<=8):(l.map f).length<most:=by rw[bi];exact gS h (by decide)
theorem LC{n:Nat}(h:n<=8):n<most:=gS h (by decide)
inductive V7(I:al->Prop)(E:al×Fl->Prop):al×Fl->Prop
 |nx {ρ:al} (h:I ρ):V7 I E (ρ,.next)
 |br {ρ:al} (h:E (ρ,.next)):V7 I E (ρ,.brk)
 |rt {ρ:al} {v:V} (h:E (ρ,.ret v)):V7 I E (ρ,.ret v)
theorem rz{α:Type}{asg:al->V->Option al}{body:al->Option (al×Fl)}(toV:α->V)(us:List α)(I:List α->al->Prop)(E:al×Fl->Prop)
  (step:∀l u l' ρ,l++u::l'=us->I l ρ->∃am,asg ρ (toV u)=some am/\∃r,body am=some r/\V7 (I (l++[u])) E r) (done:∀ρ,I us ρ->E (ρ,.next)) {ρ:al} (h0:I [] ρ):∃r,fg asg body (us.map toV) ρ=some r/\E r:=by
 have go:∀(l' l:List α) ρ,l++l'=us->I l ρ->∃r,fg asg body (l'.map toV) ρ=some r/\E r:=by
  intro l'
  induction l' with
  |nil=>exact fun l ρ e h=>⟨_,rfl,done ρ (by rw[<-e,gn];exact h)⟩
  |cons u l' ih=>
   intro l ρ e h;obtain⟨am,h1,r,h2,h3⟩:=step l u l' ρ e h;rw[bn,vq,h1,cR,h2,cR]
   cases h3 with
   |nx h=>exact ih (l++[u]) _ (by rw[List.append_assoc];exact e) h
   |br h=>exact⟨_,rfl,h⟩
   |rt h=>exact⟨_,rfl,h⟩
 exact go us [] ρ rfl h0
theorem Cp{α:Type}{asg:al->V->Option al}{body:al->Option (al×Fl)}(toV:α->V)(us:List α)(I:List α->al->Prop)
  (step:∀l u l' ρ,l++u::l'=us->I l ρ->∃am,asg ρ (toV u)=some am/\∃r,body am=some r/\r.2= .next/\I (l++[u]) r.1) {ρ:al} (h0:I [] ρ):∃r,fg asg body (us.map toV) ρ=some r/\r.2= .next/\I us r.1:=
 rz toV us I _ (fun l u l' ρ e h=>by
  obtain⟨am,h1,⟨fk,_⟩,h2,rfl,h3⟩:=step l u l' ρ e h;exact⟨am,h1,_,h2,.nx h3⟩) (fun ρ h=>⟨rfl,h⟩) h0
theorem ot{α:Type}{asg:al->V->Option al}{body:al->Option (al×Fl)}(toV:α->V)(us:List α)(I:List α->al->Prop)
  (step:∀l u ρ,u∈us->l.length<us.length->I l ρ->∃am fk,asg ρ (toV u)=some am/\body am=some (fk,.next)/\I (l++[u]) fk) {ρ:al} (h0:I [] ρ):∃r,fg asg body (us.map toV) ρ=some r/\r.2= .next/\I us r.1:=
 Cp toV us I (fun l u l' ρ e h=>by
  obtain⟨am,fk,h1,h2,h3⟩:=step l u ρ (by rw[<-e];exact bw _ dJ) (by rw[<-e,List.length_append];exact DK (nC _)) h;exact⟨am,h1,_,h2,rfl,h3⟩) h0
inductive X3(i j k l m:Nat)(a b c d e:V)(ρ:al):Prop
 |mk (h1:ρ i=some a) (h2:ρ j=some b) (h3:ρ k=some c) (h4:ρ l=some d) (h5:ρ m=some e)
@[elab_as_elim] theorem X3.ex {C:al->Prop} {ρ:al} {i j k l m:Nat} {a b c d e:V} (h:X3 i j k l m a b c d e ρ) (f:∀σ,C (upd (upd (upd (upd (upd σ i a) j b) k c) l d) m e)):C ρ:=ex5 ρ h.1 h.2 h.3 h.4 h.5 f
inductive Oo(i j k l:Nat)(a b c d:V)(ρ:al):Prop
 |mk (h1:ρ i=some a) (h2:ρ j=some b) (h3:ρ k=some c) (h4:ρ l=some d)
@[elab_as_elim] theorem Oo.ex {C:al->Prop} {ρ:al} {i j k l:Nat} {a b c d:V} (h:Oo i j k l a b c d ρ) (f:∀σ,C (upd (upd (upd (upd σ i a) j b) k c) l d)):C ρ:=ex4 ρ h.1 h.2 h.3 h.4 f
inductive V8(i j k l m n:Nat)(a b c d e f:V)(ρ:al):Prop
 |mk (h1:ρ i=some a) (h2:ρ j=some b) (h3:ρ k=some c) (h4:ρ l=some d) (h5:ρ m=some e) (h6:ρ n=some f)
@[elab_as_elim] theorem V8.ex {C:al->Prop} {ρ:al} {i j k l m n:Nat} {a b c d e g:V} (h:V8 i j k l m n a b c d e g ρ) (f:∀σ,C (upd (upd (upd (upd (upd (upd σ i a) j b) k c) l d) m e) n g)):C ρ:=by
 have:=f ρ;rwa[ca h.1,ca h.2,ca h.3,ca h.4,ca h.5,ca h.6]at this
inductive TX(i j k l m n o:Nat)(a b c d e f g:V)(ρ:al):Prop
 |mk (h1:ρ i=some a) (h2:ρ j=some b) (h3:ρ k=some c) (h4:ρ l=some d) (h5:ρ m=some e) (h6:ρ n=some f) (h7:ρ o=some g)
@[elab_as_elim] theorem TX.ex {C:al->Prop} {ρ:al} {i j k l m n o:Nat} {a b c d e g h':V} (h:TX i j k l m n o a b c d e g h' ρ) (f:∀σ,C (upd (upd (upd (upd (upd (upd (upd σ i a) j b) k c) l d) m e) n g) o h')):C ρ:=by
 have:=f ρ;rwa[ca h.1,ca h.2,ca h.3,ca h.4,ca h.5,ca h.6,ca h.7]at this
theorem Gl{k n:Nat}(h:k<n):ff (k:Int) n=some k:=by
 unfold ff;rw[aw (mF k),aw (nH.mpr h)];rfl
theorem gJ{xs:List V}{k:Nat}{b:V}(h:xs[k]?=some b)(hm:xs.length<=most):gt (.list xs) (.int k)=some b:=by
 rw[uC,aw hm,Gl (eX.mp h).1,cR,h]
theorem Op{xs:List V}{k:Nat}{b:V}(h:xs[k]?=some b)(hm:xs.length<=most):gt (.tup xs) (.int k)=some b:=by
 rw[zi,aw hm,Gl (eX.mp h).1,cR,h]
theorem get_mem{α:Type}{l:List α}{k:Nat}(h:k<l.length):∃e,l[k]?=some e:=⟨_,dX h⟩
theorem EI{F:V->List V->Option (V×V)}{i:Nat}{g:al->Option (List V)}{ρ:al}{y:V}{xs:List V}{r}(hy:ρ i=some y)(hx:g ρ=some xs)(hF:F y xs=some r):jg F i g ρ=some (upd ρ i r.1,r.2):=dy hy (dy hx (bh hF rfl))
theorem int_at{xs:List Int}{i:Int}(h0:0<=i)(h1:i<xs.length)(hm:xs.length<=most):∃b∈xs,xs[i.toNat]?=some b/\gt (.list (xs.map .int)) (.int i)=some (.int b):=by
 obtain⟨k,rfl⟩:=Dw h0;obtain⟨b,hb⟩:=get_mem (nH.mp h1);exact⟨b,mE hb,hb,gJ (by rw[bL,hb];rfl) (by rw[bi];exact hm)⟩
theorem xJ{i:Nat}{f:al->Option V}{g:al->Option (al×Fl)}{ρ:al}{v:V}{r}(h:f ρ=some v)(hg:g (upd ρ i v)=r):eO (fun ρ=>Option.map (fun y=>(upd ρ i y,.next)) (f ρ)) g ρ=r:=bO (bh h rfl) hg
theorem Sz{F:V->List V->Option (V×V)}{i:Nat}{xf:al->Option (List V)}{g:al->Option (al×Fl)}{ρ:al}{y:V}{xs:List V}{y' z:V}{r}(hy:ρ i=some y)(hx:xf ρ=some xs)(hF:F y xs=some (y',z))(hg:g (upd ρ i y')=r):eO (fun ρ=>Option.map (fun r=>(r.1,.next)) (jg F i xf ρ)) g ρ=r:=bO (bh (EI hy hx hF) rfl) hg
theorem EJ{F:V->V->Option V}{i:Nat}{f:al->Option V}{g:al->Option (al×Fl)}{ρ:al}{x y z:V}{r}(hx:ρ i=some x)(hf:f ρ=some y)(hF:F x y=some z)(hg:g (upd ρ i z)=r):eO (fun ρ=>(ρ i).bind fun a=>(f ρ).bind fun b=>Option.map (fun c=>(upd ρ i c,.next)) (F a b)) g ρ=r:=bO (dy hx (dy hf (bh hF rfl))) hg
theorem hU{σ α τ:Type}(step:σ->α->Sum σ τ):∀(l l':List α) (s:σ),bg step (l++l') s=match bg step l s with
  | .inl s'=>bg step l' s'
  | .inr t=>.inr t
 |[],l',s=>rfl
 |x::l,l',s=>by
  simp only[List.cons_append,cQ,bZ]
  cases step s x with
  |inl s'=>exact hU step l l' s'
  |inr t=>rfl
theorem dR{σ α τ:Type}{step:σ->α->Sum σ τ}{l:List α}{u:α}{s s':σ}{r}(h:bg step l s= .inl s')(hs:step s' u= .inl r):bg step (l++[u]) s= .inl r:=by
 rw[hU,h];show bg step [u] s'=_;rw[bZ,hs];rfl
theorem lr{σ α τ:Type}{step:σ->α->Sum σ τ}{l l':List α}{u:α}{s s':σ}{r}(h:bg step l s= .inl s')(hs:step s' u= .inr r):bg step (l++u::l') s= .inr r:=by
 rw[hU,h];show bg step (u::l') s'=_;rw[bZ,hs]
theorem LD{f g:al->Option (al×Fl)}{ρ am:al}(h:f ρ=some (am,.brk)):eO f g ρ=some (am,.brk):=by
 unfold eO;rw[h];rfl
theorem V9{F:V->V->V->Option V}{i:Nat}{f g:al->Option V}{k:al->Option (al×Fl)}{ρ:al}{v y j y':V}{r}(hf:f ρ=some v)(hy:ρ i=some y)(hg:g ρ=some j)(hF:F y j v=some y')(hk:k (upd ρ i y')=r):
 eO (fun ρ=>(f ρ).bind fun v=>(ρ i).bind fun y=>(g ρ).bind fun j=>Option.map (fun y'=>(upd ρ i y',.next)) (F y j v)) k ρ=r:=bO (dy hf (dy hy (dy hg (bh hF rfl)))) hk
noncomputable def kA:Cx:={vars:=[(Qr,.local,false),(T6,.local,false),(s32,.local,false),(s33,.local,true),(T4,.local,false),(Qs,.local,false)],aM:=[s5,vj]}
noncomputable def dS{P:Pk}{n:Nat}{aN:Addr}(cq:P.glob s5=some (.ref aN))(bS:Cb P aN)(cb:P.glob vj=some (.builtin "len")):{f:al->Option (al×Fl)//qa P n kA (dz (aJ pq.main.body 3)) f}:=⟨_,(@ac _ _ _ _ _ _ _ (@aT _ _ _ _ _ _ _ _ _ _ (aR Nh (aC rfl) (ae (Z 0 rfl rfl rfl)) rfl) (@ac _ _ _ _ _ _ _ (aX (ae (Z 0 rfl rfl rfl))) aj) aj) (@ac _ _ _ _ _ _ _ (aD 1 rfl (by decide) aa cp) (@ac _ _ _ _ _ _ _ (aD 2 rfl (by decide) lI cp) (@ac _ _ _ _ _ _ _ (dh 3 rfl (by decide) (fT ab (by decide) len0) cp) (@ac _ _ _ _ _ _ _ (@qj _ _ _ (false) _ _ _ _ _ _ _ (@n8 _ _ _ _ _ _ _ _ _ rfl cq rfl bS (O (ae (Z 0 rfl rfl rfl)) ab ir) ir (cf _ _)) (@da _ _ _ _ _ _ _ (ay (ap 4 rfl (by decide) (by decide)) (ay (ap 5 rfl (by decide) (by decide)) bX)) (aE (aE cH)) ir) (@ac _ _ _ _ _ _ _ (@aT _ _ _ _ _ _ _ _ _ _ (aR qU (ae (Z 5 rfl rfl rfl)) (aC rfl) rfl) (@ac _ _ _ _ _ _ _ (@aT _ _ _ _ _ _ _ _ _ _ (aR Uc (ae (Z 2 rfl rfl rfl)) lI rfl) (ac (aD 2 rfl (by decide) (Z 4 rfl rfl rfl) cp) aj) (@ac _ _ _ _ _ _ _ (@aT _ _ _ _ _ _ _ _ _ _ (aR vm (ae (Z 1 rfl rfl rfl)) (ae (Z 2 rfl rfl rfl)) rfl) (@ac _ _ _ _ _ _ _ (@di _ _ _ _ _ _ (@cu _ _ _ 3 _ _ _ _ _ _ _ _ _ rfl rfl rfl qV (@O _ _ _ _ _ _ _ _ (@bC _ _ _ _ _ _ _ _ _ _ _ _ _ _ (Z 0 rfl rfl rfl) (bt (ae (Z 1 rfl rfl rfl))) (bt (ae (Z 2 rfl rfl rfl))) aO) ab ir) ir (by decide) rfl ir) gI ir) aj) aj) (@ac _ _ _ _ _ _ _ (aD 1 rfl (by decide) (ai cy (Z 4 rfl rfl rfl) aa) cp) (ac (aD 2 rfl (by decide) lI cp) aj)))) aj) aj) aj) cp) (@ac _ _ _ _ _ _ _ (@aT _ _ _ _ _ _ _ _ _ _ (@aR _ _ _ _ _ _ _ _ _ _ Nf (ae (Z 1 rfl rfl rfl)) (@aI _ _ _ _ _ _ _ _ _ _ _ rfl cb rfl jn (O (ae (Z 0 rfl rfl rfl)) ab ir) ir (cf _ _)) rfl) (@ac _ _ _ _ _ _ _ (@di _ _ _ _ _ _ (@cu _ _ _ 3 _ _ _ _ _ _ _ _ _ rfl rfl rfl qV (@O _ _ _ _ _ _ _ _ (@bC _ _ _ _ _ _ _ _ _ _ _ _ _ _ (Z 0 rfl rfl rfl) (bt (ae (Z 1 rfl rfl rfl))) aO aO) ab ir) ir (by decide) rfl ir) gI ir) aj) aj) (@ac _ _ _ _ _ _ _ (@aX _ _ _ _ _ _ (eE (aC rfl) qY (O (cG 3 rfl rfl rfl) ab ir) ir (by decide) rfl ir)) aj)))))))⟩
noncomputable def o0:Cx:={vars:=[(Qr,.local,false),(Ft,.local,false),(T4,.local,false),(Qs,.local,false)],aM:=[s6,s5]}
noncomputable def fY{P:Pk}{n:Nat}{aL:Addr}{bG:List V->Option V}(dC:P.glob s6=some (.ref aL))(dD:∀h,P.G h->∃o fd,h.get? aL=some o/\o.data= .func fd)(dF:aZ P n (.ref aL) bG){aN:Addr}(cq:P.glob s5=some (.ref aN))(bS:Cb P aN):{f:al->Option (al×Fl)//qa P n o0 (dz (aJ pq.main.body 4)) f}:=⟨_,(@ac _ _ _ _ _ _ _ (@aD _ _ _ 0 _ _ _ _ _ _ rfl (by decide) (bq rfl dC rfl dD dF (O (Z 0 rfl rfl rfl) ab ir) ir (cf _ _)) cp) (@ac _ _ _ _ _ _ _ (aD 1 rfl (by decide) aa cp) (@ac _ _ _ _ _ _ _ (@qj _ _ _ (false) _ _ _ _ _ _ _ (@n8 _ _ _ _ _ _ _ _ _ rfl cq rfl bS (O (ae (Z 0 rfl rfl rfl)) ab ir) ir (cf _ _)) (@da _ _ _ _ _ _ _ (ay (ap 2 rfl (by decide) (by decide)) (ay (ap 3 rfl (by decide) (by decide)) bX)) (aE (aE cH)) ir) (@ac _ _ _ _ _ _ _ (@aT _ _ _ _ _ _ _ _ _ _ (aR qU (ae (Z 3 rfl rfl rfl)) (aC rfl) rfl) (ac (i2 1 rfl (by decide) rfl rfl vz aa) aj) (@ac _ _ _ _ _ _ _ (@aT _ _ _ _ _ _ _ _ _ _ (aR qU (ae (Z 3 rfl rfl rfl)) (aC rfl) rfl) (@ac _ _ _ _ _ _ _ (i2 1 rfl (by decide) rfl rfl QW aa) (@ac _ _ _ _ _ _ _ (@aT _ _ _ _ _ _ _ _ _ _ (aR Nf (ae (Z 1 rfl rfl rfl)) aa rfl) (ac (aX df) aj) aj) aj)) aj) aj)) aj) cp) (@ac _ _ _ _ _ _ _ (@aX _ _ _ _ _ _ (kQ qU (ae (Z 1 rfl rfl rfl)) aa rfl)) aj))))⟩
noncomputable def Ad(p:Nat):List (List Nat)->List (Nat×List Nat)
 |[]=>[]
 |u::us=>(p+u.length-1,u)::Ad (p+u.length) us
theorem Gm(p:Nat):Ad p []=[]:=rfl
theorem Ae(p:Nat)(u:List Nat)(us:List (List Nat)):Ad p (u::us)=(p+u.length-1,u)::Ad (p+u.length) us:=rfl
noncomputable def Af(u:List Nat):Bool:=match u with
 |[c]=>c != 92
 |[c,_]=>c==92
 |_=>false
noncomputable def jS:List (List Nat)->Bool
 |[]=>true
 |[u]=>Af u||u==[92]
 |u::us=>Af u&&jS us
theorem oM:jS []=true:=rfl
theorem oN(u:List Nat):jS [u]=(Af u||u==[92]):=rfl
theorem oO(u v:List Nat)(us:List (List Nat)):jS (u::v::us)=(Af u&&jS (v::us)):=rfl
theorem Cq{u:List Nat}(h:Af u=true)(p:Nat)(l:List Nat):hO p false (u++l)=(p+u.length-1,u)::hO (p+u.length) false l:=by
 cases u with
 |nil=>cases h
 |cons c u=>cases u with
  |nil=>
   have h:¬c=92:=fun e=>by rw[e]at h;cases h
   exact az h
  |cons d u=>cases u with
   |nil=>
    obtain rfl:=eq_of_beq h;rfl
   |cons=>cases h
theorem yq:∀(us:List (List Nat)) (p:Nat),jS us=true->hO p false us.flatten=Ad p us
 |[],p,_=>rfl
 |[u],p,h=>by
  simp only[oM,oN,oO,nb,jW]at h;rcases h with h|rfl
  ·have:=Cq h p []
   simpa[Gm,Ae,zX,FX,zY,uF]using this
  ·simp[Gm,Ae,zX,FX,zY,uF]
 |u::v::us,p,h=>by
  simp only[oM,oN,oO,dI]at h;rw[gA,Cq h.1,yq (v::us) _ h.2];rfl
noncomputable def dG(st:List (List Nat)×Option (List (List Nat)))(u:List Nat):List (List Nat)×Option (List (List Nat)):=match st.2 with
 |none=>if u=[34]then(st.1,some [u])else(st.1++[u],none)
 |some q=>if u=[34]then(st.1,none)else(st.1,some (q++[u]))
noncomputable def gk(us:List (List Nat)):List (List Nat):=(us.foldl dG ([],none)).1++(us.foldl dG ([],none)).2.getD []
theorem wJ(us:List (List Nat)):(gk us).flatten.length<=us.flatten.length:=by
 have go:∀(us:List (List Nat)) (st:List (List Nat)×Option (List (List Nat))),(us.foldl dG st).1.flatten.length+((us.foldl dG st).2.getD []).flatten.length<=st.1.flatten.length+(st.2.getD []).flatten.length+us.flatten.length:=by
  intro us
  induction us with
  |nil=>intro st;simp
  |cons u us ih=>
   intro st;rw[eJ];refine aA (ih _) ?_;obtain⟨k,q⟩:=st;have:(dG (k,q) u).1.flatten.length+((dG (k,q) u).2.getD []).flatten.length<=k.flatten.length+(q.getD []).flatten.length+u.length:=by
    cases q<;>simp only[dG]<;>split<;>simp[gr]<;>omega
   simp only[gA,List.length_append];omega
 have:=go us ([],none);unfold gk;simpa[gr]using this
noncomputable def Ends(f:al->Option (al×Fl))(ρ:al)(v:V):Prop:=∃aY,f ρ=some (aY,.ret v)
theorem bm{f g ρ am v}(h:f ρ=some (am,.next))(hg:Ends g am v):Ends (eO f g) ρ v:=by
 obtain⟨aY,e⟩:=hg;exact⟨aY,dy h e⟩
theorem ft{f g ρ v}(h:Ends f ρ v):Ends (eO f g) ρ v:=by
 obtain⟨aY,e⟩:=h;exact⟨aY,dy e rfl⟩
theorem iE{f g ρ v}(R:al->Prop)(h:∃r,f ρ=some r/\r.2= .next/\R r.1)(hg:∀am,R am->Ends g am v):Ends (eO f g) ρ v:=by
 obtain⟨⟨am,fl⟩,e,rfl,q⟩:=h;exact bm e (hg _ q)
theorem wK{f g ρ v}(h:∃r,f ρ=some r/\(r.2= .ret v\/(r.2= .next/\Ends g r.1 v))):Ends (eO f g) ρ v:=by
 obtain⟨⟨am,fl⟩,e,h⟩:=h;dsimp only at h;rcases h with rfl|⟨rfl,h⟩
 ·exact ft ⟨_,e⟩
 ·exact bm e h
theorem iS{it asg bf}{ρ:al}{xs:List V}{Q:al×Fl->Prop}(hi:it ρ=some xs)(h:∃r,fg asg bf xs ρ=some r/\Q r):∃r,Hb it asg bf ρ=some r/\Q r:=by
 obtain⟨r,e,q⟩:=h;exact⟨r,by simp[Hb,hi,e],q⟩
noncomputable def te(f:al->Option (al×Fl))(ρ:al)(Q:V->Prop):Prop:=∃v,Q v/\Ends f ρ v
theorem fu{f g ρ am Q}(h:f ρ=some (am,.next))(hg:te g am Q):te (eO f g) ρ Q:=let⟨v,q,e⟩:=hg;⟨v,q,bm h e⟩
theorem wL{f g ρ Q}(h:te f ρ Q):te (eO f g) ρ Q:=let⟨v,q,e⟩:=h;⟨v,q,ft e⟩
theorem tX{f g ρ Q}(R:al->Prop)(h:∃r,f ρ=some r/\r.2= .next/\R r.1)(hg:∀am,R am->te g am Q):te (eO f g) ρ Q:=by
 obtain⟨⟨am,fl⟩,e,rfl,q⟩:=h;exact fu e (hg _ q)
theorem jE{i:Nat}{f:al->Option V}{g ρ Q}{v:V}(h:f ρ=some v)(hg:te g (upd ρ i v) Q):te (eO (fun ρ=>Option.map (fun y=>(upd ρ i y,.next)) (f ρ)) g) ρ Q:=fu (bh h rfl) hg
theorem yr{f:al->Option V}{g ρ}{Q:V->Prop}{v:V}(h:f ρ=some v)(q:Q v):te (eO (fun ρ=>Option.map (fun x=>(ρ,.ret x)) (f ρ)) g) ρ Q:=wL ⟨v,q,ρ,bh h rfl⟩
theorem gm{i:Nat}{f:al->Option V}{g ρ v}{x:V}(h:f ρ=some x)(hg:Ends g (upd ρ i x) v):Ends (eO (fun ρ=>Option.map (fun y=>(upd ρ i y,.next)) (f ρ)) g) ρ v:=bm (bh h rfl) hg
theorem eS{f:al->Option V}{g ρ}{v:V}(h:f ρ=some v):Ends (eO (fun ρ=>Option.map (fun x=>(ρ,.ret x)) (f ρ)) g) ρ v:=ft ⟨ρ,bh h rfl⟩
theorem oP:∀ts:List (List Nat),nY [] ts=ts.flatten
 |[]=>rfl
 |[x]=>by simp[jo,jp,jq]
 |x::y::r=>by simp[jo,jp,jq,oP (y::r)]
theorem i5:∀ts:List (List Nat),j3 (ts.map .str)=some ts
 |[]=>rfl
 |x::r=>by simp[Ju,Jv,i5 r]
theorem joinOk_of(sep:List Nat)(ts:List (List Nat))(h:ts.flatten.length+ts.length*sep.length<=1000000):JoinOk (pyStr sep) (ts.map pyStr)=true:=by
 unfold JoinOk;have e:∀(l:List (List Nat)) (k:Nat),(l.map pyStr).foldl (fun(n:Nat) (x:Str)=>n+x.length+(pyStr sep).length) k=k+(l.flatten.length+l.length*sep.length):=by
  intro l
  induction l with
  |nil=>intro k;simp
  |cons x l ih=>
   intro k;simp only[bn,eJ,ih,gA,List.length_append,bA];have e1:(pyStr x).length=x.length:=by simp[pyStr,Str.length]
   have e2:(pyStr sep).length=sep.length:=by simp[pyStr,Str.length]
   rw[e1,e2,Nat.add_one_mul];omega
 have e3:Builtin.Str.tooLong ((ts.map pyStr).toArray.foldl (fun n x=>n+x.length+(pyStr sep).length) 0)=false:=by
  rw[List.foldl_toArray];rw[e];unfold Builtin.Str.tooLong;rw[gR];simp only[uW,kM,gt_iff_lt];omega
 rw[e3];rfl
theorem EK(l:List Nat){s e f:Nat}(h1:s<=e)(h2:e<=f):sl l s e++sl l e f=sl l s f:=by
 unfold sl;have:f-s=(e-s)+(f-e):=(Nat.sub_add_sub_cancel h2 h1).symm.trans (Nat.add_comm _ _);rw[this,List.take_add,List.drop_drop];rw[vf h1]
theorem Ag(l:List Nat)(s:Nat):sl l s s=[]:=by simp[sl]
theorem Oq{l l' us:List (List Nat)}{u:List Nat}(h:l++u::l'=us):sl us.flatten l.flatten.length (l.flatten.length+u.length)=u/\l.flatten.length+u.length<=us.flatten.length:=by
 rw[<-h,gr,gA];unfold sl;rw[List.drop_left,Nat.add_sub_cancel_left,List.take_left,List.length_append,List.length_append];exact⟨rfl,by omega⟩
theorem wM:∀(us:List (List Nat)) (k:List (List Nat)),(∀u∈us,u≠[34])->us.foldl dG (k,none)=(k++us,none)
 |[],k,_=>by simp
 |u::us,k,h=>by
  rw[eJ];have:dG (k,none) u=(k++[u],none):=by simp[dG,h u dJ]
  rw[this,wM us _ fun v hv=>h v (cw _ hv)];simp
inductive LE(us:List (List Nat))(n p:Nat)(ρ:al):List (List Nat)×Option (List (List Nat))->Prop
 |no {k} (s:Nat) (res:List (List Nat)) (h0:ρ 0=some (.str us.flatten)) (h1:ρ 1=some (.int s)) (h2:ρ 2=some .none) (h3:ρ 3=some (.list (res.map .str))) (hl:res.length<=n) (hs:s<=p) (hk:res.flatten++sl us.flatten s p=k.flatten):LE us n p ρ (k,none)
 |op {k q} (s o:Nat) (res:List (List Nat)) (h0:ρ 0=some (.str us.flatten)) (h1:ρ 1=some (.int s)) (h2:ρ 2=some (.int o)) (h3:ρ 3=some (.list (res.map .str))) (hl:res.length<=n) (hs:s<=o) (ho:o<p) (hk:res.flatten++sl us.flatten s o=k.flatten) (hq:sl us.flatten o p=q.flatten):LE us n p ρ (k,some q)
theorem LE.last{us:List (List Nat)}{n:Nat}{ρ:al}{st}{C:Prop}(h:LE us n us.flatten.length ρ st)(k:∀(s:Nat) (res:List (List Nat)),ρ 0=some (.str us.flatten)->ρ 1=some (.int s)->ρ 3=some (.list (res.map .str))->res.length<=n->s<=us.flatten.length->res.flatten++sl us.flatten s us.flatten.length=(st.1++st.2.getD []).flatten->C):C:=by
 cases h with
 |no s res h0 h1 h2 h3 hl hs hk=>exact k s res h0 h1 h3 hl hs (hk.trans (by rw[Option.getD_none,gn]))
 |op s o res h0 h1 h2 h3 hl hs ho hk hq=>exact k s res h0 h1 h3 hl (aA hs (eY ho)) (by rw[<-EK us.flatten hs (eY ho),<-List.append_assoc,hk,hq,kP,gr])
theorem SA{us:List (List Nat)}{res:List (List Nat)}{s e:Nat}{k:List (List Nat)}(hk:res.flatten++sl us.flatten s e=k.flatten):(res++[sl us.flatten s e]).flatten=k.flatten:=by
 rw[gr,nI,hk]
theorem LF{us:List (List Nat)}{r:List Nat}{e:Nat}{k:List Nat}(hk:r=k):r++sl us.flatten e e=k:=by rw[Ag,gn,hk]
theorem Cr{us res:List (List Nat)}(h:res.flatten=(gk us).flatten)(hl:us.flatten.length<=10000){ρ:al}(h3:ρ 3=some (.list (res.map .str))):Q6 tN (fun ø=>some (.str [])) (aQ (fun ρ=>ρ 3) fun ø=>some []) ρ=some (.str (gk us).flatten):=by
 have hf:res.flatten.length<=1000000:=by rw[h];exact aA (wJ us) (aA hl (by decide))
 unfold Q6 aQ;dsimp only;rw[h3,cR,cR,cR,cR,uE,i5,cR,aw (joinOk_of [] res (by simpa using hf)),oP,h]
theorem LG{res:List (List Nat)}{n:Nat}(x:V)(h:res.length<=n)(hn:n<=10000):DY (.list (res.map .str)) [x]=some (.list (res.map .str++[x]),.none):=ma _ _ (by rw[bi];exact gS h (gS hn (by decide)))
theorem EL{us:List (List Nat)}{f:al->Option V}{ρ:al}(h0:f ρ=some (.str us.flatten))(hm:us.flatten.length<=most)(h:jS us=true):((aQ f fun ø=>some []) ρ).bind Sh=some ((Ad 0 us).map mL):=
 dy (aq h0 rfl) (by rw[Si,aw hm,yq us 0 h])
theorem tY{asg:al->V->Option al}{body:al->Option (al×Fl)}(ws:List (List Nat))(I:List (List Nat)->al->Prop)(E:al×Fl->Prop)
  (step:∀l u l' ρ,l++u::l'=ws->I l ρ->∃am,asg ρ (mL (l.flatten.length+u.length-1,u))=some am/\∃r,body am=some r/\V7 (I (l++[u])) E r) (done:∀ρ,I ws ρ->E (ρ,.next)) {ρ:al} (h0:I [] ρ):∃r,fg asg body ((Ad 0 ws).map mL) ρ=some r/\E r:=by
 have go:∀(l' l:List (List Nat)) ρ,l++l'=ws->I l ρ->∃r,fg asg body ((Ad l.flatten.length l').map mL) ρ=some r/\E r:=by
  intro l'
  induction l' with
  |nil=>exact fun l ρ e h=>⟨_,rfl,done ρ (by rw[<-e,gn];exact h)⟩
  |cons u l' ih=>
   intro l ρ e h;obtain⟨am,h1,r,h2,h3⟩:=step l u l' ρ e h;rw[Ae,bn,vq,h1,cR,h2,cR]
   cases h3 with
   |nx h=>
    have:=ih (l++[u]) _ (by rw[List.append_assoc];exact e) h;rwa[gr,nI,List.length_append]at this
   |br h=>exact⟨_,rfl,h⟩
   |rt h=>exact⟨_,rfl,h⟩
 exact go ws [] ρ rfl h0
theorem wN{asg:al->V->Option al}{body:al->Option (al×Fl)}(ws:List (List Nat))(I:List (List Nat)->al->Prop)
  (step:∀l u l' ρ,l++u::l'=ws->I l ρ->∃am fk,asg ρ (mL (l.flatten.length+u.length-1,u))=some am/\body am=some (fk,.next)/\I (l++[u]) fk) {ρ:al} (h0:I [] ρ):∃r,fg asg body ((Ad 0 ws).map mL) ρ=some r/\r.2= .next/\I ws r.1:=
 tY ws I _ (fun l u l' ρ e h=>by
  obtain⟨am,fk,h1,h2,h3⟩:=step l u l' ρ e h;exact⟨am,h1,_,h2,.nx h3⟩) (fun ρ h=>⟨rfl,h⟩) h0
theorem uK(l:List (List Nat))(u:List Nat):(l++[u]).flatten=l.flatten++u:=by rw[gr,nI]
theorem HM{P:Pk}{n:Nat}{a:Addr}{g gen gl}{us:List (List Nat)}(h:jS us=true)(hl:us.flatten.length<=10000)(hn:us.length<=10000){ρ:al}(h0:ρ 0=some (.str us.flatten)):
  Ends (dS (P:=P) (n:=n) (aN:=a) g gen gl).1 ρ (.str (gk us).flatten):=by
 have hm:us.flatten.length<=most:=aA hl (by decide);unfold dS;by_cases hq:34∈us.flatten
 case neg=>
  refine ft ⟨ρ,td (ba rfl h0 (congrArg (fun b=>some !b) (mG hq))) ?_⟩;have e:gk us=us:=by
   unfold gk;rw[wM us [] fun u hu z=>hq (List.mem_flatten.mpr ⟨u,hu,by rw[z];exact List.mem_singleton_self _⟩)];exact gn _
  rw[e];dsimp only[eO];rw[h0];rfl
 refine bm (am:=ρ) (j8 (ba rfl h0 (congrArg (fun b=>some !b) (eK hq))) rfl) (bm rfl (bm rfl (bm rfl ?_)));refine iE (fun ρ=>LE us us.length us.flatten.length ρ (us.foldl dG ([],none))) (iS (EL h0 hm h) (wN us (fun l ρ=>LE us l.length l.flatten.length ρ (l.foldl dG ([],none))) (fun l u l' ρ hx hR=>?_) (.no 0 [] h0 rfl rfl rfl (cF _) (cF _) rfl))) fun am hR=>?_
 ·obtain⟨hsu,so⟩:=Oq hx
  have de:l.length<us.length:=by rw[<-hx,List.length_append];exact DK (nC _)
  rw[uK,List.length_append,List.length_append,na,eJ,p7];generalize l.foldl dG ([],none)=st at*;generalize l.flatten.length=p at*;generalize l.length=i at*;by_cases Os:u=[34]
  ·subst Os
   cases hR with
   |no s res h0 h1 h2 h3 hl hs hk=>exact ex4 ρ h0 h1 h2 h3 fun σ=>⟨_,_,rfl,rfl,LE.op s p res rfl rfl rfl rfl (i9 hl) hs (m3 p) hk (hsu.trans rfl)⟩
   |op s o res h0 h1 h2 h3 hl hs ho hk hq=>
    by_cases hz:s=o
    ·subst hz
     exact ex4 ρ h0 h1 h2 h3 fun σ=>⟨_,_,rfl,bO (td rfl (bO (j8 rfl (bO (j8 (ba rfl rfl (P9 rfl)) rfl) rfl)) rfl)) rfl,LE.no (p+1) res rfl rfl rfl rfl (i9 hl) (cF _) (LF (by rw[<-hk,Ag,gn]))⟩
    ·exact ex4 ρ h0 h1 h2 h3 fun σ=>⟨_,_,rfl,bO (td rfl (bO (j8 rfl (bO (td (ba rfl rfl (neT fun e=>hz (rX e))) (bO (bh (pC rfl (HJ us.flatten s o (by omega) (by omega) hm) (LG _ hl (by omega))) rfl) rfl)) rfl)) rfl)) rfl,LE.no (p+1) (res++[sl us.flatten s o]) rfl rfl rfl (by rw[List.map_append];rfl) (by rw[List.length_append];exact jb hl) (cF _) (LF (SA hk))⟩
  ·have hb:(u==[34])=false:=pi.mpr Os
   cases hR with
   |no s res h0 h1 h2 h3 hl hs hk=>
    have e:dG (k,none) u=(k++[u],none):=az Os;rw[e];exact ex4 ρ h0 h1 h2 h3 fun σ=>⟨_,_,rfl,bO (j8 (congrArg some hb) rfl) rfl,LE.no s res rfl rfl rfl rfl (i9 hl) (by omega) (by rw[<-EK us.flatten hs (nA p u.length),hsu,<-List.append_assoc,hk,gr,nI])⟩
   |op s o res h0 h1 h2 h3 hl hs ho hk hq=>
    have e:dG (k,some q) u=(k,some (q++[u])):=az Os;rw[e];exact ex4 ρ h0 h1 h2 h3 fun σ=>⟨_,_,rfl,bO (j8 (congrArg some hb) rfl) rfl,LE.op s o res rfl rfl rfl rfl (i9 hl) hs (by omega) hk (by rw[<-EK us.flatten (eY ho) (nA p u.length),hsu,hq,gr,nI])⟩
 ·exact hR.last fun s res h0 h1 h3 hr hs hk=>ex3 am h0 h1 h3 fun σ=>by
   by_cases de:s<us.flatten.length
   ·exact bm (td (ba rfl (bJ rfl (oo _ hm)) (congrArg some (eK (nH.mpr de)))) (bO (bh (pC rfl (Co us.flatten s hs hm) (LG _ hr hn)) rfl) rfl)) (ft ⟨_,bh (Cr (res:=res++[sl us.flatten s us.flatten.length]) (by rw[gr,nI,hk];rfl) hl (by rw[List.map_append];rfl)) rfl⟩)
   ·obtain rfl:s=us.flatten.length:=Nat.le_antisymm hs (yL de)
    rw[Ag,gn]at hk;exact bm (j8 (ba rfl (bJ rfl (oo _ hm)) (congrArg some (mG fun e=>de (nH.mp e)))) rfl) (ft ⟨_,bh (Cr (res:=res) (hk.trans rfl) hl rfl) rfl⟩)
noncomputable def ou(d:Nat)(u:List Nat):Sum Nat Unit:=if u=[40]then .inl (d+1)else if u=[41]then(if d=0 then .inr ()else .inl (d-1))else .inl d
noncomputable def qo(us:List (List Nat)):Bool:=match bg ou us 0 with
 | .inl d=>d==0
 | .inr _=>false
theorem HN{P:Pk}{n:Nat}{a a':Addr}{F g h c g' gen}{us ws:List (List Nat)}{t:List Nat}(hF:F [.str t]=some (.str ws.flatten))(hs:jS ws=true)(hl:ws.flatten.length<=10000){ρ:al}(h0:ρ 0=some (.str t)):
  Ends (fY (P:=P) (n:=n) (aL:=a) (bG:=F) (aN:=a') g h c g' gen).1 ρ (.bool (qo ws)):=by
 have hm:ws.flatten.length<=most:=aA hl (by decide);unfold fY;refine gm (bJ h0 hF) (bm rfl (wK (iS (EL rfl hm hs) (tY ws (fun l ρ=>∃d:Nat,ρ 1=some (.int d)/\bg ou l 0= .inl d) _ (fun l u l' ρ hx hR=>?_) (fun ρ hR=>.inr ⟨rfl,?_⟩) ⟨0,rfl,rfl⟩))))
 ·obtain⟨d,hd,hf⟩:=hR
  by_cases e1:u=[40]
  ·subst e1
   exact ex1 ρ hd fun σ=>⟨_,rfl,_,rfl,.nx ⟨d+1,rfl,dR hf rfl⟩⟩
  ·have c1:(u==[40])=false:=pi.mpr e1
   by_cases e2:u=[41]
   ·subst e2
    cases d with
    |zero=>
     have e:qo ws=false:=by unfold qo;rw[<-hx,lr hf rfl]
     exact ex1 ρ hd fun σ=>⟨_,rfl,_,rfl,.rt (.inl (by rw[e]))⟩
    |succ k=>exact ex1 ρ hd fun σ=>⟨_,rfl,_,bO (j8 rfl (bO (td rfl (bO rfl (bO (j8 (congrArg some (mG (by omega))) rfl) rfl))) rfl)) rfl,.nx ⟨k,congrArg (fun z=>some (V.int z)) (by omega),dR hf rfl⟩⟩
   ·have c2:(u==[41])=false:=pi.mpr e2
    exact ex1 ρ hd fun σ=>⟨_,rfl,_,bO (j8 (congrArg some c1) (bO (j8 (congrArg some c2) rfl) rfl)) rfl,.nx ⟨d,rfl,dR hf ((az e1).trans (az e2))⟩⟩
 ·obtain⟨d,hd,hf⟩:=hR
  have e:qo ws=(d==0):=by unfold qo;rw[hf]
  rw[e];exact eS (bh (ba hd rfl (jD _ _)) (by cases d<;>rfl))
noncomputable def qp:Cx:={vars:=[(IS,.local,false),(Qu,.local,false),(M6,.local,false),(⟨#[98,97,115,101,115]⟩,.local,false),(⟨#[101,100,103,101,115]⟩,.local,false),(⟨#[117,110,115,101,101,110]⟩,.local,false),(⟨#[98,97,115,101]⟩,.cell,false),(⟨#[108,105,103,97,116,117,114,101]⟩,.local,false),(⟨#[115,105,103,110,115]⟩,.local,true)],aM:=[Yv,AR,W4]}
noncomputable def xK:Cx:={vars:=[(⟨#[108,101,116,116,101,114]⟩,.local,false),(⟨#[98,97,115,101]⟩,.cell,false)],aM:=[W4,Yw]}
noncomputable def jF{P:Pk}{n:Nat}(wO:P.glob Yv=some (.type "list"))(bz:P.glob AR=some (.type "range"))(rA:P.glob W4=some (.builtin "chr"))(wP:P.glob Yw=some (.builtin "ord")):{f:al->Option (al×Fl)//qa P n qp (dz (aJ pq.main.body 63)) f}:=⟨_,(@ac _ _ _ _ _ _ _ (@aD _ _ _ 3 _ _ _ _ _ _ rfl (by decide) (@eR _ _ _ _ _ _ _ (@O _ _ _ _ _ _ _ _ aa (@O _ _ _ _ _ _ _ _ aa (@O _ _ _ _ _ _ _ _ aa (@O _ _ _ _ _ _ _ _ aa (@O _ _ _ _ _ _ _ _ aa (@O _ _ _ _ _ _ _ _ aa (@O _ _ _ _ _ _ _ _ aa (@O _ _ _ _ _ _ _ _ aa (@O _ _ _ _ _ _ _ _ aa (@O _ _ _ _ _ _ _ _ aa (@O _ _ _ _ _ _ _ _ aa (O aa ab ir) ir) ir) ir) ir) ir) ir) ir) ir) ir) ir) ir) (by decide) (@af _ _ _ (@af _ _ _ (@af _ _ _ (@af _ _ _ (@af _ _ _ (@af _ _ _ (@af _ _ _ (@af _ _ _ (@af _ _ _ (@af _ _ _ (af (af len0))))))))))))) cp) (@ac _ _ _ _ _ _ _ (@aD _ _ _ 4 _ _ _ _ _ _ rfl (by decide) (@eR _ _ _ _ _ _ _ (@O _ _ _ _ _ _ _ _ aa (@O _ _ _ _ _ _ _ _ aa (@O _ _ _ _ _ _ _ _ aa (@O _ _ _ _ _ _ _ _ aa (@O _ _ _ _ _ _ _ _ aa (@O _ _ _ _ _ _ _ _ aa (@O _ _ _ _ _ _ _ _ aa (@O _ _ _ _ _ _ _ _ aa (@O _ _ _ _ _ _ _ _ aa (@O _ _ _ _ _ _ _ _ aa (@O _ _ _ _ _ _ _ _ aa (@O _ _ _ _ _ _ _ _ aa (@O _ _ _ _ _ _ _ _ aa (@O _ _ _ _ _ _ _ _ aa (@O _ _ _ _ _ _ _ _ aa (O aa ab ir) ir) ir) ir) ir) ir) ir) ir) ir) ir) ir) ir) ir) ir) ir) ir) (by decide) (@af _ _ _ (@af _ _ _ (@af _ _ _ (@af _ _ _ (@af _ _ _ (@af _ _ _ (@af _ _ _ (@af _ _ _ (@af _ _ _ (@af _ _ _ (@af _ _ _ (@af _ _ _ (@af _ _ _ (@af _ _ _ (af (af len0))))))))))))))))) cp) (@ac _ _ _ _ _ _ _ (@aD _ _ _ 5 _ _ _ _ _ _ rfl (by decide) (@ai _ _ _ _ _ _ _ _ _ _ _ cy (@eR _ _ _ _ _ _ _ (@O _ _ _ _ _ _ _ _ aa (@O _ _ _ _ _ _ _ _ aa (@O _ _ _ _ _ _ _ _ aa (@O _ _ _ _ _ _ _ _ aa (@O _ _ _ _ _ _ _ _ aa (@O _ _ _ _ _ _ _ _ aa (@O _ _ _ _ _ _ _ _ aa (@O _ _ _ _ _ _ _ _ aa (@O _ _ _ _ _ _ _ _ aa (@O _ _ _ _ _ _ _ _ aa (O aa ab ir) ir) ir) ir) ir) ir) ir) ir) ir) ir) ir) (by decide) (@af _ _ _ (@af _ _ _ (@af _ _ _ (@af _ _ _ (@af _ _ _ (@af _ _ _ (@af _ _ _ (@af _ _ _ (@af _ _ _ (af (af len0)))))))))))) (@dL _ _ _ _ _ _ (@uo _ _ _ _ _ _ _ _ _ rfl bz rfl wO (@O _ _ _ _ _ _ _ _ aa (O aa ab ir) ir) ir ir))) cp) (@ac _ _ _ _ _ _ _ (@aD _ _ _ 6 _ _ _ _ _ _ rfl (by decide) (@aF _ _ _ _ _ _ _ _ _ (Z 3 rfl rfl rfl) (@ai _ _ _ _ _ _ _ _ _ _ _ f6 (@ai _ _ _ _ _ _ _ _ _ _ _ je (ae (Z 2 rfl rfl rfl)) aa) aa) cp) cp) (@ac _ _ _ _ _ _ _ (@aD _ _ _ 7 _ _ _ _ _ _ rfl (by decide) (@ai _ _ _ _ _ _ _ _ _ _ _ f6 (ai je (Z 1 rfl rfl rfl) aa) aa) cp) (@ac _ _ _ _ _ _ _ (@aT _ _ _ _ _ _ _ _ _ _ (@aR _ _ _ _ _ _ _ _ _ _ Nf (@ai _ _ _ _ _ _ _ _ _ _ _ je (ae (Z 0 rfl rfl rfl)) aa) aa rfl) (@ac _ _ _ _ _ _ _ (@dh _ _ _ 8 _ _ _ _ _ _ rfl (by decide) (@vG _ _ _ _ _ _ _ _ (@vF _ _ _ _ _ (@eR _ _ _ _ _ _ _ (@O _ _ _ _ _ _ _ _ (@aI _ _ _ _ _ _ _ _ _ _ _ rfl rA rfl Bm (@O _ _ _ _ _ _ _ _ (@ai _ _ _ _ _ _ _ _ _ _ _ cy (Z 6 rfl rfl rfl) (ai f6 (Z 1 rfl rfl rfl) aa)) ab ir) ir (cf _ _)) ab ir) (by decide) (af len0))) (@vF _ _ _ _ _ (@ai _ _ _ _ _ _ _ _ _ _ _ tC (@eR _ _ _ _ _ _ _ (@O _ _ _ _ _ _ _ _ (@aI _ _ _ _ _ _ _ _ _ _ _ rfl rA rfl Bm (@O _ _ _ _ _ _ _ _ (@aF _ _ _ _ _ _ _ _ _ (Z 4 rfl rfl rfl) (@ai _ _ _ _ _ _ _ _ _ _ _ f6 (@ai _ _ _ _ _ _ _ _ _ _ _ je (ae (Z 1 rfl rfl rfl)) aa) aa) cp) ab ir) ir (cf _ _)) ab ir) (by decide) (af len0)) (ai je (Z 0 rfl rfl rfl) aa)))) cp) aj) (@ac _ _ _ _ _ _ _ (@aT _ _ _ _ _ _ _ _ _ _ (@aR _ _ _ _ _ _ _ _ _ _ qU (@ai _ _ _ _ _ _ _ _ _ _ _ f6 (@ai _ _ _ _ _ _ _ _ _ _ _ je (ae (Z 2 rfl rfl rfl)) aa) aa) aa rfl) (@ac _ _ _ _ _ _ _ (@dh _ _ _ 8 _ _ _ _ _ _ rfl (by decide) (@fT _ _ _ _ _ _ (@O _ _ _ _ _ _ _ _ (@aI _ _ _ _ _ _ _ _ _ _ _ rfl rA rfl Bm (@O _ _ _ _ _ _ _ _ (ai cy aa (Z 7 rfl rfl rfl)) ab ir) ir (cf _ _)) ab ir) (by decide) (af len0)) cp) aj) (@ac _ _ _ _ _ _ _ (@g9 _ _ _ (xK) 8 _ _ _ _ _ _ _ _ _ _ _ _ _ _ (1) ([6]) rfl (@bQ _ _ _ _ _ (@aF _ _ _ _ _ _ _ _ _ (@eR _ _ _ _ _ _ _ (@O _ _ _ _ _ _ _ _ (aC rfl) (@O _ _ _ _ _ _ _ _ (aC rfl) (@O _ _ _ _ _ _ _ _ (aC rfl) (@O _ _ _ _ _ _ _ _ (aC rfl) (@O _ _ _ _ _ _ _ _ (aC rfl) (@O _ _ _ _ _ _ _ _ (aC rfl) (O (aC rfl) ab ir) ir) ir) ir) ir) ir) ir) (by decide) (@af _ _ _ (@af _ _ _ (@af _ _ _ (@af _ _ _ (@af _ _ _ (af (af len0)))))))) (ae (Z 7 rfl rfl rfl)) cp)) (bB (by decide+kernel)) (ap 0 rfl (by decide) (by decide)) bY (@aI _ _ _ _ _ _ _ _ _ _ _ rfl rA rfl Bm (@O _ _ _ _ _ _ _ _ (@ai _ _ _ _ _ _ _ _ _ _ _ tB (@ai _ _ _ _ _ _ _ _ _ _ _ cy (Z 1 rfl rfl rfl) (@aI _ _ _ _ _ _ _ _ _ _ _ rfl wP rfl Jq (O (Z 0 rfl rfl rfl) ab ir) ir (cf _ _))) aa) ab ir) ir (cf _ _)) cp rfl rfl) aj)) aj)) (@ac _ _ _ _ _ _ _ (@aT _ _ _ _ _ _ _ _ _ _ (@aR _ _ _ _ _ _ _ _ _ _ vm (@ai _ _ _ _ _ _ _ _ _ _ _ f6 (@ai _ _ _ _ _ _ _ _ _ _ _ je (ae (Z 2 rfl rfl rfl)) aa) aa) aa rfl) (@ac _ _ _ _ _ _ _ (@di _ _ _ _ _ _ (@cu _ _ _ 8 _ _ _ _ _ _ _ _ _ rfl rfl rfl Uf (@O _ _ _ _ _ _ _ _ aa (@O _ _ _ _ _ _ _ _ (@aI _ _ _ _ _ _ _ _ _ _ _ rfl rA rfl Bm (@O _ _ _ _ _ _ _ _ (@aF _ _ _ _ _ _ _ _ _ (Z 5 rfl rfl rfl) (@ai _ _ _ _ _ _ _ _ _ _ _ f6 (@ai _ _ _ _ _ _ _ _ _ _ _ je (ae (Z 2 rfl rfl rfl)) aa) aa) cp) ab ir) ir (cf _ _)) ab ir) ir) ir (by decide) rfl ir) Lb ir) aj) aj) (@ac _ _ _ _ _ _ _ (@aX _ _ _ _ _ _ (@eE _ _ _ _ _ _ _ _ _ _ _ _ (aC rfl) qY (O (cG 8 rfl rfl rfl) ab ir) ir (by decide) rfl ir)) aj))))))))⟩
noncomputable def hV:List Int:=[97,65,119808,119860,119912,120016,120172,120224,120276,120328,120380,120432]
noncomputable def fZ:List Int:=[172,174,846,848,6149,6151,6154,6158,8202,8206,8287,8289,65023,65040,65278,65280]
noncomputable def ii:List Int:=[173,847,6150,6155,6156,6157,8203,8204,8205,8288,65279]++(List.range 16).map fun(i:Nat)=>(65024+i:Int)
noncomputable def j9:List (List Nat):=[[102,102],[102,105],[102,108],[102,102,105],[102,102,108],[115,116],[115,116]]
theorem Gn{c:Int}(h0:0<=c)(h1:c<200000):Ec [.int c]=some (.str [c.toNat]):=by
 rw[Q0];rw[aw (by omega)]
structure CM where
 f:Nat->List Nat
 base:∀b∈hV,∀i:Nat,i<26->f (b.toNat+i)=[97+i]
 edge:∀e∈fZ,f e.toNat=[e.toNat]
 unseen:∀u∈ii,f u.toNat=[]
 sign:∀c∈[40,41,91,93,123,125,34,92],f c=[c]
 lig:∀j:Nat,j<7->f (64256+j)=j9[j]?.getD []
noncomputable def LH(c:Nat):Bool:=c != 92&&c != 34&&c != 40&&c != 41&&c != 32&&c != 9&&decide ((oY [c]).length<10)
noncomputable def fw(kind total:Int):List Nat:=if kind/3=0 then [(97+total % 26).toNat]else if kind/3=1 then [(97+total % 26).toNat,(fZ[(total/26 % 16).toNat]?.getD 0).toNat]else j9[(total/416 % 7).toNat]?.getD []
structure bT(M:CM)(N l:List Nat):Prop where
 ne:l≠[]
 len:l.length<=4
 ok:l.all LH=true
 map:(l.map M.f).flatten=N
theorem Ot:(hV.all fun b=>(List.range 26).all fun i=>LH (b.toNat+i))=true:=by decide+kernel
theorem Ou:(fZ.all fun b=>LH b.toNat)=true:=by decide+kernel
theorem HO:(ii.all fun b=>LH b.toNat)=true:=by decide+kernel
theorem SB:((List.range 7).all fun b=>LH (64256+b))=true:=by decide+kernel
theorem EM:((hV++fZ++ii).all fun b=>decide (0<=b)&&decide (b<130000))=true:=by decide+kernel
noncomputable abbrev SD(l:List Nat):V:=.list (l.map fun c=>.str [c])
theorem wQ{l:List Nat}(h:l.length<=4):tN (.str []) [SD l]=some (.str l):=by
 have e:(l.map fun c=>V.str [c])=(l.map fun c=>[c]).map .str:=by rw[dK];rfl
 have e2:∀l:List Nat,(l.map fun c=>[c]).flatten=l:=fun l=>by
  induction l with
  |nil=>rfl
  |cons x l ih=>rw[bn,gA,ih];rfl
 rw[SD,e,uE,i5,cR,aw (joinOk_of [] _ (by rw[e2,eZ,pY];exact aA h (by decide))),oP,e2]
theorem Ov(a u:Nat){r:List Nat}(h:(a::r).length<=4):No (SD (a::r)) [.int 1,.str [u]]=some (SD (a::u::r),.none):=by
 have e:min (1:Int).toNat ((a::r).map fun c=>V.str [c]).length=1:=y5 (by rw[bn,bA];exact jb (dU _));rw[SD,QN,aw ⟨by decide,by decide,by rw[bi];exact gS h (by decide)⟩,e];rfl
theorem bT.ins{M:CM}{N:List Nat}{a:Nat}{r:List Nat}(h:bT M N (a::r))(h3:(a::r).length<=3){u:Int}(hu:u∈ii):bT M N (a::u.toNat::r):=by
 obtain⟨_,_,ok,map⟩:=h;refine⟨cf _ _,jb h3,?_,?_⟩
 ·rw[gT]at ok ⊢
  rw[gT,cD.mp HO u hu];exact ok
 ·rw[bn,bn,M.unseen u hu]
  exact map
theorem rB{b:Int}(h:b∈hV++fZ++ii){i:Int}(h0:0<=i)(h1:i<26):Ec [.int (b+i)]=some (.str [(b+i).toNat])/\(b+i).toNat=b.toNat+i.toNat:=by
 obtain⟨h2,h3⟩:=(dI _ _).mp (cD.mp EM b h);have h2:=mH h2;have h3:=mH h3;exact⟨Gn (Int.add_nonneg h2 h0) (by omega),Int.toNat_add h2 h0⟩
theorem Go{b:Int}(hb:b∈hV){i:Nat}(hi:i<26):LH (b.toNat+i)=true:=cD.mp (cD.mp Ot b hb) i (gE.mpr hi)
theorem SE{M:CM}{kind total b e:Int}(hk:kind/3=0\/kind/3=1)(hb:b∈hV)(he:e∈fZ)(hge:fZ[(total/26 % 16).toNat]?=some e):∃es:List Nat,es.length<=1/\xw (.list [.str [(e+0).toNat]]) (.int (kind/3))=some (SD es)/\bT M (fw kind total) ((b+total % 26).toNat::es):=by
 have h26:(total % 26).toNat<26:=by omega
 have h97:(97+total % 26).toNat=97+(total % 26).toNat:=by omega
 have hm:=M.base b hb _ h26;have ho:=Go hb h26;rw[(rB (i:=total % 26) (bj _ (bj _ hb)) (by omega) (by omega)).2,Int.add_zero];rcases hk with q|q
 ·exact⟨[],by decide,by rw[q];rfl,cf _ _,(show 1<=4 by decide),by rw[gT,ho];rfl,by rw[fw,aw q,h97,bn,hm];rfl⟩
 ·exact⟨[e.toNat],cF 1,by rw[q];rfl,cf _ _,(show 2<=4 by decide),by rw[gT,ho,gT,cD.mp Ou e he];rfl,by rw[fw,az (by rw[q];decide),aw q,h97,bn,hm,bn,M.edge e he,hge];rfl⟩
theorem SF{M:CM}{kind total:Int}(h0:¬kind/3=0)(h1:¬kind/3=1){j:Nat}(hj:j<7)(e:total/416 % 7=j):bT M (fw kind total) [64256+j]:=by
 refine⟨cf _ _,(show 1<=4 by decide),by rw[gT,cD.mp SB j (gE.mpr hj)];rfl,?_⟩;rw[fw,az h0,az h1,e,bn,M.lig j hj,nz,nI,lG]
theorem Ow:(j9.all fun l=>decide (l≠[])&&decide (l.length<=3)&&l.all fun c=>decide (97<=c)&&decide (c<123))=true:=by decide+kernel
theorem Wa{M:CM}{kind total b:Int}(h0:¬kind/3=0)(h1:¬kind/3=1){j:Nat}(hj:j<7)(e:total/416 % 7=j)(hb:b∈hV):∃lg:List Nat,gt (.list (j9.map .str)) (.int (total/416 % 7))=some (.str lg)/\lg.length<=3/\(∀c∈lg,c-97<26/\97<=c)/\bT M (fw kind total) (lg.map fun c=>b.toNat+(c-97)):=by
 obtain⟨lg,X4⟩:=get_mem (l:=j9) hj;have hl:=cD.mp Ow lg (mE X4);obtain⟨jN,Sk⟩:=(dI _ _).mp hl;obtain⟨QL,Oi⟩:=(dI _ _).mp jN;have SG:=mH Oi;have hc:∀c∈lg,c-97<26/\97<=c:=fun c hc=>by
  obtain⟨h1,h2⟩:=(dI _ _).mp (cD.mp Sk c hc);have h1:=mH h1;have h2:=mH h2;omega
 refine⟨lg,by rw[e];exact gJ (by rw[bL,X4];rfl) (by decide),SG,hc,fun z=>mH QL (List.map_eq_nil_iff.mp z),by rw[bi];exact i9 SG,cD.mpr fun c h=>?_,?_⟩
 ·obtain⟨z,hz,rfl⟩:=bP.mp h
  exact Go hb (hc z hz).1
 ·rw[fw,az h0,az h1,e,lG,X4,kP,dK]
  clear X4 hl jN QL Oi Sk SG;revert hc
  induction lg with
  |nil=>exact fun ø=>rfl
  |cons c l ih=>
   intro hc;obtain⟨h1,h2⟩:=hc c dJ;rw[bn,gA,ih fun x hx=>hc x (cw _ hx),Function.comp_apply,M.base b hb _ h1,vf h2];rfl
inductive X5(M:CM)(kind total draw:Int)(ρ:al):Prop
 |mk (l:List Nat) (h2:ρ 2=some (.int draw)) (h5:ρ 5=some (.list (ii.map .int))) (h8:ρ 8=some (SD l)) (h3:l.length<=3) (hg:bT M (fw kind total) l)
theorem LI{P:Pk}{n:Nat}{g1 g2 g3 g4}{M:CM}{kind total draw:Int}(hk:0<=kind/\kind<9)(ht:0<=total)(hd:0<=draw/\draw<=17857){ρ:al}(h0:ρ 0=some (.int kind))(h1:ρ 1=some (.int total))(h2:ρ 2=some (.int draw)):
  te (jF (P:=P) (n:=n) g1 g2 g3 g4).1 ρ fun v=>∃l,bT M (fw kind total) l/\v= .str l:=by
 obtain⟨b,hb,_,hitb⟩:=int_at (xs:=hV) (i:=draw/7 % 12) (by omega) (show _<(12:Int) by omega) (by decide);obtain⟨e,he,hge,hite⟩:=int_at (xs:=fZ) (i:=total/26 % 16) (by omega) (show _<(16:Int) by omega) (by decide);obtain⟨u,hu,_,hitu⟩:=int_at (xs:=ii) (i:=draw/84 % 27) (by omega) (show _<(27:Int) by omega) (by decide);have hmb:b∈hV++fZ++ii:=bj _ (bj _ hb);have SH:=rB (i:=total % 26) hmb (by omega) (by omega);have hce:=rB (b:=e) (i:=0) (bj _ (bw _ he)) (by decide) (by decide);have hcu:=rB (b:=u) (i:=0) (bw _ hu) (by decide) (by decide);rw[Int.add_zero]at hcu;obtain⟨j,hj,SI⟩:∃j:Nat,j<7/\total/416 % 7=j:=⟨(total/416 % 7).toNat,by omega,by omega⟩;unfold jF;dsimp only;refine ex3 ρ h0 h1 h2 fun σ=>?_
 refine jE (v:=.list (hV.map .int)) (by exact rfl) ?_;refine jE (v:=.list (fZ.map .int)) (by exact rfl) ?_;refine jE (v:=.list (ii.map .int)) (by exact rfl) ?_;refine jE (cM rfl (md (dv rfl rfl) rfl) hitb) ?_;refine jE (md (dv rfl rfl) rfl) ?_;refine tX (X5 M kind total draw) ?_ fun am hR=>?_
 ·by_cases hq:kind/3<2
  ·obtain⟨es,h1,hm,hg⟩:=SE (M:=M) (kind:=kind) (by omega) hb he hge
   exact⟨_,td (ba (dv rfl rfl) rfl (congrArg some (eK hq))) (xJ (bu (bh (aq (bJ (ad rfl (md rfl rfl)) SH.1) rfl) rfl) (bu (bh (aq (bJ (cM rfl (md (dv rfl rfl) rfl) hite) (mD (congrArg (fun z=>Ec [.int z]) (Int.add_zero e).symm) hce.1)) rfl) rfl) (dv rfl rfl) hm) ((FN ..).trans (aw (by rw[bi];exact aA (vg h1 1) (by decide))))) rfl),rfl,X5.mk ((b+total % 26).toNat::es) rfl rfl rfl (jb (i9 h1)) hg⟩
  ·have n0:¬kind/3=0:=by omega
   have n1:¬kind/3=1:=by omega
   have c1:=congrArg some (mG hq);by_cases hw:draw/2268 % 2=1
   ·exact⟨_,j8 (ba (dv rfl rfl) rfl c1) (bO (td (ba (md (dv rfl rfl) rfl) rfl ((jD _ _).trans (congrArg some (eK hw)))) (xJ (bh (aq (bJ (ad rfl rfl) (mD (congrArg (fun z=>Ec [.int (64256+z)]) SI) (Gn (c:=((64256+j:Nat):Int)) (by omega) (by omega)))) rfl) rfl) rfl)) rfl),rfl,X5.mk [64256+j] rfl rfl rfl (show 1<=3 by decide) (SF n0 n1 hj SI)⟩
   ·obtain⟨lg,hit,Sk,YX,hg⟩:=Wa (M:=M) n0 n1 hj SI hb
    refine⟨_,j8 (ba (dv rfl rfl) rfl c1) (bO (j8 (ba (md (dv rfl rfl) rfl) rfl ((jD _ _).trans (congrArg some (mG hw)))) (xJ (db (fun ρ=>ρ 1=some (.int b)) lg (fun c=>.str [c]) (fun c=>.str [b.toNat+(c-97)]) (dy (cM (x:=.list (j9.map .str)) rfl rfl hit) rfl) (gS Sk (by decide)) (fun c hc ρ hI=>ex1 ρ hI fun σ=>⟨_,rfl,rfl,bJ (bu (ad rfl (bJ rfl rfl)) rfl rfl) ?_⟩) rfl) rfl)) rfl),rfl,X5.mk _ rfl rfl (congrArg (fun z=>some (V.list z)) (dK (g:=fun c=>V.str [c]) (f:=fun c=>b.toNat+(c-97)) (l:=lg)).symm) (by rw[bi];exact Sk) hg⟩;obtain⟨x1,x2⟩:=YX c hc;have hz:b+(c:Int)-97=b+((c-97:Nat):Int):=by omega
    obtain⟨c2,c3⟩:=rB (i:=((c-97:Nat):Int)) hmb (by omega) (by omega);rw[c3,lG]at c2;exact mD (congrArg (fun z=>Ec [.int z]) hz) c2
 ·obtain⟨l,h2,h5,h8,h3,hg⟩:=hR
  refine ex3 am h2 h5 h8 fun σ=>?_
  by_cases q:draw/4536 % 3=0
  ·exact fu (j8 (ba (md (dv rfl rfl) rfl) rfl (P9 q)) rfl) (yr (HL rfl rfl (wQ hg.len)) ⟨l,hg,rfl⟩)
  ·obtain⟨a,r,rfl⟩:=uU hg.ne
   exact fu (td (ba (md (dv rfl rfl) rfl) rfl (neT q)) (Sz rfl (aq rfl (aq (bJ (cM rfl (md (dv rfl rfl) rfl) hitu) hcu.1) rfl)) (Ov a u.toNat hg.len) rfl)) (yr (HL rfl rfl (wQ (hg.ins h3 hu).len)) ⟨_,hg.ins h3 hu,rfl⟩)
noncomputable def M4:List (Int×Str)->Nat->Option (List Nat)
 |[],_=>none
 |p::r,c=>if p.1=(c:Int)then some p.2.cps.toList else M4 r c
theorem SJ(c:Nat):M4 [] c=none:=rfl
theorem SK(p:Int×Str)(r:List (Int×Str))(c:Nat):M4 (p::r) c=if p.1=(c:Int)then some p.2.cps.toList else M4 r c:=rfl
theorem Cs(c:Nat):∀ps:List (Int×Str),bR (ps.map (·.1)) ((ps.map fun p=>p.2.cps.toList).map .str) (c:Int)=(M4 ps c).map .str
 |[]=>rfl
 |p::r=>by
  simp only[bn,gH,iQ,iR,SJ,SK,Cs c r];split<;>rfl
noncomputable def LJ(c:Nat):List Nat:=if(c:Int)∈V4 then []else(M4 FV c).getD (oY [c])
noncomputable def HP(b:Int):Bool:=(List.range 26).all fun i=>LJ (b.toNat+i)==[97+i]
theorem ac6:HP 97=true:=by kernel_rfl
theorem ac7:HP 65=true:=by kernel_rfl
theorem ac8:HP 119808=true:=by kernel_rfl
theorem ac9:HP 119860=true:=by kernel_rfl
theorem ad0:HP 119912=true:=by kernel_rfl
theorem ad1:HP 120016=true:=by kernel_rfl
theorem ad2:HP 120172=true:=by kernel_rfl
theorem ad3:HP 120224=true:=by kernel_rfl
theorem ad4:HP 120276=true:=by kernel_rfl
theorem ad5:HP 120328=true:=by kernel_rfl
theorem Wb:HP 120380=true:=by kernel_rfl
theorem Wc:HP 120432=true:=by kernel_rfl
theorem Ox:(hV.all fun b=>(List.range 26).all fun i=>LJ (b.toNat+i)==[97+i])=true:=by
 show(hV.all HP)=true;rw[hV,gT,ac6,ja,gT,ac7,ja,gT,ac8,ja,gT,ac9,ja,gT,ad0,ja,gT,ad1,ja,gT,ad2,ja,gT,ad3,ja,gT,ad4,ja,gT,ad5,ja,gT,Wb,ja,gT,Wc,ja,List.all_nil]
theorem Oy:(fZ.all fun e=>LJ e.toNat==[e.toNat])=true:=by kernel_rfl
theorem HQ:(ii.all fun e=>LJ e.toNat==[])=true:=by kernel_rfl
theorem Oz:([40,41,91,93,123,125,34,92].all fun c=>LJ c==[c])=true:=by kernel_rfl
theorem SM:((List.range 7).all fun j=>LJ (64256+j)==j9[j]?.getD [])=true:=by kernel_rfl
noncomputable def Ah:Cx:={vars:=[(M6,.local,false)],aM:=[]}
noncomputable def mh{P:Pk}{n:Nat}:{f:al->Option (al×Fl)//qa P n Ah (dz (aJ pq.main.body 64)) f}:=⟨_,(@ac _ _ _ _ _ _ _ (@aX _ _ _ _ _ _ (@aF _ _ _ _ _ _ _ _ _ (@eR _ _ _ _ _ _ _ (@O _ _ _ _ _ _ _ _ (aC rfl) (@O _ _ _ _ _ _ _ _ (aC rfl) (@O _ _ _ _ _ _ _ _ (aC rfl) (@O _ _ _ _ _ _ _ _ (aC rfl) (@O _ _ _ _ _ _ _ _ (aC rfl) (O (aC rfl) (O (aC rfl) ab ir) ir) ir) ir) ir) ir) ir) (by decide) (@af _ _ _ (@af _ _ _ (@af _ _ _ (@af _ _ _ (af (af (af len0)))))))) (ai f6 (ae (Z 0 rfl rfl rfl)) aa) cp)) aj)⟩
noncomputable def EN:Cx:={vars:=[(W2,.local,false),(⟨#[108,101,102,116]⟩,.local,false),(Ys,.local,false),(Yt,.local,false),(Tx,.local,false),(⟨#[117,110,105,116]⟩,.local,false),(s65,.local,false)],aM:=[s6,s5,vj,s9,MW,WY,Yx]}
noncomputable def qq{P:Pk}{n:Nat}{aL:Addr}{bG:List V->Option V}(dC:P.glob s6=some (.ref aL))(dD:∀h,P.G h->∃o fd,h.get? aL=some o/\o.data= .func fd)(dF:aZ P n (.ref aL) bG){aN:Addr}(cq:P.glob s5=some (.ref aN))(bS:Cb P aN)(cb:P.glob vj=some (.builtin "len")){ij:Addr}{pD:List V->Option V}(xL:P.glob s9=some (.ref ij))(xM:∀h,P.G h->∃o fd,h.get? ij=some o/\o.data= .func fd)(xN:aZ P n (.ref ij) pD){gK:Addr}{oy:List V->Option V}(wR:P.glob MW=some (.ref gK))(wS:∀h,P.G h->∃o fd,h.get? gK=some o/\o.data= .func fd)(wT:aZ P n (.ref gK) oy){f0:Addr}{iO:List Nat->Option Int}(o5:P.glob WY=some (.ref f0))(o6:∀h,P.G h->∃f:Str->Option Value,h.MapOf (strKind P.prog P.w) f0 f/\∀l k,iO l=some k->∃t,f (pyStr l)=some (.int k t))(LK:P.glob Yx=some (.type "str")):{f:al->Option (al×Fl)//qa P n EN (dz (aJ pq.main.body 65)) f}:=⟨_,(@ac _ _ _ _ _ _ _ (@aD _ _ _ 1 _ _ _ _ _ _ rfl (by decide) (@bq _ _ _ _ _ _ _ _ _ _ _ rfl dC rfl dD dF (O (ai cy (Z 0 rfl rfl rfl) (aC rfl)) ab ir) ir (cf _ _)) cp) (@ac _ _ _ _ _ _ _ (@lQ _ _ _ ([(2,Ys,.local,false),(3,Yt,.local,false)]) ([_,_]) _ _ _ _ _ _ _ ⟨by decide+kernel,by decide+kernel⟩ rfl (jQ.dat (aC rfl) (jQ.dat (aC rfl) jQ.nil ir) ir) (by decide) (af (af len0)) kY.len ir (Oe rfl rfl)) (@ac _ _ _ _ _ _ _ (@qj _ _ _ (false) _ _ _ _ _ _ _ (@n8 _ _ _ _ _ _ _ _ _ rfl cq rfl bS (O (ae (Z 1 rfl rfl rfl)) ab ir) ir (cf _ _)) (@da _ _ _ _ _ _ _ (ay (ap 4 rfl (by decide) (by decide)) (ay (ap 5 rfl (by decide) (by decide)) bX)) (aE (aE cH)) ir) (@ac _ _ _ _ _ _ _ (i2 3 rfl (by decide) rfl rfl vz (Z 5 rfl rfl rfl)) (@ac _ _ _ _ _ _ _ (@aT _ _ _ _ _ _ _ _ _ _ (@aR _ _ _ _ _ _ _ _ _ _ vm (@aI _ _ _ _ _ _ _ _ _ _ _ rfl cb rfl jn (O (ae (Z 3 rfl rfl rfl)) ab ir) ir (cf _ _)) (ai cy (ae (Z 4 rfl rfl rfl)) aa) rfl) (@ac _ _ _ _ _ _ _ (@aX _ _ _ _ _ _ (@ct _ _ _ _ _ _ _ _ (O (aC rfl) (O df ab ir) ir) (by decide) (af (af len0)))) aj) aj) (@ac _ _ _ _ _ _ _ (@aT _ _ _ _ _ _ _ _ _ _ (@r7 _ _ _ _ _ _ _ _ (@aR _ _ _ _ _ _ _ _ _ _ qU (@aI _ _ _ _ _ _ _ _ _ _ _ rfl cb rfl jn (O (ae (Z 5 rfl rfl rfl)) ab ir) ir (cf _ _)) aa rfl) (@xW _ _ _ _ _ _ (@fP _ _ _ _ _ (@bq _ _ _ _ _ _ _ _ _ _ _ rfl xL rfl xM xN (O (ae (Z 5 rfl rfl rfl)) ab ir) ir (cf _ _)) cp))) (@ac _ _ _ _ _ _ _ (@i2 _ _ _ 2 _ _ _ _ _ _ _ _ rfl (by decide) rfl rfl vz (bq rfl wR rfl wS wT (O (Z 5 rfl rfl rfl) ab ir) ir (cf _ _))) aj) aj) aj))) cp) (@ac _ _ _ _ _ _ _ (@aT _ _ _ _ _ _ _ _ _ _ (@AT.or _ _ _ _ _ _ _ _ (aR vm (ae (Z 3 rfl rfl rfl)) (ae (Z 1 rfl rfl rfl)) rfl) (@aR _ _ _ _ _ _ _ _ _ _ vm (@bC _ _ _ _ _ _ _ _ _ _ _ _ _ _ (ae (Z 2 rfl rfl rfl)) (bt (dc aa)) aO aO) (aC rfl) rfl)) (@ac _ _ _ _ _ _ _ (@aX _ _ _ _ _ _ (@ct _ _ _ _ _ _ _ _ (O (aC rfl) (O df ab ir) ir) (by decide) (af (af len0)))) aj) aj) (@ac _ _ _ _ _ _ _ (@aD _ _ _ 6 _ _ _ _ _ _ rfl (by decide) (@Bt _ _ _ _ _ _ _ _ _ _ _ rfl o5 rfl o6 (@bC _ _ _ _ _ _ _ _ _ _ _ _ _ _ (ae (Z 2 rfl rfl rfl)) (bt (dc aa)) (bt (dc aa)) aO) cp) cp) (@ac _ _ _ _ _ _ _ (@aX _ _ _ _ _ _ (@ct _ _ _ _ _ _ _ _ (@O _ _ _ _ _ _ _ _ (@ai _ _ _ _ _ _ _ _ _ _ _ cy (@bC _ _ _ _ _ _ _ _ _ _ _ _ _ _ (ae (Z 2 rfl rfl rfl)) aO (bt (dc aa)) aO) (@AU _ _ _ _ _ _ _ _ _ _ _ rfl LK rfl Ut (@O _ _ _ _ _ _ _ _ (@ai _ _ _ _ _ _ _ _ _ _ _ je (ai cy (ae (Z 6 rfl rfl rfl)) aa) aa) ab ir) ir (cf _ _))) (@O _ _ _ _ _ _ _ _ (@kQ _ _ _ _ _ _ _ _ _ _ _ qU (ai f6 (ae (Z 6 rfl rfl rfl)) aa) aa rfl) ab ir) ir) (by decide) (af (af len0)))) aj))))))⟩
noncomputable def Ct:List (List (List Nat)):=[[],[[34],[41],[34]],[[34],[92,34],[40],[34]],[[92,40]],[[92,34]],[[92,92]],[[34],[40],[34]]]
noncomputable def Cu:List (List (List Nat)):=[[],[],[],[[92,40]],[[92,34]],[[92,92]],[]]
noncomputable def fX(draw:Int):List (List Nat):=Ct[(draw % 7).toNat]?.getD []
noncomputable def mi(draw:Int):List (List Nat):=Cu[(draw % 7).toNat]?.getD []
theorem EO{P:Pk}{n:Nat}{draw:Int}{ρ:al}(h0:ρ 0=some (.int draw)):Ends (mh (P:=P) (n:=n)).1 ρ (.str (fX draw).flatten):=by
 unfold mh;dsimp only;obtain⟨j,SI⟩:=Dw (y6 draw (show(7:Int)≠0 by decide));have hj:j<Ct.length:=nH.mp (SI▸y7 draw (by decide));have e:(Ct.map fun u=>V.str u.flatten)[j]?=some (.str (fX draw).flatten):=by
  unfold fX;rw[SI,bL];show _=some (V.str (Ct[j]?.getD []).flatten);rw[dX hj];rfl
 exact eS (cM rfl (md h0 rfl) (SI▸gJ e (by decide)))
theorem EP(l:List Nat)(k:Nat)(hk:k<=l.length)(h0:0<k)(h:l.length<=most):eT (.str l) (some (-(k:Int))) none none=some (.str (l.drop (l.length-k))):=by
 rw[nX,aw h,om,lq _ h0 hk];exact congrArg (fun z=>some (V.str z)) (rQ (iM m7))
theorem xO(l:List Nat)(k m:Nat)(hk:k<=l.length)(h0:0<k)(hm0:0<m)(hm:m<=l.length)(h:l.length<=most):eT (.str l) (some (-(k:Int))) (some (-(m:Int))) none=some (.str ((l.drop (l.length-k)).take (k-m))):=by
 rw[nX,aw h,om,lq _ h0 hk,lq _ hm0 hm,show l.length-m-(l.length-k)=k-m by rw[Nat.sub_right_comm,Nat.sub_sub_self hk]]
theorem Ai(l:List Nat)(m:Nat)(hm0:0<m)(hm:m<=l.length)(h:l.length<=most):eT (.str l) none (some (-(m:Int))) none=some (.str (l.take (l.length-m))):=by
 rw[nX,aw h,om,lq _ hm0 hm];rfl
noncomputable def oz(l:List Nat)(draw:Int)(sg:Nat):List (List Nat):=l.map (fun c=>[c])++(fX draw++[[sg],[34],[92]])
noncomputable def tZ(l:List Nat)(draw:Int)(sg:Nat):List (List Nat):=l.map (fun c=>[c])++(mi draw++[[sg],[34],[92]])
theorem jG:∀{us vs:List (List Nat)},(∀u∈us,Af u=true)->jS vs=true->jS (us++vs)=true
 |[],vs,_,h=>h
 |u::us,vs,h1,h2=>by
  have ih:=jG (us:=us) (vs:=vs) (fun v hv=>h1 v (cw _ hv)) h2
  cases hz:us++vs with
  |nil=>simp[hz,oM,oN,oO,h1 u dJ]
  |cons z zs=>
   rw[List.cons_append,hz];rw[hz]at ih;simp only[oM,oN,oO,h1 u dJ,ja,ih]
theorem Cv{us:List (List Nat)}(h:∀u∈us,u≠[34])(k:List (List Nat)):us.foldl dG (k,none)=(k++us,none):=wM us k h
theorem lt7{P:Nat->Prop}(h0:P 0)(h1:P 1)(h2:P 2)(h3:P 3)(h4:P 4)(h5:P 5)(h6:P 6):∀j,j<7->P j
 |0,_=>h0
 |1,_=>h1
 |2,_=>h2
 |3,_=>h3
 |4,_=>h4
 |5,_=>h5
 |6,_=>h6
 |n+7,h=>absurd h (kM.mpr (y8 7 n))
theorem LL(draw:Int):(draw % 7).toNat<7:=by omega
theorem Cw(draw:Int)(k:List (List Nat)):(fX draw).foldl dG (k,none)=(k++mi draw,none):=
 have e:(k,(none:Option (List (List Nat))))=(k++[],none):=by rw[gn]
 lt7 (P:=fun j=>(Ct[j]?.getD []).foldl dG (k,none)=(k++Cu[j]?.getD [],none)) e e e rfl rfl rfl e _ (LL draw)
theorem tg(draw:Int):(∀u∈fX draw,Af u=true)/\(∀u∈mi draw,Af u=true/\u.length=2)/\(fX draw).flatten.length<=5/\(mi draw).length<=1/\(fX draw).length<=4:=
 (by decide:∀j,j<7->(∀u∈Ct[j]?.getD [],Af u=true)/\(∀u∈Cu[j]?.getD [],Af u=true/\u.length=2)/\(Ct[j]?.getD []).flatten.length<=5/\(Cu[j]?.getD []).length<=1/\(Ct[j]?.getD []).length<=4) _ (LL draw)
theorem Cy{l:List Nat}{draw:Int}{sg:Nat}(hl:l.all LH=true)(h34:sg≠34):gk (oz l draw sg)=tZ l draw sg:=by
 unfold gk oz tZ;have h1:∀u∈l.map (fun c=>[c]),u≠[34]:=fun u hu z=>by
  obtain⟨c,hc,rfl⟩:=bP.mp hu;have:=cD.mp hl c hc;simp at z;subst z;simp[LH]at this
 rw[na,na,Cv h1,Cw];simp[dG,h34]
noncomputable def wU:List Nat:=[40,41,91,93,123,125,34,92]
theorem HR:(wU.all fun c=>decide ((oY [c]).length<10))=true:=by decide+kernel
noncomputable def Gp(M:CM)(F3 F4:List V->Option V):Prop:=∀c,(oY [c]).length<10->(F3 [.str [c]]=some (.bool true)/\M.f c=[])\/(F3 [.str [c]]=some (.bool false)/\F4 [.str [c]]=some (.str (M.f c)))
noncomputable def uw(num:Nat):List Nat:=if num<9 then [52]else if num<11 then [53]else [49,51]
theorem Wd:([7,8,9,10,25,26].all fun(n:Nat)=>digits (((n:Int)+1)/2)==uw n)=true:=by decide+kernel
noncomputable def th(M:CM)(u:List Nat):List Nat:=match u with
 |[c]=>M.f c
 |_=>[]
theorem Gq(M:CM){u:List Nat}(h:u.length=2):th M u=[]:=by
 match u,h with
 |[_,_],_=>rfl
theorem EQ{M:CM}{N l:List Nat}(draw:Int){sg:Nat}(hg:bT M N l)(hN:N.length<=3)(We:sg∈[40,41,91,93,123,125]){C:Prop}
  (f:∀us ws:List (List Nat),jS us=true->us.flatten.length<=20->us.length<=20->us.flatten=l++(fX draw).flatten++[sg]++[34,92]->gk us=ws->jS ws=true->ws.flatten.length<=20->(ws.map (th M)).flatten=N++[sg,34,92]->(∀u∈ws,u.length=2\/∃c,u=[c]/\(oY [c]).length<10)->C):C:=by
 have hlen:=hg.len;have Wg:=tg draw;have Bq:most=1000000:=rfl;have Wh:sg≠34/\sg≠92:=by simp at We;omega
 have Wi:jS [[sg],[34],[92]]=true:=by simp[oM,oN,oO,Af,Wh.2]
 have Wj:∀u∈l.map (fun c=>[c]),Af u=true:=fun u hu=>by
  obtain⟨c,hc,rfl⟩:=bP.mp hu;have:=cD.mp hg.ok c hc;simp only[LH,dI,bne_iff_ne]at this;simp[Af,this.1.1.1.1.1.1]
 have LM:∀l:List Nat,(l.map fun c=>[c]).flatten=l:=fun l=>by
  induction l with
  |nil=>rfl
  |cons x l ih=>simp[ih]
 have SN:jS (oz l draw sg)=true:=jG Wj (jG Wg.1 Wi);have hws:jS (tZ l draw sg)=true:=jG Wj (jG (fun u hu=>(Wg.2.1 u hu).1) Wi);have hpf:(oz l draw sg).flatten=l++(fX draw).flatten++[sg]++[34,92]:=by
  unfold oz;rw[gr,gr,LM];simp
 have so:(oz l draw sg).flatten.length<=20:=by rw[hpf];simp only[List.length_append,bA,eZ];omega
 have hpn:(oz l draw sg).length<=20:=by
  unfold oz;have:=Wg.2.2.2.2;simp only[List.length_append,bi,bA,eZ];omega
 have eF:=Cy (draw:=draw) (sg:=sg) hg.ok Wh.1;have HA:(tZ l draw sg).flatten.length<=20:=by rw[<-eF];exact aA (wJ _) so
 have r6:((tZ l draw sg).map (th M)).flatten=N++[sg,34,92]:=by
  unfold tZ;rw[List.map_append,List.map_append,gr,gr,dK];have e1:(l.map (th M∘fun c=>[c]))=l.map M.f:=rfl;have e2:((mi draw).map (th M)).flatten=[]:=by
   rw[List.flatten_eq_nil_iff];intro x hx;obtain⟨u,hu,rfl⟩:=bP.mp hx;exact Gq M (Wg.2.1 u hu).2
  rw[e1,hg.map,e2];have s1:=M.sign sg (by simp at We ⊢;omega);have s2:=M.sign 34 (by simp);have s3:=M.sign 92 (by simp);simp[th,s1,s2,s3]
 have OA:∀u∈tZ l draw sg,(u.length=2)\/∃c,u=[c]/\(oY [c]).length<10:=fun u hu=>by
  unfold tZ at hu;rcases cr.mp hu with hu|hu
  ·obtain⟨c,hc,rfl⟩:=bP.mp hu
   have:=cD.mp hg.ok c hc;simp only[LH,dI,iK]at this;exact .inr ⟨c,rfl,this.2⟩
  ·rcases cr.mp hu with hu|hu
   ·exact .inl (Wg.2.1 u hu).2
   ·have SO:∀c∈wU,(oY [c]).length<10:=fun c hc=>by simpa using cD.mp HR c hc
    simp only[bp,qN,nD]at hu;rcases hu with rfl|rfl|rfl
    ·exact .inr ⟨sg,rfl,SO sg (by simp[wU]at We ⊢;omega)⟩
    ·exact .inr ⟨34,rfl,SO 34 (by simp[wU])⟩
    ·exact .inr ⟨92,rfl,SO 92 (by simp[wU])⟩
 exact f _ _ SN so hpn hpf eF hws HA r6 OA
inductive RdI(M:CM)(ws l:List (List Nat))(ρ:al):Prop
 |mk (h1:ρ 1=some (.str ws.flatten)) (h2:ρ 2=some (.str (l.map (th M)).flatten)) (h3:ρ 3=some (.str l.flatten))
theorem ER{N:List Nat}(sg:Nat)(hN:N.length<=3):eT (.str (N++[sg,34,92])) (some (-2)) none none=some (.str [34,92])/\eT (.str (N++[sg,34,92])) (some (-3)) (some (-2)) none=some (.str [sg])/\eT (.str (N++[sg,34,92])) none (some (-3)) none=some (.str N):=by
 have hl:(N++[sg,34,92]).length=N.length+3:=List.length_append;have hm:(N++[sg,34,92]).length<=most:=by rw[hl];exact aA (nf hN 3) (by decide)
 have h2:N.length+3-2=N.length+1:=rfl;have h3:N.length+3-3=N.length:=rfl;refine⟨(EP _ 2 (by omega) (by decide) hm).trans ?_,(xO _ 3 2 (by omega) (by decide) (by decide) (by omega) hm).trans ?_,(Ai _ 3 (by decide) (by omega) hm).trans ?_⟩
 ·rw[hl,h2,<-List.drop_drop,List.drop_left]
  rfl
 ·rw[hl,h3,List.drop_left]
  rfl
 ·rw[hl,h3,List.take_left]
theorem LN{P:Pk}{n:Nat}{a1 F1 g1 h1 c1 a2 g2 ad6 g3 a3 F3 g3' h3 c3 a4 F4 g4 h4 c4 a5 T5 g5 t5 g6}{ρ:al}{M:CM}{N l:List Nat}{draw:Int}{sg num:Nat}(xD:∀us,jS us=true->us.flatten.length<=10000->us.length<=10000->F1 [.str us.flatten]=some (.str (gk us).flatten))
  (hM:Gp M F3 F4) (hg:bT M N l) (hN:N.length<=3) (We:sg∈[40,41,91,93,123,125]) (hT:T5 [sg]=some (num:Int)) (Wk:num∈[7,8,9,10,25,26])
  (h0:ρ 0=some (.str (l++(fX draw).flatten++[sg]))):
  Ends (qq (P:=P) (n:=n) (aL:=a1) (bG:=F1) g1 h1 c1 (aN:=a2) g2 ad6 g3 (ij:=a3) (pD:=F3) g3' h3 c3 (gK:=a4) (oy:=F4) g4 h4 c4 (f0:=a5) (iO:=T5) g5 t5 g6).1 ρ (.tup [.str (N++uw num),.bool (num % 2==1)]):=by
 refine EQ draw hg hN We fun us ws SN hul TG huf eF hws HA r6 OA=>?_
 have hF:=xD us SN (aA hul (by decide)) (aA TG (by decide));rw[eF,huf]at hF;rw[huf,List.length_append]at hul;have Wl:ws.flatten.length<=most:=aA HA (by decide);unfold qq;dsimp only;refine gm (bJ (bu h0 rfl (j7 _ _ (aA hul (by decide)))) hF) (bm rfl (iE (RdI M ws ws) (iS (EL rfl Wl hws) (wN ws (RdI M ws) (fun l u l' ρ h hR=>?_) (.mk rfl rfl rfl))) fun am hR=>?_))
 ·have hum:u∈ws:=h▸bw _ dJ
  have Up:l.flatten.length+u.length<=20:=by
   rw[<-h,gr,List.length_append,gA,List.length_append]at HA;exact aA (vg (nA _ _) _) HA
  have TN:(l.map (th M)).flatten.length+(th M u).length<=6:=by
   have:=congrArg List.length r6;rw[<-h,List.map_append,gr,List.length_append,bn,gA,List.length_append,List.length_append]at this;exact aA (vg (nA _ _) _) (aA (iM this) (nf hN 3))
  have hu1:1<=u.length:=by
   rcases OA u hum with h|⟨c,rfl,_⟩
   ·rw[h];decide
   ·exact cF _
  have bN:((l.flatten++u).length:Int)=((l.flatten.length+u.length-1:Nat):Int)+1:=by rw[List.length_append];exact congrArg Int.ofNat (rP (aA hu1 (y8 _ _))).symm
  have lE:(l.flatten++u).length<=most:=by rw[List.length_append];exact aA Up (by decide)
  have OC:l.flatten.length+u.length<=most:=aA Up (by decide);have SP:u.length<=most:=aA (y8 _ _) OC;have e3:some (V.str (l.flatten++u))=some (V.str (l++[u]).flatten):=congrArg (fun z=>some (V.str z)) (uK l u).symm;have e2:some (V.str ((l.map (th M)).flatten++th M u))=some (V.str ((l++[u]).map (th M)).flatten):=congrArg (fun z=>some (V.str z)) (by rw[List.map_append];exact(uK _ _).symm);obtain⟨r1,r2,r3⟩:=hR;refine ex3 ρ r1 r2 r3 fun σ=>?_
  rcases OA u hum with h2|⟨c,rfl,hc⟩
  ·rw[Gq M h2,gn]at e2
   exact⟨_,_,rfl,EJ rfl rfl (on _ _ OC) (bO (j8 (ba (bJ rfl (oo _ lE)) (ad rfl rfl) (P9 bN)) rfl) (bO (j8 (j8 (ba (bJ rfl (oo _ SP)) rfl ((jD _ _).trans (congrArg some (mG (by rw[h2];decide))))) rfl) rfl) rfl)),.mk rfl e2 e3⟩
  ·rcases hM c hc with⟨hf3,hmf⟩|⟨hf3,hf4⟩
   ·rw[show th M [c]=[]from hmf,gn]at e2
    exact⟨_,_,rfl,EJ rfl rfl (on _ _ OC) (bO (j8 (ba (bJ rfl (oo _ lE)) (ad rfl rfl) (P9 bN)) rfl) (bO (j8 (td (ba (bJ rfl (oo _ SP)) rfl (jD _ _)) (bh (dy (bJ rfl hf3) rfl) rfl)) rfl) rfl)),.mk rfl e2 e3⟩
   ·exact⟨_,_,rfl,EJ rfl rfl (on _ _ OC) (bO (j8 (ba (bJ rfl (oo _ lE)) (ad rfl rfl) (P9 bN)) rfl) (bO (td (td (ba (bJ rfl (oo _ SP)) rfl (jD _ _)) (bh (dy (bJ rfl hf3) rfl) rfl)) (EJ rfl (bJ rfl hf4) (on _ _ (aA TN (by decide))) rfl)) rfl)),.mk rfl e2 e3⟩
 ·obtain⟨r1,r2,r3⟩:=hR
  rw[r6]at r2;obtain⟨s1,s2,s3⟩:=ER sg hN;have hn7:num<=26:=mH (cD.mp (show([7,8,9,10,25,26].all fun n=>decide (n<=26))=true by decide) num Wk);have hdg:digits ((num+1)/2:Int)=uw num:=eq_of_beq (cD.mp Wd num Wk);have ad7:Q1 [.int ((num+1)/2:Int)]=some (.str (uw num)):=by rw[Q2,aw (by omega),hdg]
  have So:(uw num).length<=2:=by unfold uw;split<;>(try split)<;>decide
  have hq:decide ((num:Int) % 2=1)=(num % 2==1):=by rw[yI,decide_eq_true_iff,jW];omega
  have hnn:Dg (.str ws.flatten) (.str ws.flatten)=some false:=by rw[Sw,pO];rfl
  exact ex3 am r1 r2 r3 fun σ=>bm (j8 (Qa (ba rfl rfl hnn) (ba (eA rfl rfl rfl rfl s1) rfl rfl)) rfl) (gm (dy (eA rfl rfl rfl rfl s2) (bh hT rfl)) (eS (bh (aq (bu (eA rfl rfl rfl rfl s3) (bJ (dv (ad rfl rfl) rfl) ad7) (j7 _ _ (aA (p8 hN So) (by decide)))) (aq (bh (ba (md rfl rfl) rfl ((jD _ _).trans (congrArg some hq))) rfl) rfl)) rfl)))
noncomputable def X6:CM where
 f:=LJ
 base:=fun b hb i hi=>by
  have:=cD.mp (cD.mp Ox b hb) i (gE.mpr hi);simpa using this
 edge:=fun e he=>by
  have:=cD.mp Oy e he;simpa using this
 unseen:=fun e he=>by
  have:=cD.mp HQ e he;simpa using this
 sign:=fun c hc=>by
  have:=cD.mp Oz c hc;simpa using this
 lig:=fun j hj=>by
  have:=cD.mp SM j (gE.mpr hj);simpa using this
noncomputable def SQ{P:Pk}{n:Nat}(g1:P.glob "ord"=some (.builtin "ord"))(g2:P.glob "b1_set"=some (.ref 50)){T:Int->Bool}(hG:∀h,P.G h->∃n,h.SetOf (intKind P.prog P.w) 50 T n):{f:al->Option (al×Fl)//qa P n KB1 (dz (aJ pq.main.body 7)) f}:=by
 refine⟨_,ac (aX (Bs ?_ g2 ?_ hG (aI ?_ g1 ?_ Jq (O (ae (Z 0 rfl ?_ ?_)) ab (fun ø=>rfl)) (fun ø=>rfl) (by simp)) ?_)) aj⟩
 all_goals first|rfl|decide
noncomputable def SR{P:Pk}{n:Nat}(g1:P.glob "ord"=some (.builtin "ord"))(g2:P.glob "b3_exceptions"=some (.ref 61)){F}(hG:Jy P 61 "get" F):{f:al->Option (al×Fl)//qa P n KB3 (dz (aJ pq.main.body 9)) f}:=by
 refine⟨_,ac (aD 1 rfl ?_ (Br ?_ g2 ?_ hG (O (aI ?_ g1 ?_ Jq (O (Z 0 rfl ?_ ?_) ab (fun ø=>rfl)) (fun ø=>rfl) (by simp)) ab (fun ø=>rfl)) (fun ø=>rfl) (by decide) ?_ (fun ø=>rfl)) ?_)
  (ac (aT (aR Fv (ae (Z 1 rfl ?_ ?_)) lI ?_) (ac (aX (ae (Z 1 rfl ?_ ?_))) aj) aj)
  (ac (aX (eE (ae (Z 0 rfl ?_ ?_)) Uv ab (fun ø=>rfl) (by decide) ?_ (fun ø=>rfl))) aj))⟩
 all_goals first|rfl|decide|(intro _ _;rfl)|skip
theorem ST{P:Pk}{n:Nat}{g1 g2}{T:Int->Bool}{hG}{ρ:al}{c:Nat}(h0:ρ 0=some (.str [c])):Ends (SQ (P:=P) (n:=n) g1 g2 (T:=T) hG).1 ρ (.bool (T c)):=by
 unfold SQ;dsimp only;refine ft ⟨ρ,?_⟩;simp[eD,aQ,h0,QZ,JB]
theorem SU{P:Pk}{n:Nat}{g1 g2}{hG:Jy P 61 "get" (Jz R4 R5)}{ρ:al}{c:Nat}(hc:(oY [c]).length<10)(h0:ρ 0=some (.str [c])):Ends (SR (P:=P) (n:=n) g1 g2 hG).1 ρ (.str ((M4 FV c).getD (oY [c]))):=by
 unfold SR;dsimp only;have ht:Jz R4 R5 [.int c]=some (((M4 FV c).map V.str).getD .none):=by
  simp only[Rd];rw[Cs]
 have hl:Q7 (.str [c]) []=some (.str (oY [c])):=by
  apply Q8;unfold oY at hc;unfold Builtin.Str.tooLong;simp only[uW];have hsz:(10:Nat)<=sizeLine:=by decide
  have e:(Txt.lower (pyStr [c])).length=(Txt.lower (pyStr [c])).cps.toList.length:=by simp[Str.length]
  omega
 generalize M4 FV c=o at*;refine ex1 ρ h0 fun σ=>?_
 cases o with
 |none=>exact gm (dy (aq (bJ rfl rfl) rfl) ht) (bm (j8 rfl rfl) (eS (HL rfl rfl hl)))
 |some t=>exact gm (dy (aq (bJ rfl rfl) rfl) ht) (ft ⟨_,td rfl rfl⟩)
section
section
variable{P:Pk}(X:bF P)
include X
theorem bF.fB:P.glob s5=some (.ref 28):=X.glob _ _ (by kernel_rfl)
theorem bF.f8:P.glob s6=some (.ref 35):=X.glob _ _ (by kernel_rfl)
theorem bF.ea:P.glob s7=some (.ref 42):=X.glob _ _ (by kernel_rfl)
theorem bF.OD:P.glob s8=some (.ref 50):=X.glob _ _ (by kernel_rfl)
theorem bF.Aj:P.glob s9=some (.ref 60):=X.glob _ _ (by kernel_rfl)
theorem bF.wV:P.glob WU=some (.ref 61):=X.glob _ _ (by kernel_rfl)
theorem bF.xP:P.glob MW=some (.ref 106):=X.glob _ _ (by kernel_rfl)
theorem bF.kb:P.glob DR=some (.ref 168):=X.glob _ _ (by kernel_rfl)
theorem bF.qr:P.glob WY=some (.ref 173):=X.glob _ _ (by kernel_rfl)
theorem bF.ti:P.glob IN=some (.ref 180):=X.glob _ _ (by kernel_rfl)
theorem bF.qs:P.glob IO=some (.ref 185):=X.glob _ _ (by kernel_rfl)
theorem bF.mj:P.glob G5=some (.ref 192):=X.glob _ _ (by kernel_rfl)
theorem bF.qt:P.glob MY=some (.ref 199):=X.glob _ _ (by kernel_rfl)
theorem bF.qu:P.glob IP=some (.ref 204):=X.glob _ _ (by kernel_rfl)
theorem bF.oA:P.glob IQ=some (.ref 209):=X.glob _ _ (by kernel_rfl)
theorem bF.mm:P.glob IR=some (.ref 216):=X.glob _ _ (by kernel_rfl)
theorem bF.bz:P.glob AR=some (.type "range"):=X.built _ _ (by decide) (by kernel_rfl) (by kernel_rfl)
theorem bF.cb:P.glob vj=some (.builtin "len"):=X.built _ _ (by decide) (by kernel_rfl) (by kernel_rfl)
theorem bF.wP:P.glob Yw=some (.builtin "ord"):=X.built _ _ (by decide) (by kernel_rfl) (by kernel_rfl)
theorem bF.rA:P.glob W4=some (.builtin "chr"):=X.built _ _ (by decide) (by kernel_rfl) (by kernel_rfl)
theorem bF.t7:P.glob Tz=some (.builtin "sum"):=X.built _ _ (by decide) (by kernel_rfl) (by kernel_rfl)
theorem bF.ls:P.glob M7=some (.builtin "max"):=X.built _ _ (by decide) (by kernel_rfl) (by kernel_rfl)
theorem bF.eQ:P.glob MZ=some (.builtin "sorted"):=X.built _ _ (by decide) (by kernel_rfl) (by kernel_rfl)
theorem bF.wW:P.glob T8=some (.type "set"):=X.built _ _ (by decide) (by kernel_rfl) (by kernel_rfl)
theorem bF.LK:P.glob Yx=some (.type "str"):=X.built _ _ (by decide) (by kernel_rfl) (by kernel_rfl)
theorem bF.wO:P.glob Yv=some (.type "list"):=X.built _ _ (by decide) (by kernel_rfl) (by kernel_rfl)
theorem bF.Ak:P.glob Yy=some (.type "tuple"):=X.built _ _ (by decide) (by kernel_rfl) (by kernel_rfl)
theorem bF.f9:∀h,P.G h->∃o fd,h.get? 35=some o/\o.data= .func fd:=fun h G=>by
 obtain⟨⟨o,h1,h2,h3⟩,h4⟩:=PQ (X.top h G) fun ø ø e=>e
 exact⟨o,_,h1,h3⟩
theorem bF.ec:∀h,P.G h->∃o fd,h.get? 42=some o/\o.data= .func fd:=fun h G=>by
 obtain⟨⟨o,h1,h2,h3⟩,h4⟩:=PR (X.top h G) fun ø ø e=>e
 exact⟨o,_,h1,h3⟩
theorem bF.Al:∀h,P.G h->∃o fd,h.get? 60=some o/\o.data= .func fd:=fun h G=>by
 obtain⟨⟨o,h1,h2,h3⟩,h4⟩:=PS (X.top h G) fun ø ø e=>e
 exact⟨o,_,h1,h3⟩
theorem bF.xQ:∀h,P.G h->∃o fd,h.get? 106=some o/\o.data= .func fd:=fun h G=>by
 obtain⟨⟨o,h1,h2,h3⟩,h4⟩:=Kr (X.top h G) fun ø ø e=>e
 exact⟨o,_,h1,h3⟩
theorem bF.tj:∀h,P.G h->∃o fd,h.get? 180=some o/\o.data= .func fd:=fun h G=>by
 obtain⟨⟨o,h1,h2,h3⟩,h4⟩:=Kz (X.top h G) fun ø ø e=>e
 exact⟨o,_,h1,h3⟩
theorem bF.qv:∀h,P.G h->∃o fd,h.get? 185=some o/\o.data= .func fd:=fun h G=>by
 obtain⟨⟨o,h1,h2,h3⟩,h4⟩:=KB (X.top h G) fun ø ø e=>e
 exact⟨o,_,h1,h3⟩
theorem bF.mn:∀h,P.G h->∃o fd,h.get? 192=some o/\o.data= .func fd:=fun h G=>by
 obtain⟨⟨o,h1,h2,h3⟩,h4⟩:=KC (X.top h G) fun ø ø e=>e
 exact⟨o,_,h1,h3⟩
theorem bF.qw:∀h,P.G h->∃o fd,h.get? 199=some o/\o.data= .func fd:=fun h G=>by
 obtain⟨⟨o,h1,h2,h3⟩,h4⟩:=KD (X.top h G) fun ø ø e=>e
 exact⟨o,_,h1,h3⟩
theorem bF.qx:∀h,P.G h->∃o fd,h.get? 204=some o/\o.data= .func fd:=fun h G=>by
 obtain⟨⟨o,h1,h2,h3⟩,h4⟩:=KE (X.top h G) fun ø ø e=>e
 exact⟨o,_,h1,h3⟩
theorem bF.oB:∀h,P.G h->∃o fd,h.get? 209=some o/\o.data= .func fd:=fun h G=>by
 obtain⟨⟨o,h1,h2,h3⟩,h4⟩:=KF (X.top h G) fun ø ø e=>e
 exact⟨o,_,h1,h3⟩
theorem bF.mq:∀h,P.G h->∃o fd,h.get? 216=some o/\o.data= .func fd:=fun h G=>by
 obtain⟨⟨o,h1,h2,h3⟩,h4⟩:=KH (X.top h G) fun ø ø e=>e
 exact⟨o,_,h1,h3⟩
end
theorem kB(P:Params):Lw P Pm=some (.ref 130):=by kernel_rfl
theorem kF:typeLookup (.type "object") Pm=pure none:=by rw[p0,p5];kernel_rfl
theorem bF.cJ{P:Pk}(X:bF P):∀h,P.G h->∃of fd,h.get? 130=some of/\of.cls= .type "function"/\of.data= .func fd:=fun h G=>by
 obtain⟨⟨o,h1,h2,h3⟩,h4⟩:=Kv (X.top h G) fun ø ø e=>e
 exact⟨o,_,h1,h2,h3⟩
theorem gc(P:Params):Lw P MX=some (.ref 137):=by kernel_rfl
theorem ge:typeLookup (.type "object") MX=pure none:=by rw[p0,p5];kernel_rfl
theorem bF.bo{P:Pk}(X:bF P):∀h,P.G h->∃of fd,h.get? 137=some of/\of.cls= .type "function"/\of.data= .func fd:=fun h G=>by
 obtain⟨⟨o,h1,h2,h3⟩,h4⟩:=Kw (X.top h G) fun ø ø e=>e
 exact⟨o,_,h1,h2,h3⟩
theorem wX(P:Params):Lw P Pn=some (.ref 144):=by kernel_rfl
theorem wY:typeLookup (.type "object") Pn=pure none:=by rw[p0,p5];kernel_rfl
theorem bF.rC{P:Pk}(X:bF P):∀h,P.G h->∃of fd,h.get? 144=some of/\of.cls= .type "function"/\of.data= .func fd:=fun h G=>by
 obtain⟨⟨o,h1,h2,h3⟩,h4⟩:=Kx (X.top h G) fun ø ø e=>e
 exact⟨o,_,h1,h2,h3⟩
theorem fE(P:Params):Lw P Po=some (.ref 151):=by kernel_rfl
theorem fG:typeLookup (.type "object") Po=pure none:=by rw[p0,p5];kernel_rfl
theorem bF.cS{P:Pk}(X:bF P):∀h,P.G h->∃of fd,h.get? 151=some of/\of.cls= .type "function"/\of.data= .func fd:=fun h G=>by
 obtain⟨⟨o,h1,h2,h3⟩,h4⟩:=Ky (X.top h G) fun ø ø e=>e
 exact⟨o,_,h1,h2,h3⟩
end
section
variable{P:Pk}{n:Nat}{K K':Cx}{lo:Bool}
theorem aB.Am{env:Env}{out out' hid:List Addr}{m}{B s:Shared}{ρ}(S:aB P K env out hid m B s ρ)(e:∀a,a∈out'<->a∈out):aB P K env out' hid m B s ρ:=
 S.map S.live (fun a h=>S.oh a ((e a).mp h)) S.ns S.kp (fun a h ho=>S.own a h fun z=>ho ((e a).mpr z)) (fun a h ho=>⟨h,fun z=>ho ((e a).mp z),fun ø e=>e⟩) (fun ø ø ø e=>e) fun ø h=>.inl h
inductive X7{γ:Type}(P:Pk)(K:Cx)(env:Env)(out:List Addr)(B:Shared)(xs:List V)(Wf:γ->List Addr)(Inv:γ->Heap->Prop)(J:Nat->al->γ->Prop)(W:List Addr)(St:List Addr->Nat->Shared->Prop)(k:Nat)(s':Shared):Prop
 |mk (i:Nat) (ao:List Addr) (m':Str->Option Value) (am:al) (lR:γ) (e:k+i=xs.length) (S:aB P K env (Wf lR++(W++out)) ao m' B s' am) (b:∀a∈Wf lR,B.heap.get? a=none) (v:Inv lR s'.heap) (wh:∀a∈W,a∈ao) (st:St ao i s') (j:J i am lR) (l:cx s'.heap (Wf lR)) (p:∀a∈Wf lR,a∉W) (o:∀a∈Wf lR,a∉out):X7 P K env out B xs Wf Inv J W St k s'
inductive X8{γ:Type}(P:Pk)(K:Cx)(env:Env)(out hid:List Addr)(B s s':Shared)(Wf:γ->List Addr)(Inv:γ->Heap->Prop)(J:Nat->al->γ->Prop)(i:Nat)(g:γ):Prop
 |mk (ao:List Addr) (m':Str->Option Value) (aY:al) (g':γ) (S:aB P K env (Wf g'++out) ao m' B s' aY) (b:∀a∈Wf g',B.heap.get? a=none) (v:Inv g' s'.heap) (j:J i aY g') (k:Ks out hid ao s s') (n:∀a∈Wf g',a∈Wf g\/s.heap.get? a=none):X8 P K env out hid B s s' Wf Inv J i g
theorem Cz(X Y out:List Addr)(a:Addr):a∈X++(Y++out)<->a∈Y++(X++out):=by
 simp only[cr];exact⟨fun h=>h.elim (fun q=>.inr (.inl q)) fun h=>h.elim .inl fun q=>.inr (.inr q),fun h=>h.elim (fun q=>.inr (.inl q)) fun h=>h.elim .inl fun q=>.inr (.inr q)⟩
section
variable{γ:Type}{Wf:γ->List Addr}{Inv:γ->Heap->Prop}{J J':Nat->al->γ->Prop}{lc:Bool}{target iter:Expr}{body:List Stmt}{pos:Pos}{asg:al->V->Option al}{A:Around}{env:Env}{out hid:List Addr}{B s:Shared}{xs:List V}{E:Value->Shared->Prop}{Q:Flow->Shared->Prop}
theorem ES(eF:∀g h h',Inv g h->(∀a∈Wf g,∀o,h.get? a=some o->h'.get? a=some o)->Inv g h'){I:Addr}{W:List Addr}{gi:Option Nat}{St:List Addr->Nat->Shared->Prop}(rm:bW n A)(hI:uB P A I W gi xs St)(hWB:∀a∈W,B.heap.get? a=none)(He:∀g,gi=some g->B.gens.size<=g)(QP:∀a∈out,a∉W)
  (ha:ze P K lc target asg) (SV:∀i x ρ g,xs[i]?=some x->J i ρ g->∃am,asg ρ x=some am/\J' i am g)
  (hb:∀i x (out hid:List Addr) m s ρ g E Q,xs[i]?=some x->aB P K env (Wf g++out) hid m B s ρ->(∀a∈Wf g,B.heap.get? a=none)->(∀a∈Wf g,a∉out)->Inv g s.heap->J' i ρ g->(∀s',X8 P K env out hid B s s' Wf Inv J (i+1) g->Q .next s')->wpAny (model P.prog P.w) A (execs body env) Q E s)
  (hQ:∀s' ao m' aY g',aB P K env (Wf g'++out) ao m' B s' aY->(∀a∈Wf g',B.heap.get? a=none)->Inv g' s'.heap->J xs.length aY g'->Q .next s') {k:Nat} {s':Shared} (h:X7 P K env out B xs Wf Inv J W St k s'):
  wpAny (model P.prog P.w) A (pyNext (.ref I)) (FT P A E env Q target body (fun t=>∃m,m<k/\X7 P K env out B xs Wf Inv J W St m t) (.ref I)) (FE P A E env) s':=by
 obtain⟨i,ao,m',am,lR,e,S',hB,OE,vr,Jg,hJ,X9,oV,PV⟩:=h;by_cases de:i<xs.length
 ·obtain⟨j,hj⟩:=yO de
  have hk:k=j+1:=by omega
  have Hi:j+(i+1)=xs.length:=by omega
  have hx:=dX de;refine au (hI.item ao i s' xs[i] _ hx vr S'.G S'.live Jg) (fun r cB eh=>?_) fun ø ø q=>q
  obtain⟨v,er,hv,K0,hq,mv⟩:=eh;rw[er];obtain⟨fk,h1,hJ'⟩:=SV i xs[i] am lR hx hJ;refine vp hq (au (ha A env _ ao m' B cB am fk xs[i] v _ rm.handled (S'.step (W:=W) (fun a h=>bw _ (bj _ h)) mv hWB He) h1 hv) (fun ø gQ A3=>?_) fun ø ø q=>q);obtain⟨n6,Hj,jP,mS,_⟩:=A3;have yt:Inv lR gQ.heap:=eF lR _ _ OE fun a h o e=>mS.keep a o (.inr (bj _ h)) (mv.keep a o (oV a h) e)
  refine hb i xs[i] (W++out) n6 Hj gQ fk lR _ _ hx jP hB (fun a h q=>(cr.mp q).elim (oV a h) (PV a h)) yt hJ' fun nR vu=>?_
  obtain⟨l7,Ca,iN,lS,ww,CB,LO,Wm,sY,eG⟩:=vu;exact⟨j,hk▸m3 j,i+1,l7,Ca,iN,lS,Hi,ww,CB,LO,fun a h=>sY.sub a (mS.sub a (vr a h)),
   hI.frame n6 l7 (i+1) gQ nR (fun a h=>mS.sub a (vr a h)) (hI.frame ao n6 (i+1) cB gQ vr K0 (mS.only fun a h=>bw _ (bj _ h))) (sY.only fun a h=>bj _ h),Wm,fun a h=>ww.live a (ww.oh a (bj _ h)),
   fun a h q=>(eG a h).elim (fun z=>oV a z q) fun z=>(jP.live a (mS.sub a (vr a q))).elim fun o e=>(nomatch z.symm.trans e),fun a h q=>(eG a h).elim (fun z=>PV a z q) fun z=>(jP.live a (jP.oh a (bw _ (bw _ q)))).elim fun o e=>nomatch z.symm.trans e⟩
 ·have he:i=xs.length:=by omega
  refine au (hI.done ao s' _ vr S'.G S'.live (he▸Jg)) (fun r cB eh=>?_) fun ø ø q=>q
  obtain⟨er,mv⟩:=eh;rw[er];exact hQ cB _ m' am lR ((S'.Am (Cz W (Wf lR) out)).last mv hWB He fun a h q=>(cr.mp h).elim (fun z=>oV a z q) fun z=>QP a z q) hB (eF lR _ _ OE fun a h o e=>mv.keep a o (oV a h) e) (he▸hJ)
theorem HS(eF:∀g h h',Inv g h->(∀a∈Wf g,∀o,h.get? a=some o->h'.get? a=some o)->Inv g h'){m:Str->Option Value}{ρ:al}{g:γ}(rm:bW n A)(S:aB P K env (Wf g++out) hid m B s ρ)
  (He:∀a∈Wf g,B.heap.get? a=none) (PV:∀a∈Wf g,a∉out) (OE:Inv g s.heap) (hJ:J 0 ρ g)
  (hi:wpAny (model P.prog P.w) A (eval iter env) (fun v s₁=>wpAny (model P.prog P.w) A (pyIter v) (fun it s₂=>TL P A hid xs s s₂ it) E s₁) E s)
  (ha:ze P K lc target asg) (SV:∀i x ρ g,xs[i]?=some x->J i ρ g->∃am,asg ρ x=some am/\J' i am g)
  (hb:∀i x (out hid:List Addr) m s ρ g E Q,xs[i]?=some x->aB P K env (Wf g++out) hid m B s ρ->(∀a∈Wf g,B.heap.get? a=none)->(∀a∈Wf g,a∉out)->Inv g s.heap->J' i ρ g->(∀s',X8 P K env out hid B s s' Wf Inv J (i+1) g->Q .next s')->wpAny (model P.prog P.w) A (execs body env) Q E s)
  (hs:∀x,foldedSetIterable iter env x=pure x) (hQ:∀s' ao m' aY g',aB P K env (Wf g'++out) ao m' B s' aY->(∀a∈Wf g',B.heap.get? a=none)->Inv g' s'.heap->J xs.length aY g'->Q .next s'):
  wpAny (model P.prog P.w) A (exec (.For target iter body [] pos) env) Q E s:=by
 refine A2 hs (au hi (fun v s₁ ag=>au ag (fun it s₂ aH=>?_) fun ø ø q=>q) fun ø ø q=>q);obtain⟨I,W,gi,St,e,kp,hI,hW,lW,hg,st⟩:=aH;rw[e];have cC:aB P K env (Wf g++(W++out)) (W++hid) m B s₂ ρ:=(S.outer kp hW lW).Am (Cz _ _ _);have nW:∀a∈Wf g++out,a∉W:=fun a h q=>(S.live a (S.oh a h)).elim fun o e=>nomatch e.symm.trans (hW a q)
 exact⟨fun k s'=>X7 P K env out B xs Wf Inv J W St k s',xs.length,⟨0,W++hid,m,ρ,g,rfl,cC,He,eF g _ _ OE fun a ø o e=>kp.keep a o e,fun a h=>bj _ h,st,hJ,fun a h=>cC.live a (cC.oh a (bj _ h)),fun a h=>nW a (bj _ h),PV⟩,
  fun k s' h=>ES eF rm hI (fun a h=>S.fresh (hW a h)) (fun g e=>aA S.kp.gens.size (hg g e)) (fun a h=>nW a (bw _ h)) ha SV hb hQ h⟩
end
end
section
variable{P:Pk}{n:Nat}{K K':Cx}{lo:Bool}{C N:Addr}{mN:Str->Option Value}
theorem aB.Wn(W:cP P C N mN){env:Env}{out hid:List Addr}{m}{B s:Shared}{ρ}(S:aB P K env out hid m B s ρ)(i:Nat){x:Str}{k:NameKind}(hi:K.vars[i]?=some (x,k,true))(hv:K'.vars=K.vars.set i (x,k,false))(hg:K'.aM=K.aM){ks:List Int}{l:List V}(hy:ρ i=some (.dict ks l)):
  ∃d vs,aB P K' env (d::out) hid m B s (upd ρ i (.obj [.int (d:Nat)]))/\s.heap.DictOf (intKind P.prog P.w) d (ks.zip vs)/\vs.length=ks.length/\(d==sysModules)=false/\B.heap.get? d=none/\d∉out:=by
 obtain⟨ov,TF,VT⟩:=S.slot i x k true hi;rw[hy]at VT;obtain⟨v0,rfl,bx⟩:=VT;rw[aw rfl]at bx;obtain⟨a,rfl,ha1,XY,ha3,ha4⟩:=fc.addr (P:=P) bx;obtain⟨a',vs,e,z1,z2,z3,z4,z5,z6,z7⟩:=bx;cases e;exact⟨a,vs,S.unbox hi hv hg hy TF ha4 (fun b h=>(bp.mp h).elim (fun e=>e▸ha1) (S.oh b)) (fun b h ho=>S.own b h fun z=>ho (cw _ z)) (fun b h ho bN=>⟨h,fun q=>(bp.mp q).elim bN ho⟩) ha3 (fun ø h=>h)
  (fun h=>h.map id fun c ø q2 q3 q4=>⟨q2,fun q=>(bp.mp q).elim (fun e=>ha4.lL (e▸q4)) q3,q4⟩) (fun j nj=>gZ _ _ nj) (jf ..) (Dn.Gb W a),z6,z5,z4,S.own a ha1 XY,XY⟩
noncomputable def An(h:Heap)(a:Addr)(l:List Int):Prop:=∃vs,h.PlainList a vs.toArray/\IntsAre vs l
theorem An.at{h h':Heap}{a l}(x:An h a l)(k:∀o,h.get? a=some o->h'.get? a=some o):An h' a l:=let⟨vs,h1,h2⟩:=x;⟨vs,h1.at k,h2⟩
theorem wZ{h:Heap}{hid:List Addr}{vs:List Value}{ns:List Int}(hI:IntsAre vs ns):aU P h hid (ns.map .int) vs:=by
 induction hI with
 |nil=>exact aV.nil
 |cons k t _ ih=>exact .cons (Dn.ofInt (P:=P) k t) ih
theorem An.dn{h:Heap}{a l}(x:An h a l):Dn P h [] (.list (l.map .int)) (.ref a):=by
 obtain⟨vs,h1,h2⟩:=x;exact .ofList (fun h=>nomatch h) h1 (wZ h2)
theorem w0{h:Heap}{hid:List Addr}:∀{ns:List Int} {vs:List Value},aU P h hid (ns.map .int) vs->IntsAre vs ns
 |[],vs,e=>by obtain rfl:=aU.nil_inv e;exact .nil
 |k::ns,vs,e=>by
  obtain⟨v,r,rfl,h1,h2⟩:=aU.cons_inv e;obtain⟨t,rfl⟩:=h1.int_inv;exact .cons k t (w0 h2)
noncomputable abbrev iT:=Int×Addr×List Int
structure iU(P:Pk)(d:Addr)(g:List iT)(h:Heap):Prop where
 nodup:(d::g.map (·.2.1)).Nodup
 dict:h.DictOf (intKind P.prog P.w) d (g.map fun e=>(e.1,Value.ref e.2.1))
 lists:∀e∈g,An h e.2.1 e.2.2
 few:g.length<=64
noncomputable abbrev Wf(d:Addr)(g:List iT):List Addr:=d::g.map (·.2.1)
theorem iU.keep{d:Addr}{g:List iT}{h h':Heap}(x:iU P d g h)(k:∀a∈Wf d g,∀o,h.get? a=some o->h'.get? a=some o):iU P d g h' where
 nodup:=x.nodup
 dict:=by
  obtain⟨o,es,ep,e,r⟩:=x.dict;exact⟨o,es,ep,k d (by simp) o e,r⟩
 lists:=fun e he=>(x.lists e he).at fun o q=>k _ (by simp only[bp,bP];exact .inr ⟨e,he,rfl⟩) o q
 few:=x.few
end
section
variable{P:Pk}{n:Nat}{K K':Cx}{lo:Bool}{C N:Addr}{mN:Str->Option Value}
theorem w1(W:cP P C N mN){A:Around}{env:Env}{out hid:List Addr}{m:Str->Option Value}{B s:Shared}{ρ:al}(S:aB P K env out hid m B s ρ){i:Nat}{x:Str}{k:NameKind}{a:Addr}(hi:K.vars[i]?=some (x,k,false))(hy:ρ i=some (.obj [.int (a:Nat)]))
  (hd:(x==("__debug__":Str))=false) (hc:(x==("__classdict__":Str))=false) {name:Str} {args:List Expr} {p apos pos:Pos} {T id:String} (pa:PlainAttrs T) (slot:Slot T name id) (ty:typeOf (.builtin id)=pure (.type "method_descriptor"))
  (hT:s.TypeIs (.ref a) T) (vS:∃ob,s.heap.get? a=some ob/\ob.dict=none) {Q:Value->Shared->Prop} {E:Value->Shared->Prop} (eF:∀env,starEach args env=args.map fun e=>(false,eval e env)) (bN:args.length<20) (jh:(apos.endLine==pos.line)=true)
  (ji:∀env,attributeBase (.Name x p) name env (eval (.Name x p) env)=eval (.Name x p) env)
  (h:wpAny (model P.prog P.w) A (spliced (backTo pos (starEach args env))) (fun vs s₁=>wpAny (model P.prog P.w) A (call (.builtin id) (.ref a::vs)) Q E s₁) E s):
  wpAny (model P.prog P.w) A (eval (.Call (.Attribute (.Name x p) name apos) args [] pos) env) Q E s:=by
 have cL:(backTo pos (starEach args env)).any (·.1)=false:=dg eF;refine yJ (ji env) (nP cL bN) jh ?_;refine eV (S.load hi hy hd hc fun v hv ø=>?_) hd;obtain rfl:=Dn.uG W hv;exact⟨T,id,pa,slot,ty,hT,fun b e=>by cases e;exact vS,rL cL (dM cL h)⟩
theorem Ao{jM:List (Int×Value)}{k:Int}{v:Value}(h:valueAt jM k=some v):(k,v)∈jM:=by
 unfold valueAt at h;refine bV h ?_;rintro⟨k',v'⟩ h1 rfl;have:=List.find?_some h1;simp only[iK]at this;subst this;exact List.mem_of_find?_eq_some h1
theorem Ap{jM:List (Int×Value)}{k:Int}(h:valueAt jM k=none):∀e∈jM,e.1≠k:=by
 unfold valueAt at h;rw[Option.map_eq_none_iff,List.find?_eq_none]at h;intro e he q;exact h e he (by simp[q])
theorem Aq{A:Around}{s:Shared}{E:Value->Shared->Prop}{Q:Value->Shared->Prop}{d l:Addr}{g:List iT}{k:Int}{t:Tok}(lE:(d==sysModules)=false)(hI:iU P d g s.heap)(hl:s.heap.PlainList l #[])(eG:l∉Wf d g)(hg:g.length<64)
  (h1:∀a xs,(k,a,xs)∈g->Q (.ref a) {s with toks:=s.toks+1})
  (h2:(∀e∈g,e.1≠k)->∀h',Heap.SameBut d s.heap h'->iU P d (g++[(k,l,[])]) h'->Q (.ref l) {s with heap:=h',toks:=s.toks+1}):
  wpAny (model P.prog P.w) A (call (.builtin "dict.setdefault") [.ref d,.int k t,.ref l]) Q E s:=by
 have P4:((g.map fun e=>(e.1,Value.ref e.2.1)).map (·.1)).Nodup:=by
  obtain⟨o,es,ep,_,_,_,_,_,hn⟩:=hI.dict;exact hn
 refine u3 PySem.F.slot_dict_setdefault hI.dict.typeIs PySem.F.entry_dict_setdefault (PySem.F.args_dict_setdefault_3 _ _ _) (kt_meets_setdefault (intKind P.prog P.w) (k:=k) d (pV _ _ _ _) lE (.ref l)) ⟨_,hI.dict,?_,fun v hv=>?_,fun hv h' hD hs=>?_⟩
 ·rw[bi,gR];exact aA (eY hg) (by decide)
 ·have:=Ao hv
  obtain⟨e,he,q⟩:=bP.mp this;obtain⟨k',a,xs⟩:=e;simp only[Prod.mk.injEq]at q;obtain⟨rfl,rfl⟩:=q;exact h1 a xs he
 ·have Fx:∀e∈g,e.1≠k:=fun e he q=>by
   have:=Ap hv;exact this (e.1,.ref e.2.1) (bP.mpr ⟨e,he,rfl⟩) q
  refine h2 Fx h' hs ⟨?_,?_,?_,?_⟩
  ·rw[List.map_append,<-List.cons_append,kO]
   exact⟨hI.nodup,by simp,fun a ha b hb e=>eG (by simp at hb;rw[<-hb,<-e];exact ha)⟩
  ·have e:stored (g.map fun(e:iT)=>(e.1,Value.ref e.2.1)) k (.ref l)=((g++[(k,l,[])]).map fun(e:iT)=>(e.1,Value.ref e.2.1)):=by
    unfold stored;rw[az,List.map_append]
    ·rfl
    ·simp only[List.any_map,List.any_eq_true,Function.comp,iK,not_exists,not_and]
     exact fun e he q=>Fx e he q
   rw[<-e];exact hD
  ·intro e he
   rcases cr.mp he with he|he
   ·refine(hI.lists e he).at fun o q=>(hs.2 _ fun z=>?_).trans q
    have:=(gC.mp hI.nodup).1;exact this (by rw[<-z];exact nF he)
   ·simp only[cN]at he
    subst he;refine⟨[],?_,.nil⟩;exact hl.at fun o q=>(hs.2 _ fun z=>eG (by simp[z])).trans q
  ·simp;omega
end
section
variable{P:Pk}{n:Nat}{C N:Addr}{mN:Str->Option Value}
noncomputable def iV:Cx:={vars:=[(IZ,.local,false),(W5,.local,true),(Qv,.cell,true),(Tx,.local,false),(IS,.local,false),(Ft,.local,false),(W3,.local,false),(T6,.local,false)],aM:=[AR,vj,MZ]}
noncomputable def cY:Cx:={vars:=[(IZ,.local,false),(W5,.local,false),(Qv,.cell,true),(Tx,.local,false),(IS,.local,false),(Ft,.local,false),(W3,.local,false),(T6,.local,false)],aM:=[AR,vj,MZ]}
noncomputable def w2:Cx:={vars:=[(Tx,.local,false),(Qv,.cell,true)],aM:=[]}
noncomputable def pE:Stmt:=aJ (dz (aJ pq.main.body 67)) 1
noncomputable def oQ:Stmt->List Stmt:=qd [] (fun ø ø ø=>[]) (fun ø=>[]) (fun ø ø ø=>[]) (fun ø ø b=>b) (fun ø ø ø=>[])
noncomputable def LP:Stmt->List Stmt:=qd [] (fun ø ø ø=>[]) (fun ø=>[]) (fun ø ø ø=>[]) (fun ø ø ø=>[]) (fun ø b ø=>b)
noncomputable def SW:Stmt->List Stmt:=qd [] (fun ø ø ø=>[]) (fun ø=>[]) (fun ø ø ø=>[]) (fun ø ø ø=>[]) (fun ø ø b=>b)
noncomputable def Gr:Stmt->Expr:=qd default (fun ø ø ø=>default) (fun ø=>default) (fun ø ø ø=>default) (fun ø i ø=>i) (fun ø ø ø=>default)
noncomputable def LQ:{f:al->Option (al×Fl)//ul P n iV (aJ (dz (aJ pq.main.body 67)) 0) f}:=⟨_,(@lQ _ _ _ ([(1,W5,.local,true),(2,Qv,.cell,true)]) ([_,_]) _ _ _ _ _ _ _ ⟨by decide+kernel,by decide+kernel⟩ rfl (@jQ.new _ _ _ _ _ _ _ _ (@j4 _ _ _ _) (@jQ.new _ _ _ _ _ _ _ _ (@j4 _ _ _ _) (@jQ.nil _ _ _) (fun ø=>rfl)) (fun ø=>rfl)) (by decide) (@af _ _ _ (@af _ _ _ len0)) kY.len (fun ø=>rfl) (Of (K:=iV) (i:=0) (j:=2) rfl rfl))⟩
noncomputable def LR:{f:al->Option (al×Fl)//ul P n cY (aJ (oQ pE) 0) f}:=⟨_,(@oJ _ _ _ _ _ _ _ _ (@da _ _ _ _ _ _ _ (@ay _ _ _ _ _ _ _ (@ap _ _ _ 4 _ _ _ rfl (by decide) (by decide)) (@ay _ _ _ _ _ _ _ (@ap _ _ _ 5 _ _ _ rfl (by decide) (by decide)) (@bX _ _ _))) (@aE _ _ _ (@aE _ _ _ cH)) (fun ø=>rfl)) (@aF _ _ _ _ _ _ _ _ _ (@Z _ _ _ 0 _ _ _ rfl rfl rfl) (@ae _ _ _ _ _ (@Z _ _ _ 3 _ _ _ rfl rfl rfl)) (fun ø ø=>rfl)) (fun ø=>rfl) (fun ø=>rfl) (fun ø=>rfl))⟩
noncomputable def LT:{f:al->Option (al×Fl)//ul P n cY (aJ (LP (aJ (oQ pE) 2)) 1) f}:=⟨_,(@lT _ _ _ 2 _ _ _ _ _ _ _ _ _ _ rfl rfl rfl FH (@aa _ _ _ _ _ _ _) (@Z _ _ _ 3 _ _ _ rfl rfl rfl) (fun ø=>rfl))⟩
noncomputable def LU:{f:al->Option (al×Fl)//ul P n cY (aJ (LP (aJ (SW (aJ (oQ pE) 2)) 0)) 1) f}:=⟨_,(@lT _ _ _ 2 _ _ _ _ _ _ _ _ _ _ rfl rfl rfl FH (@ai _ _ _ _ _ _ _ _ _ _ _ tB (@Z _ _ _ 3 _ _ _ rfl rfl rfl) (@Z _ _ _ 7 _ _ _ rfl rfl rfl)) (@Z _ _ _ 7 _ _ _ rfl rfl rfl) (fun ø=>rfl))⟩
noncomputable def ET(bz:P.glob AR=some (.type "range"))(cb:P.glob vj=some (.builtin "len")):{f:al->Option (List V)//QO P n cY (Gr pE) f}:=⟨_,(@fh _ _ _ _ _ _ _ rfl bz (@O _ _ _ _ _ _ _ _ (@aI _ _ _ _ _ _ _ _ _ _ _ rfl cb rfl jn (@O _ _ _ _ _ _ _ _ (@Z _ _ _ 0 _ _ _ rfl rfl rfl) (@ab _ _ _ _) (fun ø=>rfl)) (fun ø=>rfl) (cf _ _)) (@ab _ _ _ _) (fun ø=>rfl)) (fun ø=>rfl) (cf _ _))⟩
noncomputable def LV(eQ:P.glob MZ=some (.builtin "sorted")):{f:al->Option (al×Fl)//ul P n cY (aJ (dz (aJ pq.main.body 67)) 2) f}:=⟨_,(@aX _ _ _ _ _ _ (@dL _ _ _ _ _ _ (@dj _ _ _ (w2) _ _ _ _ _ _ _ _ _ _ (1) ([2]) (@bQ _ _ _ _ _ (@dL _ _ _ _ _ _ (@ur _ _ _ _ _ _ _ _ _ _ rfl eQ (@cG _ _ _ 2 _ _ _ rfl rfl rfl) (fun ø=>rfl)))) (@bB _ _ _ _ _ (by decide+kernel)) (@ap _ _ _ 0 _ _ _ rfl (by decide) (by decide)) (@bY _ _ _) (@qR _ _ _ _ _ _ (@aF _ _ _ _ _ _ _ _ _ (@cG _ _ _ 1 _ _ _ rfl rfl rfl) (@ae _ _ _ _ _ (@Z _ _ _ 0 _ _ _ rfl rfl rfl)) (fun ø ø=>rfl))) (fun ø ø=>rfl))))⟩
end
section
variable{P:Pk}{n:Nat}{K K':Cx}{lo:Bool}{C N:Addr}{mN:Str->Option Value}
theorem t8{d:Addr}{g:List iT}{k a xs}(h:((k,a,xs):iT)∈g):a∈Wf d g:=by
 simp only[bp,bP];exact .inr ⟨_,h,rfl⟩
theorem LW(W:cP P C N mN){A:Around}{env:Env}{out hid:List Addr}{m:Str->Option Value}{B s:Shared}{ρ:al}{d:Addr}{g:List iT}{ip iq ik:Nat}{xp xq xk:Str}{kd:Int}{E:Value->Shared->Prop}{Q:Flow->Shared->Prop}
  (rm:bW n A) (lE:(d==sysModules)=false) (S:aB P K env (Wf d g++out) hid m B s ρ) (hB:∀a∈Wf d g,B.heap.get? a=none) (oV:∀a∈Wf d g,a∉out) (hI:iU P d g s.heap) (hg:g.length<64)
  (XS:K.vars[ip]?=some (xp,.local,false)) (Qb:K.vars[iq]?=some (xq,.local,false)) (hik:K.vars[ik]?=some (xk,.local,false)) (hp:ρ ip=some (.obj [.int (d:Nat)])) (hk:ρ ik=some (.int kd))
  (d1:(xp==("__debug__":Str))=false) (d2:(xp==("__classdict__":Str))=false) (d3:(xk==("__debug__":Str))=false) (d4:(xk==("__classdict__":Str))=false)
  {p1 p2 p3 p4 apos pos pos':Pos} {name:Str} (CC:name=(Str.ofString "setdefault")) (jh:(apos.endLine==pos.line)=true) (ji:∀env,attributeBase (.Name xp p1) name env (eval (.Name xp p1) env)=eval (.Name xp p1) env)
  (eF:∀env,starEach [.Name xk p2,.List [] p3] env=[.Name xk p2,.List [] p3].map fun e=>(false,eval e env)) (PB:∀env,swapsWith (.Call (.Attribute (.Name xp p1) name apos) [.Name xk p2,.List [] p3] [] pos) (some (.Name xq p4)) pos'.line env=pure false)
  (h:∀s' a ao m' g',aB P K env (Wf d g'++out) ao m' B s' (upd ρ iq (.obj [.int (a:Nat)]))->(∀a∈Wf d g',B.heap.get? a=none)->iU P d g' s'.heap->((∃xs,(kd,a,xs)∈g/\g'=g)\/((∀e∈g,e.1≠kd)/\g'=g++[(kd,a,[])]))->Ks out hid ao s s'->(∀a∈Wf d g',a∈Wf d g\/s.heap.get? a=none)->Q .next s'):
  wpAny (model P.prog P.w) A (exec (.Assign [.Name xq p4] (.Call (.Attribute (.Name xp p1) name apos) [.Name xk p2,.List [] p3] [] pos) pos') env) Q E s:=by
 subst CC;refine qI ?_ (PB env);obtain⟨od,esd,epd,Xh,ad8,_⟩:=id hI.dict;refine w1 W S XS hp d1 d2 yR PySem.F.slot_dict_setdefault PySem.F.type_dict_setdefault hI.dict.typeIs ⟨od,Xh,ad8.2.1⟩ eF (by simp) jh ji ?_;refine jV (eV (S.load hik hk d3 d4 fun v hv ø=>?_) d3) rfl;obtain⟨t,rfl⟩:∃t,v= .int kd t:=Dn.int_inv (P:=P) (h:=s.heap) (hid:=hid) (by simpa using hv);have e2:starEach [.List [] p3] env=(false,eval (.List [] p3) env)::starEach [] env:=rfl;refine jV (wpAny_List (jU ⟨by simp,jU ?_⟩)) e2
 let s₁:Shared:={s with heap:=s.heap.push {cls:=.type "list",data:=.seq ([]:List Value).toArray} }
 have k1:Kp s s₁:=Kp.push s _ s.toks;have TY:s.heap.get? s.heap.objs.size=none:=aP _;have SX:s₁.heap.get? s.heap.objs.size=some {cls:=.type "list",data:=.seq ([]:List Value).toArray}:=bD _ rfl;have LX:iU P d g s₁.heap:=hI.keep fun a ø o e=>k1.keep a o e
 have hlW:s.heap.objs.size∉Wf d g:=fun q=>by
  obtain⟨o,e⟩:=S.live _ (S.oh _ (bj _ q));rw[TY]at e;cases e
 refine Aq (t:=t) lE LX ⟨0,SX⟩ hlW hg (fun a xs ha=>?_) (fun Fx h' hs hI'=>?_)
 ·
  have k2:Kp s {s₁ with toks:=s₁.toks+1}:=k1.trans (Kp.toks _ _);have cC:=S.after k2;refine cC.store Qb (y:=.obj [.int (a:Nat)]) (Dn.Gb W a) (fun q=>by cases q) (by decide) fun m' s' S' K' ø=>?_
  refine h s' a hid m' g S' hB (hI.keep fun b hb o e=>K'.keep b o (.inr (bj _ hb)) (k2.keep b o e)) (.inl ⟨xs,ha,rfl⟩) ?_ fun a h=>.inl h
  have:=(Ks.gV k2).trans K';exact⟨fun b o hb e=>this.keep b o (hb.imp id fun q=>bw _ q) e,this.new,this.sub,this.gens,this.os⟩
 ·
  have bc:aB P K env ([s.heap.objs.size]++(Wf d g++out)) ([s.heap.objs.size]++hid) m B s₁ ρ:=S.outer (W:=[s.heap.objs.size]) k1 (fun a h=>by simp at h;rw[h];exact TY) fun a h=>by simp at h;subst h;exact⟨_,SX⟩
  replace hs:Heap.SameBut d s₁.heap h':=hs;obtain⟨od',_,_,hod',_⟩:=id hI'.dict;have mv:Mv [d] none s₁ {s₁ with heap:=h',toks:=s₁.toks+1}:=⟨⟨fun b o hb e=>(hs.2 b (by simpa using hb)).trans e,fun i x ø e=>e,id,rfl⟩,fun b hb=>by simp at hb;subst hb;exact⟨_,hod'⟩⟩;have cC:=bc.step (W:=[d]) (fun a h=>by simp at h;subst h;simp) mv (fun a h=>by simp at h;subst h;exact hB _ (by simp)) fun g e=>nomatch e
  have hBl:B.heap.get? s.heap.objs.size=none:=by
   cases e:B.heap.get? s.heap.objs.size with
   |none=>rfl
   |some o=>have:=S.kp.keep _ o e;rw[TY]at this;cases this
  have mem:∀a,a∈Wf d (g++[(kd,s.heap.objs.size,[])])++out<->a∈[s.heap.objs.size]++(Wf d g++out):=fun a=>by
   simp only[Wf,List.map_append,bn,nz,cr,bp,bP,qN,nD];constructor
   ·rintro((h|h|h)|h)
    ·exact .inr (.inl (.inl h))
    ·exact .inr (.inl (.inr h))
    ·exact .inl h
    ·exact .inr (.inr h)
   ·rintro(h|(h|h)|h)
    ·exact .inl (.inr (.inr h))
    ·exact .inl (.inl h)
    ·exact .inl (.inr (.inl h))
    ·exact .inr h
  have kX:=cC.Am mem;refine kX.store Qb (y:=.obj [.int (s.heap.objs.size:Nat)]) (Dn.Gb W _) (fun q=>by cases q) (by decide) fun m' s' S' K' ø=>?_
  have eG:∀a∈Wf d (g++[(kd,s.heap.objs.size,[])]),a∈Wf d g\/a=s.heap.objs.size:=fun a ha=>by
   have:=(mem a).mp (bj _ ha);simp only[cr,cN]at this;rcases this with q|q|q
   ·exact .inr q
   ·exact .inl q
   ·simp only[Wf,List.map_append,bn,nz,cr,bp,bP,qN,nD]at ha
    rcases ha with z|z|z
    ·exact .inl (by simp[z])
    ·exact .inl (by simp only[Wf,bp,bP];exact .inr z)
    ·exact .inr z
  refine h s' _ _ m' _ S' (fun a ha=>(eG a ha).elim (hB a) fun q=>q▸hBl) (hI'.keep fun b hb o e=>K'.keep b o (.inr (bj _ hb)) e) (.inr ⟨Fx,rfl⟩) ?_ fun a ha=>(eG a ha).elim .inl fun q=>.inr (q▸TY)
  have hdo:d∉out:=oV d (by simp);have hdh:d∈hid:=S.oh _ (by simp);refine⟨fun b o hb e=>?_,fun a ha=>?_,fun a ha=>K'.sub a (bw _ ha),K'.gens,K'.os⟩
  ·refine K'.keep b o (hb.elim (fun q=>.inl fun z=>?_) fun q=>.inr (bw _ q)) ?_
   ·rcases cr.mp z with z|z
    ·simp only[cN]at z;rw[z,TY]at e;cases e
    ·exact q z
   ·have hbd:b≠d:=fun z=>hb.elim (fun q=>q (z▸hdh)) fun q=>hdo (z▸q)
    exact(hs.2 b hbd).trans (k1.keep b o e)
  ·rcases K'.new a ha with q|q
   ·rcases cr.mp q with q|q
    ·simp only[cN]at q;exact .inr (q▸TY)
    ·exact .inl q
   ·right
    cases e:s.heap.get? a with
    |none=>rfl
    |some o=>
     by_cases z:a=d
     ·rw[z,hod']at q;cases q
     ·have:=(hs.2 a z).trans (k1.keep a o e)
      rw[this]at q;cases q
noncomputable def fb(g:List iT)(a:Addr)(xs:List Int):List iT:=g.map fun e=>if e.2.1=a then(e.1,e.2.1,xs)else e
theorem hZ{d:Addr}{g:List iT}{a:Addr}{xs:List Int}:Wf d (fb g a xs)=Wf d g:=by
 unfold Wf fb;rw[dK]
 congr 1
 refine pr fun e ø=>?_
 simp only[Function.comp];split<;>rfl
theorem t9{d:Addr}{g:List iT}{h h':Heap}{a:Addr}{xs:List Int}(hI:iU P d g h)(ha:a≠d)(hs:Heap.SameBut a h h')(hl:An h' a xs):iU P d (fb g a xs) h' where
 nodup:=by
  have:=hI.nodup;have e:d::g.map (·.2.1)=d::(fb g a xs).map (·.2.1):=(hZ (d:=d) (g:=g) (a:=a) (xs:=xs)).symm;rw[e]at this;exact this
 dict:=by
  have e:(fb g a xs).map (fun e=>(e.1,Value.ref e.2.1))=g.map fun e=>(e.1,Value.ref e.2.1):=by
   unfold fb;rw[dK];refine pr fun e ø=>?_
   simp only[Function.comp];split<;>rfl
  rw[e];obtain⟨o,es,ep,z,r⟩:=hI.dict;exact⟨o,es,ep,(hs.2 d (dW ha)).trans z,r⟩
 lists:=fun e he=>by
  obtain⟨iH,he₀,rfl⟩:=bP.mp he;by_cases q:iH.2.1=a
  ·rw[aw q];exact q▸hl
  ·rw[az q]
   exact(hI.lists iH he₀).at fun o z=>(hs.2 _ q).trans z
 few:=by unfold fb;rw[bi];exact hI.few
theorem Gs{s:Shared}{h':Heap}{a:Addr}{tk:Nat}(hs:Heap.SameBut a s.heap h')(hl:∃o,h'.get? a=some o):Mv [a] none s {s with heap:=h',toks:=tk}:=
 ⟨⟨fun b o hb e=>(hs.2 b (by simpa using hb)).trans e,fun i x ø e=>e,id,rfl⟩,fun b hb=>by simp at hb;subst hb;exact hl⟩
theorem Gu{s s':Shared}{out hid:List Addr}{a:Addr}(k:∀b o,b≠a->s.heap.get? b=some o->s'.heap.get? b=some o)(ha:a∈hid)(ho:a∉out)(hg:GX s.gens s'.gens)(xY:s'.os=s.os):Ks out hid hid s s':=
 ⟨fun b o hb e=>k b o (fun z=>hb.elim (fun q=>q (z▸ha)) fun q=>ho (z▸q)) e,fun a h=>.inl h,fun a h=>h,hg,xY⟩
theorem CF(W:cP P C N mN){A:Around}{env:Env}{out hid:List Addr}{m:Str->Option Value}{B s:Shared}{ρ:al}{d a:Addr}{g:List iT}{iq ix:Nat}{xq xx:Str}{kd i:Int}{xs:List Int}{E:Value->Shared->Prop}{Q:Flow->Shared->Prop}
  (rm:bW n A) (S:aB P K env (Wf d g++out) hid m B s ρ) (hB:∀a∈Wf d g,B.heap.get? a=none) (oV:∀a∈Wf d g,a∉out) (hI:iU P d g s.heap) (hm:(kd,a,xs)∈g) (hlen:xs.length<=64)
  (Qb:K.vars[iq]?=some (xq,.local,false)) (TJ:K.vars[ix]?=some (xx,.local,false)) (hp:ρ iq=some (.obj [.int (a:Nat)])) (hk:ρ ix=some (.int i))
  (d1:(xq==("__debug__":Str))=false) (d2:(xq==("__classdict__":Str))=false) (d3:(xx==("__debug__":Str))=false) (d4:(xx==("__classdict__":Str))=false)
  {p1 p2 apos pos pos':Pos} {name:Str} (CC:name=(Str.ofString "append")) (jh:(apos.endLine==pos.line)=true) (ji:∀env,attributeBase (.Name xq p1) name env (eval (.Name xq p1) env)=eval (.Name xq p1) env)
  (eF:∀env,starEach [.Name xx p2] env=[.Name xx p2].map fun e=>(false,eval e env)) (PB:∀env,swapsWith (.Call (.Attribute (.Name xq p1) name apos) [.Name xx p2] [] pos) none pos'.line env=pure false)
  (h:∀s',aB P K env (Wf d (fb g a (xs++[i]))++out) hid m B s' ρ->iU P d (fb g a (xs++[i])) s'.heap->Ks out hid hid s s'->Q .next s'):
  wpAny (model P.prog P.w) A (exec (.Expr (.Call (.Attribute (.Name xq p1) name apos) [.Name xx p2] [] pos) pos') env) Q E s:=by
 subst CC;obtain⟨vs,so,hints⟩:=hI.lists _ hm;dsimp only at so hints;have vS:∃ob,s.heap.get? a=some ob/\ob.dict=none:=by obtain⟨k,e⟩:=so;exact⟨_,e,rfl⟩
 refine wpAny_Expr (au (w1 (Q:=fun v s'=>v= .none/\Q .next s') W S Qb hp d1 d2 Dl PySem.F.slot_list_append PySem.F.type_list_append so.isList.typeIs vS eF (by simp) jh ji ?_) (fun v s' q=>?_) fun ø ø q=>q) (by unfold interactive;simp[S.fn]) (PB env)
 ·refine jV (eV (S.load TJ hk d3 d4 fun v hv ø=>?_) d3) (by rw[eF];rfl)
  obtain⟨t,rfl⟩:∃t,v= .int i t:=Dn.int_inv (P:=P) (h:=s.heap) (hid:=hid) (by simpa using hv);refine jU ?_;have had:a≠d:=fun e=>by
   have:=(gC.mp hI.nodup).1;exact this (by rw[<-e];exact nF hm)
  have zh:vs.length=xs.length:=hints.length;refine Dm so (fun h' jN hs=>⟨rfl,?_⟩) (by rw[bM,zh,gR];exact aA hlen (by decide));have Oi:An h' a (xs++[i]):=⟨vs++[.int i t],by simpa using jN,w0 (P:=P) (h:=h') (hid:=[]) (by rw[List.map_append];exact aV.app (wZ hints) (.one (Dn.ofInt (P:=P) _ _)))⟩;have X9:∃o,h'.get? a=some o:=by obtain⟨k,e⟩:=jN;exact⟨_,e⟩
  have S':=S.step (W:=[a]) (fun b hb=>by simp at hb;subst hb;exact bj _ (t8 hm)) (Gs (tk:=s.toks) hs X9) (fun b hb=>by simp at hb;subst hb;exact hB _ (t8 hm)) fun g e=>nomatch e
  refine h _ (by rw[hZ];exact S') (t9 hI had hs Oi) (Gu (fun b o hb e=>(hs.2 b hb).trans e) (S.oh _ (bj _ (t8 hm))) (oV _ (t8 hm)) (.refl _) rfl)
 ·obtain⟨rfl,q⟩:=q
  exact q
theorem LY(W:cP P C N mN){A:Around}{env:Env}{out hid:List Addr}{m:Str->Option Value}{B s:Shared}{ρ:al}{d a:Addr}{g:List iT}{iq ix:Nat}{xq xx:Str}{kd i:Int}{xs:List Int}{E:Value->Shared->Prop}{Q:Flow->Shared->Prop}
  (rm:bW n A) (S:aB P K env (Wf d g++out) hid m B s ρ) (hB:∀a∈Wf d g,B.heap.get? a=none) (oV:∀a∈Wf d g,a∉out) (hI:iU P d g s.heap) (hm:(kd,a,xs++[i])∈g) (hlen:xs.length<=64)
  (Qb:K.vars[iq]?=some (xq,.local,false)) (TJ:K.vars[ix]?=some (xx,.local,false)) (hp:ρ iq=some (.obj [.int (a:Nat)]))
  (d1:(xq==("__debug__":Str))=false) (d2:(xq==("__classdict__":Str))=false)
  {p1 p2 apos pos pos':Pos} {name:Str} (CC:name=(Str.ofString "pop")) (jh:(apos.endLine==pos.line)=true) (ji:∀env,attributeBase (.Name xq p1) name env (eval (.Name xq p1) env)=eval (.Name xq p1) env)
  (PB:∀env,swapsWith (.Call (.Attribute (.Name xq p1) name apos) [] [] pos) (some (.Name xx p2)) pos'.line env=pure false)
  (h:∀s' m',aB P K env (Wf d (fb g a xs)++out) hid m' B s' (upd ρ ix (.int i))->iU P d (fb g a xs) s'.heap->Ks out hid hid s s'->Q .next s'):
  wpAny (model P.prog P.w) A (exec (.Assign [.Name xx p2] (.Call (.Attribute (.Name xq p1) name apos) [] [] pos) pos') env) Q E s:=by
 subst CC;obtain⟨vs,so,hints⟩:=hI.lists _ hm;dsimp only at so hints;obtain⟨e0,D1⟩:=id so;have vS:∃ob,s.heap.get? a=some ob/\ob.dict=none:=⟨_,D1,rfl⟩;have zh:vs.length=xs.length+1:=by rw[hints.length];simp
 have XW:aU P s.heap [] ((xs++[i]).map .int) vs:=wZ hints;obtain⟨v,hv,hvd⟩:=aV.get (i:=xs.length) (x:=V.int i) XW (by simp);obtain⟨t,rfl⟩:=Dn.int_inv (P:=P) (hid:=[]) hvd;have had:a≠d:=fun e=>by
  have:=(gC.mp hI.nodup).1;exact this (by rw[<-e];exact nF hm)
 refine qI ?_ (PB env);refine w1 W S Qb hp d1 d2 Dl uX PySem.F.type_list_pop so.isList.typeIs vS (fun ø=>rfl) (by simp) jh ji ?_;refine jU ?_;refine rM uX so.isList.typeIs Do (PySem.F.args_list_pop_1 _) (PySem.MeetsSeq.list_pop_last a vs.toArray e0 (.int i t) (by simpa[zh]using hv) (by rw[bM,zh,gR];exact aA (jb hlen) (by decide))) ⟨D1,?_⟩;have hs:Heap.SameBut a s.heap (s.heap.update a (Obj.mapSeq fun xs=>xs.eraseIdxIfInBounds (vs.toArray.size-1))):=pj ..;have Wo:(s.heap.update a (Obj.mapSeq fun xs=>xs.eraseIdxIfInBounds (vs.toArray.size-1))).PlainList a (vs.eraseIdx (vs.length-1)).toArray:=jj D1 (by rw[bM,si]);have Oi:An (s.heap.update a (Obj.mapSeq fun xs=>xs.eraseIdxIfInBounds (vs.toArray.size-1))) a xs:=by
  refine⟨_,Wo,w0 (P:=P) (h:=s.heap) (hid:=[]) ?_⟩;have:=aU.erase (P:=P) (vs.length-1) XW;rw[zh]at this ⊢;have e:((xs++[i]).map V.int).eraseIdx xs.length=xs.map V.int:=by
   rw[List.map_append,List.eraseIdx_append_of_length_le (by simp)];simp
  rw[Nat.add_sub_cancel]at this ⊢;rwa[e]at this
 have X9:∃o,(s.heap.update a (Obj.mapSeq fun xs=>xs.eraseIdxIfInBounds (vs.toArray.size-1))).get? a=some o:=by obtain⟨k,e⟩:=Wo;exact⟨_,e⟩
 have bc:=S.step (W:=[a]) (fun b hb=>by simp at hb;subst hb;exact bj _ (t8 hm)) (Gs (tk:=s.toks) hs X9) (fun b hb=>by simp at hb;subst hb;exact hB _ (t8 hm)) fun g e=>nomatch e
 show wpAny (model P.prog P.w) A (storeName env xx (.int i t)) _ _ _;refine bc.store TJ (y:=.int i) (by simpa using Dn.ofInt (P:=P) i t) (fun q=>by cases q) (by decide) fun m' s' S' K' ø=>?_
 have K1:Ks out hid hid s {s with heap:=_,toks:=s.toks}:=Gu (a:=a) (fun b o hb e=>(hs.2 b hb).trans e) (S.oh _ (bj _ (t8 hm))) (oV _ (t8 hm)) (.refl _) rfl;refine h s' m' (by rw[hZ];exact S') ?_ (K1.trans ⟨fun b o hb e=>K'.keep b o (hb.imp id fun q=>bw _ q) e,K'.new,K'.sub,K'.gens,K'.os⟩);exact(t9 hI had hs Oi).keep fun b hb o e=>K'.keep b o (.inr (bj _ (by rw[hZ]at hb;exact hb))) e
theorem HT(W:cP P C N mN){A:Around}{env:Env}{out hid:List Addr}{m:Str->Option Value}{B s:Shared}{ρ:al}{d a:Addr}{g:List iT}{iq:Nat}{xq:Str}{kd:Int}{xs:List Int}{E:Value->Shared->Prop}{Q:Bool->Shared->Prop}
  (rm:bW n A) (S:aB P K env (Wf d g++out) hid m B s ρ) (hI:iU P d g s.heap) (hm:(kd,a,xs)∈g) (hlen:xs.length<=64)
  (Qb:K.vars[iq]?=some (xq,.local,false)) (hp:ρ iq=some (.obj [.int (a:Nat)])) (d1:(xq==("__debug__":Str))=false) (d2:(xq==("__classdict__":Str))=false) {p1 p3 pos:Pos}
  (h:∀s',Kp s s'->Q (decide (xs≠[])) s'):wpAny (model P.prog P.w) A (isTrue (.Compare (.Name xq p1) [.NotEq] [.List [] p3] pos) env (eval (.Compare (.Name xq p1) [.NotEq] [.List [] p3] pos) env)) Q E s:=by
 refine uS (eV (S.load Qb hp d1 d2 fun v hv ø=>?_) d1) rfl;obtain rfl:=Dn.uG W hv;refine wpAny_List (jU ⟨by simp,?_⟩)
 let s₁:Shared:={s with heap:=s.heap.push {cls:=.type "list",data:=.seq ([]:List Value).toArray} }
 have k1:Kp s s₁:=Kp.push s _ s.toks;have SX:s₁.heap.get? s.heap.objs.size=some {cls:=.type "list",data:=.seq ([]:List Value).toArray}:=bD _ rfl;have hx:Dn P s₁.heap [] (.list (xs.map .int)) (.ref a):=((hI.lists _ hm).at fun o e=>k1.keep _ o e).dn;have hy:Dn P s₁.heap [] (.list []) (.ref s.heap.objs.size):=.ofList (fun h=>nomatch h) ⟨0,SX⟩ .nil;have bN:Dg (.list (xs.map .int)) (.list [])=some (decide (xs≠[])):=by
  cases xs with
  |nil=>rfl
  |cons x xs=>
   have hp:∀l:List Int,V.Fu (l.map .int)=some (l.map .int):=fun l=>by
    induction l with
    |nil=>rfl
    |cons y l ih=>simp only[bn,V.sb,V.sd,V.tD,V.tE,V.tF,V.tG,V.tH,ih,m4]
   have hd:∀l:List Int,PyData.depthAll (l.map .int)<=1:=fun l=>by
    induction l with
    |nil=>simp[PyData.depthAll]
    |cons y l ih=>simp only[bn,PyData.depthAll,PyData.depth];omega
   unfold Dg;rw[vl _ _ rfl];simp only[AX,V.tD,V.tE,V.tF,V.tG,V.tH,hp,m8,m4,V.sb,V.sd];rw[aw]
   ·rfl
   ·have:=hd (x::xs);simp only[PyData.depth];omega
 refine au (vm A s₁ [] _ _ _ _ _ E (rm.less (dU _)) (P.Gk S.G k1.keep) (fun a h=>nomatch h) hx hy bN) (fun r s₂ q=>?_) fun ø ø q=>q
 rw[q.2];exact pg (h s₂ (k1.trans q.1))
end
section
variable{P:Pk}{n:Nat}{C N:Addr}{mN:Str->Option Value}
noncomputable abbrev mU(r:List (Int×Bool)):V:=.list (r.map fun e=>.tup [.int e.1,.bool e.2])
theorem OF{ρ:al}{r:List (Int×Bool)}{i:Nat}{k:Int}{o:Bool}(h0:ρ 0=some (mU r))(h3:ρ 3=some (.int i))(hr:r.length<=60)(hi:r[i]?=some (k,o)):(LR (P:=P) (n:=n)).1 ρ=some (upd (upd ρ 4 (.int k)) 5 (.bool o),.next):=by
 have hm:r.length<=most:=aA hr (by decide);have de:i<r.length:=(eX.mp hi).1;unfold LR;have e:=(eX.mp hi).2;simp[h0,h3,f7,uC,zi,FD,FF,hm,ff,de,e,Np,Ja,Nq]
theorem OG{ρ:al}{i:Nat}{ks vs:List _}(h2:ρ 2=some (.dict ks vs))(h3:ρ 3=some (.int i))(hk:ks.length<=most):(LT (P:=P) (n:=n)).1 ρ=some (upd ρ 2 (.dict (cI ks i) (eP ks vs i (.int 0))),.next):=by
 unfold LT;simp[h2,h3,Ea,Eb,hk]
theorem OH{ρ:al}{i:Nat}{st:Int}{ks vs:List _}(h2:ρ 2=some (.dict ks vs))(h3:ρ 3=some (.int i))(h7:ρ 7=some (.int st))(hk:ks.length<=most):(LU (P:=P) (n:=n)).1 ρ=some (upd ρ 2 (.dict (cI ks st) (eP ks vs st (.int (i-st)))),.next):=by
 unfold LU;simp[h2,h3,h7,Ea,Eb,hk,dA,Nd]
theorem EU(a b:Int):IV a b 1=(List.range (b-a).toNat).map fun(i:Nat)=>V.int (a+i):=by
 unfold IV;have e:(Builtin.Range.rangeSize a b 1).toNat=(b-a).toNat:=by
  unfold Builtin.Range.rangeSize;simp;split<;>omega
 rw[e];simp
theorem LZ{ρ:al}{r:List (Int×Bool)}{g1 g2}(h0:ρ 0=some (mU r))(hr:r.length<=60):(ET (P:=P) (n:=n) g1 g2).1 ρ=some ((List.range r.length).map fun(i:Nat)=>V.int i):=by
 have hm:r.length<=most:=aA hr (by decide);have h6:eH (r.length:Int)=true:=by simp[eH];omega
 unfold ET;have hl:qX [mU r]=some (.int (r.length:Nat)):=uD (congrArg some (bi ..)) hm;simp[h0,aQ,eD,hl,D3,D4,Jd,h6,EU]
noncomputable abbrev Ar:=(Int->List Int)×List Int×List V
noncomputable def iI(i:Nat)(e:Int×Bool)(st:Ar):Ar:=
 if e.2 then(fun k=>if k=e.1 then st.1 k++[(i:Int)]else st.1 k,cI st.2.1 i,eP st.2.1 st.2.2 i (.int 0))
 else match(st.1 e.1).getLast? with
  |none=>st
  |some j=>(fun k=>if k=e.1 then(st.1 k).dropLast else st.1 k,cI st.2.1 j,eP st.2.1 st.2.2 j (.int (i-j)))
noncomputable def cg(r:List (Int×Bool)):Nat->Ar
 |0=>(fun ø=>[],[],[])
 |i+1=>match r[i]? with
  |some e=>iI i e (cg r i)
  |none=>cg r i
theorem w3(r:List (Int×Bool))(i:Nat):cg r (i+1)=match r[i]? with
 |some e=>iI i e (cg r i)
 |none=>cg r i:=rfl
noncomputable def TZ(g:List iT)(pl:Int->List Int):Prop:=(∀e∈g,pl e.1=e.2.2)/\∀k,(∀e∈g,e.1≠k)->pl k=[]
theorem yu{α β:Type}(f:α->β):∀{g:List α},(g.map f).Nodup->∀e∈g,∀e'∈g,f e=f e'->e=e'
 |[],_,e,he,_,_,_=>by cases he
 |x::g,hn,e,he,e',Di,q=>by
  simp only[bn,gC]at hn;rcases bp.mp he with h1|h1<;>rcases bp.mp Di with h2|h2
  ·rw[h1,h2]
  ·exact absurd (by rw[<-h1,q];exact nF h2) hn.1
  ·exact absurd (by rw[<-h2,<-q];exact nF h1) hn.1
  ·exact yu f hn.2 e h1 e' h2 q
theorem TZ.set{g:List iT}{pl:Int->List Int}{kd:Int}{a:Addr}{xs ys:List Int}(h:TZ g pl)(hm:(kd,a,xs)∈g)(ha:(g.map (·.2.1)).Nodup)(hk:(g.map (·.1)).Nodup):TZ (fb g a ys) (fun k=>if k=kd then ys else pl k):=by
 have inj:∀{β:Type} (f:iT->β),(g.map f).Nodup->∀e∈g,∀e'∈g,f e=f e'->e=e':=fun f hn e he e' Di q=>yu f hn e he e' Di q
 refine⟨fun e he=>?_,fun k Fx=>?_⟩
 ·obtain⟨iH,he₀,rfl⟩:=bP.mp he
  by_cases q:iH.2.1=a
  ·have:iH=(kd,a,xs):=inj (·.2.1) ha iH he₀ _ hm q
   subst this;simp
  ·have:iH.1≠kd:=fun z=>q (by have:=inj (·.1) hk iH he₀ _ hm z;rw[this])
   simp[q,this,h.1 iH he₀]
 ·have Wp:∀e∈g,e.1≠k:=fun e he=>by
   have:=Fx _ (nF (f:=fun e:iT=>if e.2.1=a then(e.1,e.2.1,ys)else e) he);by_cases q:e.2.1=a
   ·rw[aw q]at this;exact this
   ·rw[az q]at this;exact this
  have:k≠kd:=fun z=>Wp _ hm z.symm
  simp[this,h.2 k Wp]
theorem iU.keys{d:Addr}{g:List iT}{h:Heap}(x:iU P d g h):(g.map (·.1)).Nodup:=by
 obtain⟨o,es,ep,_,_,_,_,_,hn⟩:=x.dict;have e:(g.map fun e=>(e.1,Value.ref e.2.1)).map (·.1)=g.map (·.1):=by rw[dK];rfl
 rw[<-e];exact hn
noncomputable def JS(d:Addr)(r:List (Int×Bool))(i:Nat)(ρ:al)(g:List iT):Prop:=ρ 0=some (mU r)/\ρ 1=some (.obj [.int (d:Nat)])/\ρ 2=some (.dict (cg r i).2.1 (cg r i).2.2)/\TZ g (cg r i).1/\g.length<=i
theorem yv(r:List (Int×Bool))(i:Nat):(∀k,((cg r i).1 k).length<=i)/\(cg r i).2.1.length<=i:=by
 induction i with
 |zero=>exact⟨fun ø=>cF _,cF _⟩
 |succ i ih=>
  have dk:∀ks q,(cI ks q).length<=ks.length+1:=fun ks q=>by unfold cI;split<;>simp
  rw[w3];split
  ·unfold iI
   split
   ·refine⟨fun k=>?_,aA (dk _ _) (jb ih.2)⟩
    have:=ih.1 k;dsimp only;split
    ·simp;omega
    ·omega
   ·split
    ·exact⟨fun k=>i9 (ih.1 k),i9 ih.2⟩
    ·refine⟨fun k=>?_,aA (dk _ _) (jb ih.2)⟩
     have:=ih.1 k;dsimp only;split
     ·simp;omega
     ·omega
  ·exact⟨fun k=>i9 (ih.1 k),i9 ih.2⟩
end
noncomputable def yw:Cx:={vars:=[(Ty,.local,false),(Qu,.local,false),(⟨#[120]⟩,.local,false),(⟨#[110,117,109,98,101,114,115]⟩,.local,false),(⟨#[112,97,105,114,115]⟩,.local,false),(IZ,.local,true),(⟨#[119,97,105,116,115]⟩,.local,true),(s85,.local,false),(IS,.local,false)],aM:=[vj]}
noncomputable def As:Cx:={vars:=[(⟨#[120]⟩,.local,false)],aM:=[]}
noncomputable def tm{P:Pk}{n:Nat}(cb:P.glob vj=some (.builtin "len")):{f:al->Option (al×Fl)//qa P n yw (dz (aJ pq.main.body 62)) f}:=⟨_,(@ac _ _ _ _ _ _ _ (@g9 _ _ _ (As) 3 _ _ _ _ _ _ _ _ _ _ _ _ _ _ (1) ([]) rfl (@bQ _ _ _ _ _ (bC (Z 0 rfl rfl rfl) aO (bt aa) aO)) (bB (by decide+kernel)) (ap 0 rfl (by decide) (by decide)) bY (ai f6 (Z 0 rfl rfl rfl) (ai Ps aa aa)) cp rfl rfl) (@ac _ _ _ _ _ _ _ (@aD _ _ _ 3 _ _ _ _ _ _ rfl (by decide) (@ai _ _ _ _ _ _ _ _ _ _ _ cy (Z 3 rfl rfl rfl) (@bC _ _ _ _ _ _ _ _ _ _ _ _ _ _ (@eR _ _ _ _ _ _ _ (@O _ _ _ _ _ _ _ _ aa (@O _ _ _ _ _ _ _ _ aa (@O _ _ _ _ _ _ _ _ aa (@O _ _ _ _ _ _ _ _ aa (@O _ _ _ _ _ _ _ _ aa (@O _ _ _ _ _ _ _ _ aa (O aa (O aa ab ir) ir) ir) ir) ir) ir) ir) ir) (by decide) (@af _ _ _ (@af _ _ _ (@af _ _ _ (@af _ _ _ (@af _ _ _ (af (af (af len0))))))))) (@bt _ _ _ _ _ (@aI _ _ _ _ _ _ _ _ _ _ _ rfl cb rfl jn (O (ae (Z 3 rfl rfl rfl)) ab ir) ir (cf _ _))) aO aO)) cp) (@ac _ _ _ _ _ _ _ (@aD _ _ _ 4 _ _ _ _ _ _ rfl (by decide) (@r8 _ _ _ _ _ _ _ _ _ _ _ (@aR _ _ _ _ _ _ _ _ _ _ YM (@aI _ _ _ _ _ _ _ _ _ _ _ rfl cb rfl jn (O (ae (Z 0 rfl rfl rfl)) ab ir) ir (cf _ _)) aa rfl) aa aa) cp) (@ac _ _ _ _ _ _ _ (@lQ _ _ _ ([(5,IZ,.local,true),(6,⟨#[119,97,105,116,115]⟩,.local,true),(7,s85,.local,false)]) ([_,_,_]) _ _ _ _ _ _ _ ⟨by decide+kernel,by decide+kernel⟩ rfl (@jQ.new _ _ _ _ _ _ _ _ (fT ab (by decide) len0) (jQ.new (fT ab (by decide) len0) (jQ.dat aa jQ.nil ir) ir) ir) (by decide) (af (af (af len0))) kY.len ir (VS (K:=yw) (i:=5) (j:=6) (l:=7) rfl rfl rfl rfl rfl (by decide+kernel) rfl rfl rfl rfl)) (@ac _ _ _ _ _ _ _ (@fU _ _ _ (false) _ _ _ _ _ _ _ (@bQ _ _ _ _ _ (@bC _ _ _ _ _ _ _ _ _ _ _ _ _ _ (Z 3 rfl rfl rfl) aO (@bt _ _ _ _ _ (ai tC aa (ae (Z 4 rfl rfl rfl)))) aO)) (ap 2 rfl (by decide) (by decide)) (@ac _ _ _ _ _ _ _ (@aT _ _ _ _ _ _ _ _ _ _ (@AT.or _ _ _ _ _ _ _ _ (aR qU (cG 6 rfl rfl rfl) (eR ab (by decide) len0) rfl) (@r7 _ _ _ _ _ _ _ _ (@aR _ _ _ _ _ _ _ _ _ _ qU (ai f6 (ae (Z 2 rfl rfl rfl)) aa) aa rfl) (aR Nf (ae (Z 7 rfl rfl rfl)) (ae (Z 4 rfl rfl rfl)) rfl))) (@ac _ _ _ _ _ _ _ (@aD _ _ _ 8 _ _ _ _ _ _ rfl (by decide) (@ai _ _ _ _ _ _ _ _ _ _ _ f6 (@ai _ _ _ _ _ _ _ _ _ _ _ cy (Z 1 rfl rfl rfl) (@ai _ _ _ _ _ _ _ _ _ _ _ tC (ai f6 (ai je (Z 2 rfl rfl rfl) aa) aa) aa)) aa) cp) (@ac _ _ _ _ _ _ _ (@di _ _ _ _ _ _ (cu 6 rfl rfl rfl qV (O (Z 8 rfl rfl rfl) ab ir) ir (by decide) rfl ir) gI ir) (@ac _ _ _ _ _ _ _ (i2 7 rfl (by decide) rfl rfl vz aa) (@ac _ _ _ _ _ _ _ (@di _ _ _ _ _ _ (@cu _ _ _ 5 _ _ _ _ _ _ _ _ _ rfl rfl rfl qV (@O _ _ _ _ _ _ _ _ (@ct _ _ _ _ _ _ _ _ (@O _ _ _ _ _ _ _ _ (Z 8 rfl rfl rfl) (@O _ _ _ _ _ _ _ _ df (O (ai je (Z 2 rfl rfl rfl) aa) ab ir) ir) ir) (by decide) (af (af (af len0)))) ab ir) ir (by decide) rfl ir) gI ir) aj)))) (@ac _ _ _ _ _ _ _ (@DV _ _ _ 8 _ _ _ _ _ _ rfl (by decide) (@cu _ _ _ 6 _ _ _ _ _ _ _ _ _ rfl rfl rfl Px (@O _ _ _ _ _ _ _ _ (@ai _ _ _ _ _ _ _ _ _ _ _ tB (dc aa) (@ai _ _ _ _ _ _ _ _ _ _ _ f6 (ai f6 (ai je (Z 2 rfl rfl rfl) aa) aa) (@qR _ _ _ _ _ _ (aI rfl cb rfl jn (O (cG 6 rfl rfl rfl) ab ir) ir (cf _ _))))) ab ir) ir (by decide) rfl ir) cp) (@ac _ _ _ _ _ _ _ (@aT _ _ _ _ _ _ _ _ _ _ (@aR _ _ _ _ _ _ _ _ _ _ qU (@ai _ _ _ _ _ _ _ _ _ _ _ f6 (ai je (ae (Z 2 rfl rfl rfl)) aa) aa) aa rfl) (@ac _ _ _ _ _ _ _ (@aD _ _ _ 8 _ _ _ _ _ _ rfl (by decide) (ai f6 (ai cy (Z 8 rfl rfl rfl) aa) aa) cp) aj) aj) (@ac _ _ _ _ _ _ _ (@di _ _ _ _ _ _ (@cu _ _ _ 5 _ _ _ _ _ _ _ _ _ rfl rfl rfl qV (@O _ _ _ _ _ _ _ _ (@ct _ _ _ _ _ _ _ _ (@O _ _ _ _ _ _ _ _ (Z 8 rfl rfl rfl) (@O _ _ _ _ _ _ _ _ df (O (ai je (Z 2 rfl rfl rfl) aa) ab ir) ir) ir) (by decide) (af (af (af len0)))) ab ir) ir (by decide) rfl ir) gI ir) aj)))) aj) cp) (ac (aX (cG 5 rfl rfl rfl)) aj))))))⟩
noncomputable abbrev Item:=Int×Bool×Int
noncomputable abbrev Au(e:Item):V:=.tup [.int e.1,.bool e.2.1,.int e.2.2]
noncomputable def L0(e:Item):Prop:=0<=e.1/\e.1<9/\0<=e.2.2/\e.2.2<=17857
noncomputable def bv(d:Nat)(o:Bool):Sum Nat Unit:=if o then .inl (d+1)else if d=0 then .inr ()else .inl (d-1)
structure Av(its:List Item):Prop where
 len:its.length=6\/its.length=8
 ok:∀e∈its,L0 e
 dyck:bg bv (its.map (·.2.1)) 0= .inl 0
inductive Qc(pairs i:Nat)(its:List Item)(ws:List Int)(op:Nat):Prop
 |mk (hl:its.length=i) (hw:ws.length+i=2*op) (Yb:op<=pairs) (hd:bg bv (its.map (·.2.1)) 0= .inl ws.length) (Dj:∀e∈its,L0 e) (Yc:∀k∈ws,0<=k/\k<9)
theorem Gv{its:List Item}{d d':Nat}{e:Item}(h:bg bv (its.map (·.2.1)) 0= .inl d)(hs:bv d e.2.1= .inl d'):bg bv ((its++[e]).map (·.2.1)) 0= .inl d':=by
 rw[List.map_append,hU,h];show bg bv [e.2.1] d=_;rw[bZ,hs];rfl
theorem Qc.push{pairs i its ws op}(p:Qc pairs i its ws op)(ho:op<pairs){kd d:Int}(hk:0<=kd/\kd<9)(hd:0<=d/\d<=17857):Qc pairs (i+1) (its++[(kd,true,d)]) (ws++[kd]) (op+1):=by
 obtain⟨hl,hw,Yb,hf,Dj,Yc⟩:=p;exact⟨by rw[List.length_append,hl];rfl,by rw[List.length_append,pZ];omega,ho,by rw[List.length_append];exact Gv hf rfl,wI Dj ⟨hk.1,hk.2,hd⟩,wI Yc hk⟩
theorem Qc.pop{pairs i its ws op}(p:Qc pairs i its ws op){j:Nat}(hj:j<ws.length){kd d:Int}(hk:0<=kd/\kd<9)(hd:0<=d/\d<=17857):Qc pairs (i+1) (its++[(kd,false,d)]) (ws.eraseIdx j) op:=by
 obtain⟨hl,hw,Yb,hf,Dj,Yc⟩:=p;have e:=DG hj;exact⟨by rw[List.length_append,hl];rfl,by omega,Yb,by rw[e];exact Gv hf (az (c:=ws.length=0) (by omega)),wI Dj ⟨hk.1,hk.2,hd⟩,fun k hk=>Yc k (List.mem_of_mem_eraseIdx hk)⟩
inductive L1(total:Int)(pairs i:Nat)(ρ:al):Prop
 |mk (its:List Item) (ws:List Int) (op:Nat) (h1:ρ 1=some (.int total)) (h4:ρ 4=some (.int pairs)) (h5:ρ 5=some (.list (its.map Au))) (h6:ρ 6=some (.list (ws.map .int))) (h7:ρ 7=some (.int op)) (p:Qc pairs i its ws op)
theorem yx{α β:Type}(f:α->β):∀(l:List α) (j:Nat),(l.map f).eraseIdx j=(l.eraseIdx j).map f
 |[],_=>rfl
 |x::l,0=>rfl
 |x::l,j+1=>by simp[List.eraseIdx,yx f l j]
theorem w4{ws:List Int}{x:Int}{op pairs:Nat}{ρ:al}(h2:ρ 2=some (.int x))(h4:ρ 4=some (.int pairs))(h6:ρ 6=some (.list (ws.map .int)))(h7:ρ 7=some (.int op)):
  YK (qS G8 (fun ρ=>ρ 6) fun ρ=>Option.map V.list (some [])) (M9 (qS G8 (dA p9 (fun ρ=>ρ 2) fun x=>some (V.int 2)) fun x=>some (V.int 0)) (qS ltV (fun ρ=>ρ 7) fun ρ=>ρ 4)) ρ=some (ws.isEmpty||(decide (x % 2=0)&&decide ((op:Int)<pairs))):=
 Qa (ba h6 rfl (HK ws)) (Sy (ba (md h2 rfl) rfl (jD _ _)) (ba h7 h4 rfl))
theorem L2{pairs i its ws op}{x:Int}(p:Qc pairs i its ws op)(hi:i<2*pairs)(h:(ws.isEmpty||(decide (x % 2=0)&&decide ((op:Int)<pairs)))=true):op<pairs:=by
 have hw:=p.2;rcases(nb _ _).mp h with h|h
 ·rw[List.isEmpty_iff.mp h]at hw
  exact by simp at hw;omega
 ·exact nH.mp (mH ((dI _ _).mp h).2)
theorem OI{ws:List Int}{z:Int}(h0:0<=z)(h1:z<ws.length)(hm:ws.length<=most):∃j,∃h:j<ws.length,DZ (.list (ws.map .int)) [.int (-1-z)]=some (.list ((ws.eraseIdx j).map .int),.int ws[j]):=by
 have e:ff (-1-z) ws.length=some (-1-z+ws.length).toNat:=by
  unfold ff;rw[az (by omega),aw (by omega)]
 have hj:(-1-z+ws.length).toNat<ws.length:=by omega
 refine⟨_,hj,?_⟩;rw[QK,bi,e,cR,bL,dX hj,m8,cR,aw hm,yx]
theorem CG{ws:List Int}{x:Int}{ρ:al}{r:V×V}(h2:ρ 2=some (.int x))(h6:ρ 6=some (.list (ws.map .int)))(hz:(0:Int)<((ws.map V.int).length:Int)/\((ws.map V.int).length:Int)<1073741824)(hm:(ws.map V.int).length<=most)(hp:DZ (.list (ws.map .int)) [.int (-1-x/2 % 4 % ((ws.map V.int).length:Int))]=some r):
  jg DZ 6 (aQ (dA zd (fun ρ=>(some (V.int 1)).bind sA) (dA p9 (dA p9 (dA Na (fun ρ=>ρ 2) fun x=>some (V.int 2)) fun x=>some (V.int 4)) fun ρ=>(eD qX (aQ (fun ρ=>ρ 6) fun x=>some []) ρ).bind fun x=>if x.scalar=true then some x else none)) fun x=>some []) ρ=some (upd ρ 6 r.1,r.2):=
 pC h6 (bu rfl (bu (md (dv h2 rfl) rfl) (dy (bJ h6 (oq _ hm)) rfl) (Ac _ _ hz)) rfl) hp
theorem L3{script:List Int}(hs:script.length<=63){ρ:al}(h0:ρ 0=some (.list (script.map .int))):
  fj (fun ρ=>(jm (fun ρ=>ρ 0) (fun x=>some none) (fun ρ=>(some (V.int 8)).bind mJ) (fun x=>some none) ρ).bind elems) (fun ρ y=>some (upd ρ 0 y)) (fun x=>some true) (dA p9 (fun ρ=>ρ 0) (dA QC (fun x=>some (V.int 10)) fun x=>some (V.int 6))) 1 [] ρ=some (.list (((script.take 8).map (· % 1000000)).map .int)):=by
 rw[dK];exact db (fun ø=>True) (script.take 8) .int (fun x=>.int (x % 1000000)) (dy (eA h0 rfl rfl rfl (me _ 8 (by rw[bi];exact aA hs (by decide)))) (congrArg some (List.map_take ..).symm)) (gS (DL _ _) (by decide)) (fun x hx ρ ø=>⟨upd ρ 0 (.int x),rfl,trivial,md rfl rfl⟩) trivial
theorem L4{l:List Int}(h8:l.length<=8)(hr:∀x∈l,0<=x/\x<1000000):∃nums:List Int,nums.length=8/\(∀x∈nums,0<=x/\x<1000000)/\l.map V.int++([254856,503330,25595,127572,556481,134737,733769,57].map V.int).drop (l.map V.int).length=nums.map V.int/\(l.map V.int).length+(([254856,503330,25595,127572,556481,134737,733769,57].map V.int).drop (l.map V.int).length).length<=most:=by
 refine⟨l++[254856,503330,25595,127572,556481,134737,733769,57].drop l.length,by rw[List.length_append,m7];exact vf h8,fun x hx=>?_,by rw[List.map_append,nJ,bi],?_⟩;rcases cr.mp hx with hx|hx
 ·exact hr x hx
 ·exact(by decide:∀x∈[254856,503330,25595,127572,556481,134737,733769,57],(0:Int)<=x/\x<1000000) x (List.mem_of_mem_drop hx)
 ·rw[m7,bi]
  show l.length+(8-l.length)<=1000000;omega
theorem HU{script:List Int}(hs:script.length<=63){ρ:al}(h0:ρ 0=some (.list (script.map .int))):∃pairs:Nat,(pairs=3\/pairs=4)/\G7 (qS gtV (eD qX (aQ (fun ρ=>ρ 0) fun x=>some [])) fun x=>some (V.int 1)) (fun x=>some (V.int 4)) (fun x=>some (V.int 3)) ρ=some (.int pairs):=by
 have e:eD qX (aQ (fun ρ=>ρ 0) fun x=>some []) ρ=some (.int (script.map V.int).length):=bJ h0 (oq _ (by rw[bi];exact aA hs (by decide)));by_cases q:(1:Int)<((script.map V.int).length:Int)
 ·exact⟨4,.inr rfl,td (ba e rfl (congrArg some (eK q))) rfl⟩
 ·exact⟨3,.inl rfl,j8 (ba e rfl (congrArg some (mG q))) rfl⟩
theorem OJ{P:Pk}{n:Nat}{g}{script:List Int}{total:Int}(hs:script.length<=63)(ht:0<=total){ρ:al}(h0:ρ 0=some (.list (script.map .int)))(h1:ρ 1=some (.int total)):
  te (tm (P:=P) (n:=n) g).1 ρ fun v=>∃its,Av its/\v= .list (its.map Au):=by
 have h8:((script.take 8).map (· % 1000000)).length<=8:=by rw[bi];exact DL _ _
 have hr:∀x∈(script.take 8).map (· % 1000000),0<=x/\x<1000000:=fun x hx=>by
  obtain⟨y,_,rfl⟩:=bP.mp hx;omega
 have e1:=L3 hs h0;generalize(script.take 8).map (· % 1000000)=l at e1 h8 hr;obtain⟨nums,TN,hnr,hn,TI⟩:=L4 h8 hr;have Gw:(l.map V.int).length<=most:=by rw[bi];exact aA h8 (by decide)
 obtain⟨pairs,hpr,hp⟩:=HU hs (ρ:=upd (upd ρ 3 (.list (l.map .int))) 3 (.list (nums.map .int))) h0;unfold tm;refine fu (bh e1 rfl) (fu (bh (bu rfl (eA rfl (dy (bJ rfl (oq _ Gw)) rfl) rfl rfl (mf _ _ (by decide))) ((uJ _ _ TI).trans (congrArg (fun z=>some (V.list z)) hn))) rfl) (fu (bh hp rfl) (fu rfl ?_)));refine tX (L1 total pairs (2*pairs)) (iS (xs:=(nums.take (2*pairs)).map .int) (dy (eA rfl rfl (dy (bu rfl rfl (uI _ _ (by omega))) rfl) rfl (me (nums.map .int) (2*pairs) (by rw[bi,TN];decide))) (congrArg some (List.map_take ..).symm)) (La (fun i ρ=>L1 total pairs i ρ) _ (fun i x ρ hx hR=>?_) (fun ρ hR=>⟨rfl,?_⟩) (.mk [] [] 0 h1 rfl rfl rfl rfl ⟨rfl,rfl,dU _,rfl,List.forall_mem_nil _,List.forall_mem_nil _⟩))) fun am hR=>?_
 ·rw[bL]at hx
  refine bV hx fun x IX e=>?_
  subst e;have hil:i<2*pairs:=rW (eX.mp IX).1 (DL _ _);have hxr:=hnr x (y0 (mE IX));have hd:0<=x/56/\x/56<=17857:=by omega
  obtain⟨its,ws,op,h1,h4,h5,h6,h7,p⟩:=hR;have HA:ws.length<most/\its.length<most:=by
   have:most=1000000:=rfl;obtain⟨_,_,_⟩:=p;omega
  have hit:(its.map Au).length<most:=by rw[bi];exact HA.2
  have Wl:(ws.map V.int).length<most:=by rw[bi];exact HA.1
  refine ex5 ρ h1 h4 h5 h6 h7 fun σ=>?_
  cases ht:ws.isEmpty||(decide (x % 2=0)&&decide ((op:Int)<pairs))
  case true=>exact⟨_,_,rfl,bO (td ((w4 rfl rfl rfl rfl).trans (congrArg some ht)) (bO (bh (md (ad rfl (ml (md (dv rfl rfl) rfl) rfl)) rfl) rfl) (bO (bh (pC rfl rfl (ma _ _ Wl)) rfl) (bO rfl (bO (bh (pC rfl (bh (aq rfl (aq rfl (aq (dv rfl rfl) rfl))) rfl) (ma _ _ hit)) rfl) rfl))))) rfl,L1.mk _ _ _ rfl rfl (congrArg (fun z=>some (V.list z)) (iD Au its (_,true,_))) (congrArg (fun z=>some (V.list z)) (iD V.int ws _)) rfl (p.push (L2 p hil ht) (by omega) hd)⟩
  case false=>
   have bN:ws≠[]:=fun e=>by rw[e]at ht;cases ht
   have hwp:=uY.mpr bN;have Yd:(0:Int)<((ws.map V.int).length:Int)/\((ws.map V.int).length:Int)<1073741824:=by rw[bi];have:most=1000000:=rfl;omega
   obtain⟨j,hj,L5⟩:=OI (ws:=ws) (z:=x/2 % 4 % ((ws.map V.int).length:Int)) (y6 _ (Int.ne_of_gt Yd.1)) (by have:=y7 (x/2 % 4) Yd.1;rwa[bi]at this ⊢) (eY HA.1);have hkd:=p.6 ws[j] (vb hj);by_cases q:x/8 % 7=6
   ·exact⟨_,_,rfl,bO (j8 ((w4 rfl rfl rfl rfl).trans (congrArg some ht)) (bO (bh (CG rfl rfl Yd (eY Wl) L5) rfl) (bO (td (ba (md (dv rfl rfl) rfl) rfl ((jD _ _).trans (congrArg some (eK q)))) (bO (bh (md (ad rfl rfl) rfl) rfl) rfl)) (bO (bh (pC rfl (bh (aq rfl (aq rfl (aq (dv rfl rfl) rfl))) rfl) (ma _ _ hit)) rfl) rfl)))) rfl,L1.mk _ _ _ rfl rfl (congrArg (fun z=>some (V.list z)) (iD Au its (_,false,_))) rfl rfl (p.pop hj (by omega) hd)⟩
   ·exact⟨_,_,rfl,bO (j8 ((w4 rfl rfl rfl rfl).trans (congrArg some ht)) (bO (bh (CG rfl rfl Yd (eY Wl) L5) rfl) (bO (j8 (ba (md (dv rfl rfl) rfl) rfl ((jD _ _).trans (congrArg some (mG q)))) rfl) (bO (bh (pC rfl (bh (aq rfl (aq rfl (aq (dv rfl rfl) rfl))) rfl) (ma _ _ hit)) rfl) rfl)))) rfl,L1.mk _ _ _ rfl rfl (congrArg (fun z=>some (V.list z)) (iD Au its (_,false,_))) rfl rfl (p.pop hj hkd hd)⟩
 ·obtain⟨its,ws,op,_,_,h5,_,_,hl,hw,Yb,hd,Dj,_⟩:=hR
  have hw0:ws.length=0:=by omega
  rw[hw0]at hd;exact wL ⟨_,⟨its,⟨by omega,Dj,hd⟩,rfl⟩,am,bh h5 rfl⟩
 ·rw[bi,nG,TN,y5 (by omega)]at hR
  exact hR
noncomputable def EV:Cx:={vars:=[(Yu,.cell,false),(⟨#[114,117,110,115]⟩,.local,true),(T6,.local,false),(⟨#[102,114,111,110,116]⟩,.local,false),(Tx,.local,false),(⟨#[116,101,120,116]⟩,.local,false),(Ft,.local,false)],aM:=[AR,vj,s7]}
noncomputable def xR:Cx:={vars:=[(Qq,.local,false),(Yu,.cell,false)],aM:=[]}
noncomputable def qy{P:Pk}{n:Nat}(bz:P.glob AR=some (.type "range"))(cb:P.glob vj=some (.builtin "len")){bb:Addr}{cA:List V->Option V}(fH:P.glob s7=some (.ref bb))(fJ:∀h,P.G h->∃o fd,h.get? bb=some o/\o.data= .func fd)(fL:aZ P n (.ref bb) cA):{f:al->Option (al×Fl)//qa P n EV (dz (aJ pq.main.body 66)) f}:=⟨_,(@ac _ _ _ _ _ _ _ (dh 1 rfl (by decide) j4 cp) (@ac _ _ _ _ _ _ _ (@fU _ _ _ (false) _ _ _ _ _ _ _ (@bQ _ _ _ _ _ (@dL _ _ _ _ _ _ (@dj _ _ _ (xR) _ _ _ _ _ _ _ _ _ _ (1) ([0]) (@fh _ _ _ _ _ _ _ rfl bz (@O _ _ _ _ _ _ _ _ (aI rfl cb rfl jn (O (Z 0 rfl rfl rfl) ab ir) ir (cf _ _)) ab ir) ir (cf _ _)) (bB (by decide+kernel)) (ap 0 rfl (by decide) (by decide)) (@qb _ _ _ _ _ (@fP _ _ _ _ _ (@aF _ _ _ _ _ _ _ _ _ (aF (ae (Z 1 rfl rfl rfl)) (ae (Z 0 rfl rfl rfl)) cp) aa cp) cp)) (Z 0 rfl rfl rfl) cp))) (ap 2 rfl (by decide) (by decide)) (@ac _ _ _ _ _ _ _ (aD 3 rfl (by decide) (aC rfl) cp) (@ac _ _ _ _ _ _ _ (@fU _ _ _ (false) _ _ _ _ _ _ _ (@bQ _ _ _ _ _ (@bC _ _ _ _ _ _ _ _ _ _ _ _ _ _ (Z 0 rfl rfl rfl) (bt (ae (Z 2 rfl rfl rfl))) aO aO)) (@da _ _ _ _ _ _ _ (@ay _ _ _ _ _ _ _ (ap 4 rfl (by decide) (by decide)) (ay (ap 5 rfl (by decide) (by decide)) (ay (ap 6 rfl (by decide) (by decide)) bX))) (aE (aE (aE cH))) ir) (@ac _ _ _ _ _ _ _ (i2 3 rfl (by decide) rfl rfl vz (Z 5 rfl rfl rfl)) (@ac _ _ _ _ _ _ _ (@aT _ _ _ _ _ _ _ _ _ _ (@r7 _ _ _ _ _ _ _ _ (@xW _ _ _ _ _ _ (fP (ae (Z 6 rfl rfl rfl)) cp)) (@fP _ _ _ _ _ (@bq _ _ _ _ _ _ _ _ _ _ _ rfl fH rfl fJ fL (O (ae (Z 3 rfl rfl rfl)) ab ir) ir (cf _ _)) cp)) (@ac _ _ _ _ _ _ _ (@lT _ _ _ 1 _ _ _ _ _ _ _ _ _ _ rfl rfl rfl FH (@ai _ _ _ _ _ _ _ _ _ _ _ tB (Z 4 rfl rfl rfl) (@aF _ _ _ _ _ _ _ _ _ (aF (Z 0 rfl rfl rfl) (ae (Z 2 rfl rfl rfl)) cp) aa cp)) (@aF _ _ _ _ _ _ _ _ _ (aF (Z 0 rfl rfl rfl) (ae (Z 2 rfl rfl rfl)) cp) aa cp) ir) (ac xZ aj)) aj) aj)) cp) aj)) cp) (ac (aX (cG 1 rfl rfl rfl)) aj)))⟩
noncomputable def Aw:Cx:={vars:=[(IZ,.local,false),(W3,.local,true),(IS,.local,false),(Ft,.local,false)],aM:=[]}
noncomputable def mr{P:Pk}{n:Nat}:{f:al->Option (al×Fl)//qa P n Aw (dz (aJ pq.main.body 68)) f}:=⟨_,(@ac _ _ _ _ _ _ _ (dh 1 rfl (by decide) (fT ab (by decide) len0) cp) (@ac _ _ _ _ _ _ _ (@fU _ _ _ (false) _ _ _ _ _ _ _ (bQ (Z 0 rfl rfl rfl)) (@da _ _ _ _ _ _ _ (ay (ap 2 rfl (by decide) (by decide)) (ay (ap 3 rfl (by decide) (by decide)) bX)) (aE (aE cH)) ir) (@ac _ _ _ _ _ _ _ (@aT _ _ _ _ _ _ _ _ _ _ (fP (ae (Z 3 rfl rfl rfl)) cp) (@ac _ _ _ _ _ _ _ (@di _ _ _ _ _ _ (cu 1 rfl rfl rfl qV (O (Z 2 rfl rfl rfl) ab ir) ir (by decide) rfl ir) gI ir) aj) (@ac _ _ _ _ _ _ _ (@Ew _ _ _ _ _ _ _ _ _ _ (XX.cmp vm (cu 1 rfl rfl rfl Px ab ir (by decide) rfl ir) (Z 2 rfl rfl rfl) rfl) (ac (aX df) aj) aj) aj)) aj) cp) (ac (aX df) aj)))⟩
noncomputable abbrev RItem:=Nat×Int×Bool
noncomputable def jH(o:Bool):Nat:=if o then 40 else 41
noncomputable def ms(e:RItem):List (List Nat):=fX e.2.1++[[jH e.2.2]]
noncomputable def txt(e:RItem):List Nat:=(ms e).flatten
noncomputable abbrev mV(e:RItem):V:=.tup [.int e.1,.str (txt e),.bool e.2.2]
noncomputable def OK(fl:List Bool):Bool:=match bg bv fl 0 with
 | .inl d=>d==0
 | .inr _=>false
noncomputable def i6(F:List V->Option V):Prop:=∀l:List RItem,l.length<=8->F [.str (l.map txt).flatten]=some (.bool (OK (l.map (·.2.2))))
theorem Ax(e:RItem):jS (ms e)=true/\(∀u∈ms e,Af u=true)/\(ms e).flatten.length<=6/\(ms e).length<=6:=by
 have h:=tg e.2.1;have h1:Af [jH e.2.2]=true:=by unfold jH;cases e.2.2<;>rfl
 have r6:∀u∈ms e,Af u=true:=fun u hu=>by
  unfold ms at hu;rcases cr.mp hu with hu|hu
  ·exact h.1 u hu
  ·simp at hu;rw[hu];exact h1
 refine⟨?_,r6,?_,?_⟩
 ·unfold ms
  exact jG h.1 (by simp[oM,oN,oO,h1])
 ·unfold ms
  rw[gr,List.length_append];have:=h.2.2.1;simp only[nI,bA,eZ];omega
 ·unfold ms
  have:=h.2.2.2.2;simp only[List.length_append,bA,eZ];omega
noncomputable def w5(e:RItem):List (List Nat):=mi e.2.1++[[jH e.2.2]]
theorem w6:∀(l:List RItem) (k:List (List Nat)),((l.map ms).flatten).foldl dG (k,none)=(k++(l.map w5).flatten,none)
 |[],k=>by simp
 |e::l,k=>by
  have hp:jH e.2.2≠34:=by unfold jH;split<;>decide
  simp only[bn,gA,na,ms,Cw,eJ,p7];have:dG (k++mi e.2.1,none) [jH e.2.2]=(k++mi e.2.1++[[jH e.2.2]],none):=by simp[dG,hp]
  rw[this,w6 l];simp[w5]
theorem qz:∀(l:List RItem) (d:Nat),bg ou ((l.map w5).flatten) d=match bg bv (l.map (·.2.2)) d with| .inl d=>.inl d| .inr _=>.inr ()
 |[],d=>rfl
 |e::l,d=>by
  have hk:∀d,bg ou (mi e.2.1) d= .inl d:=fun d=>lt7 (P:=fun j=>bg ou (Cu[j]?.getD []) d= .inl d) rfl rfl rfl rfl rfl rfl rfl _ (LL e.2.1)
  simp only[bn,gA,w5,hU,hk,cQ,bZ];obtain⟨p,dr,o⟩:=e;cases o
  ·by_cases q:d=0
   ·simp[jH,ou,bv,q]
   ·have ih:=qz l (d-1)
    simp[jH,ou,bv,q,ih]
  ·have ih:=qz l (d+1)
   simp[jH,ou,bv,ih]
theorem SY{f g:al->Option (al×Fl)}{ρ am:al}{Q:al×Fl->Prop}(h:f ρ=some (am,.next))(hg:∃r,g am=some r/\Q r):∃r,eO f g ρ=some r/\Q r:=by
 obtain⟨r,e,q⟩:=hg;exact⟨r,dy h e,q⟩
theorem L6{f:al->Option (al×Fl)}{ρ:al}{Q:al->Prop}(h:∃r,f ρ=some r/\r.2= .next/\Q r.1):∃r,eO f (fun ρ=>some (ρ,.next)) ρ=some r/\r.2= .next/\Q r.1:=by
 obtain⟨⟨am,fl⟩,e,rfl,q⟩:=h;exact⟨(am,.next),dy e rfl,rfl,q⟩
noncomputable def tn(pre:List RItem)(e:RItem):Sum (List RItem) Nat:=if e.2.2=false/\OK ((pre++[e]).map (·.2.2))=true then .inr e.1 else .inl (pre++[e])
noncomputable def mu(rest:List RItem):Option Nat:=match bg tn rest []with
 | .inr p=>some p
 | .inl _=>none
noncomputable def dm(its:List RItem)(st:List Int×List V)(k:Nat):List Int×List V:=match its[k]? with
 |none=>st
 |some e=>match mu (its.drop k)with
  |some p=>(cI st.1 e.1,eP st.1 st.2 e.1 (.int (p-e.1)))
  |none=>st
noncomputable def iF(its:List RItem):List Nat:=(List.range its.length).filter fun k=>((its[k]?).map (·.2.2)).getD false
noncomputable def bU(its:List RItem):List Int×List V:=(iF its).foldl (dm its) ([],[])
theorem Wq(n:Nat):IV 0 n 1=(List.range n).map fun(i:Nat)=>V.int i:=by
 unfold IV;have e:(Builtin.Range.rangeSize 0 (n:Int) 1).toNat=n:=by
  unfold Builtin.Range.rangeSize;simp;split<;>omega
 rw[e];simp
theorem w7(its:List RItem):∀(ks:List Nat) (st:List Int×List V),(ks.foldl (dm its) st).1.length<=st.1.length+ks.length
 |[],st=>cF _
 |k::ks,st=>by
  have h:(dm its st k).1.length<=st.1.length+1:=by
   have:∀q,(cI st.1 q).length<=st.1.length+1:=fun q=>by
    unfold cI;split
    ·exact i8 _
    ·exact iM List.length_append
   unfold dm;split
   ·exact i8 _
   ·split
    ·exact this _
    ·exact i8 _
  rw[eJ,bA];exact aA (w7 its ks _) (by omega)
theorem w8(its:List RItem):(iF its).length<=its.length:=by
 have:=List.length_filter_le (fun k=>((its[k]?).map (·.2.2)).getD false) (List.range its.length);rwa[j0]at this
theorem w9:∀l:List RItem,(l.map txt).flatten.length<=6*l.length
 |[]=>cF _
 |x::l=>by
  rw[bn,gA,List.length_append,bA,Nat.mul_add_one,Nat.add_comm];exact p8 (w9 l) (Ax x).2.2.1
inductive RnI(its:List RItem)(d:V)(k:Nat)(l:List RItem)(ρ:al):Prop
 |mk (h:Oo 0 1 2 3 (.list (its.map mV)) d (.int k) (.str (l.map txt).flatten) ρ) (hc:bg tn l []= .inl l)
inductive RnO(its:List RItem)(st:List Int×List V)(ρ:al):Prop
 |mk (h0:ρ 0=some (.list (its.map mV))) (h1:ρ 1=some (.dict st.1 st.2))
theorem OL{F3:List V->Option V}{its:List RItem}(hl:its.length<=8)(hF:i6 F3){k:Nat}{e:RItem}(he:its[k]?=some e){st:List Int×List V}(eF:st.1.length<=8){ρ:al}(h:Oo 0 1 2 3 (.list (its.map mV)) (.dict st.1 st.2) (.int k) (.str []) ρ):
  ∃r,fg (tK (dP (fun ρ y=>some (upd ρ 4 y)) (dP (fun ρ y=>some (upd ρ 5 y)) (dP (fun ρ y=>some (upd ρ 6 y)) pu))))
   (eO (fun ρ=>(ρ 3).bind fun a=>(ρ 5).bind fun b=>Option.map (fun c=>(upd ρ 3 c,Fl.next)) (Bl a b))
    (eO (fun ρ=>(M9 (fun ρ=>Option.map (fun x=>!x) ((ρ 6).bind lJ)) (fun ρ=>(eD F3 (aQ (fun ρ=>ρ 3) fun x=>some []) ρ).bind lJ) ρ).bind fun z=>if z=true then
      eO (fun ρ=>(dA zd (fun ρ=>ρ 4) (f7 (f7 (fun ρ=>ρ 0) fun ρ=>ρ 2) fun x=>some (V.int 0)) ρ).bind fun v=>(ρ 1).bind fun y=>(f7 (f7 (fun ρ=>ρ 0) fun ρ=>ρ 2) (fun x=>some (V.int 0)) ρ).bind fun j=>Option.map (fun y'=>(upd ρ 1 y',Fl.next)) (Jp y j v)) (eO (fun ρ=>some (ρ,Fl.brk)) fun ρ=>some (ρ,Fl.next)) ρ
     else some (ρ,Fl.next)) fun ρ=>some (ρ,Fl.next))) ((its.drop k).map mV) ρ=some r/\r.2= .next/\RnO its (dm its st k) r.1:=by
 refine rz mV (its.drop k) (fun l ρ=>RnI its (.dict st.1 st.2) k l ρ) _ (fun l u l' ρ hx hR=>?_) (fun ρ hR=>⟨rfl,?_⟩) ⟨h,rfl⟩
 ·obtain⟨hA,hc⟩:=hR
  have hle:(l++[u]).length<=8:=by
   have:=congrArg List.length hx;rw[List.length_append,bA,m7]at this;rw[List.length_append,pZ];exact aA (vg (y8 1 _) _) (aA (iM this) (aA (r4 _ _) hl))
  have SZ:=hF (l++[u]) hle;have uA:((l++[u]).map txt).flatten=(l.map txt).flatten++txt u:=by rw[List.map_append];exact uK _ _
  have hm:(l.map txt).flatten.length+(txt u).length<=most:=by
   rw[<-List.length_append,<-uA];exact aA (w9 _) (aA (Nat.mul_le_mul_left 6 hle) (by decide))
  have S0:Bl (.str (l.map txt).flatten) (.str (txt u))=some (.str ((l++[u]).map txt).flatten):=by rw[on _ _ hm,uA]
  obtain⟨p,dr,o⟩:=u;refine hA.ex fun σ=>?_
  cases o
  case true=>exact⟨_,rfl,_,EJ rfl rfl S0 (bO (j8 (j8 rfl rfl) rfl) rfl),.nx ⟨.mk rfl rfl rfl rfl,dR hc (az fun z=>nomatch z.1)⟩⟩
  case false=>
   cases hb:OK ((l++[(p,dr,false)]).map (·.2.2))<;>rw[hb]at SZ
   ·exact⟨_,rfl,_,EJ rfl rfl S0 (bO (j8 (td rfl (dy (bJ rfl SZ) rfl)) rfl) rfl),.nx ⟨.mk rfl rfl rfl rfl,dR hc (az fun z=>by rw[hb]at z;exact nomatch z.2)⟩⟩
   ·have Nk:mu (its.drop k)=some p:=by unfold mu;rw[<-hx,lr hc (aw ⟨rfl,hb⟩)]
    have hr:dm its st k=(cI st.1 e.1,eP st.1 st.2 e.1 (.int (p-e.1))):=by unfold dm;rw[he];dsimp only;rw[Nk]
    have hit:=gJ (xs:=its.map mV) (b:=mV e) (by rw[bL,he];rfl) (LB hl);rw[hr];exact⟨_,rfl,_,EJ rfl rfl S0 (LD (td (td rfl (dy (bJ rfl SZ) rfl)) (V9 (bu rfl (cM (cM rfl rfl hit) rfl rfl) rfl) rfl (cM (cM rfl rfl hit) rfl rfl) ((Ea ..).trans (aw (aA eF (by decide)))) (LD rfl)))),.br ⟨rfl,rfl,rfl⟩⟩
 ·obtain⟨hA,hc⟩:=hR
  have hr:dm its st k=st:=by
   have Nk:mu (its.drop k)=none:=by unfold mu;rw[hc]
   unfold dm;rw[he];dsimp only;rw[Nk]
  rw[hr];exact⟨hA.1,hA.2⟩
theorem L7{P:Pk}{n:Nat}{g1 g2 a3 F3 g3 h3 c3}{ρ:al}{its:List RItem}(hl:its.length<=8)(hF:i6 F3)(h0:ρ 0=some (.list (its.map mV))):
  Ends (qy (P:=P) (n:=n) g1 g2 (bb:=a3) (cA:=F3) g3 h3 c3).1 ρ (.dict (bU its).1 (bU its).2):=by
 have Gw:=LB (f:=mV) hl;have h6:eH ((its.map mV).length:Int)=true:=by
  have Bq:most=1000000:=rfl;exact(dI _ _).mpr ⟨eK (by omega),eK (by omega)⟩
 unfold qy;dsimp only;refine ex1 ρ h0 fun σ=>bm rfl (iE (RnO its (bU its)) (iS (dy (qW (fun ρ=>ρ 1=some (.list (its.map mV))) (List.range its.length) (fun(k:Nat)=>V.int k) (fun k=>((its[k]?).map (·.2.2)).getD false) (fun(k:Nat)=>V.int k) (dy (aq (bJ rfl (oq _ Gw)) rfl) (by rw[D3,aw h6,bi,Wq])) (by rw[j0];exact LC hl) (fun k hk ρ hI=>?_) rfl) rfl) (Cp (fun(k:Nat)=>V.int k) (iF its) (fun l ρ=>RnO its (l.foldl (dm its) ([],[])) ρ) (fun l k l' ρ hx hR=>?_) ⟨rfl,rfl⟩)) fun am hR=>eS hR.2)
 ·obtain⟨e,he⟩:=get_mem (gE.mp hk)
  exact ex1 ρ hI fun σ=>⟨_,rfl,rfl,dy (cM (cM rfl rfl (gJ (b:=mV e) (by rw[bL,he];rfl) Gw)) rfl rfl) (by rw[he];rfl),fun ø=>rfl⟩
 ·have Ux:k∈iF its:=hx▸bw _ dJ
  obtain⟨e,he⟩:=get_mem (gE.mp (kL.mp Ux).1);have eF:=w7 its l ([],[]);have hle:l.length<=8:=by
   have:=w8 its;rw[<-hx,List.length_append]at this;omega
  rw[na,eJ,p7];generalize l.foldl (dm its) ([],[])=st at*;exact ex2 ρ hR.1 hR.2 fun σ=>⟨_,rfl,SY rfl (L6 (iS (dy (eA rfl rfl rfl rfl (mf _ k Gw)) (congrArg some nJ.symm)) (OL hl hF he (aA eF (by rw[eZ,gq];exact hle)) (.mk rfl rfl rfl rfl))))⟩
theorem HV{F1 F:List V->Option V}(xD:∀us,jS us=true->us.flatten.length<=10000->us.length<=10000->F1 [.str us.flatten]=some (.str (gk us).flatten))
  (hF:∀t ws,F1 [.str t]=some (.str (List.flatten ws))->jS ws=true->ws.flatten.length<=10000->F [.str t]=some (.bool (qo ws))):i6 F:=fun l hl=>by
 have LM:∀l:List RItem,(l.map txt).flatten=((l.map ms).flatten).flatten:=fun l=>by
  induction l with
  |nil=>rfl
  |cons x l ih=>simp only[bn,gA,gr,ih];rfl
 have r6:∀u∈(l.map ms).flatten,Af u=true:=fun u hu=>by
  obtain⟨us,SN,hu⟩:=List.mem_flatten.mp hu;obtain⟨e,he,rfl⟩:=bP.mp SN;exact(Ax e).2.1 u hu
 have Wr:∀u∈(l.map w5).flatten,Af u=true:=fun u hu=>by
  obtain⟨us,SN,hu⟩:=List.mem_flatten.mp hu;obtain⟨e,he,rfl⟩:=bP.mp SN;unfold w5 at hu;rcases cr.mp hu with hu|hu
  ·exact((tg e.2.1).2.1 u hu).1
  ·simp at hu;rw[hu];unfold jH;cases e.2.2<;>rfl
 have okA:∀us:List (List Nat),(∀u∈us,Af u=true)->jS us=true:=fun us h=>by
  have:=jG (us:=us) (vs:=[]) h rfl;simpa using this
 have eF:gk ((l.map ms).flatten)=(l.map w5).flatten:=by
  unfold gk;rw[w6];simp
 have hlen:∀l:List RItem,((l.map ms).flatten).flatten.length<=6*l.length/\((l.map ms).flatten).length<=6*l.length:=fun l=>by
  induction l with
  |nil=>simp
  |cons x l ih=>
   have h:=Ax x;simp only[bn,gA,gr,List.length_append,bA];omega
 have h1:=hlen l;have:=xD _ (okA _ r6) (by omega) (by omega);rw[eF]at this;rw[LM,hF _ _ this (okA _ Wr) (by have:=wJ ((l.map ms).flatten);rw[eF]at this;omega)]
 congr 2
 unfold qo OK;rw[qz];cases bg bv (l.map (·.2.2)) 0<;>rfl
noncomputable def oC(kG:List Int)(e:Int×Bool):Sum (List Int) Unit:=if e.2 then .inl (kG++[e.1])else if kG.getLast?=some e.1 then .inl kG.dropLast else .inr ()
noncomputable def eB(r:List (Int×Bool)):Bool:=match bg oC r []with
 | .inl _=>true
 | .inr _=>false
inductive NsI(l:List (Int×Bool))(ρ:al):Prop
 |mk (kG:List Int) (h1:ρ 1=some (.list (kG.map .int))) (hn:bg oC l []= .inl kG) (hd:bg bv (l.map (·.2)) 0= .inl kG.length) (hl:kG.length<=l.length)
theorem L8(p:List Int)(t:Int)(h:((p++[t]).map V.int).length<=most):DZ (.list ((p++[t]).map .int)) []=some (.list (p.map .int),.int t):=by
 have e:(p++[t]).map V.int=p.map .int++[.int t]:=List.map_append;rw[QJ,e,DM,cR,<-e,aw h,e,DN]
theorem EW{P:Pk}{n:Nat}{ρ:al}{r:List (Int×Bool)}{d:Nat}(hd:bg bv (r.map (·.2)) 0= .inl d)(hl:r.length<=8)(h0:ρ 0=some (.list (r.map fun e=>.tup [.int e.1,.bool e.2]))):
  Ends (mr (P:=P) (n:=n)).1 ρ (.bool (eB r)):=by
 unfold mr;dsimp only;refine bm rfl (wK (iS (dy h0 rfl) (rz (fun e:Int×Bool=>V.tup [.int e.1,.bool e.2]) r NsI _ (fun l u l' ρ hx hR=>?_) (fun ρ hR=>.inr ⟨rfl,?_⟩) ⟨[],rfl,rfl,rfl,cF _⟩)))
 ·obtain⟨kG,h1,hn,hy,hp⟩:=hR
  obtain⟨k,o⟩:=u;have hle:kG.length<=8:=aA hp (by have:=congrArg List.length hx;rw[List.length_append,bA]at this;omega);have hs:∀s,bv kG.length o= .inl s->bg bv ((l++[(k,o)]).map (·.2)) 0= .inl s:=fun s e=>by rw[List.map_append];exact dR hy e
  have SX:∀m,m<=kG.length+1->m<=(l++[(k,o)]).length:=fun m h=>aA h (by rw[List.length_append];exact jb hp)
  cases o
  case true=>exact ex1 ρ h1 fun σ=>⟨_,rfl,_,bO (td rfl (Sz rfl rfl (ma _ _ (mt8 hle)) rfl)) rfl,.nx ⟨kG++[k],congrArg (fun z=>some (V.list z)) (iD V.int kG k),dR hn rfl,hs _ (by rw[List.length_append];rfl),SX _ (iM List.length_append)⟩⟩
  case false=>
   by_cases bN:kG=[]
   ·subst bN
    rw[<-hx,List.map_append,bn,lr hy rfl]at hd;cases hd
   ·obtain⟨p,t,rfl⟩:∃p t,kG=p++[t]:=⟨_,_,(rV bN).symm⟩
    have L5:=L8 p t (LB hle);have hlen:(p++[t]).length=p.length+1:=List.length_append;have vn:oC (p++[t]) (k,false)=if some t=some k then .inl p else .inr ():=by
     show(if(p++[t]).getLast?=some k then Sum.inl (p++[t]).dropLast else Sum.inr ())=_;rw[DM,DN]
    by_cases q:t=k
    ·exact ex1 ρ h1 fun σ=>⟨_,rfl,_,bO (j8 rfl (bO (dy (dy (EI rfl rfl L5) (dy rfl (bh (P9 q) rfl))) rfl) rfl)) rfl,.nx ⟨p,rfl,dR hn (vn.trans (aw (congrArg some q))),hs _ (by rw[hlen];rfl),SX _ (by rw[hlen];omega)⟩⟩
    ·have e:eB r=false:=by unfold eB;rw[<-hx,lr hn (vn.trans (az fun z=>q (Option.some.inj z)))]
     exact ex1 ρ h1 fun σ=>⟨_,rfl,_,Sx (j8 rfl (Sx (dy (dy (EI rfl rfl L5) (dy rfl (bh (neT q) rfl))) rfl))),.rt (.inl (by rw[e]))⟩
 ·obtain⟨kG,h1,hn,_,_⟩:=hR
  have e:eB r=true:=by unfold eB;rw[hn]
  rw[e];exact eS rfl
noncomputable def EX:Cx:={vars:=[(AQ,.local,false),(⟨#[119,115]⟩,.local,false),(T2,.local,false),(T3,.local,false),(Tw,.local,true),(⟨#[98]⟩,.local,false),(T7,.local,false),(⟨#[110,116]⟩,.local,false),(Qs,.local,false)],aM:=[DR,vj,Yy]}
noncomputable def EY{P:Pk}{n:Nat}{t_S t_T:Tok}{C N:Addr}{mN:Str->Option Value}(W:cP P C N mN)(gL:P.glob DR=some (.ref C))(cb:P.glob vj=some (.builtin "len"))(Ak:P.glob Yy=some (.type "tuple"))(k_S:∀h,P.G h->∃(Fr:Frag) (mc:Value),Fr.In h/\readsIn Fr C mc=true/\findCls Fr (.ref C) mc T2=some (.val (.str (pyStr [32]) t_S)))(k_T:∀h,P.G h->∃(Fr:Frag) (mc:Value),Fr.In h/\readsIn Fr C mc=true/\findCls Fr (.ref C) mc T3=some (.val (.str (pyStr [9]) t_T))):{F:Addr->al->List V->Option (al×List V)//tU P n EX C (dz (aJ (e6 (aJ pq.main.body 11)) 1)) F}:=⟨_,(@tU.store _ _ _ _ _ _ W 0 _ _ _ _ _ _ _ _ _ _ rfl rfl rfl rfl (Z 1 rfl rfl rfl) (@tU.st _ _ _ _ _ _ _ _ (@lQ _ _ _ ([(2,T2,.local,false),(3,T3,.local,false)]) ([_,_]) _ _ _ _ _ _ _ ⟨by decide+kernel,by decide+kernel⟩ rfl (jQ.dat (rp rfl gL rfl k_S ir) (jQ.dat (rp rfl gL rfl k_T ir) jQ.nil ir) ir) (by decide) (af (af len0)) kY.len ir (VR (K:=EX) (i:=2) (j:=3) rfl rfl rfl (by decide+kernel) rfl rfl rfl rfl)) (@tU.st _ _ _ _ _ _ _ _ (dh 4 rfl (by decide) (fT ab (by decide) len0) cp) (@tU.st _ _ _ _ _ _ _ _ (Ef 5 6 7 rfl rfl rfl (by decide) (by decide) (by decide) aa ir ir) (@tU.for _ _ _ _ _ _ W (false) _ _ _ _ _ _ _ _ _ _ _ rfl rfl rfl ir (ap 8 rfl (by decide) (by decide)) (@ac _ _ _ _ _ _ _ (@aT _ _ _ _ _ _ _ _ _ _ (aR qU (ae (Z 8 rfl rfl rfl)) (ae (Z 2 rfl rfl rfl)) rfl) (@ac _ _ _ _ _ _ _ (aD 6 rfl (by decide) (ai cy (Z 6 rfl rfl rfl) aa) cp) (@ac _ _ _ _ _ _ _ (aD 5 rfl (by decide) (ai cy (Z 5 rfl rfl rfl) aa) cp) aj)) (@ac _ _ _ _ _ _ _ (@aT _ _ _ _ _ _ _ _ _ _ (aR qU (ae (Z 8 rfl rfl rfl)) (ae (Z 3 rfl rfl rfl)) rfl) (@ac _ _ _ _ _ _ _ (aD 6 rfl (by decide) (ai cy (Z 6 rfl rfl rfl) aa) cp) (@ac _ _ _ _ _ _ _ (aD 7 rfl (by decide) (ai cy (Z 7 rfl rfl rfl) aa) cp) (@ac _ _ _ _ _ _ _ (@aT _ _ _ _ _ _ _ _ _ _ (@aR _ _ _ _ _ _ _ _ _ _ YN (ae (Z 5 rfl rfl rfl)) (aI rfl cb rfl jn (O (cG 4 rfl rfl rfl) ab ir) ir (cf _ _)) rfl) (@ac _ _ _ _ _ _ _ (@dh _ _ _ 4 _ _ _ _ _ _ rfl (by decide) (@vG _ _ _ _ _ _ _ _ (Ho 4 rfl rfl rfl) (@vF _ _ _ _ _ (@ai _ _ _ _ _ _ _ _ _ _ _ tC (eR (O aa ab ir) (by decide) (af len0)) (@ai _ _ _ _ _ _ _ _ _ _ _ cy (@ai _ _ _ _ _ _ _ _ _ _ _ tB (Z 5 rfl rfl rfl) (@qR _ _ _ _ _ _ (aI rfl cb rfl jn (O (cG 4 rfl rfl rfl) ab ir) ir (cf _ _)))) aa)))) cp) aj) aj) (@ac _ _ _ _ _ _ _ (@lT _ _ _ 4 _ _ _ _ _ _ _ _ _ _ rfl rfl rfl FH (@ai _ _ _ _ _ _ _ _ _ _ _ cy (@qR _ _ _ _ _ _ (aF (cG 4 rfl rfl rfl) (ae (Z 5 rfl rfl rfl)) cp)) aa) (Z 5 rfl rfl rfl) ir) (ac (aD 5 rfl (by decide) aa cp) aj))))) (ac xZ aj)) aj)) aj) (@tU.store _ _ _ _ _ _ W 1 _ _ _ _ _ _ _ _ _ _ rfl rfl rfl rfl (Z 6 rfl rfl rfl) (@tU.store _ _ _ _ _ _ W 2 _ _ _ _ _ _ _ _ _ _ rfl rfl rfl rfl (Z 7 rfl rfl rfl) (@tU.store _ _ _ _ _ _ W 3 _ _ _ _ _ _ _ _ _ _ rfl rfl rfl rfl (@ct _ _ _ _ _ _ _ _ (O (z9 4 rfl rfl rfl rfl Ak rfl) (O (Z 5 rfl rfl rfl) ab ir) ir) (by decide) (af (af len0))) (@tU.store _ _ _ _ _ _ W 4 _ _ _ _ _ _ _ _ _ _ rfl rfl rfl rfl (@kQ _ _ _ _ _ _ _ _ _ _ _ YO (aI rfl cb rfl jn (O (cG 4 rfl rfl rfl) ab ir) ir (cf _ _)) aa rfl) tU.nil ir) ir) ir) ir))))) ir)⟩
noncomputable abbrev HW:=List Int×Nat×Nat×Nat
noncomputable def grow(cnt:List Int)(b:Nat):List Int:=if cnt.length<=b then cnt++List.replicate (b-cnt.length+1) 0 else cnt
noncomputable def bump(cnt:List Int)(b:Nat):List Int:=(grow cnt b).set b (((grow cnt b)[b]?).getD 0+1)
noncomputable def mw(s:HW)(c:Nat):Sum HW HW:=if c=32 then .inl (s.1,s.2.1+1,s.2.2.1+1,s.2.2.2)else if c=9 then .inl (bump s.1 s.2.1,0,s.2.2.1+1,s.2.2.2+1)else .inr s
noncomputable def qA(l:List Nat):HW:=match bg mw l ([],0,0,0)with
 | .inl s=>s
 | .inr s=>s
theorem xa(cnt:List Int)(b:Nat):b<(grow cnt b).length/\(grow cnt b).length<=max cnt.length (b+1):=by
 unfold grow;by_cases h:cnt.length<=b
 ·rw[aw h,List.length_append,y9,<-Nat.add_assoc,vf h]
  exact⟨m3 b,Nat.le_max_right _ _⟩
 ·rw[az h]
  exact⟨Nat.not_le.mp h,Nat.le_max_left _ _⟩
noncomputable def S2(l:List Nat):List V:=[.str l,.int (qA l).2.2.1,.int (qA l).2.2.2,.tup [.tup ((qA l).1.map .int),.int (qA l).2.1],.bool (decide ((qA l).1.length<=1))]
theorem lu{idx:Nat}{f g x ρ lv v}{r}(hl:lv.length=idx)(hs:sZ x ρ=true)(hf:f ρ=some v)(hg:∃aY,g x ρ (lv++[v])=some (aY,r)):∃aY,K8 idx f g x ρ lv=some (aY,r):=by
 obtain⟨aY,e⟩:=hg;exact⟨aY,(aw ⟨hl,hs⟩).trans (dy hf e)⟩
theorem EZ{f g x ρ am lv}{r}(hf:f ρ=some (am,.next))(hg:∃aY,g x am lv=some (aY,r)):∃aY,stW f g x ρ lv=some (aY,r):=by
 obtain⟨aY,e⟩:=hg;exact⟨aY,dy hf e⟩
theorem OM{asg bf g x ρ}{l:List Nat}{lv:List V}{r}{Q:al->Prop}(hs:sZ x ρ=true)(h:∃q,fg asg bf (l.map fun c=>V.str [c]) ρ=some q/\q.2= .next/\Q q.1)(hg:∀am,Q am->∃aY,g x am (.str l::lv)=some (aY,r)):∃aY,VJ asg bf g x ρ (.str l::lv)=some (aY,r):=by
 obtain⟨⟨am,fl⟩,e,rfl,q⟩:=h;obtain⟨aY,e'⟩:=hg am q;exact⟨aY,(aw hs).trans (dy (a:=l) rfl (dy e e'))⟩
inductive WsA(x:Addr)(s:HW)(n:Nat)(ρ:al):Prop
 |mk (h:TX 0 2 3 4 5 6 7 (.obj [.int (x:Nat)]) (.str [32]) (.str [9]) (.list (s.1.map .int)) (.int s.2.1) (.int s.2.2.1) (.int s.2.2.2) ρ) (hc:s.1.length<=n) (hb:s.2.1<=n)
inductive WsI(x:Addr)(l:List Nat)(ρ:al):Prop
 |mk (s:HW) (hf:bg mw l ([],0,0,0)= .inl s) (h:WsA x s l.length ρ)
theorem S3{cnt:List Int}{b:Nat}(hc:cnt.length<=1000)(hb:b<=1000){ρ:al}(h4:ρ 4=some (.list (cnt.map .int)))(h5:ρ 5=some (.int b)):
  (fun ρ:al=>(qS geV (fun ρ=>ρ 5) (eD qX (aQ (fun ρ=>ρ 4) fun x=>some [])) ρ).bind fun z=>if z=true then
   eO (fun ρ=>Option.map (fun y=>(upd ρ 4 y,Fl.next)) (dA Rh (fun ρ=>ρ 4) (dA xw (fun ρ=>Option.map V.list (aQ (fun x=>some (V.int 0)) (fun x=>some []) ρ)) (dA nM (dA zd (fun ρ=>ρ 5) fun ρ=>(eD qX (aQ (fun ρ=>ρ 4) fun x=>some []) ρ).bind fun x=>if x.scalar=true then some x else none) fun x=>some (V.int 1))) ρ)) (fun ρ=>some (ρ,Fl.next)) ρ
   else some (ρ,Fl.next)) ρ=some (upd ρ 4 (.list ((grow cnt b).map .int)),.next):=by
 have hl:(cnt.map V.int).length=cnt.length:=bi ..;have hm:(cnt.map V.int).length<=most:=by rw[hl];exact aA hc (by decide)
 have hle:=bJ (f:=fun ρ=>ρ 4) h4 (oq _ hm);by_cases q:cnt.length<=b
 ·have hg:grow cnt b=cnt++List.replicate (b-cnt.length+1) 0:=aw q
  have hn:(b:Int)-((cnt.map V.int).length:Int)+1=((b-cnt.length+1:Nat):Int):=by rw[hl,<-Int.ofNat_sub q];rfl
  have hr:List.replicate (b-cnt.length+1) (V.int 0)=(List.replicate (b-cnt.length+1) (0:Int)).map V.int:=List.map_replicate.symm;have hmul:xw (.list [.int 0]) (.int ((b:Int)-((cnt.map V.int).length:Int)+1))=some (.list (List.replicate (b-cnt.length+1) (V.int 0))):=by
   rw[hn,Nc _ _ ⟨mF _,rfl,by omega⟩,lG,List.flatten_replicate_singleton]
  refine td (ba h5 hle (congrArg some (eK (by omega)))) (xJ (bu h4 (bu rfl (ad (bu h5 (dy hle rfl) rfl) rfl) hmul) ((FN ..).trans (aw ?_))) ?_)
  ·rw[hl,y9]
   exact aA (show cnt.length+(b-cnt.length+1)<=1001 by omega) (by decide)
  ·rw[hr,<-List.map_append,<-hg]
 ·have hg:grow cnt b=cnt:=az q
  rw[hg,ca h4];exact j8 (ba h5 hle (congrArg some (mG (by omega)))) rfl
theorem L9{P:Pk}{n:Nat}{C N}{mN}{W:cP P C N mN}{tS tT g1 g2 g3 k1 k2}{x:Addr}{ρ:al}{l:List Nat}(hl:l.length<=1000)(h0:ρ 0=some (.obj [.int (x:Nat)]))(h1:ρ 1=some (.str l)):
  ∃aY,(EY (P:=P) (n:=n) (C:=C) (N:=N) (mN:=mN) (t_S:=tS) (t_T:=tT) W g1 k1 k2 g2 g3).1 x ρ []=some (aY,S2 l):=by
 unfold EY;dsimp only;refine ex2 ρ h0 h1 fun σ=>lu rfl (i4 rfl) rfl (EZ rfl (EZ rfl (EZ rfl (OM (Q:=WsA x (qA l) l.length) (i4 rfl) (rz (fun c:Nat=>V.str [c]) l (WsI x) _ (fun l₁ c l' ρ hx hR=>?_) (fun ρ hR=>⟨rfl,?_⟩) ⟨([],0,0,0),rfl,⟨rfl,rfl,rfl,rfl,rfl,rfl,rfl⟩,cF _,cF _⟩) fun am hR=>?_))))
 ·obtain⟨⟨cnt,b,nn,nt⟩,hf,hA,hc,hb⟩:=hR
  dsimp only at hA hc hb;have hn:(l₁++[c]).length=l₁.length+1:=List.length_append;have de:l₁.length<l.length:=by rw[<-hx,List.length_append];exact DK (nC _)
  by_cases e1:c=32
  ·subst e1
   exact hA.ex fun σ=>⟨_,rfl,_,bO (td rfl (xJ (ad rfl rfl) (xJ (ad rfl rfl) rfl))) rfl,.nx ⟨(cnt,b+1,nn+1,nt),dR hf rfl,⟨rfl,rfl,rfl,rfl,rfl,rfl,rfl⟩,by rw[hn];exact i9 hc,by rw[hn];exact jb hb⟩⟩
  ·by_cases e2:c=9
   ·subst e2
    have hg:=xa cnt b;have Ma:l₁.length+1<=1000:=aA de hl;have Ws:(grow cnt b).length<=l₁.length+1:=aA hg.2 (Nat.max_le.mpr ⟨i9 hc,jb hb⟩);obtain⟨v,hv⟩:=get_mem hg.1;have Qd:bump cnt b=(grow cnt b).set b (v+1):=by unfold bump;rw[hv];rfl
    have AL:((grow cnt b).map V.int).length=(grow cnt b).length:=bi ..;have hgm:((grow cnt b).map V.int).length<=most:=by rw[AL];exact aA (aA Ws Ma) (by decide)
    have ad9:Jp (.list ((grow cnt b).map .int)) (.int b) (.int (v+1))=some (.list ((bump cnt b).map .int)):=by
     rw[Eb,aw ⟨mF _,by rw[AL];exact nH.mpr hg.1,hgm⟩,Qd,List.map_set];rfl
    exact hA.ex fun σ=>⟨_,rfl,_,bO (j8 rfl (bO (td rfl (xJ (ad rfl rfl) (xJ (ad rfl rfl) (bO (S3 (aA hc (u9 Ma)) (aA hb (u9 Ma)) rfl rfl) (V9 (ad (dy (cM rfl rfl (gJ (by rw[bL,hv];rfl) hgm)) rfl) rfl) rfl rfl ad9 (xJ rfl rfl)))))) rfl)) rfl,.nx ⟨(bump cnt b,0,nn+1,nt+1),dR hf rfl,⟨rfl,rfl,rfl,rfl,rfl,rfl,rfl⟩,by rw[hn,Qd,List.length_set];exact Ws,dU _⟩⟩
   ·have b1:([c]==[32])=false:=pi.mpr fun z=>e1 (vh z).1
    have b2:([c]==[9])=false:=pi.mpr fun z=>e2 (vh z).1
    have hw:qA l=(cnt,b,nn,nt):=by unfold qA;rw[<-hx,lr hf ((az e1).trans (az e2))]
    refine hA.ex fun σ=>⟨_,rfl,_,LD (j8 (congrArg some b1) (LD (j8 (congrArg some b2) (LD rfl)))),.br ⟨rfl,?_⟩⟩
    rw[hw];exact⟨⟨rfl,rfl,rfl,rfl,rfl,rfl,rfl⟩,aA hc (eY de),aA hb (eY de)⟩
 ·obtain⟨hA,hc,hb⟩:=hR
  have hm:((qA l).1.map V.int).length<=most:=by rw[bi];exact aA hc (aA hl (by decide))
  have hd:decide ((((qA l).1.map V.int).length:Int)<=1)=decide ((qA l).1.length<=1):=by rw[bi];exact decide_eq_decide.mpr qO
  exact hA.ex fun σ=>lu rfl (i4 rfl) rfl (lu rfl (i4 rfl) rfl (lu rfl (i4 rfl) (bh (aq (dy rfl ((Q9 ..).trans (aw hm))) (aq rfl rfl)) rfl) (lu rfl (i4 rfl) (bh (ba (bJ rfl (oq _ hm)) rfl (congrArg some hd)) rfl) ⟨_,rfl⟩)))
 ·obtain⟨s,hf,h⟩:=hR
  have hw:qA l=s:=by unfold qA;rw[hf]
  rw[hw];exact h
noncomputable def xb:Cx:={vars:=[(AQ,.local,false),(Ym,.local,false),(Tw,.local,false),(W1,.local,false),(⟨#[105,108]⟩,.local,false),(⟨#[105]⟩,.local,false)],aM:=[AR,vj]}
noncomputable def jI{P:Pk}{n:Nat}{C N:Addr}{mN:Str->Option Value}(W:cP P C N mN)(bz:P.glob AR=some (.type "range"))(cb:P.glob vj=some (.builtin "len")):{f:al->Option (al×Fl)//qa P n xb (dz (aJ (e6 (aJ pq.main.body 11)) 3)) f}:=⟨_,(@ac _ _ _ _ _ _ _ (@oJ _ _ _ _ _ _ _ _ (@da _ _ _ _ _ _ _ (ay (ap 2 rfl (by decide) (by decide)) (ay (ap 3 rfl (by decide) (by decide)) bX)) (aE (aE cH)) ir) (jB W 3 rfl (Z 0 rfl rfl rfl) ir) ir ir ir) (@ac _ _ _ _ _ _ _ (aD 4 rfl (by decide) aa cp) (@ac _ _ _ _ _ _ _ (@fU _ _ _ (false) _ _ _ _ _ _ _ (@fh _ _ _ _ _ _ _ rfl bz (@O _ _ _ _ _ _ _ _ (Z 1 rfl rfl rfl) (@O _ _ _ _ _ _ _ _ (aI rfl cb rfl jn (O (Z 2 rfl rfl rfl) ab ir) ir (cf _ _)) ab ir) ir) ir (cf _ _)) (ap 5 rfl (by decide) (by decide)) (@ac _ _ _ _ _ _ _ (@aD _ _ _ 4 _ _ _ _ _ _ rfl (by decide) (@ai _ _ _ _ _ _ _ _ _ _ _ cy (Z 4 rfl rfl rfl) (@ai _ _ _ _ _ _ _ _ _ _ _ tC (ai je (Z 5 rfl rfl rfl) (Z 1 rfl rfl rfl)) (aF (Z 2 rfl rfl rfl) (ae (Z 5 rfl rfl rfl)) cp))) cp) aj) cp) (@ac _ _ _ _ _ _ _ (@aX _ _ _ _ _ _ (@ai _ _ _ _ _ _ _ _ _ _ _ cy (ae (Z 3 rfl rfl rfl)) (@ai _ _ _ _ _ _ _ _ _ _ _ tC (ae (Z 1 rfl rfl rfl)) (@ai _ _ _ _ _ _ _ _ _ _ _ cy (ae (Z 4 rfl rfl rfl)) (jB W 2 rfl (ae (Z 0 rfl rfl rfl)) ir))))) aj))))⟩
noncomputable def lx:Cx:={vars:=[(AQ,.local,false),(Tw,.local,false),(W1,.local,false)],aM:=[M7,vj]}
noncomputable def eC{P:Pk}{n:Nat}{C N:Addr}{mN:Str->Option Value}(W:cP P C N mN)(ls:P.glob M7=some (.builtin "max"))(cb:P.glob vj=some (.builtin "len")):{f:al->Option (al×Fl)//qa P n lx (dz (aJ (e6 (aJ pq.main.body 11)) 2)) f}:=⟨_,(@ac _ _ _ _ _ _ _ (@oJ _ _ _ _ _ _ _ _ (@da _ _ _ _ _ _ _ (ay (ap 1 rfl (by decide) (by decide)) (ay (ap 2 rfl (by decide) (by decide)) bX)) (aE (aE cH)) ir) (jB W 3 rfl (Z 0 rfl rfl rfl) ir) ir ir ir) (@ac _ _ _ _ _ _ _ (@aX _ _ _ _ _ _ (@aI _ _ _ _ _ _ _ _ _ _ _ rfl ls rfl Jt (@O _ _ _ _ _ _ _ _ (@ai _ _ _ _ _ _ _ _ _ _ _ tB (@aI _ _ _ _ _ _ _ _ _ _ _ rfl cb rfl jn (O (ae (Z 1 rfl rfl rfl)) ab ir) ir (cf _ _)) aa) (O (ae (Z 2 rfl rfl rfl)) ab ir) ir) ir (cf _ _))) aj))⟩
noncomputable def ON:Cx:={vars:=[(AQ,.local,false),(Pq,.local,false)],aM:=[]}
noncomputable def Ay{P:Pk}{n:Nat}{C N:Addr}{mN:Str->Option Value}(W:cP P C N mN):{f:al->Option (al×Fl)//qa P n ON (dz (aJ (e6 (aJ pq.main.body 11)) 4)) f}:=⟨_,(@ac _ _ _ _ _ _ _ (@aX _ _ _ _ _ _ (@kQ _ _ _ _ _ _ _ _ _ _ _ qU (jB W 3 rfl (ae (Z 0 rfl rfl rfl)) ir) (jB W 3 rfl (ae (Z 1 rfl rfl rfl)) ir) rfl)) aj)⟩
noncomputable def o7:Cx:={vars:=[(AQ,.local,false),(Pq,.local,false),(T7,.local,false),(⟨#[97]⟩,.local,true),(⟨#[116,115]⟩,.local,false)],aM:=[M7,AR]}
noncomputable def f4{P:Pk}{n:Nat}{C N:Addr}{mN:Str->Option Value}(W:cP P C N mN)(ls:P.glob M7=some (.builtin "max"))(bz:P.glob AR=some (.type "range")){cc:Addr}{fM:List V->Option V}(dp:mN MX=some (.ref cc))(bo:∀h,P.G h->∃of fd,h.get? cc=some of/\of.cls= .type "function"/\of.data= .func fd)(dq:typeLookup (.type "object") MX=pure none)(dt:aZ P n (.ref cc) fM){cK:Addr}{gv:List V->Option V}(gw:mN Pm=some (.ref cK))(cJ:∀h,P.G h->∃of fd,h.get? cK=some of/\of.cls= .type "function"/\of.data= .func fd)(gx:typeLookup (.type "object") Pm=pure none)(gy:aZ P n (.ref cK) gv):{f:al->Option (al×Fl)//qa P n o7 (dz (aJ (e6 (aJ pq.main.body 11)) 5)) f}:=⟨_,(@ac _ _ _ _ _ _ _ (@aD _ _ _ 2 _ _ _ _ _ _ rfl (by decide) (@ai _ _ _ _ _ _ _ _ _ _ _ cy (@aI _ _ _ _ _ _ _ _ _ _ _ rfl ls rfl Jt (@O _ _ _ _ _ _ _ _ (cX W (Z 0 rfl rfl rfl) gw cJ gx (by decide+kernel) gy ab ir (by decide) rfl ir) (O (cX W (Z 1 rfl rfl rfl) gw cJ gx (by decide+kernel) gy ab ir (by decide) rfl ir) ab ir) ir) ir (cf _ _)) aa) cp) (@ac _ _ _ _ _ _ _ (dh 3 rfl (by decide) (fT ab (by decide) len0) cp) (@ac _ _ _ _ _ _ _ (@fU _ _ _ (false) _ _ _ _ _ _ _ (@fh _ _ _ _ _ _ _ rfl bz (@O _ _ _ _ _ _ _ _ aa (O (ai cy (Z 2 rfl rfl rfl) aa) ab ir) ir) ir (cf _ _)) (ap 4 rfl (by decide) (by decide)) (@ac _ _ _ _ _ _ _ (@aT _ _ _ _ _ _ _ _ _ _ (@aR _ _ _ _ _ _ _ _ _ _ vm (@cX _ _ _ _ _ _ _ W _ _ _ _ _ _ _ _ _ (ae (Z 0 rfl rfl rfl)) dp bo _ dq (by decide+kernel) dt (O (ae (Z 4 rfl rfl rfl)) ab ir) ir (by decide) rfl ir) (@cX _ _ _ _ _ _ _ W _ _ _ _ _ _ _ _ _ (ae (Z 1 rfl rfl rfl)) dp bo _ dq (by decide+kernel) dt (O (ae (Z 4 rfl rfl rfl)) ab ir) ir (by decide) rfl ir) rfl) (@ac _ _ _ _ _ _ _ (@di _ _ _ _ _ _ (@cu _ _ _ 3 _ _ _ _ _ _ _ _ _ rfl rfl rfl qV (@O _ _ _ _ _ _ _ _ (@ct _ _ _ _ _ _ _ _ (@O _ _ _ _ _ _ _ _ (Z 4 rfl rfl rfl) (@O _ _ _ _ _ _ _ _ (cX W (Z 0 rfl rfl rfl) dp bo dq (by decide+kernel) dt (O (Z 4 rfl rfl rfl) ab ir) ir (by decide) rfl ir) (@O _ _ _ _ _ _ _ _ (cX W (Z 1 rfl rfl rfl) dp bo dq (by decide+kernel) dt (O (Z 4 rfl rfl rfl) ab ir) ir (by decide) rfl ir) ab ir) ir) ir) (by decide) (af (af (af len0)))) ab ir) ir (by decide) rfl ir) gI ir) aj) aj) aj) cp) (ac (aX (cG 3 rfl rfl rfl)) aj))))⟩
noncomputable def mx(raw mW:V)(n:Int)(nt b:Nat)(cnt:List Int):V:=.obj [raw,.int n,.int nt,.tup [.tup (cnt.map .int),.int b],mW]
noncomputable def HX(cnt:List Int)(ts:Nat):Int:=(List.range (cnt.length-ts)).foldl (fun il (j:Nat)=>il+((ts+j:Nat):Int)/ts*(cnt[ts+j]?).getD 0) 0
noncomputable def iW(cnt:List Int)(nt b ts:Nat):Int:=b+ts*(HX cnt ts+nt)
theorem Mb{z:Int}(h0:0<=z)(h1:z<=1000000000000): -(2^64)<z/\z<2^64:=by omega
theorem Qe{cnt:List Int}{ts:Nat}(hc:cnt.length<=1000)(SH:∀z∈cnt,0<=z/\z<=1000):∀(l:List Nat) (a:Int),(∀j∈l,ts+j<cnt.length)->0<=a->0<=l.foldl (fun il (j:Nat)=>il+((ts+j:Nat):Int)/ts*(cnt[ts+j]?).getD 0) a/\l.foldl (fun il (j:Nat)=>il+((ts+j:Nat):Int)/ts*(cnt[ts+j]?).getD 0) a<=a+l.length*1000000
 |[],a,_,h=>⟨h,Int.le_of_eq (Int.add_zero a).symm⟩
 |j::l,a,hj,h=>by
  have Nj:=hj j dJ;obtain⟨z,hz⟩:=get_mem Nj;have T0:=SH z (mE hz);have h1:0<=((ts+j:Nat):Int)/ts:=Int.ediv_nonneg (mF _) (mF _);have h2:((ts+j:Nat):Int)/ts<=1000:=pn (Int.ediv_le_self (ts:Int) (mF _)) (qO.mpr (aA (eY Nj) hc));have h3:=Int.mul_nonneg h1 T0.1;have h4:((ts+j:Nat):Int)/ts*z<=1000*1000:=Int.mul_le_mul h2 T0.2 T0.1 (by decide);rw[eJ,hz,kP,bA];generalize((ts+j:Nat):Int)/ts*z=w at h3 h4;have:=Qe hc SH l (a+w) (fun i hi=>hj i (cw _ hi)) (by omega);exact⟨this.1,by omega⟩
theorem S4{ts n:Nat}(h:n<=1000)(NG:ts<=1000):sj [.int ts,.int n]=some ((List.range (n-ts)).map fun(j:Nat)=>V.int ((ts+j:Nat):Int)):=by
 have s6:∀k:Nat,k<=1000->eH (k:Int)=true:=fun k h=>(dI _ _).mpr ⟨eK (pn (by decide) (mF k)),eK (pn (qO.mpr h) (by decide))⟩
 have e:((n:Int)-ts).toNat=n-ts:=Int.toNat_sub ..;rw[D4,s6 ts NG,s6 n h,EU,e];rfl
theorem HY{P:Pk}{n:Nat}{C N}{mN}{W:cP P C N mN}{g1 g2}{ρ:al}{raw mW:V}{k:Int}{nt b ts:Nat}{cnt:List Int}(hc:cnt.length<=1000)(SH:∀z∈cnt,0<=z/\z<=1000)(hnt:nt<=1000)(NG:0<ts)(Wt:ts<=1000)(h0:ρ 0=some (mx raw mW k nt b cnt))(h1:ρ 1=some (.int ts)):
  Ends (jI (P:=P) (n:=n) (C:=C) (N:=N) (mN:=mN) W g1 g2).1 ρ (.int (iW cnt nt b ts)):=by
 have hl:(cnt.map V.int).length=cnt.length:=bi ..;have Gw:(cnt.map V.int).length<=most:=by rw[hl];exact aA hc (by decide)
 have hz:0<(ts:Int)/\(ts:Int)<1073741824:=⟨nH.mpr NG,Int.lt_of_le_of_lt (qO.mpr Wt) (by decide)⟩;unfold jI;dsimp only;refine ex2 ρ h0 h1 fun σ=>bm rfl (bm rfl (iE (fun ρ=>X3 0 1 2 3 4 (mx raw mW k nt b cnt) (.int ts) (.tup (cnt.map .int)) (.int b) (.int (HX cnt ts)) ρ) (iS (dy (aq rfl (aq (bJ rfl (LA _ Gw)) rfl)) (by rw[hl];exact S4 hc Wt)) (ot (fun(j:Nat)=>V.int ((ts+j:Nat):Int)) (List.range (cnt.length-ts)) (fun l ρ=>X3 0 1 2 3 4 (mx raw mW k nt b cnt) (.int ts) (.tup (cnt.map .int)) (.int b) (.int (l.foldl (fun il (j:Nat)=>il+((ts+j:Nat):Int)/ts*(cnt[ts+j]?).getD 0) 0)) ρ) (fun l j ρ hj de hR=>?_) ⟨rfl,rfl,rfl,rfl,rfl⟩)) fun am hR=>?_))
 ·have hjr:=gE.mp hj
  obtain⟨z,hzz⟩:=get_mem (l:=cnt) (k:=ts+j) (Nat.add_lt_of_lt_sub' hjr);have T0:=SH z (mE hzz);rw[na,eJ,p7,hzz];exact hR.ex fun σ=>⟨_,_,rfl,xJ (ad rfl (bu (bu rfl rfl (Gj _ _ hz)) (cM rfl rfl (Op (by rw[bL,hzz];rfl) Gw)) (uI _ _ (Mb T0.1 (pn T0.2 (by decide)))))) rfl,⟨rfl,rfl,rfl,rfl,rfl⟩⟩
 ·have hb:0<=HX cnt ts/\HX cnt ts<=0+((List.range (cnt.length-ts)).length:Int)*1000000:=Qe hc SH _ 0 (fun j hj=>by have:=gE.mp hj;omega) (Int.le_refl 0)
  rw[j0]at hb;exact hR.ex fun σ=>eS (ad rfl (bu rfl (ad rfl rfl) (uI _ _ (Mb (by omega) (by omega)))))
section
variable{P:Pk}{n:Nat}{C N:Addr}{mN:Str->Option Value}
noncomputable def S5:Stmt->Expr:=qd default (fun ø ø ø=>default) (fun ø=>default) (fun ø ø ø=>default) (fun ø ø ø=>default) (fun t ø ø=>t)
noncomputable def Wu:{f:al->Option Bool//AT P n cY (S5 (aJ (oQ pE) 2)) f}:=⟨_,fP (ae (Z 5 rfl rfl rfl)) (fun ø ø=>rfl)⟩
theorem Ks.out'{X out hid ao:List Addr}{s s':Shared}(k:Ks (X++out) hid ao s s'):Ks out hid ao s s':=⟨fun b o hb e=>k.keep b o (hb.imp id fun q=>bw _ q) e,k.new,k.sub,k.gens,k.os⟩
theorem Ks.none{out hid ao:List Addr}{s s':Shared}(k:Ks out hid ao s s')(l:cx s'.heap ao){a:Addr}(h:s'.heap.get? a=none):s.heap.get? a=none:=by
 cases e:s.heap.get? a with
 |none=>rfl
 |some o=>
  by_cases z:a∈hid
  ·obtain⟨o',q⟩:=l a (k.sub a z)
   rw[h]at q;cases q
  ·have:=k.keep a o (.inl z) e
   rw[h]at this;cases this
noncomputable def BQ(M:Model)(A:Around)(E:Value->Shared->Prop)(env:Env)(rest:List Stmt)(Q:Flow->Shared->Prop)(f:Flow)(s:Shared):Prop:=match f with
 | .next=>wpAny M A (execs rest env) Q E s
 |f=>Q f s
noncomputable def OO(M:Model)(A:Around)(E:Value->Shared->Prop)(env:Env)(a b:List Stmt)(Q:Flow->Shared->Prop)(z:Bool)(s:Shared):Prop:=if z=true then wpAny M A (execs a env) Q E s else wpAny M A (execs b env) Q E s
section
variable{M:Model}{A:Around}{E:Value->Shared->Prop}{env:Env}{s:Shared}{Q:Flow->Shared->Prop}
theorem Mc{b rest:List Stmt}{st:Stmt}(e:b=st::rest)(h:wpAny M A (exec st env) (BQ M A E env rest Q) E s):wpAny M A (execs b env) Q E s:=by
 rw[e];exact rO h
theorem Md{st:Stmt}{t:Expr}{b1 b2:List Stmt}{p:Pos}(e:st= .If t b1 b2 p)(h:wpAny M A (isTrue t env (eval t env)) (OO M A E env b1 b2 Q) E s):wpAny M A (exec st env) Q E s:=by
 rw[e];exact wpAny_If h
theorem OO.t{a b:List Stmt}{z:Bool}(e:z=true)(h:wpAny M A (execs a env) Q E s):OO M A E env a b Q z s:=Eq.mpr (aw e) h
theorem OO.f{a b:List Stmt}{z:Bool}(e:z=false)(h:wpAny M A (execs b env) Q E s):OO M A E env a b Q z s:=Eq.mpr (az (e▸nofun)) h
theorem uL{K:Cx}{st:Stmt}{f}(J:ul P n K st f){out hid:List Addr}{m}{B:Shared}{ρ aY:al}(rm:bW n A)(S:aB P K env out hid m B s ρ)(hf:f ρ=some (aY,.next))(k:∀ao m' s',aB P K env out ao m' B s' aY->Ks out hid ao s s'->Q .next s'):wpAny (model P.prog P.w) A (exec st env) Q E s:=
 au (J A env out hid m B s ρ aY .next E rm S hf) (fun cV s' q=>by
  obtain⟨ao,m',S',K',e⟩:=q;have e':cV= .next:=e
  rw[e'];exact k ao m' s' S' K') fun ø ø q=>q
end
theorem OP{g lS:List iT}{kd:Int}{a:Addr}{f:Int->List Int}{i:Nat}(hg:TZ g f)(AL:g.length<=i)(h:(∃xs,(kd,a,xs)∈g/\lS=g)\/((∀e∈g,e.1≠kd)/\lS=g++[(kd,a,[])])):∃xs,(kd,a,xs)∈lS/\TZ lS f/\lS.length<=i+1:=by
 rcases h with⟨xs,hm,e⟩|⟨Fx,e⟩
 ·exact e▸⟨xs,hm,hg,i9 AL⟩
 ·rw[e]
  refine⟨[],bw _ (.head _),⟨fun e he=>(cr.mp he).elim (hg.1 e) fun he=>?_,fun k hk=>hg.2 k fun e he=>hk e (bj _ he)⟩,by rw[List.length_append];exact jb AL⟩;rw[cN.mp he];exact hg.2 kd Fx
theorem Me{i:Nat}{kd j:Int}{ys:List Int}{st:Ar}(h:st.1 kd=ys++[j]):iI i (kd,false) st=(fun k=>if k=kd then ys else st.1 k,cI st.2.1 j,eP st.2.1 st.2.2 j (.int (i-j))):=by
 show(match(st.1 kd).getLast? with|none=>st|some j=>(fun k=>if k=kd then(st.1 k).dropLast else st.1 k,cI st.2.1 j,eP st.2.1 st.2.2 j (.int (i-j))))=_;rw[h,DM];refine congrArg (·,_) (funext fun k=>?_);by_cases q:k=kd
 ·rw[aw q,aw q,q,h,DN]
 ·rw[az q,az q]
theorem Gx{i:Nat}{kd:Int}{xs:List Int}{st:Ar}(h:st.1 kd=xs):iI i (kd,true) st=(fun k=>if k=kd then xs++[(i:Int)]else st.1 k,cI st.2.1 i,eP st.2.1 st.2.2 i (.int 0)):=by
 refine congrArg (·,_) (funext fun k=>?_);by_cases q:k=kd
 ·rw[aw q,aw q,q,h]
 ·rw[az q,az q]
theorem Wv(W:cP P C N mN){d:Addr}(lE:(d==sysModules)=false){r:List (Int×Bool)}(hr:r.length<=60){A:Around}{env:Env}{B s:Shared}(rm:bW n A){i:Nat}{kd:Int}{o:Bool}{out hid:List Addr}{m}{ρ:al}{g:List iT}{E:Value->Shared->Prop}{Q:Flow->Shared->Prop}(hri:r[i]?=some (kd,o))
  (S:aB P cY env (Wf d g++out) hid m B s ρ) (hB:∀a∈Wf d g,B.heap.get? a=none) (oV:∀a∈Wf d g,a∉out) (hI:iU P d g s.heap) (hJ:JS d r i ρ g) (h3:ρ 3=some (.int i)) (hQ:∀s',X8 P cY env out hid B s s' (Wf d) (iU P d) (JS d r) (i+1) g->Q .next s'):
  wpAny (model P.prog P.w) A (execs (oQ pE) env) Q E s:=by
 obtain⟨h0,h1,h2,hg,AL⟩:=hJ;have S6:i<60:=rW (eX.mp hri).1 hr;have hlen:=yv r i;have Ux:(cg r i).2.1.length<=most:=aA hlen.2 (aA (eY S6) (by decide));refine Mc rfl (uL (LR (P:=P) (n:=n)).2 rm S (OF h0 h3 hr hri) fun ck m₁ s₁ bc gh=>?_);have LX:iU P d g s₁.heap:=hI.keep fun a ha o e=>gh.keep a o (.inr (bj _ ha)) e
 refine Mc rfl (LW (ip:=1) (iq:=6) (ik:=4) (kd:=kd) W rm lE bc hB oV LX (gS AL (Nat.lt_trans S6 (by decide))) rfl rfl rfl h1 rfl rfl rfl rfl rfl rfl rfl (fun ø=>rfl) (fun ø=>rfl) (fun ø=>rfl) fun s₂ a gj m₂ lS cC CB Bv Ww qc eG=>?_);obtain⟨xs,hm,Mf,Mg⟩:=OP hg AL Ww;have xv:(cg r i).1 kd=xs:=Mf.1 _ hm;have hxl:xs.length<=64:=xv▸aA (hlen.1 kd) (aA (eY S6) (by decide));have Mh:∀a∈Wf d lS,a∉out:=fun b hb=>(eG b hb).elim (oV b) fun z q=>(bc.live b (bc.oh b (bw _ q))).elim fun o e=>nomatch z.symm.trans e
 have H0:cg r (i+1)=iI i (kd,o) (cg r i):=by
  show(match r[i]? with|some e=>iI i e (cg r i)|none=>cg r i)=_;rw[hri]
 have yg:=fun ys=>Mf.set (ys:=ys) hm (gC.mp Bv.nodup).2 Bv.keys
 have hls:∀ys,(fb lS a ys).length<=i+1:=fun ys=>by unfold fb;rw[bi];exact Mg
 have fin:∀cB By qk iN um,aB P cY env (Wf d um++out) qk By B cB iN->Wf d um=Wf d lS->iU P d um cB.heap->JS d r (i+1) iN um->Ks out gj qk s₂ cB->Q .next cB:=
  fun cB By qk iN um kX hw yy Gy Bx=>hQ cB ⟨qk,By,iN,um,kX,fun a ha=>CB a (hw▸ha),yy,Gy,(gh.out'.trans qc).trans Bx,fun a ha=>(eG a (hw▸ha)).imp id fun z=>gh.none bc.live z⟩
 refine Mc rfl (Md rfl (au ((Wu (P:=P) (n:=n)).2 A env (Wf d lS++out) gj m₂ B s₂ _ o E rm cC rfl) (fun z cB eh=>?_) fun ø ø q=>q));obtain⟨Ba,ez⟩:=eh;have kX:=cC.after Ba;have yy:iU P d lS cB.heap:=Bv.keep fun b hb o e=>Ba.keep b o e
 have Bx:Ks out gj gj s₂ cB:=.gV Ba
 induction o with
 |false=>
  refine OO.f ez (Mc rfl (Md rfl (HT (iq:=6) W rm kX yy hm hxl rfl rfl rfl rfl fun gQ S7=>?_)));have jP:=kX.after S7;have yt:iU P d lS gQ.heap:=yy.keep fun b hb o e=>S7.keep b o e
  have mS:Ks out gj gj s₂ gQ:=Bx.trans (.gV S7);by_cases bN:xs=[]
  ·refine OO.f (mG (not_not_intro bN)) (mZ (mZ (mZ (fin gQ m₂ gj _ _ jP rfl yt ?_ mS))))
   have e5:cg r (i+1)=cg r i:=by
    rw[H0];show(match((cg r i).1 kd).getLast? with|none=>cg r i|some j=>_)=_;rw[xv,bN];rfl
   exact⟨h0,h1,e5▸h2,e5▸Mf,Mg⟩
  ·have ey:xs=xs.dropLast++[xs.getLast bN]:=(rV bN).symm
   have CH:=H0.trans (Me (xv.trans ey));refine OO.t (eK bN) (Mc rfl (LY (iq:=6) (ix:=7) (i:=xs.getLast bN) (xs:=xs.dropLast) W rm jP CB Mh yt (ey▸hm) (nK▸aA (r4 _ _) hxl) rfl rfl rfl rfl rfl rfl rfl (fun ø=>rfl) (fun ø=>rfl) fun nR Ca ww LO sY=>?_));refine Mc rfl (uL (LU (P:=P) (n:=n)).2 rm ww (OH (i:=i) (st:=xs.getLast bN) h2 h3 rfl Ux) fun S8 ae0 A9 QR Wx=>?_);refine mZ (mZ (mZ (fin A9 ae0 S8 _ _ QR hZ (LO.keep fun a ha o e=>Wx.keep a o (.inr (bj _ ha)) e) ?_ ((mS.trans sY).trans Wx.out'))));exact⟨h0,h1,by rw[CH];rfl,by rw[CH];exact yg _,hls _⟩
 |true=>
  have CH:=H0.trans (Gx xv);refine OO.t ez (Mc rfl (CF (iq:=6) (ix:=3) (i:=i) W rm kX CB Mh yy hm hxl rfl rfl rfl h3 rfl rfl rfl rfl rfl rfl (fun ø=>rfl) (fun ø=>rfl) (fun ø=>rfl) fun gQ jP yt mS=>?_));refine Mc rfl (uL (LT (P:=P) (n:=n)).2 rm jP (OG (i:=i) h2 h3 Ux) fun l7 Ca nR ww sY=>?_);refine mZ (mZ (fin nR Ca l7 _ _ ww hZ (yt.keep fun a ha o e=>sY.keep a o (.inr (bj _ ha)) e) ?_ ((Bx.trans mS).trans sY.out')));exact⟨h0,h1,by rw[CH];rfl,by rw[CH];exact yg _,hls _⟩
theorem S9{n i j:Nat}(h:(List.range n)[i]?=some j):j=i:=by
 obtain⟨h1,h2⟩:=eX.mp h;exact h2.symm.trans (DO h1)
theorem spi{r:List (Int×Bool)}{i:Nat}{x:V}(h:((List.range r.length).map fun(i:Nat)=>V.int i)[i]?=some x):∃e,r[i]?=some e:=by
 have:=(eX.mp h).1;rw[bi,j0]at this;exact⟨_,dX this⟩
theorem OQ{ρ:al}:(LQ (P:=P) (n:=n)).1 ρ=some (upd (upd ρ 1 (.dict [] [])) 2 (.dict [] []),.next):=by
 unfold LQ;simp[aQ];rfl
theorem Mi{q:Int}{ks:List Int}:∀{vs:List V},vs.length=ks.length->q∈ks->∃v∈vs,bR ks vs q=some v:=by
 induction ks with
 |nil=>exact fun ø h=>nomatch h
 |cons k ks ih=>
  intro vs hl h
  induction vs with
  |nil=>exact nomatch hl
  |cons v vs _=>
   rw[gH];by_cases e:k=q
   ·exact⟨v,.head _,aw e⟩
   ·obtain⟨w,h1,h2⟩:=ih (rR hl) ((bp.mp h).resolve_left fun z=>e z.symm)
    exact⟨w,.tail _ h1,(az e).trans h2⟩
noncomputable def isInt(v:V):Prop:=∃i,v= .int i
theorem CI{ks:List Int}{vs:List V}{q z:Int}(hl:vs.length=ks.length)(hv:∀v∈vs,isInt v):(eP ks vs q (.int z)).length=(cI ks q).length/\∀v∈eP ks vs q (.int z),isInt v:=by
 unfold eP cI;split
 ·refine⟨by simp[hl],fun v h=>?_⟩
  rw[List.mem_iff_getElem]at h;obtain⟨j,hj,rfl⟩:=h;rw[List.getElem_zipWith];split
  ·exact⟨_,rfl⟩
  ·exact hv _ (vb _)
 ·refine⟨by simp[hl],fun v h=>?_⟩
  rcases cr.mp h with h|h
  ·exact hv v h
  ·simp at h;rw[h];exact⟨_,rfl⟩
theorem Mj(r:List (Int×Bool))(i:Nat):(cg r i).2.2.length=(cg r i).2.1.length/\∀v∈(cg r i).2.2,isInt v:=by
 induction i with
 |zero=>exact⟨rfl,fun v h=>nomatch h⟩
 |succ i ih=>
  rw[w3];split
  ·unfold iI
   split
   ·exact CI ih.1 ih.2
   ·split
    ·exact ih
    ·exact CI ih.1 ih.2
  ·exact ih
noncomputable def qB(r:List (Int×Bool)):List V:=(j5 (cg r r.length).2.1).map fun k=>(bR (cg r r.length).2.1 (cg r r.length).2.2 k).getD .none
theorem OR{g1:P.glob MZ=some (.builtin "sorted")}{ρ:al}{r:List (Int×Bool)}(h2:ρ 2=some (.dict (cg r r.length).2.1 (cg r r.length).2.2))(hr:r.length<=60):(LV (P:=P) (n:=n) g1).1 ρ=some (ρ,.ret (.list (qB r))):=by
 have hl:=(yv r r.length).2;have hk:(cg r r.length).2.1.length<64:=by omega
 have hm:(cg r r.length).2.1.length<most:=Nat.lt_trans hk (by decide);have ok:=Mj r r.length;have hrl:(j5 (cg r r.length).2.1).length=(cg r r.length).2.1.length:=(u5 _ _).length_eq;unfold LV;refine congrArg (Option.map fun y=>(ρ,Fl.ret y)) (db (fun ρ=>ρ 1=some (.dict (cg r r.length).2.1 (cg r r.length).2.2)) (j5 (cg r r.length).2.1) V.int _ ?_ (hrl▸hm) (fun k hk ρ hI=>?_) (by exact h2))
 ·show((ρ 2).bind Rk).bind elems=_
  rw[h2];simp[Rm,hk,elems]
 ·obtain⟨v,hv,e⟩:=Mi ok.1 ((u5 _ _).mem_iff.mp hk)
  refine⟨_,rfl,hI,?_⟩;obtain⟨i,ei⟩:=ok.2 v hv;simp[f7,upd,hI,uC,zi,FD,FF,e,ei,V.I2]
noncomputable def E0(x:V):Option (Int×Bool):=x.QA.bind fun l=>(V.Nn l).bind fun p=>p.1.int?.bind fun a=>p.2.bool?.map fun b=>(a,b)
theorem H1(a:Int)(b:Bool):E0 (.tup [.int a,.bool b])=some (a,b):=rfl
noncomputable def oD:List V->Option (List (Int×Bool))
 |[]=>some []
 |x::xs=>(E0 x).bind fun e=>(oD xs).map (e:: ·)
theorem H6:oD []=some []:=rfl
theorem H7(x:V)(xs:List V):oD (x::xs)=(E0 x).bind fun e=>(oD xs).map (e:: ·):=rfl
theorem Ia{l:List V}:∀{r},oD l=some r->l=r.map fun e=>.tup [.int e.1,.bool e.2]:=by
 induction l with
 |nil=>exact fun h=>Option.some.inj h▸rfl
 |cons x xs ih=>
  refine fun h=>ah h fun e h1 h2=>bV h2 fun r' h3 er=>?_
  refine ah h1 fun l hl h1=>ah h1 fun p hp h1=>ah h1 fun a ha h1=>bV h1 fun b hb h1=>?_
  rw[V.AV hl,V.A1 hp,V.kR ha,V.xX hb,ih h3,<-er,<-h1];rfl
noncomputable def Mk(xs:List V):Option V:=(V.one? xs).bind fun x=>x.gF.bind fun l=>(oD l).bind fun r=>if r.length<=60 then some (.list (qB r))else none
noncomputable def Ib:Stmt->Expr:=qd default (fun ø ø ø=>default) (fun ø=>default) (fun ø ø ø=>default) (fun t ø ø=>t) (fun ø ø ø=>default)
theorem E1(W:cP P C N mN)(eQ:P.glob MZ=some (.builtin "sorted"))(bz:P.glob AR=some (.type "range"))(cb:P.glob vj=some (.builtin "len")):
  Og P n iV (dz (aJ pq.main.body 67)) (fun ρ=>(ρ 0).bind fun x=>Mk [x]):=fun A env out hid m B s ρ x E rm S hf=>by
 refine ah hf fun y h0 hq=>ah hq fun y1 e1 hq=>ah hq fun l hl hq=>ah hq fun r h1 hq=>eN hq fun hr ex=>?_
 rw[(vh (V.gG e1)).1,V.fQ hl,Ia h1]at h0;have e:dz (aJ pq.main.body 67)=[aJ (dz (aJ pq.main.body 67)) 0,.For (Ib pE) (Gr pE) (oQ pE) [] pE.pos,aJ (dz (aJ pq.main.body 67)) 2]:=rfl;refine Mc e (uL (LQ (P:=P) (n:=n)).2 rm S OQ fun ck m₁ s₁ bc gh=>?_);obtain⟨d,vs,cC,hD,zh,lE,hBd,hdo⟩:=bc.Wn (K':=cY) W 1 (x:=W5) (k:=.local) rfl rfl rfl (ks:=[]) (l:=[]) rfl;rw[vd zh]at hD;refine Mc rfl (HS (Wf:=Wf d) (Inv:=iU P d) (J:=JS d r) (J':=fun i ρ g=>JS d r i ρ g/\ρ 3=some (.int i)) (g:=[]) (xs:=(List.range r.length).map fun(i:Nat)=>V.int i) (fun g h h' x k=>x.keep k) rm cC
  (fun a ha=>cN.mp ha▸hBd) (fun a ha=>cN.mp ha▸hdo) ⟨by simp,hD,fun e he=>(nomatch he),dU _⟩ ⟨h0,rfl,rfl,⟨fun e he=>(nomatch he),fun k ø=>rfl⟩,cF _⟩
  ((ET (P:=P) (n:=n) bz cb).2 A env _ ck m₁ B s₁ _ _ E rm cC (LZ h0 hr)) (ap (lc:=false) 3 rfl (by decide) (by decide)) (fun i x ρ g hx hJ=>?_) (fun i x out hid m s ρ g E Q hx S hB oV hI hJ hQ=>(spi hx).elim fun e he=>Wv W lE hr rm he S hB oV hI hJ.1 hJ.2 hQ) (fun ø=>rfl) fun cB qk By iN um kX af8 yy Gy=>?_)
 ·obtain⟨h0,h1,h2,hg,hl⟩:=hJ
  refine⟨_,rfl,⟨h0,h1,h2,hg,hl⟩,?_⟩;rw[bL]at hx;exact bV hx fun j hj ej=>congrArg some (ej.symm.trans (congrArg (fun(n:Nat)=>V.int n) (S9 hj)))
 ·rw[bi,j0]at Gy
  refine Mc rfl (au ((LV (P:=P) (n:=n) eQ).2 A env _ qk By B cB iN _ _ E rm kX (OR Gy.2.2.1 hr)) (fun cV gQ q=>?_) fun ø ø q=>q);obtain⟨n6,Hj,jP,mS,v,ef,hv⟩:=q;rw[ef];exact⟨jP.kp,v,rfl,ex▸hv.less fun a h=>bw _ h⟩
end
theorem kf:∀a b:List Int,PyData.eqvAll (a.map .int) (b.map .int)=decide (a=b)
 |[],[]=>rfl
 |[],_::_=>rfl
 |_::_,[]=>rfl
 |x::a,y::b=>by
  have e:(x==y)=decide (x=y):=rfl;simp[PyData.eqvAll,PyData.eqv,kf a b,e]
theorem depthAll_ints:∀a:List Int,PyData.depthAll (a.map .int)<=1
 |[]=>by simp[PyData.depthAll]
 |x::a=>by
  have:=depthAll_ints a;simp[PyData.depthAll,PyData.depth];omega
theorem Ta(a b:List Int):G8 (.tup (a.map .int)) (.tup (b.map .int))=some (decide (a=b)):=by
 have h:=depthAll_ints a;rw[vl _ _ rfl];simp only[AX,V.tD,V.tE,V.tF,V.tG,V.tH,ry,m8,m4,PyData.depth,PyData.eqv,kf];rw[aw (by omega)]
theorem Tb(a b:List Int):Dg (.tup (a.map .int)) (.tup (b.map .int))=some (!decide (a=b)):=by
 unfold Dg;rw[Ta];rfl
theorem Ml(a b:List Int)(x y:Int):G8 (.tup [.tup (a.map .int),.int x]) (.tup [.tup (b.map .int),.int y])=some (decide (a=b)&&decide (x=y)):=by
 have h:=depthAll_ints a;rw[vl _ _ rfl];simp only[AX,V.tD,V.tE,V.tF,V.tG,V.tH,V.sb,V.sd,ry,m8,m4,PyData.depth,PyData.depthAll,PyData.eqv,kf,PyData.eqvAll];rw[aw (by omega)];simp[BEq.beq]
noncomputable def ly(l:List (List Int)):V:=.list (l.map fun e=>.tup (e.map .int))
theorem CJ:∀l:List (List Int),V.Fu (l.map fun e=>.tup (e.map .int))=some (l.map fun e=>.tuple (e.map .int))
 |[]=>rfl
 |x::l=>by simp[V.sb,V.sd,V.tD,V.tE,V.tF,V.tG,V.tH,ry,CJ l]
theorem ua:∀l:List (List Int),PyData.eqvAll (l.map fun e=>.tuple (e.map .int)) (l.map fun e=>.tuple (e.map .int))=true
 |[]=>rfl
 |x::l=>by simp[PyData.eqvAll,PyData.eqv,kf,ua l]
theorem pF:∀a:List (List Int),PyData.depthAll (a.map fun e=>.tuple (e.map .int))<=5
 |[]=>by simp[PyData.depthAll]
 |x::a=>by
  have:=pF a;have:=depthAll_ints x;simp[PyData.depthAll,PyData.depth];omega
theorem Mm(l:List (List Int)):Dg (ly l) (ly l)=some false:=by
 have h:=pF l;unfold Dg ly;rw[vl _ _ rfl];simp only[AX,V.tD,V.tE,V.tF,V.tG,V.tH,CJ,m8,m4,PyData.depth,PyData.eqv,ua];rw[aw (by omega)];rfl
theorem Qf(a b:Int):Ee [.int a,.int b]=some (.int (max a b)):=by
 rw[Q5];exact congrArg (fun z=>some (V.int z)) (by split<;>omega)
theorem CK{P:Pk}{n:Nat}{C N}{mN}{W:cP P C N mN}{g1 g2}{ρ:al}{raw mW:V}{k:Int}{nt b:Nat}{cnt:List Int}(hc:cnt.length<=1000)(h0:ρ 0=some (mx raw mW k nt b cnt)):
  Ends (eC (P:=P) (n:=n) (C:=C) (N:=N) (mN:=mN) W g1 g2).1 ρ (.int (max ((cnt.length:Int)-1) b)):=by
 have hl:(cnt.map V.int).length=cnt.length:=bi ..;have Gw:(cnt.map V.int).length<=most:=by rw[hl];exact aA hc (by decide)
 unfold eC;dsimp only;exact ex1 ρ h0 fun σ=>bm rfl (eS (dy (aq (bu (bJ rfl (LA _ Gw)) rfl rfl) (aq rfl rfl)) ((Qf ..).trans (by rw[hl]))))
theorem Ic{P:Pk}{n:Nat}{C N}{mN}{W:cP P C N mN}{ρ:al}{raw mW:V}{k:Int}{nt b:Nat}{cnt:List Int}{o8 pb:V}{k':Int}{E2 b':Nat}{iX:List Int}(h0:ρ 0=some (mx raw mW k nt b cnt))(h1:ρ 1=some (mx o8 pb k' E2 b' iX)):
  Ends (Ay (P:=P) (n:=n) (C:=C) (N:=N) (mN:=mN) W).1 ρ (.bool (decide (cnt=iX)&&decide (b=b'))):=by
 unfold Ay;dsimp only;have e:=Ml cnt iX b b';rw[show decide ((b:Int)=b')=decide (b=b')from decide_eq_decide.mpr Int.ofNat_inj]at e;exact eS (bh (ba (dy h0 rfl) (dy h1 rfl) e) rfl)
noncomputable def eU(a b:Nat->Int)(l:List (List Int))(j:Nat):List (List Int):=if a (j+1)=b (j+1)then l else l++[[((j+1:Nat):Int),a (j+1),b (j+1)]]
noncomputable def im(a b:Nat->Int)(n:Nat):List (List Int):=(List.range n).foldl (eU a b) []
theorem E3(a b:Nat->Int):∀(r:List Nat) (l:List (List Int)),(r.foldl (eU a b) l).length<=l.length+r.length
 |[],l=>cF _
 |x::r,l=>by
  have h:(eU a b l x).length<=l.length+1:=by
   unfold eU;split
   ·exact i8 _
   ·exact iM List.length_append
  refine aA (E3 a b r (eU a b l x)) ?_;rw[bA];omega
theorem Qg{k:Nat}(h:k<=1000):sj [.int 1,.int ((k:Int)+1)]=some ((List.range k).map fun(j:Nat)=>V.int ((j+1:Nat):Int)):=by
 have h6:eH ((k:Int)+1)=true:=(dI _ _).mpr ⟨eK (by omega),eK (by omega)⟩;have hk:((k:Int)+1-1).toNat=k:=by omega
 rw[D4,h6,EU,hk];exact congrArg some (pr fun j ø=>congrArg V.int (by omega))
theorem CL{P:Pk}{n:Nat}{C N}{mN}{W:cP P C N mN}{g1 g2}{a1 F1 m1 o1 l1 c1}{a2 F2 m2 o2 l2 c2}{ρ:al}{v w:V}{lv lw:Int}{x y:Nat->Int}{k:Nat}(hk:k<=1000)(hv:∃l,v= .obj l/\l.length=5)(hw:∃l,w= .obj l/\l.length=5)(Uy:max lv lw+1=k)
  (FZ:F2 [v]=some (.int lv)) (hL2:F2 [w]=some (.int lw)) (hI:∀ts:Nat,0<ts->ts<=k->F1 [v,.int ts]=some (.int (x ts))/\F1 [w,.int ts]=some (.int (y ts)))
  (h0:ρ 0=some v) (h1:ρ 1=some w):
  Ends (f4 (P:=P) (n:=n) (C:=C) (N:=N) (mN:=mN) W g1 g2 (cc:=a1) (fM:=F1) m1 o1 l1 c1 (cK:=a2) (gv:=F2) m2 o2 l2 c2).1 ρ (ly (im x y k)):=by
 obtain⟨AM,rfl,Ye⟩:=hv;obtain⟨lw',rfl,Yg⟩:=hw;unfold f4;dsimp only;refine ex2 ρ h0 h1 fun σ=>gm (mD (ad (dy (aq (e7 rfl Ye rfl FZ) (aq (e7 rfl Yg rfl hL2) rfl)) (Qf _ _)) rfl) (congrArg (fun z=>some (V.int z)) Uy)) (gm rfl (iE (fun ρ=>Oo 0 1 2 3 (.obj AM) (.obj lw') (.int k) (ly (im x y k)) ρ) (iS (dy (aq rfl (aq (ad rfl rfl) rfl)) (Qg hk)) (ot (fun(j:Nat)=>V.int ((j+1:Nat):Int)) (List.range k) (fun l ρ=>Oo 0 1 2 3 (.obj AM) (.obj lw') (.int k) (ly (l.foldl (eU x y) [])) ρ) (fun l j ρ hj de hR=>?_) ⟨rfl,rfl,rfl,rfl⟩)) fun am hR=>eS hR.4))
 obtain⟨e1,e2⟩:=hI (j+1) (nC j) (gE.mp hj);rw[j0]at de;have oV:(l.foldl (eU x y) []).length<most:=gS (E3 _ _ l []) (by rw[eZ,gq];exact rW de (aA hk (by decide)));rw[na,eJ,p7];generalize l.foldl (eU x y) []=st at*;unfold eU;by_cases q:x (j+1)=y (j+1)
 ·rw[aw q]
  exact hR.ex fun σ=>⟨_,_,rfl,bO (j8 (ba (e7 rfl Ye rfl e1) (e7 rfl Yg rfl e2) (P9 q)) rfl) rfl,rfl,rfl,rfl,rfl⟩
 ·rw[az q]
  exact hR.ex fun σ=>⟨_,_,rfl,bO (td (ba (e7 rfl Ye rfl e1) (e7 rfl Yg rfl e2) (neT q)) (Sz rfl (aq (bh (aq rfl (aq (e7 rfl Ye rfl e1) (aq (e7 rfl Yg rfl e2) rfl))) rfl) rfl) (ma _ _ (by rw[bi];exact oV)) rfl)) rfl,rfl,rfl,rfl,congrArg (fun z=>some (V.list z)) (iD (fun e=>V.tup (e.map .int)) st [((j+1:Nat):Int),x (j+1),y (j+1)])⟩
noncomputable def wsum(f:Nat->Int):List Int->Nat->Int
 |[],_=>0
 |c::l,i=>f i*c+wsum f l (i+1)
theorem iY(f:Nat->Int)(i:Nat):wsum f [] i=0:=rfl
theorem iZ(f:Nat->Int)(c:Int)(l:List Int)(i:Nat):wsum f (c::l) i=f i*c+wsum f l (i+1):=rfl
theorem rD(f:Nat->Int):∀(a b:List Int) (i:Nat),wsum f (a++b) i=wsum f a i+wsum f b (i+a.length)
 |[],b,i=>by simp[iY,iZ]
 |x::a,b,i=>by
  simp only[List.cons_append,iY,iZ,rD f a b,bA];have:i+1+a.length=i+(a.length+1):=by omega
  rw[this];omega
theorem yz(f:Nat->Int):∀(n i:Nat),wsum f (List.replicate n 0) i=0
 |0,i=>rfl
 |n+1,i=>by simp[yH,iY,iZ,yz f n]
theorem CN(f:Nat->Int):∀(l:List Int) (b i:Nat) (x:Int),l[b]?=some x->wsum f (l.set b (x+1)) i=wsum f l i+f (i+b)
 |[],b,i,x,h=>by simp at h
 |y::l,0,i,x,h=>by
  simp at h;subst h;simp only[List.set_cons_zero,iY,iZ,Int.mul_add,Int.mul_one,m6];omega
 |y::l,b+1,i,x,h=>by
  simp only[DP]at h;simp only[List.set_cons_succ,iY,iZ,CN f l b (i+1) x h];have:i+1+b=i+(b+1):=by omega
  rw[this];omega
theorem Id(f:Nat->Int)(cnt:List Int)(b i:Nat):wsum f (grow cnt b) i=wsum f cnt i:=by
 unfold grow;split
 ·rw[rD,yz];omega
 ·rfl
theorem Ie(f:Nat->Int)(cnt:List Int)(b:Nat):wsum f (bump cnt b) 0=wsum f cnt 0+f b:=by
 unfold bump;have h:=(xa cnt b).1;have e:(grow cnt b)[b]?=some (grow cnt b)[b]:=dX h;rw[e,kP,CN f _ b 0 _ e,Id,gq]
noncomputable def ux:List Int->Int
 |[]=>0
 |x::l=>x+ux l
theorem oR:ux []=0:=rfl
theorem my(x:Int)(l:List Int):ux (x::l)=x+ux l:=rfl
theorem xc(f:Nat->Int):∀(l:List Nat) (cnt:List Int),wsum f (l.foldl bump cnt) 0=wsum f cnt 0+ux (l.map f)
 |[],cnt=>by simp[oR,my]
 |x::l,cnt=>by
  rw[eJ,xc f l,Ie];simp only[bn,oR,my];omega
theorem yA(f:Nat->Int):∀(l:List Int) (i:Nat),(∀j,i<=j->j<i+l.length->f j=0)->wsum f l i=0
 |[],i,h=>rfl
 |x::l,i,h=>by
  rw[wsum,h i (cF _) (by simp),yA f l (i+1) fun j h1 h2=>h j (by omega) (by simp;omega)];simp
theorem Ig(f:Nat->Int)(k:Nat):∀(n:Nat) (l:List Int) (a:Int),l.length=n->(List.range n).foldl (fun a j=>a+f (k+j)*(l[j]?).getD 0) a=a+wsum f l k:=by
 intro n
 induction n with
 |zero=>
  intro l a h;obtain rfl:=vd h;simp[iY,iZ]
 |succ n ih=>
  intro l a h;have bN:l≠[]:=fun z=>by subst z;simp at h
  have e:=rV bN;have hl:l.dropLast.length=n:=by rw[nK,h];rfl
  have Tc:(List.range n).foldl (fun a j=>a+f (k+j)*(l[j]?).getD 0) a=(List.range n).foldl (fun a j=>a+f (k+j)*(l.dropLast[j]?).getD 0) a:=by
   have go:∀(r:List Nat) (a:Int),(∀j∈r,j<n)->r.foldl (fun a j=>a+f (k+j)*(l[j]?).getD 0) a=r.foldl (fun a j=>a+f (k+j)*(l.dropLast[j]?).getD 0) a:=by
    intro r
    induction r with
    |nil=>intros;rfl
    |cons x r ih2=>
     intro a hr;have hx:x<n:=hr x dJ;have:l.dropLast[x]?=l[x]?:=by rw[List.getElem?_dropLast];rw[aw (by omega)]
     simp only[eJ,this];exact ih2 _ fun j hj=>hr j (cw _ hj)
   exact go _ _ fun j hj=>gE.mp hj
  rw[y3,na,Tc,ih _ _ hl];have Wy:l[n]?=some (l.getLast bN):=by
   rw[List.getLast_eq_getElem,dX (by omega)]
   congr 2
   omega
  simp only[eJ,p7,Wy,kP]
  conv=>rhs;rw[<-e,rD]
  simp only[iY,iZ,hl];omega
theorem Ii(cnt:List Int)(ts:Nat)(h:0<ts):HX cnt ts=wsum (fun i=>(i:Int)/ts) cnt 0:=by
 have e:cnt=cnt.take ts++cnt.drop ts:=(List.take_append_drop ..).symm;unfold HX;have h1:=Ig (fun i=>(i:Int)/ts) ts (cnt.length-ts) (cnt.drop ts) 0 (by simp);simp only[Dz]at h1;rw[h1];have Wz:wsum (fun i=>(i:Int)/ts) (cnt.take ts) 0=0:=by
  refine yA _ _ _ fun j ø hj=>?_
  have:(j:Int)<ts:=by
   rw[nG]at hj;omega
  exact Int.ediv_eq_zero_of_lt (by omega) this
 conv=>rhs;rw[e,rD,Wz]
 by_cases q:ts<=cnt.length
 ·have:(cnt.take ts).length=ts:=by rw[nG];exact y5 q
  rw[this,gq]
 ·have:cnt.drop ts=[]:=uZ (by omega)
  rw[this];simp[iY,iZ]
noncomputable def cj(rs:List Nat)(ts:Nat):Int:=ux (rs.dropLast.map fun(r:Nat)=>(r:Int)-(r:Int) % ts+ts)+((rs.getLast?).getD 0:Nat)
theorem xd(ts:Int):∀l:List Nat,ux (l.map fun(r:Nat)=>(r:Int)-(r:Int) % ts+ts)=ts*(ux (l.map fun(r:Nat)=>(r:Int)/ts)+l.length)
 |[]=>by simp[oR,my]
 |x::l=>by
  simp only[bn,oR,my,xd ts l,bA];have:(x:Int)-(x:Int) % ts=ts*((x:Int)/ts):=by
   have:=Int.mul_ediv_add_emod (x:Int) ts;omega
  rw[this];simp only[Int.natCast_add,Int.mul_add];omega
theorem oS(rs:List Nat)(ts:Nat)(h:0<ts):iW (rs.dropLast.foldl bump []) (rs.length-1) ((rs.getLast?).getD 0) ts=cj rs ts:=by
 unfold iW cj;rw[Ii _ _ h,xc,xd,nK];simp only[iY,iZ,Int.zero_add];omega
noncomputable abbrev fO(rs:List Nat):List Nat:=nY [9] (rs.map fun r=>List.replicate r 32)
theorem CO(l:List Nat)(cnt:List Int)(b n nt:Nat):∀r:Nat,bg mw (List.replicate r 32++l) (cnt,b,n,nt)=bg mw l (cnt,b+r,n+r,nt):=by
 intro r
 induction r generalizing b n with
 |zero=>rfl
 |succ r ih=>
  rw[yH,List.cons_append];simp only[cQ,bZ,mw,eI];rw[ih];have e1:b+1+r=b+(r+1):=by omega
  have e2:n+1+r=n+(r+1):=by omega
  rw[e1,e2]
theorem Td(cnt:List Int)(b n nt:Nat){c:Nat}{l:List Nat}(h1:c≠32)(h2:c≠9):bg mw (c::l) (cnt,b,n,nt)= .inr (cnt,b,n,nt):=by simp[cQ,bZ,mw,h1,h2]
theorem Gz{c:Nat}{l:List Nat}(h1:c≠32)(h2:c≠9):∀(rs:List Nat),rs≠[]->∀(cnt:List Int) (n nt:Nat),∃n',bg mw (fO rs++c::l) (cnt,0,n,nt)= .inr (rs.dropLast.foldl bump cnt,(rs.getLast?).getD 0,n',nt+(rs.length-1))
 |[],h,_,_,_=>absurd rfl h
 |[r],_,cnt,n,nt=>by
  refine⟨n+r,?_⟩;simp only[fO,bn,nz,jo,jp,jq];rw[CO,Td _ _ _ _ h1 h2];simp
 |r::r'::rs,_,cnt,n,nt=>by
  obtain⟨n',ih⟩:=Gz h1 h2 (r'::rs) (by simp) (bump cnt r) (n+r+1) (nt+1);refine⟨n',?_⟩;have e:fO (r::r'::rs)++c::l=List.replicate r 32++(9::(fO (r'::rs)++c::l)):=by simp[fO,jo,jp,jq]
  rw[e,CO];simp only[cQ,bZ,mw];rw[az (by decide)];simp only[eI,gq];rw[ih];simp;omega
theorem Ij{c:Nat}{l:List Nat}(h1:c≠32)(h2:c≠9){rs:List Nat}(h:rs≠[]):∃n',qA (fO rs++c::l)=(rs.dropLast.foldl bump [],(rs.getLast?).getD 0,n',rs.length-1):=by
 obtain⟨n',e⟩:=Gz h1 h2 (c:=c) (l:=l) rs h [] 0 0;refine⟨n',?_⟩;unfold qA;rw[e];simp
theorem Mn(cnt:List Int)(b:Nat):(bump cnt b).length=max cnt.length (b+1):=by
 unfold bump grow;rw[List.length_set];split
 ·simp;omega
 ·omega
set_option tactic.hygienic true in
theorem OS(cnt:List Int)(b j:Nat):((bump cnt b)[j]?).getD 0=(cnt[j]?).getD 0+if j=b then 1 else 0:=by
 have hg:∀j:Nat,((grow cnt b)[j]?).getD 0=(cnt[j]?).getD 0:=by
  intro j;unfold grow;split
  ·rw[List.getElem?_append]
   split
   ·rfl
   ·rename_i h1 h2
    rw[List.getElem?_replicate];have:cnt[j]?=none:=iL (by omega);rw[this];split<;>rfl
  ·rfl
 unfold bump;rw[List.getElem?_set,hg];by_cases q:b=j
 ·subst q
  rw[aw rfl,aw (xa cnt b).1,aw rfl];rfl
 ·rw[az q,az (fun z=>q z.symm),hg]
  omega
noncomputable def Mo:List Nat->Nat
 |[]=>0
 |r::l=>max (r+1) (Mo l)
theorem E4:Mo []=0:=rfl
theorem Az(r:Nat)(l:List Nat):Mo (r::l)=max (r+1) (Mo l):=rfl
theorem i7:∀(l:List Nat) (cnt:List Int),(l.foldl bump cnt).length=max cnt.length (Mo l)
 |[],cnt=>by simp[E4,Az]
 |x::l,cnt=>by
  rw[eJ,i7 l,Mn];exact Nat.max_assoc ..
theorem lz:∀(l:List Nat) (cnt:List Int) (j:Nat),((l.foldl bump cnt)[j]?).getD 0=(cnt[j]?).getD 0+(l.count j:Int)
 |[],cnt,j=>by simp
 |x::l,cnt,j=>by
  rw[eJ,lz l,OS,List.count_cons];by_cases q:j=x
  ·subst q;simp;omega
  ·have:(x==j)=false:=by simpa using fun z=>q z.symm
   simp[q,this]
theorem CP{l l':List Nat}(h:l.Perm l'):Mo l=Mo l':=by
 induction h with
 |nil=>rfl
 |cons x _ ih=>simp[E4,Az,ih]
 |swap x y l=>exact Nat.max_left_comm ..
 |trans _ _ h1 h2=>exact h1.trans h2
theorem E5{l l':List Nat}:l.foldl bump []=l'.foldl bump []<->l.Perm l':=by
 constructor
 ·intro h
  rw[List.perm_iff_count];intro j;have h1:=lz l [] j;have h2:=lz l' [] j;rw[h]at h1;rw[h1]at h2;simp at h2;omega
 ·intro h
  refine ve fun j=>?_
  have hl:(l.foldl bump []).length=(l'.foldl bump []).length:=by rw[i7,i7,CP h]
  have h1:=lz l [] j;have h2:=lz l' [] j;rw[h.count_eq]at h1;by_cases q:j<(l.foldl bump []).length
  ·rw[dX q]at h1 ⊢
   rw[dX (hl▸q)]at h2 ⊢;simp only[kP]at h1 h2;rw[h1,h2]
  ·rw[iL (by omega),iL (by omega)]
theorem Ik(l:List Nat):∀z∈l.foldl bump [],0<=z/\z<=l.length:=by
 intro z hz;obtain⟨j,hj⟩:=DC.mp hz;have h:=lz l [] j;rw[hj]at h;simp at h;have:=List.count_le_length (a:=j) (l:=l);omega
theorem Te{l:List Nat}{m:Nat}(h:∀r∈l,r<m):Mo l<=m:=by
 induction l with
 |nil=>exact dU _
 |cons x l ih=>
  have h1:=h x dJ;have h2:=ih fun r hr=>h r (cw _ hr)
  simp only[E4,Az];omega
theorem kH(a b c:Int):max (max a b) c=max a (max b c):=Int.max_assoc a b c
theorem kg(a b c:Int):max a (max b c)=max b (max a c):=by rw[<-kH,Int.max_comm a b,kH]
theorem Il(x:Int)(l:List Int):∀n:Nat,n<l.length->vA (fun j=>((x::l)[j]?).getD 0) (n+1)=max x (vA (fun j=>(l[j]?).getD 0) n):=by
 intro n
 induction n with
 |zero=>
  intro h;simp only[FK,zl];simp
 |succ n ih=>
  intro h;have:=ih (by omega)
  conv=>lhs;unfold vA
  conv=>rhs;unfold vA
  rw[this];exact kH ..
theorem Im:∀(x:Int) (l:List Int),Ee [.list ((x::l).map .int)]=some (.int (l.foldr max x)):=by
 intro x l;have hi:∀l:List Int,j2 (l.map .int)=some l:=fun l=>by
  induction l with
  |nil=>rfl
  |cons x l ih=>simp[Jr,Bn,ih]
 have go:∀(l:List Int) (x:Int),vA (fun j=>((x::l)[j]?).getD 0) l.length=l.foldr max x:=by
  intro l
  induction l with
  |nil=>intro x;simp[FK,zl]
  |cons y l ih=>
   intro x;have e:=Il x (y::l) l.length (by simp);rw[bA,e,ih y];have swap:∀l:List Int,max x (l.foldr max y)=max y (l.foldr max x):=by
    intro l
    induction l with
    |nil=>exact Int.max_comm ..
    |cons z l ih=>exact(kg ..).trans ((congrArg (max z) ih).trans (kg ..))
   rw[nL,swap]
 rw[Q4,Js,az (by simp),hi,m8];simp only[bA,Nat.add_sub_cancel];rw[go]
noncomputable abbrev du:=List (Int×Bool)
noncomputable def tq(K:Int):du->Nat->Nat->Option Nat
 |[],_,_=>none
 |e::r,i,d=>if e.1=K then(if e.2 then tq K r (i+1) (d+1)else if d=0 then some i else tq K r (i+1) (d-1))else tq K r (i+1) d
theorem qC(K:Int)(i d:Nat):tq K [] i d=none:=rfl
theorem iJ(K:Int)(e:Int×Bool)(r:du)(i d:Nat):tq K (e::r) i d=if e.1=K then(if e.2 then tq K r (i+1) (d+1)else if d=0 then some i else tq K r (i+1) (d-1))else tq K r (i+1) d:=rfl
noncomputable def rE(s:Nat):Option Nat->Nat
 |some p=>p-s
 |none=>0
noncomputable def ga(r:du)(s:Nat):Nat:=match r[s]? with
 |some e=>rE s (tq e.1 (r.drop (s+1)) (s+1) 0)
 |none=>0
noncomputable def tr(w:List Bool):List Nat:=(List.range w.length).filter fun k=>(w[k]?).getD false
noncomputable def ia(r:du):List Nat:=((tr (r.map (·.2))).reverse).map (ga r)
noncomputable def jJ(K:Int):List (Nat×Int)->Option (Nat×List (Nat×Int))
 |[]=>none
 |e::op=>if e.2=K then some (e.1,op)else(jJ K op).map fun q=>(q.1,e::q.2)
theorem dO(K:Int):jJ K []=none:=rfl
theorem cU(K:Int)(e:Nat×Int)(op:List (Nat×Int)):jJ K (e::op)=if e.2=K then some (e.1,op)else(jJ K op).map fun q=>(q.1,e::q.2):=rfl
noncomputable def mt:du->Nat->List (Nat×Int)->List (Nat×Nat)
 |[],_,_=>[]
 |e::r,i,op=>if e.2 then mt r (i+1) ((i,e.1)::op)else match jJ e.1 op with
  |none=>mt r (i+1) op
  |some q=>(q.1,i-q.1)::mt r (i+1) q.2
theorem ub(i:Nat)(op:List (Nat×Int)):mt [] i op=[]:=rfl
theorem uc(e:Int×Bool)(r:du)(i:Nat)(op:List (Nat×Int)):mt (e::r) i op=if e.2 then mt r (i+1) ((i,e.1)::op)else match jJ e.1 op with
 |none=>mt r (i+1) op
 |some q=>(q.1,i-q.1)::mt r (i+1) q.2:=rfl
noncomputable def lk:List (Nat×Nat)->Nat->Nat
 |[],_=>0
 |e::l,s=>if e.1=s then e.2 else lk l s
theorem GA(s:Nat):lk [] s=0:=rfl
theorem GB(e:Nat×Nat)(l:List (Nat×Nat))(s:Nat):lk (e::l) s=if e.1=s then e.2 else lk l s:=rfl
inductive GC(s:Nat)(K:Int):List (Nat×Int)->Nat->Prop
 |top {xs}:(∀e∈xs,e.1≠s)->GC s K ((s,K)::xs) 0
 |same {t xs d}:t≠s->GC s K xs d->GC s K ((t,K)::xs) (d+1)
 |other {t k xs d}:t≠s->k≠K->GC s K xs d->GC s K ((t,k)::xs) d
theorem GC.WA{s:Nat}{K:Int}{op:List (Nat×Int)}{d:Nat}(h:GC s K op d):d=0->∃AN,jJ K op=some (s,AN):=by
 induction h with
 | @top xs _=>intro _;exact⟨xs,by simp[dO,cU]⟩
 |same _ _ _=>intro z;omega
 |other _ hk _ ih=>
  intro z;obtain⟨AN,e⟩:=ih z;exact⟨_::AN,by simp only[dO,cU];rw[az hk,e];rfl⟩
theorem GC.WB{s:Nat}{K:Int}{op:List (Nat×Int)}{d:Nat}(h:GC s K op (d+1)):∃t AN,jJ K op=some (t,AN)/\t≠s/\GC s K AN d:=by
 generalize hd:d+1=d' at h
 induction h generalizing d with
 |top _=>omega
 |same ht hi _=>
  obtain rfl:d=_:=rR hd;exact⟨_,_,by simp[dO,cU],ht,hi⟩
 |other ht hk hi ih=>
  obtain⟨t,AN,e,h1,h2⟩:=ih hd;exact⟨t,_::AN,by simp only[dO,cU];rw[az hk,e];rfl,h1,.other ht hk h2⟩
theorem tt{K:Int}:∀{op:List (Nat×Int)} {q},jJ K op=some q->(∃e∈op,e.1=q.1)/\∀e∈q.2,e∈op
 |[],q,h=>by simp[dO,cU]at h
 |e::op,q,h=>by
  rw[cU]at h;split at h
  ·cases h
   exact⟨⟨e,by simp,rfl⟩,fun x hx=>cw _ hx⟩
  ·refine bV h ?_;rintro q' h' rfl
   obtain⟨⟨x,hx,hxe⟩,h2⟩:=tt h';refine⟨⟨x,cw _ hx,hxe⟩,fun y hy=>?_⟩;rcases bp.mp hy with rfl|hy
   ·exact dJ
   ·exact cw _ (h2 y hy)
theorem GC.WE{s:Nat}{K k:Int}(hk:k≠K){op:List (Nat×Int)}{d:Nat}(h:GC s K op d):jJ k op=none\/∃t AN,jJ k op=some (t,AN)/\t≠s/\GC s K AN d:=by
 induction h with
 | @top xs hx=>
   have WF:¬K=k:=fun z=>hk z.symm
   cases e:jJ k xs with
   |none=>left;simp[dO,cU,e,WF]
   |some q=>
    right;obtain⟨⟨x,IU,VC⟩,h2⟩:=tt e;exact⟨q.1,(s,K)::q.2,by simp[dO,cU,e,WF],by rw[<-VC];exact hx x IU,.top fun y hy=>hx y (h2 y hy)⟩
 |same ht hi ih=>
  have WF:¬K=k:=fun z=>hk z.symm
  rcases ih with e|⟨t,AN,e,h1,h2⟩
  ·left;simp[dO,cU,e,WF]
  ·right;exact⟨t,_::AN,by simp only[dO,cU];rw[az WF,e];rfl,h1,.same ht h2⟩
 | @other t k' xs d ht zf hi ih=>
   by_cases q:k'=k
   ·right
    exact⟨t,xs,by simp[dO,cU,q],ht,hi⟩
   ·rcases ih with e|⟨t',AN,e,h1,h2⟩
    ·left;simp[dO,cU,e,q]
    ·right;exact⟨t',_::AN,by simp only[dO,cU];rw[az q,e];rfl,h1,.other ht zf h2⟩
theorem tu{s:Nat}{K:Int}:∀(r:du) (i:Nat) (op:List (Nat×Int)) (d:Nat),s<i->GC s K op d->lk (mt r i op) s=rE s (tq K r i d)
 |[],i,op,d,hi,h=>rfl
 |(k,true)::r,i,op,d,hi,h=>by
  simp only[ub,uc,qC,iJ,eI];by_cases q:k=K
  ·subst q
   rw[aw rfl];exact tu r _ _ _ (by omega) (.same (by omega) h)
  ·rw[az q]
   exact tu r _ _ _ (by omega) (.other (by omega) q h)
 |(k,false)::r,i,op,d,hi,h=>by
  simp only[ub,uc,qC,iJ,gz,eW];by_cases q:k=K
  ·subst q
   rw[aw rfl]
   cases d with
   |zero=>
    obtain⟨AN,e⟩:=h.WA rfl;simp[e,GA,GB,rE]
   |succ d=>
    obtain⟨t,AN,e,h1,h2⟩:=h.WB;simp only[e,GA,GB];rw[az h1,tu r _ _ _ (by omega) h2];simp
  ·rw[az q]
   rcases h.WE q with e|⟨t,AN,e,h1,h2⟩
   ·simp only[e]
    exact tu r _ _ _ (by omega) h
   ·simp only[e,GA,GB]
    rw[az h1,tu r _ _ _ (by omega) h2]
theorem GD:∀(a:du) (K:Int) (b:du) (i:Nat) (op:List (Nat×Int)),(∀e∈op,e.1<i)->lk (mt (a++(K,true)::b) i op) (i+a.length)=rE (i+a.length) (tq K b (i+a.length+1) 0)
 |[],K,b,i,op,h=>by
  simp only[kN,ub,uc,eI,eZ,m6];exact tu b _ _ _ (by omega) (.top fun e he=>by have:=h e he;omega)
 |(k,true)::a,K,b,i,op,h=>by
  have:=GD a K b (i+1) ((i,k)::op) (fun e he=>by
   rcases bp.mp he with rfl|he
   ·simp
   ·have:=h e he;omega)
  simp only[List.cons_append,ub,uc,eI,bA];have e:i+1+a.length=i+(a.length+1):=by omega
  rw[e]at this;exact this
 |(k,false)::a,K,b,i,op,h=>by
  have e:i+1+a.length=i+(a.length+1):=by omega
  simp only[List.cons_append,ub,uc,gz,eW,bA]
  cases q:jJ k op with
  |none=>
   have:=GD a K b (i+1) op (fun e he=>by have:=h e he;omega);rw[e]at this;exact this
  |some p=>
   obtain⟨⟨x,IU,VC⟩,h2⟩:=tt q;have hx:=h x IU;have:=GD a K b (i+1) p.2 (fun e he=>by have:=h e (h2 e he);omega);rw[e]at this;simp only[GA,GB];rw[az (by omega)];exact this
theorem Mp{r:du}{s:Nat}{K:Int}(h:r[s]?=some (K,true)):ga r s=lk (mt r 0 []) s:=by
 have hs:s<r.length:=(eX.mp h).1;have e:r=r.take s++(K,true)::r.drop (s+1):=by
  conv=>lhs;rw[<-List.take_append_drop s r]
  congr 1
  rw[pk hs];have:=(eX.mp h).2;rw[this]
 have:=GD (r.take s) K (r.drop (s+1)) 0 [] (fun e he=>(nomatch he));rw[<-e]at this;have hl:(r.take s).length=s:=by rw[nG];omega
 rw[hl,gq]at this;rw[this];unfold ga;rw[h]
noncomputable def picks:List Nat->List (Nat×List Nat×Bool)
 |[]=>[]
 |s::op=>(s,op,true)::(picks op).map fun q=>(q.1,s::q.2.1,false)
theorem CQ:picks []=[]:=rfl
theorem CR(s:Nat)(op:List Nat):picks (s::op)=(s,op,true)::(picks op).map fun q=>(q.1,s::q.2.1,false):=rfl
noncomputable def tree:List Bool->Nat->List Nat->List (List (Nat×Nat)×Bool)
 |[],_,_=>[([],true)]
 |o::w,i,op=>if o then tree w (i+1) (i::op)else((tree w (i+1) op).map fun e=>(e.1,false))++(picks op).flatMap fun q=>(tree w (i+1) q.2.1).map fun e=>((q.1,i-q.1)::e.1,q.2.2&&e.2)
theorem AA(i:Nat)(op:List Nat):tree [] i op=[([],true)]:=rfl
theorem AB(o:Bool)(w:List Bool)(i:Nat)(op:List Nat):tree (o::w) i op=if o then tree w (i+1) (i::op)else((tree w (i+1) op).map fun e=>(e.1,false))++(picks op).flatMap fun q=>(tree w (i+1) q.2.1).map fun e=>((q.1,i-q.1)::e.1,q.2.2&&e.2):=rfl
noncomputable def OT:du->List Int->Bool
 |[],_=>true
 |e::r,p=>if e.2 then OT r (e.1::p)else match p with
  |[]=>false
  |k::p'=>if k=e.1 then OT r p' else false
theorem qD(p:List Int):OT [] p=true:=rfl
theorem qE(e:Int×Bool)(r:du)(p:List Int):OT (e::r) p=if e.2 then OT r (e.1::p)else match p with
 |[]=>false
 |k::p'=>if k=e.1 then OT r p' else false:=rfl
set_option tactic.hygienic true in
theorem xe{K:Int}:∀{op:List (Nat×Int)} {q},jJ K op=some q->∃top,(q.1,q.2.map (·.1),top)∈picks (op.map (·.1))/\(match op.map (·.2)with|[]=>top=false|k::p=>if k=K then top=true/\q.2.map (·.2)=p else top=false)
 |[],q,h=>by simp[dO,cU]at h
 |e::op,q,h=>by
  rw[cU]at h;split at h
  ·rename_i hk
   cases h;refine⟨true,by simp[CQ,CR],?_⟩;simp[hk]
  ·rename_i hk
   refine bV h ?_;rintro q' h' rfl;obtain⟨top,h1,h2⟩:=xe h';refine⟨false,?_,?_⟩
   ·simp only[bn,CQ,CR]
    refine cw _ (bP.mpr ⟨_,h1,?_⟩);simp
   ·simp[hk]
set_option tactic.hygienic true in
theorem uM:∀(r:du) (i:Nat) (op:List (Nat×Int)),(mt r i op,OT r (op.map (·.2)))∈tree (r.map (·.2)) i (op.map (·.1))
 |[],i,op=>by simp[ub,uc,qD,qE,AA,AB]
 |(k,true)::r,i,op=>by
  have:=uM r (i+1) ((i,k)::op);simpa[ub,uc,qD,qE,AA,AB]using this
 |(k,false)::r,i,op=>by
  simp only[ub,uc,qD,qE,bn,AA,AB,gz,eW]
  cases h:jJ k op with
  |none=>
   refine bj _ (bP.mpr ⟨_,uM r (i+1) op,?_⟩);dsimp only
   congr 1
   cases op with
   |nil=>rfl
   |cons e op=>
    have:e.2≠k:=fun z=>by simp[dO,cU,z]at h
    simp[this]
  |some q=>
   obtain⟨top,h1,h2⟩:=xe h;refine bw _ (List.mem_flatMap.mpr ⟨_,h1,bP.mpr ⟨_,uM r (i+1) q.2,?_⟩⟩);dsimp only
   congr 1
   cases hp:op.map (·.2)with
   |nil=>
    rw[hp]at h2;simp[h2]
   |cons k' p=>
    rw[hp]at h2;dsimp only at h2 ⊢;split at h2
    ·rename_i hk
     rw[aw hk,h2.1,h2.2];rfl
    ·rename_i hk
     rw[az hk,h2];rfl
theorem AC:∀(r:du) (p:List Int),OT r p=match bg oC r p.reverse with| .inl _=>true| .inr _=>false
 |[],p=>rfl
 |(k,true)::r,p=>by
  have:=AC r (k::p);simpa[qD,qE,cQ,bZ,oC]using this
 |(k,false)::r,p=>by
  cases p with
  |nil=>simp[qD,qE,cQ,bZ,oC]
  |cons k' p=>
   have:=AC r p;by_cases q:k'=k
   ·simp[qD,qE,cQ,bZ,oC,q,this]
   ·simp[qD,qE,cQ,bZ,oC,q]
theorem Io(r:du):eB r=OT r []:=by
 rw[AC];rfl
noncomputable def E6:Nat->List (List Bool)
 |0=>[[]]
 |n+1=>(E6 n).flatMap fun w=>[true::w,false::w]
theorem GE:E6 0=[[]]:=rfl
theorem GG(n:Nat):E6 (n+1)=(E6 n).flatMap fun w=>[true::w,false::w]:=rfl
theorem CS:∀w:List Bool,w∈E6 w.length
 |[]=>by simp[GE,GG]
 |o::w=>by
  simp only[bA,GE,GG];refine List.mem_flatMap.mpr ⟨w,CS w,?_⟩;cases o<;>simp
noncomputable def yB(w:List Bool)(a:List (Nat×Nat)):List Nat:=((tr w).reverse).map (lk a)
noncomputable def E7(w:List Bool):Bool:=match bg bv w 0 with
 | .inl 0=>true
 |_=>false
noncomputable def Tf(w:List Bool):Bool:=!E7 w||(decide ((tr w).length*2=w.length)&&(tree w 0 []).all fun e=>e.2==((yB w (mt (w.map fun o=>(0,o)) 0 [])).dropLast.isPerm (yB w e.1).dropLast&&(yB w (mt (w.map fun o=>(0,o)) 0 [])).getLast?==(yB w e.1).getLast?))
theorem OU:((E6 6++E6 8).all Tf)=true:=by decide+kernel
noncomputable abbrev dY(r:du):du:=r.map fun e=>(0,e.2)
theorem AD{r:du}{s:Nat}(h:s∈tr (r.map (·.2))):∃K,r[s]?=some (K,true):=by
 unfold tr at h;obtain⟨h1,h2⟩:=kL.mp h;rw[gE,bi]at h1;rw[bL,dX h1]at h2;refine⟨r[s].1,?_⟩;rw[dX h1];simp at h2;rw[<-h2]
theorem CU(r:du):ia r=yB (r.map (·.2)) (mt r 0 []):=by
 unfold ia yB;refine pr fun s hs=>?_
 obtain⟨K,h⟩:=AD (pS.mp hs);exact Mp h
structure CV(r:du):Prop where
 len:r.length=6\/r.length=8
 dyck:bg bv (r.map (·.2)) 0= .inl 0
theorem CV.chk{r:du}(h:CV r):Tf (r.map (·.2))=true:=by
 refine cD.mp OU _ ?_;have:=CS (r.map (·.2));rw[bi]at this;rcases h.len with e|e<;>rw[e]at this
 ·exact bj _ this
 ·exact bw _ this
theorem CV.spec{r:du}(h:CV r):(tr (r.map (·.2))).length*2=r.length/\eB r=((ia (dY r)).dropLast.isPerm (ia r).dropLast&&(ia (dY r)).getLast?==(ia r).getLast?):=by
 have hc:=h.chk;have hd:E7 (r.map (·.2))=true:=by unfold E7;rw[h.dyck];rfl
 unfold Tf at hc;rw[hd]at hc;simp only[Bool.not_true,Bool.false_or,dI,iK,bi]at hc;refine⟨hc.1,?_⟩;have:=cD.mp hc.2 _ (uM r 0 []);simp only[jW]at this;rw[Io,CU,CU];have e:(dY r).map (·.2)=r.map (·.2):=by simp[dY,za]
 have e2:(r.map (·.2)).map (fun o=>((0:Int),o))=dY r:=by simp[dY,za]
 rw[e];rw[e2]at this;exact this
theorem AE(K:Int):∀(r:du) (i d p:Nat),tq K r i d=some p->i<=p/\p<i+r.length
 |[],i,d,p,h=>by simp[qC,iJ]at h
 |e::r,i,d,p,h=>by
  have ih:=AE K r;rw[iJ]at h;simp only[bA];split at h
  ·split at h
   ·have:=ih _ _ _ h;omega
   ·split at h
    ·simp at h;omega
    ·have:=ih _ _ _ h;omega
  ·have:=ih _ _ _ h;omega
set_option tactic.hygienic true in
theorem xg(r:du)(s:Nat):ga r s<=r.length:=by
 unfold ga;split
 ·rename_i e he
  have hs:s<r.length:=(eX.mp he).1
  cases q:tq e.1 (r.drop (s+1)) (s+1) 0 with
  |none=>simp[rE]
  |some p=>
   have:=AE _ _ _ _ _ q;rw[m7]at this;exact aA (r4 _ _) (eY (Nat.lt_of_lt_of_eq this.2 (vf hs)))
 ·exact dU _
theorem GH{r:du}{x:Nat}(h:x∈ia r):x<=r.length:=by
 unfold ia at h;obtain⟨s,_,rfl⟩:=bP.mp h;exact xg r s
section
theorem oE(ks:List Int)(vs:List V)(q:Int)(x:V)(h:ks.length=vs.length):(cI ks q).length=(eP ks vs q x).length:=by
 unfold cI eP;split
 ·simp[h]
 ·simp[h]
theorem CW(q q':Int)(x:V):∀(ks:List Int) (vs:List V),ks.length=vs.length->bR ks (List.zipWith (fun k v=>if k=q then x else v) ks vs) q'=if q'=q then(if q∈ks then some x else none)else bR ks vs q'
 |[],[],_=>by simp[gH,iQ,iR]
 |k::ks,v::vs,h=>by
  have ih:=CW q q' x ks vs (by simpa using h);simp only[yQ,gH,iQ,iR,ih];by_cases e:k=q'
  ·subst e
   by_cases e2:k=q
   ·subst e2;simp
   ·simp[e2]
  ·by_cases e2:q'=q
   ·subst e2
    have:¬q'=k:=fun z=>e z.symm
    simp[e,this]
   ·simp[e,e2]
theorem CY(q q':Int)(x:V):∀(ks:List Int) (vs:List V),ks.length=vs.length->q∉ks->bR (ks++[q]) (vs++[x]) q'=if q'=q then some x else bR ks vs q'
 |[],[],_,_=>by
  simp only[kN,gH,iQ,iR];by_cases e:q=q'
  ·subst e;simp
  ·have:¬q'=q:=fun z=>e z.symm
   simp[e,this]
 |k::ks,v::vs,h,hn=>by
  have ih:=CY q q' x ks vs (by simpa using h) (fun z=>hn (cw _ z));simp only[List.cons_append,gH,iQ,iR,ih];by_cases e:k=q'
  ·subst e
   have:¬k=q:=fun z=>hn (by rw[z];exact dJ)
   simp[this]
  ·simp[e]
set_option tactic.hygienic true in
theorem jK(ks:List Int)(vs:List V)(q q':Int)(x:V)(h:ks.length=vs.length):bR (cI ks q) (eP ks vs q x) q'=if q'=q then some x else bR ks vs q':=by
 unfold cI eP;split
 ·rename_i hc
  have:q∈ks:=by simpa using hc
  rw[CW q q' x ks vs h];simp[this]
 ·rename_i hc
  have:q∉ks:=by simpa using hc
  exact CY q q' x ks vs h this
noncomputable def pG(r:du)(i:Nat):List Nat:=(List.range i).filter fun k=>((r[k]?).map (·.2)).getD false
theorem Mq{r:du}{i s:Nat}(h:s∈pG r i):s<i:=gE.mp (kL.mp h).1
theorem WG{r:du}{i:Nat}{k:Int}(h:r[i]?=some (k,true)):pG r (i+1)=pG r i++[i]:=by
 unfold pG;rw[y3,DQ];exact congrArg (_++ ·) (List.filter_cons_of_pos (by rw[h];rfl))
theorem Qh{r:du}{i:Nat}{k:Int}(h:r[i]?=some (k,false)):pG r (i+1)=pG r i:=by
 unfold pG;rw[y3,DQ];exact(congrArg (_++ ·) (List.filter_cons_of_neg (by rw[h];exact m5))).trans (gn _)
theorem WH{K k:Int}{o:Bool}{r:du}{i d:Nat}(h:k≠K):tq K ((k,o)::r) i d=tq K r (i+1) d:=by rw[iJ,az h]
theorem WI{K:Int}{r:du}{i d:Nat}:tq K ((K,true)::r) i d=tq K r (i+1) (d+1):=by rw[iJ,aw rfl,aw rfl]
theorem ae1{K:Int}{r:du}{i:Nat}:tq K ((K,false)::r) i 0=some i:=by rw[iJ,aw rfl,az m5,aw rfl]
theorem ae2{K:Int}{r:du}{i d:Nat}:tq K ((K,false)::r) i (d+1)=tq K r (i+1) d:=by rw[iJ,aw rfl,az m5,az (Nat.succ_ne_zero d)];rfl
theorem xh{zs xs ys:List Int}{a b:Int}(h:zs++[b]=xs++a::ys):(ys=[]/\b=a)\/∃Tg,ys=Tg++[b]/\zs=xs++a::Tg:=by
 rcases List.eq_nil_or_concat ys with e|⟨Tg,y,e⟩
 ·rw[e]at h
  exact .inl ⟨e,(vh (List.append_inj' h rfl).2).1⟩
 ·rw[List.concat_eq_append]at e
  rw[e,<-List.cons_append,<-List.append_assoc]at h;obtain⟨h1,h2⟩:=List.append_inj' h rfl;exact .inr ⟨Tg,(vh h2).1▸e,h1⟩
inductive AO(r:du)(i:Nat)(pl ks:List Int)(vs:List V)(s:Nat)(K:Int):Prop
 |opn (xs ys:List Int) (h1:pl=xs++(s:Int)::ys) (h2:bR ks vs s=some (.int 0)) (h3:tq K (r.drop (s+1)) (s+1) 0=tq K (r.drop i) i ys.length):AO r i pl ks vs s K
 |dn (h1:(s:Int)∉pl) (p:Nat) (h2:s<=p) (h3:tq K (r.drop (s+1)) (s+1) 0=some p) (h4:bR ks vs s=some (.int ((p:Int)-s))):AO r i pl ks vs s K
section
variable{r:du}{i s:Nat}{pl zs ks jR:List Int}{vs gU:List V}{K k j:Int}{o:Bool}
theorem AO.ne(h:AO r i pl ks vs s K)(hd:r.drop i=(k,o)::r.drop (i+1))(q:k≠K)(e:bR jR gU s=bR ks vs s):AO r (i+1) pl jR gU s K:=by
 rcases h with⟨xs,ys,h1,h2,h3⟩|⟨h1,p,h2,h3,h4⟩
 ·exact .opn xs ys h1 (e.trans h2) (h3.trans (by rw[hd,WH q]))
 ·exact .dn h1 p h2 h3 (e.trans h4)
theorem AO.nil(h:AO r i [] ks vs s K):AO r (i+1) [] ks vs s K:=by
 rcases h with⟨xs,ys,h1,h2,h3⟩|⟨h1,p,h2,h3,h4⟩
 ·exact absurd (h1.symm:xs++(s:Int)::ys=[]) (List.append_ne_nil_of_right_ne_nil _ (cf _ _))
 ·exact .dn h1 p h2 h3 h4
theorem AO.push(h:AO r i pl ks vs s K)(hd:r.drop i=(K,true)::r.drop (i+1))(bN:(s:Int)≠j)(e:bR jR gU s=bR ks vs s):AO r (i+1) (pl++[j]) jR gU s K:=by
 rcases h with⟨xs,ys,h1,h2,h3⟩|⟨h1,p,h2,h3,h4⟩
 ·exact .opn xs (ys++[j]) (by rw[h1,List.append_assoc];rfl) (e.trans h2) (h3.trans (by rw[hd,WI,List.length_append];rfl))
 ·exact .dn (fun z=>(cr.mp z).elim h1 fun z=>bN (cN.mp z)) p h2 h3 (e.trans h4)
theorem AO.ae3(h:AO r i (zs++[(s:Int)]) ks vs s K)(hz:(s:Int)∉zs)(hd:r.drop i=(K,false)::r.drop (i+1))(ND:s<=i)(e:bR jR gU s=some (.int ((i:Int)-s))):AO r (i+1) zs jR gU s K:=by
 rcases h with⟨xs,ys,h1,h2,h3⟩|⟨h1,p,h2,h3,h4⟩
 ·rcases xh h1 with⟨ey,_⟩|⟨Tg,_,ez⟩
  ·exact .dn hz i ND (h3.trans (by rw[ey,hd];exact ae1)) e
  ·exact absurd (ez▸bw _ (.head _)) hz
 ·exact absurd (bw _ (.head _)) h1
theorem AO.ae4(h:AO r i (zs++[j]) ks vs s K)(WJ:(s:Int)≠j)(hd:r.drop i=(K,false)::r.drop (i+1))(e:bR jR gU s=bR ks vs s):AO r (i+1) zs jR gU s K:=by
 rcases h with⟨xs,ys,h1,h2,h3⟩|⟨h1,p,h2,h3,h4⟩
 ·rcases xh h1 with⟨_,ej⟩|⟨Tg,ey,ez⟩
  ·exact absurd ej.symm WJ
  ·exact .opn xs Tg ez (e.trans h2) (h3.trans (by rw[ey,List.length_append,hd];exact ae2))
 ·exact .dn (fun z=>h1 (bj _ z)) p h2 h3 (e.trans h4)
end
structure Qi(r:du)(i:Nat)(st:Ar):Prop where
 keys:st.2.1=(pG r i).map fun(k:Nat)=>(k:Int)
 len:st.2.1.length=st.2.2.length
 kG:∀K,∀x∈st.1 K,∃s:Nat,x=s/\s<i/\r[s]?=some (K,true)
 nodup:∀K,(st.1 K).Nodup
 val:∀(s:Nat) K,s<i->r[s]?=some (K,true)->AO r i (st.1 K) st.2.1 st.2.2 s K
theorem Qi.CZ{r:du}{i:Nat}{st:Ar}(h:Qi r i st)(K x)(hx:x∈st.1 K):∃s:Nat,x=s/\s<i+1/\r[s]?=some (K,true):=(h.kG K x hx).elim fun s q=>⟨s,q.1,nu q.2.1,q.2.2⟩
theorem Mr{r:du}{i:Nat}{st:Ar}{k:Int}(ih:Qi r i st)(he:r[i]?=some (k,true))(hd:r.drop i=(k,true)::r.drop (i+1)):Qi r (i+1) (iI i (k,true) st):=by
 rw[Gx rfl];refine⟨?_,oE _ _ _ _ ih.len,fun K=>?_,fun K=>?_,fun s K hs hr=>?_⟩
 ·have eG:st.2.1.contains (i:Int)=false:=by
   rw[ih.keys,List.contains_eq_mem,uW];intro hm;obtain⟨s,hs,e⟩:=bP.mp hm;exact pN _ (rX e▸Mq hs)
  unfold cI;rw[eG,WG he,ih.keys,List.map_append];rfl
 ·dsimp only
  by_cases q:K=k
  ·rw[aw q]
   exact fun x hx=>(cr.mp hx).elim (fun hx=>q▸ih.CZ k x hx) fun hx=>⟨i,cN.mp hx,m3 i,q▸he⟩
  ·rw[az q]
   exact ih.CZ K
 ·dsimp only
  by_cases q:K=k
  ·rw[aw q]
   refine kO.mpr ⟨ih.nodup k,by simp,fun a ha b hb z=>?_⟩;obtain⟨s,h1,h2,h3⟩:=ih.kG k a ha;exact jX h2 (rX (h1.symm.trans (z.trans (cN.mp hb))))
  ·rw[az q];exact ih.nodup K
 ·dsimp only
  by_cases T1:s=i
  ·rw[aw (jT (Option.some.inj ((T1▸hr).symm.trans he))).1]
   exact .opn (st.1 k) [] (by rw[T1]) ((jK _ _ _ _ _ ih.len).trans (aw (by rw[T1]))) (by rw[T1];rfl)
  ·have bN:(s:Int)≠i:=fun z=>T1 (rX z)
   have hv:=ih.val s K (Nat.lt_of_le_of_ne (Nat.le_of_lt_succ hs) T1) hr;have e:=fun x=>(jK st.2.1 st.2.2 (i:Int) s x ih.len).trans (az bN)
   by_cases q:K=k
   ·rw[aw q]
    rw[q]at hv ⊢;exact hv.push hd bN (e _)
   ·rw[az q]
    exact hv.ne hd (dW q) (e _)
theorem Ms{r:du}{i:Nat}{st:Ar}{k:Int}(ih:Qi r i st)(he:r[i]?=some (k,false))(hd:r.drop i=(k,false)::r.drop (i+1)):Qi r (i+1) (iI i (k,false) st):=by
 have hs':∀{s:Nat} {K:Int},s<i+1->r[s]?=some (K,true)->s<i:=fun {s K} hs hr=>Nat.lt_of_le_of_ne (Nat.le_of_lt_succ hs) fun z=>nomatch(jT (Option.some.inj ((show r[i]?=some (K,true)from z▸hr).symm.trans he))).2
 rcases List.eq_nil_or_concat (st.1 k)with hn|⟨zs,j,hz⟩
 ·have e:iI i (k,false) st=st:=by
   show(match(st.1 k).getLast? with|none=>st|some j=>_)=_;rw[hn];rfl
  rw[e];refine⟨(Qh he).symm▸ih.keys,ih.len,ih.CZ,ih.nodup,fun s K hs hr=>?_⟩;have hv:=ih.val s K (hs' hs hr) hr;by_cases q:k=K
  ·rw[<-q,hn]at hv ⊢
   exact hv.nil
  ·exact hv.ne hd q rfl
 ·rw[List.concat_eq_append]at hz
  rw[Me hz];have hjm:j∈st.1 k:=hz▸bw _ (.head _);obtain⟨j',ej,hj2,hj3⟩:=ih.kG k j hjm;have Yh:st.2.1.contains j=true:=by
   rw[ih.keys,List.contains_eq_mem,iK,ej];exact bP.mpr ⟨j',kL.mpr ⟨gE.mpr hj2,by rw[hj3];rfl⟩,rfl⟩
  have vS:=kO.mp (hz▸ih.nodup k);have HG:∀x∈zs,x∈st.1 k:=fun x hx=>hz▸bj _ hx
  refine⟨?_,oE _ _ _ _ ih.len,fun K=>?_,fun K=>?_,fun s K hs hr=>?_⟩
  ·unfold cI
   rw[Yh,Qh he];exact ih.keys
  ·dsimp only
   by_cases q:K=k
   ·rw[aw q];exact fun x hx=>q▸ih.CZ k x (HG x hx)
   ·rw[az q];exact ih.CZ K
  ·dsimp only
   by_cases q:K=k
   ·rw[aw q];exact vS.1
   ·rw[az q];exact ih.nodup K
  ·dsimp only
   have hv:=ih.val s K (hs' hs hr) hr;have e:=fun x=>jK st.2.1 st.2.2 j s x ih.len
   by_cases q:K=k
   ·rw[aw q]
    rw[q,hz]at hv;rw[q];by_cases WJ:(s:Int)=j
    ·have hjz:j∉zs:=fun hm=>vS.2.2 _ hm _ (.head _) rfl
     rw[<-WJ]at hv hjz ⊢;exact hv.ae3 hjz hd (eY (hs' hs hr)) ((jK _ _ _ _ _ ih.len).trans (aw rfl))
    ·exact hv.ae4 WJ hd ((e _).trans (az WJ))
   ·rw[az q]
    exact hv.ne hd (dW q) ((e _).trans (az fun z=>q (jT (Option.some.inj ((rX (z.trans ej)▸hr).symm.trans hj3))).1))
theorem Th(r:du):∀i:Nat,i<=r.length->Qi r i (cg r i):=by
 intro i
 induction i with
 |zero=>exact fun ø=>⟨rfl,rfl,fun K x hx=>(nomatch hx),fun K=>qP,fun s K hs=>absurd hs (Nat.not_lt_zero _)⟩
 |succ i ih=>
  intro hi;have he:=dX hi;have hd:=pk hi;rw[w3,he];show Qi r (i+1) (iI i r[i] (cg r i));generalize r[i]=e at he hd;obtain⟨k,o⟩:=e
  induction o with
  |false=>exact Ms (ih (eY hi)) he hd
  |true=>exact Mr (ih (eY hi)) he hd
theorem GI(r:du):qB r=(ia r).map fun(x:Nat)=>V.int x:=by
 have I:=Th r r.length (cF _);have ho:pG r r.length=tr (r.map (·.2)):=by
  unfold pG tr;rw[bi];refine List.filter_congr fun k ø=>?_
  rw[bL]
 have ae5:j5 (cg r r.length).2.1=((tr (r.map (·.2))).reverse).map fun(k:Nat)=>(k:Int):=by
  refine(vH ?_ ?_).symm
  ·rw[I.keys,ho]
   exact(rS _).map _
  ·show List.Pairwise (· >= ·) _
   rw[List.pairwise_map,List.pairwise_reverse];have:(tr (r.map (·.2))).Pairwise (· < ·):=by
    unfold tr;exact(List.pairwise_lt_range).filter _
   exact this.imp fun h=>by omega
 unfold qB ia;rw[ae5,dK,dK];refine pr fun s hs=>?_
 obtain⟨K,h⟩:=AD (pS.mp hs);have hs:s<r.length:=(eX.mp h).1;simp only[za];unfold ga;rw[h];dsimp only;rcases I.val s K hs h with⟨xs,ys,h1,h2,h3⟩|⟨h1,p,h2,h3,h4⟩
 ·rw[h2,h3,va]
  simp[qC,iJ,rE]
 ·rw[h4,h3]
  simp only[rE,kP]
  congr 1
  omega
end
noncomputable def Ip:List RItem->Nat->Option Nat
 |[],_=>none
 |e::l,d=>if e.2.2 then Ip l (d+1)else if d=0 then some e.1 else Ip l (d-1)
theorem E8(d:Nat):Ip [] d=none:=rfl
theorem E9(e:RItem)(l:List RItem)(d:Nat):Ip (e::l) d=if e.2.2 then Ip l (d+1)else if d=0 then some e.1 else Ip l (d-1):=rfl
theorem AF:∀(rest pre:List RItem) (d:Nat),bg bv (pre.map (·.2.2)) 0= .inl (d+1)->(match bg tn rest pre with| .inr p=>some p| .inl _=>none)=Ip rest d
 |[],pre,d,h=>rfl
 |(p,dr,o)::rest,pre,d,h=>by
  have hb:bg bv ((pre++[(p,dr,o)]).map (·.2.2)) 0=bg bv [o] (d+1):=by
   rw[List.map_append,hU,h];rfl
  simp only[cQ,bZ,E8,E9]
  cases o with
  |true=>
   have:=AF rest (pre++[(p,dr,true)]) (d+1) (by rw[hb];rfl);simp only[tn,Bool.true_eq_false,false_and,eW,eI];exact this
  |false=>
   have JF:bg bv ((pre++[(p,dr,false)]).map (·.2.2)) 0= .inl d:=by rw[hb];simp[cQ,bZ,bv]
   have ae6:OK ((pre++[(p,dr,false)]).map (·.2.2))=(d==0):=by unfold OK;rw[JF]
   simp only[tn,ae6,true_and,jW,gz,eW];by_cases q:d=0
   ·simp[q]
   ·rw[az q,az q]
    exact AF rest (pre++[(p,dr,false)]) (d-1) (by rw[JF];exact congrArg Sum.inl (rP (DH q)).symm)
theorem Iq{e:RItem}{rest:List RItem}(h:e.2.2=true):mu (e::rest)=Ip rest 0:=by
 obtain⟨p,dr,o⟩:=e;dsimp only at h;subst h;unfold mu;simp only[cQ,bZ,tn,Bool.true_eq_false,false_and,eW];exact AF rest [(p,dr,true)] 0 rfl
set_option tactic.hygienic true in
theorem Fa(its:List RItem)(st:List Int×List V)(k:Nat)(h:st.1.length=st.2.length/\st.1.Nodup):(dm its st k).1.length=(dm its st k).2.length/\(dm its st k).1.Nodup:=by
 unfold dm;split
 ·exact h
 ·split
  ·refine⟨oE _ _ _ _ h.1,?_⟩
   unfold cI;split
   ·exact h.2
   ·rename_i e _ _ hc
    refine kO.mpr ⟨h.2,by simp,fun a ha b hb z=>?_⟩;simp at hb;subst hb;subst z;exact hc (by simpa using ha)
  ·exact h
theorem AG(its:List RItem):∀(ks:List Nat) (st:List Int×List V),st.1.length=st.2.length/\st.1.Nodup->(ks.foldl (dm its) st).1.length=(ks.foldl (dm its) st).2.length/\(ks.foldl (dm its) st).1.Nodup
 |[],st,h=>h
 |k::ks,st,h=>AG its ks _ (Fa its st k h)
set_option tactic.hygienic true in
theorem uN(its:List RItem)(q:Int):∀(ks:List Nat) (st:List Int×List V),st.1.length=st.2.length/\st.1.Nodup->(∀k∈ks,∀e,its[k]?=some e->(e.1:Int)≠q)->bR (ks.foldl (dm its) st).1 (ks.foldl (dm its) st).2 q=bR st.1 st.2 q
 |[],st,h,_=>rfl
 |k::ks,st,h,hk=>by
  rw[eJ,uN its q ks _ (Fa its st k h) fun k' zf=>hk k' (cw _ zf)];unfold dm;split
  ·rfl
  ·rename_i e he
   split
   ·rw[jK _ _ _ _ _ h.1,az fun z=>hk k dJ e he z.symm]
   ·rfl
theorem Ir{its:List RItem}{q:Int}(h:∀e∈its,(e.1:Int)≠q):bR (bU its).1 (bU its).2 q=none:=by
 unfold bU;rw[uN its q _ _ ⟨rfl,qP⟩ fun k ø e he=>h e (mE he)];rfl
theorem OV{its a b:List RItem}{e:RItem}(hs:its=a++e::b)(ho:e.2.2=true)(hd:(its.map (·.1)).Nodup):bR (bU its).1 (bU its).2 e.1=(Ip b 0).map fun p=>V.int ((p:Int)-e.1):=by
 have hk:its[a.length]?=some e:=by rw[hs];simp
 have de:a.length<its.length:=by rw[hs];simp
 have Li:its.drop a.length=e::b:=by rw[hs];simp
 have ln:a.length∈iF its:=by
  unfold iF;exact kL.mpr ⟨gE.mpr de,by simp[hk,ho]⟩
 obtain⟨k1,k2,XL⟩:=List.append_of_mem ln;have vS:(iF its).Nodup:=by unfold iF;exact List.nodup_range.filter _
 rw[XL]at vS;have tw:∀k,k≠a.length->∀e',its[k]?=some e'->(e'.1:Int)≠e.1:=fun k bN e' Di z=>by
  have h1:(its.map (·.1))[k]?=some e.1:=by rw[bL,Di];simp;omega
  have h2:(its.map (·.1))[a.length]?=some e.1:=by rw[bL,hk];rfl
  exact bN ((List.getElem?_inj (by rw[bi];exact(eX.mp Di).1) hd).mp (h1.trans h2.symm))
 have hn1:∀k∈k1,k≠a.length:=fun k hk z=>(kO.mp vS).2.2 k hk _ dJ z
 have HC:∀k∈k2,k≠a.length:=fun k hk z=>by
  have:=(kO.mp vS).2.1;rw[gC]at this;exact this.1 (z▸hk)
 have l0:=AG its k1 ([],[]) ⟨rfl,qP⟩;unfold bU;rw[XL,na,eJ];rw[uN its e.1 k2 _ (Fa its _ _ l0) fun k hk=>tw k (HC k hk)];have h0:=uN its e.1 k1 ([],[]) ⟨rfl,qP⟩ fun k hk=>tw k (hn1 k hk)
 have Od:bR ([]:List Int) ([]:List V) e.1=none:=rfl;rw[Od]at h0;generalize k1.foldl (dm its) ([],[])=st at*;unfold dm;rw[hk,Li];dsimp only;rw[Iq ho]
 cases Ip b 0 with
 |none=>exact h0
 |some p=>
  dsimp only;rw[jK _ _ _ _ _ l0.1,aw rfl];rfl
noncomputable def dZ(p:Int->Bool)(dr:Item->Int):List Item->Nat->List RItem
 |[],_=>[]
 |e::l,i=>if p e.1 then(i,dr e,e.2.1)::dZ p dr l (i+1)else dZ p dr l (i+1)
theorem gM(p:Int->Bool)(dr:Item->Int)(i:Nat):dZ p dr [] i=[]:=rfl
theorem fW(p:Int->Bool)(dr:Item->Int)(e:Item)(l:List Item)(i:Nat):dZ p dr (e::l) i=if p e.1 then(i,dr e,e.2.1)::dZ p dr l (i+1)else dZ p dr l (i+1):=rfl
theorem C1(p dr):∀(a b:List Item) (i:Nat),dZ p dr (a++b) i=dZ p dr a i++dZ p dr b (i+a.length)
 |[],b,i=>rfl
 |e::a,b,i=>by
  have:=C1 p dr a b (i+1);have e2:i+1+a.length=i+(a.length+1):=by omega
  rw[e2]at this;simp only[List.cons_append,gM,fW,bA,this];split<;>rfl
set_option tactic.hygienic true in
theorem rF(p dr):∀(l:List Item) (i:Nat),(dZ p dr l i).length<=l.length/\∀e∈dZ p dr l i,i<=e.1/\∃x,l[e.1-i]?=some x/\p x.1=true
 |[],i=>⟨cF _,fun e he=>nomatch he⟩
 |x::l,i=>by
  have ih:=rF p dr l (i+1);have go:∀e∈dZ p dr l (i+1),i<=e.1/\∃y,(x::l)[e.1-i]?=some y/\p y.1=true:=fun e he=>by
   obtain⟨h1,y,h2,h3⟩:=ih.2 e he;refine⟨u9 h1,y,?_,h3⟩;have:e.1-i=(e.1-(i+1))+1:=(rP (Nat.sub_pos_of_lt h1)).symm;rw[this,DP];exact h2
  rw[fW];split
  ·rename_i hp
   refine⟨jb ih.1,fun e he=>?_⟩;rcases bp.mp he with rfl|he
   ·exact⟨cF _,x,by simp,hp⟩
   ·exact go e he
  ·exact⟨i9 ih.1,go⟩
theorem qF(p dr):∀(l:List Item) (i:Nat),((dZ p dr l i).map (·.1)).Nodup
 |[],i=>qP
 |x::l,i=>by
  rw[fW];split
  ·rw[bn,gC]
   refine⟨fun h=>?_,qF p dr l (i+1)⟩;obtain⟨e,he,e1⟩:=bP.mp h;have:=((rF p dr l (i+1)).2 e he).1;dsimp only at e1;omega
  ·exact qF p dr l (i+1)
theorem xi{p p':Int->Bool}{dr}:∀{l:List Item} {i:Nat},(∀e∈l,p e.1=p' e.1)->dZ p dr l i=dZ p' dr l i
 |[],i,_=>rfl
 |x::l,i,h=>by
  simp only[gM,fW,h x dJ,xi (l:=l) (i:=i+1) fun e he=>h e (cw _ he)]
noncomputable abbrev cm(l:List Item):du:=l.map fun e=>(e.1,e.2.1)
theorem GJ(K:Int)(dr):∀(l:List Item) (i d:Nat),Ip (dZ (fun k=>decide (k=K)) dr l i) d=tq K (cm l) i d
 |[],i,d=>rfl
 |(k,o,x)::l,i,d=>by
  have ih:=GJ K dr l (i+1);by_cases q:k=K
  ·simp only[gM,fW,q,decide_true,eI,E8,E9,cm,bn,qC,iJ,ih]
  ·simp only[gM,fW,q,decide_false,gz,eW,cm,bn,qC,iJ,ih]
theorem GL(dr):∀(l:List Item) (i d:Nat),Ip (dZ (fun ø=>true) dr l i) d=tq 0 (dY (cm l)) i d
 |[],i,d=>rfl
 |(k,o,x)::l,i,d=>by
  have ih:=GL dr l (i+1);simp only[gM,fW,eI,E8,E9,dY,cm,bn,dK,qC,iJ]at ih ⊢;simp only[ih]
theorem Mt{α:Type}{l:List α}{s:Nat}{e:α}(h:l[s]?=some e):l=l.take s++e::l.drop (s+1)/\(l.take s).length=s:=by
 have hs:s<l.length:=(eX.mp h).1;refine⟨?_,by rw[nG];omega⟩
 conv=>lhs;rw[<-List.take_append_drop s l]
 congr 1
 rw[pk hs,(eX.mp h).2]
noncomputable def Fb(s:Nat)(o:Option Nat):Option V:=o.map fun p=>V.int ((p:Int)-s)
theorem yC{p:Int->Bool}{dr}{l:List Item}{s:Nat}{e:Item}(h:l[s]?=some e)(hp:p e.1=true)(ho:e.2.1=true):bR (bU (dZ p dr l 0)).1 (bU (dZ p dr l 0)).2 s=Fb s (Ip (dZ p dr (l.drop (s+1)) (s+1)) 0):=by
 obtain⟨hs,hl⟩:=Mt h;have e1:dZ p dr l 0=dZ p dr (l.take s) 0++(s,dr e,e.2.1)::dZ p dr (l.drop (s+1)) (s+1):=by
  conv=>lhs;rw[hs]
  rw[C1,hl,gq];simp only[gM,fW,hp,eI]
 exact OV e1 ho (qF p dr l 0)
theorem Mu{dr}{l:List Item}{s:Nat}{e:Item}(h:l[s]?=some e)(ho:e.2.1=true):((bR (bU (dZ (fun ø=>true) dr l 0)).1 (bU (dZ (fun ø=>true) dr l 0)).2 s).getD (.int 0))= .int (ga (dY (cm l)) s):=by
 rw[yC h rfl ho,GL];have hz:(dY (cm l))[s]?=some (0,e.2.1):=by simp[dY,cm,h]
 have hd:(dY (cm l)).drop (s+1)=dY (cm (l.drop (s+1))):=by simp[dY,cm,nJ]
 unfold ga;rw[hz];dsimp only;rw[hd]
 cases q:tq 0 (dY (cm (l.drop (s+1)))) (s+1) 0 with
 |none=>rfl
 |some p=>
  have:=(AE _ _ _ _ _ q).1;simp only[Fb,m8,kP,rE];exact congrArg V.int (by omega)
theorem OW{dr}{l:List Item}{s:Nat}{e:Item}(h:l[s]?=some e)(ho:e.2.1=true):((bR (bU (dZ (fun k=>decide (k=e.1)) dr l 0)).1 (bU (dZ (fun k=>decide (k=e.1)) dr l 0)).2 s).getD (.int 0))= .int (ga (cm l) s):=by
 rw[yC h (by simp) ho,GJ];have hz:(cm l)[s]?=some (e.1,e.2.1):=by simp[cm,h]
 have hd:(cm l).drop (s+1)=cm (l.drop (s+1)):=by simp[cm,nJ]
 unfold ga;rw[hz];dsimp only;rw[hd]
 cases q:tq e.1 (cm (l.drop (s+1))) (s+1) 0 with
 |none=>rfl
 |some p=>
  have:=(AE _ _ _ _ _ q).1;simp only[Fb,m8,kP,rE];exact congrArg V.int (by omega)
theorem tz:∀(jR:List Int) (gU:List V) (ks:List Int) (vs:List V),ks.length=vs.length->(cW ks vs jR gU).1.length=(cW ks vs jR gU).2.length/\(cW ks vs jR gU).1.length<=ks.length+jR.length
 |[],gU,ks,vs,h=>⟨h,cF _⟩
 |k::jR,[],ks,vs,h=>⟨h,by simp[fm,fo,fq]⟩
 |k::jR,v::gU,ks,vs,h=>by
  have ih:=tz jR gU (cI ks k) (eP ks vs k v) (oE _ _ _ _ h);refine⟨ih.1,aA ih.2 ?_⟩;have:(cI ks k).length<=ks.length+1:=by unfold cI;split<;>simp
  simp only[bA];omega
theorem yD(q:Int):∀(jR:List Int) (gU:List V) (ks:List Int) (vs:List V),ks.length=vs.length->jR.length=gU.length->jR.Nodup->bR (cW ks vs jR gU).1 (cW ks vs jR gU).2 q=(bR jR gU q).or (bR ks vs q)
 |[],[],ks,vs,h,_,_=>by simp[fm,fo,fq,gH,iQ,iR]
 |k::jR,v::gU,ks,vs,h,h2,hn=>by
  rw[gC]at hn;have ih:=yD q jR gU (cI ks k) (eP ks vs k v) (oE _ _ _ _ h) (by simpa using h2) hn.2;simp only[fm,fo,fq];rw[ih,jK _ _ _ _ _ h];simp only[gH,iQ,iR];by_cases e:k=q
  ·subst e
   have:bR jR gU k=none:=by
    clear ih;have go:∀(ks:List Int) (vs:List V),k∉ks->bR ks vs k=none:=by
     intro ks
     induction ks with
     |nil=>intros;rfl
     |cons x ks ih=>
      intro vs hx
      cases vs with
      |nil=>rfl
      |cons v vs=>
       simp only[gH,iQ,iR];rw[az (fun z:x=k=>hx (by rw[z];exact dJ))];exact ih vs fun z=>hx (cw _ z)
    exact go _ _ hn.1
   simp[this]
  ·have:¬q=k:=fun z=>e z.symm
   simp[e,this]
noncomputable def mz{α:Type}(f:α->List Int×List V)(st:List Int×List V)(t:α):List Int×List V:=cW st.1 st.2 (f t).1 (f t).2
theorem Mw{α:Type}{f:α->List Int×List V}{q:Int}{t0:α}(hf:∀t,(f t).1.length=(f t).2.length/\(f t).1.Nodup)(tw:∀t,t≠t0->bR (f t).1 (f t).2 q=none):∀(ts:List α) (st:List Int×List V),st.1.length=st.2.length->(bR st.1 st.2 q=none\/bR st.1 st.2 q=bR (f t0).1 (f t0).2 q)->t0∈ts\/bR st.1 st.2 q=bR (f t0).1 (f t0).2 q->bR (ts.foldl (mz f) st).1 (ts.foldl (mz f) st).2 q=bR (f t0).1 (f t0).2 q
 |[],st,_,h,hm=>by
  rcases hm with hm|hm
  ·cases hm
  ·exact hm
 |t::ts,st,hl,h,hm=>by
  rw[eJ];have hg:=yD q (f t).1 (f t).2 st.1 st.2 hl (hf t).1 (hf t).2;refine Mw hf tw ts _ (tz _ _ _ _ hl).1 ?_ ?_
  ·show bR (cW st.1 st.2 (f t).1 (f t).2).1 _ q=none\/_
   unfold mz;rw[hg];by_cases e:t=t0
   ·subst e
    right;rcases h with h|h
    ·simp[h]
    ·rw[h];simp
   ·rw[tw t e]
    simpa using h
  ·unfold mz
   rw[hg];by_cases e:t=t0
   ·subst e
    right;rcases h with h|h
    ·simp[h]
    ·rw[h];simp
   ·rw[tw t e]
    rcases hm with hm|hm
    ·left
     rcases bp.mp hm with z|z
     ·exact absurd z.symm e
     ·exact z
    ·right
     simpa using hm
noncomputable def numOf(k:Int)(o:Bool):Nat:=if k % 3=0 then(if o then 7 else 8)else if k % 3=1 then(if o then 9 else 10)else(if o then 25 else 26)
noncomputable def xj(k:Int)(o:Bool):Nat:=if k % 3=0 then(if o then 40 else 41)else if k % 3=1 then(if o then 91 else 93)else(if o then 123 else 125)
noncomputable def iG(total k:Int):List Nat:=fw k total++uw (numOf k true)
theorem OX(k:Int)(o:Bool):uw (numOf k o)=uw (numOf k true):=by
 unfold numOf;cases o
 ·split
  ·rfl
  ·split<;>rfl
 ·rfl
theorem OY(k:Int)(o:Bool):(numOf k o % 2==1)=o:=by
 unfold numOf;cases o<;>(split;rfl;split<;>rfl)
theorem OZ(k:Int)(o:Bool):numOf k o∈[7,8,9,10,25,26]:=by
 unfold numOf;cases o<;>(split;decide;split<;>decide)
theorem Ti(k:Int)(o:Bool):xj k o∈[40,41,91,93,123,125]:=by
 unfold xj;cases o<;>(split;decide;split<;>decide)
theorem Qj(k:Int):∀c∈uw (numOf k true),c<58:=by
 unfold numOf;split
 ·decide
 ·split<;>decide
theorem O0:(fZ.all fun e=>decide (172<=e.toNat))=true:=by decide
theorem GM(total:Int)(ht:0<=total):172<=(fZ[(total/26 % 16).toNat]?.getD 0).toNat:=by
 have hl:(total/26 % 16).toNat<fZ.length:=by have:fZ.length=16:=rfl;omega
 rw[dX hl,kP];simpa using cD.mp O0 _ (vb hl)
theorem O1:(j9.all fun l=>(l.length==2||l.length==3)&&l.all fun c=>decide (97<=c)&&decide (c<123))=true:=by decide
theorem Fc(total:Int)(ht:0<=total):((j9[(total/416 % 7).toNat]?.getD []).length=2\/(j9[(total/416 % 7).toNat]?.getD []).length=3)/\∀c∈(j9[(total/416 % 7).toNat]?.getD []),97<=c/\c<123:=by
 have hl:(total/416 % 7).toNat<j9.length:=by have:j9.length=7:=rfl;omega
 rw[dX hl,kP];have:=cD.mp O1 _ (vb hl);simp only[dI,nb,jW,cD,iK]at this;exact this
theorem GN(total k:Int)(ht:0<=total):∀c∈fw k total,97<=c:=by
 intro c hc;unfold fw at hc;split at hc
 ·simp at hc;omega
 ·split at hc
  ·have:=GM total ht
   simp only[bp,qN,nD]at hc;rcases hc with rfl|rfl<;>omega
  ·exact((Fc total ht).2 c hc).1
theorem Mx(total k:Int)(ht:0<=total):(fw k total).length<=3:=by
 unfold fw;split
 ·simp
 ·split
  ·simp
  ·rcases(Fc total ht).1 with h|h<;>omega
theorem My{a a' d d':List Nat}(ha:∀c∈a,97<=c)(XZ:∀c∈a',97<=c)(hd:∀c∈d,c<58)(i1:∀c∈d',c<58)(h:a++d=a'++d'):a=a'/\d=d':=by
 have f1:∀(a d:List Nat),(∀c∈a,97<=c)->(∀c∈d,c<58)->(a++d).filter (fun c=>decide (97<=c))=a:=fun a d ha hd=>by
  rw[DQ,List.filter_eq_self.mpr (fun c hc=>by simpa using ha c hc),List.filter_eq_nil_iff.mpr (fun c hc=>by have:=hd c hc;simp;omega),gn]
 have e:a=a':=by rw[<-f1 a d ha hd,h,f1 a' d' XZ i1]
 subst e;exact⟨rfl,List.append_cancel_left h⟩
theorem three{k:Int}(h:0<=k)(h':k<3):k=0\/k=1\/k=2:=by omega
theorem O2{total k k':Int}(ht:0<=total)(hk:0<=k/\k<9)(zf:0<=k'/\k'<9)(h:iG total k=iG total k'):k=k':=by
 obtain⟨h1,h2⟩:=My (GN total k ht) (GN total k' ht) (Qj k) (Qj k') h;have m:k % 3=k' % 3:=by
  have r1:=three (y6 k (show(3:Int)≠0 by decide)) (y7 k (by decide));have r2:=three (y6 k' (show(3:Int)≠0 by decide)) (y7 k' (by decide));unfold numOf at h2;rcases r1 with a|a|a<;>rcases r2 with b|b|b<;>rw[a,b]at h2 ⊢ <;>revert h2<;>decide
 have d:k/3=k'/3:=by
  have r1:=three (Int.ediv_nonneg hk.1 (show(0:Int)<=3 by decide)) (Int.ediv_lt_of_lt_mul (by decide) hk.2);have r2:=three (Int.ediv_nonneg zf.1 (show(0:Int)<=3 by decide)) (Int.ediv_lt_of_lt_mul (by decide) zf.2);have he:=GM total ht;obtain⟨l1,l2⟩:=Fc total ht;unfold fw at h1;generalize(fZ[(total/26 % 16).toNat]?.getD 0).toNat=ed at*;generalize(j9[(total/416 % 7).toNat]?.getD [])=lg at*;generalize(97+total % 26).toNat=bs at*;rcases r1 with a|a|a<;>rcases r2 with b|b|b<;>rw[a,b]at h1 ⊢ <;>simp at h1 ⊢
  ·subst h1;simp at l1
  ·subst h1
   have:=l2 ed (by simp);omega
  ·subst h1;simp at l1
  ·subst h1
   have:=l2 ed (by simp);omega
 omega
noncomputable def GO:Cx:={vars:=[(Ty,.local,false),(Qu,.local,false),(W6,.cell,false),(IS,.local,false),(Ft,.local,false),(M6,.local,false),(IZ,.local,false),(Yz,.local,true),(YA,.local,false),(TA,.cell,false),(YB,.local,false),(YC,.local,false),(W7,.cell,false),(W8,.cell,true),(T9,.cell,false),(YD,.local,false),(YE,.local,false),(YF,.local,false),(Qv,.local,false),(YG,.local,false),(YH,.local,true),(I0,.cell,false),(Qw,.local,false),(Qx,.local,false)],aM:=[Tz,IN,IO,G5,AR,vj,IP,MZ,T8,s7,DR,IQ,M7,IR]}
noncomputable def Mz:Cx:={vars:=[(IS,.local,false),(Ft,.local,false),(M6,.local,false)],aM:=[]}
noncomputable def Tj:Cx:={vars:=[(Ty,.local,false),(Qu,.local,false),(W6,.cell,false),(IS,.local,false),(Ft,.local,false),(M6,.local,false),(IZ,.local,false),(Yz,.local,false),(YA,.local,false),(TA,.cell,false),(YB,.local,false),(YC,.local,false),(W7,.cell,false),(W8,.cell,true),(T9,.cell,false),(YD,.local,false),(YE,.local,false),(YF,.local,false),(Qv,.local,false),(YG,.local,false),(YH,.local,true),(I0,.cell,false),(Qw,.local,false),(Qx,.local,false)],aM:=[Tz,IN,IO,G5,AR,vj,IP,MZ,T8,s7,DR,IQ,M7,IR]}
noncomputable def It:Cx:={vars:=[(W2,.local,false)],aM:=[MY]}
noncomputable def Iu:Cx:={vars:=[(Qq,.local,false),(TA,.cell,false)],aM:=[]}
noncomputable def Iv:Cx:={vars:=[(Qq,.local,false),(⟨#[116,101,120,116]⟩,.local,false),(Ft,.local,false),(W6,.cell,false)],aM:=[G5]}
noncomputable def Iw:Cx:={vars:=[(T9,.local,false),(Ft,.local,false)],aM:=[]}
noncomputable def Ix:Cx:={vars:=[(⟨#[111,110,101]⟩,.local,false),(T9,.cell,false),(TA,.cell,false)],aM:=[]}
noncomputable def Tk:Cx:={vars:=[(Ty,.local,false),(Qu,.local,false),(W6,.cell,false),(IS,.local,false),(Ft,.local,false),(M6,.local,false),(IZ,.local,false),(Yz,.local,false),(YA,.local,false),(TA,.cell,false),(YB,.local,false),(YC,.local,false),(W7,.cell,false),(W8,.cell,false),(T9,.cell,false),(YD,.local,false),(YE,.local,false),(YF,.local,false),(Qv,.local,false),(YG,.local,false),(YH,.local,true),(I0,.cell,false),(Qw,.local,false),(Qx,.local,false)],aM:=[Tz,IN,IO,G5,AR,vj,IP,MZ,T8,s7,DR,IQ,M7,IR]}
noncomputable def Iy:Cx:={vars:=[(⟨#[111,110,101]⟩,.local,false)],aM:=[]}
noncomputable def Iz:Cx:={vars:=[(Qq,.local,false),(TA,.cell,false)],aM:=[]}
noncomputable def IB:Cx:={vars:=[(Qq,.local,false),(W7,.cell,false)],aM:=[]}
noncomputable def Fd:Cx:={vars:=[(Qq,.local,false),(W8,.cell,false)],aM:=[]}
noncomputable def Fe:Cx:={vars:=[(IS,.local,false),(Ft,.local,false)],aM:=[]}
noncomputable def Ff:Cx:={vars:=[(⟨#[114,117,110,115]⟩,.local,false),(I0,.cell,false)],aM:=[Tz]}
noncomputable def Fg:Cx:={vars:=[(⟨#[114,117,110]⟩,.local,false),(I0,.cell,false)],aM:=[]}
noncomputable def C2{P:Pk}{n:Nat}{C N:Addr}{mN:Str->Option Value}(W:cP P C N mN)(t7:P.glob Tz=some (.builtin "sum")){mB:Addr}{xl:List V->Option V}(Fh:P.glob IN=some (.ref mB))(Fi:∀h,P.G h->∃o fd,h.get? mB=some o/\o.data= .func fd)(Fj:aZ P n (.ref mB) xl){kh:Addr}{ud:List V->Option V}(C3:P.glob IO=some (.ref kh))(C4:∀h,P.G h->∃o fd,h.get? kh=some o/\o.data= .func fd)(C5:aZ P n (.ref kh) ud){io:Addr}{pH:List V->Option V}(pI:P.glob G5=some (.ref io))(pJ:∀h,P.G h->∃o fd,h.get? io=some o/\o.data= .func fd)(pK:aZ P n (.ref io) pH)(bz:P.glob AR=some (.type "range"))(cb:P.glob vj=some (.builtin "len")){ki:Addr}{ue:List V->Option V}(uf:P.glob IP=some (.ref ki))(ug:∀h,P.G h->∃o fd,h.get? ki=some o/\o.data= .func fd)(uh:aZ P n (.ref ki) ue)(eQ:P.glob MZ=some (.builtin "sorted"))(wW:P.glob T8=some (.type "set")){bb:Addr}{cA:List V->Option V}(fH:P.glob s7=some (.ref bb))(fJ:∀h,P.G h->∃o fd,h.get? bb=some o/\o.data= .func fd)(fL:aZ P n (.ref bb) cA)(gL:P.glob DR=some (.ref C)){jL:List V->Option (List V)}(pL:EF P n C jL){i0:Addr}{rG:List V->Option V}(rH:P.glob IQ=some (.ref i0))(rI:∀h,P.G h->∃o fd,h.get? i0=some o/\o.data= .func fd)(rJ:aZ P n (.ref i0) rG)(ls:P.glob M7=some (.builtin "max")){iu:Addr}{pM:List V->Option V}(xS:P.glob IR=some (.ref iu))(xT:∀h,P.G h->∃o fd,h.get? iu=some o/\o.data= .func fd)(xU:aZ P n (.ref iu) pM){kj:Addr}{ui:List V->Option V}(C6:P.glob MY=some (.ref kj))(C7:∀h,P.G h->∃o fd,h.get? kj=some o/\o.data= .func fd)(C8:aZ P n (.ref kj) ui){cc:Addr}{fM:List V->Option V}(dp:mN MX=some (.ref cc))(bo:∀h,P.G h->∃of fd,h.get? cc=some of/\of.cls= .type "function"/\of.data= .func fd)(dq:typeLookup (.type "object") MX=pure none)(dt:aZ P n (.ref cc) fM){ee:Addr}{iP:List V->Option V}(pd:mN Po=some (.ref ee))(cS:∀h,P.G h->∃of fd,h.get? ee=some of/\of.cls= .type "function"/\of.data= .func fd)(pe:typeLookup (.type "object") Po=pure none)(pf:aZ P n (.ref ee) iP){uO:Addr}{GQ:List V->Option V}(O3:mN Pn=some (.ref uO))(rC:∀h,P.G h->∃of fd,h.get? uO=some of/\of.cls= .type "function"/\of.data= .func fd)(O4:typeLookup (.type "object") Pn=pure none)(AH:aZ P n (.ref uO) GQ):{f:al->Option V//Og P n GO (dz (aJ pq.main.body 69)) f}:=⟨_,(@bk _ _ _ _ _ _ _ (@aD _ _ _ 1 _ _ _ _ _ _ rfl (by decide) (@ai _ _ _ _ _ _ _ _ _ _ _ f6 (@aI _ _ _ _ _ _ _ _ _ _ _ rfl t7 rfl PF (@O _ _ _ _ _ _ _ _ (bC (Z 0 rfl rfl rfl) aO (bt aa) aO) ab ir) ir (cf _ _)) (ai Ps aa aa)) cp) (@bk _ _ _ _ _ _ _ (@aD _ _ _ 2 _ _ _ _ _ _ rfl (by decide) (@bq _ _ _ _ _ _ _ _ _ _ _ rfl Fh rfl Fi Fj (O (Z 0 rfl rfl rfl) (O (Z 1 rfl rfl rfl) ab ir) ir) ir (cf _ _)) cp) (@bk _ _ _ _ _ _ _ (@g9 _ _ _ (Mz) 6 _ _ _ _ _ _ _ _ _ _ _ _ _ _ (3) ([]) rfl (bQ (Z 2 rfl rfl rfl)) (bB (by decide+kernel)) (@da _ _ _ _ _ _ _ (@ay _ _ _ _ _ _ _ (ap 0 rfl (by decide) (by decide)) (ay (ap 1 rfl (by decide) (by decide)) (ay (ap 2 rfl (by decide) (by decide)) bX))) (aE (aE (aE cH))) ir) bY (@ct _ _ _ _ _ _ _ _ (O (Z 0 rfl rfl rfl) (O (Z 1 rfl rfl rfl) ab ir) ir) (by decide) (af (af len0))) cp rfl rfl) (@bk _ _ _ _ _ _ _ (dh 7 rfl (by decide) (fT ab (by decide) len0) cp) (@bk _ _ _ _ _ _ _ (@fU _ _ _ (false) _ _ _ _ _ _ _ (bQ (Z 2 rfl rfl rfl)) (@da _ _ _ _ _ _ _ (@ay _ _ _ _ _ _ _ (ap 3 rfl (by decide) (by decide)) (ay (ap 4 rfl (by decide) (by decide)) (ay (ap 5 rfl (by decide) (by decide)) bX))) (aE (aE (aE cH))) ir) (@ac _ _ _ _ _ _ _ (@aD _ _ _ 8 _ _ _ _ _ _ rfl (by decide) (@r8 _ _ _ _ _ _ _ _ _ _ _ (fP (ae (Z 4 rfl rfl rfl)) cp) (@aF _ _ _ _ _ _ _ _ _ (aC rfl) (ai f6 (ae (Z 3 rfl rfl rfl)) aa) cp) (@aF _ _ _ _ _ _ _ _ _ (aC rfl) (ai f6 (ae (Z 3 rfl rfl rfl)) aa) cp)) cp) (@ac _ _ _ _ _ _ _ (@di _ _ _ _ _ _ (@cu _ _ _ 7 _ _ _ _ _ _ _ _ _ rfl rfl rfl qV (@O _ _ _ _ _ _ _ _ (@ai _ _ _ _ _ _ _ _ _ _ _ cy (@ai _ _ _ _ _ _ _ _ _ _ _ cy (@bq _ _ _ _ _ _ _ _ _ _ _ rfl C3 rfl C4 C5 (@O _ _ _ _ _ _ _ _ (Z 3 rfl rfl rfl) (O (Z 1 rfl rfl rfl) (O (Z 5 rfl rfl rfl) ab ir) ir) ir) ir (cf _ _)) (bq rfl pI rfl pJ pK (O (Z 5 rfl rfl rfl) ab ir) ir (cf _ _))) (Z 8 rfl rfl rfl)) ab ir) ir (by decide) rfl ir) gI ir) aj)) cp) (@rr _ _ _ (Tj) 7 _ _ _ _ rfl rfl rfl (@bk _ _ _ _ _ _ _ (@aD _ _ _ 9 _ _ _ _ _ _ rfl (by decide) (@dL _ _ _ _ _ _ (@dj _ _ _ (It) _ _ _ _ _ _ _ _ _ _ (1) ([]) (bQ (Z 7 rfl rfl rfl)) (bB (by decide+kernel)) (ap 0 rfl (by decide) (by decide)) bY (bq rfl C6 rfl C7 C8 (O (Z 0 rfl rfl rfl) ab ir) ir (cf _ _)) cp)) (fun ø h=>D8 h (by decide))) (@bk _ _ _ _ _ _ _ (@g9 _ _ _ (Iu) 10 _ _ _ _ _ _ _ _ _ _ _ _ _ _ (1) ([9]) rfl (@fh _ _ _ _ _ _ _ rfl bz (@O _ _ _ _ _ _ _ _ (aI rfl cb rfl jn (O (Z 9 rfl rfl rfl) ab ir) ir (cf _ _)) ab ir) ir (cf _ _)) (bB (by decide+kernel)) (ap 0 rfl (by decide) (by decide)) bY (@ct _ _ _ _ _ _ _ _ (@O _ _ _ _ _ _ _ _ (Z 0 rfl rfl rfl) (@O _ _ _ _ _ _ _ _ (@r8 _ _ _ _ _ _ _ _ _ _ _ (@fP _ _ _ _ _ (@aF _ _ _ _ _ _ _ _ _ (aF (ae (Z 1 rfl rfl rfl)) (ae (Z 0 rfl rfl rfl)) cp) aa cp) cp) (aC rfl) (aC rfl)) (@O _ _ _ _ _ _ _ _ (@aF _ _ _ _ _ _ _ _ _ (aF (Z 1 rfl rfl rfl) (ae (Z 0 rfl rfl rfl)) cp) aa cp) ab ir) ir) ir) (by decide) (af (af (af len0)))) cp rfl rfl) (@bk _ _ _ _ _ _ _ (@g9 _ _ _ (Iv) 11 _ _ _ _ _ _ _ _ _ _ _ _ _ _ (3) ([2]) rfl (bQ (Z 10 rfl rfl rfl)) (bB (by decide+kernel)) (@da _ _ _ _ _ _ _ (@ay _ _ _ _ _ _ _ (ap 0 rfl (by decide) (by decide)) (ay (ap 1 rfl (by decide) (by decide)) (ay (ap 2 rfl (by decide) (by decide)) bX))) (aE (aE (aE cH))) ir) bY (@ct _ _ _ _ _ _ _ _ (@O _ _ _ _ _ _ _ _ (Z 0 rfl rfl rfl) (@O _ _ _ _ _ _ _ _ (@ai _ _ _ _ _ _ _ _ _ _ _ cy (@bq _ _ _ _ _ _ _ _ _ _ _ rfl pI rfl pJ pK (@O _ _ _ _ _ _ _ _ (@aF _ _ _ _ _ _ _ _ _ (aF (Z 3 rfl rfl rfl) (ae (Z 0 rfl rfl rfl)) cp) aa cp) ab ir) ir (cf _ _)) (Z 1 rfl rfl rfl)) (O (Z 2 rfl rfl rfl) ab ir) ir) ir) (by decide) (af (af (af len0)))) cp rfl rfl) (@bk _ _ _ _ _ _ _ (@aD _ _ _ 12 _ _ _ _ _ _ rfl (by decide) (bq rfl uf rfl ug uh (O (Z 11 rfl rfl rfl) ab ir) ir (cf _ _)) cp) (@bk _ _ _ _ _ _ _ (dh 13 rfl (by decide) j4 cp) (@bk _ _ _ _ _ _ _ (@fU _ _ _ (false) _ _ _ _ _ _ _ (@bQ _ _ _ _ _ (@dL _ _ _ _ _ _ (@uv _ _ _ _ _ _ _ _ _ _ _ rfl eQ rfl rfl wW rfl (@ae _ _ _ _ _ (@dL _ _ _ _ _ _ (@dj _ _ _ (Iw) _ _ _ _ _ _ _ _ _ _ (2) ([]) (bQ (Z 9 rfl rfl rfl)) (bB (by decide+kernel)) (@da _ _ _ _ _ _ _ (ay (ap 0 rfl (by decide) (by decide)) (ay (ap 1 rfl (by decide) (by decide)) bX)) (aE (aE cH)) ir) bY (Z 0 rfl rfl rfl) cp))) ir ir))) (ap 14 rfl (by decide) (by decide)) (@ac _ _ _ _ _ _ _ (@di _ _ _ _ _ _ (@cu _ _ _ 13 _ _ _ _ _ _ _ _ _ rfl rfl rfl UE (@O _ _ _ _ _ _ _ _ (@bq _ _ _ _ _ _ _ _ _ _ _ rfl uf rfl ug uh (@O _ _ _ _ _ _ _ _ (@dL _ _ _ _ _ _ (@dj _ _ _ (Ix) _ _ _ _ _ _ _ _ _ _ (1) ([14,9]) (bQ (Z 10 rfl rfl rfl)) (bB (by decide+kernel)) (ap 0 rfl (by decide) (by decide)) (@qb _ _ _ _ _ (@aR _ _ _ _ _ _ _ _ _ _ qU (@aF _ _ _ _ _ _ _ _ _ (@aF _ _ _ _ _ _ _ _ _ (ae (Z 2 rfl rfl rfl)) (aF (ae (Z 0 rfl rfl rfl)) aa cp) cp) aa cp) (ae (Z 1 rfl rfl rfl)) rfl)) (Z 0 rfl rfl rfl) cp)) ab ir) ir (cf _ _)) ab ir) ir (by decide) rfl ir) Lc ir) aj) cp) (@rr _ _ _ (Tk) 13 _ _ _ _ rfl rfl rfl (@bk _ _ _ _ _ _ _ (@aT _ _ _ _ _ _ _ _ _ _ (@aR _ _ _ _ _ _ _ _ _ _ Fv (@bq _ _ _ _ _ _ _ _ _ _ _ rfl fH rfl fJ fL (@O _ _ _ _ _ _ _ _ (@eE _ _ _ _ _ _ _ _ _ _ _ _ (aC rfl) qY (@O _ _ _ _ _ _ _ _ (@ae _ _ _ _ _ (@dL _ _ _ _ _ _ (@dj _ _ _ (Iy) _ _ _ _ _ _ _ _ _ _ (1) ([]) (@bQ _ _ _ _ _ (@ai _ _ _ _ _ _ _ _ _ _ _ cy (bC (Z 11 rfl rfl rfl) (bt aa) aO aO) (bC (Z 11 rfl rfl rfl) aO (bt aa) aO))) (bB (by decide+kernel)) (ap 0 rfl (by decide) (by decide)) bY (aF (Z 0 rfl rfl rfl) aa cp) cp))) ab ir) ir (by decide) rfl ir) ab ir) ir (cf _ _)) df rfl) (ac (aX df) aj) aj) (@bk _ _ _ _ _ _ _ (@g9 _ _ _ (Iz) 15 _ _ _ _ _ _ _ _ _ _ _ _ _ _ (1) ([9]) rfl (@fh _ _ _ _ _ _ _ rfl bz (@O _ _ _ _ _ _ _ _ (@ai _ _ _ _ _ _ _ _ _ _ _ tB (aI rfl cb rfl jn (O (Z 9 rfl rfl rfl) ab ir) ir (cf _ _)) aa) (@O _ _ _ _ _ _ _ _ (dc aa) (O (dc aa) ab ir) ir) ir) ir (cf _ _)) (bB (by decide+kernel)) (ap 0 rfl (by decide) (by decide)) (@qb _ _ _ _ _ (@fP _ _ _ _ _ (@aF _ _ _ _ _ _ _ _ _ (aF (ae (Z 1 rfl rfl rfl)) (ae (Z 0 rfl rfl rfl)) cp) aa cp) cp)) (Z 0 rfl rfl rfl) cp rfl rfl) (@bk _ _ _ _ _ _ _ (@aD _ _ _ 16 _ _ _ _ _ _ rfl (by decide) (@eM.mk _ _ _ _ _ _ pL _ _ _ _ _ rfl gL rfl (@O _ _ _ _ _ _ _ _ (@ai _ _ _ _ _ _ _ _ _ _ _ cy (@ai _ _ _ _ _ _ _ _ _ _ _ cy (@eE _ _ _ _ _ _ _ _ _ _ _ _ (aC rfl) qY (@O _ _ _ _ _ _ _ _ (@dL _ _ _ _ _ _ (@dj _ _ _ (IB) _ _ _ _ _ _ _ _ _ _ (1) ([12]) (bQ (Z 15 rfl rfl rfl)) (bB (by decide+kernel)) (ap 0 rfl (by decide) (by decide)) bY (@ai _ _ _ _ _ _ _ _ _ _ _ tC (aC rfl) (@eE _ _ _ _ _ _ _ _ _ _ _ _ (Z 1 rfl rfl rfl) Jx (O (Z 0 rfl rfl rfl) (O aa ab ir) ir) ir (by decide) rfl ir)) cp)) ab ir) ir (by decide) rfl ir) (aF (Z 7 rfl rfl rfl) aa cp)) (aC rfl)) ab ir) ir) cp) (@bk _ _ _ _ _ _ _ (@aD _ _ _ 17 _ _ _ _ _ _ rfl (by decide) (@eM.mk _ _ _ _ _ _ pL _ _ _ _ _ rfl gL rfl (@O _ _ _ _ _ _ _ _ (@ai _ _ _ _ _ _ _ _ _ _ _ cy (@eE _ _ _ _ _ _ _ _ _ _ _ _ (aC rfl) qY (@O _ _ _ _ _ _ _ _ (@dL _ _ _ _ _ _ (@dj _ _ _ (Fd) _ _ _ _ _ _ _ _ _ _ (1) ([13]) (@bQ _ _ _ _ _ (@ai _ _ _ _ _ _ _ _ _ _ _ cy (@bC _ _ _ _ _ _ _ _ _ _ _ _ _ _ (Z 15 rfl rfl rfl) (bt (dc aa)) aO (bt (dc aa))) (@bC _ _ _ _ _ _ _ _ _ _ _ _ _ _ (Z 15 rfl rfl rfl) (bt (dc aa)) aO aO))) (bB (by decide+kernel)) (ap 0 rfl (by decide) (by decide)) bY (@ai _ _ _ _ _ _ _ _ _ _ _ tC (aC rfl) (@eE _ _ _ _ _ _ _ _ _ _ _ _ (Z 1 rfl rfl rfl) Jx (O (Z 0 rfl rfl rfl) (O aa ab ir) ir) ir (by decide) rfl ir)) cp)) ab ir) ir (by decide) rfl ir) (aF (Z 7 rfl rfl rfl) (dc aa) cp)) ab ir) ir) cp) (@bk _ _ _ _ _ _ _ (@aD _ _ _ 18 _ _ _ _ _ _ rfl (by decide) (@bq _ _ _ _ _ _ _ _ _ _ _ rfl rH rfl rI rJ (@O _ _ _ _ _ _ _ _ (@dL _ _ _ _ _ _ (@dj _ _ _ (Fe) _ _ _ _ _ _ _ _ _ _ (2) ([]) (bQ (Z 6 rfl rfl rfl)) (bB (by decide+kernel)) (@da _ _ _ _ _ _ _ (ay (ap 0 rfl (by decide) (by decide)) (ay (ap 1 rfl (by decide) (by decide)) bX)) (aE (aE cH)) ir) bY (@ct _ _ _ _ _ _ _ _ (O aa (O (Z 1 rfl rfl rfl) ab ir) ir) (by decide) (af (af len0))) cp)) ab ir) ir (cf _ _)) cp) (@bk _ _ _ _ _ _ _ (@aD _ _ _ 19 _ _ _ _ _ _ rfl (by decide) (bq rfl rH rfl rI rJ (O (Z 6 rfl rfl rfl) ab ir) ir (cf _ _)) cp) (@bk _ _ _ _ _ _ _ (dh 20 rfl (by decide) (fT ab (by decide) len0) cp) (@bk _ _ _ _ _ _ _ (@fU _ _ _ (false) _ _ _ _ _ _ _ (@fh _ _ _ _ _ _ _ rfl bz (@O _ _ _ _ _ _ _ _ aa (@O _ _ _ _ _ _ _ _ (@ai _ _ _ _ _ _ _ _ _ _ _ cy (@aI _ _ _ _ _ _ _ _ _ _ _ rfl ls rfl Jt (O (ai cy (Z 18 rfl rfl rfl) (Z 19 rfl rfl rfl)) ab ir) ir (cf _ _)) aa) ab ir) ir) ir (cf _ _)) (ap 21 rfl (by decide) (by decide)) (@ac _ _ _ _ _ _ _ (@oJ _ _ _ _ _ _ _ _ (@Hp _ _ _ _ _ _ _ (ay (ap 22 rfl (by decide) (by decide)) (ay (ap 23 rfl (by decide) (by decide)) bX)) (aE (aE cH)) ir) (@dL _ _ _ _ _ _ (@dj _ _ _ (Ff) _ _ _ _ _ _ _ _ _ _ (1) ([21]) (@bQ _ _ _ _ _ (@ct _ _ _ _ _ _ _ _ (O (Z 18 rfl rfl rfl) (O (Z 19 rfl rfl rfl) ab ir) ir) (by decide) (af (af len0)))) (bB (by decide+kernel)) (ap 0 rfl (by decide) (by decide)) bY (@ai _ _ _ _ _ _ _ _ _ _ _ cy (@aI _ _ _ _ _ _ _ _ _ _ _ rfl t7 rfl PF (@O _ _ _ _ _ _ _ _ (@dL _ _ _ _ _ _ (@dj _ _ _ (Fg) _ _ _ _ _ _ _ _ _ _ (1) ([1]) (@bQ _ _ _ _ _ (@bC _ _ _ _ _ _ _ _ _ _ _ _ _ _ (Z 0 rfl rfl rfl) aO (bt (dc aa)) aO)) (bB (by decide+kernel)) (ap 0 rfl (by decide) (by decide)) bY (@ai _ _ _ _ _ _ _ _ _ _ _ cy (ai tB (Z 0 rfl rfl rfl) (ai f6 (Z 0 rfl rfl rfl) (Z 1 rfl rfl rfl))) (Z 1 rfl rfl rfl)) cp)) ab ir) ir (cf _ _)) (aF (Z 0 rfl rfl rfl) (dc aa) cp)) cp)) ir ir ir) (@ac _ _ _ _ _ _ _ (@aT _ _ _ _ _ _ _ _ _ _ (@aR _ _ _ _ _ _ _ _ _ _ vm (@ct _ _ _ _ _ _ _ _ (@O _ _ _ _ _ _ _ _ (@cX _ _ _ _ _ _ _ W _ _ _ _ _ _ _ _ _ (ae (Z 16 rfl rfl rfl)) dp bo _ dq (by decide+kernel) dt (O (ae (Z 21 rfl rfl rfl)) ab ir) ir (by decide) rfl ir) (@O _ _ _ _ _ _ _ _ (@cX _ _ _ _ _ _ _ W _ _ _ _ _ _ _ _ _ (ae (Z 17 rfl rfl rfl)) dp bo _ dq (by decide+kernel) dt (O (ae (Z 21 rfl rfl rfl)) ab ir) ir (by decide) rfl ir) ab ir) ir) (by decide) (af (af len0))) (@ct _ _ _ _ _ _ _ _ (@O _ _ _ _ _ _ _ _ (ae (Z 22 rfl rfl rfl)) (O (ae (Z 23 rfl rfl rfl)) ab ir) ir) (by decide) (af (af len0))) rfl) (ac (aX df) aj) aj) (@ac _ _ _ _ _ _ _ (@aT _ _ _ _ _ _ _ _ _ _ (aR vm (ae (Z 22 rfl rfl rfl)) (ae (Z 23 rfl rfl rfl)) rfl) (@ac _ _ _ _ _ _ _ (@di _ _ _ _ _ _ (@cu _ _ _ 20 _ _ _ _ _ _ _ _ _ rfl rfl rfl qV (@O _ _ _ _ _ _ _ _ (@ct _ _ _ _ _ _ _ _ (@O _ _ _ _ _ _ _ _ (Z 21 rfl rfl rfl) (O (Z 22 rfl rfl rfl) (O (Z 23 rfl rfl rfl) ab ir) ir) ir) (by decide) (af (af (af len0)))) ab ir) ir (by decide) rfl ir) gI ir) aj) aj) aj))) cp) (@bk _ _ _ _ _ _ _ (@aT _ _ _ _ _ _ _ _ _ _ (@aR _ _ _ _ _ _ _ _ _ _ vm (@cX _ _ _ _ _ _ _ W _ _ _ _ _ _ _ _ _ (ae (Z 16 rfl rfl rfl)) pd cS _ pe (by decide+kernel) pf (O (ae (Z 17 rfl rfl rfl)) ab ir) ir (by decide) rfl ir) (cG 20 rfl rfl rfl) rfl) (ac (aX df) aj) aj) (@Ld _ _ _ _ _ (@ac _ _ _ _ _ _ _ (@aX _ _ _ _ _ _ (@kQ _ _ _ _ _ _ _ _ _ _ _ Uc (@cX _ _ _ _ _ _ _ W _ _ _ _ _ _ _ _ _ (ae (Z 16 rfl rfl rfl)) O3 rC _ O4 (by decide+kernel) AH (O (ae (Z 17 rfl rfl rfl)) ab ir) ir (by decide) rfl ir) (@bq _ _ _ _ _ _ _ _ _ _ _ rfl xS rfl xT xU (O (ae (Z 6 rfl rfl rfl)) ab ir) ir (cf _ _)) rfl)) aj))))))))))))))))))))))))⟩
theorem dw{i:Nat}{f:al->Option V}{g:al->Option V}{ρ:al}{v w:V}(h:f ρ=some v)(hg:g (upd ρ i v)=some w):HD (fun ρ=>Option.map (fun y=>(upd ρ i y,.next)) (f ρ)) g ρ=some w:=by
 have e:Option.map (fun y=>(upd ρ i y,Fl.next)) (f ρ)=some (upd ρ i v,.next):=by rw[h];rfl
 unfold HD;dsimp only;rw[e];exact hg
theorem AI{f g ρ am}{w:V}(h:f ρ=some (am,.next))(hg:g am=some w):HD f g ρ=some w:=by
 unfold HD;rw[h];exact hg
theorem MA{i:Nat}{g:al->Option V}{ρ:al}{x w:V}(h:ρ i=some x)(hg:g ρ=some w):(fun ρ:al=>(ρ i).bind fun ø=>g ρ) ρ=some w:=by
 simp only[h,cR];exact hg
theorem xm{it asg bf g}{ρ:al}{w:V}{xs:List V}{Q:al->Prop}(hi:it ρ=some xs)(h:∃r,fg asg bf xs ρ=some r/\r.2= .next/\Q r.1)(hg:∀am,Q am->g am=some w):HD (Hb it asg bf) g ρ=some w:=by
 obtain⟨⟨am,fl⟩,e,rfl,q⟩:=h;exact AI (am:=am) (by simp only[Hb,hi,cR,e]) (hg _ q)
theorem Tl(n:Nat):IV ((n:Int)-1) (-1) (-1)=((List.range n).reverse).map fun(k:Nat)=>V.int k:=by
 have e:(Builtin.Range.rangeSize ((n:Int)-1) (-1) (-1)).toNat=n:=by
  rw[pv];split<;>omega
 unfold IV;rw[e];refine List.ext_getElem (by rw[bi,j0,bi,pT,j0]) fun j h1 h2=>?_
 rw[bi,j0]at h1;rw[List.getElem_map,DO,List.getElem_map,List.getElem_reverse,DO,j0];obtain⟨m,hm⟩:=yO h1;rw[hm,show j+m+1-1-j=m from Nat.add_sub_cancel_left ..];exact congrArg V.int (by omega)
theorem Fk{l:List V}(h1:1<=l.length)(hm:l.length<=most):eT (.list l) (some (-1)) none none=some (.list (l.drop (l.length-1))):=by
 have e:clip (some (-1:Int)) 0 l.length=l.length-1:=lq (k:=1) 0 (by decide) h1;rw[nV,aw ⟨hm,nofun⟩,uH,e];exact congrArg (fun z=>some (V.list z)) (rQ (iM m7))
theorem xn{α β:Type}{f g:α->Option β}:∀{l:List α},(∀x∈l,f x=g x)->l.filterMap f=l.filterMap g
 |[],_=>rfl
 |x::l,h=>by
  rw[nr,nr,h x dJ,xn (l:=l) fun y hy=>h y (cw _ hy)]
theorem IC{α:Type}(l:List α):∀n:Nat,n<=l.length->(List.range n).filterMap (fun k=>l[n-1-k]?)=(l.take n).reverse:=by
 intro n
 induction n with
 |zero=>exact fun ø=>rfl
 |succ n ih=>
  intro h;have e:((List.range n).filterMap fun k=>l[n+1-1-(k+1)]?)=(l.take n).reverse:=(xn fun k ø=>by rw[show n+1-1-(k+1)=n-1-k by omega]).trans (ih (u9 h));rw[List.range_succ_eq_map,nr,List.filterMap_map,List.take_succ_eq_append_getElem h,List.reverse_append,<-e];show(match l[n]? with|none=>_|some b=>b::_)=_;rw[dX h];rfl
theorem Fm{l:List V}(h1:2<=l.length)(hm:l.length<=most):eT (.list l) (some (-2)) none (some (-1))=some (.list l.dropLast.reverse):=by
 have q: -2+(l.length:Int)=((l.length-2:Nat):Int):=by rw[Int.ofNat_sub h1,Int.add_comm];rfl
 have e0:max (-1) (min (-2+(l.length:Int)) ((l.length:Int)-1))=((l.length-2:Nat):Int):=by
  rw[Int.min_eq_left (by rw[Int.add_comm];exact Int.sub_le_sub_left (by decide:(1:Int)<=2) _),q];exact r0 (pn (by decide) (mF _))
 have e1:sliceBounds (some (-2)) none (some (-1)) l.length=(((l.length-2:Nat):Int),-1,-1):=congrArg (fun z=>(z,(-1:Int),(-1:Int))) e0;have e2:(if((l.length-2:Nat):Int)> -1 then(((l.length-2:Nat):Int)- -1- -1-1)/1 else 0).toNat=l.length-1:=by
  rw[aw (Dv (by decide) (mF _)),Int.ediv_one];show(((l.length-2:Nat):Int)+1+1-1).toNat=_;rw[DJ];exact rP (Nat.le_sub_one_of_lt h1)
 have e3:sliceRange ((l.length-2:Nat):Int) (-1) (-1)=(List.range (l.length-1)).map fun(k:Nat)=>(((l.length-2:Nat):Int)+ -1*(k:Int)).toNat:=congrArg (fun z=>(List.range z).map fun(k:Nat)=>(((l.length-2:Nat):Int)+ -1*(k:Int)).toNat) e2
 rw[nV,aw ⟨hm,nofun⟩];unfold pick;rw[e1];dsimp only;rw[e3,List.filterMap_map,List.dropLast_eq_take,<-IC l (l.length-1) (r4 _ _)];exact congrArg (fun z=>some (V.list z)) (xn fun k ø=>congrArg (fun z=>l[z]?) (by show(((l.length-2:Nat):Int)+ -1*(k:Int)).toNat=_;rw[Int.neg_one_mul,<-Int.sub_eq_add_neg,Int.toNat_sub];rfl))
theorem lC(dr):∀(l:List Item) (i k:Nat),(dZ (fun ø=>true) dr l i)[k]?=(l[k]?).map fun e=>(i+k,dr e,e.2.1)
 |[],i,k=>by simp[gM,fW]
 |e::l,i,0=>by simp[gM,fW]
 |e::l,i,k+1=>by
  simp only[gM,fW,eI,DP,lC dr l (i+1) k];have:i+1+k=i+(k+1):=by omega
  rw[this]
theorem rK(dr)(l:List Item)(i:Nat):(dZ (fun ø=>true) dr l i).length=l.length:=by
 induction l generalizing i with
 |nil=>rfl
 |cons e l ih=>simp[gM,fW,ih]
theorem Fn(dr)(l:List Item)(g:Nat->V)(h:∀k e,l[k]?=some e->g k=mV (k,dr e,e.2.1)):(List.range l.length).map g=(dZ (fun ø=>true) dr l 0).map mV:=by
 refine ve fun k=>?_
 rw[bL,bL,lC];by_cases q:k<l.length
 ·rw[Ds q,dX q]
  simp only[m8,gq];rw[h k _ (dX q)]
 ·rw[iL (by simp;omega),iL (by omega)]
  rfl
theorem MB(dr dr')(l:List Item)(g:RItem->RItem)(h:∀k e,l[k]?=some e->g (k,dr e,e.2.1)=(k,dr' e,e.2.1)):(dZ (fun ø=>true) dr l 0).map g=dZ (fun ø=>true) dr' l 0:=by
 refine ve fun k=>?_
 rw[bL,lC,lC];by_cases q:k<l.length
 ·rw[dX q]
  simp only[m8,gq];rw[h k _ (dX q)]
 ·rw[iL (by omega)]
  rfl
theorem uj(dr)(q:Int->Bool)(g:RItem->Bool):∀(l:List Item) (i:Nat),(∀k e,l[k]?=some e->g (i+k,dr e,e.2.1)=q e.1)->(dZ (fun ø=>true) dr l i).filter g=dZ q dr l i
 |[],i,_=>rfl
 |e::l,i,h=>by
  have h0:=h 0 e rfl;rw[m6]at h0;have ih:=uj dr q g l (i+1) fun k e' he=>by
   have:=h (k+1) e' (by simpa using he);have e3:i+(k+1)=i+1+k:=by omega
   rw[e3]at this;exact this
  simp only[gM,fW,eI,List.filter_cons,h0,ih]
theorem ID(t:List Nat)(ts:List (List Nat)):t∈pB (EC ts)<->t∈ts:=by
 unfold pB;rw[(u5 _ _).mem_iff];unfold EC;have go:∀(l acc:List (List Nat)),t∈l.foldl (fun ks k=>if k∈ks then ks else ks++[k]) acc<->t∈acc\/t∈l:=by
  intro l
  induction l with
  |nil=>intro acc;simp
  |cons x l ih=>
   intro acc;rw[eJ,ih];by_cases q:x∈acc
   ·rw[aw q]
    constructor
    ·rintro(h|h)
     ·exact .inl h
     ·exact .inr (cw _ h)
    ·rintro(h|h)
     ·exact .inl h
     ·rcases bp.mp h with rfl|h
      ·exact .inl q
      ·exact .inr h
   ·rw[az q]
    simp[or_assoc]
 rw[go];simp
noncomputable def gN(script:List Int):Int:=(script.take 63).sum % 1000000
theorem ints_map:∀l:List Int,j2 (l.map .int)=some l
 |[]=>rfl
 |x::l=>by rw[bn,Bn,ints_map l];rfl
theorem sum_ints(l:List Int):zk [.list (l.map .int)]=some (.int l.sum):=by rw[Q3,ints_map];rfl
theorem MC{ρ:al}{script:List Int}(hs:script.length<=63)(h0:ρ 0=some (.list (script.map .int))):
  dA p9 (eD zk (aQ (jm (fun ρ=>ρ 0) (fun x=>some none) (fun ρ=>(some (V.int 63)).bind mJ) fun x=>some none) fun x=>some [])) (dA QC (fun x=>some (V.int 10)) fun x=>some (V.int 6)) ρ=some (.int (gN script)):=
 md (bJ (eA h0 rfl rfl rfl (me _ 63 (by rw[bi];exact aA hs (by decide)))) (by rw[<-List.map_take];exact sum_ints _)) rfl
theorem Tm{ρ:al}{its:List Item}(hl:its.length<=8)(h2:ρ 2=some (.list (its.map Au))):
  fj (fun ρ=>(ρ 2).bind elems) (tK (dP (fun ρ y=>some (upd ρ 0 y)) (dP (fun ρ y=>some (upd ρ 1 y)) (dP (fun ρ y=>some (upd ρ 2 y)) pu)))) (fun x=>some true)
   (fun ρ=>Option.map V.tup (aQ (fun ρ=>ρ 0) (aQ (fun ρ=>ρ 1) fun x=>some []) ρ)) 3 [] ρ=some (mU (cm its)):=
 (db (fun ø=>True) its Au (fun e=>.tup [.int e.1,.bool e.2.1]) (dy h2 rfl) (LC hl) (fun e he ρ ø=>⟨_,rfl,trivial,rfl⟩) trivial).trans (congrArg (fun z=>some (V.list z)) (dK (g:=fun e:Int×Bool=>V.tup [.int e.1,.bool e.2]) (f:=fun e:Item=>(e.1,e.2.1)) (l:=its)).symm)
noncomputable def MD(nm:Item->List Nat)(e:Item):List Nat:=nm e++(fX e.2.2).flatten++[xj e.1 e.2.1]
theorem GT(k:Int):gt (.str [40,91,123]) (.int (k % 3))=some (.str [xj k true])/\gt (.str [41,93,125]) (.int (k % 3))=some (.str [xj k false]):=by
 have r:k % 3=0\/k % 3=1\/k % 3=2:=by omega
 unfold xj;rcases r with a|a|a<;>rw[a]<;>exact⟨rfl,rfl⟩
noncomputable abbrev Fo(nm:Item->List Nat)(e:Item):V:=.str (MD nm e)
theorem O5{ρ:al}{k:Int}{o:Bool}(h3:ρ 3=some (.int k))(h4:ρ 4=some (.bool o)):G7 (fun ρ=>(ρ 4).bind lJ) (f7 (fun x=>some (V.str [40,91,123])) (dA p9 (fun ρ=>ρ 3) fun x=>some (V.int 3))) (f7 (fun x=>some (V.str [41,93,125])) (dA p9 (fun ρ=>ρ 3) fun x=>some (V.int 3))) ρ=some (.str [xj k o]):=by
 cases o
 ·exact j8 (dy h4 rfl) (cM rfl (md h3 rfl) (GT k).2)
 ·exact td (dy h4 rfl) (cM rfl (md h3 rfl) (GT k).1)
theorem ME{F2 F3:List V->Option V}{M:CM}{total:Int}{nm:Item->List Nat}{its:List Item}(hl:its.length<=8)
  (H2:∀e∈its,bT M (fw e.1 total) (nm e)/\F2 [.int e.1,.int total,.int e.2.2]=some (.str (nm e))) (H3:∀d,F3 [.int d]=some (.str (fX d).flatten))
  {ρ:al} {row:V} (k:Oo 1 2 6 7 (.int total) (.list (its.map Au)) row (.list []) ρ):
  ∃r,fg (tK (dP (fun ρ y=>some (upd ρ 3 y)) (dP (fun ρ y=>some (upd ρ 4 y)) (dP (fun ρ y=>some (upd ρ 5 y)) pu))))
   (eO (fun ρ=>Option.map (fun y=>(upd ρ 8 y,Fl.next)) (G7 (fun ρ=>(ρ 4).bind lJ) (f7 (fun x=>some (V.str [40,91,123])) (dA p9 (fun ρ=>ρ 3) fun x=>some (V.int 3))) (f7 (fun x=>some (V.str [41,93,125])) (dA p9 (fun ρ=>ρ 3) fun x=>some (V.int 3))) ρ))
    (eO (fun ρ=>Option.map (fun r=>(r.fst,Fl.next)) (jg DY 7 (aQ (dA nM (dA nM (eD F2 (aQ (fun ρ=>ρ 3) (aQ (fun ρ=>ρ 1) (aQ (fun ρ=>ρ 5) fun x=>some [])))) (eD F3 (aQ (fun ρ=>ρ 5) fun x=>some []))) fun ρ=>ρ 8) fun x=>some []) ρ))
     fun ρ=>some (ρ,Fl.next))) (its.map Au) ρ=some r/\r.2= .next/\Oo 1 2 6 7 (.int total) (.list (its.map Au)) row (.list (its.map (Fo nm))) r.1:=by
 refine ot Au its (fun l ρ=>Oo 1 2 6 7 (.int total) (.list (its.map Au)) row (.list (l.map (Fo nm))) ρ) (fun l e ρ he de hR=>?_) k;obtain⟨hg,hf⟩:=H2 e he;have AL:=hg.len;have hrl:=(tg e.2.2).2.2.1;have h9:(nm e).length+(fX e.2.2).flatten.length<=9:=p8 AL hrl;exact hR.ex fun σ=>⟨_,_,rfl,bO (bh (O5 rfl rfl) rfl) (bO (bh (pC rfl (bu (bu (dy rfl hf) (bJ rfl (H3 e.2.2)) (j7 _ _ (aA h9 (by decide)))) rfl (j7 _ _ (by rw[List.length_append];exact aA (jb h9) (by decide)))) (ma _ _ (mt8 (aA (eY de) hl)))) rfl) rfl),.mk rfl rfl rfl (congrArg (fun z=>some (V.list z)) (iD (Fo nm) l e))⟩
noncomputable abbrev uP(total:Int)(e:Item):V:=.tup [.str (iG total e.1),.bool e.2.1]
noncomputable abbrev uk(its:List Item):List RItem:=dZ (fun ø=>true) (fun ø=>0) its 0
noncomputable abbrev gO(its:List Item):List RItem:=dZ (fun ø=>true) (fun e=>e.2.2) its 0
theorem O6{F8:List V->Option V}{total:Int}{nm:Item->List Nat}{its:List Item}(hl:its.length<=8)(H8:∀e∈its,F8 [Fo nm e]=some (uP total e)){ρ:al}(k7:ρ 7=some (.list (its.map (Fo nm)))):
  fj (fun ρ=>(ρ 7).bind elems) (fun ρ y=>some (upd ρ 0 y)) (fun x=>some true) (eD F8 (aQ (fun ρ=>ρ 0) fun x=>some [])) 1 [] ρ=some (.list (its.map (uP total))):=
 db (fun ø=>True) its (Fo nm) (uP total) (dy k7 rfl) (LC hl) (fun e he ρ ø=>⟨_,rfl,trivial,bJ rfl (H8 e he)⟩) trivial
theorem Qk{total:Int}{its:List Item}(hl:its.length<=8){k:Nat}{e:Item}(he:its[k]?=some e):gt (.list (its.map (uP total))) (.int k)=some (uP total e):=gJ (by rw[bL,he];rfl) (LB hl)
theorem AJ{total:Int}{its:List Item}(hl:its.length<=8){k:Nat}{e:Item}(he:its[k]?=some e){ρ:al}(h0:ρ 0=some (.int k))(h1:ρ 1=some (.list (its.map (uP total)))):f7 (f7 (fun ρ=>ρ 1) fun ρ=>ρ 0) (fun x=>some (V.int 1)) ρ=some (.bool e.2.1):=
 cM (cM h1 h0 (Qk hl he)) rfl rfl
theorem WK{f:al->Option V}{ρ:al}{o:Bool}(h:f ρ=some (.bool o)):G7 (fun ρ=>(f ρ).bind lJ) (fun x=>some (V.str [40])) (fun x=>some (V.str [41])) ρ=some (.str [jH o]):=by
 cases o
 ·exact j8 (dy h rfl) rfl
 ·exact td (dy h rfl) rfl
theorem O7{total:Int}{its:List Item}(hl:its.length<=8){ρ:al}(k9:ρ 9=some (.list (its.map (uP total)))):
  fj (fun ρ=>(aQ (eD qX (aQ (fun ρ=>ρ 9) fun x=>some [])) (fun x=>some []) ρ).bind sj) (fun ρ y=>some (upd ρ 0 y)) (fun x=>some true)
   (fun ρ=>Option.map V.tup (aQ (fun ρ=>ρ 0) (aQ (G7 (fun ρ=>(f7 (f7 (fun ρ=>ρ 1) fun ρ=>ρ 0) (fun x=>some (V.int 1)) ρ).bind lJ) (fun x=>some (V.str [40])) fun x=>some (V.str [41])) (aQ (f7 (f7 (fun ρ=>ρ 1) fun ρ=>ρ 0) fun x=>some (V.int 1)) fun x=>some [])) ρ)) 1 [9] ρ=some (.list ((uk its).map mV)):=by
 have h6:eH ((its.map (uP total)).length:Int)=true:=by
  have:=LB (f:=uP total) hl;have Bq:most=1000000:=rfl;exact(dI _ _).mpr ⟨eK (by omega),eK (by omega)⟩
 refine mD (db (fun ρ=>ρ 1=some (.list (its.map (uP total)))) (List.range its.length) (fun(k:Nat)=>V.int k) (fun k=>mV (k,0,((its[k]?).map (·.2.1)).getD false)) (dy (aq (bJ k9 (oq _ (LB hl))) rfl) (by rw[D3,aw h6,bi,Wq])) (by rw[j0];exact LC hl) (fun k hk ρ hI=>?_) k9) (congrArg (fun z=>some (V.list z)) (Fn (fun ø=>0) its _ fun k e he=>by rw[he];rfl));obtain⟨e,he⟩:=get_mem (gE.mp hk);exact ex1 ρ hI fun σ=>⟨_,rfl,rfl,bh (aq rfl (aq (WK (AJ hl he rfl rfl)) (aq (AJ hl he rfl rfl) rfl))) (by rw[he];rfl)⟩
theorem C9{dr:Item->Int}{its:List Item}{u:RItem}{C:Prop}(h:u∈dZ (fun ø=>true) dr its 0)(f:∀k e,its[k]?=some e->u=(k,dr e,e.2.1)->C):C:=by
 obtain⟨k,hk⟩:=DC.mp h;rw[lC,gq]at hk;exact bV hk fun e he hu=>f k e he hu.symm
theorem MF{F3:List V->Option V}(H3:∀d,F3 [.int d]=some (.str (fX d).flatten)){its:List Item}(hl:its.length<=8){ρ:al}(k2:ρ 2=some (.list (its.map Au)))(k10:ρ 10=some (.list ((uk its).map mV))):
  fj (fun ρ=>(ρ 10).bind elems) (tK (dP (fun ρ y=>some (upd ρ 0 y)) (dP (fun ρ y=>some (upd ρ 1 y)) (dP (fun ρ y=>some (upd ρ 2 y)) pu)))) (fun x=>some true)
   (fun ρ=>Option.map V.tup (aQ (fun ρ=>ρ 0) (aQ (dA nM (eD F3 (aQ (f7 (f7 (fun ρ=>ρ 3) fun ρ=>ρ 0) fun x=>some (V.int 2)) fun x=>some [])) fun ρ=>ρ 1) (aQ (fun ρ=>ρ 2) fun x=>some [])) ρ)) 3 [2] ρ=some (.list ((gO its).map mV)):=by
 refine mD (db (fun ρ=>ρ 3=some (.list (its.map Au))) (uk its) mV (fun u=>mV (u.1,((its[u.1]?).map (·.2.2)).getD 0,u.2.2)) (dy k10 rfl) (by rw[rK];exact LC hl) (fun u hu ρ hI=>C9 hu fun k e he hu=>?_) k2) (congrArg (fun z=>some (V.list z)) ?_)
 ·subst hu
  have ht:txt (k,0,e.2.1)=[jH e.2.1]:=rfl;have ht2:(fX e.2.2).flatten++[jH e.2.1]=txt (k,e.2.2,e.2.1):=by unfold txt ms;rw[gr];rfl
  exact ex1 ρ hI fun σ=>⟨_,rfl,rfl,bh (aq rfl (aq (bu (bJ (cM (cM rfl rfl (gJ (b:=Au e) (by rw[bL,he];rfl) (LB hl))) rfl rfl) (H3 e.2.2)) rfl ((j7 _ _ (aA (jb (tg e.2.2).2.2.1) (by decide))).trans (congrArg (fun z=>some (V.str z)) ht2))) (aq rfl rfl))) (by rw[he];rfl)⟩
 ·unfold gO
  rw[<-MB (fun ø=>0) (fun e=>e.2.2) its (fun u=>(u.1,((its[u.1]?).map (·.2.2)).getD 0,u.2.2)) (fun k e he=>by rw[he];rfl),dK];rfl
noncomputable def mC(total:Int)(its:List Item):List (List Nat):=pB (EC (its.map fun e=>iG total e.1))
theorem O8{total:Int}{its:List Item}(hl:its.length<=8){ρ:al}(k9:ρ 9=some (.list (its.map (uP total)))):
  (((fj (fun ρ=>(ρ 9).bind elems) (tK (dP (fun ρ y=>some (upd ρ 0 y)) (dP (fun ρ y=>some (upd ρ 1 y)) pu))) (fun x=>some true) (fun ρ=>ρ 0) 2 [] ρ).bind wG).bind elems)=some ((mC total its).map .str):=by
 refine dy (dy (db (fun ø=>True) its (uP total) (fun e=>.str (iG total e.1)) (dy k9 rfl) (LC hl) (fun e he ρ ø=>⟨_,rfl,trivial,rfl⟩) trivial) ?_) (rfl:elems (.list ((mC total its).map .str))=_);have e:(its.map fun e=>V.str (iG total e.1))=(its.map fun e=>iG total e.1).map .str:=by rw[dK];rfl
 rw[EE,e,i5,cR,bi,bi,aw (by omega)];rfl
noncomputable def kI(total:Int)(its:List Item)(tag:List Nat):List Int×List V:=bU (dZ (fun k=>decide (iG total k=tag)) (fun ø=>0) its 0)
noncomputable def partsOf(total:Int)(its:List Item):List Int×List V:=(mC total its).foldl (mz (kI total its)) ([],[])
theorem MG(its:List RItem):(bU its).1.length=(bU its).2.length/\(bU its).1.Nodup:=AG its _ _ ⟨rfl,qP⟩
theorem xo(its:List RItem):(bU its).1.length<=its.length:=aA (w7 its _ ([],[])) (by rw[eZ,gq];exact w8 its)
theorem MH{total:Int}{its:List Item}(ht:0<=total)(hk:∀e∈its,0<=e.1/\e.1<9){s:Nat}{e:Item}(h:its[s]?=some e)(ho:e.2.1=true):(bR (partsOf total its).1 (partsOf total its).2 s).getD (.int 0)= .int (ga (cm its) s):=by
 have he:=mE h;have hm:iG total e.1∈mC total its:=(ID _ _).mpr (bP.mpr ⟨e,he,rfl⟩);have hg:=Mw (f:=kI total its) (q:=(s:Int)) (t0:=iG total e.1) (fun t=>MG _) (fun t bN=>Ir fun u hu z=>by
  obtain⟨h1,x,h2,h3⟩:=(rF _ _ its 0).2 u hu;have hs:u.1=s:=by omega
  rw[Nat.sub_zero,hs,h]at h2;cases h2;simp only[iK]at h3;exact bN h3.symm) (mC total its) ([],[]) rfl (.inl rfl) (.inl hm)
 unfold partsOf;rw[hg];have hc:dZ (fun k=>decide (iG total k=iG total e.1)) (fun ø=>0) its 0=dZ (fun k=>decide (k=e.1)) (fun ø=>0) its 0:=xi fun x hx=>by
  rw[decide_eq_decide];exact⟨fun z=>O2 ht (hk x hx) (hk e he) z,fun z=>by rw[z]⟩
 unfold kI;rw[hc];exact OW h ho
theorem MI(total:Int)(its:List Item):∀(l:List (List Nat)) (st:List Int×List V),st.1.length=st.2.length->(l.foldl (mz (kI total its)) st).1.length<=st.1.length+its.length*l.length
 |[],st,h=>cF _
 |t::l,st,h=>by
  obtain⟨h1,h2⟩:=tz (kI total its t).1 (kI total its t).2 st.1 st.2 h;have h3:(kI total its t).1.length<=its.length:=aA (xo _) (rF _ _ its 0).1;have h4:=MI total its l (mz (kI total its) st t) h1;refine aA h4 (aA (nf h2 _) ?_);rw[bA,Nat.mul_add_one];omega
theorem Tn{total:Int}{its:List Item}(hl:its.length<=8){t:List Nat}{ρ:al}(k9:ρ 9=some (.list (its.map (uP total))))(k10:ρ 10=some (.list ((uk its).map mV)))(k14:ρ 14=some (.str t)):
  fj (fun ρ=>(ρ 10).bind elems) (fun ρ y=>some (upd ρ 0 y)) (qS G8 (f7 (f7 (fun ρ=>ρ 2) (f7 (fun ρ=>ρ 0) fun x=>some (V.int 0))) fun x=>some (V.int 0)) fun ρ=>ρ 1) (fun ρ=>ρ 0) 1 [14,9] ρ=some (.list ((dZ (fun k=>decide (iG total k=t)) (fun ø=>0) its 0).map mV)):=by
 refine mD (qW (fun ρ=>ρ 1=some (.str t)/\ρ 2=some (.list (its.map (uP total)))) (uk its) mV (fun u=>((its[u.1]?).map fun e=>iG total e.1).getD []==t) mV (dy k10 rfl) (by rw[rK];exact LC hl) (fun u hu ρ hI=>C9 hu fun k e he hu=>?_) ⟨k14,k9⟩) (congrArg (fun z=>some (V.list (z.map mV))) (uj (fun ø=>0) _ _ its 0 fun k e he=>?_))
 ·subst hu
  exact ex2 ρ hI.1 hI.2 fun σ=>⟨_,rfl,⟨rfl,rfl⟩,ba (cM (cM rfl (cM rfl rfl rfl) (Qk hl he)) rfl rfl) rfl (by rw[he];rfl),fun ø=>rfl⟩
 ·dsimp only
  rw[gq,he];exact yI.mpr (jW.trans decide_eq_true_iff.symm)
theorem O9{F4:List V->Option V}(H4:∀its:List RItem,its.length<=8->F4 [.list (its.map mV)]=some (.dict (bU its).1 (bU its).2)){total:Int}{its:List Item}(hl:its.length<=8){row ps dr wh:V}
  {ρ:al} (k:TX 6 7 9 10 11 12 13 row ps (.list (its.map (uP total))) (.list ((uk its).map mV)) dr wh (.dict [] []) ρ):
  ∃r,fg (fun ρ y=>some (upd ρ 14 y)) (eO (fun ρ=>Option.map (fun r=>(r.fst,Fl.next)) (jg NK 13 (aQ (eD F4 (aQ (fj (fun ρ=>(ρ 10).bind elems) (fun ρ y=>some (upd ρ 0 y)) (qS G8 (f7 (f7 (fun ρ=>ρ 2) (f7 (fun ρ=>ρ 0) fun x=>some (V.int 0))) fun x=>some (V.int 0)) fun ρ=>ρ 1) (fun ρ=>ρ 0) 1 [14,9]) fun x=>some [])) fun x=>some []) ρ)) fun ρ=>some (ρ,Fl.next))
   ((mC total its).map .str) ρ=some r/\r.2= .next/\TX 6 7 9 10 11 12 13 row ps (.list (its.map (uP total))) (.list ((uk its).map mV)) dr wh (.dict (partsOf total its).1 (partsOf total its).2) r.1:=by
 have htl:(mC total its).length<=8:=by
  unfold mC pB;rw[List.length_mergeSort];have:=Gh (its.map fun e=>iG total e.1);rw[bi]at this;omega
 refine ot (fun t:List Nat=>V.str t) (mC total its) (fun l ρ=>TX 6 7 9 10 11 12 13 row ps (.list (its.map (uP total))) (.list ((uk its).map mV)) dr wh (.dict (l.foldl (mz (kI total its)) ([],[])).1 (l.foldl (mz (kI total its)) ([],[])).2) ρ) (fun l t ρ ht de hR=>?_) k;have h1:=MI total its l ([],[]) rfl;have h2:=(rF (fun k=>decide (iG total k=t)) (fun ø=>0) its 0).1;have h3:its.length*l.length<=8*8:=Nat.mul_le_mul hl (aA (eY de) htl);have h4:=xo (dZ (fun k=>decide (iG total k=t)) (fun ø=>0) its 0);exact hR.ex fun σ=>⟨_,_,rfl,bO (bh (pC rfl (bJ (Tn hl rfl rfl rfl) (H4 _ (aA h2 hl))) ((Rj ..).trans (aw (aA (p8 (aA h1 (vg h3 _)) (aA h4 (aA h2 hl))) (by decide))))) rfl) rfl,.mk rfl rfl rfl rfl rfl rfl (by rw[na];rfl)⟩
theorem GU:∀n:Nat,n-1+min 1 n<=n
 |0=>cF 0
 |n+1=>iM (congrArg (n+ ·) (y5 (jb (dU n))))
theorem MJ:∀(w:List Bool) (a b k:Nat),bg bv w a= .inl b->bg bv w (a+k)= .inl (b+k)
 |[],a,b,k,h=>by
  exact congrArg (fun z=>Sum.inl (z+k)) (Sum.inl.inj h)
 |true::w,a,b,k,h=>by
  simp only[cQ,bZ,bv,eI]at h ⊢;have:=MJ w (a+1) b k h;have e:a+1+k=a+k+1:=Nat.add_right_comm ..;rw[e]at this;exact this
 |false::w,a,b,k,h=>by
  simp only[cQ,bZ,bv,gz,eW]at h ⊢;by_cases q:a=0
  ·rw[aw q]at h;cases h
  ·rw[az q]at h
   have:¬a+k=0:=fun z=>q (Nat.eq_zero_of_add_eq_zero_right z)
   rw[az this];have ih:=MJ w (a-1) b k h;have e:a-1+k=a+k-1:=(Nat.sub_add_comm (DH q)).symm;rw[e]at ih;exact ih
theorem Pa{w:List Bool}(h:bg bv w 0= .inl 0)(bN:w≠[]):OK (w.drop 1++w.take 1)=false:=by
 cases w with
 |nil=>exact absurd rfl bN
 |cons o w=>
  cases o with
  |false=>simp[cQ,bZ,bv]at h
  |true=>
   simp only[List.drop_succ_cons,List.drop_zero,Dp,List.take_zero];unfold OK;rw[hU];have h1:bg bv w 1= .inl 0:=by simpa[cQ,bZ,bv]using h
   cases q:bg bv w 0 with
   |inl b=>
    have:=MJ w 0 b 1 q;rw[gq,h1]at this;simp only[Sum.inl.injEq]at this;omega
   |inr t=>rfl
theorem Pb(its:List Item):(gO its).map (·.2.2)=its.map (·.2.1):=by
 refine ve fun k=>?_
 rw[bL,bL,lC];cases its[k]?<;>rfl
theorem MK{F5:List V->Option V}(H5:i6 F5){its:List Item}(hl:its.length<=8)(bN:its≠[])(hd:bg bv (its.map (·.2.1)) 0= .inl 0){ρ:al}(k11:ρ 11=some (.list ((gO its).map mV))):
  qS I4 (eD F5 (aQ (Q6 tN (fun x=>some (V.str [])) (aQ (fj (fun ρ=>(dA nM (jm (fun ρ=>ρ 11) (fun ρ=>(some (V.int 1)).bind mJ) (fun x=>some none) fun x=>some none) (jm (fun ρ=>ρ 11) (fun x=>some none) (fun ρ=>(some (V.int 1)).bind mJ) fun x=>some none) ρ).bind elems) (fun ρ y=>some (upd ρ 0 y)) (fun x=>some true) (f7 (fun ρ=>ρ 0) fun x=>some (V.int 1)) 1 []) fun x=>some [])) fun x=>some [])) (fun x=>some (V.bool false)) ρ=some false:=by
 have So:(gO its).length<=8:=by rw[rK];exact hl
 have Gw:=LB (f:=mV) So;obtain⟨ML,hr,ha,hb⟩:∃ML:List RItem,ML.length<=8/\nM (.list (((gO its).map mV).drop 1)) (.list (((gO its).map mV).take 1))=some (.list (ML.map mV))/\OK (ML.map (·.2.2))=false:=by
  refine⟨(gO its).drop 1++(gO its).take 1,?_,?_,?_⟩
  ·rw[List.length_append,m7,nG]
   exact aA (GU _) So
  ·rw[List.map_append,nJ,List.map_take]
   exact uJ _ _ (by rw[m7,nG];exact aA (GU _) Gw)
  ·rw[List.map_append,nJ,List.map_take,Pb]
   exact Pa hd fun z=>bN (List.map_eq_nil_iff.mp z)
 have hj:tN (.str []) [.list (ML.map fun e=>.str (txt e))]=some (.str (ML.map txt).flatten):=by
  have e:(ML.map fun e=>V.str (txt e))=(ML.map txt).map .str:=by rw[dK];rfl
  rw[uE,e,i5,cR,aw (joinOk_of [] _ (aA (aA (w9 ML) (Nat.mul_le_mul_left 6 hr)) (by decide))),oP]
 have h5:=H5 ML hr;rw[hb]at h5;exact ba (bJ (HL rfl (aq (db (fun ø=>True) ML mV (fun e=>.str (txt e)) (dy (bu (eA k11 rfl rfl rfl (mf _ 1 Gw)) (eA k11 rfl rfl rfl (me _ 1 Gw)) ha) rfl) (LC hr) (fun e he ρ ø=>⟨_,rfl,trivial,rfl⟩) trivial) rfl) hj) h5) rfl rfl
noncomputable abbrev mX(its:List Item):List Nat:=(tr ((cm its).map (·.2))).reverse
theorem GV{its:List Item}{s:Nat}(h:s∈mX its):∃e,its[s]?=some e/\e.2.1=true:=by
 obtain⟨K,h1⟩:=AD (pS.mp h);rw[bL]at h1;refine bV h1 fun e he e1=>?_
 exact⟨e,he,by have:=congrArg Prod.snd e1;exact this⟩
theorem Pc{total:Int}{its:List Item}(hl:its.length<=8){ρ:al}(k9:ρ 9=some (.list (its.map (uP total)))):
  fj (fun ρ=>(aQ (dA zd (eD qX (aQ (fun ρ=>ρ 9) fun x=>some [])) fun x=>some (V.int 1)) (aQ (fun ρ=>(some (V.int 1)).bind sA) (aQ (fun ρ=>(some (V.int 1)).bind sA) fun x=>some [])) ρ).bind sj) (fun ρ y=>some (upd ρ 0 y))
   (fun ρ=>(f7 (f7 (fun ρ=>ρ 1) fun ρ=>ρ 0) (fun x=>some (V.int 1)) ρ).bind lJ) (fun ρ=>ρ 0) 1 [9] ρ=some (.list ((mX its).map fun(k:Nat)=>V.int k)):=by
 have hm:=LB (f:=uP total) hl;have h6:eH (((its.map (uP total)).length:Int)-1)=true:=by
  have Bq:most=1000000:=rfl;exact(dI _ _).mpr ⟨eK (by omega),eK (by omega)⟩
 have hr:sj [.int (((its.map (uP total)).length:Int)-1),.int (-1),.int (-1)]=some (((List.range its.length).reverse).map fun(k:Nat)=>V.int k):=by
  rw[Jd,h6,Tl,bi];rfl
 refine mD (qW (fun ρ=>ρ 1=some (.list (its.map (uP total)))) ((List.range its.length).reverse) (fun(k:Nat)=>V.int k) (fun k=>((its[k]?).map (·.2.1)).getD false) (fun(k:Nat)=>V.int k) (dy (aq (bu (bJ k9 (oq _ hm)) rfl rfl) rfl) hr) (by rw[pT,j0];exact LC hl) (fun k hk ρ hI=>?_) k9) (congrArg (fun z:List Nat=>some (V.list (z.map fun(k:Nat)=>V.int k))) ?_)
 ·obtain⟨e,he⟩:=get_mem (gE.mp (pS.mp hk))
  exact ex1 ρ hI fun σ=>⟨_,rfl,rfl,dy (AJ hl he rfl rfl) (by rw[he];rfl),fun ø=>rfl⟩
 ·unfold mX tr
  rw[<-List.filter_reverse,bi,bi];refine List.filter_congr fun k ø=>?_
  rw[bL,bL];cases its[k]?<;>rfl
theorem IE(r:Nat)(h:r<=1000):xw (.str [32]) (.int r)=some (.str (List.replicate r 32)):=by
 rw[Nb _ _ ⟨by omega,rfl,by omega⟩];simp
theorem xr{len:Nat->Nat}:∀l:List Nat,(∀s∈l,len s<=100)->((l.map len).map fun r=>List.replicate r 32).flatten.length<=100*l.length
 |[],_=>cF _
 |x::l,h=>by
  rw[bn,bn,gA,List.length_append,y9,bA,Nat.mul_add_one,Nat.add_comm];exact p8 (xr l fun s hs=>h s (cw _ hs)) (h x dJ)
theorem yE{it:al->Option (List V)}{c:Nat}{os:List Nat}{ks:List Int}{vs:List V}{len:Nat->Nat}(ho:os.length<=1000)(hlen:∀s∈os,(bR ks vs s).getD (.int 0)= .int (len s)/\len s<=100){ρ:al}(hi:it ρ=some (os.map fun(k:Nat)=>V.int k))(hc:ρ c=some (.dict ks vs)):
  Q6 tN (fun x=>some (V.str [9])) (aQ (fj it (fun ρ y=>some (upd ρ 0 y)) (fun x=>some true) (dA xw (fun x=>some (V.str [32])) (Q6 Rb (fun ρ=>ρ 1) (aQ (fun ρ=>ρ 0) (aQ (fun x=>some (V.int 0)) fun x=>some [])))) 1 [c]) fun x=>some []) ρ=some (.str (fO (os.map len))):=by
 have hj:tN (.str [9]) [.list (os.map fun s=>.str (List.replicate (len s) 32))]=some (.str (fO (os.map len))):=by
  have e:(os.map fun s=>V.str (List.replicate (len s) 32))=((os.map len).map fun r=>List.replicate r 32).map .str:=by rw[dK,dK];rfl
  have:=xr os fun s hs=>(hlen s hs).2
  rw[uE,e,i5,cR,aw (joinOk_of [9] _ (by rw[bi,bi,pZ];omega))]
 exact HL rfl (aq (db (fun ρ=>ρ 1=some (.dict ks vs)) os (fun(k:Nat)=>V.int k) (fun s=>.str (List.replicate (len s) 32)) hi (gS ho (by decide)) (fun s hs ρ hI=>ex1 ρ hI fun σ=>⟨_,rfl,rfl,bu rfl (HL rfl rfl ((Rc ..).trans (congrArg some (hlen s hs).1))) (IE _ (aA (hlen s hs).2 (by decide)))⟩) hc) rfl) hj
theorem tA:∀(rs:List Nat),(∀r∈rs,r<=100)->(fO rs).length<=101*rs.length
 |[],_=>by simp[fO,jo,jp,jq]
 |[r],h=>by
  have:=h r dJ;have e:(fO [r]).length=r:=by simp[fO,jo,jp,jq]
  rw[e];simp only[bA,eZ];omega
 |r::r'::rs,h=>by
  have ih:=tA (r'::rs) fun x hx=>h x (cw _ hx)
  have h1:=h r dJ;have e:fO (r::r'::rs)=List.replicate r 32++(9::fO (r'::rs)):=by simp[fO,jo,jp,jq]
  rw[e,List.length_append,y9,bA];simp only[bA]at ih ⊢;omega
noncomputable def AK(rs:List Nat)(raw mW:V)(k:Int):V:=mx raw mW k (rs.length-1) ((rs.getLast?).getD 0) (rs.dropLast.foldl bump [])
theorem Da{rs l:List Nat}{c:Nat}(h1:c≠32)(h2:c≠9)(h:rs≠[]):∃raw mW k,V.obj (S2 (fO rs++c::l))=AK rs raw mW k:=by
 obtain⟨n',e⟩:=Ij h1 h2 (l:=l) h;refine⟨.str (fO rs++c::l),.bool (decide ((rs.dropLast.foldl bump []).length<=1)),n',?_⟩;unfold S2 AK mx;rw[e]
noncomputable abbrev gY(l:List Nat):V:=.list (l.map fun(x:Nat)=>V.int x)
noncomputable def xV(l:List Nat):Nat:=l.foldr max 0
theorem xt(a b:Nat):max (a:Int) (b:Int)=((max a b:Nat):Int):=by
 rcases Nat.le_total a b with h|h
 ·rw[Nat.max_eq_right h,r0 (qO.mpr h)]
 ·rw[Nat.max_eq_left h,Int.max_eq_left (qO.mpr h)]
theorem IF{l:List Nat}(h:l≠[]):Ee [gY l]=some (.int (xV l)):=by
 cases l with
 |nil=>exact absurd rfl h
 |cons x l=>
  have e:(x::l).map (fun(x:Nat)=>V.int x)=((x:Int)::l.map fun(x:Nat)=>(x:Int)).map .int:=by simp[za]
  unfold gY;rw[e,Im];have h1:∀l:List Nat,(l.map fun(x:Nat)=>(x:Int)).foldr max (x:Int)=((l.foldr max x:Nat):Int):=by
   intro l
   induction l with
   |nil=>rfl
   |cons y l ih=>rw[bn,nL,ih,nL];exact xt ..
  have h2:∀l:List Nat,l.foldr max x=max x (l.foldr max 0):=by
   intro l
   induction l with
   |nil=>simp
   |cons y l ih=>rw[nL,ih,nL];exact Nat.max_left_comm ..
  rw[h1,h2];rfl
theorem GW(a b:List Nat):xV (a++b)=max (xV a) (xV b):=by
 unfold xV
 induction a with
 |nil=>simp
 |cons x a ih=>rw[List.cons_append,nL,ih,nL];exact(Nat.max_assoc ..).symm
theorem Pd(l:List Nat):(l=[]/\Mo l=0/\xV l=0)\/Mo l=xV l+1:=by
 induction l with
 |nil=>exact .inl ⟨rfl,rfl,rfl⟩
 |cons x l ih=>
  right;rw[Az,show xV (x::l)=max x (xV l)from rfl];rcases ih with⟨_,e1,e2⟩|e
  ·rw[e1,e2,Nat.max_zero,Nat.max_zero]
  ·rw[e,Nat.add_max_add_right]
theorem To{l:List Nat}{m:Nat}(h:∀x∈l,x<=m):xV l<=m:=by
 unfold xV
 induction l with
 |nil=>exact dU _
 |cons x l ih=>
  have h1:=h x dJ;have h2:=ih fun y hy=>h y (cw _ hy)
  rw[nL];omega
noncomputable def turn(l:List Nat):List Nat:=l.dropLast.reverse++l.drop (l.length-1)
theorem MM(f:Nat->Nat)(l:List Nat):(turn l).map f=turn (l.map f):=by
 unfold turn;rw[List.map_append,List.map_reverse,List.map_dropLast,nJ,bi]
theorem IG{l:List Nat}(h:l≠[]):l.drop (l.length-1)=[l.getLast h]:=by
 have e:=rV h;have hl:l.dropLast.length=l.length-1:=nK
 conv=>lhs;rw[<-hl]
 conv=>lhs;arg 2;rw[<-e]
 simp
theorem qG{l:List Nat}(h:l≠[]):(turn l).dropLast=l.dropLast.reverse/\(turn l).getLast?=l.getLast?/\(turn l).length=l.length/\turn l≠[]:=by
 have hd:=IG h;have hlen:0<l.length:=uY.mpr h;unfold turn;rw[hd];refine⟨by simp,by rw[vi h];simp,?_,by simp⟩;rw[List.length_append,pT,nK,pZ];omega
theorem IH{l l':List Int}(h:l.Perm l'):ux l=ux l':=by
 induction h with
 |nil=>rfl
 |cons x _ ih=>simp[oR,my,ih]
 |swap x y l=>simp only[oR,my];omega
 |trans _ _ h1 h2=>exact h1.trans h2
theorem Db{l:List Nat}(h:l≠[])(ts:Nat):cj (turn l) ts=cj l ts:=by
 obtain⟨h1,h2,_⟩:=qG h;unfold cj;rw[h1,h2]
 congr 1
 exact IH ((rS _).map _)
theorem II(l:List Int):zk [.list (l.map .int)]=some (.int (ux l)):=by
 have e:l.sum=ux l:=by
  induction l with
  |nil=>rfl
  |cons x l ih=>rw[List.sum_cons,my,ih]
 rw[sum_ints,e]
theorem Fp{l:List V}(h1:1<=l.length)(hm:l.length<=most):eT (.list l) none (some (-1)) none=some (.list l.dropLast):=by
 have e:clip (some (-1:Int)) l.length l.length=l.length-1:=lq (k:=1) _ (by decide) h1;rw[nV,aw ⟨hm,nofun⟩,uH,e,List.dropLast_eq_take];rfl
theorem Dc{xs:List V}{b:V}(h:xs[xs.length-1]?=some b)(hm:xs.length<=most):gt (.list xs) (.int (-1))=some b:=by
 have hk:=(eX.mp h).1;have hp:ff (-1) xs.length=some (xs.length-1):=by
  unfold ff;rw[az (by decide),aw (by omega)];exact congrArg some (by omega)
 rw[uC,aw hm,hp,cR,h]
theorem item_last{l:List Nat}(h:l≠[])(hm:l.length<=most):gt (gY l) (.int (-1))=some (.int ((l.getLast?).getD 0:Nat)):=by
 refine Dc ?_ (by rw[bi];exact hm);rw[bi,bL,<-List.getLast?_eq_getElem?,vi h];rfl
theorem Tp{l:List Nat}(h:l≠[])(hm:l.length<=1000){size:Nat}(h0:0<size)(hs:size<=1000){ρ:al}(k0:ρ 0=some (gY l))(k1:ρ 1=some (.int size)):
  dA nM (eD zk (aQ (fj (fun ρ=>(jm (fun ρ=>ρ 0) (fun x=>some none) (fun ρ=>((some (V.int 1)).bind sA).bind mJ) (fun x=>some none) ρ).bind elems) (fun ρ y=>some (upd ρ 0 y)) (fun x=>some true) (dA nM (dA zd (fun ρ=>ρ 0) (dA p9 (fun ρ=>ρ 0) fun ρ=>ρ 1)) fun ρ=>ρ 1) 1 [1]) fun x=>some [])) (f7 (fun ρ=>ρ 0) fun ρ=>(some (V.int 1)).bind sA) ρ=some (.int (cj l size)):=by
 have hz:0<(size:Int)/\(size:Int)<1073741824:=by omega
 have JH:l.length<=most:=aA hm (by decide);refine bu (dy (aq (db (fun ρ=>ρ 1=some (.int size)) l.dropLast (fun(x:Nat)=>V.int x) (fun(r:Nat)=>V.int ((r:Int)-(r:Int) % size+size)) (dy (eA k0 rfl rfl rfl (Fp (by rw[bi];exact uY.mpr h) (by rw[bi];exact JH))) (congrArg some List.map_dropLast.symm)) (gS (nK▸r4 _ _) (gS hm (by decide))) (fun x hx ρ hI=>ex1 ρ hI fun σ=>⟨_,rfl,rfl,bu (bu rfl (bu rfl rfl (Ac _ _ hz)) rfl) rfl rfl⟩) k1) rfl) (mD (congrArg (fun z=>zk [.list z]) (dK (g:=V.int) (f:=fun(r:Nat)=>(r:Int)-(r:Int) % size+size) (l:=l.dropLast)).symm) (II _))) (cM k0 rfl (item_last h JH)) rfl
theorem Ql{A B:List Nat}(hA:A≠[])(hB:B≠[])(MN:A.length<=8)(MO:B.length<=8){size:Nat}(h0:0<size)(hs:size<=1000){ρ:al}(k18:ρ 18=some (gY A))(k19:ρ 19=some (gY B))(k21:ρ 21=some (.int size)):
  fj (fun ρ=>(Option.map V.tup (aQ (fun ρ=>ρ 18) (aQ (fun ρ=>ρ 19) fun x=>some []) ρ)).bind elems) (fun ρ y=>some (upd ρ 0 y)) (fun x=>some true)
   (dA nM (eD zk (aQ (fj (fun ρ=>(jm (fun ρ=>ρ 0) (fun x=>some none) (fun ρ=>((some (V.int 1)).bind sA).bind mJ) (fun x=>some none) ρ).bind elems) (fun ρ y=>some (upd ρ 0 y)) (fun x=>some true) (dA nM (dA zd (fun ρ=>ρ 0) (dA p9 (fun ρ=>ρ 0) fun ρ=>ρ 1)) fun ρ=>ρ 1) 1 [1]) fun x=>some [])) (f7 (fun ρ=>ρ 0) fun ρ=>(some (V.int 1)).bind sA)) 1 [21] ρ=some (.list ([A,B].map fun l=>V.int (cj l size))):=by
 refine db (fun ρ=>ρ 1=some (.int size)) [A,B] gY (fun l=>.int (cj l size)) (dy (bh (aq k18 (aq k19 rfl)) rfl) rfl) (LC (show 2<=8 by decide)) (fun l hl ρ hI=>?_) k21;have hx:l≠[]/\l.length<=8:=by
  rcases bp.mp hl with rfl|hl
  ·exact⟨hA,MN⟩
  ·rw[cN.mp hl]
   exact⟨hB,MO⟩
 exact ex1 ρ hI fun σ=>⟨_,rfl,rfl,Tp hx.1 (aA hx.2 (by decide)) h0 hs rfl rfl⟩
theorem MP{F9:List V->Option V}{A B:List Nat}(hA:A≠[])(hB:B≠[])(MN:A.length<=8)(MO:B.length<=8){fi se:List V}{row:V}{K:Nat}(hK:K<=100)(hf:fi.length=5)(hs:se.length=5)
  (H9:∀size:Nat,0<size->size<=K->F9 [.obj fi,.int size]=some (.int (cj A size))/\F9 [.obj se,.int size]=some (.int (cj B size)))
  {ρ:al} (k:V8 6 16 17 18 19 20 row (.obj fi) (.obj se) (gY A) (gY B) (.list []) ρ):
  ∃r,fg (fun ρ y=>some (upd ρ 21 y)) (eO (fun ρ=>(fj (fun ρ=>(Option.map V.tup (aQ (fun ρ=>ρ 18) (aQ (fun ρ=>ρ 19) fun x=>some []) ρ)).bind elems) (fun ρ y=>some (upd ρ 0 y)) (fun x=>some true)
    (dA nM (eD zk (aQ (fj (fun ρ=>(jm (fun ρ=>ρ 0) (fun x=>some none) (fun ρ=>((some (V.int 1)).bind sA).bind mJ) (fun x=>some none) ρ).bind elems) (fun ρ y=>some (upd ρ 0 y)) (fun x=>some true) (dA nM (dA zd (fun ρ=>ρ 0) (dA p9 (fun ρ=>ρ 0) fun ρ=>ρ 1)) fun ρ=>ρ 1) 1 [1]) fun x=>some [])) (f7 (fun ρ=>ρ 0) fun ρ=>(some (V.int 1)).bind sA)) 1 [21] ρ).bind
     fun y=>Option.map (fun aY=>(aY,Fl.next)) (JG (dP (fun ρ y=>some (upd ρ 22 y)) (dP (fun ρ y=>some (upd ρ 23 y)) pu)) ρ y))
   (eO (fun ρ=>(qS Dg (fun ρ=>Option.map V.tup (aQ (z0 F9 (fun ρ=>ρ 16) (aQ (fun ρ=>ρ 21) fun x=>some [])) (aQ (z0 F9 (fun ρ=>ρ 17) (aQ (fun ρ=>ρ 21) fun x=>some [])) fun x=>some []) ρ)) (fun ρ=>Option.map V.tup (aQ (fun ρ=>ρ 22) (aQ (fun ρ=>ρ 23) fun x=>some []) ρ)) ρ).bind
     fun z=>if z=true then eO (fun ρ=>Option.map (fun x=>(ρ,Fl.ret x)) (some (V.bool false))) (fun ρ=>some (ρ,Fl.next)) ρ else some (ρ,Fl.next))
    (eO (fun ρ=>(qS Dg (fun ρ=>ρ 22) (fun ρ=>ρ 23) ρ).bind fun z=>if z=true then eO (fun ρ=>Option.map (fun r=>(r.fst,Fl.next)) (jg DY 20 (aQ (fun ρ=>Option.map V.tup (aQ (fun ρ=>ρ 21) (aQ (fun ρ=>ρ 22) (aQ (fun ρ=>ρ 23) fun x=>some [])) ρ)) fun x=>some []) ρ)) (fun ρ=>some (ρ,Fl.next)) ρ else some (ρ,Fl.next))
     fun ρ=>some (ρ,Fl.next)))) ((List.range K).map fun(j:Nat)=>V.int ((j+1:Nat):Int)) ρ=some r/\r.2= .next/\V8 6 16 17 18 19 20 row (.obj fi) (.obj se) (gY A) (gY B) (ly (im (cj A) (cj B) K)) r.1:=by
 refine ot (fun(j:Nat)=>V.int ((j+1:Nat):Int)) (List.range K) (fun l ρ=>V8 6 16 17 18 19 20 row (.obj fi) (.obj se) (gY A) (gY B) (ly (l.foldl (eU (cj A) (cj B)) [])) ρ) (fun l j ρ hj de hR=>?_) k;have Yh:=gE.mp hj;obtain⟨f1,f2⟩:=H9 (j+1) (nC j) Yh;have Hi:j+1<=1000:=aA Yh (aA hK (by decide));rw[j0]at de;have oV:(l.foldl (eU (cj A) (cj B)) []).length<most:=gS (E3 _ _ l []) (by rw[eZ,gq];exact rW de (aA hK (by decide)));rw[na,eJ,p7];generalize l.foldl (eU (cj A) (cj B)) []=st at*;have bN:Dg (.tup [.int (cj A (j+1)),.int (cj B (j+1))]) (.tup [.int (cj A (j+1)),.int (cj B (j+1))])=some false:=(Tb [cj A (j+1),cj B (j+1)] [cj A (j+1),cj B (j+1)]).trans (by rw[eK rfl];rfl);unfold eU;by_cases q:cj A (j+1)=cj B (j+1)
 ·rw[aw q]
  exact hR.ex fun σ=>⟨_,_,rfl,bO (dy (Ql hA hB MN MO (nC j) Hi rfl rfl rfl) rfl) (bO (j8 (ba (bh (aq (e7 rfl hf rfl f1) (aq (e7 rfl hs rfl f2) rfl)) rfl) rfl bN) rfl) (bO (j8 (ba rfl rfl (P9 q)) rfl) rfl)),.mk rfl rfl rfl rfl rfl rfl⟩
 ·rw[az q]
  exact hR.ex fun σ=>⟨_,_,rfl,bO (dy (Ql hA hB MN MO (nC j) Hi rfl rfl rfl) rfl) (bO (j8 (ba (bh (aq (e7 rfl hf rfl f1) (aq (e7 rfl hs rfl f2) rfl)) rfl) rfl bN) rfl) (bO (td (ba rfl rfl (neT q)) (bO (bh (pC rfl rfl (ma _ _ (by rw[bi];exact oV))) rfl) rfl)) rfl)),.mk rfl rfl rfl rfl rfl (congrArg (fun z=>some (V.list z)) (iD (fun e=>V.tup (e.map .int)) st [((j+1:Nat):Int),cj A (j+1),cj B (j+1)]))⟩
theorem Dd{a b a' b':Nat->Int}{n:Nat}(h:∀j,j<n->a (j+1)=a' (j+1)/\b (j+1)=b' (j+1)):im a b n=im a' b' n:=by
 unfold im;have go:∀(r:List Nat) (acc:List (List Int)),(∀j∈r,j<n)->r.foldl (eU a b) acc=r.foldl (eU a' b') acc:=by
  intro r
  induction r with
  |nil=>intros;rfl
  |cons x r ih=>
   intro acc hr;obtain⟨e1,e2⟩:=h x (hr x dJ);have:eU a b acc x=eU a' b' acc x:=by unfold eU;rw[e1,e2]
   rw[eJ,eJ,this];exact ih _ fun j hj=>hr j (cw _ hj)
 exact go _ _ fun j hj=>gE.mp hj
structure WL(M:CM)(script:List Int)(F1 F2 F3 F4 F5:List V->Option V)(jL:List V->Option (List V))(F6 F7 F8 F9 Pe Pf:List V->Option V):Prop where
 row:∀t,0<=t->∃its,Av its/\F1 [.list (script.map .int),.int t]=some (.list (its.map Au))
 name:∀k t d,0<=k/\k<9->0<=t->0<=d/\d<=17857->∃l,bT M (fw k t) l/\F2 [.int k,.int t,.int d]=some (.str l)
 Fq:∀d,F3 [.int d]=some (.str (fX d).flatten)
 runs:∀its:List RItem,its.length<=8->F4 [.list (its.map mV)]=some (.dict (bU its).1 (bU its).2)
 check:i6 F5
 init:∀l:List Nat,l.length<=1000->jL [.str l]=some (S2 l)
 spans:∀r:du,r.length<=60->F6 [mU r]=some (.list (qB r))
 nested:∀(r:du) d,bg bv (r.map (·.2)) 0= .inl d->r.length<=8->F7 [mU r]=some (.bool (eB r))
 read:∀l N d k o,bT M N l->N.length<=3->F8 [.str (l++(fX d).flatten++[xj k o])]=some (.tup [.str (N++uw (numOf k o)),.bool (numOf k o % 2==1)])
 level:∀(raw mW:V) (k:Int) (nt b ts:Nat) (cnt:List Int),cnt.length<=1000->(∀z∈cnt,0<=z/\z<=1000)->nt<=1000->0<ts->ts<=1000->F9 [mx raw mW k nt b cnt,.int ts]=some (.int (iW cnt nt b ts))
 witness:∀(raw mW:V) (k:Int) (nt b:Nat) (cnt:List Int) (o8 pb:V) (k':Int) (E2 b':Nat) (iX:List Int) (K:Nat),cnt.length<=1000->(∀z∈cnt,0<=z/\z<=1000)->nt<=1000->iX.length<=1000->(∀z∈iX,0<=z/\z<=1000)->E2<=1000->K<=1000->max (max ((cnt.length:Int)-1) b) (max ((iX.length:Int)-1) b')+1=K->
  Pe [mx raw mW k nt b cnt,mx o8 pb k' E2 b' iX]=some (ly (im (iW cnt nt b) (iW iX E2 b') K))
 equal:∀(raw mW:V) (k:Int) (nt b:Nat) (cnt:List Int) (o8 pb:V) (k':Int) (E2 b':Nat) (iX:List Int),Pf [mx raw mW k nt b cnt,mx o8 pb k' E2 b' iX]=some (.bool (decide (cnt=iX)&&decide (b=b')))
theorem yF{l:List Nat}(h:l≠[]):xV l=max (xV l.dropLast) ((l.getLast?).getD 0):=by
 have e:=rV h
 conv=>lhs;rw[<-e]
 rw[GW,vi h,kP];simp[xV]
theorem GZ(l:List Nat)(x:Nat):max (((max ([]:List Int).length (Mo l):Nat):Int)-1) (x:Int)=((max (xV l) x:Nat):Int):=by
 rw[eZ,Nat.zero_max];rcases Pd l with⟨_,e1,e2⟩|e
 ·rw[e1,e2,Nat.zero_max]
  exact r0 (pn (by decide) (mF x))
 ·rw[e,<-xt]
  exact congrArg (fun z=>max z (x:Int)) (show((xV l+1:Nat):Int)-1=(xV l:Int)from DJ (xV l:Int) 1)
theorem Pg(a b:Nat):max (a:Int) (b:Int)+1=((max a b+1:Nat):Int):=by rw[xt];rfl
theorem G0{M:CM}{N:List Nat}{nm:Item->List Nat}{e:Item}(h:bT M N (nm e)):∃c l,MD nm e=c::l/\c≠32/\c≠9/\(MD nm e).length<=10:=by
 obtain⟨c,l,hc⟩:=uU h.ne;have Dj:=cD.mp h.ok c (by rw[hc];exact dJ);simp only[LH,dI,bne_iff_ne]at Dj;have hl:=h.len;have hr:=(tg e.2.2).2.2.1;refine⟨c,l++(fX e.2.2).flatten++[xj e.1 e.2.1],by simp[MD,hc],Dj.1.1.2,Dj.1.2,?_⟩;unfold MD;rw[List.length_append,List.length_append,pZ];omega
theorem Ph{its:List Item}(hl:its.length<=8){ρ:al}(k6:ρ 6=some (mU (cm its))):
  fj (fun ρ=>(ρ 6).bind elems) (tK (dP (fun ρ y=>some (upd ρ 0 y)) (dP (fun ρ y=>some (upd ρ 1 y)) pu))) (fun x=>some true) (fun ρ=>Option.map V.tup (aQ (fun x=>some (V.int 0)) (aQ (fun ρ=>ρ 1) fun x=>some []) ρ)) 2 [] ρ=some (mU (dY (cm its))):=
 mD (db (fun ø=>True) (cm its) (fun e=>V.tup [.int e.1,.bool e.2]) (fun e=>V.tup [.int 0,.bool e.2]) (dy k6 rfl) (by rw[bi];exact LC hl) (fun e he ρ ø=>⟨_,rfl,trivial,rfl⟩) trivial) (congrArg (fun z=>some (V.list z)) (by rw[dY,dK,dK,dK];rfl))
theorem xu{l:List Nat}{x:Nat}(h:x∈turn l):x∈l:=by
 unfold turn at h;rcases cr.mp h with h|h
 ·exact List.dropLast_subset _ (pS.mp h)
 ·exact List.mem_of_mem_drop h
theorem Pi{os:List Nat}(h2:2<=os.length)(hm:os.length<=1000){ρ:al}(k15:ρ 15=some (gY os)):
  Option.bind (dA nM (jm (fun ρ=>ρ 15) (fun ρ=>((some (V.int 2)).bind sA).bind mJ) (fun x=>some none) fun ρ=>((some (V.int 1)).bind sA).bind mJ) (jm (fun ρ=>ρ 15) (fun ρ=>((some (V.int 1)).bind sA).bind mJ) (fun x=>some none) fun x=>some none) ρ) elems=some ((turn os).map fun(k:Nat)=>V.int k):=by
 have hl:(os.map fun(x:Nat)=>V.int x).length=os.length:=bi ..;have JH:(os.map fun(x:Nat)=>V.int x).length<=most:=by rw[hl];exact aA hm (by decide)
 refine dy (bu (eA k15 rfl rfl rfl (Fm (hl.symm▸h2) JH)) (eA k15 rfl rfl rfl (Fk (by omega) JH)) (uJ _ _ (by rw[pT,nK,m7];omega))) (congrArg some ?_);rw[turn,List.map_append,List.map_reverse,List.map_dropLast,nJ,hl]
theorem G1{rs:List Nat}{m:Nat}(h:∀r∈rs,r<=m)(hl:rs.length<=8):(rs.dropLast.foldl bump []).length<=m+1/\∀z∈rs.dropLast.foldl bump [],0<=z/\z<=1000:=by
 constructor
 ·rw[i7]
  have:=Te (l:=rs.dropLast) (m:=m+1) fun r hr=>Nat.lt_succ_of_le (h r (List.dropLast_subset _ hr))
  exact Nat.max_le.mpr ⟨dU _,this⟩
 ·intro z hz
  have:=Ik rs.dropLast z hz;rw[nK]at this;omega
noncomputable def lA(its:List Item):List Nat:=(mX its).map (ga (dY (cm its)))
noncomputable def lB(its:List Item):List Nat:=(mX its).map (ga (cm its))
theorem MQ(its:List Item):ia (dY (cm its))=lA its:=by
 have e:(dY (cm its)).map (·.2)=(cm its).map (·.2):=by rw[dK];rfl
 rw[ia,e];rfl
theorem Qm(its:List Item):ia (cm its)=lB its:=rfl
theorem IJ{C:Prop}{M:CM}{script:List Int}{F1 F2 F3 F4 F5:List V->Option V}{jL:List V->Option (List V)}{F6 F7 F8 F9 Pe Pf:List V->Option V}(H:WL M script F1 F2 F3 F4 F5 jL F6 F7 F8 F9 Pe Pf)
  (f:∀(its:List Item) (nm:Item->List Nat) (e0 e9:Item) (fi se:List V) (K:Nat),its.length<=8->its≠[]->bg bv (its.map (·.2.1)) 0= .inl 0->F1 [.list (script.map .int),.int (gN script)]=some (.list (its.map Au))->
   (∀e∈its,bT M (fw e.1 (gN script)) (nm e)/\F2 [.int e.1,.int (gN script),.int e.2.2]=some (.str (nm e)))->(∀e∈its,F8 [Fo nm e]=some (uP (gN script) e))->(mX its).length<=4->2<=(mX its).length->
   (∀s∈mX its,(bR (bU (gO its)).1 (bU (gO its)).2 s).getD (.int 0)= .int (ga (dY (cm its)) s)/\ga (dY (cm its)) s<=100)->
   (∀s∈turn (mX its),(bR (partsOf (gN script) its).1 (partsOf (gN script) its).2 s).getD (.int 0)= .int (ga (cm its) s)/\ga (cm its) s<=100)->
   gt (.list (its.map (Fo nm))) (.int 0)=some (Fo nm e0)->gt (.list (its.map (Fo nm))) (.int (-1))=some (Fo nm e9)->(fO (lA its)).length+(MD nm e0).length<=900->(fO (turn (lB its))).length+(MD nm e9).length<=900->
   jL [.str (fO (lA its)++MD nm e0++[32,9,32])]=some fi->jL [.str (fO (turn (lB its))++MD nm e9)]=some se->fi.length=5->se.length=5->
   F6 [mU (dY (cm its))]=some (gY (lA its))->F6 [mU (cm its)]=some (gY (lB its))->lA its≠[]->lB its≠[]->sj [.int 1,.int ((xV (lA its++lB its):Int)+2)]=some ((List.range K).map fun(j:Nat)=>V.int ((j+1:Nat):Int))->K<=100->
   (∀size:Nat,0<size->size<=K->F9 [.obj fi,.int size]=some (.int (cj (lA its) size))/\F9 [.obj se,.int size]=some (.int (cj (lB its) size)))->
   Pe [.obj fi,.obj se]=some (ly (im (cj (lA its)) (cj (lB its)) K))->Pf [.obj fi,.obj se]=some (.bool (eB (cm its)))->F7 [mU (cm its)]=some (.bool (eB (cm its)))->C):C:=by
 have Bq:most=1000000:=rfl;have ht:0<=gN script:=by unfold gN;omega
 obtain⟨its,hG,xD⟩:=H.row (gN script) ht;have AP:its.length<=8:=by rcases hG.len with e|e<;>omega
 have bN:its≠[]:=fun z=>by have:=hG.len;rw[z]at this;simp at this
 have Uy:∀e∈its,0<=e.1/\e.1<9:=fun e he=>⟨(hG.ok e he).1,(hG.ok e he).2.1⟩
 obtain⟨nm,HB⟩:∃nm:Item->List Nat,∀e∈its,bT M (fw e.1 (gN script)) (nm e)/\F2 [.int e.1,.int (gN script),.int e.2.2]=some (.str (nm e)):=by
  have hex:∀e:Item,∃l,e∈its->bT M (fw e.1 (gN script)) l/\F2 [.int e.1,.int (gN script),.int e.2.2]=some (.str l):=fun e=>by
   by_cases he:e∈its
   ·obtain⟨o1,o2,o3,o4⟩:=hG.ok e he
    obtain⟨l,h1,h2⟩:=H.name e.1 (gN script) e.2.2 ⟨o1,o2⟩ ht ⟨o3,o4⟩;exact⟨l,fun ø=>⟨h1,h2⟩⟩
   ·exact⟨[],fun h=>absurd h he⟩
  exact⟨fun e=>Classical.choose (hex e),fun e he=>Classical.choose_spec (hex e) he⟩
 have MR:∀e∈its,F8 [.str (MD nm e)]=some (uP (gN script) e):=fun e he=>by
  have:=H.read (nm e) (fw e.1 (gN script)) e.2.2 e.1 e.2.1 (HB e he).1 (Mx _ _ ht);rw[OY,OX]at this;exact this
 have Qn:(cm its).length=its.length:=bi ..;have hdk:bg bv ((cm its).map (·.2)) 0= .inl 0:=by
  have e:(cm its).map (·.2)=its.map (·.2.1):=by rw[dK];rfl
  rw[e];exact hG.dyck
 have hDy:CV (cm its):=⟨by rw[Qn];exact hG.len,hdk⟩;obtain⟨WM,WN⟩:=hDy.spec;rw[Qn]at WM;have hol:(mX its).length*2=its.length:=by rw[pT];exact WM
 have hAl:(lA its).length=(mX its).length:=bi ..;have hBl:(lB its).length=(mX its).length:=bi ..;have MN:∀x∈(lA its),x<=8:=fun x hx=>by
  have:=GH ((MQ its).symm▸hx);have e:(dY (cm its)).length=its.length:=by rw[bi,Qn]
  omega
 have MO:∀x∈(lB its),x<=8:=fun x hx=>by
  have:=GH (r:=cm its) hx;omega
 have h68:6<=its.length:=by rcases hG.len with e|e<;>omega
 have Fs:(lA its)≠[]:=fun z=>by have:=congrArg List.length z;simp only[eZ]at this;omega
 have De:(lB its)≠[]:=fun z=>by have:=congrArg List.length z;simp only[eZ]at this;omega
 obtain⟨t1,t2,t3,t4⟩:=qG De;obtain⟨e0,D1⟩:∃e0,its[0]?=some e0:=get_mem (by omega);obtain⟨c0,l0,hp0,hc1,hc2,ae7⟩:=G0 (HB e0 (mE D1)).1;have hAT:=tA (lA its) fun r hr=>aA (MN r hr) (by decide)
 have hBT:=tA (turn (lB its)) fun r hr=>aA (MO r (xu hr)) (by decide)
 rw[t3]at hBT;obtain⟨raw,mW,k,hfi⟩:=Da (rs:=(lA its)) (l:=l0++[32,9,32]) hc1 hc2 Fs;have ae8:V.obj (S2 (fO (lA its)++MD nm e0++[32,9,32]))=AK (lA its) raw mW k:=by rw[hp0,List.append_assoc];exact hfi
 obtain⟨e9,he9⟩:∃e9,its[its.length-1]?=some e9:=get_mem (by omega);obtain⟨c9',l9',hp9,hc3,hc4,hp9l⟩:=G0 (HB e9 (mE he9)).1;obtain⟨o8,pb,k',Yi⟩:=Da (rs:=turn (lB its)) (l:=l9') hc3 hc4 t4;rw[<-hp9]at Yi;have VZ:gt (.list (its.map (Fo nm))) (.int 0)=some (Fo nm e0):=gJ (k:=0) (by rw[bL,D1];rfl) (LB AP);have hi9:gt (.list (its.map (Fo nm))) (.int (-1))=some (Fo nm e9):=Dc (by rw[bi,bL,he9];rfl) (LB AP);have xY:(mX its).length<=4:=by omega
 have hbA:∀s∈mX its,(bR (bU (gO its)).1 (bU (gO its)).2 s).getD (.int 0)= .int (ga (dY (cm its)) s)/\ga (dY (cm its)) s<=100:=fun s lE=>by
  obtain⟨e,he,ho⟩:=GV lE;refine⟨Mu he ho,aA (xg (dY (cm its)) s) ?_⟩;rw[bi,Qn];exact aA AP (by decide)
 have hbB:∀s∈turn (mX its),(bR (partsOf (gN script) its).1 (partsOf (gN script) its).2 s).getD (.int 0)= .int (ga (cm its) s)/\ga (cm its) s<=100:=fun s lE=>by
  obtain⟨e,he,ho⟩:=GV (xu lE);exact⟨MH ht Uy he ho,aA (xg (cm its) s) (by rw[Qn];exact aA AP (by decide))⟩
 have hsA:F6 [mU (dY (cm its))]=some (gY (lA its)):=by rw[H.spans _ (by rw[bi,Qn];omega),GI,MQ]
 have hsB:F6 [mU (cm its)]=some (gY (lB its)):=by rw[H.spans _ (by rw[Qn];omega),GI,Qm]
 have hA4:(lA its).length<=4:=hAl▸xY;have hB4:(lB its).length<=4:=hBl▸xY;obtain⟨K,hK⟩:∃K,K=xV ((lA its)++(lB its))+1:=⟨_,rfl⟩;have hK9:K<=9:=by
  have:=To (l:=(lA its)++(lB its)) (m:=8) fun x hx=>by
   rcases cr.mp hx with hx|hx
   ·exact MN x hx
   ·exact MO x hx
  omega
 have hAc:=G1 MN (by omega);have ae9:∀r∈turn (lB its),r<=8:=fun r hr=>MO r (xu hr)
 have hBc:=G1 ae9 (by rw[t3];omega);have WO:∀size:Nat,0<size->size<=K->F9 [AK (lA its) raw mW k,.int size]=some (.int (cj (lA its) size)):=fun size z1 z2=>by
  rw[<-oS (lA its) size z1];exact H.level _ _ _ _ _ _ _ (by omega) hAc.2 (by omega) z1 (by omega)
 have WP:∀size:Nat,0<size->size<=K->F9 [AK (turn (lB its)) o8 pb k',.int size]=some (.int (cj (lB its) size)):=fun size z1 z2=>by
  rw[<-Db De size,<-oS (turn (lB its)) size z1];exact H.level _ _ _ _ _ _ _ (by omega) hBc.2 (by rw[t3];omega) z1 (by omega)
 have Tq:sj [.int 1,.int ((xV ((lA its)++(lB its)):Int)+2)]=some ((List.range K).map fun(j:Nat)=>V.int ((j+1:Nat):Int)):=by
  rw[<-Qg (k:=K) (by omega),hK];rfl
 have Tr:Pe [AK (lA its) raw mW k,AK (turn (lB its)) o8 pb k']=some (ly (im (cj (lA its)) (cj (lB its)) K)):=by
  have hKe:max (max ((((lA its).dropLast.foldl bump []).length:Int)-1) (((lA its).getLast?).getD 0:Nat)) (max ((((turn (lB its)).dropLast.foldl bump []).length:Int)-1) (((turn (lB its)).getLast?).getD 0:Nat))+1=K:=by
   rw[i7,i7,t1,t2,CP (rS (lB its).dropLast),GZ,GZ,<-yF Fs,<-yF De,hK,GW];exact Pg _ _
  have:=H.witness raw mW k ((lA its).length-1) (((lA its).getLast?).getD 0) ((lA its).dropLast.foldl bump []) o8 pb k' ((turn (lB its)).length-1) (((turn (lB its)).getLast?).getD 0) ((turn (lB its)).dropLast.foldl bump []) K (by omega) hAc.2 (by omega) (by omega) hBc.2 (by rw[t3];omega) (by omega) hKe;refine this.trans (congrArg (fun z=>some (ly z)) ?_);exact Dd fun j hj=>⟨oS (lA its) (j+1) (by omega),by rw[oS (turn (lB its)) (j+1) (by omega),Db De]⟩
 have heq:Pf [AK (lA its) raw mW k,AK (turn (lB its)) o8 pb k']=some (.bool (eB (cm its))):=by
  refine(H.equal ..).trans (congrArg (fun z=>some (V.bool z)) ?_);rw[WN,MQ,Qm,t1,t2,yI];simp only[dI,iK,List.isPerm_iff,jW];rw[E5];rw[vi Fs,vi De];simp only[kP,Option.some.injEq];exact⟨fun h=>⟨h.1.trans (rS _),h.2⟩,fun h=>⟨h.1.trans (rS _).symm,h.2⟩⟩
 have vn:F7 [mU (cm its)]=some (.bool (eB (cm its))):=H.nested _ 0 hdk (by rw[Qn];exact AP);exact f its nm e0 e9 _ _ K AP bN hG.dyck xD HB MR xY (by omega) hbA hbB VZ hi9 (by omega) (by omega) ((H.init _ (by rw[List.length_append,List.length_append];exact aA (nf (p8 hAT ae7) 3) (by omega))).trans (congrArg some (V.obj.inj ae8))) ((H.init _ (by rw[List.length_append];omega)).trans (congrArg some (V.obj.inj Yi))) rfl rfl hsA hsB Fs De Tq (by omega) (fun size z1 z2=>⟨WO size z1 z2,WP size z1 z2⟩) Tr heq vn
theorem Pj{P:Pk}{n:Nat}{C N:Addr}{mN:Str->Option Value}{W:cP P C N mN}{t7}{a1 F1 g1 h1 c1}{a2 F2 g2 h2 c2}{a3 F3 g3 h3 c3}{bz cb}{a4 F4 g4 h4 c4}{eQ wW}{a5 F5 g5 h5 c5}{g_W}{jL}{mk}{a6 F6 g6 h6 c6}{ls}{a7 F7 g7 h7 c7}{a8 F8 g8 h8 c8}{a9 F9 m9 o9 l9 c9}{a10 Pe m10 o10 l10 WQ}{a11 Pf m11 o11 l11 WR}{ρ:al}
  {M:CM} {script:List Int} (H:WL M script F1 F2 F3 F4 F5 jL F6 F7 F8 F9 Pe Pf) (hs:script.length<=63) (k0:ρ 0=some (.list (script.map .int))):
  (C2 (P:=P) (n:=n) (C:=C) (N:=N) (mN:=mN) W t7 (mB:=a1) (xl:=F1) g1 h1 c1 (kh:=a2) (ud:=F2) g2 h2 c2 (io:=a3) (pH:=F3) g3 h3 c3 bz cb (ki:=a4) (ue:=F4) g4 h4 c4 eQ wW (bb:=a5) (cA:=F5) g5 h5 c5 g_W (jL:=jL) mk (i0:=a6) (rG:=F6) g6 h6 c6 ls (iu:=a7) (pM:=F7) g7 h7 c7 (kj:=a8) (ui:=F8) g8 h8 c8 (cc:=a9) (fM:=F9) m9 o9 l9 c9 (ee:=a10) (iP:=Pe) m10 o10 l10 WQ (uO:=a11) (GQ:=Pf) m11 o11 l11 WR).1 ρ=some (.bool true):=by
 unfold C2;refine IJ H fun its nm e0 e9 fi se K AP bN hd xD HB MR xY Ts hbA hbB VZ hi9 hl0 hl9 hfi Yi hf5 hs5 hsA hsB Fs De Tq hK af0 Tr heq vn=>?_
 have h9:900+3<=most:=by decide
 have MN:(lA its).length<=8:=by rw[lA,bi];exact aA xY (by decide)
 have MO:(lB its).length<=8:=by rw[lB,bi];exact aA xY (by decide)
 have htl:(turn (mX its)).length<=1000:=by rw[(qG (l:=mX its) fun z=>by rw[z]at Ts;cases Ts).2.2.1];exact aA xY (by decide)
 refine dw (MC hs k0) (dw (dy (aq k0 rfl) xD) (dw (Tm AP rfl) (dw rfl (xm rfl (ME AP HB H.Fq (.mk rfl rfl rfl rfl)) fun af9 hR=>hR.ex fun σ=>MA rfl (dw (O6 AP MR rfl) (dw (O7 AP rfl) (dw (MF H.Fq AP rfl rfl) (dw (bJ rfl (H.runs (gO its) (by rw[rK];exact AP))) (dw rfl (xm (O8 AP rfl) (O9 H.runs AP (.mk rfl rfl rfl rfl rfl rfl rfl)) fun ag0 hR=>hR.ex fun σ=>MA rfl (AI (j8 (MK H.check AP bN hd rfl) rfl) (dw (Pc AP rfl) ?_))))))))))));refine dw (dy (aq (bu (bu (yE (aA xY (by decide)) hbA rfl rfl) (cM rfl rfl VZ) (j7 _ _ (aA hl0 (by decide)))) rfl (j7 _ _ (by rw[List.length_append];exact aA (nf hl0 3) h9))) rfl) (bh hfi rfl)) (dw (dy (aq (bu (mD (yE htl hbB (Pi Ts (aA xY (by decide)) rfl) rfl) (congrArg (fun z=>some (V.str (fO z))) (MM _ (mX its)))) (cM rfl rfl hi9) (j7 _ _ (aA hl9 (by decide)))) rfl) (bh Yi rfl)) ?_);refine dw (dy (aq (Ph AP rfl) rfl) hsA) (dw (bJ rfl hsB) (dw rfl (xm (dy (aq rfl (aq (bu (bJ (bu rfl rfl (uJ _ _ (by rw[bi,bi];exact aA (p8 MN MO) (by decide)))) ((congrArg (fun z=>Ee [.list z]) List.map_append.symm).trans (IF fun z=>Fs (List.append_eq_nil_iff.mp z).1))) rfl rfl) rfl)) Tq) (MP Fs De MN MO hK hf5 hs5 af0 (.mk rfl rfl rfl rfl rfl rfl)) fun ag1 hR=>hR.ex fun σ=>AI (j8 (ba (e7 rfl hf5 rfl Tr) rfl (Mm _)) rfl) (dy (Sx (bh (bh (ba (e7 rfl hf5 rfl heq) (bJ rfl vn) (QG _ _)) rfl) rfl)) ?_))));rw[pO]
section
noncomputable def MS(ps:List Str)(f:al->Option (al×Fl)):List V->Option V:=fun xs=>if xs.length=ps.length then(f (oX xs)).bind Un else none
theorem ib{ps:List Str}{f:al->Option (al×Fl)}{xs:List V}{v:V}(hl:xs.length=ps.length)(h:Ends f (oX xs) v):MS ps f xs=some v:=by
 obtain⟨aY,e⟩:=h;unfold MS;rw[aw hl,e];rfl
theorem Qo{ps:List Str}{f:al->Option (al×Fl)}{xs:List V}{Q:V->Prop}(hl:xs.length=ps.length)(h:te f (oX xs) Q):∃v,Q v/\MS ps f xs=some v:=by
 obtain⟨v,q,e⟩:=h;exact⟨v,q,ib hl e⟩
section
variable{P:Pk}
theorem gP{n:Nat}{a:Addr}{fd:FuncData}{st:Stmt}{ps:List Str}{K:Cx}{f:al->Option (al×Fl)}(Df:∀h,P.G h->(∃o,h.get? a=some o/\o.cls= .type "function"/\o.data= .func fd)/\h.CodeRec fd.code fd.qualname)(F:n5 fd st ps)(ok:Nv K (kl st) ps=true)(Bi:ps.Nodup)
  (Oa:(kl st).isCoroutine=false) (ut:(kl st).isGenerator=false) (h:qa P n K (dz st) f):aZ P (n+1) (.ref a) (MS ps f):=
 aZ.fn (fd:=fd) (fun h G=>by
  obtain⟨⟨o,h1,h2,h3⟩,h4⟩:=Df h G;exact⟨⟨o,h1,h3⟩,h4⟩) F.body F.gl F.bl F.clo F.bind (by rw[F.scope];exact vx.of ok) Bi (by rw[F.scope];exact Oa) (by rw[F.scope];exact ut) h
variable(X:bF P)
include X
theorem bF.G2:∃F,aZ P 1 (.ref 35) F/\∀us,jS us=true->us.flatten.length<=10000->us.length<=10000->F [.str us.flatten]=some (.str (gk us).flatten):=
 ⟨_,gP (fun h G=>PQ (X.top h G) fun ø ø e=>e) (Vi P.w.params) (by decide+kernel) (by decide+kernel) (by kernel_rfl) (by kernel_rfl) (dS (n:=0) X.fB X.gen X.cb).2,fun us h1 h2 h3=>ib rfl (HM h1 h2 h3 rfl)⟩
theorem bF.af1:∃F,aZ P 1 (.ref 60) F/\∀c:Nat,F [.str [c]]=some (.bool (decide ((c:Int)∈V4))):=
 ⟨_,gP (fun h G=>PS (X.top h G) fun ø ø e=>e) (Vm P.w.params) (by decide+kernel) (by decide+kernel) (by kernel_rfl) (by kernel_rfl) (SQ (n:=0) X.wP X.OD (Sr X.top)).2,fun c=>ib rfl (ST rfl)⟩
theorem bF.af2:∃F,aZ P 1 (.ref 106) F/\∀c:Nat,(oY [c]).length<10->F [.str [c]]=some (.str ((M4 FV c).getD (oY [c]))):=
 ⟨_,gP (fun h G=>Kr (X.top h G) fun ø ø e=>e) (RI P.w.params) (by decide+kernel) (by decide+kernel) (by kernel_rfl) (by kernel_rfl) (SR (n:=0) X.wP X.wV (R6 X.top)).2,fun c hc=>ib rfl (SU hc rfl)⟩
theorem bF.WS:∃F,aZ P 1 (.ref 180) F/\∀script:List Int,script.length<=63->∀t,0<=t->∃its,Av its/\F [.list (script.map .int),.int t]=some (.list (its.map Au)):=
 ⟨_,gP (fun h G=>Kz (X.top h G) fun ø ø e=>e) (RS P.w.params) (by decide+kernel) (by decide+kernel) (by kernel_rfl) (by kernel_rfl) (tm (n:=0) X.cb).2,fun script hs t ht=>by
  obtain⟨v,⟨its,h1,rfl⟩,h2⟩:=Qo (ps:=KA) (xs:=[.list (script.map .int),.int t]) rfl (OJ hs ht rfl rfl);exact⟨its,h1,h2⟩⟩
theorem bF.Tt(M:CM):∃F,aZ P 1 (.ref 185) F/\∀k t d,0<=k/\k<9->0<=t->0<=d/\d<=17857->∃l,bT M (fw k t) l/\F [.int k,.int t,.int d]=some (.str l):=by
 have hr:∀k t d:Int,0<=k/\k<9->0<=t->0<=d/\d<=17857->te (jF (P:=P) (n:=0) X.wO X.bz X.rA X.wP).1 (oX [.int k,.int t,.int d]) fun v=>∃l,bT M (fw k t) l/\v= .str l:=fun k t d hk ht hd=>LI (M:=M) hk ht hd rfl rfl rfl
 have hB:qa P 0 qp (dz (aJ pq.main.body 63)) (jF (P:=P) (n:=0) X.wO X.bz X.rA X.wP).1:=Subtype.property _;generalize(jF (P:=P) (n:=0) X.wO X.bz X.rA X.wP).1=f at*;refine⟨MS El f,gP (K:=qp) (f:=f) (fun h G=>KB (X.top h G) fun ø ø e=>e) (RT P.w.params) (by decide+kernel) (by decide+kernel) (by kernel_rfl) (by kernel_rfl) (by assumption),fun k t d hk ht hd=>?_⟩;obtain⟨v,⟨l,h1,rfl⟩,h2⟩:=Qo (ps:=El) (xs:=[.int k,.int t,.int d]) rfl (hr k t d hk ht hd);exact⟨l,h1,h2⟩
theorem bF.MT:∃F,aZ P 1 (.ref 192) F/\∀d,F [.int d]=some (.str (fX d).flatten):=
 ⟨_,gP (fun h G=>KC (X.top h G) fun ø ø e=>e) (RV P.w.params) (by decide+kernel) (by decide+kernel) (by kernel_rfl) (by kernel_rfl) (mh (n:=0)).2,fun d=>ib rfl (EO rfl)⟩
theorem bF.MU:∃F,aZ P 1 (.ref 216) F/\∀(r:du) d,bg bv (r.map (·.2)) 0= .inl d->r.length<=8->F [mU r]=some (.bool (eB r)):=
 ⟨_,gP (fun h G=>KH (X.top h G) fun ø ø e=>e) (R3 P.w.params) (by decide+kernel) (by decide+kernel) (by kernel_rfl) (by kernel_rfl) (mr (n:=0)).2,fun r d hd hl=>ib rfl (EW hd hl rfl)⟩
theorem bF.G3:∃F,aZ P 2 (.ref 42) F/\i6 F:=by
 obtain⟨F1,c1,s1⟩:=X.G2;exact⟨_,gP (fun h G=>PR (X.top h G) fun ø ø e=>e) (Vk P.w.params) (by decide+kernel) (by decide+kernel) (by kernel_rfl) (by kernel_rfl) (fY (n:=1) X.f8 X.f9 c1 X.fB X.gen).2,HV s1 fun t ws h1 h2 h3=>ib rfl (HN (us:=[]) h1 h2 h3 rfl)⟩
theorem bF.Tu:∃F,aZ P 3 (.ref 204) F/\∀its:List RItem,its.length<=8->F [.list (its.map mV)]=some (.dict (bU its).1 (bU its).2):=by
 obtain⟨F1,c1,s1⟩:=X.G3;exact⟨_,gP (fun h G=>KE (X.top h G) fun ø ø e=>e) (R0 P.w.params) (by decide+kernel) (by decide+kernel) (by kernel_rfl) (by kernel_rfl) (qy (n:=2) X.bz X.cb X.ea X.ec c1).2,fun its hl=>ib rfl (L7 hl s1 rfl)⟩
theorem bF.Tv:∃F,aZ P 2 (.ref 199) F/\∀l N d k o,bT X6 N l->N.length<=3->F [.str (l++(fX d).flatten++[xj k o])]=some (.tup [.str (N++uw (numOf k o)),.bool (numOf k o % 2==1)]):=by
 obtain⟨F1,c1,s1⟩:=X.G2;obtain⟨F2,c2,s2⟩:=X.af1;obtain⟨F3,c3,s3⟩:=X.af2;have hM:Gp X6 F2 F3:=fun c hc=>by
  by_cases q:(c:Int)∈V4
  ·refine .inl ⟨by rw[s2,eK q],?_⟩
   show LJ c=[];unfold LJ;rw[aw q]
  ·refine .inr ⟨by rw[s2,mG q],?_⟩
   rw[s3 c hc];show _=some (V.str (LJ c));unfold LJ;rw[az q]
 refine⟨_,gP (fun h G=>KD (X.top h G) fun ø ø e=>e) (RY P.w.params) (by decide+kernel) (by decide+kernel) (by kernel_rfl) (by kernel_rfl) (qq (n:=1) X.f8 X.f9 c1 X.fB X.gen X.cb X.Aj X.Al c2 X.xP X.xQ c3 X.qr (Ok X.top) X.LK).2,fun l N d k o hg hN=>ib rfl (LN s1 hM hg hN (Ti k o) ?_ (OZ k o) rfl)⟩;obtain⟨t1,t2,t3,t4,t5,t6⟩:=Ss P.w.params;unfold xj numOf;cases o
 ·split
  ·exact t2
  ·split
   ·exact t4
   ·exact t6
 ·split
  ·exact t1
  ·split
   ·exact t3
   ·exact t5
theorem bF.Pl:∃F,aZ P 1 (.ref 209) F/\∀r:du,r.length<=60->F [mU r]=some (.list (qB r)):=by
 have W:=og X.ob X.top;have F:=R1 P.w.params;refine⟨_,aZ.fnT (n:=0) (K:=iV) (fd:=fdOf jz) (ps:=KG) (fun h G=>by
  obtain⟨⟨o,h1,h2,h3⟩,h4⟩:=KF (X.top h G) fun ø ø e=>e
  exact⟨⟨o,h1,h3⟩,h4⟩) F.body F.gl F.bl F.clo F.bind (by rw[F.scope];exact vx.of (by decide+kernel)) (by decide+kernel) (by rw[F.scope];kernel_rfl) (by rw[F.scope];kernel_rfl) (E1 W X.eQ X.bz X.cb),fun r hr=>?_⟩
 have un:∀r:du,oD (r.map fun e=>.tup [.int e.1,.bool e.2])=some r:=fun r=>by
  induction r with
  |nil=>rfl
  |cons e r ih=>simp[H6,H7,H1,ih]
 show(Option.bind (some (mU r)) fun x=>Mk [x])=_;show(oD (r.map fun e=>V.tup [.int e.1,.bool e.2])).bind (fun r=>if r.length<=60 then some (V.list (qB r))else none)=_;rw[un,cR,aw hr]
theorem bF.IK:∃F,aZ P 1 (.ref 130) F/\∀(raw mW:V) (k:Int) (nt b:Nat) (cnt:List Int),cnt.length<=1000->F [mx raw mW k nt b cnt]=some (.int (max ((cnt.length:Int)-1) b)):=
 ⟨_,gP (fun h G=>Kv (X.top h G) fun ø ø e=>e) (RL P.w.params) (by decide+kernel) (by decide+kernel) (by kernel_rfl) (by kernel_rfl) (eC (n:=0) (og X.ob X.top) X.ls X.cb).2,fun raw mW k nt b cnt hc=>ib rfl (CK hc rfl)⟩
theorem bF.G4:∃F,aZ P 1 (.ref 137) F/\∀(raw mW:V) (k:Int) (nt b ts:Nat) (cnt:List Int),cnt.length<=1000->(∀z∈cnt,0<=z/\z<=1000)->nt<=1000->0<ts->ts<=1000->F [mx raw mW k nt b cnt,.int ts]=some (.int (iW cnt nt b ts)):=
 ⟨_,gP (fun h G=>Kw (X.top h G) fun ø ø e=>e) (RN P.w.params) (by decide+kernel) (by decide+kernel) (by kernel_rfl) (by kernel_rfl) (jI (n:=0) (og X.ob X.top) X.bz X.cb).2,fun raw mW k nt b ts cnt h1 h2 h3 h4 h5=>ib rfl (HY h1 h2 h3 h4 h5 rfl rfl)⟩
theorem bF.AH:∃F,aZ P 1 (.ref 144) F/\∀(raw mW:V) (k:Int) (nt b:Nat) (cnt:List Int) (o8 pb:V) (k':Int) (E2 b':Nat) (iX:List Int),F [mx raw mW k nt b cnt,mx o8 pb k' E2 b' iX]=some (.bool (decide (cnt=iX)&&decide (b=b'))):=
 ⟨_,gP (fun h G=>Kx (X.top h G) fun ø ø e=>e) (RP P.w.params) (by decide+kernel) (by decide+kernel) (by kernel_rfl) (by kernel_rfl) (Ay (n:=0) (og X.ob X.top)).2,fun raw mW k nt b cnt o8 pb k' E2 b' iX=>ib rfl (Ic rfl rfl)⟩
theorem bF.IL:∃F,aZ P 2 (.ref 151) F/\∀(raw mW:V) (k:Int) (nt b:Nat) (cnt:List Int) (o8 pb:V) (k':Int) (E2 b':Nat) (iX:List Int) (K:Nat),cnt.length<=1000->(∀z∈cnt,0<=z/\z<=1000)->nt<=1000->iX.length<=1000->(∀z∈iX,0<=z/\z<=1000)->E2<=1000->K<=1000->max (max ((cnt.length:Int)-1) b) (max ((iX.length:Int)-1) b')+1=K->
  F [mx raw mW k nt b cnt,mx o8 pb k' E2 b' iX]=some (ly (im (iW cnt nt b) (iW iX E2 b') K)):=by
 obtain⟨F1,c1,s1⟩:=X.G4;obtain⟨F2,c2,s2⟩:=X.IK;exact⟨_,gP (fun h G=>Ky (X.top h G) fun ø ø e=>e) (RR P.w.params) (by decide+kernel) (by decide+kernel) (by kernel_rfl) (by kernel_rfl) (f4 (n:=1) (og X.ob X.top) X.ls X.bz (gc _) X.bo ge c1 (kB _) X.cJ kF c2).2,
  fun raw mW k nt b cnt o8 pb k' E2 b' iX K h1 h2 h3 IT M8 W9 hK hKe=>ib rfl (CL (lv:=max ((cnt.length:Int)-1) b) (lw:=max ((iX.length:Int)-1) b') hK ⟨_,rfl,rfl⟩ ⟨_,rfl,rfl⟩ hKe (s2 _ _ _ _ _ _ h1) (s2 _ _ _ _ _ _ IT) (fun ts z1 z2=>⟨s1 _ _ _ _ _ _ _ h1 h2 h3 z1 (by omega),s1 _ _ _ _ _ _ _ IT M8 W9 z1 (by omega)⟩) rfl rfl)⟩
noncomputable def Qp(xs:List V):Option (List V):=(one? xs).bind fun x=>x.jO.bind fun l=>if l.length<=1000 then some (S2 l)else none
theorem bF.made:EF P 3 168 Qp where
 ok:=fun hx hv Od hs he=>by
  have F:=RJ P.w.params;refine Eu (n:=1) (og X.ob X.top) (K':=EX) (fI:=123) (fd:=fdOf iz) (ps:=Ku) (F0:=(EY (P:=P) (n:=1) (C:=168) (N:=167) (mN:=Lw P.w.params) (t_S:=2271) (t_T:=2272) (og X.ob X.top) X.kb X.cb X.Ak (fun h G=>⟨Su P.w.params,_,Gi X.top h G,Ck _,ac4 _⟩) (fun h G=>⟨Su P.w.params,_,Gi X.top h G,Ck _,ac5 _⟩)).1) (F:=Qp) hx hv Od (Lx _).1 (fun h G=>?_) (fun h G=>?_) F.body F.gl F.bl F.clo F.bind (by rw[F.scope];exact vx.of (by decide+kernel)) (by decide+kernel) (by rw[F.scope];kernel_rfl) (by rw[F.scope];kernel_rfl) (Subtype.property _) (fun x xs r hf=>?_) hs he
  ·obtain⟨⟨o,h1,h2,h3⟩,h4⟩:=Kt (X.top h G) fun ø ø e=>e
   exact⟨o,h1,h2⟩
  ·obtain⟨⟨o,h1,h2,h3⟩,h4⟩:=Kt (X.top h G) fun ø ø e=>e
   exact⟨⟨o,h1,h3⟩,h4⟩
  ·refine ah hf fun x hx hf=>ah hf fun l jN hf=>eN hf fun hl e=>?_
   cases gG hx;cases V.kS jN;subst e;exact⟨rfl,rfl,L9 hl rfl rfl⟩
end
end
theorem WT:bW 4 callerA:=⟨rfl,by decide,by decide⟩
theorem MV:∀(w:World) (ag:Heap) (mg mb:Str->Option Value) (hg:ag.Ns mainGlobals mg) (hb:ag.Ns builtinsNs mb) (nl:ag.NoLimit),(∀x:Str,x≠"__name__"->mb x=bootBuiltins x)->YP w ag->
  ∀(a:Addr) (o:Obj) (pm cd doc dV kV:Value),ag.get? a=some o->o.data= .func {docDef oZ.name oZ.params oZ.body oZ.scope pm cd doc with defaults:=dV,kwdefaults:=kV}->ag.CodeRec cd oZ.name->Dflts mg ag oZ.params [] dV kV->
   ∃n F,aZ (Ko RW.toRowW.prog w (Es 168) (Es.ok 168) ag mg mb hg hb nl) n (.ref a) F/\bW n callerA/\∀ns:List Int,ns.length<=63->F [.list (ns.map .int)]=some (.bool true):=by
 intro w ag mg mb hg hb nl hB y a o pm cd doc dV kV ho hd hc hD;have e0:oZ.params.defaults=[]:=by kernel_rfl
 obtain rfl:dV= .none:=by
  rcases hD.pos with h|h
  ·exact h.2
  ·exact absurd e0 h.1
 obtain rfl:kV= .none:=by
  rcases hD.kw with h|h
  ·exact h.2
  ·exact absurd rfl h.1
 have X:=Sv w ag mg mb hg hb nl hB y;have hG:∀h,(Ko RW.toRowW.prog w (Es 168) (Es.ok 168) ag mg mb hg hb nl).G h->∀b o,ag.get? b=some o->h.get? b=some o:=fun h G=>G
 generalize Ko RW.toRowW.prog w (Es 168) (Es.ok 168) ag mg mb hg hb nl=P at X hG ⊢;obtain⟨F1,c1,s1⟩:=X.WS;obtain⟨F2,c2,s2⟩:=X.Tt X6;obtain⟨F3,c3,s3⟩:=X.MT;obtain⟨F4,c4,s4⟩:=X.Tu;obtain⟨F5,c5,s5⟩:=X.G3;obtain⟨F6,c6,s6⟩:=X.Pl;obtain⟨F7,c7,s7⟩:=X.MU;obtain⟨F8,c8,s8⟩:=X.Tv;obtain⟨F9,c9,s9⟩:=X.G4;obtain⟨Pe,WQ,WU⟩:=X.IL;obtain⟨Pf,WR,IM⟩:=X.AH;have W:=og X.ob X.top;have H0:∀ns:List Int,ns.length<=63->(C2 (P:=P) (n:=3) W X.t7 X.ti X.tj (c1.qH 2) X.qs X.qv (c2.qH 2) X.mj X.mn (c3.qH 2) X.bz X.cb X.qu X.qx c4 X.eQ X.wW X.ea X.ec (c5.qH 1) X.kb X.made X.oA X.oB (c6.qH 2) X.ls X.mm X.mq (c7.qH 2) X.qt X.qw (c8.qH 1) (gc _) X.bo ge (c9.qH 2) (fE _) X.cS fG (WQ.qH 1) (wX _) X.rC wY (WR.qH 2)).1 (oX [.list (ns.map .int)])=some (.bool true):=fun ns vn=>
  Pj (M:=X6) (script:=ns) {row:=s1 ns vn,name:=s2,Fq:=s3,runs:=s4,check:=s5,init:=fun l hl=>by show(if l.length<=1000 then some (S2 l)else none)=_;rw[aw hl],spans:=s6,nested:=s7,read:=s8,level:=s9,witness:=WU,equal:=IM} vn rfl
 have hB:Og P 3 GO (dz (aJ pq.main.body 69)) (C2 (P:=P) (n:=3) W X.t7 X.ti X.tj (c1.qH 2) X.qs X.qv (c2.qH 2) X.mj X.mn (c3.qH 2) X.bz X.cb X.qu X.qx c4 X.eQ X.wW X.ea X.ec (c5.qH 1) X.kb X.made X.oA X.oB (c6.qH 2) X.ls X.mm X.mq (c7.qH 2) X.qt X.qw (c8.qH 1) (gc _) X.bo ge (c9.qH 2) (fE _) X.cS fG (WQ.qH 1) (wX _) X.rC wY (WR.qH 2)).1:=Subtype.property _;generalize(C2 (P:=P) (n:=3) W X.t7 X.ti X.tj (c1.qH 2) X.qs X.qv (c2.qH 2) X.mj X.mn (c3.qH 2) X.bz X.cb X.qu X.qx c4 X.eQ X.wW X.ea X.ec (c5.qH 1) X.kb X.made X.oA X.oB (c6.qH 2) X.ls X.mm X.mq (c7.qH 2) X.qt X.qw (c8.qH 1) (gc _) X.bo ge (c9.qH 2) (fE _) X.cS fG (WQ.qH 1) (wX _) X.rC wY (WR.qH 2)).1=f at H0 hB;refine⟨4,fun xs=>if xs.length=1 then f (oX xs)else none,aZ.fnT (n:=3) (K:=GO) (ps:=[Ty]) (body:=dz (aJ pq.main.body 69)) (fun h G=>⟨⟨o,hG h G _ _ ho,hd⟩,?_⟩) rfl rfl rfl rfl (fun vs h=>by
  obtain⟨v,rfl⟩:=List.length_eq_one_iff.mp h;rfl) (vx.of (by
  show Nv GO (kl (aJ pq.main.body 69)) _=true
  decide+kernel)) (by decide+kernel) (by
  show(kl (aJ pq.main.body 69)).isCoroutine=false
  kernel_rfl) (by
  show(kl (aJ pq.main.body 69)).isGenerator=false
  kernel_rfl) (by assumption),WT,fun ns vn=>?_⟩
 ·exact hc.keeps (hG h G)
 ·show(if 1=1 then f (oX [.list (ns.map .int)])else none)=_
  rw[aw rfl,H0 ns vn]
theorem all_holds:PySem.Challenge.rw_sl0032_01.Holds:=top_holds prom (N1 (Es 168) (Es.ok 168) MV)
end
end Mine
theorem PySem.Challenge.cw_sl0032_01_holds : PySem.Challenge.rw_sl0032_01.Holds :=
  Mine.all_holds
