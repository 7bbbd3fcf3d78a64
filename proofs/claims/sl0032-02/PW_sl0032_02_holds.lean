import PyProof.Rows.All
import PyProof.FactsAll.set
import PyProof.GenRules
import PyProof.GenQ
import PyProof.ListRange
import PyProof.ZipIter
import PyProof.Rows.Chain
import PyProof.Rows.EnumRows
import PyProof.Rows.SeqMore
import PyProof.Rows.PlainObj
import PyProof.Rows.SortStr
import PyProof.Rows.SetFrom
import OpenK.KCls
import Wide.FinOn
import OpenK.AllK
import Wide.All
import Lean
import PySem.Challenge.RW_sl0032_02
open PySem PySem.W PySem.Calls PyProof.Rows
set_option Elab.async false
set_option linter.all false
set_option maxRecDepth 100000
set_option maxHeartbeats 0
set_option backward.eqns.nonrecursive false
set_option backward.eqns.deepRecursiveSplit false
set_option tactic.hygienic false
namespace Mine
noncomputable section
local macro_rules | `(tactic| omega) => `(tactic| lia)
abbrev au:= @if_neg
abbrev aw:= @if_pos
abbrev az:= @Nat.le_trans
abbrev aA:= @wpAny_bind
abbrev aD:= @wpAny_mono
abbrev aY:= @List.length_append
abbrev bI:= @List.mem_cons
abbrev bK:= @wpAny_pure
abbrev bZ:= @List.mem_append
abbrev ca:= @List.cons_ne_nil
abbrev bo:= @decide_eq_true
abbrev bz:= @Heap.get?_push_of_some
abbrev bB:= @List.map_cons
abbrev bJ:= @Heap.get?_push_size
abbrev bL:= @Nat.le_refl
abbrev bR:= @List.flatten_append
abbrev bX:= @Bool.and_eq_true
abbrev cb:= @List.size_toArray
abbrev ck:= @List.mem_append_right
abbrev cq:= @List.mem_singleton
abbrev cr:= @List.length_cons
abbrev cH:= @List.all_eq_true
abbrev cP:= @List.mem_append_left
abbrev cV:= @of_decide_eq_true
abbrev db:= @decide_eq_false
abbrev dg:= @List.foldl_cons
abbrev dh:= @List.getElem?_map
abbrev dt:= @List.mem_map
abbrev dF:= @List.foldl_append
abbrev dU:= @Nat.le_of_lt
abbrev dZ:= @List.append_nil
abbrev ea:= @List.mem_range
abbrev ew:= @Heap.lt_size
abbrev ez:= @Nat.le_succ_of_le
abbrev eK:= @Nat.zero_le
abbrev eM:= @List.length_range
abbrev eQ:= @List.flatten_cons
abbrev fq:= @Nat.lt_of_le_of_lt
abbrev ft:= @Ne.symm
abbrev fu:= @Nat.lt_of_lt_of_le
abbrev fM:= @wpAny_Name
abbrev fO:= @Nat.le_add_right
abbrev fP:= @Nat.succ_le_succ
abbrev ge:= @List.mem_cons_of_mem
abbrev gg:= @Nat.zero_add
abbrev gh:= @List.nil_append
abbrev gj:= @wpAny_field
abbrev gv:= @Nat.lt_irrefl
abbrev gw:= @List.mem_filter
abbrev gx:= @List.length_nil
abbrev gG:= @List.getElem?_eq_some_iff
abbrev gH:= @wpAny_holding
abbrev gI:= @List.mem_cons_self
abbrev gJ:= @List.flatten_singleton
abbrev gX:= @if_false
abbrev gY:= @Nat.not_lt
abbrev iG:= @List.getElem?_eq_getElem
abbrev iH:= @List.map_map
abbrev jd:= @Heap.size_push
abbrev je:= @Nat.le_of_eq
abbrev jf:= @Nat.succ_pos
abbrev jg:= @Nat.mul_le_mul_left
abbrev jL:= @if_true
abbrev jM:= @sizeLine_eq
abbrev jN:= @beq_iff_eq
abbrev jO:= @Nat.add_le_add_right
abbrev jP:= @PySem.W.Fast.te14364793385576792824
abbrev jQ:= @seg_execs_cons
abbrev jR:= @Int.ofNat_lt
abbrev kB:= @wpAny_loadName_local
abbrev kC:= @Bool.false_eq_true
abbrev kF:= @wpAny_Call_Name_kw
abbrev kG:= @Option.bind_eq_some_iff
abbrev kH:= @Nat.le_succ
abbrev kI:= @beq_eq_false_iff_ne
abbrev kJ:= @Heap.get?_update_self
abbrev kK:= @Nat.lt_succ_of_lt
abbrev kL:= @Nat.le_of_succ_le
abbrev kM:= @Nat.add_le_add
abbrev mG:= @Prod.mk.inj
abbrev mH:= @wpAny_truthy_bool
abbrev mI:= @decide_eq_true_eq
abbrev mJ:= @Nat.lt_succ_self
abbrev mK:= @List.nodup_cons
abbrev mL:= @Int.not_le
abbrev mM:= @List.foldl_nil
abbrev mP:= @Nat.add_le_add_left
abbrev mQ:= @decide_eq_decide
abbrev m7:= @wpAny_items_cons
abbrev na:= @List.getElem?_eq_none
abbrev nc:= @Int.ofNat_le
abbrev nf:= @Nat.ne_of_lt
abbrev ni:= @Int.natCast_nonneg
abbrev nj:= @decide_eq_true_iff
abbrev oK:= @Heap.SameBut.update
abbrev oM:= @List.forIn_cons
abbrev oN:= @bne_iff_ne
abbrev oO:= @List.mem_of_getElem?
abbrev oP:= @Int.le_trans
abbrev oQ:= @wpAny_callSpecial?_slot
abbrev j4:= @Heap.get?_update_other
abbrev j5:= @List.length_replicate
abbrev j6:= @List.sum_cons
abbrev lx:= @Bool.or_eq_true
abbrev ly:= @Bool.eq_iff_iff
abbrev lz:= @wpAny_assign_Name
abbrev lA:= @List.lookup_cons
abbrev lB:= @wpAny_standAt
abbrev lC:= @List.reverse_cons
abbrev lE:= @wpAny_call_entry
abbrev lF:= @Option.bind_some
abbrev lG:= @PySem.W.Fast.te10110043849684766642
abbrev lH:= @Nat.add_zero
abbrev lI:= @List.nodup_append
abbrev lJ:= @segRun_of
abbrev lK:= @List.map_congr_left
abbrev lL:= @Int.toNat_natCast
abbrev lM:= @typeLookup_type
abbrev lN:= @builtinLookup_eq_fast
abbrev lO:= @F.plain_extend_loop
abbrev nk:= @wpAny_items_nil
abbrev np:= @Option.map_eq_some_iff
abbrev nq:= @List.forIn_nil
abbrev nu:= @Sem.wrap_wrap
abbrev ny:= @Bool.false_ne_true
abbrev nz:= @Nat.ne_of_gt
abbrev nA:= @piece_app
abbrev nB:= @List.length_drop
abbrev nC:= @wpAny_updateSeq
abbrev nD:= @wpAny_seqItems
abbrev ph:= @PySem.callWith_type
abbrev pi:= @Nat.succ_ne_self
abbrev pj:= @List.zip_cons_cons
abbrev pk:= @List.map_nil
abbrev pn:= @Nat.mul_zero
abbrev po:= @List.map_singleton
abbrev pp:= @List.length_dropLast
abbrev pr:= @Option.map_some
abbrev qM:= @List.replicate_succ
abbrev qN:= @call_meets
abbrev qO:= @beq_self_eq_true
abbrev qP:= @wpAny_storeName_local
abbrev qQ:= @wpAny_Assign_Name
abbrev qR:= @List.take_of_length_le
abbrev qS:= @List.filter_cons
abbrev qU:= @typeIs_str
abbrev qV:= @List.filterMap_cons
abbrev qW:= @Int.eq_ofNat_of_zero_le
abbrev qX:= @Nat.add_comm
abbrev qY:= @wpAny_rule
abbrev qZ:= @wpAny_letGo
abbrev q9:= @List.filterMap_cons_some
abbrev rc:= @Nat.add_sub_cancel'
abbrev rd:= @Nat.le_max_right
abbrev re:= @Nat.max_le
abbrev rf:= @List.length_filter_le
abbrev rg:= @Nat.lt_succ_of_le
abbrev rh:= @F.slot_zip_next
abbrev tl:= @wpAny_Constant_str
abbrev tm:= @wpAny_isTrue_Compare1
abbrev tn:= @wpAny_isTrue_value
abbrev tq:= @callWith_builtin
abbrev tr:= @decide_eq_false_iff_not
abbrev tt:= @wpAny_execs_cons
abbrev tu:= @List.length_pos_iff
abbrev tw:= @Nat.le_of_not_lt
abbrev tz:= @wpAny_pyIter_list
abbrev tA:= @pushCells_keeps
abbrev tB:= @List.drop_eq_nil_of_le
abbrev tC:= @wpAny_newObj_type
abbrev tD:= @List.not_mem_nil
abbrev tE:= @List.singleton_append
abbrev tF:= @Heap.get?_eq_some
abbrev tG:= @wpAny_attempt
abbrev tH:= @List.getElem?_drop
abbrev tI:= @Nat.sub_self
abbrev tJ:= @List.range_succ
abbrev tK:= @List.length_take
abbrev tL:= @Nat.lt_add_of_pos_right
abbrev tM:= @Option.getD_some
abbrev tN:= @plainId_quiet
abbrev tO:= @Array.size_push
abbrev tP:= @Nat.le_add_left
abbrev tQ:= @List.all_cons
abbrev tR:= @List.cons.inj
abbrev tU:= @Nat.le_of_lt_succ
abbrev tV:= @List.foldr_cons
abbrev tW:= @Nat.one_mul
abbrev tX:= @Nat.add_left_cancel
abbrev tY:= @wpAny_setField_rec
abbrev xz:= @wpAny_Constant_bool
abbrev xA:= @List.exists_cons_of_ne_nil
abbrev xB:= @wpAny_Call_method_lateS
abbrev xC:= @Nat.sub_add_cancel
abbrev xD:= @Array.getElem?_eq_some_iff
abbrev xE:= @Array.getElem?_eq_getElem
abbrev xF:= @Bool.and_eq_true_iff
abbrev xG:= @List.getElem?_zip_eq_some
abbrev xH:= @wpAny_specialOf
abbrev xI:= @Bool.true_and
abbrev xJ:= @List.length_zip
abbrev xK:= @List.take_length
abbrev xL:= @List.filter_eq_nil_iff
abbrev xM:= @List.nodup_nil
abbrev xN:= @wpAny_onRaise
abbrev xO:= @seg_execs_nil
abbrev xP:= @List.take_add_one
abbrev xQ:= @Nat.le_of_not_le
abbrev xR:= @codeAny_builtin
abbrev xS:= @F.entry_extend_loop
abbrev xT:= @Around.under_plainId
abbrev xU:= @Nat.le_max_left
abbrev xV:= @List.take_append_drop
abbrev xW:= @List.count_cons
abbrev xX:= @F.slot_range_iterator_next
abbrev xY:= @wpAny_nextOf_list_item
abbrev xZ:= @Subtype.property
abbrev Ch:= @wpAny_isTrue_BoolOp
abbrev Ci:= @wpAny_allTrue_And_cons
abbrev Cj:= @List.append_toArray
abbrev Ck:= @PySem.F.plainAttrs_list
abbrev Cl:= @PySem.F.slot_list_pop
abbrev Cm:= @wpAny_assign_Tuple
abbrev Cn:= @wpAny_pyIter_range
abbrev Co:= @List.getElem?_range
abbrev Cp:= @List.getElem_of_mem
abbrev Cq:= @List.contains_cons
abbrev Cr:= @List.zipWith_cons_cons
abbrev Cs:= @PySem.F.plainAttrs_str
abbrev Ct:= @PySem.W.Fast.te11892475500146522536
abbrev Cu:= @arm_eval_Attribute
abbrev Cv:= @List.mem_of_mem_take
abbrev Cw:= @Classical.byContradiction
abbrev Cy:= @List.filterMap_cons_none
abbrev Cz:= @PySem.F.slot_list_extend
abbrev CB:= @List.map_eq_nil_iff
abbrev CC:= @List.eq_nil_of_length_eq_zero
abbrev CF:= @Nat.lt_of_le_of_ne
abbrev CG:= @List.count_le_length
noncomputable def s0:Str:=⟨#[95,95,110,97,109,101,95,95]⟩
noncomputable def s1:Str:=⟨#[99,112,121,51,49,51,46,115,116,114,105,110,103,112,114,101,112]⟩
noncomputable def s2:Str:=⟨#[95,95,100,111,99,95,95]⟩
noncomputable def s3:Str:=⟨#[47,99,108,97,105,109,47,99,117,116,46,112,121]⟩
noncomputable def s4:Str:=⟨#[98,49,95,115,101,116]⟩
noncomputable def s5:Str:=⟨#[105,110,95,116,97,98,108,101,95,98,49]⟩
noncomputable def s6:Str:=⟨#[98,51,95,101,120,99,101,112,116,105,111,110,115]⟩
noncomputable def s7:Str:=⟨#[99,112,121,51,49,51,46,116,97,98,110,97,110,110,121]⟩
noncomputable def s8:Str:=⟨#[109,97,112,95,116,97,98,108,101,95,98,51]⟩
noncomputable def s9:Str:=⟨#[95,105,116,101,114,95,101,115,99,97,112,101,100,95,99,104,97,114,115]⟩
noncomputable def Eh:Str:=⟨#[95,115,116,114,105,112,95,113,117,111,116,101,100,95,114,101,97,108,110,97,109,101,115]⟩
noncomputable def G6:Str:=⟨#[95,99,104,101,99,107,95,112,97,114,101,110,116,104,101,115,105,115]⟩
noncomputable def CH:Str:=⟨#[87,104,105,116,101,115,112,97,99,101]⟩
noncomputable def RT:Str:=⟨#[83]⟩
noncomputable def RU:Str:=⟨#[84]⟩
noncomputable def U2:Str:=⟨#[95,95,105,110,105,116,95,95]⟩
noncomputable def G7:Str:=⟨#[108,111,110,103,101,115,116,95,114,117,110,95,111,102,95,115,112,97,99,101,115]⟩
noncomputable def Ei:Str:=⟨#[105,110,100,101,110,116,95,108,101,118,101,108]⟩
noncomputable def Nl:Str:=⟨#[101,113,117,97,108]⟩
noncomputable def Nm:Str:=⟨#[110,111,116,95,101,113,117,97,108,95,119,105,116,110,101,115,115]⟩
noncomputable def Nn:Str:=⟨#[108,101,115,115]⟩
noncomputable def No:Str:=⟨#[110,111,116,95,108,101,115,115,95,119,105,116,110,101,115,115]⟩
noncomputable def U3:Str:=⟨#[69,88,65,67,84,95,84,79,75,69,78,95,84,89,80,69,83]⟩
noncomputable def YW:Str:=⟨#[60,109,111,100,117,108,101,62]⟩
noncomputable def U4:Str:=⟨#[99,111,100,101]⟩
noncomputable def Op:Str:=⟨#[97,100,100,114]⟩
noncomputable def RV:Str:=⟨#[112,111,115]⟩
noncomputable def Oq:Str:=⟨#[99,104]⟩
noncomputable def Wa:Str:=⟨#[99,112,121,51,49,51,46,101,109,97,105,108,46,117,116,105,108,115]⟩
noncomputable def Wb:Str:=⟨#[115,116,97,114,116]⟩
noncomputable def YX:Str:=⟨#[111,112,101,110,95,112,111,115]⟩
noncomputable def YY:Str:=⟨#[114,101,115,117,108,116]⟩
noncomputable def wd:Str:=⟨#[115,101,108,102]⟩
noncomputable def Rf:Str:=⟨#[99,111,117,110,116]⟩
noncomputable def Le:Str:=⟨#[110]⟩
noncomputable def Wc:Str:=⟨#[87,104,105,116,101,115,112,97,99,101,46,95,95,105,110,105,116,95,95]⟩
noncomputable def U5:Str:=⟨#[116,114,97,105,108,105,110,103]⟩
noncomputable def Wd:Str:=⟨#[87,104,105,116,101,115,112,97,99,101,46,108,111,110,103,101,115,116,95,114,117,110,95,111,102,95,115,112,97,99,101,115]⟩
noncomputable def We:Str:=⟨#[116,97,98,115,105,122,101]⟩
noncomputable def Wf:Str:=⟨#[87,104,105,116,101,115,112,97,99,101,46,105,110,100,101,110,116,95,108,101,118,101,108]⟩
noncomputable def Fs:Str:=⟨#[111,116,104,101,114]⟩
noncomputable def Wg:Str:=⟨#[87,104,105,116,101,115,112,97,99,101,46,101,113,117,97,108]⟩
noncomputable def Rg:Str:=⟨#[116,115]⟩
noncomputable def Wh:Str:=⟨#[87,104,105,116,101,115,112,97,99,101,46,110,111,116,95,101,113,117,97,108,95,119,105,116,110,101,115,115]⟩
noncomputable def Wi:Str:=⟨#[87,104,105,116,101,115,112,97,99,101,46,108,101,115,115]⟩
noncomputable def Wj:Str:=⟨#[87,104,105,116,101,115,112,97,99,101,46,110,111,116,95,108,101,115,115,95,119,105,116,110,101,115,115]⟩
noncomputable def YZ:Str:=⟨#[95,95,100,105,99,116,95,95]⟩
noncomputable def Y0:Str:=⟨#[95,95,119,101,97,107,114,101,102,95,95]⟩
noncomputable def KU:Str:=⟨#[108,97,119,95,115,108,48,48,51,50,95,48,50]⟩
noncomputable def KV:Str:=⟨#[95,108,97,119,95,114,111,119]⟩
noncomputable def G8:Str:=⟨#[95,108,97,119,95,110,97,109,101,115]⟩
noncomputable def KW:Str:=⟨#[95,108,97,119,95,115,112,101,108,108,101,100]⟩
noncomputable def KX:Str:=⟨#[95,108,97,119,95,116,101,120,116]⟩
noncomputable def KY:Str:=⟨#[95,108,97,119,95,101,118,101,110,116,115]⟩
noncomputable def KZ:Str:=⟨#[95,108,97,119,95,101,110,100,115]⟩
noncomputable def K0:Str:=⟨#[95,108,97,119,95,105,110,100,101,110,116]⟩
noncomputable def K2:Str:=⟨#[95,108,97,119,95,115,116,101,112,115]⟩
noncomputable def Os:Str:=⟨#[108,97,119]⟩
noncomputable def Lg:Str:=⟨#[116,111,116,97,108]⟩
noncomputable def Y1:Str:=⟨#[108,101,116,116,101,114]⟩
noncomputable def K3:Str:=⟨#[114,111,119]⟩
noncomputable def RX:Str:=⟨#[116,101,120,116]⟩
noncomputable def RY:Str:=⟨#[97,99,116]⟩
noncomputable def Rh:Str:=⟨#[119,104,105,99,104]⟩
noncomputable def Ot:Str:=⟨#[100,114,97,119]⟩
noncomputable def Y2:Str:=⟨#[114,101,109,97,114,107]⟩
noncomputable def G9:Str:=⟨#[101,118,101,110,116,115]⟩
noncomputable def Ha:Str:=⟨#[110,97,109,101]⟩
noncomputable def Wk:Str:=⟨#[115,101,101,110]⟩
noncomputable def RZ:Str:=⟨#[112,108,97,99,101]⟩
noncomputable def Wl:Str:=⟨#[115,105,103,110]⟩
noncomputable def U6:Str:=⟨#[115,99,114,105,112,116]⟩
noncomputable def Ri:Str:=⟨#[101,110,100,115]⟩
noncomputable def we:Str:=⟨#[108,101,110]⟩
noncomputable def Y3:Str:=⟨#[111,112,101,110,101,100]⟩
noncomputable def v7:Str:=⟨#[114,97,110,103,101]⟩
noncomputable def Rj:Str:=⟨#[99,104,114]⟩
noncomputable def R0:Str:=⟨#[108,105,115,116]⟩
noncomputable def Wm:Str:=⟨#[111,114,100]⟩
noncomputable def Wn:Str:=⟨#[115,117,109]⟩
noncomputable def Ej:Str:=⟨#[109,97,120]⟩
noncomputable def Wo:Str:=⟨#[116,117,112,108,101]⟩
noncomputable def Wp:Str:=⟨#[122,105,112]⟩
noncomputable def Rk:Str:=⟨#[102,114,101,101]⟩
noncomputable def U7:Str:=⟨#[115,116,101,112,115]⟩
noncomputable def U8:Str:=⟨#[104,101,108,100]⟩
noncomputable def Wq:Str:=⟨#[115,116,97,99,107]⟩
noncomputable def Wr:Str:=⟨#[115,105,122,101]⟩
noncomputable def Ws:Str:=⟨#[102,105,114,115,116]⟩
noncomputable def Y4:Str:=⟨#[115,101,99,111,110,100]⟩
noncomputable def Y5:Str:=⟨#[111,110,101,95,114,111,119]⟩
theorem ir{A B:Sort _}{f:A->B}(a:A):f a=f a:=rfl
theorem cz{A:Sort _}{B:A->Sort _}{C:Sort _}{f:(a:A)->B a->C}(a:A)(b:B a):f a b=f a b:=rfl
section
theorem ak{α β:Type _}{o:Option α}{f:α->Option β}{z:β}{G:Prop}(h:o.bind f=some z)(k:∀a,o=some a->f a=some z->G):G:=by
 cases o with
 |none=>cases h
 |some a=>exact k a rfl h
theorem cI{α β:Type _}{o:Option α}{f:α->β}{z:β}{G:Prop}(h:o.map f=some z)(k:∀a,o=some a->f a=z->G):G:=by
 cases o with
 |none=>cases h
 |some a=>exact k a rfl (Option.some.inj h)
@[elab_as_elim] theorem pair_inv {α β:Type _} {a x:α} {b y:β} {G:α->β->Prop} (h:(a,b)=(x,y)) (k:G a b):G x y:=by
 obtain⟨rfl,rfl⟩:=mG h;exact k
inductive V where
 |none
 |bool (b:Bool)
 |int (i:Int)
 |str (s:List Nat)
 |tup (l:List V)
 |list (l:List V)
 |dict (ks:List Int) (vs:List V)
 |obj (l:List V)
 deriving Inhabited
noncomputable abbrev pyStr(s:List Nat):Str:=⟨s.toArray⟩
noncomputable def x0(h:Heap)(a:Addr)(items:Array Value):Prop:=∃n,h.get? a=some {cls:=.type "tuple",data:=.seq items n}
theorem x0.isTup{h:Heap}{a items}(x:x0 h a items):IsTup h a items:=let⟨n,e⟩:=x;⟨_,e,rfl,n,rfl⟩
theorem x0.x3{h:Heap}{a items}(x:x0 h a items):h.IsTuple a items:=let⟨n,e⟩:=x;⟨_,e,rfl,n,rfl⟩
section
variable(prog:Program)(w:World)(OB:Heap->Addr->List Value->(Addr->Prop)->Prop)
mutual
noncomputable def ri(h:Heap)(T:Addr->Prop):V->Value->Prop
 | .none,v=>v= .none
 | .bool b,v=>v= .bool b
 | .int i,v=>∃t,v= .int i t
 | .str s,v=>∃t,v= .str (pyStr s) t
 | .tup l,v=>∃a vs,v= .ref a/\T a/\x0 h a vs.toArray/\bq h T l vs
 | .list l,v=>∃a vs,v= .ref a/\T a/\h.PlainList a vs.toArray/\bq h T l vs
 | .dict ks l,v=>∃a vs,v= .ref a/\T a/\vs.length=ks.length/\(a==sysModules)=false/\h.DictOf (intKind prog w) a (ks.zip vs)/\bq h T l vs
 | .obj l,v=>∃a vs,v= .ref a/\OB h a vs T/\bq h T l vs
noncomputable def bq(h:Heap)(T:Addr->Prop):List V->List Value->Prop
 |[],vs=>vs=[]
 |x::xs,vs=>∃v r,vs=v::r/\ri h T x v/\bq h T xs r
end
end
noncomputable def Hg(OB:Heap->Addr->List Value->(Addr->Prop)->Prop):Prop:=
 ∀(h h':Heap) (T T':Addr->Prop) a vs,(∀a o,T a->h.get? a=some o->h'.get? a=some o)->(∀a o,T a->h.get? a=some o->T' a)->OB h a vs T->OB h' a vs T'
section
variable{prog:Program}{w:World}{OB:Heap->Addr->List Value->(Addr->Prop)->Prop}(ok:Hg OB)
include ok
mutual
theorem ri.mono{h h':Heap}{T T':Addr->Prop}(hk:∀a o,T a->h.get? a=some o->h'.get? a=some o)(hT:∀a o,T a->h.get? a=some o->T' a):
  ∀(x:V) (v:Value),ri prog w OB h T x v->ri prog w OB h' T' x v
 | .none,v,e| .bool b,v,e| .int i,v,e| .str s,v,e=>e
 | .tup l,v,e=>by
   obtain⟨a,vs,rfl,ha,hl,hr⟩:=e;obtain⟨o,ho⟩:=id hl;exact⟨a,vs,rfl,hT a _ ha ho,⟨o,hk a _ ha ho⟩,bq.mono hk hT l vs hr⟩
 | .list l,v,e=>by
   obtain⟨a,vs,rfl,ha,hl,hr⟩:=e;obtain⟨o,ho⟩:=id hl;exact⟨a,vs,rfl,hT a _ ha ho,⟨o,hk a _ ha ho⟩,bq.mono hk hT l vs hr⟩
 | .dict ks l,v,e=>by
   obtain⟨a,vs,rfl,ha,hlen,ls,hl,hr⟩:=e;obtain⟨o,es,ep,ho,Rl⟩:=id hl;exact⟨a,vs,rfl,hT a o ha ho,hlen,ls,⟨o,es,ep,hk a o ha ho,Rl⟩,bq.mono hk hT l vs hr⟩
 | .obj l,v,e=>by
   obtain⟨a,vs,rfl,ho,hr⟩:=e;exact⟨a,vs,rfl,ok _ _ _ _ _ _ hk hT ho,bq.mono hk hT l vs hr⟩
theorem bq.mono{h h':Heap}{T T':Addr->Prop}(hk:∀a o,T a->h.get? a=some o->h'.get? a=some o)(hT:∀a o,T a->h.get? a=some o->T' a):
  ∀(x:List V) (v:List Value),bq prog w OB h T x v->bq prog w OB h' T' x v
 |[],vs,e=>e
 |x::xs,vs,e=>by
  obtain⟨v,r,rfl,h1,h2⟩:=e;exact⟨v,r,rfl,ri.mono hk hT x v h1,bq.mono hk hT xs r h2⟩
end
end
section
variable{prog:Program}{w:World}{OB:Heap->Addr->List Value->(Addr->Prop)->Prop}{h:Heap}{T:Addr->Prop}
theorem bq.length:∀{l:List V} {vs:List Value},bq prog w OB h T l vs->vs.length=l.length
 |[],_,e=>by obtain rfl:_=[]:=e;rfl
 |x::xs,_,e=>by
  obtain⟨v,r,rfl,_,h2⟩:=e;simp[bq.length h2]
theorem bq.get:∀{l:List V} {vs:List Value} {i:Nat} {x:V},bq prog w OB h T l vs->l[i]?=some x->∃v,vs[i]?=some v/\ri prog w OB h T x v
 |[],_,_,_,_,hx=>by simp at hx
 |y::ys,_,0,x,e,hx=>by
  obtain⟨v,r,rfl,h1,h2⟩:=e;simp at hx;subst hx;exact⟨v,by simp,h1⟩
 |y::ys,_,i+1,x,e,hx=>by
  obtain⟨v,r,rfl,h1,h2⟩:=e;simpa using bq.get h2 (by simpa using hx)
theorem bq.get':∀{l:List V} {vs:List Value} {i:Nat} {v:Value},bq prog w OB h T l vs->vs[i]?=some v->∃x,l[i]?=some x/\ri prog w OB h T x v
 |[],_,_,_,e,hx=>by obtain rfl:_=[]:=e;simp at hx
 |y::ys,_,0,x,e,hx=>by
  obtain⟨v,r,rfl,h1,h2⟩:=e;simp at hx;subst hx;exact⟨y,by simp,h1⟩
 |y::ys,_,i+1,x,e,hx=>by
  obtain⟨v,r,rfl,h1,h2⟩:=e;simpa using bq.get' h2 (by simpa using hx)
theorem bq.app:∀{l l':List V} {vs v8:List Value},bq prog w OB h T l vs->bq prog w OB h T l' v8->bq prog w OB h T (l++l') (vs++v8)
 |[],_,_,_,e,e'=>by obtain rfl:_=[]:=e;exact e'
 |x::xs,_,_,_,e,e'=>by
  obtain⟨v,r,rfl,h1,h2⟩:=e;exact⟨v,_,rfl,h1,h2.app e'⟩
theorem bq.one{x:V}{v:Value}(e:ri prog w OB h T x v):bq prog w OB h T [x] [v]:=⟨v,[],rfl,e,rfl⟩
theorem bq.cons{x:V}{v:Value}{l vs}(e:ri prog w OB h T x v)(e':bq prog w OB h T l vs):bq prog w OB h T (x::l) (v::vs):=⟨v,vs,rfl,e,e'⟩
theorem bq.nil:bq prog w OB h T [] []:=rfl
theorem bq.of{l:List V}{vs:List Value}:vs.length=l.length->(∀(i:Nat) x v,l[i]?=some x->vs[i]?=some v->ri prog w OB h T x v)->bq prog w OB h T l vs:=by
 induction l generalizing vs with
 |nil=>intro hl _;simp at hl;subst hl;exact .nil
 |cons x xs ih=>
  intro hl Ft
  cases vs with
  |nil=>simp at hl
  |cons v r=>exact .cons (Ft 0 x v rfl rfl) (ih (by simpa using hl) fun i y u h1 h2=>Ft (i+1) y u (by simpa using h1) (by simpa using h2))
end
noncomputable def GX(g g':Array GenState):Prop:=(∀(i:Nat) x,g[i]?=some x->g'[i]?=some x)/\(AllBare g->AllBare g')
theorem GX.refl(g):GX g g:=⟨fun ø ø h=>h,id⟩
theorem GX.trans{a b c}(x:GX a b)(y:GX b c):GX a c:=⟨fun i z h=>y.1 i z (x.1 i z h),fun h=>y.2 (x.2 h)⟩
structure Kp(s s':Shared):Prop where
 keep:∀b o,s.heap.get? b=some o->s'.heap.get? b=some o
 gens:GX s.gens s'.gens
 os:s'.os=s.os
theorem Kp.refl(s:Shared):Kp s s:=⟨fun ø ø h=>h,.refl _,rfl⟩
theorem Kp.trans{a b c:Shared}(x:Kp a b)(y:Kp b c):Kp a c:=⟨fun b o h=>y.keep b o (x.keep b o h),x.gens.trans y.gens,y.os.trans x.os⟩
theorem Kp.toks(s:Shared)(tk:Nat):Kp s {s with toks:=tk}:=⟨fun ø ø h=>h,.refl _,rfl⟩
theorem Kp.push(s:Shared)(o:Obj)(tk:Nat):Kp s {s with heap:=s.heap.push o,toks:=tk}:=⟨fun ø ø h=>bz o h,.refl _,rfl⟩
theorem Kp.heap{s:Shared}{h':Heap}{tk:Nat}(k:∀b o,s.heap.get? b=some o->h'.get? b=some o):Kp s {s with heap:=h',toks:=tk}:=⟨k,.refl _,rfl⟩
noncomputable def cD(h:Heap)(hid:List Addr):Prop:=∀a∈hid,∃o,h.get? a=some o
theorem cD.kp{s s':Shared}{hid}(l:cD s.heap hid)(k:Kp s s'):cD s'.heap hid:=fun a h=>let⟨o,e⟩:=l a h;⟨o,k.keep a o e⟩
theorem cD.not{h:Heap}{hid}(l:cD h hid){a:Addr}(e:h.get? a=none):a∉hid:=fun q=>by obtain⟨o,q⟩:=l a q;rw[e]at q;cases q
theorem bE(h:Heap):h.get? h.objs.size=none:=by
 cases e:h.get? h.objs.size with
 |none=>rfl
 |some o=>exact absurd (ew e) (gv _)
structure cJ(n:Nat)(A:Around):Prop where
 handled:A.handled=none
 depth:A.depth+n<=900
 units:A.units+10*n+10<=9000
theorem cJ.deeper{n:Nat}{A:Around}(r:cJ (n+1) A)(env:Env):cJ n (A.deeper env):=
 ⟨r.handled,by have:=r.depth;simp only[depth_deeper];omega,by have:=r.units;simp only[Around.deeper_units];omega⟩
theorem cJ.less{n m:Nat}{A:Around}(r:cJ n A)(h:m<=n):cJ m A:=⟨r.handled,by have:=r.depth;omega,by have:=r.units;omega⟩
end
structure Pk where
 prog:Program
 w:World
 OB:Heap->Addr->List Value->(Addr->Prop)->Prop
 ok:Hg OB
 G:Heap->Prop
 Gk:∀{h h':Heap},G h->(∀b o,h.get? b=some o->h'.get? b=some o)->G h'
 glob:Str->Option Value
 nolim:∀{h:Heap},G h->h.NoLimit
 aV:∀{h:Heap},G h->∃mg mb,h.Ns mainGlobals mg/\h.Ns builtinsNs mb/\∀x v,glob x=some v->mg x=some v\/(mg x=none/\mb x=some v)
noncomputable abbrev Dn(P:Pk)(h:Heap)(hid:List Addr)(x:V)(v:Value):Prop:=ri P.prog P.w P.OB h (· ∉hid) x v
noncomputable abbrev bd(P:Pk)(h:Heap)(hid:List Addr)(x:List V)(v:List Value):Prop:=bq P.prog P.w P.OB h (· ∉hid) x v
theorem Dn.grow{P:Pk}{h h':Heap}{hid ar:List Addr}{x:V}{v:Value}(e:Dn P h hid x v)(hk:∀a o,a∉hid->h.get? a=some o->h'.get? a=some o)
  (hn:∀a∈ar,a∈hid\/h.get? a=none):Dn P h' ar x v:=
 ri.mono P.ok hk (fun a o ha ho hm=>(hn a hm).elim ha fun q=>by rw[q]at ho;cases ho) x v e
theorem bd.grow{P:Pk}{h h':Heap}{hid ar:List Addr}{x:List V}{v:List Value}(e:bd P h hid x v)(hk:∀a o,a∉hid->h.get? a=some o->h'.get? a=some o)
  (hn:∀a∈ar,a∈hid\/h.get? a=none):bd P h' ar x v:=
 bq.mono P.ok hk (fun a o ha ho hm=>(hn a hm).elim ha fun q=>by rw[q]at ho;cases ho) x v e
theorem Dn.kp{P:Pk}{s s':Shared}{hid:List Addr}{x:V}{v:Value}(e:Dn P s.heap hid x v)(k:Kp s s'):Dn P s'.heap hid x v:=e.grow (fun a o ø h=>k.keep a o h) fun a h=>.inl h
theorem bd.kp{P:Pk}{s s':Shared}{hid:List Addr}{x:List V}{v:List Value}(e:bd P s.heap hid x v)(k:Kp s s'):bd P s'.heap hid x v:=e.grow (fun a o ø h=>k.keep a o h) fun a h=>.inl h
theorem Dn.less{P:Pk}{h:Heap}{hid ar:List Addr}{x:V}{v:Value}(e:Dn P h hid x v)(hn:∀a∈ar,a∈hid):Dn P h ar x v:=
 ri.mono P.ok (fun ø ø ø h=>h) (fun a o ha ho hm=>ha (hn a hm)) x v e
theorem bd.less{P:Pk}{h:Heap}{hid ar:List Addr}{x:List V}{v:List Value}(e:bd P h hid x v)(hn:∀a∈ar,a∈hid):bd P h ar x v:=
 bq.mono P.ok (fun ø ø ø h=>h) (fun a o ha ho hm=>ha (hn a hm)) x v e
structure Cx where
 vars:List (Str×NameKind×Bool)
 aV:List Str
noncomputable def eP(P:Pk)(L:Addr)(h:Heap)(out hid:List Addr):V->Value->Prop
 | .list l,v=>∃a vs,v= .ref a/\a∈hid/\a∉out/\a≠L/\h.PlainList a vs.toArray/\bd P h hid l vs
 | .dict ks l,v=>∃a vs,v= .ref a/\a∈hid/\a∉out/\a≠L/\(a==sysModules)=false/\vs.length=ks.length/\h.DictOf (intKind P.prog P.w) a (ks.zip vs)/\bd P h hid l vs
 |_,_=>False
noncomputable def oR(P:Pk)(L:Addr)(h:Heap)(out hid:List Addr)(b:Bool)(ov:Option Value):Option V->Prop
 |none=>True
 |some x=>∃v,ov=some v/\(if b then eP P L h out hid x v else Dn P h hid x v)
noncomputable def At(env:Env)(m:Str->Option Value)(h:Heap)(out hid:List Addr)(x:Str):NameKind->Option Value->Prop
 | .local,ov=>m x=ov
 | .cell,ov| .free,ov=>∃c,env.cells.lookup x=some c/\c∈hid/\c∉out/\h.IsCell c ov
 |_,_=>False
structure aU(P:Pk)(K:Cx)(env:Env)(out hid:List Addr)(m:Str->Option Value)(B s:Shared)(ρ:Nat->Option V):Prop where
 fn:env.scope.kind= .function
 gl:env.globals=mainGlobals
 bl:env.builtins=builtinsNs
 kind:∀(i:Nat) x k b,K.vars[i]?=some (x,k,b)->env.kindOf x=some k
 oS:∀x∈K.aV,env.kindOf x=some .globalImplicit
 nodup:∀(i j:Nat) x k b k' b',K.vars[i]?=some (x,k,b)->K.vars[j]?=some (x,k',b')->i=j
 iz:∀x y c,env.cells.lookup x=some c->env.cells.lookup y=some c->x=y
 live:cD s.heap hid
 oh:∀a∈out,a∈hid
 Lh:env.locals∈hid
 Lo:env.locals∉out
 ns:s.heap.Ns env.locals m
 slot:∀(i:Nat) x k b,K.vars[i]?=some (x,k,b)->∃ov,At env m s.heap out hid x k ov/\oR P env.locals s.heap out hid b ov (ρ i)
 apart:∀(i j:Nat) x y k k' a,i≠j->K.vars[i]?=some (x,k,true)->K.vars[j]?=some (y,k',true)->At env m s.heap out hid x k (some (.ref a))->At env m s.heap out hid y k' (some (.ref a))->ρ i=none\/ρ j=none
 gb:P.G B.heap
 kp:Kp B s
 own:∀a∈hid,a∉out->B.heap.get? a=none
theorem IsCell.fun{h:Heap}{c:Addr}{u v:Option Value}(x:h.IsCell c u)(y:h.IsCell c v):u=v:=by
 obtain⟨o,ho,hd⟩:=x;obtain⟨o',Np,lu⟩:=y;rw[ho]at Np;cases Np;rw[hd]at lu;cases lu;rfl
theorem At.fun2{env m h out hid out' ar x k u v}(a:At env m h out hid x k u)(b:At env m h out' ar x k v):u=v:=by
 cases k
 case «local» =>exact Eq.trans (Eq.symm a) b
 case cell=>obtain⟨c,h1,_,_,h2⟩:=a;obtain⟨c',Hh,_,_,Ou⟩:=b;rw[h1]at Hh;cases Hh;exact IsCell.fun h2 Ou
 case free=>obtain⟨c,h1,_,_,h2⟩:=a;obtain⟨c',Hh,_,_,Ou⟩:=b;rw[h1]at Hh;cases Hh;exact IsCell.fun h2 Ou
 all_goals exact a.elim
theorem At.fun{env m h out hid x k u v}(a:At env m h out hid x k u)(b:At env m h out hid x k v):u=v:=a.fun2 b
theorem At.map{env m m'}{h h':Heap}{out hid out' ar:List Addr}{x k u}(a:At env m h out hid x k u)(hm:m x=u->m' x=u)
  (f:∀c,env.cells.lookup x=some c->c∈hid->c∉out->h.IsCell c u->c∈ar/\c∉out'/\h'.IsCell c u):At env m' h' out' ar x k u:=by
 cases k
 case «local» =>exact hm a
 case cell=>obtain⟨c,h1,h2,h3,h4⟩:=a;exact⟨c,h1,f c h1 h2 h3 h4⟩
 case free=>obtain⟨c,h1,h2,h3,h4⟩:=a;exact⟨c,h1,f c h1 h2 h3 h4⟩
 all_goals exact a.elim
theorem At.grow{env m}{h h':Heap}{out hid ar:List Addr}{x k u}(a:At env m h out hid x k u)(hk:∀c v,h.IsCell c v->h'.IsCell c v)(hh:∀a∈hid,a∈ar):At env m h' out ar x k u:=
 a.map id fun c ø h2 h3 h4=>⟨hh _ h2,h3,hk _ _ h4⟩
theorem At.back{env m}{h h':Heap}{out hid ar:List Addr}{x k u}(a:At env m h' out ar x k u){v}(b:At env m h out hid x k v)(hk:∀c v,h.IsCell c v->h'.IsCell c v):u=v:=
 a.fun2 (At.map (out':=out) (ar:=hid) b id fun c ø h2 h3 h4=>⟨h2,h3,hk _ _ h4⟩)
theorem IsCell.R1{h h':Heap}{c:Addr}{u:Option Value}(x:h.IsCell c u)(k:∀o,h.get? c=some o->h'.get? c=some o):h'.IsCell c u:=by
 obtain⟨o,ho,hd⟩:=x;exact⟨o,k o ho,hd⟩
theorem eP.map{P:Pk}{L L':Addr}{h h':Heap}{out hid out' ar:List Addr}{x:V}{v:Value}(e:eP P L h out hid x v)
  (f:∀a,v= .ref a->a∈hid->a∉out->a≠L->a∈ar/\a∉out'/\a≠L'/\∀o,h.get? a=some o->h'.get? a=some o) (g:∀{l vs},bd P h hid l vs->bd P h' ar l vs):eP P L' h' out' ar x v:=by
 cases x
 case list=>
  obtain⟨a,vs,rfl,h1,h2,h3,⟨k,h4⟩,h5⟩:=e;obtain⟨q1,q2,q3,q4⟩:=f a rfl h1 h2 h3;exact⟨a,vs,rfl,q1,q2,q3,⟨k,q4 _ h4⟩,g h5⟩
 case dict=>
  obtain⟨a,vs,rfl,h1,h2,h3,h4,h5,⟨o,es,ep,ho,hr⟩,h7⟩:=e;obtain⟨q1,q2,q3,q4⟩:=f a rfl h1 h2 h3;exact⟨a,vs,rfl,q1,q2,q3,h4,h5,⟨o,es,ep,q4 o ho,hr⟩,g h7⟩
 all_goals exact e.elim
theorem eP.grow{P:Pk}{L:Addr}{h h':Heap}{out hid ar:List Addr}{x:V}{v:Value}(e:eP P L h out hid x v)(hk:∀a o,h.get? a=some o->h'.get? a=some o)
  (hh:∀a∈hid,a∈ar) (hn:∀a∈ar,a∈hid\/h.get? a=none):eP P L h' out ar x v:=
 e.map (fun a ø h1 h2 h3=>⟨hh _ h1,h2,h3,hk a⟩) fun d=>d.grow (fun a o ø q=>hk a o q) hn
theorem oR.map{P:Pk}{L L':Addr}{h h':Heap}{out hid out' ar:List Addr}{b ov r}(e:oR P L h out hid b ov r)
  (f:b=true->∀a,ov=some (.ref a)->a∈hid->a∉out->a≠L->a∈ar/\a∉out'/\a≠L'/\∀o,h.get? a=some o->h'.get? a=some o) (d:∀{x v},Dn P h hid x v->Dn P h' ar x v) (g:∀{l vs},bd P h hid l vs->bd P h' ar l vs):oR P L' h' out' ar b ov r:=by
 cases r with
 |none=>trivial
 |some x=>
  obtain⟨v,rfl,e⟩:=e
  cases b with
  |false=>exact⟨v,rfl,d e⟩
  |true=>exact⟨v,rfl,eP.map (P:=P) e (fun a q=>f rfl a (congrArg some q)) g⟩
theorem oR.grow{P:Pk}{L:Addr}{h h':Heap}{out hid ar:List Addr}{b ov r}(e:oR P L h out hid b ov r)(hk:∀a o,h.get? a=some o->h'.get? a=some o)
  (hh:∀a∈hid,a∈ar) (hn:∀a∈ar,a∈hid\/h.get? a=none):oR P L h' out ar b ov r:=
 e.map (fun ø a ø h1 h2 h3=>⟨hh _ h1,h2,h3,hk a⟩) (fun d=>d.grow (fun a o ø q=>hk a o q) hn) fun d=>d.grow (fun a o ø q=>hk a o q) hn
theorem aU.map{P:Pk}{K:Cx}{env:Env}{out hid out' ar:List Addr}{m}{B s s':Shared}{ρ}(S:aU P K env out hid m B s ρ)
  (live:cD s'.heap ar) (oh:∀a∈out',a∈ar) (ns:s'.heap.Ns env.locals m) (kp:Kp B s') (own:∀a∈ar,a∉out'->B.heap.get? a=none)
  (move:∀a,a∈hid->a∉out->a∈ar/\a∉out'/\∀o,s.heap.get? a=some o->s'.heap.get? a=some o)
  (old:∀a o,a∉hid->s.heap.get? a=some o->s'.heap.get? a=some o) (new:∀a∈ar,a∈hid\/s.heap.get? a=none):aU P K env out' ar m B s' ρ:=by
 have Rm:∀{x k u},At env m s.heap out hid x k u->At env m s'.heap out' ar x k u:=fun h=>h.map id fun c ø h1 h2 h3=>⟨(move c h1 h2).1,(move c h1 h2).2.1,IsCell.R1 h3 (move c h1 h2).2.2⟩
 exact {fn:=S.fn,gl:=S.gl,bl:=S.bl,kind:=S.kind,oS:=S.oS,nodup:=S.nodup,iz:=S.iz,live:=live,oh:=oh,Lh:=(move _ S.Lh S.Lo).1,Lo:=(move _ S.Lh S.Lo).2.1,ns:=ns,gb:=S.gb,kp:=kp,own:=own
        slot:=fun i x k b hi=>(S.slot i x k b hi).elim fun ov q=>⟨ov,Rm q.1,q.2.map (fun ø a ø h1 h2 h3=>⟨(move a h1 h2).1,(move a h1 h2).2.1,h3,(move a h1 h2).2.2⟩) (fun e=>Dn.grow (P:=P) e old new) fun e=>bd.grow (P:=P) e old new⟩
        apart:=fun i j x y k k' a U9 hi hj h1 h2=>(S.slot i x k true hi).elim fun ov q1=>(S.slot j y k' true hj).elim fun Wt q2=>by
         have e1:=At.fun (Rm q1.1) h1
         have e2:=At.fun (Rm q2.1) h2
         subst e1;subst e2;exact S.apart i j x y k k' a U9 hi hj q1.1 q2.1}
theorem aU.grow{P:Pk}{K:Cx}{env:Env}{out hid ar:List Addr}{m}{B s s':Shared}{ρ}(r:aU P K env out hid m B s ρ)(k:Kp s s')
  (hh:∀a∈hid,a∈ar) (hn:∀a∈ar,a∈hid\/s.heap.get? a=none) (hl:cD s'.heap ar):aU P K env out ar m B s' ρ:=
 r.map hl (fun a h=>hh a (r.oh a h)) (r.ns.keeps k.keep) (r.kp.trans k) (fun a h ho=>(hn a h).elim (fun q=>r.own a q ho) fun q=>by
  cases e:B.heap.get? a with
  |none=>rfl
  |some o=>rw[r.kp.keep a o e]at q;cases q) (fun a h ho=>⟨hh a h,ho,k.keep a⟩) (fun a o ø h=>k.keep a o h) hn
theorem aU.after{P:Pk}{K:Cx}{env:Env}{out hid:List Addr}{m}{B s s':Shared}{ρ}(r:aU P K env out hid m B s ρ)(k:Kp s s'):aU P K env out hid m B s' ρ:=
 r.grow k (fun ø h=>h) (fun ø h=>.inl h) (r.live.kp k)
theorem aU.G{P:Pk}{K:Cx}{env:Env}{out hid:List Addr}{m}{B s:Shared}{ρ}(r:aU P K env out hid m B s ρ):P.G s.heap:=P.Gk r.gb r.kp.keep
noncomputable abbrev ao:=Nat->Option V
noncomputable abbrev av(lo:Bool)(out hid:List Addr):List Addr:=if lo then out else hid
noncomputable def em(P:Pk)(n:Nat)(K:Cx)(lo:Bool)(e:Expr)(f:ao->Option V):Prop:=
 ∀(A:Around) (env:Env) (out hid:List Addr) (m:Str->Option Value) (B s:Shared) (ρ:ao) (x:V) (E:Value->Shared->Prop),cJ n A->aU P K env out hid m B s ρ->f ρ=some x->
  wpAny (model P.prog P.w) A (eval e env) (fun v s'=>Kp s s'/\Dn P s'.heap (av lo out hid) x v) E s
noncomputable def j7(P:Pk)(n:Nat)(K:Cx)(lo:Bool)(es:List Expr)(f:ao->Option (List V)):Prop:=
 ∀(A:Around) (env:Env) (out hid:List Addr) (m:Str->Option Value) (B s:Shared) (ρ:ao) (x:List V) (E:Value->Shared->Prop) (pos:Pos),cJ n A->aU P K env out hid m B s ρ->f ρ=some x->
  wpAny (model P.prog P.w) A (spliced (backTo pos (starEach es env))) (fun v s'=>Kp s s'/\bd P s'.heap (av lo out hid) x v) E s
noncomputable def se(P:Pk)(n:Nat)(K:Cx)(e:Expr)(f:ao->Option Bool):Prop:=
 ∀(A:Around) (env:Env) (out hid:List Addr) (m:Str->Option Value) (B s:Shared) (ρ:ao) (b:Bool) (E:Value->Shared->Prop),cJ n A->aU P K env out hid m B s ρ->f ρ=some b->
  wpAny (model P.prog P.w) A (isTrue e env (eval e env)) (fun c s'=>Kp s s'/\c=b) E s
theorem aU.Ek{P:Pk}{K:Cx}{env:Env}{out hid:List Addr}{m}{B s:Shared}{ρ}(r:aU P K env out hid m B s ρ)(lo:Bool):cD s.heap (av lo out hid):=by
 cases lo
 ·exact r.live
 ·exact fun a h=>r.live a (r.oh a h)
section
variable{P:Pk}{n:Nat}{K:Cx}{lo:Bool}
noncomputable def V.scalar:V->Bool
 | .none| .bool _| .int _| .str _=>true
 |_=>false
theorem Dn.scalar{h h':Heap}{hid ar:List Addr}{x:V}{v:Value}(e:Dn P h hid x v)(hx:x.scalar=true):Dn P h' ar x v:=by
 cases x<;>first|exact e|cases hx
theorem ac{e f}(h:em P n K false e f):em P n K true e f:=fun A env out hid m B s ρ x E r S hf=>
 aD (h A env out hid m B s ρ x E r S hf) (fun v s' q=>⟨q.1,q.2.less S.oh⟩) fun ø ø q=>q
set_option tactic.hygienic true in
theorem tZ{e f}(h:em P n K true e f):em P n K lo e (fun ρ=>(f ρ).bind fun x=>if x.scalar then some x else none):=fun A env out hid m B s ρ x E r S hf=>by
 refine ak hf fun y hy hx=>?_
 split at hx
 ·rename_i Wu
  obtain rfl:=Option.some.inj hx;exact aD (h A env out hid m B s ρ y E r S hy) (fun v s' q=>⟨q.1,q.2.scalar Wu⟩) fun ø ø q=>q
 ·cases hx
theorem ae{i k pos}:em P n K lo (.Constant (.int i) k pos) fun ø=>some (.int i):=fun A env out hid m B s ρ x E r S hf=>by
 cases hf;exact wpAny_Constant_int ⟨Kp.toks s _,_,rfl⟩
theorem aC{x:Str}{k pos}{l:List Nat}(hl:x=pyStr l):em P n K lo (.Constant (.str x) k pos) fun ø=>some (.str l):=fun A env out hid m B s ρ y E r S hf=>by
 cases hf;subst hl;exact tl ⟨Kp.toks s _,_,rfl⟩
theorem eV{b k pos}:em P n K lo (.Constant (.bool b) k pos) fun ø=>some (.bool b):=fun A env out hid m B s ρ y E r S hf=>by
 cases hf;exact xz ⟨Kp.refl s,rfl⟩
theorem lP{k pos}:em P n K lo (.Constant .none k pos) fun ø=>some .none:=fun A env out hid m B s ρ y E r S hf=>by
 cases hf;exact wpAny_Constant_none ⟨Kp.refl s,rfl⟩
theorem aU.load{env:Env}{out hid:List Addr}{m}{B s:Shared}{ρ}(S:aU P K env out hid m B s ρ){i:Nat}{x:Str}{k:NameKind}{b:Bool}(hi:K.vars[i]?=some (x,k,b)){y:V}(hy:ρ i=some y)
  (hd:(x==("__debug__":Str))=false) (hc:(x==("__classdict__":Str))=false) {A:Around} {E:Value->Shared->Prop} {M:Model} {Q:Value->Shared->Prop}
  (h:∀v,(if b then eP P env.locals s.heap out hid y v else Dn P s.heap hid y v)->At env m s.heap out hid x k (some v)->Q v s):wpAny M A (loadName env x) Q E s:=by
 obtain⟨ov,h1,h2⟩:=S.slot i x k b hi;rw[hy]at h2;obtain⟨v,rfl,h2⟩:=h2;have hk:=S.kind i x k b hi;have h0:=h v h2 h1;cases k<;>simp only[At]at h1
 ·exact kB S.fn hk S.ns h1 h0
 all_goals first
  |exact h1.elim
  |(obtain⟨c,e1,_,_,e2⟩:=h1
    first
     |exact wpAny_loadName_cell S.fn hk e1 e2 h0
     |exact wpAny_loadName_free S.fn hk e1 e2 h0 hc)
theorem eP.loose{L h out hid}{x:V}{v:Value}(e:eP P L h out hid x v)(oh:∀a∈out,a∈hid):Dn P h out x v:=by
 cases x with
 |list l=>
  obtain⟨a,vs,rfl,h1,h2,h3,h4,h5⟩:=e;exact⟨a,vs,rfl,h2,h4,bd.less (P:=P) h5 oh⟩
 |dict ks l=>
  obtain⟨a,vs,rfl,h1,h2,h3,h4,h5,h6,h7⟩:=e;exact⟨a,vs,rfl,h2,h5,h4,h6,bd.less (P:=P) h7 oh⟩
 |_=>exact e.elim
theorem ab(i:Nat){x:Str}{k:NameKind}{pos:Pos}(hi:K.vars[i]?=some (x,k,false))(hd:(x==("__debug__":Str))=false)(hc:(x==("__classdict__":Str))=false):
  em P n K false (.Name x pos) fun ρ=>ρ i:=fun A env out hid m B s ρ y E r S hf=>
 fM (S.load hi hf hd hc fun v hv ø=>⟨Kp.refl s,hv⟩) hd
theorem dc(i:Nat){x:Str}{k:NameKind}{pos:Pos}(hi:K.vars[i]?=some (x,k,true))(hd:(x==("__debug__":Str))=false)(hc:(x==("__classdict__":Str))=false):
  em P n K true (.Name x pos) fun ρ=>ρ i:=fun A env out hid m B s ρ y E r S hf=>
 fM (S.load hi hf hd hc fun v hv ø=>⟨Kp.refl s,eP.loose hv S.oh⟩) hd
noncomputable def t0(P:Pk)(op:Operator)(F:V->V->Option V):Prop:=
 ∀(A:Around) (s:Shared) (hid:List Addr) (x y z:V) (u v:Value) (E:Value->Shared->Prop),cJ 0 A->cD s.heap hid->Dn P s.heap hid x u->Dn P s.heap hid y v->F x y=some z->
  wpAny (model P.prog P.w) A (binaryOp op u v) (fun r s'=>Kp s s'/\Dn P s'.heap hid z r) E s
noncomputable def jh(P:Pk)(op:CmpOp)(F:V->V->Option Bool):Prop:=
 ∀(A:Around) (s:Shared) (hid:List Addr) (x y:V) (b:Bool) (u v:Value) (E:Value->Shared->Prop),cJ 0 A->P.G s.heap->cD s.heap hid->Dn P s.heap hid x u->Dn P s.heap hid y v->F x y=some b->
  wpAny (model P.prog P.w) A (compareOp op u v) (fun r s'=>Kp s s'/\r= .bool b) E s
noncomputable def iR(F:V->V->Option V)(f g:ao->Option V):ao->Option V:=fun ρ=>(f ρ).bind fun x=>(g ρ).bind fun y=>F x y
noncomputable def eU(F:V->V->Option Bool)(f g:ao->Option V):ao->Option Bool:=fun ρ=>(f ρ).bind fun x=>(g ρ).bind fun y=>F x y
theorem al{l r:Expr}{op:Operator}{pos:Pos}{F f g}(ho:t0 P op F)(hl:em P n K lo l f)(hr:em P n K lo r g):em P n K lo (.BinOp l op r pos) (iR F f g):=fun A env out hid m B s ρ z E rm S hf=>by
 refine ak hf fun x hx gu=>?_
 clear hf;rename _=>hf
 refine ak hf fun y hy gu=>?_
 clear hf;rename _=>hf
 refine wpAny_BinOp (aD (hl A env out hid m B s ρ x E rm S hx) (fun u s₁ aj=>?_) fun ø ø q=>q);refine aD (hr A env out hid m B s₁ ρ y E rm (S.after aj.1) hy) (fun v s₂ aM=>?_) fun ø ø q=>q
 exact aD (ho A s₂ (av lo out hid) x y z u v E (rm.less (eK _)) (((S.after aj.1).after aM.1).Ek lo) (aj.2.kp aM.1) aM.2 hf) (fun w s₃ eo=>⟨aj.1.trans (aM.1.trans eo.1),eo.2⟩) fun ø ø q=>q
theorem iX{l r:Expr}{op:CmpOp}{pos:Pos}{F f g}(ho:jh P op F)(hl:em P n K true l f)(hr:em P n K true r g)(hm:behindInMarks op r=false):
  em P n K lo (.Compare l [op] [r] pos) (fun ρ=>(eU F f g ρ).map .bool):=fun A env out hid m B s ρ z E rm S hf=>by
 refine cI hf ?_;clear hf;rintro b R2 rfl;replace hf:=R2;refine ak hf fun x hx gu=>?_
 clear hf;rename _=>hf
 refine ak hf fun y hy gu=>?_
 clear hf;rename _=>hf
 refine wpAny_Compare1 (aD (hl A env out hid m B s ρ x E rm S hx) (fun u s₁ aj=>?_) fun ø ø q=>q) hm;refine aD (hr A env out hid m B s₁ ρ y E rm (S.after aj.1) hy) (fun v s₂ aM=>?_) fun ø ø q=>q
 exact aD (ho A s₂ out x y b u v E (rm.less (eK _)) ((S.after aj.1).after aM.1).G (((S.after aj.1).after aM.1).Ek true) (aj.2.kp aM.1) aM.2 hf) (fun w s₃ eo=>⟨aj.1.trans (aM.1.trans eo.1),eo.2⟩) fun ø ø q=>q
theorem ay{l r:Expr}{op:CmpOp}{pos:Pos}{F f g}(ho:jh P op F)(hl:em P n K true l f)(hr:em P n K true r g)(hm:behindInMarks op r=false):
  se P n K (.Compare l [op] [r] pos) (eU F f g):=fun A env out hid m B s ρ b E rm S hf=>by
 refine ak hf fun x hx gu=>?_
 clear hf;rename _=>hf
 refine ak hf fun y hy gu=>?_
 clear hf;rename _=>hf
 refine tm (aD (hl A env out hid m B s ρ x E rm S hx) (fun u s₁ aj=>?_) fun ø ø q=>q) hm;refine aD (hr A env out hid m B s₁ ρ y E rm (S.after aj.1) hy) (fun v s₂ aM=>?_) fun ø ø q=>q
 refine aD (ho A s₂ out x y b u v E (rm.less (eK _)) ((S.after aj.1).after aM.1).G (((S.after aj.1).after aM.1).Ek true) (aj.2.kp aM.1) aM.2 hf) (fun w s₃ eo=>?_) fun ø ø q=>q
 rw[eo.2];exact mH ⟨aj.1.trans (aM.1.trans eo.1),rfl⟩
noncomputable def pt:V->Option Bool
 | .bool b=>some b
 |_=>none
theorem iY{e:Expr}{f}(h:em P n K true e f)(he:∀env whole,isTrue e env whole=(do let v <-whole;standAt e.pos;holding [v] (truthy v))):se P n K e (fun ρ=>(f ρ).bind pt):=fun A env out hid m B s ρ b E rm S hf=>by
 refine ak hf fun x hx gu=>?_
 clear hf;rename _=>hf
 refine tn (aD (h A env out hid m B s ρ x E rm S hx) (fun v s₁ aj=>?_) fun ø ø q=>q) (he _ _);cases x<;>simp only[pt]at hf<;>try cases hf
 obtain rfl:v= .bool _:=aj.2;exact mH ⟨aj.1,rfl⟩
theorem wO{e:Expr}{pos:Pos}{f}(h:se P n K e f):se P n K (.UnaryOp .Not e pos) (fun ρ=>(f ρ).map (!·)):=fun A env out hid m B s ρ b E rm S hf=>by
 refine cI hf ?_;clear hf;rintro c R2 rfl;replace hf:=R2;exact wpAny_isTrue_Not (aD (h A env out hid m B s ρ c E rm S hf) (fun c' s₁ aj=>⟨aj.1,by rw[aj.2]⟩) fun ø ø q=>q)
noncomputable def on(f g:ao->Option Bool):ao->Option Bool:=fun ρ=>(f ρ).bind fun a=>if a then g ρ else some false
noncomputable def Rn(f g:ao->Option Bool):ao->Option Bool:=fun ρ=>(f ρ).bind fun a=>if a then some true else g ρ
theorem gk{a b:Expr}{pos:Pos}{f g}(ha:se P n K a f)(hb:se P n K b g):se P n K (.BoolOp .And [a,b] pos) (on f g):=fun A env out hid m B s ρ c E rm S hf=>by
 refine ak hf fun x hx gu=>?_
 clear hf;rename _=>hf
 refine Ch (Ci (aD (ha A env out hid m B s ρ x E rm S hx) (fun x' s₁ aj=>?_) fun ø ø q=>q));rw[aj.2];cases x
 ·simp only[kC,gX]at hf ⊢
  exact⟨aj.1,(Option.some.inj hf)⟩
 ·simp only[jL]at hf ⊢
  refine Ci (aD (hb A env out hid m B s₁ ρ c E rm (S.after aj.1) hf) (fun y' s₂ aM=>?_) fun ø ø q=>q);rw[aM.2];cases c
  ·exact⟨aj.1.trans aM.1,rfl⟩
  ·exact wpAny_allTrue_And_nil ⟨aj.1.trans aM.1,rfl⟩
theorem se.or{a b:Expr}{pos:Pos}{f g}(ha:se P n K a f)(hb:se P n K b g):se P n K (.BoolOp .Or [a,b] pos) (Rn f g):=fun A env out hid m B s ρ c E rm S hf=>by
 refine ak hf fun x hx gu=>?_
 clear hf;rename _=>hf
 refine Ch (wpAny_allTrue_Or_cons (aD (ha A env out hid m B s ρ x E rm S hx) (fun x' s₁ aj=>?_) fun ø ø q=>q));rw[aj.2];cases x
 ·simp only[kC,gX]at hf ⊢
  refine wpAny_allTrue_Or_cons (aD (hb A env out hid m B s₁ ρ c E rm (S.after aj.1) hf) (fun y' s₂ aM=>?_) fun ø ø q=>q);rw[aM.2];cases c
  ·exact wpAny_allTrue_Or_nil ⟨aj.1.trans aM.1,rfl⟩
  ·exact⟨aj.1.trans aM.1,rfl⟩
 ·simp only[jL]at hf ⊢
  exact⟨aj.1,(Option.some.inj hf)⟩
noncomputable def CI(t:ao->Option Bool)(f g:ao->Option V):ao->Option V:=fun ρ=>(t ρ).bind fun b=>if b then f ρ else g ρ
theorem iZ{t a b:Expr}{pos:Pos}{c f g}(ht:se P n K t c)(ha:em P n K lo a f)(hb:em P n K lo b g):em P n K lo (.IfExp t a b pos) (CI c f g):=fun A env out hid m B s ρ z E rm S hf=>by
 refine ak hf fun x hx gu=>?_
 clear hf;rename _=>hf
 refine wpAny_IfExp (aD (ht A env out hid m B s ρ x E rm S hx) (fun x' s₁ aj=>?_) fun ø ø q=>q);rw[aj.2];cases x
 ·simp only[kC,gX]at hf ⊢
  exact aD (hb A env out hid m B s₁ ρ z E rm (S.after aj.1) hf) (fun v s₂ aM=>⟨aj.1.trans aM.1,aM.2⟩) fun ø ø q=>q
 ·simp only[jL]at hf ⊢
  exact aD (ha A env out hid m B s₁ ρ z E rm (S.after aj.1) hf) (fun v s₂ aM=>⟨aj.1.trans aM.1,aM.2⟩) fun ø ø q=>q
theorem ag:j7 P n K lo [] fun ø=>some []:=fun A env out hid m B s ρ x E pos rm S hf=>by
 cases hf;exact nk ⟨Kp.refl s,bq.nil⟩
noncomputable def cW(f:ao->Option V)(g:ao->Option (List V)):ao->Option (List V):=fun ρ=>(f ρ).bind fun x=>(g ρ).bind fun y=>some (x::y)
theorem aa{e:Expr}{es:List Expr}{f g}(h:em P n K lo e f)(hs:j7 P n K lo es g)(he:∀env,starEach (e::es) env=(false,eval e env)::starEach es env):j7 P n K lo (e::es) (cW f g):=
 fun A env out hid m B s ρ x E pos rm S hf=>by
 refine ak hf fun y hy gu=>?_
 clear hf;rename _=>hf
 refine ak hf fun ys Hi gu=>?_
 clear hf;rename _=>hf
 cases hf;refine m7 (aD (h A env out hid m B s ρ y E rm S hy) (fun v s₁ aj=>?_) fun ø ø q=>q) (he env);exact aD (hs A env out hid m B s₁ ρ ys E pos rm (S.after aj.1) Hi) (fun vs s₂ aM=>⟨aj.1.trans aM.1,.cons (aj.2.kp aM.1) aM.2⟩) fun ø ø q=>q
theorem sU{hid:List Addr}{s:Shared}(h:cD s.heap hid):s.heap.objs.size∉hid:=h.not (bE _)
theorem de{es:List Expr}{k:Nat}{pos:Pos}{f}(hs:j7 P n K lo es f)(hl:es.length<=100)(hlen:∀ρ x,f ρ=some x->x.length=es.length):em P n K lo (.Tuple es k pos) (fun ρ=>(f ρ).map .tup):=fun A env out hid m B s ρ x E rm S hf=>by
 refine cI hf ?_;clear hf;rintro y hy rfl;refine wpAny_Tuple (aD (hs A env out hid m B s ρ y E pos rm S hy) (fun vs s₁ aj=>⟨?_,aj.1.trans (Kp.push s₁ _ _),?_⟩) fun ø ø q=>q)
 ·rw[aj.2.length,hlen _ _ hy,jM];omega
 ·exact⟨_,vs,rfl,sU ((S.after aj.1).Ek lo),⟨0,bJ _ rfl⟩,bd.kp (P:=P) aj.2 (Kp.push s₁ _ s₁.toks)⟩
theorem cQ{es:List Expr}{pos:Pos}{f}(hs:j7 P n K lo es f)(hl:es.length<=100)(hlen:∀ρ x,f ρ=some x->x.length=es.length):em P n K lo (.List es pos) (fun ρ=>(f ρ).map .list):=fun A env out hid m B s ρ x E rm S hf=>by
 refine cI hf ?_;clear hf;rintro y hy rfl;refine wpAny_List (aD (hs A env out hid m B s ρ y E pos rm S hy) (fun vs s₁ aj=>⟨?_,aj.1.trans (Kp.push s₁ _ _),?_⟩) fun ø ø q=>q)
 ·rw[aj.2.length,hlen _ _ hy,jM];omega
 ·exact⟨_,vs,rfl,sU ((S.after aj.1).Ek lo),⟨0,bJ _ rfl⟩,bd.kp (P:=P) aj.2 (Kp.push s₁ _ s₁.toks)⟩
theorem ah{f g k}(hg:∀ρ x,g ρ=some x->x.length=k):∀ρ x,cW f g ρ=some x->x.length=k+1:=fun ρ x hf=>by
 refine ak hf fun y hy gu=>?_
 clear hf;rename _=>hf
 refine ak hf fun ys Hi gu=>?_
 clear hf;rename _=>hf
 cases hf;simp[hg _ _ Hi]
noncomputable def aZ(P:Pk)(n:Nat)(fv:Value)(F:List V->Option V):Prop:=
 ∀(A:Around) (s:Shared) (hid:List Addr) (xs:List V) (x:V) (vs:List Value) (E:Value->Shared->Prop),cJ n A->P.G s.heap->cD s.heap hid->bd P s.heap hid xs vs->F xs=some x->
  wpAny (model P.prog P.w) A (call fv vs) (fun v s'=>Kp s s'/\Dn P s'.heap hid x v) E s
theorem bH{env:Env}{out hid:List Addr}{m}{B s:Shared}{ρ}(S:aU P K env out hid m B s ρ){x:Str}{pos:Pos}{v:Value}(hx:K.aV.contains x=true)(hv:P.glob x=some v)
  (hd:(x==("__debug__":Str))=false) {A:Around} {E:Value->Shared->Prop} {M:Model} {Q:Value->Shared->Prop} (h:Q v s):wpAny M A (eval (.Name x pos) env) Q E s:=by
 obtain⟨mg,mb,h1,h2,h3⟩:=P.aV S.G;refine Name_function_global S.fn (S.oS x (List.contains_iff_mem.mp hx)) ?_ hd;rcases h3 x v hv with q|⟨q,q'⟩
 ·exact loadGlobal_global (S.gl▸h1) q h
 ·exact loadGlobal_builtin (S.gl▸h1) q (S.bl▸h2) q' h
noncomputable def ji(F:List V->Option V)(f:ao->Option (List V)):ao->Option V:=fun ρ=>(f ρ).bind F
theorem ct{es:List Expr}{pos:Pos}{env:Env}(h:∀env,starEach es env=es.map fun e=>(false,eval e env)):(backTo pos (starEach es env)).any (·.1)=false:=by
 rw[h];unfold backTo;simp
theorem aJ{id:Str}{p pos:Pos}{es:List Expr}{b:String}{F f}(hx:K.aV.contains id=true)(hv:P.glob id=some (.builtin b))(hd:(id==("__debug__":Str))=false)
  (hc:aZ P n (.builtin b) F) (hs:j7 P n K lo es f) (iS:∀env,starEach es env=es.map fun e=>(false,eval e env)) (cZ:es≠[]):em P n K lo (.Call (.Name id p) es [] pos) (ji F f):=
 fun A env out hid m B s ρ x E rm S hf=>by
 refine ak hf fun y hy gu=>?_
 clear hf;rename _=>hf
 refine kF (bH S hx hv hd ?_);refine tq (ct iS) ?_;obtain⟨t6,es',rfl⟩:=xA cZ;have key:=hs A env out hid m B s ρ y E pos rm S hy;have hb:backTo pos (starEach (t6::es') env)=(false,eval t6 env)::(backTo pos (starEach (t6::es') env)).tail:=by rw[iS];rfl
 rw[hb]at key ⊢;refine evalArgs_plain (aD key (fun vs s₁ aj=>?_) fun ø ø q=>q);exact aD (hc A s₁ (av lo out hid) y x vs E rm (S.after aj.1).G ((S.after aj.1).Ek lo) aj.2 hf) (fun v s₂ aM=>⟨aj.1.trans aM.1,aM.2⟩) fun ø ø q=>q
theorem bM{id:Str}{p pos:Pos}{es:List Expr}{a:Addr}{F f}(hx:K.aV.contains id=true)(hv:P.glob id=some (.ref a))(hd:(id==("__debug__":Str))=false)
  (Cb:∀h,P.G h->∃o fd,h.get? a=some o/\o.data= .func fd)
  (hc:aZ P n (.ref a) F) (hs:j7 P n K lo es f) (iS:∀env,starEach es env=es.map fun e=>(false,eval e env)) (cZ:es≠[]):em P n K lo (.Call (.Name id p) es [] pos) (ji F f):=
 fun A env out hid m B s ρ x E rm S hf=>by
 refine ak hf fun y hy gu=>?_
 clear hf;rename _=>hf
 obtain⟨o,fd,ho,Ov⟩:=Cb _ S.G;refine kF (bH S hx hv hd ?_);refine callWith_function (o:=o) (fd:=fd) ?_;obtain⟨t6,es',rfl⟩:=xA cZ;have key:=hs A env out hid m B s ρ y E pos rm S hy;have hb:backTo pos (starEach (t6::es') env)=(false,eval t6 env)::(backTo pos (starEach (t6::es') env)).tail:=by rw[iS];rfl
 rw[hb]at key ⊢;refine evalArgs_plain (aD key (fun vs s₁ aj=>⟨⟨aj.1.keep _ _ ho,Ov⟩,?_⟩) fun ø ø q=>q);exact aD (hc A s₁ (av lo out hid) y x vs E rm (S.after aj.1).G ((S.after aj.1).Ek lo) aj.2 hf) (fun v s₂ aM=>⟨aj.1.trans aM.1,aM.2⟩) fun ø ø q=>q
end
section
variable{P:Pk}{n:Nat}{K:Cx}{lo:Bool}
noncomputable def most:Nat:=1000000
theorem cR:most<=sizeLine:=by rw[jM];decide
noncomputable def V.int?:V->Option Int
 | .int a=>some a
 |_=>Option.none
noncomputable def V.jK:V->Option (List Nat)
 | .str a=>some a
 |_=>Option.none
noncomputable def V.gm:V->Option (List V)
 | .list a=>some a
 |_=>Option.none
theorem V.nE{x:V}{a}(h:x.int?=some a):x= .int a:=by
 cases x<;>first|exact congrArg _ (Option.some.inj h)|cases h
theorem V.kN{x:V}{a}(h:x.jK=some a):x= .str a:=by
 cases x<;>first|exact congrArg _ (Option.some.inj h)|cases h
theorem V.eO{x:V}{a}(h:x.gm=some a):x= .list a:=by
 cases x<;>first|exact congrArg _ (Option.some.inj h)|cases h
noncomputable def V.R3:V->Option (List V)
 | .tup a=>some a
 |_=>Option.none
theorem V.Hj{x:V}{a}(h:x.R3=some a):x= .tup a:=by
 cases x<;>first|exact congrArg _ (Option.some.inj h)|cases h
noncomputable def V.Ow:V->Option (List V)
 | .obj a=>some a
 |_=>Option.none
theorem V.zU{x:V}{a}(h:x.Ow=some a):x= .obj a:=by
 cases x<;>first|exact congrArg _ (Option.some.inj h)|cases h
noncomputable def qI{α β γ:Type}(p:V->Option α)(q:V->Option β)(F:α->β->Option γ)(x y:V):Option γ:=(p x).bind fun a=>(q y).bind (F a)
theorem bO{α β γ:Type}{p:V->Option α}{q:V->Option β}{F:α->β->Option γ}{x y:V}{z:γ}{G:Prop}(h:qI p q F x y=some z)(k:∀a b,p x=some a->q y=some b->F a b=some z->G):G:=by
 refine ak h fun a ha gu=>?_
 clear h;rename _=>h
 refine ak h fun b hb gu=>?_
 clear h;rename _=>h
 exact k a b ha hb h
theorem lQ{γ:Type}{o o':Option γ}{z:γ}{G:Prop}(h:o.or o'=some z)(k:o=some z->G)(k':o'=some z->G):G:=by
 cases o with
 |none=>exact k' h
 |some a=>exact k h
@[elab_as_elim] theorem ite_inv {γ:Type} {c:Prop} [Decidable c] {a z:γ} {G:γ->Prop} (h:(if c then some a else none)=some z) (k:c->G a):G z:=by
 by_cases q:c
 ·rw[aw q]at h;cases h;exact k q
 ·rw[au q]at h;cases h
theorem eR{γ:Type}{c:Prop}[Decidable c]{a z:γ}{G:Prop}(h:(if c then some a else none)=some z)(k:c->a=z->G):G:=by
 by_cases q:c
 ·rw[aw q]at h;exact k q (Option.some.inj h)
 ·rw[au q]at h;cases h
@[elab_as_elim] theorem some_inv {γ:Type} {a z:γ} {G:γ->Prop} (h:some a=some z) (k:G a):G z:=Option.some.inj h▸k
noncomputable def t7(x y:V):Option V:=(qI V.int? V.int? (fun a b=>some (.int (a+b))) x y).or
 ((qI V.jK V.jK (fun a b=>if a.length+b.length<=most then some (.str (a++b))else none) x y).or
 (qI V.gm V.gm (fun a b=>if a.length+b.length<=most then some (.list (a++b))else none) x y))
noncomputable def R4:V->V->Option V:=qI V.int? V.int? fun a b=>some (.int (a-b))
noncomputable def zV(x y:V):Option V:=(qI V.int? V.int? (fun a b=>if-(2^64)<b/\b<2^64 then some (.int (a*b))else none) x y).or
 ((qI V.jK V.int? (fun a b=>if 0<=b/\a.length=1/\b<=1000000 then some (.str (List.replicate b.toNat a).flatten)else none) x y).or
 (qI V.gm V.int? (fun a b=>if 0<=b/\a.length=1/\b<=1000000 then some (.list (List.replicate b.toNat a).flatten)else none) x y))
noncomputable def CJ:V->V->Option V:=qI V.int? V.int? fun a b=>if 0<b/\b<1073741824 then some (.int (a.fmod b))else none
noncomputable def Li:V->V->Option V:=qI V.int? V.int? fun a b=>if 0<b/\b<1073741824 then some (.int (a.fdiv b))else none
noncomputable def Ox:V->V->Option V:=qI V.int? V.int? fun a b=>if a=10/\0<=b/\b<=20 then some (.int (10^b.toNat))else none
theorem Lj(a:List Nat)(b:Int)(h:0<=b/\a.length=1/\b<=1000000):zV (.str a) (.int b)=some (.str (List.replicate b.toNat a).flatten):=by
 show Option.or (if _ then _ else _) _=_;rw[aw h];rfl
theorem Lk(a:List V)(b:Int)(h:0<=b/\a.length=1/\b<=1000000):zV (.list a) (.int b)=some (.list (List.replicate b.toNat a).flatten):=by
 show(if _ then _ else _)=_;rw[aw h]
theorem Dn.int_inv{h:Heap}{hid i v}(e:Dn P h hid (.int i) v):∃t,v= .int i t:=e
theorem Dn.str_inv{h:Heap}{hid i v}(e:Dn P h hid (.str i) v):∃t,v= .str (pyStr i) t:=e
theorem Dn.bool_inv{h:Heap}{hid i v}(e:Dn P h hid (.bool i) v):v= .bool i:=e
theorem Dn.none_inv{h:Heap}{hid v}(e:Dn P h hid .none v):v= .none:=e
theorem Dn.cK{h:Heap}{hid l v}(e:Dn P h hid (.list l) v):∃a vs,v= .ref a/\a∉hid/\h.PlainList a vs.toArray/\bd P h hid l vs:=e
theorem Dn.oe{h:Heap}{hid l v}(e:Dn P h hid (.tup l) v):∃a vs,v= .ref a/\a∉hid/\x0 h a vs.toArray/\bd P h hid l vs:=e
theorem Dn.kO{h:Heap}{hid ks l v}(e:Dn P h hid (.dict ks l) v):∃a vs,v= .ref a/\a∉hid/\vs.length=ks.length/\(a==sysModules)=false/\h.DictOf (intKind P.prog P.w) a (ks.zip vs)/\bd P h hid l vs:=e
theorem Dn.ofInt{h:Heap}{hid}(i:Int)(t:Tok):Dn P h hid (.int i) (.int i t):=⟨t,rfl⟩
theorem Dn.ofStr{h:Heap}{hid}(i:List Nat)(t:Tok):Dn P h hid (.str i) (.str (pyStr i) t):=⟨t,rfl⟩
theorem Dn.ofBool{h:Heap}{hid}(b:Bool):Dn P h hid (.bool b) (.bool b):=rfl
theorem Dn.t8{h:Heap}{hid}:Dn P h hid .none .none:=rfl
theorem Dn.ofList{h:Heap}{hid l a vs}(h1:a∉hid)(h2:h.PlainList a vs.toArray)(h3:bd P h hid l vs):Dn P h hid (.list l) (.ref a):=⟨a,vs,rfl,h1,h2,h3⟩
theorem Dn.Hk{h:Heap}{hid l a vs}(h1:a∉hid)(h2:x0 h a vs.toArray)(h3:bd P h hid l vs):Dn P h hid (.tup l) (.ref a):=⟨a,vs,rfl,h1,h2,h3⟩
@[elab_as_elim] theorem Dn.int_k {h:Heap} {hid x a v} {C:Value->Prop} (e:Dn P h hid x v) (q:x.int?=some a) (k:∀t,C (.int a t)):C v:=by
 cases V.nE q;obtain⟨t,rfl⟩:=e.int_inv;exact k t
@[elab_as_elim] theorem Dn.str_k {h:Heap} {hid x a v} {C:Value->Prop} (e:Dn P h hid x v) (q:x.jK=some a) (k:∀t,C (.str (pyStr a) t)):C v:=by
 cases V.kN q;obtain⟨t,rfl⟩:=e.str_inv;exact k t
@[elab_as_elim] theorem Dn.jj {h:Heap} {hid x l v} {C:Value->Prop} (e:Dn P h hid x v) (q:x.gm=some l) (k:∀a vs n,a∉hid->h.get? a=some {cls:=.type "list",data:=.seq vs.toArray n}->h.PlainList a vs.toArray->bd P h hid l vs->C (.ref a)):C v:=by
 cases V.eO q;obtain⟨a,vs,rfl,h1,⟨n,h2⟩,h3⟩:=e.cK;exact k a vs n h1 h2 ⟨n,h2⟩ h3
theorem Dn.newList{s:Shared}{hid l vs}(hh:cD s.heap hid)(h3:bd P s.heap hid l vs):
  Dn P (s.heap.push {cls:=.type "list",data:=.seq vs.toArray}) hid (.list l) (.ref s.heap.objs.size):=
 .ofList (sU hh) ⟨0,bJ _ rfl⟩ (bd.kp (P:=P) h3 (Kp.push s _ s.toks))
@[elab_as_elim] theorem bd.one_k {h:Heap} {hid x vs} {C:List Value->Prop} (e:bd P h hid [x] vs) (k:∀v,Dn P h hid x v->C [v]):C vs:=by
 obtain⟨v,r,rfl,h1,rfl⟩:=e;exact k v h1
@[elab_as_elim] theorem bd.two_k {h:Heap} {hid x y vs} {C:List Value->Prop} (e:bd P h hid [x,y] vs) (k:∀v w,Dn P h hid x v->Dn P h hid y w->C [v,w]):C vs:=by
 obtain⟨v,r,rfl,h1,w,r',rfl,h2,rfl⟩:=e;exact k v w h1 h2
@[elab_as_elim] theorem bd.three_k {h:Heap} {hid x y z vs} {C:List Value->Prop} (e:bd P h hid [x,y,z] vs) (k:∀v w u,Dn P h hid x v->Dn P h hid y w->Dn P h hid z u->C [v,w,u]):C vs:=by
 obtain⟨v,r,rfl,h1,w,r',rfl,h2,u,r'',rfl,h3,rfl⟩:=e;exact k v w u h1 h2 h3
theorem og(a b:List Nat):pyStr a++pyStr b=pyStr (a++b):=by
 show Str.append _ _=_;simp[Str.append,pyStr]
theorem ec(a:List Nat):(pyStr a).length=a.length:=by simp[Str.length,pyStr]
theorem cm:t0 P .Add t7:=fun A s hid x y z u v E rm hh hx hy hf=>lQ hf
 (fun hf=>bO hf fun a b ha hb hz=>some_inv hz <| hx.int_k ha fun t=>hy.int_k hb fun t'=>PyProof.Rows.add_int ⟨Kp.toks s _,.ofInt _ _⟩) fun hf=>lQ hf
 (fun hf=>bO hf fun a b ha hb hz=>ite_inv hz fun hc=>hx.str_k ha fun t=>hy.str_k hb fun t'=>
  PyProof.Rows.add_str (fun t' tk=>⟨Kp.toks s _,by rw[og];exact .ofStr _ _⟩) (by rw[ec,ec];exact az hc cR))
 (fun hf=>bO hf fun l l' ha hb hz=>ite_inv hz fun hc=>hx.jj ha fun a vs n₁ h1 h2 ø h3=>hy.jj hb fun a' v8 Oy Hh Ou ø Y6=>
  PySem.P.add_list (n:=n₁) (n2:=Oy) h2 Ou ⟨Kp.push s _ s.toks,by rw[Cj];exact Dn.newList hh (h3.app Y6)⟩ (by rw[cb,cb,h3.length,Y6.length];exact az hc cR))
theorem El:t0 P .Sub R4:=fun A s hid x y z u v E rm hh hx hy hf=>bO hf fun a b ha hb hz=>some_inv hz <|
 hx.int_k ha fun t=>hy.int_k hb fun t'=>PyProof.Rows.sub_int ⟨Kp.toks s _,.ofInt _ _⟩
theorem jk:t0 P .Mod CJ:=fun A s hid x y z u v E rm hh hx hy hf=>bO hf fun a b ha hb hz=>ite_inv hz fun hc=>
 hx.int_k ha fun t=>hy.int_k hb fun t'=>PyProof.Rows.mod_int (Int.ne_of_gt hc.1) ⟨Kp.toks s _,.ofInt _ _⟩
theorem nF:t0 P .FloorDiv Li:=fun A s hid x y z u v E rm hh hx hy hf=>bO hf fun a b ha hb hz=>ite_inv hz fun hc=>
 hx.int_k ha fun t=>hy.int_k hb fun t'=>PyProof.Rows.floordiv_int (Int.ne_of_gt hc.1) ⟨Kp.toks s _,.ofInt _ _⟩ (.inl (PyProof.noPylong_small (by have:=hc.1;have:=hc.2;clear hx hy hz hf;omega)))
theorem Nq:t0 P .Pow Ox:=fun A s hid x y z u v E rm hh hx hy hf=>bO hf fun a b ha hb hz=>ite_inv hz fun hc=>
 hx.int_k ha fun t=>hy.int_k hb fun t'=>by
  obtain⟨rfl,h0,h1⟩:=hc;refine PyProof.Rows.pow_int h0 ?_ ⟨Kp.toks s _,.ofInt _ _⟩;have:(Builtin.Int.intBits 10:Int)=4:=by decide+kernel
  rw[this];clear hx hy hz hf;omega
theorem Hl(a:List Nat)(k:Nat):List.foldl (fun x1 x2=>x1++x2) #[] (List.replicate k a.toArray)=(List.replicate k a).flatten.toArray:=by
 have h:∀(k:Nat) (acc:List Nat),List.foldl (fun x1 x2=>x1++x2) acc.toArray (List.replicate k a.toArray)=(acc++(List.replicate k a).flatten).toArray:=by
  intro k
  induction k with
  |zero=>intro acc;simp
  |succ k ih=>intro acc;simp only[qM,dg,Cj,ih,eQ,List.append_assoc]
 simpa using h k []
theorem bd.rep{h:Heap}{hid l vs}(e:bd P h hid l vs):∀k,bd P h hid (List.replicate k l).flatten (List.replicate k vs).flatten
 |0=>by simpa using bq.nil
 |k+1=>by simp only[qM,eQ];exact e.app (bd.rep e k)
set_option maxHeartbeats 1000000 in
set_option tactic.hygienic true in
theorem zW:t0 P .Mult zV:=fun A s hid x y z u v E rm hh hx hy hf=>by
 refine lQ hf (fun hf=>bO hf fun a b ha hb hz=>ite_inv hz fun hc=>hx.int_k ha fun t=>hy.int_k hb fun t'=>PyProof.Rows.mul_int ⟨Kp.toks s _,.ofInt _ _⟩ (.of_right (intBits_le_64 hc.1 hc.2)))
  fun hf=>lQ hf (fun hf=>bO hf fun a b ha hb hz=>ite_inv hz fun hc=>hx.str_k ha fun t=>hy.int_k hb fun t'=>?_)
  (fun hf=>bO hf fun a b ha hb hz=>ite_inv hz fun hc=>hx.jj ha fun l vs k g1 g2 ø g3=>hy.int_k hb fun t'=>?_)
 ·clear hx hy hz hf ha hb
  obtain⟨h0,h1,h2⟩:=hc;refine PySem.P.mul_str ?_ ?_ ?_ ?_
  ·simp only[Bool.or_eq_false_iff,tr];omega
  ·intro _ _;rw[ec,h1]
   have:(1:Int)<=(2^63-1)/b:=by
    refine(Int.le_ediv_iff_mul_le (by omega)).mpr ?_;omega
   simp only[Int.natCast_one];omega
  ·intro _ _
   rw[ec,h1];unfold Builtin.Str.tooLong;rw[tr,jM];omega
  ·split
   ·have:b=0:=by omega
    subst this;exact⟨eK _,Kp.toks s _,.ofStr [] _⟩
   ·split
    ·rename_i hq
     simp only[ec,h1,lx,jN]at hq;have:b=1:=by rcases hq with q|q;exact q;omega
     subst this;refine⟨Kp.toks s _,?_⟩;simpa using Dn.ofStr (P:=P) a t
    ·have e:=Hl a b.toNat
     have e1:(List.replicate b.toNat a).flatten.length=b.toNat:=by simp[h1]
     refine⟨?_,Kp.toks s _,?_⟩
     ·simp only[pyStr]at e ⊢
      rw[e];simp only[Str.length,cb,e1];rw[jM];omega
     ·simp only[pyStr]
      rw[e];exact .ofStr _ _
 ·clear hx hy hz hf ha hb
  obtain⟨h0,h1,h2⟩:=hc;have hlen:vs.length=1:=by rw[g3.length,h1]
  refine wpAny_binaryOp_repeat_ref (T:="list") (U:="int") (by decide) ⟨_,g2,rfl⟩ (fun s'=>typeIs_int s' b t') noFill_list_mul F.fills_int_mul F.slot_int_rmul repeat_list F.slot_int_index.lookup
   (qN F.slot_int_rmul (typeIs_int s b t') F.entry_int_rmul (F.args_int_rmul_2 _ _) (lm_int_rmul_list_any b t' l vs.toArray k none #[]) ⟨g2,rfl,⟨_,g2,rfl⟩,?_⟩)
  refine qN F.slot_list_mul ⟨_,g2,rfl⟩ F.entry_list_mul (F.args_list_mul_2 _ _)
   (lm_list_mul_any l vs.toArray k none #[] b t' (by simp[Builtin.List.listFitsIndex];omega) (by rw[cb,hlen];omega) (by rw[cb,hlen];unfold Builtin.List.listTooLong;rw[mI,jM];omega)) ⟨g2,Kp.push s _ _,?_⟩
  have e:=listMul_foldl_if vs.toArray b.toNat;rw[e];exact Dn.newList hh (bd.rep g3 b.toNat)
end
section
variable{P:Pk}{n:Nat}{K:Cx}{lo:Bool}
mutual
noncomputable def V.py:V->Option PyData
 | .none=>some .none
 | .bool b=>some (.bool b)
 | .int i=>some (.int i)
 | .tup l=>(V.Fu l).map .tuple
 | .list l=>(V.Fu l).map .list
 |_=>Option.none
noncomputable def V.Fu:List V->Option (List PyData)
 |[]=>some []
 |x::xs=>(V.py x).bind fun a=>(V.Fu xs).bind fun r=>some (a::r)
end
theorem V.wP:V.py .none=some .none:=rfl
theorem V.wQ(b:Bool):V.py (.bool b)=some (.bool b):=rfl
theorem V.wR(i:Int):V.py (.int i)=some (.int i):=rfl
theorem V.wS(l:List V):V.py (.tup l)=(V.Fu l).map .tuple:=rfl
theorem V.wT(l:List V):V.py (.list l)=(V.Fu l).map .list:=rfl
theorem V.x4:V.Fu []=some []:=rfl
theorem V.CK(x:V)(xs:List V):V.Fu (x::xs)=(V.py x).bind fun a=>(V.Fu xs).bind fun r=>some (a::r):=rfl
mutual
theorem nG{h:Heap}{hid:List Addr}:∀{x:V} {v:Value} {d:PyData},Dn P h hid x v->x.py=some d->(∃as,Reads h v d as)/\d.canLay0=true
 | .none,v,d,e,q=>by obtain rfl:=Option.some.inj q;rw[e.none_inv];exact⟨⟨_,.none⟩,rfl⟩
 | .bool b,v,d,e,q=>by obtain rfl:=Option.some.inj q;rw[e.bool_inv];exact⟨⟨_,.bool b⟩,rfl⟩
 | .int i,v,d,e,q=>by obtain rfl:=Option.some.inj q;obtain⟨t,rfl⟩:=e.int_inv;exact⟨⟨_,.int i t⟩,rfl⟩
 | .str s,v,d,e,q=>nomatch(q:(Option.none:Option PyData)=some d)
 | .dict ks l,v,d,e,q=>nomatch(q:(Option.none:Option PyData)=some d)
 | .obj l,v,d,e,q=>nomatch(q:(Option.none:Option PyData)=some d)
 | .tup l,v,d,e,q=>by
   obtain⟨ds,q1,rfl⟩:=np.mp q;obtain⟨a,vs,rfl,_,⟨k,h1⟩,h2⟩:=e.oe;obtain⟨⟨as,h3⟩,h4⟩:=rj h2 q1;exact⟨⟨_,.tuple h1 rfl rfl h3⟩,h4⟩
 | .list l,v,d,e,q=>by
   obtain⟨ds,q1,rfl⟩:=np.mp q;obtain⟨a,vs,rfl,_,⟨k,h1⟩,h2⟩:=e.cK;obtain⟨⟨as,h3⟩,h4⟩:=rj h2 q1;exact⟨⟨_,.list h1 rfl rfl h3⟩,h4⟩
theorem rj{h:Heap}{hid:List Addr}:∀{x:List V} {v:List Value} {d:List PyData},bd P h hid x v->V.Fu x=some d->(∃as,ReadsAll h v d as)/\PyData.canLayAll0 d=true
 |[],v,d,e,q=>by obtain rfl:=Option.some.inj q;obtain rfl:v=[]:=e;exact⟨⟨_,.nil⟩,rfl⟩
 |x::xs,v,d,e,q=>by
  obtain⟨a,q1,q⟩:=kG.mp q;obtain⟨r,q2,q3⟩:=kG.mp q;obtain rfl:=Option.some.inj q3;obtain⟨u,vs,rfl,e1,e2⟩:=e;obtain⟨⟨as,h1⟩,h2⟩:=nG e1 q1;obtain⟨⟨bs,h3⟩,h4⟩:=rj e2 q2;exact⟨⟨_,.cons h1 h3⟩,by simp[PyData.canLayAll0,h2,h4]⟩
end
noncomputable def CL(x y:V):Option Bool:=x.py.bind fun a=>y.py.bind fun b=>if a.depth<=50 then some (PyData.eqv a b)else none
noncomputable def m6(x y:V):Option Bool:=(qI V.jK V.jK (fun a b=>some (a==b)) x y).or (CL x y)
noncomputable def Hb(x y:V):Option Bool:=(m6 x y).map (!·)
noncomputable def ltV:V->V->Option Bool:=qI V.int? V.int? fun a b=>some (decide (a<b))
noncomputable def Va(x y:V):Option Bool:=(qI V.int? V.int? (fun a b=>some (decide (a<=b))) x y).or (qI V.jK V.jK (fun a b=>some (!decide (b<a))) x y)
noncomputable def Wv:V->V->Option Bool:=qI V.int? V.int? fun a b=>some (decide (b<a))
noncomputable def Y7:V->V->Option Bool:=qI V.int? V.int? fun a b=>some (decide (b<=a))
noncomputable def V.isNone:V->Bool
 | .none=>true
 |_=>false
noncomputable def V.bool?:V->Option Bool
 | .bool a=>some a
 |_=>Option.none
noncomputable def R5(x y:V):Option Bool:=if y.isNone=true then some x.isNone else qI V.bool? V.bool? (fun a b=>some (a==b)) x y
noncomputable def Hm(x y:V):Option Bool:=(R5 x y).map (!·)
noncomputable def Oz(x:V)(l:List V):Option Bool:=x.py.bind fun a=>(V.Fu l).bind fun b=>if PyData.depthAll b<=50 then some (b.any fun y=>PyData.eqv y a)else none
noncomputable def OA(l:List Nat):Option Nat:=match l with
 |[c]=>some c
 |_=>none
noncomputable def Ro(x y:V):Option Bool:=(qI V.jK V.jK (fun a b=>(OA a).map fun c=>decide (c∈b)) x y).or (y.gm.bind (Oz x))
noncomputable def OC(x y:V):Option Bool:=(Ro x y).map (!·)
theorem V.CN{x:V}(h:x.isNone=true):x= .none:=by
 cases x<;>first|rfl|cases h
theorem V.Fv{x:V}{a}(h:x.bool?=some a):x= .bool a:=by
 cases x<;>first|exact congrArg _ (Option.some.inj h)|cases h
theorem zX:∀{l:List Nat} {c},OA l=some c->l=[c]
 |[c],_,h=>congrArg (fun x=>[x]) (Option.some.inj h)
 |[],_,h|_::_::_,_,h=>nomatch h
@[elab_as_elim] theorem Dn.bool_k {h:Heap} {hid x a v} {C:Value->Prop} (e:Dn P h hid x v) (q:x.bool?=some a) (k:C (.bool a)):C v:=by
 cases V.Fv q;exact e.bool_inv▸k
@[elab_as_elim] theorem map_inv {γ δ:Type} {f:γ->δ} {o:Option γ} {z:δ} {G:δ->Prop} (h:o.map f=some z) (k:∀b,o=some b->G (f b)):G z:=by
 cases o with
 |none=>cases h
 |some b=>exact Option.some.inj h▸k b rfl
theorem x5(x y:V)(h:x.jK=none):m6 x y=CL x y:=by
 unfold m6 qI;rw[h];rfl
theorem rk(a b:List Nat):(pyStr a==pyStr b)=(a==b):=by
 rw[ly];simp[pyStr]
theorem Hn{h:Heap}{hid x y u v b}{G:Prop}(hx:Dn P h hid x u)(hy:Dn P h hid y v)(hf:CL x y=some b)
  (k:∀a c as bs,Reads h u a as->Reads h v c bs->a.canLay0=true->c.canLay0=true->a.depth<=50->PyData.eqv a c=b->G):G:=by
 refine ak hf fun a ha gu=>?_
 clear hf;rename _=>hf
 refine ak hf fun c hc gu=>?_
 clear hf;rename _=>hf
 refine ite_inv (G:=fun b=>(∀a c as bs,Reads h u a as->Reads h v c bs->a.canLay0=true->c.canLay0=true->a.depth<=50->PyData.eqv a c=b->G)->G) hf (fun hd k=>?_) k;obtain⟨⟨as,r1⟩,c1⟩:=nG hx ha;obtain⟨⟨bs,r2⟩,c2⟩:=nG hy hc;exact k a c as bs r1 r2 c1 c2 hd rfl
theorem cJ.py{A:Around}(rm:cJ 0 A){d:Nat}(h:d<=50)(e:Nat):A.units+1+min d e<cLine:=by
 have:=rm.units;have:=Nat.min_le_left d e;rw[cLine_is];clear rm;omega
theorem fi:jh P .Eq m6:=fun A s hid x y b u v E rm G hh hx hy hf=>lQ hf
 (fun hf=>bO hf fun a b ha hb hz=>some_inv hz <| hx.str_k ha fun t=>hy.str_k hb fun t'=>PyProof.Rows.eq_str ⟨Kp.refl s,by rw[rk]⟩)
 fun hf=>Hn hx hy hf fun a c as bs r1 r2 c1 c2 hd e=>SeqAt.compareEq_reads r1 r2 c1 c2 (fq (jO (kH _) _) (rm.py hd _)) ⟨Kp.refl s,congrArg Value.bool e⟩
theorem wf:jh P .NotEq Hb:=fun A s hid x y b u v E rm G hh hx hy hf=>map_inv hf fun b hf=>lQ hf
 (fun hf=>bO hf fun a b ha hb hz=>some_inv hz <| hx.str_k ha fun t=>hy.str_k hb fun t'=>PyProof.Rows.ne_str ⟨Kp.refl s,by simp only[bne,rk]⟩)
 fun hf=>Hn hx hy hf fun a c as bs r1 r2 c1 c2 hd e=>SeqAt.compareNe_reads r1 r2 c1 c2 (fq (jO (kH _) _) (rm.py hd _)) ⟨Kp.refl s,by rw[e]⟩
theorem OD:jh P .Lt ltV:=fun A s hid x y b u v E rm G hh hx hy hf=>bO hf fun a b ha hb hz=>some_inv hz <| hx.int_k ha fun t=>hy.int_k hb fun t'=>PyProof.Rows.lt_int ⟨Kp.refl s,rfl⟩
theorem R6:jh P .Gt Wv:=fun A s hid x y b u v E rm G hh hx hy hf=>bO hf fun a b ha hb hz=>some_inv hz <| hx.int_k ha fun t=>hy.int_k hb fun t'=>PyProof.Rows.gt_int ⟨Kp.refl s,rfl⟩
theorem Ho:jh P .GtE Y7:=fun A s hid x y b u v E rm G hh hx hy hf=>bO hf fun a b ha hb hz=>some_inv hz <| hx.int_k ha fun t=>hy.int_k hb fun t'=>PyProof.Rows.ge_int ⟨Kp.refl s,rfl⟩
theorem Hp:jh P .LtE Va:=fun A s hid x y b u v E rm G hh hx hy hf=>lQ hf
 (fun hf=>bO hf fun a b ha hb hz=>some_inv hz <| hx.int_k ha fun t=>hy.int_k hb fun t'=>PyProof.Rows.le_int ⟨Kp.refl s,rfl⟩)
 fun hf=>bO hf fun a b ha hb hz=>some_inv hz <| hx.str_k ha fun t=>hy.str_k hb fun t'=>PySem.P.le_str ⟨Kp.refl s,by simp[pyStr]⟩
theorem Dn.isNone{h:Heap}{hid x v}(e:Dn P h hid x v):(v==Value.none)=x.isNone:=by
 cases x with
 |none=>rw[e.none_inv];rfl
 |bool b=>rw[e.bool_inv];rfl
 |int i=>obtain⟨t,rfl⟩:=e.int_inv;rfl
 |str i=>obtain⟨t,rfl⟩:=e.str_inv;rfl
 |tup l=>obtain⟨a,vs,rfl,_⟩:=e.oe;rfl
 |list l=>obtain⟨a,vs,rfl,_⟩:=e.cK;rfl
 |dict ks l=>obtain⟨a,vs,rfl,_⟩:=e.kO;rfl
 |obj l=>obtain⟨a,vs,rfl,_⟩:=e;rfl
theorem Nr{h:Heap}{hid x y u v b}{G:Value->Value->Bool->Prop}(hx:Dn P h hid x u)(hy:Dn P h hid y v)(hf:R5 x y=some b)
  (k1:∀u,(u==Value.none)=b->G u .none b) (k2:∀a c,G (.bool a) (.bool c) (a==c)):G u v b:=by
 by_cases q:y.isNone=true
 ·cases V.CN q
  rw[R5,aw q]at hf;rw[hy.none_inv];exact k1 u (hx.isNone.trans (Option.some.inj hf))
 ·rw[R5,au q]at hf
  exact bO hf fun a c ha hc hz=>some_inv hz <| hx.bool_k ha <| hy.bool_k hc (k2 a c)
theorem Ww:jh P .Is R5:=fun A s hid x y b u v E rm G hh hx hy hf=>Nr (G:=fun u v b=>wpAny _ _ (compareOp .Is u v) (fun r s'=>Kp s s'/\r= .bool b) _ _) hx hy hf
 (fun u e=>is_none ⟨Kp.refl s,congrArg Value.bool e⟩) fun a c=>wpAny_is_plain rfl ⟨Kp.refl s,by cases a<;>cases c<;>rfl⟩
theorem x6:jh P .IsNot Hm:=fun A s hid x y b u v E rm G hh hx hy hf=>map_inv hf fun b hf=>Nr (G:=fun u v b=>wpAny _ _ (compareOp .IsNot u v) (fun r s'=>Kp s s'/\r= .bool !b) _ _) hx hy hf
 (fun u e=>isNot_none ⟨Kp.refl s,by rw[<-e]⟩) fun a c=>wpAny_isNot_plain rfl ⟨Kp.refl s,by cases a<;>cases c<;>rfl⟩
theorem Em{A:Around}{s:Shared}{hid:List Addr}{x y:V}{b:Bool}{u v:Value}{E:Value->Shared->Prop}(rm:cJ 0 A)(hx:Dn P s.heap hid x u)(hy:Dn P s.heap hid y v)(hf:Ro x y=some b)(neg:Bool):
  wpAny (model P.prog P.w) A (compareOp (if neg then .NotIn else .In) u v) (fun r s'=>Kp s s'/\r= .bool (if neg then !b else b)) E s:=lQ hf
 (fun hf=>bO hf fun c l hc hl hz=>map_inv hz fun c' e=>by
  cases zX e;refine hx.str_k hc fun t=>hy.str_k hl fun t'=>?_
  have e:=StrLaws.found_one (pyStr l) c';clear hx hy hz hf hc hl;cases neg
  ·refine PySem.P.in_str ⟨Kp.refl s,?_⟩
   simp only[pyStr]at e ⊢;rw[e];simp
  ·refine PySem.P.notIn_str ⟨Kp.refl s,?_⟩
   simp only[pyStr]at e ⊢;rw[e];simp)
 fun hf=>by
  refine ak hf fun l hl gu=>?_
  clear hf;rename _=>hf
  refine ak hf fun a ha gu=>?_
  clear hf;rename _=>hf
  refine ak hf fun ds hd gu=>?_
  clear hf;rename _=>hf
  refine ite_inv hf fun Ll=>?_
  cases V.eO hl;obtain⟨⟨as,r1⟩,c1⟩:=nG hx ha;obtain⟨⟨bs,r2⟩,c2⟩:=nG (d:=.list ds) hy (show(V.Fu l).map _=_ by rw[hd];rfl);cases neg
  ·exact SeqAt.in_list_reads r2 r1 c2 c1 (rm.py Ll _) ⟨Kp.refl s,rfl⟩
  ·exact SeqAt.notIn_list_reads r2 r1 c2 c1 (rm.py Ll _) ⟨Kp.refl s,rfl⟩
theorem Lm:jh P .NotIn OC:=fun A s hid x y b u v E rm G hh hx hy hf=>map_inv hf fun b hf=>Em rm hx hy hf true
end
section
variable{P:Pk}{n:Nat}{K:Cx}{lo:Bool}
structure Ks(out hid ar:List Addr)(s s':Shared):Prop where
 keep:∀b o,(b∉hid\/b∈out)->s.heap.get? b=some o->s'.heap.get? b=some o
 new:∀a∈ar,a∈hid\/s.heap.get? a=none
 sub:∀a∈hid,a∈ar
 gens:GX s.gens s'.gens
 os:s'.os=s.os
theorem Ks.iI{out hid s s'}(k:Kp s s'):Ks out hid hid s s':=⟨fun b o ø h=>k.keep b o h,fun a h=>.inl h,fun a h=>h,k.gens,k.os⟩
theorem Ks.refl(out hid s):Ks out hid hid s s:=.iI (.refl s)
theorem Ks.trans{out hid ar Nt s s' gZ}(x:Ks out hid ar s s')(y:Ks out ar Nt s' gZ):Ks out hid Nt s gZ where
 keep:=fun b o hb h=>y.keep b o (hb.imp (fun q hm=>(x.new b hm).elim q fun z=>by rw[h]at z;cases z) id) (x.keep b o hb h)
 new:=fun a h=>(y.new a h).elim (x.new a) fun z=>by
  by_cases q:a∈hid
  ·exact .inl q
  ·right
   cases e:s.heap.get? a with
   |none=>rfl
   |some o=>rw[x.keep a o (.inl q) e]at z;cases z
 sub:=fun a h=>y.sub a (x.sub a h)
 gens:=x.gens.trans y.gens
 os:=y.os.trans x.os
theorem Dn.ks{out hid ar}{s s':Shared}{x:V}{v:Value}(e:Dn P s.heap hid x v)(k:Ks out hid ar s s'):Dn P s'.heap ar x v:=e.grow (fun a o h q=>k.keep a o (.inl h) q) k.new
theorem bd.ks{out hid ar}{s s':Shared}{x:List V}{v:List Value}(e:bd P s.heap hid x v)(k:Ks out hid ar s s'):bd P s'.heap ar x v:=e.grow (fun a o h q=>k.keep a o (.inl h) q) k.new
noncomputable def upd(ρ:ao)(i:Nat)(y:V):ao:=fun j=>cond (j==i) (some y) (ρ j)
theorem kP(ρ:ao)(i:Nat)(y:V):upd ρ i y i=some y:=by unfold upd;rw[qO];rfl
theorem iA(ρ:ao){i j:Nat}(y:V)(h:j≠i):upd ρ i y j=ρ j:=by unfold upd;rw[kI.mpr h];rfl
noncomputable def mR(h:Heap)(a:Addr):Prop:=∃o,h.get? a=some o/\((∃xs n,o.data= .seq xs n)\/∃es n,o.data= .dict es n)
theorem mR.jS{h:Heap}{a:Addr}{v}(x:mR h a)(y:h.IsCell a v):False:=by
 obtain⟨o,ho,hd⟩:=x;obtain⟨o',Np,lu⟩:=y;rw[ho]at Np;cases Np;rcases hd with⟨xs,n,hd⟩|⟨xs,n,hd⟩<;>rw[hd]at lu<;>cases lu
theorem PlainList.boxed{h:Heap}{a vs}(x:h.PlainList a vs):mR h a:=let⟨n,e⟩:=x;⟨_,e,.inl ⟨_,_,rfl⟩⟩
theorem DictOf.boxed{h:Heap}{a oU}(x:h.DictOf (intKind P.prog P.w) a oU):mR h a:=by
 obtain⟨o,es,ep,ho,_,hd,_⟩:=x;exact⟨o,ho,.inr ⟨es,ep,hd⟩⟩
theorem Ns.jS{h:Heap}{a:Addr}{m v}(x:h.Ns a m)(y:h.IsCell a v):False:=by
 obtain⟨o,es,ep,ho,hd,_⟩:=x;obtain⟨o',Np,lu⟩:=y;rw[ho]at Np;cases Np;rw[hd]at lu;cases lu
theorem eP.addr{L h out hid}{x:V}{v:Value}(e:eP P L h out hid x v):∃a,v= .ref a/\a∈hid/\a∉out/\a≠L/\mR h a:=by
 cases x with
 |list l=>
  obtain⟨a,vs,rfl,h1,h2,h3,h4,h5⟩:=e;exact⟨a,rfl,h1,h2,h3,PlainList.boxed h4⟩
 |dict ks l=>
  obtain⟨a,vs,rfl,h1,h2,h3,h4,h5,h6,h7⟩:=e;exact⟨a,rfl,h1,h2,h3,DictOf.boxed h6⟩
 |_=>exact e.elim
theorem eP.keep{L:Addr}{h h':Heap}{out hid ar:List Addr}{x:V}{a:Addr}(e:eP P L h out hid x (.ref a))(ha:∀o,h.get? a=some o->h'.get? a=some o)(hk:∀a o,a∉hid->h.get? a=some o->h'.get? a=some o)
  (hh:∀a∈hid,a∈ar) (hn:∀a∈ar,a∈hid\/h.get? a=none):eP P L h' out ar x (.ref a):=
 e.map (fun b q h1 h2 h3=>⟨hh _ h1,h2,h3,fun o=>by cases q;exact ha o⟩) fun d=>d.grow hk hn
theorem kQ{l l':List (Str×NameKind×Bool)}{i:Nat}{x:Str}{k:NameKind}{b:Bool}(hi:l[i]?=some (x,k,b))(hv:l'=l.set i (x,k,false)){j:Nat}{z kd c}(h:l'[j]?=some (z,kd,c)):(j=i/\z=x/\kd=k/\c=false)\/(j≠i/\l[j]?=some (z,kd,c)):=by
 rw[hv,List.getElem?_set]at h;by_cases e:i=j
 ·rw[aw e,aw (gG.mp hi).1]at h
  cases h;exact .inl ⟨e.symm,rfl,rfl,rfl⟩
 ·rw[au e]at h
  exact .inr ⟨fun z=>e z.symm,h⟩
theorem aU.unbox{K':Cx}{env:Env}{out hid out' ar:List Addr}{m}{B s:Shared}{ρ aQ:ao}(S:aU P K env out hid m B s ρ){i:Nat}{x:Str}{k:NameKind}(hi:K.vars[i]?=some (x,k,true))(hv:K'.vars=K.vars.set i (x,k,false))(hg:K'.aV=K.aV){y y':V}(hy:ρ i=some y)
  {a:Addr} (Vb:At env m s.heap out hid x k (some (.ref a))) (bx:mR s.heap a) (oh:∀b∈out',b∈ar) (own:∀b∈ar,b∉out'->B.heap.get? b=none) (mv:∀b,b∈hid->b∉out->b≠a->b∈ar/\b∉out') (ha:a≠env.locals) (sub:∀b∈ar,b∈hid)
  (sf:∀{kd z u},At env m s.heap out hid z kd u->At env m s.heap out' ar z kd u) (Wx:∀j,j≠i->aQ j=ρ j) (R7:aQ i=some y') (d:Dn P s.heap ar y' (.ref a)):aU P K' env out' ar m B s aQ where
 fn:=S.fn
 gl:=S.gl
 bl:=S.bl
 kind:=fun j z kd b h=>(kQ hi hv h).elim (fun q=>by obtain⟨_,rfl,rfl,_⟩:=q;exact S.kind i _ _ _ hi) fun q=>S.kind j z kd b q.2
 oS:=fun z h=>S.oS z (hg▸h)
 nodup:=fun j l z kd b K4 b' h1 h2=>by
  have n1:∃b,K.vars[j]?=some (z,kd,b):=(kQ hi hv h1).elim (fun q=>by obtain⟨rfl,rfl,rfl,_⟩:=q;exact⟨_,hi⟩) fun q=>⟨_,q.2⟩
  have n2:∃b,K.vars[l]?=some (z,K4,b):=(kQ hi hv h2).elim (fun q=>by obtain⟨rfl,rfl,rfl,_⟩:=q;exact⟨_,hi⟩) fun q=>⟨_,q.2⟩
  exact n1.elim fun ø n1=>n2.elim fun ø n2=>S.nodup _ _ _ _ _ _ _ n1 n2
 iz:=S.iz
 live:=fun b h=>S.live b (sub b h)
 oh:=oh
 Lh:=(mv _ S.Lh S.Lo (ft ha)).1
 Lo:=(mv _ S.Lh S.Lo (ft ha)).2
 ns:=S.ns
 gb:=S.gb
 kp:=S.kp
 own:=own
 slot:=fun j z kd b h=>(kQ hi hv h).elim (fun q=>by
  obtain⟨rfl,rfl,rfl,rfl⟩:=q;exact⟨_,sf Vb,by rw[R7];exact⟨_,rfl,d⟩⟩) fun q=>(S.slot j z kd b q.2).elim fun ov w=>⟨ov,sf w.1,by
  rw[Wx j q.1]
  cases e:ρ j with
  |none=>trivial
  |some t=>
   refine oR.map (e▸w.2) (fun hb a' e' h1 h2 h3=>?_) (fun e=>Dn.less (P:=P) e sub) fun e=>bd.less (P:=P) e sub
   have cZ:a'≠a:=fun z'=>by
    subst hb;subst e';subst z';rcases S.apart i j x z k kd a' (ft q.1) hi q.2 Vb w.1 with r|r
    ·rw[hy]at r;cases r
    ·rw[e]at r;cases r
   exact⟨(mv a' h1 h2 cZ).1,(mv a' h1 h2 cZ).2,h3,fun ø e=>e⟩⟩
 apart:=fun j l z w kd K4 b Ln h1 h2 a1 a2=>by
  have q1:=(kQ hi hv h1).resolve_left fun q=>nomatch q.2.2.2
  have q2:=(kQ hi hv h2).resolve_left fun q=>nomatch q.2.2.2
  obtain⟨ov,p1,_⟩:=S.slot j z kd true q1.2;obtain⟨Wt,p2,_⟩:=S.slot l w K4 true q2.2;have e1:=At.fun (sf p1) a1
  have e2:=At.fun (sf p2) a2
  subst e1;subst e2;rw[Wx j q1.1,Wx l q2.1];exact S.apart j l z w kd K4 b Ln q1.2 q2.2 p1 p2
theorem aU.fill{env:Env}{out hid ar:List Addr}{m m':Str->Option Value}{B s s':Shared}{ρ:ao}(S:aU P K env out hid m B s ρ){i:Nat}{x:Str}{k:NameKind}{b:Bool}(hi:K.vars[i]?=some (x,k,b)){y:V}{v:Value}{c:Addr}
  (ch:c∈hid) (co:c∉out) (hs:∀a o,a≠c->s.heap.get? a=some o->s'.heap.get? a=some o) (hg:GX s.gens s'.gens) (Nu:s'.os=s.os)
  (sub:∀a∈hid,a∈ar) (new:∀a∈ar,a∈hid\/s.heap.get? a=none) (live:cD s'.heap ar)
  (ns:s'.heap.Ns env.locals m') (Wy:∀(j:Nat) x' k' z a,j≠i->K.vars[j]?=some (x',k',true)->ρ j=some z->At env m s.heap out hid x' k' (some (.ref a))->eP P env.locals s.heap out hid z (.ref a)->a≠c)
  (kR:At env m' s'.heap out ar x k (some v)) (Hq:∀(j:Nat) x' k' b' u,j≠i->K.vars[j]?=some (x',k',b')->At env m s.heap out hid x' k' u->At env m' s'.heap out ar x' k' u)
  (hv:if b then eP P env.locals s'.heap out ar y v else Dn P s'.heap ar y v)
  (Cc:b=true->∀(j:Nat) x' k' a,j≠i->K.vars[j]?=some (x',k',true)->v= .ref a->At env m s.heap out hid x' k' (some (.ref a))->ρ j=none):
  aU P K env out ar m' B s' (upd ρ i y)/\Ks out hid ar s s':=by
 have keep:∀a o,a∉hid->s.heap.get? a=some o->s'.heap.get? a=some o:=fun a o h=>hs a o fun e=>h (e▸ch)
 have K1:Ks out hid ar s s':=⟨fun a o h=>hs a o (by rintro rfl;exact h.elim (fun z=>z ch) co),new,sub,hg,Nu⟩;have Vc:∀(j:Nat) x' k' b' u,j≠i->K.vars[j]?=some (x',k',b')->At env m' s'.heap out ar x' k' u->At env m s.heap out hid x' k' u:=fun j x' k' b' u hj qJ h=>by
  obtain⟨ov,q1,_⟩:=S.slot j x' k' b' qJ;have:=At.fun (Hq j x' k' b' ov hj qJ q1) h
  subst this;exact q1
 refine⟨{fn:=S.fn,gl:=S.gl,bl:=S.bl,kind:=S.kind,oS:=S.oS,nodup:=S.nodup,iz:=S.iz,live:=live,oh:=fun a h=>sub a (S.oh a h),Lh:=sub _ S.Lh,Lo:=S.Lo,ns:=ns,slot:=?_,apart:=?_,gb:=S.gb,kp:=?_,own:=?_},K1⟩
 ·intro j x' k' b' hj
  by_cases CO:j=i
  ·subst CO
   rw[hi]at hj;cases hj;exact⟨some v,kR,by rw[kP];exact⟨v,rfl,hv⟩⟩
  ·obtain⟨ov,q1,q2⟩:=S.slot j x' k' b' hj
   refine⟨ov,Hq j x' k' b' ov CO hj q1,?_⟩;rw[iA _ _ CO]
   cases e:ρ j with
   |none=>trivial
   |some z=>
    rw[e]at q2;obtain⟨u,rfl,q2⟩:=q2;refine⟨u,rfl,?_⟩;cases b'
    ·exact Dn.ks (P:=P) q2 K1
    ·obtain⟨a,rfl,h1,h2,h3,h4⟩:=eP.addr (P:=P) q2
     exact eP.keep (P:=P) q2 (fun o h=>hs a o (Wy j x' k' z a CO hj e q1 q2) h) keep sub new
 ·intro j l x' y' k' Vd a Ln hj hl h1 h2
  by_cases CO:j=i
  ·subst CO
   rw[hi]at hj;cases hj;right;have e:=At.fun kR h1
   cases e;rw[iA _ _ (ft Ln)];exact Cc rfl l y' Vd a (ft Ln) hl rfl (Vc l y' Vd true _ (ft Ln) hl h2)
  ·by_cases Wz:l=i
   ·subst Wz
    rw[hi]at hl;cases hl;left;have e:=At.fun kR h2
    cases e;rw[iA _ _ CO];exact Cc rfl j x' k' a CO hj rfl (Vc j x' k' true _ CO hj h1)
   ·rw[iA _ _ CO,iA _ _ Wz]
    exact S.apart j l x' y' k' Vd a Ln hj hl (Vc j x' k' true _ CO hj h1) (Vc l y' Vd true _ Wz hl h2)
 ·exact⟨fun a o h=>hs a o (by rintro rfl;rw[S.own a ch co]at h;cases h) (S.kp.keep a o h),S.kp.gens.trans hg,Nu.trans S.kp.os⟩
 ·intro a h ho
  rcases new a h with q|q
  ·exact S.own a q ho
  ·cases e:B.heap.get? a with
   |none=>rfl
   |some o=>rw[S.kp.keep a o e]at q;cases q
theorem cD.extBut{h h':Heap}{c:Addr}{hid}(l:cD h hid)(hs:∀a o,a≠c->h.get? a=some o->h'.get? a=some o)(hc:∃o,h'.get? c=some o):cD h' hid:=fun a ha=>by
 by_cases e:a=c
 ·subst e;exact hc
 ·obtain⟨o,ho⟩:=l a ha
  exact⟨o,hs a o e ho⟩
theorem aU.store{env:Env}{out hid:List Addr}{m:Str->Option Value}{B s:Shared}{ρ:ao}(S:aU P K env out hid m B s ρ){i:Nat}{x:Str}{k:NameKind}{b:Bool}(hi:K.vars[i]?=some (x,k,b)){y:V}{v:Value}
  (hv:if b then eP P env.locals s.heap out hid y v else Dn P s.heap hid y v)
  (Cc:b=true->∀(j:Nat) x' k' a,j≠i->K.vars[j]?=some (x',k',true)->v= .ref a->At env m s.heap out hid x' k' (some (.ref a))->ρ j=none) (nH:k≠ .free)
  {A:Around} {E:Value->Shared->Prop} {M:Model} {Q:Unit->Shared->Prop} (h:∀m' s',aU P K env out hid m' B s' (upd ρ i y)->Ks out hid hid s s'->((k= .local->∀a o,a≠env.locals->s.heap.get? a=some o->s'.heap.get? a=some o)/\(∀(j:Nat) x' k' b' u,j≠i->K.vars[j]?=some (x',k',b')->At env m' s'.heap out hid x' k' u->At env m s.heap out hid x' k' u)/\(∀a o,mR s.heap a->a≠env.locals->s.heap.get? a=some o->s'.heap.get? a=some o)/\At env m' s'.heap out hid x k (some v))->Q () s'):
  wpAny M A (storeName env x v) Q E s:=by
 obtain⟨ov,kR,_⟩:=S.slot i x k b hi;have hk:=S.kind i x k b hi;obtain⟨oL,_,_,hL,_⟩:=id S.ns;have fin:∀(c:Addr) (m':Str->Option Value) (s':Shared),(k= .local->c=env.locals)->c∈hid->c∉out->(∀a o,a≠c->s.heap.get? a=some o->s'.heap.get? a=some o)->(∃o,s'.heap.get? c=some o)->s'.gens=s.gens->s'.os=s.os->s'.heap.Ns env.locals m'->
   (∀a,mR s.heap a->a≠env.locals->a≠c)->At env m' s'.heap out hid x k (some v)->(∀(j:Nat) x' k' b' u,j≠i->K.vars[j]?=some (x',k',b')->At env m s.heap out hid x' k' u->At env m' s'.heap out hid x' k' u)->Q () s':=by
  intro c m' s' WA ch co hs hc hg Nu ns Ve Fw Hq;have Fx:if b then eP P env.locals s'.heap out hid y v else Dn P s'.heap hid y v:=by
   cases b
   ·exact Dn.grow (P:=P) hv (fun a o ha q=>hs a o (fun e=>ha (e▸ch)) q) fun a q=>.inl q
   ·obtain⟨a,rfl,h1,h2,h3,h4⟩:=eP.addr (P:=P) hv
    exact eP.keep (P:=P) hv (fun o q=>hs a o (Ve a h4 h3) q) (fun a o ha q=>hs a o (fun e=>ha (e▸ch)) q) (fun ø q=>q) fun a q=>.inl q
  obtain⟨r1,r2⟩:=aU.fill (m':=m') (s':=s') S hi ch co hs (by rw[hg];exact .refl _) Nu (fun ø q=>q) (fun ø q=>.inl q) (S.live.extBut hs hc) ns (fun j x' k' z a ø ø ø ø q=>by
   obtain⟨a',e,h1,h2,h3,h4⟩:=eP.addr (P:=P) q;cases e;exact Ve a h4 h3) Fw Hq Fx Cc
  exact h m' s' r1 r2 ⟨fun hk a o ha q=>hs a o (fun e=>ha (e.trans (WA hk))) q,fun j x' k' b' u hj qJ hu=>by
   obtain⟨ov,q1,_⟩:=S.slot j x' k' b' qJ;have:=At.fun (Hq j x' k' b' ov hj qJ q1) hu
   subst this;exact q1,fun a o ha cZ q=>hs a o (Ve a ha cZ) q,Fw⟩
 cases k
 case «local» =>
  refine qP hk S.ns (fun h' zP v9=>?_) (by simp[S.fn]);have hs:∀a o,a≠env.locals->s.heap.get? a=some o->h'.get? a=some o:=fun a o ha q=>(v9.2 a ha).trans q
  refine fin env.locals _ {s with heap:=h',toks:=s.toks+1} (fun ø=>rfl) S.Lh S.Lo hs ?_ rfl rfl zP (fun a ø ha=>ha) (by simp[At]) ?_
  ·obtain⟨o,_,_,ho,_⟩:=zP;exact⟨o,ho⟩
  ·intro j x' k' b' u hj qJ hu
   have cZ:x'≠x:=by
    rintro rfl
    exact hj (S.nodup j i x' k' b' _ _ qJ hi)
   exact hu.map (fun e=>(au cZ).trans e) fun c ø q2 q3 q4=>⟨q2,q3,q4.sameBut v9 fun e=>Ns.jS (e▸S.ns) q4⟩
 case cell=>
  obtain⟨c,q1,q2,q3,q4⟩:=kR;refine wpAny_storeName_cell S.fn hk q1 q4 (fun h' Cd v9=>?_);have hs:∀a o,a≠c->s.heap.get? a=some o->h'.get? a=some o:=fun a o ha q=>(v9.2 a ha).trans q
  refine fin c m {s with heap:=h'} (fun e=>by cases e) q2 q3 hs ?_ rfl rfl (S.ns.sameBut v9 fun e=>Ns.jS S.ns (e▸q4)) (fun a ha ø e=>mR.jS ha (e▸q4)) (by simp only[At];exact⟨c,q1,q2,q3,Cd⟩) ?_
  ·obtain⟨o,ho,_⟩:=Cd;exact⟨o,ho⟩
  ·intro j x' k' b' u hj qJ hu
   have cZ:x'≠x:=by
    rintro rfl
    exact hj (S.nodup j i x' k' b' _ _ qJ hi)
   exact hu.map id fun c' z1 z2 z3 z4=>⟨z2,z3,z4.sameBut v9 fun e=>cZ (S.iz x' x c (e▸z1) q1)⟩
 case free=>exact absurd rfl nH
 all_goals exact kR.elim
noncomputable def Hr(P:Pk)(s s':Shared)(hid:List Addr):V->Value->Prop
 | .list l,v=>∃a vs,v= .ref a/\s.heap.get? a=none/\s'.heap.PlainList a vs.toArray/\bd P s'.heap (a::hid) l vs
 | .dict ks l,v=>∃a vs,v= .ref a/\s.heap.get? a=none/\(a==sysModules)=false/\vs.length=ks.length/\s'.heap.DictOf (intKind P.prog P.w) a (ks.zip vs)/\bd P s'.heap (a::hid) l vs
 |_,_=>False
theorem Hr.box{s s':Shared}{hid out:List Addr}{x:V}{v:Value}{L:Addr}(e:Hr P s s' hid x v)(live:cD s.heap hid)(oh:∀a∈out,a∈hid)(Lh:L∈hid):∃a,v= .ref a/\s.heap.get? a=none/\a∉hid/\eP P L s'.heap out (a::hid) x v/\∃o,s'.heap.get? a=some o:=by
 cases x with
 |list l=>
  obtain⟨a,vs,rfl,h1,h2,h3⟩:=e;have hn:=live.not h1;refine⟨a,rfl,h1,hn,?_,?_⟩
  ·exact⟨a,vs,rfl,by simp,fun q=>hn (oh a q),fun q=>hn (q▸Lh),h2,h3⟩
  ·obtain⟨o,ho⟩:=h2;exact⟨_,ho⟩
 |dict ks l=>
  obtain⟨a,vs,rfl,h1,h2,h3,h4,h5⟩:=e;have hn:=live.not h1;refine⟨a,rfl,h1,hn,?_,?_⟩
  ·exact⟨a,vs,rfl,by simp,fun q=>hn (oh a q),fun q=>hn (q▸Lh),h2,h3,h4,h5⟩
  ·obtain⟨o,es,ep,ho,_⟩:=h4;exact⟨_,ho⟩
 |_=>exact e.elim
theorem Hr.dn{s s':Shared}{hid:List Addr}{x:V}{v:Value}(e:Hr P s s' hid x v)(live:cD s.heap hid):Dn P s'.heap hid x v:=by
 cases x with
 |list l=>
  obtain⟨a,vs,rfl,h1,h2,h3⟩:=e;exact .ofList (live.not h1) h2 (bd.less (P:=P) h3 fun a q=>ge _ q)
 |dict ks l=>
  obtain⟨a,vs,rfl,h1,h2,h3,h4,h5⟩:=e;exact⟨a,vs,rfl,live.not h1,h3,h2,h4,bd.less (P:=P) h5 fun a q=>ge _ q⟩
 |_=>exact e.elim
noncomputable def Hs(P:Pk)(n:Nat)(K:Cx)(e:Expr)(f:ao->Option V):Prop:=
 ∀(A:Around) (env:Env) (out hid:List Addr) (m:Str->Option Value) (B s:Shared) (ρ:ao) (x:V) (E:Value->Shared->Prop),cJ n A->aU P K env out hid m B s ρ->f ρ=some x->
  wpAny (model P.prog P.w) A (eval e env) (fun v s'=>Kp s s'/\Hr P s s' hid x v) E s
theorem fQ{e f}(h:Hs P n K e f):em P n K lo e f:=fun A env out hid m B s ρ x E r S hf=>
 aD (h A env out hid m B s ρ x E r S hf) (fun v s' q=>⟨q.1,by
  have:=Hr.dn (P:=P) q.2 S.live;cases lo
  ·exact this
  ·exact this.less S.oh⟩) fun ø ø q=>q
inductive Fl where
 |next|brk|cont
 |ret (x:V)
noncomputable def Rp(P:Pk)(h:Heap)(out:List Addr):Fl->Flow->Prop
 | .next,f=>f= .next
 | .brk,f=>f= .brk
 | .cont,f=>f= .cont
 | .ret x,f=>∃v,f= .ret v/\Dn P h out x v
inductive Hc(P:Pk)(K:Cx)(env:Env)(out hid:List Addr)(B s s':Shared)(aQ:ao)(fl:Fl)(dG:Flow):Prop
 |mk (ar:List Addr) (m':Str->Option Value) (S:aU P K env out ar m' B s' aQ) (k:Ks out hid ar s s') (f:Rp P s'.heap out fl dG):Hc P K env out hid B s s' aQ fl dG
theorem Hc.pre{env:Env}{out hid du:List Addr}{B s s₁ s':Shared}{aQ:ao}{fl:Fl}{dG:Flow}(q:Hc P K env out du B s₁ s' aQ fl dG)(k:Ks out hid du s s₁):Hc P K env out hid B s s' aQ fl dG:=by
 obtain⟨a,b,c,d,e⟩:=q;exact⟨a,b,c,k.trans d,e⟩
noncomputable def zQ(P:Pk)(n:Nat)(K:Cx)(st:Stmt)(f:ao->Option (ao×Fl)):Prop:=
 ∀(A:Around) (env:Env) (out hid:List Addr) (m:Str->Option Value) (B s:Shared) (ρ aQ:ao) (fl:Fl) (E:Value->Shared->Prop),cJ n A->aU P K env out hid m B s ρ->f ρ=some (aQ,fl)->
  wpAny (model P.prog P.w) A (exec st env) (fun dG s'=>Hc P K env out hid B s s' aQ fl dG) E s
noncomputable def oo(P:Pk)(n:Nat)(K:Cx)(st:List Stmt)(f:ao->Option (ao×Fl)):Prop:=
 ∀(A:Around) (env:Env) (out hid:List Addr) (m:Str->Option Value) (B s:Shared) (ρ aQ:ao) (fl:Fl) (E:Value->Shared->Prop),cJ n A->aU P K env out hid m B s ρ->f ρ=some (aQ,fl)->
  wpAny (model P.prog P.w) A (execs st env) (fun dG s'=>Hc P K env out hid B s s' aQ fl dG) E s
theorem ai:oo P n K [] fun ρ=>some (ρ,.next):=fun A env out hid m B s ρ aQ fl E r S hf=>by
 cases hf;exact wpAny_execs_nil ⟨hid,m,S,.refl ..,rfl⟩
noncomputable def eW(f g:ao->Option (ao×Fl)):ao->Option (ao×Fl):=fun ρ=>(f ρ).bind fun r=>match r.2 with
 | .next=>g r.1
 |fl=>some (r.1,fl)
theorem af{st:Stmt}{rest:List Stmt}{f g}(h:zQ P n K st f)(hr:oo P n K rest g):oo P n K (st::rest) (eW f g):=fun A env out hid m B s ρ aQ fl E r S hf=>by
 refine ak hf ?_;clear hf;rintro⟨am,Nv⟩ h1 hf;refine tt (aD (h A env out hid m B s ρ am Nv E r S h1) (fun dG s₁ q=>?_) fun ø ø q=>q);obtain⟨du,m₁,bC,jl,pT⟩:=q;cases Nv<;>dsimp only at hf
 ·obtain rfl:=pT
  exact aD (hr A env out du m₁ B s₁ am aQ fl E r bC hf) (fun dG s₂ q=>q.pre jl) fun ø ø q=>q
 ·cases hf;obtain rfl:=pT;exact⟨du,m₁,bC,jl,rfl⟩
 ·cases hf;obtain rfl:=pT;exact⟨du,m₁,bC,jl,rfl⟩
 ·cases hf;obtain⟨v,rfl,hv⟩:=pT;exact⟨du,m₁,bC,jl,v,rfl,hv⟩
theorem wU{pos}:zQ P n K (.Break pos) fun ρ=>some (ρ,.brk):=fun A env out hid m B s ρ aQ fl E r S hf=>by
 cases hf;exact wpAny_Break ⟨hid,m,S,.refl ..,rfl⟩
theorem aW{e pos f}(h:em P n K true e f):zQ P n K (.Return (some e) pos) fun ρ=>(f ρ).map fun x=>(ρ,.ret x):=fun A env out hid m B s ρ aQ fl E r S hf=>by
 refine cI hf fun x hx e=>?_
 clear hf
 first|refine pair_inv e ?_;clear e|cases e
 exact wpAny_Return_some (aD (h A env out hid m B s ρ x E r S hx) (fun v s₁ q=>⟨hid,m,S.after q.1,.iI q.1,v,rfl,q.2⟩) fun ø ø q=>q)
theorem aN{t a b pos c f g}(ht:se P n K t c)(ha:oo P n K a f)(hb:oo P n K b g):zQ P n K (.If t a b pos) (fun ρ=>(c ρ).bind fun z=>if z then f ρ else g ρ):=fun A env out hid m B s ρ aQ fl E r S hf=>by
 refine ak hf fun z hz gu=>?_
 clear hf;rename _=>hf
 refine wpAny_If (aD (ht A env out hid m B s ρ z E r S hz) (fun z' s₁ aj=>?_) fun ø ø q=>q);rw[aj.2];have bC:=S.after aj.1;cases z
 ·simp only[kC,gX]at hf ⊢
  exact aD (hb A env out hid m B s₁ ρ aQ fl E r bC hf) (fun dG s₂ q=>q.pre (Ks.iI aj.1)) fun ø ø q=>q
 ·simp only[jL]at hf ⊢
  exact aD (ha A env out hid m B s₁ ρ aQ fl E r bC hf) (fun dG s₂ q=>q.pre (Ks.iI aj.1)) fun ø ø q=>q
theorem aI(i:Nat){x:Str}{k:NameKind}{p pos:Pos}{e:Expr}{f}(hi:K.vars[i]?=some (x,k,false))(nH:k≠ .free)(h:em P n K false e f)(hs:∀env,env.kindOf x=some k->swapsWith e (some (.Name x p)) pos.line env=pure false):
  zQ P n K (.Assign [.Name x p] e pos) fun ρ=>(f ρ).map fun y=>(upd ρ i y,.next):=fun A env out hid m B s ρ aQ fl E r S hf=>by
 refine cI hf fun y hy e=>?_
 clear hf
 first|refine pair_inv e ?_;clear e|cases e
 refine qQ (aD (h A env out hid m B s ρ y E r S hy) (fun v s₁ aj=>?_) fun ø ø q=>q) (hs env (S.kind i x k _ hi));exact(S.after aj.1).store hi aj.2 (fun q=>by cases q) nH fun m' s' S' K' ø=>⟨hid,m',S',(Ks.iI aj.1).trans K',rfl⟩
theorem fV(i:Nat){x:Str}{k:NameKind}{p pos:Pos}{e:Expr}{f}(hi:K.vars[i]?=some (x,k,true))(nH:k≠ .free)(h:Hs P n K e f)(hs:∀env,env.kindOf x=some k->swapsWith e (some (.Name x p)) pos.line env=pure false):
  zQ P n K (.Assign [.Name x p] e pos) fun ρ=>(f ρ).map fun y=>(upd ρ i y,.next):=fun A env out hid m B s ρ aQ fl E r S hf=>by
 refine cI hf fun y hy e=>?_
 clear hf
 first|refine pair_inv e ?_;clear e|cases e
 refine qQ (aD (h A env out hid m B s ρ y E r S hy) (fun v s₁ aj=>?_) fun ø ø q=>q) (hs env (S.kind i x k _ hi));obtain⟨a,rfl,ha,hah,OE,K5⟩:=Hr.box (P:=P) (out:=out) (L:=env.locals) aj.2 S.live S.oh S.Lh;have new:∀b∈a::hid,b∈hid\/s.heap.get? b=none:=fun b hb=>(bI.mp hb).elim (fun q=>.inr (q▸ha)) .inl
 have live:cD s₁.heap (a::hid):=fun b hb=>(bI.mp hb).elim (fun q=>q▸K5) (S.live.kp aj.1 b)
 have bC:=S.grow aj.1 (fun b q=>ge _ q) new live;refine bC.store hi OE (fun ø j x' k' a' hj qJ e kR=>?_) nH fun m' s' S' K' ø=>⟨a::hid,m',S',?_,rfl⟩
 ·cases e
  obtain⟨ov,q1,q2⟩:=S.slot j x' k' true qJ;have:=At.back kR q1 fun c v q=>q.keeps aj.1.keep
  subst this
  cases er:ρ j with
  |none=>rfl
  |some z=>
   rw[er]at q2;obtain⟨u,e,q2⟩:=q2;cases e;obtain⟨Y8,e,z1,_⟩:=eP.addr (P:=P) q2;cases e;exact absurd z1 hah
 ·exact⟨fun b o hb q=>K'.keep b o (hb.imp (fun z hm=>(bI.mp hm).elim (fun w=>by rw[w,ha]at q;cases q) z) id) (aj.1.keep b o q),new,fun b q=>ge _ q,aj.1.gens.trans K'.gens,K'.os.trans aj.1.os⟩
end
section
variable{P:Pk}{n:Nat}{K:Cx}{lo:Bool}
theorem bW{M:Model}{A:Around}{E:Value->Shared->Prop}{s:Shared}{f:Value}{l:List (Bool×Sem Value)}{Q:Args->Shared->Prop}(hp:l.any (·.1)=false)
  (h:wpAny M A (spliced l) (fun vs s'=>Q ⟨vs,[]⟩ s') E s):wpAny M A (evalArgs f true l []) Q E s:=by
 cases l with
 |cons a l=>
  obtain⟨b,x⟩:=a;cases b
  ·exact Calls.evalArgs_plain h
  ·simp at hp
 |nil=>
  unfold evalArgs;show wpAny M A (spliced []>>= _) Q E s;refine aA (aD h (fun vs s' h'=>?_) fun ø ø x=>x);refine gH ?_;exact aA (bK (aA (bK (bK h'))))
theorem aU.mut{env:Env}{out hid:List Addr}{m:Str->Option Value}{B s s':Shared}{ρ:ao}(S:aU P K env out hid m B s ρ){i:Nat}{x:Str}{k:NameKind}(hi:K.vars[i]?=some (x,k,true)){y y':V}{a:Addr}
  (kR:At env m s.heap out hid x k (some (.ref a))) (hy:ρ i=some y) (hb:eP P env.locals s.heap out hid y (.ref a)) (hs:∀b o,b≠a->s.heap.get? b=some o->s'.heap.get? b=some o) (hg:GX s.gens s'.gens) (Nu:s'.os=s.os)
  (Vf:eP P env.locals s'.heap out hid y' (.ref a)):aU P K env out hid m B s' (upd ρ i y')/\Ks out hid hid s s':=by
 obtain⟨WB,e,h1,h2,h3,h4⟩:=eP.addr (P:=P) hb;cases e;obtain⟨WB,e,_,_,_,h4'⟩:=eP.addr (P:=P) Vf;cases e;have sf:∀c v,s.heap.IsCell c v->s'.heap.IsCell c v:=fun c v q=>by
  obtain⟨o,ho,hd⟩:=id q;exact⟨o,hs c o (fun e=>mR.jS h4 (e▸q)) ho,hd⟩
 have zP:s'.heap.Ns env.locals m:=by
  obtain⟨o,es,ep,ho,hr⟩:=S.ns;exact⟨o,es,ep,hs _ o (ft h3) ho,hr⟩
 have Rm:∀x' k' u,At env m s.heap out hid x' k' u->At env m s'.heap out hid x' k' u:=fun x' k' u q=>q.grow sf fun ø z=>z
 refine S.fill (m':=m) (s':=s') hi (v:=.ref a) h1 h2 hs hg Nu (fun ø q=>q) (fun ø q=>.inl q) (S.live.extBut hs ?_) zP ?_ (Rm _ _ _ kR) (fun j x' k' b' u ø ø q=>Rm _ _ _ q) Vf ?_
 ·obtain⟨o,ho,_⟩:=h4';exact⟨o,ho⟩
 ·intro j x' k' z a' hj qJ hz Fw Ve e
  subst e;rcases S.apart j i x' x k' k a' hj qJ hi Fw kR with q|q
  ·rw[hz]at q;cases q
  ·rw[hy]at q;cases q
 ·intro _ j x' k' a' hj qJ e Fw
  cases e;rcases S.apart j i x' x k' k a hj qJ hi Fw kR with q|q
  ·exact q
  ·rw[hy]at q;cases q
inductive Vg(P:Pk)(K:Cx)(env:Env)(out hid:List Addr)(B s s':Shared)(aQ:ao)(x:V)(v:Value):Prop
 |mk (ar:List Addr) (m':Str->Option Value) (S:aU P K env out ar m' B s' aQ) (k:Ks out hid ar s s') (f:Dn P s'.heap ar x v):Vg P K env out hid B s s' aQ x v
noncomputable def R8(P:Pk)(n:Nat)(K:Cx)(e:Expr)(f:ao->Option (ao×V)):Prop:=
 ∀(A:Around) (env:Env) (out hid:List Addr) (m:Str->Option Value) (B s:Shared) (ρ aQ:ao) (x:V) (E:Value->Shared->Prop),cJ n A->aU P K env out hid m B s ρ->f ρ=some (aQ,x)->
  wpAny (model P.prog P.w) A (eval e env) (fun v s'=>Vg P K env out hid B s s' aQ x v) E s
inductive Y9(P:Pk)(name:Str)(s:Shared)(L:Addr)(out hid:List Addr)(y:V)(v:Value)(xs:List V)(y' r:V):Prop
 |mk (T id:String) (p:PlainAttrs T) (sl:Slot T name id) (t:typeOf (.builtin id)=pure (.type "method_descriptor")) (ty:s.TypeIs v T) (nd:∀a,v= .ref a->∃ob,s.heap.get? a=some ob/\ob.dict=none)
  (h:∀(A:Around) (s₁:Shared) (vs:List Value) (E:Value->Shared->Prop),cJ 0 A->P.G s₁.heap->cD s₁.heap hid->eP P L s₁.heap out hid y v->bd P s₁.heap hid xs vs->
   wpAny (model P.prog P.w) A (call (.builtin id) (v::vs)) (fun u s'=>(∀a,v= .ref a->∀b o,b≠a->s₁.heap.get? b=some o->s'.heap.get? b=some o)/\GX s₁.gens s'.gens/\s'.os=s₁.os/\eP P L s'.heap out hid y' v/\Dn P s'.heap hid r u) E s₁):Y9 P name s L out hid y v xs y' r
noncomputable def Ht(P:Pk)(name:Str)(F:V->List V->Option (V×V)):Prop:=
 ∀(s:Shared) (L:Addr) (out hid:List Addr) (y:V) (v:Value) (xs:List V) (y' r:V),eP P L s.heap out hid y v->F y xs=some (y',r)->Y9 P name s L out hid y v xs y' r
noncomputable def oV(F:V->List V->Option (V×V))(i:Nat)(g:ao->Option (List V)):ao->Option (ao×V):=fun ρ=>(ρ i).bind fun y=>(g ρ).bind fun xs=>(F y xs).map fun r=>(upd ρ i r.1,r.2)
theorem nI{args:List Expr}{pos:Pos}{env:Env}(ee:(backTo pos (starEach args env)).any (·.1)=false)(cZ:args.length<20):((backTo pos (starEach args env)).all (fun x=>!x.1)&&(backToKw pos (keywordEach [] env)).all (fun x=>x.1.isSome)
  &&decide (args.length+([]:List Keyword).length+(if([]:List Keyword).isEmpty then 0 else 1)<30))=true:=by
 have h1:(backTo pos (starEach args env)).all (fun x=>!x.1)=true:=by
  rw[cH];intro q hq;have:=List.any_eq_false.mp ee q hq;simpa using this
 rw[h1];show(true&&true&&decide (args.length+0+0<30))=true;exact bo (show args.length+0+0<30 from Nat.lt_trans cZ (by decide))
theorem eF(i:Nat){x:Str}{k:NameKind}{p apos pos:Pos}{name:Str}{args:List Expr}{F g}(hi:K.vars[i]?=some (x,k,true))(hd:(x==("__debug__":Str))=false)(hc:(x==("__classdict__":Str))=false)
  (hm:Ht P name F) (ha:j7 P n K false args g) (iS:∀env,starEach args env=args.map fun e=>(false,eval e env)) (cZ:args.length<20) (pU:(apos.endLine==pos.line)=true) (pV:∀env,attributeBase (.Name x p) name env (eval (.Name x p) env)=eval (.Name x p) env):
  R8 P n K (.Call (.Attribute (.Name x p) name apos) args [] pos) (oV F i g):=fun A env out hid m B s ρ aQ z E r S hf=>by
 refine ak hf fun y hy gu=>?_
 clear hf;rename _=>hf
 refine ak hf fun xs x7 gu=>?_
 clear hf;rename _=>hf
 refine cI hf ?_;clear hf;rintro⟨y',r'⟩ hF hf;cases hf;have ee:(backTo pos (starEach args env)).any (·.1)=false:=ct iS;refine xB (pV env) (nI ee cZ) pU ?_;refine fM (S.load hi hy hd hc fun v hv kR=>?_) hd;rw[aw rfl]at hv;obtain⟨T,id,c1,c2,c3,c4,c5,c6⟩:=hm s env.locals out hid y v xs y' r' hv hF;refine⟨T,id,c1,c2,c3,c4,c5,tq ee ?_⟩;obtain⟨a,rfl,h1,h2,h3,h4⟩:=eP.addr (P:=P) hv;have key:=ha A env out hid m B s ρ xs E pos r S x7;have fin:∀vs s₁,(Kp s s₁/\bd P s₁.heap hid xs vs)->wpAny (model P.prog P.w) A (call (.builtin id) ([Value.ref a]++vs) []) (fun v s'=>Vg P K env out hid B s s' (upd ρ i y') r' v) E s₁:=by
  intro vs s₁ aj;have bC:=S.after aj.1;have t9:eP P env.locals s₁.heap out hid y (.ref a):=eP.grow (P:=P) hv aj.1.keep (fun ø q=>q) fun ø q=>.inl q
  have OF:At env m s₁.heap out hid x k (some (.ref a)):=kR.grow (fun c v q=>q.keeps aj.1.keep) fun ø q=>q
  refine aD (c6 A s₁ vs E (r.less (eK _)) bC.G bC.live t9 aj.2) (fun u s' q=>?_) fun ø ø q=>q
  obtain⟨q1,q2,q3,q4,q5⟩:=q;obtain⟨z1,z2⟩:=bC.mut hi OF hy t9 (q1 a rfl) q2 q3 q4;exact⟨hid,m,z1,(Ks.iI aj.1).trans z2,q5⟩
 exact bW ee (aD key fin fun ø ø q=>q)
theorem eG{e:Expr}{pos:Pos}{f}(h:R8 P n K e f)(hi:∀ρ r,f ρ=some r->r.2= .none)(hs:∀env,swapsWith e none pos.line env=pure false):zQ P n K (.Expr e pos) (fun ρ=>(f ρ).map fun r=>(r.1,.next)):=fun A env out hid m B s ρ aQ fl E r S hf=>by
 refine cI hf ?_;clear hf;rintro⟨am,x⟩ hx e;cases e;have hn:x= .none:=hi _ _ hx;subst hn;refine wpAny_Expr (aD (h A env out hid m B s ρ am .none E r S hx) (fun v s₁ q=>?_) fun ø ø q=>q) ?_ (hs env)
 ·obtain⟨ar,m',S',K',hv⟩:=q
  obtain rfl:=hv.none_inv;exact⟨ar,m',S',K',rfl⟩
 ·unfold interactive;simp[S.fn]
end
section
variable{P:Pk}{n:Nat}{K:Cx}{lo:Bool}
theorem eP.cK{L h out hid l v}(e:eP P L h out hid (.list l) v):∃a vs,v= .ref a/\a∈hid/\a∉out/\a≠L/\h.PlainList a vs.toArray/\bd P h hid l vs:=e
theorem eP.ofList{L h out hid l a vs}(h1:a∈hid)(h2:a∉out)(h3:a≠L)(h4:h.PlainList a vs.toArray)(h5:bd P h hid l vs):eP P L h out hid (.list l) (.ref a):=⟨a,vs,rfl,h1,h2,h3,h4,h5⟩
theorem eP.kO{L h out hid ks l v}(e:eP P L h out hid (.dict ks l) v):∃a vs,v= .ref a/\a∈hid/\a∉out/\a≠L/\(a==sysModules)=false/\vs.length=ks.length/\h.DictOf (intKind P.prog P.w) a (ks.zip vs)/\bd P h hid l vs:=e
theorem bd.cons_inv{h:Heap}{hid x xs vs}(e:bd P h hid (x::xs) vs):∃v r,vs=v::r/\Dn P h hid x v/\bd P h hid xs r:=e
theorem bd.nil_inv{h:Heap}{hid vs}(e:bd P h hid [] vs):vs=[]:=e
theorem bd.but{h h':Heap}{hid l vs}{a:Addr}(e:bd P h hid l vs)(ha:a∈hid)(hs:Heap.SameBut a h h'):bd P h' hid l vs:=e.grow (fun b o hb q=>(hs.2 b fun z=>hb (z▸ha)).trans q) fun ø q=>.inl q
theorem Dn.but{h h':Heap}{hid l vs}{a:Addr}(e:Dn P h hid l vs)(ha:a∈hid)(hs:Heap.SameBut a h h'):Dn P h' hid l vs:=e.grow (fun b o hb q=>(hs.2 b fun z=>hb (z▸ha)).trans q) fun ø q=>.inl q
theorem lR{h:Heap}{a:Addr}{xs ys:Array Value}{k:Nat}{f:Array Value->Array Value}(e:h.get? a=some {cls:=.type "list",data:=.seq xs k})(hf:f xs=ys):(h.update a (Obj.mapSeq f)).PlainList a ys:=by
 subst hf;refine⟨if(f xs).size==xs.size then k else k+1,?_⟩;have:Obj.mapSeq f {cls:=.type "list",data:=.seq xs k}={cls:=.type "list",data:=.seq (f xs) (if(f xs).size==xs.size then k else k+1)}:=rfl;rw[kJ _ e (by rw[this];rfl),this]
theorem CP{name:Str}{id:String}{F:V->List V->Option (V×V)}(hF0:∀y xs r,F y xs=some r->∃l,y= .list l)(slot:Slot "list" name id)(Vh:typeOf (.builtin id)=pure (.type "method_descriptor"))
  (h:∀(A:Around) (s:Shared) (hid:List Addr) (a:Addr) (l:List V) (ws vs:List Value) (xs:List V) (l' r:V) (E:Value->Shared->Prop),cJ 0 A->a∈hid->s.heap.PlainList a ws.toArray->bd P s.heap hid l ws->bd P s.heap hid xs vs->F (.list l) xs=some (l',r)->
   wpAny (model P.prog P.w) A (call (.builtin id) (.ref a::vs)) (fun u s'=>Heap.SameBut a s.heap s'.heap/\GX s.gens s'.gens/\s'.os=s.os/\(∃l₂ OG,l'= .list l₂/\s'.heap.PlainList a OG.toArray/\bd P s'.heap hid l₂ OG)/\Dn P s'.heap hid r u) E s):Ht P name F:=
 fun s L out hid y v xs y' r hb hF=>by
 obtain⟨l,rfl⟩:=hF0 _ _ _ hF;obtain⟨a,vs,rfl,h1,h2,h3,h4,h5⟩:=eP.cK hb;refine⟨"list",id,Ck,slot,Vh,h4.isList.typeIs,fun b e=>?_,fun A s₁ v8 E rm G live hb hx=>?_⟩
 ·cases e;obtain⟨k,e⟩:=h4;exact⟨_,e,rfl⟩
 ·obtain⟨a',ws,e,c1,c2,c3,c4,c5⟩:=eP.cK hb
  cases e;refine aD (h A s₁ hid a l ws v8 xs y' r E rm c1 c4 c5 hx hF) (fun u s' q=>?_) fun ø ø q=>q
  obtain⟨q1,q2,q3,⟨l₂,OG,rfl,q4,q5⟩,q6⟩:=q;exact⟨fun b e c o cZ z=>by cases e;exact(q1.2 c cZ).trans z,q2,q3,eP.ofList c1 c2 c3 q4 q5,q6⟩
theorem ua{y:V}{γ:Type}{f:List V->Option γ}{r:γ}(h:y.gm.bind f=some r):∃l,y= .list l:=ak h fun l hl ø=>⟨l,V.eO hl⟩
noncomputable def V.one?:List V->Option V
 |[x]=>some x
 |_=>Option.none
theorem V.jm:∀{xs:List V} {x},V.one? xs=some x->xs=[x]
 |[_],_,h=>congrArg (fun x=>[x]) (Option.some.inj h)
 |[],_,h|_::_::_,_,h=>nomatch h
noncomputable def Fy(y:V)(xs:List V):Option (V×V):=y.gm.bind fun l=>(V.one? xs).bind fun x=>if l.length<most then some (.list (l++[x]),.none)else none
theorem Lp(l:List V)(x:V):Fy (.list l) [x]=if l.length<most then some (.list (l++[x]),.none)else none:=id rfl
theorem ub:Ht P "append" Fy:=CP (id:="list.append") (fun y xs r h=>ua h) PySem.F.slot_list_append PySem.F.type_list_append fun A s hid a l ws vs xs l' r E rm ha hl hd hx hF=>
 ak (o:=V.one? xs) hF fun x R9 hF=>eR hF fun hlen e=>by
 cases V.jm R9;obtain⟨rfl,rfl⟩:=mG e;refine hx.one_k fun u hu=>?_
 refine wpAny_list_append_plain hl (fun h' lS hs=>⟨hs,.refl _,rfl,⟨_,ws++[u],rfl,by simpa using lS,(bd.but hd ha hs).app (.one (Dn.but hu ha hs))⟩,.t8⟩) ?_;rw[cb,hd.length];exact az (dU hlen) cR
theorem bd.erase{h:Heap}{hid}:∀{l:List V} {ws:List Value} (k:Nat),bd P h hid l ws->bd P h hid (l.eraseIdx k) (ws.eraseIdx k)
 |[],ws,k,e=>by obtain rfl:=bd.nil_inv e;simpa using e
 |x::l,ws,0,e=>by
  obtain⟨v,r,rfl,h1,h2⟩:=bd.cons_inv e;simpa using h2
 |x::l,ws,k+1,e=>by
  obtain⟨v,r,rfl,h1,h2⟩:=bd.cons_inv e;simp only[List.eraseIdx_cons_succ];exact .cons h1 (bd.erase k h2)
theorem wV(ws:List Value)(k:Nat):ws.toArray.eraseIdxIfInBounds k=(ws.eraseIdx k).toArray:=by
 simp
noncomputable def g8(i:Int)(n:Nat):Option Nat:=if 0<=i then(if i<n then some i.toNat else none)else if 0<=i+n then some (i+n).toNat else none
noncomputable def Sa(l:List V):List V->Option (V×V)
 |[]=>l.getLast?.bind fun x=>if l.length<=most then some (.list l.dropLast,x)else none
 |[y]=>y.int?.bind fun i=>(g8 i l.length).bind fun k=>l[k]?.bind fun x=>if l.length<=most then some (.list (l.eraseIdx k),x)else none
 |_=>none
noncomputable def OH(y:V)(xs:List V):Option (V×V):=y.gm.bind fun l=>Sa l xs
theorem OI(l:List V):OH (.list l) []=l.getLast?.bind fun x=>if l.length<=most then some (.list l.dropLast,x)else none:=id rfl
theorem zY{i:Int}{n k:Nat}(h:g8 i n=some k)(hn:n<=1000000):seqIndex? i n=some k/\Builtin.List.listFitsIndex i=true:=by
 unfold g8 at h;unfold seqIndex? Builtin.List.listFitsIndex;by_cases h0:0<=i
 ·rw[aw h0]at h
  refine eR h fun h1 e=>?_
  subst e;clear h;simp[show ¬i<0 by omega];omega
 ·rw[au h0]at h
  refine eR h fun h1 e=>?_
  subst e;clear h;simp[show i<0 by omega];omega
theorem Sb:Ht P "pop" OH:=CP (id:="list.pop") (fun y xs r h=>ua h) Cl PySem.F.type_list_pop fun A s hid a l ws vs xs l' r E rm ha hl hd hx hF=>by
 obtain⟨e0,Nw⟩:=id hl;have hlen:=hd.length;replace hF:Sa l xs=some (l',r):=hF
 cases xs with
 |nil=>
  obtain rfl:=bd.nil_inv hx;refine ak hF fun x hg hF=>eR hF fun hle e=>?_
  obtain⟨rfl,rfl⟩:=mG e;clear hF hx;have cZ:l≠[]:=by rintro rfl;simp at hg
  have CQ:l[l.length-1]?=some x:=by rw[<-List.getLast?_eq_getElem?];exact hg
  obtain⟨v,hv,OJ⟩:=bq.get hd CQ;have Hu:0<l.length:=tu.mpr cZ;refine qN Cl hl.isList.typeIs PySem.F.entry_list_pop (PySem.F.args_list_pop_1 _) (PySem.MeetsSeq.list_pop_last a ws.toArray e0 v (by simpa[hlen]using hv) (by rw[cb,hlen];exact az hle cR)) ⟨Nw,?_⟩;have hs:Heap.SameBut a s.heap (s.heap.update a (Obj.mapSeq fun xs=>xs.eraseIdxIfInBounds (ws.toArray.size-1))):=oK ..;refine⟨hs,.refl _,rfl,⟨_,ws.eraseIdx (ws.length-1),rfl,lR Nw (by rw[cb,wV]),?_⟩,Dn.but OJ ha hs⟩;have:=bd.but (bd.erase (ws.length-1) hd) ha hs;rw[hlen]at this ⊢;rwa[List.eraseIdx_eq_dropLast (xC Hu)]at this
 |cons y xs=>cases xs with
  |cons _ _=>cases hF
  |nil=>
   refine ak hF fun i hi hF=>ak hF fun k hp hF=>ak hF fun x hg hF=>eR hF fun hle e=>?_
   obtain⟨rfl,rfl⟩:=mG e;refine hx.one_k fun u hu=>hu.int_k hi fun t=>?_
   obtain⟨v,hv,OJ⟩:=bq.get hd hg;have Za:=zY hp (az hle (bL 1000000));refine qN Cl hl.isList.typeIs PySem.F.entry_list_pop (PySem.F.args_list_pop_2 _ _) (PySem.MeetsSeq.list_pop_at a ws.toArray e0 i t k v Za.2 (by rw[cb,hlen];exact Za.1) (by simpa using hv) (by rw[cb,hlen];exact az hle cR)) ⟨Nw,?_⟩;have hs:Heap.SameBut a s.heap (s.heap.update a (Obj.mapSeq fun xs=>xs.eraseIdxIfInBounds k)):=oK ..;exact⟨hs,.refl _,rfl,⟨_,ws.eraseIdx k,rfl,lR Nw (wV ..),bd.but (bd.erase k hd) ha hs⟩,Dn.but OJ ha hs⟩
noncomputable def V.OK:List V->Option (V×V)
 |[x,y]=>some (x,y)
 |_=>Option.none
theorem V.Hv:∀{xs:List V} {x},V.OK xs=some x->xs=[x.1,x.2]
 |[_,_],_,h=>congrArg (fun x=>[x.1,x.2]) (Option.some.inj h)
 |[],_,h|[_],_,h|_::_::_::_,_,h=>nomatch h
noncomputable def Lq(y:V)(xs:List V):Option (V×V):=y.gm.bind fun l=>(V.OK xs).bind fun p=>p.1.int?.bind fun i=>if 0<=i/\i<=1000/\l.length<most then some (.list (l.insertIdx (min i.toNat l.length) p.2),.none)else none
theorem OL(l:List V)(i:Int)(x:V):Lq (.list l) [.int i,x]=if 0<=i/\i<=1000/\l.length<most then some (.list (l.insertIdx (min i.toNat l.length) x),.none)else none:=id rfl
theorem bd.insert{h:Heap}{hid}{x:V}{v:Value}(hx:Dn P h hid x v):∀{l:List V} {ws:List Value} (k:Nat),k<=l.length->bd P h hid l ws->bd P h hid (l.insertIdx k x) (ws.take k++v::ws.drop k)
 |l,ws,0,_,e=>by simpa using bq.cons hx e
 |[],ws,k+1,hk,e=>by simp at hk
 |y::l,ws,k+1,hk,e=>by
  obtain⟨u,r,rfl,h1,h2⟩:=bd.cons_inv e;simp only[List.insertIdx_succ_cons,List.take_succ_cons,List.drop_succ_cons,List.cons_append];exact .cons h1 (bd.insert hx k (by simpa using hk) h2)
theorem Sc:Ht P "insert" Lq:=CP (id:="list.insert") (fun y xs r h=>ua h) PySem.F.slot_list_insert PySem.F.type_list_insert fun A s hid a l ws vs xs l' r E rm ha hl hd hx hF=>
 ak (o:=V.OK xs) hF fun p hp hF=>ak hF fun i hi hF=>eR hF fun hc e=>by
 cases V.Hv hp;obtain⟨rfl,rfl⟩:=mG e;obtain⟨e0,Nw⟩:=id hl;have hlen:=hd.length;refine hx.two_k fun u u' hu hu'=>hu.int_k hi fun t=>?_
 clear hx hF hp hu;refine qN PySem.F.slot_list_insert hl.isList.typeIs PySem.F.entry_list_insert (PySem.F.args_list_insert_3 _ _ _) (AutoSeq1.list_insert_list_int_val_1 a ws.toArray e0 i t u' (by unfold Builtin.List.listFitsIndex;have:=hc.1;have:=hc.2.1;clear hd Nw hl;simp;omega) (by rw[cb,hlen];exact az (dU hc.2.2) cR)) ⟨Nw,?_⟩;have hs:∀f,Heap.SameBut a s.heap (s.heap.update a (Obj.mapSeq f)):=fun f=>oK ..
 refine⟨hs _,.refl _,rfl,⟨_,ws.take (min i.toNat l.length)++u'::ws.drop (min i.toNat l.length),rfl,lR Nw ?_,?_⟩,.t8⟩
 ·dsimp only
  rw[au (Int.not_lt.mpr hc.1),cb,hlen];apply Array.toList_inj.mp;simp;rw[qR (by simp[hlen])]
 ·exact bd.but (bd.insert hu' _ (Nat.min_le_right _ _) hd) ha (hs _)
end
section
variable{P:Pk}{n:Nat}{K:Cx}{lo:Bool}
structure Mv0(W:List Addr)(gi:Option Nat)(s s':Shared):Prop where
 keep:∀b o,b∉W->s.heap.get? b=some o->s'.heap.get? b=some o
 gens:∀(i:Nat) x,gi≠some i->s.gens[i]?=some x->s'.gens[i]?=some x
 bare:AllBare s.gens->AllBare s'.gens
 os:s'.os=s.os
structure Mv(W:List Addr)(gi:Option Nat)(s s':Shared):Prop extends Mv0 W gi s s' where
 live:cD s'.heap W
noncomputable def owners:List String:=["enumerate","zip","dict_itemiterator","dict_reverseitemiterator","odict_iterator","itertools.zip_longest","itertools.pairwise"]
noncomputable def Quiet(s:Shared)(I:Addr):Prop:=∃o T,s.heap.get? I=some o/\o.cls= .type T/\owners.contains T=false
inductive Sd(P:Pk)(hid:List Addr)(x:V)(St:List Addr->Nat->Shared->Prop)(i:Nat)(I:Addr)(W:List Addr)(gi:Option Nat)(s s':Shared)(r:Option Value):Prop
 |mk (v:Value) (e:r=some v) (d:Dn P s'.heap hid x v) (st:St hid i s') (q:Quiet s' I) (mv:Mv W gi s s'):Sd P hid x St i I W gi s s' r
structure rl(P:Pk)(A:Around)(I:Addr)(W:List Addr)(gi:Option Nat)(xs:List V)(St:List Addr->Nat->Shared->Prop):Prop where
 frame:∀hid ar i s s',(∀a∈W,a∈hid)->St hid i s->Ks W hid ar s s'->St ar i s'
 self:∀hid i s (Q:Value->Shared->Prop) (E:Value->Shared->Prop),St hid i s->Q (.ref I) s->wpAny (model P.prog P.w) A (pyIter (.ref I)) Q E s
 item:∀hid i s x (E:Value->Shared->Prop),xs[i]?=some x->(∀a∈W,a∈hid)->P.G s.heap->cD s.heap hid->St hid i s->
  wpAny (model P.prog P.w) A (pyNext (.ref I)) (fun r s'=>Sd P hid x St (i+1) I W gi s s' r) E s
 done:∀hid s (E:Value->Shared->Prop),(∀a∈W,a∈hid)->P.G s.heap->cD s.heap hid->St hid xs.length s->wpAny (model P.prog P.w) A (pyNext (.ref I)) (fun r s'=>r=none/\Mv0 W gi s s') E s
theorem zZ{M:Model}{A:Around}{E:Value->Shared->Prop}{s:Shared}{target:Expr}{I:Addr}{v:Value}{Q:Unit->Shared->Prop}(h:Quiet s I)(hQ:Q () s):wpAny M A (letOwnedTupleGo target (.ref I) v) Q E s:=by
 obtain⟨o,T,ho,hc,hT⟩:=h;unfold letOwnedTupleGo;have aux:wpAny M A (do
   let(.ref r,.ref a):=(Value.ref I,v)|return
   let o <-load r
   match o.cls,o.data with
   | .type n,.fields vs=>
     if owners.contains n&&vs[0]?==some (rawInt a)then
      rule "for.unpacks-the-owned-tuple"
      updateField r 0 .none
   |_,_=>pure ():Sem Unit) Q E s:=by
  cases v<;>try exact bK hQ
  refine aA (wpAny_load ho ?_);rw[hc];cases hd:o.data<;>try exact bK hQ
  dsimp only;rw[hT];exact bK hQ
 cases target<;>first|exact aux|exact bK hQ
inductive Rq(P:Pk)(K:Cx)(lc:Bool)(env:Env)(out hid:List Addr)(B s s':Shared)(aQ:ao):Prop
 |mk (ar:List Addr) (m':Str->Option Value) (S:aU P K env out ar m' B s' aQ) (k:Ks out hid ar s s') (l:lc=true->∀b o,b≠env.locals->s.heap.get? b=some o->s'.heap.get? b=some o):Rq P K lc env out hid B s s' aQ
theorem Rq.pre{lc:Bool}{env:Env}{out hid du:List Addr}{B s s₁ s':Shared}{aQ:ao}(q:Rq P K lc env out du B s₁ s' aQ)(k:Ks out hid du s s₁)(l:lc=true->∀b o,b≠env.locals->s.heap.get? b=some o->s₁.heap.get? b=some o):Rq P K lc env out hid B s s' aQ:=by
 obtain⟨a,b,c,d,e⟩:=q;exact⟨a,b,c,k.trans d,fun h b o hb q=>e h b o hb (l h b o hb q)⟩
noncomputable def En(P:Pk)(K:Cx)(lc:Bool)(t:Expr)(a:ao->V->Option ao):Prop:=
 ∀(A:Around) (env:Env) (out hid:List Addr) (m:Str->Option Value) (B s:Shared) (ρ aQ:ao) (x:V) (v:Value) (E:Value->Shared->Prop),A.handled=none->aU P K env out hid m B s ρ->a ρ x=some aQ->Dn P s.heap hid x v->
  wpAny (model P.prog P.w) A (assign t env v) (fun ø s'=>Rq P K lc env out hid B s s' aQ) E s
theorem aB{lc:Bool}(i:Nat){x:Str}{k:NameKind}{p:Pos}(hi:K.vars[i]?=some (x,k,false))(nH:k≠ .free)(WE:lc=true->k= .local):En P K lc (.Name x p) fun ρ y=>some (upd ρ i y):=fun A env out hid m B s ρ aQ y v E hh S hf hv=>by
 cases hf;exact lz (S.store hi hv (fun q=>by cases q) nH fun m' s' S' K' hl=>⟨hid,m',S',K',fun e=>hl.1 (WE e)⟩)
noncomputable def Hw(P:Pk)(K:Cx)(lc:Bool)(ts:List Expr)(a:ao->List V->Option ao):Prop:=
 ∀(A:Around) (env:Env) (out hid:List Addr) (m:Str->Option Value) (B s:Shared) (ρ aQ:ao) (xs:List V) (vs:List Value) (E:Value->Shared->Prop),A.handled=none->aU P K env out hid m B s ρ->a ρ xs=some aQ->bd P s.heap hid xs vs->
  wpAny (model P.prog P.w) A (assignInOrder (ts.map fun t=>assign t env) vs) (fun ø s'=>Rq P K lc env out hid B s s' aQ) E s
noncomputable def Nx:ao->List V->Option ao:=fun ρ xs=>match xs with|[]=>some ρ|_=>none
noncomputable def Hx(a:ao->V->Option ao)(b:ao->List V->Option ao):ao->List V->Option ao:=fun ρ xs=>match xs with|x::xs=>(a ρ x).bind fun aQ=>b aQ xs|[]=>none
theorem eH{lc:Bool}:Hw P K lc [] Nx:=fun A env out hid m B s ρ aQ xs vs E hh S hf hv=>by
 cases xs with
 |nil=>
  cases hf;obtain rfl:=bd.nil_inv hv;exact wpAny_assignInOrder_none ⟨hid,m,S,.refl ..,fun ø ø ø ø h=>h⟩
 |cons=>cases hf
theorem bh{lc:Bool}{t:Expr}{ts:List Expr}{a b}(h:En P K lc t a)(hs:Hw P K lc ts b):Hw P K lc (t::ts) (Hx a b):=fun A env out hid m B s ρ aQ xs vs E hh S hf hv=>by
 cases xs with
 |nil=>cases hf
 |cons x xs=>
  refine ak hf ?_;rintro am h1 h2;obtain⟨v,r,rfl,hv1,WF⟩:=bd.cons_inv hv;refine wpAny_assignInOrder_more (aD (h A env out hid m B s ρ am x v E hh S h1 hv1) (fun ø s₁ q=>?_) fun ø ø q=>q);obtain⟨du,m₁,bC,jl,WG⟩:=q;exact aD (hs A env out du m₁ B s₁ am aQ xs r E hh bC h2 (WF.ks jl)) (fun ø s₂ q=>q.pre jl WG) fun ø ø q=>q
theorem fj:∀ρ xs aQ,Nx ρ xs=some aQ->xs.length=0:=fun ρ xs aQ h=>by cases xs<;>first|rfl|cases h
theorem bA{a b k}(hb:∀ρ xs aQ,b ρ xs=some aQ->xs.length=k):∀ρ xs aQ,Hx a b ρ xs=some aQ->xs.length=k+1:=fun ρ xs aQ h=>by
 cases xs with
 |nil=>cases h
 |cons x xs=>
  refine ak h ?_;rintro am _ h2;simp[hb _ _ _ h2]
noncomputable def Se(b:ao->List V->Option ao):ao->V->Option ao:=fun ρ x=>x.R3.bind (b ρ)
theorem fk{lc:Bool}{ts:List Expr}{k:Nat}{p:Pos}{b}(h:Hw P K lc ts b)(hl:∀ρ xs aQ,b ρ xs=some aQ->xs.length=ts.length)(he:∀env,assignEach ts env=ts.map fun t=>(false,assign t env)):En P K lc (.Tuple ts k p) (Se b):=
 fun A env out hid m B s ρ aQ x v E hh S hf hv=>by
 refine ak hf fun l lS hf=>?_
 cases V.Hj lS;obtain⟨a,vs,rfl,ha,ht,hd⟩:=hv.oe;refine Cm hh ht.x3 ?_ ?_ fun h' hx=>?_
 ·rw[he,List.length_map,cb,hd.length,hl _ _ _ hf]
 ·rw[he]
  rw[List.findIdx?_eq_none_iff];intro q hq;obtain⟨t,_,rfl⟩:=dt.mp hq;rfl
 ·have e:(assignEach ts env).map (·.2)=ts.map fun t=>assign t env:=by rw[he];simp
  rw[e];have k1:Kp s {s with heap:=h'}:=.heap fun b o q=>hx b o (fun z=>by rw[z,bE]at q;cases q) q
  refine aD (h A env out hid m B {s with heap:=h'} ρ aQ l vs E hh (S.after k1) hf (hd.kp k1)) (fun ø s₂ q=>q.pre (Ks.iI k1) fun ø b o ø q=>k1.keep b o q) fun ø ø q=>q
inductive Sf(P:Pk)(A:Around)(hid:List Addr)(xs:List V)(s s₂:Shared)(it:Value):Prop
 |mk (I:Addr) (W:List Addr) (gi:Option Nat) (St:List Addr->Nat->Shared->Prop) (e:it= .ref I) (k:Kp s s₂) (h:rl P A I W gi xs St) (f:∀a∈W,s.heap.get? a=none) (l:cD s₂.heap W) (g:∀g,gi=some g->s.gens.size<=g) (st:St (W++hid) 0 s₂):Sf P A hid xs s s₂ it
noncomputable def Lr(P:Pk)(n:Nat)(K:Cx)(e:Expr)(f:ao->Option (List V)):Prop:=
 ∀(A:Around) (env:Env) (out hid:List Addr) (m:Str->Option Value) (B s:Shared) (ρ:ao) (xs:List V) (E:Value->Shared->Prop),cJ n A->aU P K env out hid m B s ρ->f ρ=some xs->
  wpAny (model P.prog P.w) A (eval e env) (fun v s₁=>wpAny (model P.prog P.w) A (pyIter v) (fun it s₂=>Sf P A hid xs s s₂ it) E s₁) E s
noncomputable def gy(asg:ao->V->Option ao)(body:ao->Option (ao×Fl)):List V->ao->Option (ao×Fl)
 |[],ρ=>some (ρ,.next)
 |x::xs,ρ=>(asg ρ x).bind fun am=>(body am).bind fun r=>match r.2 with
  | .next| .cont=>gy asg body xs r.1
  | .brk=>some (r.1,.next)
  | .ret v=>some (r.1,.ret v)
theorem uc(asg:ao->V->Option ao)(body:ao->Option (ao×Fl))(x:V)(xs:List V)(ρ:ao):gy asg body (x::xs) ρ=(asg ρ x).bind fun am=>(body am).bind fun r=>match r.2 with
 | .next| .cont=>gy asg body xs r.1
 | .brk=>some (r.1,.next)
 | .ret v=>some (r.1,.ret v):=rfl
noncomputable def Ls(it:ao->Option (List V))(asg:ao->V->Option ao)(body:ao->Option (ao×Fl)):ao->Option (ao×Fl):=fun ρ=>(it ρ).bind fun xs=>gy asg body xs ρ
theorem aU.Hy{env:Env}{out hid W X:List Addr}{m}{B s:Shared}{ρ}(S:aU P K env out hid m B s ρ){s':Shared}(k:Kp s s')(hW:∀a∈W,s.heap.get? a=none)(lW:cD s'.heap W)(hX:∀a∈X,s.heap.get? a=none)(lX:cD s'.heap X):aU P K env (W++out) (W++(X++hid)) m B s' ρ:=by
 have hn:∀a,a∈hid->a∉W:=fun a h q=>by obtain⟨o,e⟩:=S.live a h;rw[hW a q]at e;cases e
 have toB:∀a,s.heap.get? a=none->B.heap.get? a=none:=fun a h=>by
  cases e:B.heap.get? a with
  |none=>rfl
  |some o=>rw[S.kp.keep a o e]at h;cases h
 exact S.map (fun a h=>(bZ.mp h).elim (lW a) fun h=>(bZ.mp h).elim (lX a) (S.live.kp k a)) (fun a h=>(bZ.mp h).elim (fun q=>cP _ q) fun q=>ck _ (ck _ (S.oh a q)))
  (S.ns.keeps k.keep) (S.kp.trans k) (fun a h ho=>(bZ.mp h).elim (fun q=>absurd (cP _ q) ho) fun h=>(bZ.mp h).elim (fun q=>toB a (hX a q)) fun q=>S.own a q fun z=>ho (ck _ z))
  (fun a h ho=>⟨ck _ (ck _ h),fun q=>(bZ.mp q).elim (hn a h) ho,k.keep a⟩) (fun a o ø e=>k.keep a o e)
  fun a h=>(bZ.mp h).elim (fun q=>.inr (hW a q)) fun h=>(bZ.mp h).elim (fun q=>.inr (hX a q)) .inl
theorem aU.outer{env:Env}{out hid W:List Addr}{m}{B s:Shared}{ρ}(S:aU P K env out hid m B s ρ){s':Shared}(k:Kp s s')(hW:∀a∈W,s.heap.get? a=none)(lW:cD s'.heap W):aU P K env (W++out) (W++hid) m B s' ρ:=
 S.Hy (X:=[]) k hW lW (fun a h=>nomatch h) fun a h=>nomatch h
theorem aU.inner{env:Env}{out hid W:List Addr}{m}{B s:Shared}{ρ}(S:aU P K env (W++out) hid m B s ρ)(hW:∀a∈W,B.heap.get? a=none):aU P K env out hid m B s ρ:=
 S.map S.live (fun a h=>S.oh a (ck _ h)) S.ns S.kp (fun a h ho=>by
  by_cases q:a∈W
  ·exact hW a q
  ·exact S.own a h fun z=>(bZ.mp z).elim q ho) (fun a h ho=>⟨h,fun q=>ho (ck _ q),fun ø e=>e⟩) (fun ø ø ø e=>e) fun ø h=>.inl h
theorem Eo{W:List Addr}{gi:Option Nat}{g0:Array GenState}{s s':Shared}(v:Mv0 W gi s s')(hg:∀g,gi=some g->g0.size<=g)(k:GX g0 s.gens):GX g0 s'.gens:=
 ⟨fun i x h=>v.gens i x (fun e=>by
  have:=hg i e;have:i<g0.size:=(xD.mp h).1;omega) (k.1 i x h),fun h=>v.bare (k.2 h)⟩
theorem GX.size{g g':Array GenState}(h:GX g g'):g.size<=g'.size:=
 tw fun h1=>gv _ (xD.mp (h.1 g'.size g[g'.size] (xE h1))).1
theorem aU.step{env:Env}{out hid W:List Addr}{gi:Option Nat}{m}{B s s':Shared}{ρ}(S:aU P K env out hid m B s ρ)(Rr:∀a∈W,a∈out)(v:Mv W gi s s')(hW:∀a∈W,B.heap.get? a=none)(hg:∀g,gi=some g->B.gens.size<=g):aU P K env out hid m B s' ρ:=
 have Ce:∀a∈W,a∈hid:=fun a h=>S.oh a (Rr a h)
 S.map (fun a h=>by
  by_cases q:a∈W
  ·exact v.live a q
  ·obtain⟨o,ho⟩:=S.live a h
   exact⟨o,v.keep a o q ho⟩) S.oh (S.ns.elim fun o q=>q.elim fun es q=>q.elim fun ep q=>⟨o,es,ep,v.keep _ o (fun z=>S.Lo (Rr _ z)) q.1,q.2⟩)
  ⟨fun b o h=>v.keep b o (fun z=>by rw[hW b z]at h;cases h) (S.kp.keep b o h),Eo v.toMv0 hg S.kp.gens,v.os.trans S.kp.os⟩ S.own (fun a h ho=>⟨h,ho,fun o=>v.keep a o fun z=>ho (Rr a z)⟩) (fun a o h=>v.keep a o fun z=>h (Ce a z)) fun ø h=>.inl h
theorem Ks.mv{out lT hid W:List Addr}{gi:Option Nat}{bn s s':Shared}(k:Ks out lT hid bn s)(v:Mv0 W gi s s')(hW:∀a∈W,bn.heap.get? a=none)(hg:∀g,gi=some g->bn.gens.size<=g):Ks out lT hid bn s' where
 keep:=fun b o hb h=>v.keep b o (fun z=>by rw[hW b z]at h;cases h) (k.keep b o hb h)
 new:=k.new
 sub:=k.sub
 gens:=Eo v hg k.gens
 os:=v.os.trans k.os
theorem aU.last{env:Env}{out hid W:List Addr}{gi:Option Nat}{m}{B s s':Shared}{ρ}(S:aU P K env (W++out) hid m B s ρ)(v:Mv0 W gi s s')(hW:∀a∈W,B.heap.get? a=none)(hg:∀g,gi=some g->B.gens.size<=g)(WH:∀a∈out,a∉W):
  aU P K env out (hid.filter fun a=>!W.contains a) m B s' ρ:=by
 have mem:∀a,a∈hid.filter (fun a=>!W.contains a)<->a∈hid/\a∉W:=fun a=>by simp[gw]
 have Ce:∀a∈W,a∈hid:=fun a h=>S.oh a (cP _ h)
 have hLW:env.locals∉W:=fun z=>S.Lo (cP _ z)
 exact S.map (fun a h=>(S.live a ((mem a).mp h).1).elim fun o ho=>⟨o,v.keep a o ((mem a).mp h).2 ho⟩) (fun a h=>(mem a).mpr ⟨S.oh a (ck _ h),WH a h⟩)
  (S.ns.elim fun o q=>q.elim fun es q=>q.elim fun ep q=>⟨o,es,ep,v.keep _ o hLW q.1,q.2⟩)
  ⟨fun b o h=>v.keep b o (fun z=>by rw[hW b z]at h;cases h) (S.kp.keep b o h),Eo v hg S.kp.gens,v.os.trans S.kp.os⟩ (fun a h ho=>S.own a ((mem a).mp h).1 fun z=>(bZ.mp z).elim ((mem a).mp h).2 ho)
  (fun a h ho=>⟨(mem a).mpr ⟨h,fun z=>ho (cP _ z)⟩,fun q=>ho (ck _ q),fun o=>v.keep a o fun z=>ho (cP _ z)⟩) (fun a o h=>v.keep a o fun z=>h (Ce a z)) fun a h=>.inl ((mem a).mp h).1
theorem Ks.last{out lT hid W:List Addr}{bn s:Shared}(k:Ks out lT hid bn s)(hW:∀a∈W,a∉lT):Ks out lT (hid.filter fun a=>!W.contains a) bn s where
 keep:=k.keep
 new:=fun a h=>k.new a (gw.mp h).1
 sub:=fun a h=>gw.mpr ⟨k.sub a h,by have:a∉W:=fun z=>hW a z h;simp[this]⟩
 gens:=k.gens
 os:=k.os
theorem Ks.only{out W hid ar s s'}(k:Ks out hid ar s s')(h:∀a∈W,a∈out):Ks W hid ar s s':=⟨fun b o hb q=>k.keep b o (hb.imp id (h b)) q,k.new,k.sub,k.gens,k.os⟩
theorem Ks.behind{out lT hid ar W:List Addr}{bn s s':Shared}(k:Ks out lT hid bn s)(v:Ks (W++out) hid ar s s'):Ks out lT ar bn s':=
 k.trans ⟨fun b o hb h=>v.keep b o (hb.imp id fun q=>ck _ q) h,v.new,v.sub,v.gens,v.os⟩
theorem aU.fresh{env:Env}{out hid:List Addr}{m}{B s:Shared}{ρ}(S:aU P K env out hid m B s ρ){a:Addr}(h:s.heap.get? a=none):B.heap.get? a=none:=by
 induction e:B.heap.get? a with
 |none=>rfl
 |some o=>exact nomatch(S.kp.keep a o e).symm.trans h
noncomputable def FE(P:Pk)(A:Around)(E:Value->Shared->Prop)(env:Env):Value->Shared->Prop:=notedBy (model P.prog P.w) A env fun e s'=>cameBackBy (model P.prog P.w) A env E e s'
noncomputable def FB(Q:Flow->Shared->Prop)(J:Shared->Prop)(f:Flow)(s:Shared):Prop:=match f with
 | .next| .cont=>J s
 | .brk=>Q .next s
 | .ret v=>Q (.ret v) s
noncomputable def FA(P:Pk)(A:Around)(E:Value->Shared->Prop)(env:Env)(Q:Flow->Shared->Prop)(target:Expr)(body:List Stmt)(J:Shared->Prop)(v:Value)(_:Unit)(s:Shared):Prop:=
 wpAny (model P.prog P.w) A (assign target env v) (fun ø=>wpAny (model P.prog P.w) A (execs body env) (FB Q J) (FE P A E env)) (FE P A E env) s
noncomputable def FT(P:Pk)(A:Around)(E:Value->Shared->Prop)(env:Env)(Q:Flow->Shared->Prop)(target:Expr)(body:List Stmt)(J:Shared->Prop)(it:Value)(r:Option Value)(s:Shared):Prop:=
 r.elim (Q .next s) fun v=>wpAny (model P.prog P.w) A (letOwnedTupleGo target it v) (FA P A E env Q target body J v) (FE P A E env) s
inductive FG(P:Pk)(A:Around)(E:Value->Shared->Prop)(env:Env)(Q:Flow->Shared->Prop)(target:Expr)(body:List Stmt)(it:Value)(s:Shared):Prop
 |mk (I:Nat->Shared->Prop) (n:Nat) (h:I n s) (turn:∀n s,I n s->wpAny (model P.prog P.w) A (pyNext it) (FT P A E env Q target body (fun t=>∃m,m<n/\I m t) it) (FE P A E env) s):FG P A E env Q target body it s
theorem Hz{A:Around}{E:Value->Shared->Prop}{env:Env}{Q:Flow->Shared->Prop}{target iter:Expr}{body:List Stmt}{pos:Pos}{s:Shared}(hs:∀x,foldedSetIterable iter env x=pure x)
  (h:wpAny (model P.prog P.w) A (eval iter env) (fun v s₁=>wpAny (model P.prog P.w) A (pyIter v) (FG P A E env Q target body) E s₁) E s):wpAny (model P.prog P.w) A (exec (.For target iter body [] pos) env) Q E s:=by
 refine wpAny_For (aD h (fun v s₁ aj=>aD aj (fun it s₂ aM=>?_) fun ø ø q=>q) fun ø ø q=>q) hs;obtain⟨I,n,h,turn⟩:=aM;refine codeAny_forLoop_any I (fun n s hI=>aD (turn n s hI) (fun r s₁ aj=>?_) fun ø ø q=>q) n h
 induction r with
 |none=>exact wpAny_execs_nil aj
 |some v=>exact aD aj (fun ø s₂ aM=>aD aM (fun ø s₃ eo=>aD eo (fun f j8 x8=>by cases f<;>exact x8) fun ø ø q=>q) fun ø ø q=>q) fun ø ø q=>q
end
section
variable{P:Pk}{n:Nat}{K:Cx}{lo:Bool}
theorem rl.of{A:Around}{I:Addr}{fp:List Addr}{xs:List V}{Pp:Nat->Value->Prop}{WI:Nat->Heap->Prop}(W:Walks P.prog P.w A I fp [I] xs.length Pp WI)(R:List Addr->Shared->Prop)
  (hR:∀out hid ar s s',Ks out hid ar s s'->R hid s->R ar s') (hR2:∀hid s h' tk,(∀b o,b≠I->s.heap.get? b=some o->h'.get? b=some o)->I∈hid->R hid s->R hid {s with heap:=h',toks:=tk})
  (rel:∀hid i x v s,R hid s->xs[i]?=some x->Pp i v->Dn P s.heap hid x v) (cls:∀i h,WI i h->∃o T,h.get? I=some o/\o.cls= .type T/\owners.contains T=false):
  rl P A I [I] none xs (fun hid i s=>WI i s.heap/\R hid s/\(∀b∈fp,b≠I->b∉hid/\∃o,s.heap.get? b=some o)/\I∈hid)where
 frame:=fun hid ar i s s' hh ⟨h1,h2,h3,h4⟩ k=>by
  refine⟨W.frame i _ _ h1 fun b hb o e=>k.keep b o ?_ e,hR _ hid ar s s' k h2,fun b hb cZ=>⟨fun hm=>?_,?_⟩,k.sub I h4⟩
  ·by_cases q:b=I
   ·exact .inr (by simp[q])
   ·exact .inl (h3 b hb q).1
  ·obtain⟨z,o,e⟩:=h3 b hb cZ
   exact(k.new b hm).elim z fun w=>by rw[e]at w;cases w
  ·obtain⟨z,o,e⟩:=h3 b hb cZ
   exact⟨o,k.keep b o (.inl z) e⟩
 self:=fun hid i s Q E ⟨h1,_⟩ hQ=>W.self i s Q E h1 hQ
 item:=fun hid i s x E hx hW hG live ⟨h1,h2,h3,h4⟩=>by
  have hi:i<xs.length:=by
   by_cases q:i<xs.length
   ·exact q
   ·rw[na (by omega)]at hx;cases hx
  refine W.item i s _ E hi h1 fun v h' tk hv st hk=>?_
  have K6:∀b o,b≠I->s.heap.get? b=some o->h'.get? b=some o:=fun b o hb e=>hk b o (by simpa using hb) e
  have r2:=hR2 hid s h' tk K6 h4 h2;obtain⟨o,T,c1,c2,c3⟩:=cls (i+1) h' st;refine⟨v,rfl,rel hid i x v {s with heap:=h',toks:=tk} r2 hx hv,⟨st,r2,fun b hb cZ=>⟨(h3 b hb cZ).1,let⟨o,e⟩:=(h3 b hb cZ).2;⟨o,K6 b o cZ e⟩⟩,h4⟩,⟨o,T,c1,c2,c3⟩,⟨⟨fun b o hb e=>K6 b o (by simpa using hb) e,fun i x ø e=>e,id,rfl⟩,fun a ha=>?_⟩⟩;obtain rfl:a=I:=by simpa using ha
  exact⟨o,c1⟩
 done:=fun hid s E hW hG live ⟨h1,h2,h3,h4⟩=>by
  refine W.done s _ E h1 fun h' tk hk=>⟨rfl,fun b o hb e=>hk b o hb e,fun i x ø e=>e,id,rfl⟩
theorem bd.other{hid:List Addr}{s:Shared}{h':Heap}{I:Addr}{xs:List V}{vs:List Value}(e:bd P s.heap hid xs vs)(hI:I∈hid)(hk:∀b o,b≠I->s.heap.get? b=some o->h'.get? b=some o):bd P h' hid xs vs:=
 e.grow (fun a o ha q=>hk a o (fun z=>ha (z▸hI)) q) fun a h=>.inl h
theorem rl.list{A:Around}(hh:A.handled=none){I ax:Addr}(cZ:ax≠I){xs:List V}{vs:List Value}(hl:vs.length=xs.length):
  rl P A I [I] none xs (fun hid i s=>(s.heap.IsListIter I ax i/\s.heap.IsList ax vs.toArray)/\bd P s.heap hid xs vs/\(∀b∈[I,ax],b≠I->b∉hid/\∃o,s.heap.get? b=some o)/\I∈hid):=by
 have W:=Walks.list (prog:=P.prog) (w:=P.w) hh I ax cZ vs.toArray;rw[cb,hl]at W;refine rl.of W (fun hid s=>bd P s.heap hid xs vs) (fun out hid ar s s' k h=>bd.ks (P:=P) h k) (fun hid s h' tk hk hI h=>bd.other (P:=P) h hI hk) (fun hid i x v s hd hx hv=>?_) fun i h st=>?_
 ·obtain⟨u,hu,hr⟩:=bq.get hd hx
  have hv:vs[i]?=some v:=by simpa using hv
  rw[hu]at hv;cases hv;exact hr
 ·obtain⟨⟨o,ho,hc,_⟩,_⟩:=st
  exact⟨o,"list_iterator",ho,hc,by decide⟩
theorem rl.tuple{A:Around}(hh:A.handled=none){I ax:Addr}(cZ:ax≠I){xs:List V}{vs:List Value}(hl:vs.length=xs.length):
  rl P A I [I] none xs (fun hid i s=>(s.heap.IsTupleIter I ax i/\s.heap.IsTuple ax vs.toArray)/\bd P s.heap hid xs vs/\(∀b∈[I,ax],b≠I->b∉hid/\∃o,s.heap.get? b=some o)/\I∈hid):=by
 have W:=Walks.tuple (prog:=P.prog) (w:=P.w) hh I ax cZ vs.toArray;rw[cb,hl]at W;refine rl.of W (fun hid s=>bd P s.heap hid xs vs) (fun out hid ar s s' k h=>bd.ks (P:=P) h k) (fun hid s h' tk hk hI h=>bd.other (P:=P) h hI hk) (fun hid i x v s hd hx hv=>?_) fun i h st=>?_
 ·obtain⟨u,hu,hr⟩:=bq.get hd hx
  have hv:vs[i]?=some v:=by simpa using hv
  rw[hu]at hv;cases hv;exact hr
 ·obtain⟨⟨o,ho,hc,_⟩,_⟩:=st
  exact⟨o,"tuple_iterator",ho,hc,by decide⟩
noncomputable def elems:V->Option (List V)
 | .list l=>some l
 | .tup l=>some l
 | .str l=>some (l.map fun c=>.str [c])
 |_=>none
set_option tactic.hygienic true in
theorem dH{e:Expr}{f}(h:em P n K false e f):Lr P n K e (fun ρ=>(f ρ).bind elems):=fun A env out hid m B s ρ xs E rm S hf=>by
 refine ak hf fun x hx gu=>?_
 clear hf;rename _=>hf
 refine aD (h A env out hid m B s ρ x E rm S hx) (fun v s₁ aj=>?_) fun ø ø q=>q
 have bC:=S.after aj.1;have jn:s.heap.get? s₁.heap.objs.size=none:=by
  cases e:s.heap.get? s₁.heap.objs.size with
  |none=>rfl
  |some o=>have:=aj.1.keep _ _ e;rw[bE]at this;cases this
 have nh:s₁.heap.objs.size∉hid:=sU bC.live;cases x<;>simp only[elems]at hf<;>try cases hf
 ·rename_i l
  obtain⟨t,rfl⟩:=aj.2.str_inv;have sh:(pyStr l).cps.size=(l.map fun c=>V.str [c]).length:=by simp
  have rel:∀hid i x v (s:Shared),True->(l.map fun c=>V.str [c])[i]?=some x->SignAt (pyStr l) i v->Dn P s.heap hid x v:=fun hid i x v s ø hx hv=>by
   obtain⟨c,u,hc,rfl⟩:=hv;rw[dh]at hx;have Lu:l[i]?=some c:=by simpa using hc
   rw[Lu]at hx;cases hx;exact .ofStr [c] u
  cases ha:(pyStr l).cps.all (· <128)
  ·have W:=Walks.strWide (prog:=P.prog) (w:=P.w) rm.handled s₁.heap.objs.size (pyStr l) t
   rw[sh]at W;refine wpAny_pyIter_wide ha ⟨s₁.heap.objs.size,[s₁.heap.objs.size],none,_,rfl,aj.1.trans (Kp.push s₁ _ _),rl.of W (fun ø ø=>True) (fun ø ø ø ø ø ø ø=>trivial) (fun ø ø ø ø ø ø ø=>trivial) rel (fun i h st=>?_),fun b hb=>?_,fun b hb=>?_,fun g q=>(nomatch q),?_⟩
   ·obtain⟨o,ho,hc,_⟩:=st
    exact⟨o,"str_iterator",ho,hc,by decide⟩
   ·obtain rfl:b=s₁.heap.objs.size:=by simpa using hb
    exact jn
   ·obtain rfl:b=s₁.heap.objs.size:=by simpa using hb
    exact⟨_,bJ _ rfl⟩
   ·refine⟨⟨_,bJ _ rfl,rfl,rfl⟩,trivial,fun b hb zR=>absurd (by simpa using hb) zR,by simp⟩
  ·have W:=Walks.strAscii (prog:=P.prog) (w:=P.w) rm.handled s₁.heap.objs.size (pyStr l) t
   rw[sh]at W;refine wpAny_pyIter_ascii ha ⟨s₁.heap.objs.size,[s₁.heap.objs.size],none,_,rfl,aj.1.trans (Kp.push s₁ _ _),rl.of W (fun ø ø=>True) (fun ø ø ø ø ø ø ø=>trivial) (fun ø ø ø ø ø ø ø=>trivial) rel (fun i h st=>?_),fun b hb=>?_,fun b hb=>?_,fun g q=>(nomatch q),?_⟩
   ·obtain⟨o,ho,hc,_⟩:=st
    exact⟨o,"str_ascii_iterator",ho,hc,by decide⟩
   ·obtain rfl:b=s₁.heap.objs.size:=by simpa using hb
    exact jn
   ·obtain rfl:b=s₁.heap.objs.size:=by simpa using hb
    exact⟨_,bJ _ rfl⟩
   ·refine⟨⟨_,bJ _ rfl,rfl,rfl⟩,trivial,fun b hb zR=>absurd (by simpa using hb) zR,by simp⟩
 ·obtain⟨a,vs,rfl,ha,ht,hd⟩:=aj.2.oe
  have cZ:a≠s₁.heap.objs.size:=fun e=>by obtain⟨k,z⟩:=ht;rw[e,bE]at z;cases z
  refine wpAny_pyIter_tuple ht.x3 ⟨s₁.heap.objs.size,[s₁.heap.objs.size],none,_,rfl,aj.1.trans (Kp.push s₁ _ _),rl.tuple rm.handled cZ hd.length,fun b hb=>?_,fun b hb=>?_,fun g q=>(nomatch q),?_⟩
  ·obtain rfl:b=s₁.heap.objs.size:=by simpa using hb
   exact jn
  ·obtain rfl:b=s₁.heap.objs.size:=by simpa using hb
   exact⟨_,bJ _ rfl⟩
  ·refine⟨⟨⟨_,bJ _ rfl,rfl,rfl⟩,ht.x3.push _⟩,?_,fun b hb zR=>?_,by simp⟩
   ·exact bd.grow (P:=P) hd (fun a o ø q=>bz _ q) fun b hb=>by
     rcases bZ.mp hb with q|q
     ·right;obtain rfl:b=s₁.heap.objs.size:=by simpa using q
      exact bE _
     ·exact .inl q
   ·have:b=a:=by
     rcases bI.mp hb with q|q
     ·exact absurd q zR
     ·simpa using q
    subst this;obtain⟨k,z⟩:=ht;exact⟨fun q=>(bZ.mp q).elim (fun w=>zR (by simpa using w)) ha,_,bz _ z⟩
 ·obtain⟨a,vs,rfl,ha,ht,hd⟩:=aj.2.cK
  have cZ:a≠s₁.heap.objs.size:=fun e=>by obtain⟨k,z⟩:=ht;rw[e,bE]at z;cases z
  refine tz ht.isList ⟨s₁.heap.objs.size,[s₁.heap.objs.size],none,_,rfl,aj.1.trans (Kp.push s₁ _ _),rl.list rm.handled cZ hd.length,fun b hb=>?_,fun b hb=>?_,fun g q=>(nomatch q),?_⟩
  ·obtain rfl:b=s₁.heap.objs.size:=by simpa using hb
   exact jn
  ·obtain rfl:b=s₁.heap.objs.size:=by simpa using hb
   exact⟨_,bJ _ rfl⟩
  ·refine⟨⟨⟨_,bJ _ rfl,rfl,rfl⟩,ht.isList.at fun o q=>bz _ q⟩,?_,fun b hb zR=>?_,by simp⟩
   ·exact bd.grow (P:=P) hd (fun a o ø q=>bz _ q) fun b hb=>by
     rcases bZ.mp hb with q|q
     ·right;obtain rfl:b=s₁.heap.objs.size:=by simpa using q
      exact bE _
     ·exact .inl q
   ·have:b=a:=by
     rcases bI.mp hb with q|q
     ·exact absurd q zR
     ·simpa using q
    subst this;obtain⟨k,z⟩:=ht;exact⟨fun q=>(bZ.mp q).elim (fun w=>zR (by simpa using w)) ha,_,bz _ z⟩
noncomputable def eX(a:Int):Bool:=decide (-1000000<=a)&&decide (a<=1000000)
noncomputable def Ny(a b c:Int):List V:=(List.range (Builtin.Range.rangeSize a b c).toNat).map fun(i:Nat)=>.int (a+(i:Int)*c)
noncomputable def nJ:List V->Option (List V)
 |[x]=>x.int?.bind fun b=>if eX b=true then some (Ny 0 b 1)else none
 |[x,y]=>qI V.int? V.int? (fun a b=>if(eX a&&eX b)=true then some (Ny a b 1)else none) x y
 |[x,y,z]=>x.int?.bind fun a=>qI V.int? V.int? (fun b c=>if(eX a&&eX b&&c== -1)=true then some (Ny a b (-1))else none) y z
 |_=>none
theorem HA(b:Int):nJ [.int b]=if eX b=true then some (Ny 0 b 1)else none:=id rfl
theorem ud(a b:Int):nJ [.int a,.int b]=if(eX a&&eX b)=true then some (Ny a b 1)else none:=id rfl
theorem jo{a:Int}(h:eX a=true): -1000000<=a/\a<=1000000:=by
 rw[eX,bX,mI,mI]at h;exact h
theorem z8{a b:Int}(h: -1000000<=a/\a<=1000000)(h': -1000000<=b/\b<=1000000):Builtin.Range.small a b 1=true:=
 small_one (by omega) (by omega) (by omega) (by omega)
theorem z9(a b:Int):((Builtin.Range.rangeSize a b 1).toNat:Int)=Builtin.Range.rangeSize a b 1:=by
 rw[rangeSize_one];split<;>omega
theorem wg(a b:Int):Builtin.Range.rangeSize a b (-1)=if a>b then a-b else 0:=by
 unfold Builtin.Range.rangeSize;rw[au (by omega)];split
 ·simp only[Int.neg_neg,Int.ediv_one];omega
 ·rfl
theorem Fz{a b:Int}(h: -1000000<=a/\a<=1000000)(h': -1000000<=b/\b<=1000000):Builtin.Range.small a b (-1)=true:=
 small_down (by omega) (by omega) (by omega) (by omega)
theorem HB(a b:Int):((Builtin.Range.rangeSize a b (-1)).toNat:Int)=Builtin.Range.rangeSize a b (-1):=by
 rw[wg];split<;>omega
theorem pW{A:Around}{E:Value->Shared->Prop}{s:Shared}{xs l:List V}{vs:List Value}{hid:List Addr}(hd:bd P s.heap hid xs vs)(hf:nJ xs=some l){Q:Value->Shared->Prop}
  (h:∀(a b c:Int) (t u v:Tok) (k:Nat) s',l=(List.range k).map (fun(i:Nat)=>V.int (a+(i:Int)*c))->(k:Int)=Builtin.Range.rangeSize a b c->Builtin.Range.small a b c=true->IsRange s'.heap s.heap.objs.size a b c t u v->Kp s s'->Q (.ref s.heap.objs.size) s'):
  wpAny (model P.prog P.w) A (call (.type "range") vs) Q E s:=by
 cases xs with
 |nil=>cases hf
 |cons x xs=>cases xs with
  |nil=>
   exact ak hf fun b hb hf=>eR hf fun hc e=>hd.one_k fun u hu=>hu.int_k hb fun t=>
    call_range_1 (h 0 b 1 _ _ _ _ _ e.symm (z9 0 b) (z8 (by decide) (jo hc)) (bJ _ rfl) (Kp.push s _ _))
  |cons y xs=>cases xs with
   |nil=>
    exact bO hf fun a b ha hb hf=>eR hf fun hc e=>hd.two_k fun u v hu hv=>hu.int_k ha fun t=>hv.int_k hb fun t'=>
     call_range_2 (h a b 1 _ _ _ _ _ e.symm (z9 a b) (z8 (jo (xF.mp hc).1) (jo (xF.mp hc).2)) (bJ _ rfl) (Kp.push s _ _))
   |cons z xs=>cases xs with
    |nil=>
     exact ak hf fun a ha hf=>bO hf fun b c hb Lu hf=>eR hf fun hc e=>by
      obtain⟨hq,hm⟩:=xF.mp hc;obtain rfl:=eq_of_beq hm;have hw:=xF.mp hq;have h1:=jo hw.1;have h2:=jo hw.2;exact hd.three_k fun u v w hu hv hw=>hu.int_k ha fun t=>hv.int_k hb fun t'=>hw.int_k Lu fun WJ=>
       call_range_3 (by decide) (h a b (-1) _ _ _ _ _ e.symm (HB a b) (Fz h1 h2) (bJ _ rfl) (Kp.push s _ _)) (Or.inl (PyProof.noPylong_small (by decide)))
    |cons _ _=>cases hf
theorem cL{p pos:Pos}{es:List Expr}{f}(hx:K.aV.contains "range"=true)(hv:P.glob "range"=some (.type "range"))
  (hs:j7 P n K false es f) (iS:∀env,starEach es env=es.map fun e=>(false,eval e env)) (cZ:es≠[]):Lr P n K (.Call (.Name "range" p) es [] pos) (fun ρ=>(f ρ).bind nJ):=fun A env out hid m B s ρ xs E rm S hf=>by
 refine ak hf fun y hy gu=>?_
 clear hf;rename _=>hf
 refine kF (bH S hx hv (by decide) ?_);refine ph (ct iS) ?_;refine bW (ct iS) (aD (hs A env out hid m B s ρ y E pos rm S hy) (fun vs s₁ aj=>?_) fun ø ø q=>q);have bC:=S.after aj.1;refine pW (vs:=[]++vs) aj.2 hf fun a b c t u v k s₂ hl hk ls hr kp=>?_
 subst hl;refine Cn hr ls ?_;have jn:s.heap.get? s₂.heap.objs.size=none:=by
  cases e:s.heap.get? s₂.heap.objs.size with
  |none=>rfl
  |some o=>have:=kp.keep _ _ (aj.1.keep _ _ e);rw[bE]at this;cases this
 have W:=Walks.range (prog:=P.prog) (w:=P.w) rm.handled s₂.heap.objs.size a c k;have sh:k=((List.range k).map fun(i:Nat)=>V.int (a+(i:Int)*c)).length:=by simp
 rw[show Walks P.prog P.w A s₂.heap.objs.size [s₂.heap.objs.size] [s₂.heap.objs.size] k _ _=Walks P.prog P.w A s₂.heap.objs.size [s₂.heap.objs.size] [s₂.heap.objs.size] ((List.range k).map fun(i:Nat)=>V.int (a+(i:Int)*c)).length _ _ from by rw[<-sh]]at W;refine⟨s₂.heap.objs.size,[s₂.heap.objs.size],none,_,rfl,aj.1.trans (kp.trans (Kp.push s₂ _ s₂.toks)),rl.of W (fun ø ø=>True) (fun ø ø ø ø ø ø ø=>trivial) (fun ø ø ø ø ø ø ø=>trivial) (fun hid i x v s ø hx hv=>?_) (fun i h st=>⟨_,"range_iterator",st,rfl,by decide⟩),fun b hb=>?_,fun b hb=>?_,fun g q=>(nomatch q),?_⟩
 ·obtain⟨t,rfl⟩:=hv
  rw[dh]at hx;by_cases hi:i<k
  ·rw[Co hi]at hx
   cases hx;exact .ofInt _ _
  ·rw[na (by simpa using hi)]at hx;cases hx
 ·obtain rfl:b=s₂.heap.objs.size:=by simpa using hb
  exact jn
 ·obtain rfl:b=s₂.heap.objs.size:=by simpa using hb
  exact⟨_,bJ _ rfl⟩
 ·refine⟨?_,trivial,fun b hb zR=>absurd (by simpa using hb) zR,by simp⟩
  show IsRangeIter _ _ (a+((0:Nat):Int)*c) ((k:Int)-((0:Nat):Int)) c;have e1:a+((0:Nat):Int)*c=a:=by simp
  have e2:(k:Int)-((0:Nat):Int)=k:=by simp
  rw[e1,e2,hk];exact bJ _ rfl
end
section
variable{P:Pk}{n:Nat}{K K':Cx}{lo:Bool}
noncomputable def eI(cells:List (Str×Addr)):List (Str×NameKind)->List (Str×Addr)->List (Str×Addr)
 |[],acc=>acc
 |(x,k)::r,acc=>if k== .free then(match cells.lookup x with|some c=>eI cells r ((x,c)::acc)|none=>eI cells r acc)else eI cells r acc
theorem wW(cells:List (Str×Addr))(acc:List (Str×Addr)):eI cells [] acc=acc:=rfl
theorem i0(cells:List (Str×Addr))(x:Str)(k:NameKind)(r:List (Str×NameKind))(acc:List (Str×Addr)):eI cells ((x,k)::r) acc=if k== .free then(match cells.lookup x with|some c=>eI cells r ((x,c)::acc)|none=>eI cells r acc)else eI cells r acc:=rfl
theorem wi{scope:Scope}{env:Env}(h:∀y∈scope.names,y.2= .free->∃c,env.cells.lookup y.1=some c):closureFor scope env=pure (eI env.cells scope.names []):=by
 unfold closureFor;have key:∀(l:List (Str×NameKind)) (acc:List (Str×Addr)),(∀y∈l,y.2= .free->∃c,env.cells.lookup y.1=some c)->
   (forIn l acc fun(x:Str×NameKind) (cs:List (Str×Addr))=>(if(x.2== .free)=true then(do let c <-cellOf env x.1;pure (ForInStep.yield ((x.1,c)::cs)))else pure (ForInStep.yield cs):Sem (ForInStep (List (Str×Addr)))))=pure (eI env.cells l acc):=by
  intro l
  induction l with
  |nil=>intro acc _;rfl
  |cons y l ih=>
   intro acc hl;obtain⟨x,k⟩:=y;rw[oM]
   cases hk:(k==NameKind.free)with
   |false=>
    simp only[hk,kC,gX,wW,i0];exact ih acc fun y hy=>hl y (by simp[hy])
   |true=>
    obtain⟨c,hc⟩:=hl (x,k) (by simp) (eq_of_beq hk);have e:cellOf env x=pure c:=by unfold cellOf;rw[hc]
    simp only[hk,jL,wW,i0,e,hc];exact ih ((x,c)::acc) fun y hy=>hl y (by simp[hy])
 have:=key scope.names [] h;simpa using this
set_option tactic.hygienic true in
theorem gM{cells:List (Str×Addr)}:∀{l:List (Str×NameKind)} {acc:List (Str×Addr)} {x c},(x,c)∈eI cells l acc->(x,c)∈acc\/cells.lookup x=some c
 |[],acc,x,c,h=>.inl h
 |(y,k)::r,acc,x,c,h=>by
  rw[i0]at h;split at h
  ·split at h
   ·rename_i c' hc
    rcases gM h with q|q
    ·rcases bI.mp q with q|q
     ·cases q;exact .inr hc
     ·exact .inl q
    ·exact .inr q
   ·exact gM h
  ·exact gM h
set_option tactic.hygienic true in
theorem g9{cells:List (Str×Addr)}:∀{l:List (Str×NameKind)} {acc:List (Str×Addr)} {x c},(x,c)∈eI cells l acc->(x,c)∈acc\/(cells.lookup x=some c/\(x,NameKind.free)∈l)
 |[],acc,x,c,h=>.inl h
 |(y,k)::r,acc,x,c,h=>by
  rw[i0]at h;split at h
  ·rename_i hk
   split at h
   ·rename_i c' hc
    rcases g9 h with q|q
    ·rcases bI.mp q with q|q
     ·cases q;exact .inr ⟨hc,by rw[eq_of_beq hk];simp⟩
     ·exact .inl q
    ·exact .inr ⟨q.1,.tail _ q.2⟩
   ·rcases g9 h with q|q
    ·exact .inl q
    ·exact .inr ⟨q.1,.tail _ q.2⟩
  ·rcases g9 h with q|q
   ·exact .inl q
   ·exact .inr ⟨q.1,.tail _ q.2⟩
theorem j9{x:Str}:∀{names:List (Str×NameKind)} {k:Nat} {acc:List (Str×Addr)},(x,NameKind.cell)∉names->(cellsFrom k names acc).lookup x=acc.lookup x
 |[],k,acc,_=>rfl
 |(y,kd)::r,k,acc,h=>by
  unfold cellsFrom;by_cases hk:(kd==NameKind.cell)=true
  ·rw[aw hk,j9 fun q=>h (.tail _ q),lA]
   have:(x==y)=false:=kI.mpr fun e=>h (by rw[e,<-eq_of_beq hk];simp)
   rw[this]
  ·rw[au hk]
   exact j9 fun q=>h (.tail _ q)
theorem kb:∀{names:List (Str×NameKind)} {k:Nat} {acc:List (Str×Addr)},(∀x c,(x,c)∈acc->c<k)->(∀x y c,(x,c)∈acc->(y,c)∈acc->x=y)->∀x y c,(x,c)∈cellsFrom k names acc->(y,c)∈cellsFrom k names acc->x=y
 |[],k,acc,_,h=>h
 |(y,kd)::r,k,acc,hb,h=>by
  unfold cellsFrom;by_cases hk:(kd==NameKind.cell)=true
  ·rw[aw hk]
   refine kb (fun x c q=>?_) fun x z c q1 q2=>?_
   ·rcases bI.mp q with q|q
    ·cases q;exact mJ _
    ·exact kK (hb x c q)
   ·rcases bI.mp q1 with q1|q1
    ·rcases bI.mp q2 with q2|q2
     ·cases q1;cases q2;rfl
     ·cases q1;exact absurd (hb _ _ q2) (gv _)
    ·rcases bI.mp q2 with q2|q2
     ·cases q2;exact absurd (hb _ _ q1) (gv _)
     ·exact h x z c q1 q2
  ·rw[au hk]
   exact kb hb h
theorem gz:∀{names:List (Str×NameKind)} {h:Heap} {acc:List (Str×Addr)} {x:Str} {c:Addr},(x,c)∈cellsFrom h.objs.size names acc->(x,c)∈acc\/(h.objs.size<=c/\(pushCells h names).IsCell c none)
 |[],h,acc,x,c,q=>.inl q
 |(y,kd)::r,h,acc,x,c,q=>by
  unfold cellsFrom at q;unfold pushCells;by_cases hk:(kd==NameKind.cell)=true
  ·rw[aw hk]at q ⊢
   have hs:(h.push {cls:=.type "cell",data:=.cell none}).objs.size=h.objs.size+1:=jd ..;rw[<-hs]at q;rcases gz q with q|q
   ·rcases bI.mp q with q|q
    ·cases q
     exact .inr ⟨bL _,⟨_,tA r _ _ _ (bJ _ rfl),rfl⟩⟩
    ·exact .inl q
   ·exact .inr ⟨kL (az (je hs.symm) q.1),q.2⟩
  ·rw[au hk]at q ⊢
   exact gz q
theorem kf{x:Str}:∀{names:List (Str×NameKind)} {k:Nat} {acc:List (Str×Addr)},((x,NameKind.cell)∈names\/∃c,(x,c)∈acc)->∃c,(x,c)∈cellsFrom k names acc
 |[],k,acc,h=>h.elim (fun q=>nomatch q) id
 |(y,kd)::r,k,acc,h=>by
  unfold cellsFrom;by_cases hk:(kd==NameKind.cell)=true
  ·rw[aw hk]
   refine kf (h.elim (fun q=>?_) fun q=>q.elim fun c q=>.inr ⟨c,.tail _ q⟩);rcases bI.mp q with q|q
   ·cases q;exact .inr ⟨k,.head _⟩
   ·exact .inl q
  ·rw[au hk]
   refine kf (h.elim (fun q=>?_) .inr);rcases bI.mp q with q|q
   ·cases q;exact absurd rfl hk
   ·exact .inl q
theorem x9{M:Model}{A:Around}{E:Value->Shared->Prop}{s:Shared}{scope:Scope}{globals:Addr}{closure:List (Str×Addr)}{qual:Str}{func:Option Addr}{code:Value}{around:Env}{builtins:Addr}{Q:Env->Shared->Prop}
  (h:Q (newEnv scope s.heap.objs.size globals (cellsFrom (s.heap.objs.size+1) scope.names closure) qual func code (some around) builtins) {s with heap:=pushCells (s.heap.push {cls:=.type "dict",data:=.dict #[]}) scope.names}):
  wpAny M A (newFunctionEnv scope globals closure [] qual func code (some around) builtins) Q E s:=by
 simp only[newFunctionEnv,Option.isSome_some,jL];refine aA (wpAny_alloc ?_);refine aA (wpAny_layCells _ (fun name kind cells=>by cases hkc:kind==NameKind.cell<;>simp[hkc]) _ _ _ _ ?_);rw[show({s with heap:=s.heap.push {cls:=.type "dict",data:=.dict #[]} }:Shared).heap.objs.size=s.heap.objs.size+1 from jd ..];rw[nq];exact aA (bK (bK h))
theorem lU{cells:List (Str×Addr)}:∀{l:List (Str×NameKind)} {acc:List (Str×Addr)} {x c},(x,c)∈acc->(x,c)∈eI cells l acc
 |[],acc,x,c,h=>h
 |(y,k)::r,acc,x,c,h=>by
  rw[i0];split
  ·split
   ·exact lU (ge _ h)
   ·exact lU h
  ·exact lU h
theorem lV{cells:List (Str×Addr)}{x:Str}{c:Addr}(hc:cells.lookup x=some c):∀{l:List (Str×NameKind)} {acc:List (Str×Addr)},(x,NameKind.free)∈l->(x,c)∈eI cells l acc
 |(y,k)::r,acc,h=>by
  rw[i0];rcases bI.mp h with q|q
  ·cases q
   simp only[hc];rw[aw (by rfl)];exact lU (by simp)
  ·split
   ·split
    ·exact lV hc q
    ·exact lV hc q
   ·exact lV hc q
theorem lookup_mem{l:List (Str×Addr)}:∀{x:Str} {c:Addr},l.lookup x=some c->(x,c)∈l:=by
 induction l with
 |nil=>intro x c h;simp at h
 |cons y l ih=>
  intro x c h;obtain⟨z,d⟩:=y;rw[lA]at h
  cases hx:x==z with
  |true=>rw[hx]at h;cases h;rw[eq_of_beq hx];simp
  |false=>rw[hx]at h;exact ge _ (ih h)
theorem mem_lookup{l:List (Str×Addr)}:∀{x:Str} {c:Addr},(x,c)∈l->∃d,l.lookup x=some d:=by
 induction l with
 |nil=>intro x c h;cases h
 |cons y l ih=>
  intro x c h;obtain⟨z,d⟩:=y;rw[lA]
  cases hx:x==z with
  |true=>exact⟨d,rfl⟩
  |false=>
   rcases bI.mp h with q|q
   ·cases q;simp at hx
   ·exact ih q
theorem HC{cells l x c}(h:(eI cells l []).lookup x=some c):cells.lookup x=some c:=by
 rcases gM (lookup_mem h)with q|q
 ·cases q
 ·exact q
theorem HD{cells:List (Str×Addr)}{l:List (Str×NameKind)}{x:Str}{c:Addr}(hc:cells.lookup x=some c)(hx:(x,NameKind.free)∈l):(eI cells l []).lookup x=some c:=by
 obtain⟨d,hd⟩:=mem_lookup (lV (acc:=[]) hc hx);rw[hd];have:=HC hd;rw[hc]at this;exact this.symm
theorem hO{l:List (Str×NameKind)}:∀{x:Str} {c:NameKind},l.lookup x=some c->(x,c)∈l:=by
 induction l with
 |nil=>intro x c h;simp at h
 |cons y l ih=>
  intro x c h;obtain⟨z,d⟩:=y;rw[lA]at h
  cases hx:x==z with
  |true=>rw[hx]at h;cases h;rw[eq_of_beq hx];simp
  |false=>rw[hx]at h;exact ge _ (ih h)
theorem gA{env:Env}{x:Str}{k:NameKind}:∀{names:List (Str×NameKind)},names.lookup x=some k->
  (names.map fun(n,k)=>if(k==NameKind.free&&env.scope.kind== .function&&env.kindOf n==some .cell)then(n,NameKind.cell)else(n,k)).lookup x=some (if(k==NameKind.free&&env.scope.kind== .function&&env.kindOf x==some .cell)=true then .cell else k)
 |[],h=>by simp at h
 |(z,d)::r,h=>by
  have ih:= @gA env x k r;show List.lookup x ((if(d==NameKind.free&&env.scope.kind== .function&&env.kindOf z==some .cell)=true then(z,NameKind.cell)else(z,d))::_)=_;rw[lA]at h
  cases hx:x==z with
  |true=>
   rw[hx]at h;cases h;have e:=eq_of_beq hx;subst e;by_cases hc:(k==NameKind.free&&env.scope.kind== .function&&env.kindOf x==some .cell)=true
   ·rw[aw hc,aw hc,lA,hx]
   ·rw[au hc,au hc,lA,hx]
  |false=>
   rw[hx]at h;by_cases hc:(d==NameKind.free&&env.scope.kind== .function&&env.kindOf z==some .cell)=true
   ·rw[aw hc,lA,hx];exact ih h
   ·rw[au hc,lA,hx];exact ih h
structure si(K K':Cx)(nt:Nat)(cap:List Nat)(scope:Scope):Prop where
 kind:scope.kind= .function
 ncell:∀y∈scope.names,y.2= .cell->scope.names.lookup y.1=some .cell
 names:∀y∈scope.names,y.2= .local->scope.names.lookup y.1=some .local
 glob:∀x∈K'.aV,scope.names.lookup x=some .globalImplicit
 tv:∀(j:Nat) x k b,j<nt->K'.vars[j]?=some (x,k,b)->(k= .local\/k= .cell)/\b=false/\scope.names.lookup x=some k
 cv:∀(j:Nat) x k b,nt<=j->K'.vars[j]?=some (x,k,b)->∃i:Nat,cap[j-nt]?=some i/\K.vars[i]?=some (x,k,b)/\(k= .cell\/k= .free)/\scope.names.lookup x=some .free
 nodup:∀(i j:Nat) x k b k' b',K'.vars[i]?=some (x,k,b)->K'.vars[j]?=some (x,k',b')->i=j
 free1:∀y∈scope.names,y.2= .free->scope.names.lookup y.1=some .free
 free:∀y∈scope.names,y.2= .free->∃(i:Nat) (k:NameKind) (b:Bool),K.vars[i]?=some (y.1,k,b)/\(k= .cell\/k= .free)
noncomputable def Nz(K K':Cx)(nt:Nat)(cap:List Nat)(scope:Scope):Bool:=
 scope.kind== .function&&(scope.names.all fun y=>(y.2 != .cell||scope.names.lookup y.1==some .cell)&&(y.2 != .local||scope.names.lookup y.1==some .local)&&(y.2 != .free||scope.names.lookup y.1==some .free)&&(y.2 != .free||(K.vars.any fun z=>z.1==y.1&&(z.2.1== .cell||z.2.1== .free))))&&
 (K'.aV.all fun x=>scope.names.lookup x==some .globalImplicit)&&
 ((List.range K'.vars.length).all fun j=>match K'.vars[j]? with
  |some (x,k,b)=>if j<nt then(k== .local||k== .cell)&&!b&&scope.names.lookup x==some k else(match cap[j-nt]? with|some i=>K.vars[i]?==some (x,k,b)&&(k== .cell||k== .free)&&scope.names.lookup x==some .free|none=>false)
  |none=>false)&&decide (K'.vars.map (·.1)).Nodup
theorem cu{nt:Nat}{cap:List Nat}{scope:Scope}(h:Nz K K' nt cap scope=true):si K K' nt cap scope:=by
 simp only[Nz,bX,cH,jN,lx,oN,List.any_eq_true,mI]at h;obtain⟨⟨⟨⟨h1,h2⟩,h3⟩,h4⟩,h5⟩:=h;have Zb:∀(j:Nat) x k b,K'.vars[j]?=some (x,k,b)->_:=fun j x k b hj=>h4 j (by
  have:j<K'.vars.length:=by
   by_cases q:j<K'.vars.length
   ·exact q
   ·rw[na (by omega)]at hj;cases hj
  simpa using this)
 refine⟨h1,fun y hy hl=>(h2 y hy).1.1.1.resolve_left (fun q=>q hl),fun y hy hl=>(h2 y hy).1.1.2.resolve_left (fun q=>q hl),h3,fun j x k b hj hv=>?_,fun j x k b hj hv=>?_,fun i j x k b k' b' hi hj=>?_,fun y hy hl=>(h2 y hy).1.2.resolve_left (fun q=>q hl),fun y hy hl=>?_⟩
 ·have:=Zb j x k b hv
  rw[hv]at this;simp only[hj,jL,bX,lx,jN,Bool.not_eq_true']at this;exact⟨this.1.1,this.1.2,this.2⟩
 ·have:=Zb j x k b hv
  rw[hv]at this;simp only[show ¬j<nt by omega,gX]at this
  cases hc:cap[j-nt]? with
  |none=>rw[hc]at this;cases this
  |some i=>
   rw[hc]at this;simp only[bX,jN,lx]at this;exact⟨i,rfl,this.1.1,this.1.2,this.2⟩
 ·have e1:(K'.vars.map (·.1))[i]?=some x:=by rw[dh,hi];rfl
  have e2:(K'.vars.map (·.1))[j]?=some x:=by rw[dh,hj];rfl
  have R7:i<(K'.vars.map (·.1)).length:=by
   by_cases q:i<(K'.vars.map (·.1)).length
   ·exact q
   ·rw[na (by omega)]at e1;cases e1
  exact(List.getElem?_inj R7 h5).mp (e1.trans e2.symm)
 ·obtain⟨z,hz,WK,hz2⟩:=(h2 y hy).2.resolve_left (fun q=>q hl)
  obtain⟨i,hi,e⟩:=Cp hz;obtain⟨x,k,b⟩:=z;exact⟨i,k,b,by rw[iG hi,e,<-WK],hz2⟩
noncomputable def pX(nt:Nat)(cap:List Nat)(ρ:ao):ao:=fun j=>if j<nt then none else(cap[j-nt]?).bind ρ
theorem aU.comp{env:Env}{out hid W X:List Addr}{m}{B s:Shared}{ρ}(S:aU P K env out hid m B s ρ){nt:Nat}{cap:List Nat}{scope:Scope}(ok:si K K' nt cap scope){s':Shared}{C D:Addr}{cs:List (Str×Addr)}(k:Kp s s')(hX:∀a∈X,s.heap.get? a=none)(lX:cD s'.heap X)
  (Cd:∀x c,scope.names.lookup x=some .free->env.cells.lookup x=some c->cs.lookup x=some c) (Lv:∀x,scope.names.lookup x=some .cell->∃c,cs.lookup x=some c/\c∈X/\c∉W/\c≠D/\s'.heap.IsCell c none) (WL:∀x y c,cs.lookup x=some c->cs.lookup y=some c->x=y)
  (hW:∀a∈W,s.heap.get? a=none) (hC:s.heap.get? C=none) (hD:s.heap.get? D=none) (FC:C≠D) (hCW:C∉W) (lW:cD s'.heap W) (lD:∃o,s'.heap.get? D=some o) {m':Str->Option Value} (ns:s'.heap.Ns C m'):
  aU P K' (compEnvC scope cs C env) (W++(D::out)) (C::D::(W++(X++hid))) m' B s' (pX nt cap ρ):=by
 have hn:∀a,a∈hid->s.heap.get? a≠none:=fun a h q=>by obtain⟨o,e⟩:=S.live a h;rw[q]at e;cases e
 have WM:∀a∈hid,a∉W:=fun a h q=>hn a h (hW a q)
 have CR:∀a,a∈W++(D::out)<->a∈W\/a=D\/a∈out:=fun a=>by simp
 have new:∀a∈C::D::(W++(X++hid)),a∈hid\/s.heap.get? a=none:=fun a h=>by
  rcases bI.mp h with rfl|h
  ·exact .inr hC
  ·rcases bI.mp h with rfl|h
   ·exact .inr hD
   ·exact(bZ.mp h).elim (fun q=>.inr (hW a q)) fun q=>(bZ.mp q).elim (fun q=>.inr (hX a q)) .inl
 have sub:∀a∈hid,a∈C::D::(W++(X++hid)):=fun a h=>ge _ (ge _ (ck _ (ck _ h)))
 have Sg:∀c,c∈hid->c∉out->c∉W++(D::out):=fun c h ho z=>((CR c).mp z).elim (WM c h) fun z=>z.elim (fun e=>hn _ h (e▸hD)) ho
 have Sh:∀(j:Nat) x kd b,K'.vars[j]?=some (x,kd,b)->(compEnvC scope cs C env).kindOf x=some kd:=fun j x kd b hj=>by
  show(relabel scope env).names.lookup x=some kd;by_cases eu:j<nt
  ·obtain⟨hk,rfl,hl⟩:=ok.tv j x kd b eu hj
   show List.lookup x (scope.names.map _)=_;rw[gA hl];rcases hk with rfl|rfl<;>rfl
  ·obtain⟨i,_,hi,hk,hl⟩:=ok.cv j x kd b (by omega) hj
   have:=S.kind i x kd b hi;show List.lookup x (scope.names.map _)=_;rw[gA hl,this,S.fn];rcases hk with rfl|rfl<;>rfl
 have atC:∀(i:Nat) x kd b u,K.vars[i]?=some (x,kd,b)->(kd= .cell\/kd= .free)->scope.names.lookup x=some .free->At env m s.heap out hid x kd u->At (compEnvC scope cs C env) m' s'.heap (W++(D::out)) (C::D::(W++(X++hid))) x kd u:=fun i x kd b u hi hk hl h=>by
  have hm:(x,NameKind.free)∈scope.names:=hO hl;rcases hk with rfl|rfl
  ·obtain⟨c,q1,q2,q3,q4⟩:=h
   exact⟨c,Cd x c hl q1,sub c q2,Sg c q2 q3,q4.keeps k.keep⟩
  ·obtain⟨c,q1,q2,q3,q4⟩:=h
   exact⟨c,Cd x c hl q1,sub c q2,Sg c q2 q3,q4.keeps k.keep⟩
 refine {fn:=ok.kind,gl:=S.gl,bl:=S.bl,kind:=Sh,oS:=fun x hx=>?_,nodup:=ok.nodup,iz:=WL,live:=?_,oh:=?_,Lh:=by simp[compEnvC],Lo:=?_,ns:=ns,slot:=?_,apart:=?_,gb:=S.gb,kp:=S.kp.trans k,own:=?_}
 ·show List.lookup x (scope.names.map _)=_
  rw[gA (ok.glob x hx)];rfl
 ·intro a h
  rcases bI.mp h with rfl|h
  ·obtain⟨o,_,_,ho,_⟩:=ns;exact⟨o,ho⟩
  ·rcases bI.mp h with rfl|h
   ·exact lD
   ·exact(bZ.mp h).elim (lW a) fun q=>(bZ.mp q).elim (lX a) (S.live.kp k a)
 ·intro a h
  rcases(CR a).mp h with q|rfl|q
  ·simp[q]
  ·simp
  ·simp[S.oh a q]
 ·show C∉_
  intro h;rcases(CR C).mp h with q|q|q
  ·exact hCW q
  ·exact FC q
  ·exact hn C (S.oh C q) hC
 ·intro j x kd b hj
  by_cases eu:j<nt
  ·obtain⟨hk,rfl,hl⟩:=ok.tv j x kd b eu hj
   rcases hk with rfl|rfl
   ·exact⟨m' x,by simp[At],by simp[pX,eu,oR]⟩
   ·obtain⟨c,q1,q2,q3,q4,q5⟩:=Lv x hl
    exact⟨none,⟨c,q1,.tail _ (.tail _ (ck _ (cP _ q2))),fun z=>((CR c).mp z).elim q3 fun z=>z.elim q4 fun z=>hn c (S.oh c z) (hX c q2),q5⟩,by simp[pX,eu,oR]⟩
  ·obtain⟨i,hc,hi,hk,hl⟩:=ok.cv j x kd b (by omega) hj
   obtain⟨ov,h1,h2⟩:=S.slot i x kd b hi;refine⟨ov,atC i x kd b ov hi hk hl h1,?_⟩;have hr:pX nt cap ρ j=ρ i:=by simp[pX,eu,hc]
   rw[hr];exact h2.map (fun ø a ø q1 q2 q3=>⟨sub a q1,Sg a q1 q2,fun e=>hn a q1 (e▸hC),k.keep a⟩) (fun e=>Dn.grow (P:=P) e (fun a o ø q=>k.keep a o q) new) fun e=>bd.grow (P:=P) e (fun a o ø q=>k.keep a o q) new
 ·intro i j x y kd K4 a U9 hi hj h1 h2
  by_cases eu:i<nt
  ·obtain⟨_,q,_⟩:=ok.tv i x kd true eu hi;cases q
  ·by_cases Lw:j<nt
   ·obtain⟨_,q,_⟩:=ok.tv j y K4 true Lw hj;cases q
   ·obtain⟨i',c1,v1,k1,l1⟩:=ok.cv i x kd true (by omega) hi
    obtain⟨j',c2,v2,k2,l2⟩:=ok.cv j y K4 true (by omega) hj;have e1:pX nt cap ρ i=ρ i':=by simp[pX,eu,c1]
    have e2:pX nt cap ρ j=ρ j':=by simp[pX,Lw,c2]
    rw[e1,e2];obtain⟨ov,q1,_⟩:=S.slot i' x kd true v1;obtain⟨Wt,q2,_⟩:=S.slot j' y K4 true v2;have f1:=At.fun (atC i' x kd true ov v1 k1 l1 q1) h1
    have f2:=At.fun (atC j' y K4 true Wt v2 k2 l2 q2) h2
    subst f1;subst f2;refine S.apart i' j' x y kd K4 a (fun e=>?_) v1 v2 q1 q2;subst e;rw[v1]at v2;cases v2;exact U9 (ok.nodup i j x kd true kd true hi hj)
 ·intro a h ho
  rcases bI.mp h with rfl|h
  ·cases e:B.heap.get? a with
   |none=>rfl
   |some o=>have:=S.kp.keep a o e;rw[hC]at this;cases this
  ·rcases bI.mp h with rfl|h
   ·exact absurd ((CR a).mpr (.inr (.inl rfl))) ho
   ·rcases bZ.mp h with q|q
    ·exact absurd ((CR a).mpr (.inl q)) ho
    ·rcases bZ.mp q with q|q
     ·cases e:B.heap.get? a with
      |none=>rfl
      |some o=>have:=S.kp.keep a o e;rw[hX a q]at this;cases this
     ·exact S.own a q fun z=>ho ((CR a).mpr (.inr (.inr z)))
end
section
variable{P:Pk}{n:Nat}{K K':Cx}{lo:Bool}
theorem Kp.Zc{W:List Addr}{gi:Option Nat}{bn s s':Shared}(k:Kp bn s)(v:Mv0 W gi s s')(hW:∀a∈W,bn.heap.get? a=none)(hg:∀g,gi=some g->bn.gens.size<=g):Kp bn s':=
 ⟨fun b o h=>v.keep b o (fun z=>nomatch(hW b z).symm.trans h) (k.keep b o h),Eo v hg k.gens,v.os.trans k.os⟩
noncomputable def Ep(ifs:List Expr)(env:Env):Sem Bool:=forIn ifs true fun c r=>if r=true then do let ok <-isTrue c env (eval c env);pure (ForInStep.yield ok)else pure (ForInStep.yield r)
noncomputable def CE(P:Pk)(A:Around)(R:Result->Shared->Prop)(env:Env):Value->Shared->Prop:=notedBy (model P.prog P.w) A env fun e s'=>R (.error e) s'
noncomputable def CX(P:Pk)(A:Around)(R:Result->Shared->Prop)(elt:Expr)(acc:Value)(env:Env)(J:Shared->Prop)(ok:Bool)(s:Shared):Prop:=
 if ok=true then wpAny (model P.prog P.w) A (eval elt env) (fun x j8=>wpAny (model P.prog P.w) A (call (.builtin "list.append") [acc,x]) (fun ø=>J) (CE P A R env) j8) (CE P A R env) s else J s
noncomputable def CA(P:Pk)(A:Around)(R:Result->Shared->Prop)(elt target:Expr)(ifs:List Expr)(acc:Value)(env:Env)(J:Shared->Prop)(v:Value)(_:Unit)(s:Shared):Prop:=
 wpAny (model P.prog P.w) A (assign target env v) (fun ø=>wpAny (model P.prog P.w) A (Ep ifs env) (CX P A R elt acc env J) (CE P A R env)) (CE P A R env) s
noncomputable def CT(P:Pk)(A:Around)(R:Result->Shared->Prop)(elt target:Expr)(ifs:List Expr)(acc:Value)(env:Env)(J:Shared->Prop)(it:Value)(r:Option Value)(s:Shared):Prop:=
 r.elim (R (.ok .next) s) fun v=>wpAny (model P.prog P.w) A (letOwnedTupleGo target it v) (CA P A R elt target ifs acc env J v) (CE P A R env) s
theorem oq{A:Around}{R:Result->Shared->Prop}{s:Shared}{elt target iter:Expr}{ifs:List Expr}{scope:Scope}{pos:Pos}{it acc:Value}{env:Env}(I:Nat->Shared->Prop)
  (turn:∀n s,I n s->wpAny (model P.prog P.w) A (pyNext it) (CT P A R elt target ifs acc env (fun s=>∃m,m<n/\I m s) it) (CE P A R env) s)
  (n:Nat) (h:I n s):codeAny (model P.prog P.w) A (.compLoop (.ListComp elt [⟨target,iter,ifs,0⟩] scope pos) 0 it acc env) R s:=by
 refine codeAny_loop rfl I (fun n s hI=>?_) n h;show wpAny _ A ((compTurn (.ListComp elt [⟨target,iter,ifs,0⟩] scope pos) 0 it acc env).onRaise (fun x=>do noteFrame x env;theTreesLotGoes x)) _ _ s;refine wpAny_noted ?_;rw[compTurn_list];refine aA (lB (aA (aD (turn n s hI) (fun r s₁ aj=>?_) fun ø ø h'=>h')))
 cases r with
 |none=>exact bK aj
 |some v=>
  refine aA (aD aj (fun ø Zd Si=>?_) fun ø ø h'=>h');refine aA (aD Si (fun ø s₂ aM=>aA (aD aM (fun ok s₃ eo=>?_) fun ø ø h'=>h')) fun ø ø h'=>h')
  cases ok with
  |false=>exact bK ⟨rfl,eo⟩
  |true=>
   exact aA (aA (aD eo (fun x j8 x8=>aA (aD x8 (fun ø rn sK=>bK (bK ⟨rfl,sK⟩)) fun ø ø h'=>h')) fun ø ø h'=>h'))
theorem At.NA{env m}{h h':Heap}{out out' hid ar:List Addr}{x k u}(a:At env m h' out' ar x k u){v}(b:At env m h out hid x k v)(hk:∀c v,h.IsCell c v->h'.IsCell c v):u=v:=by
 cases k<;>simp only[At]at a b
 ·exact a.symm.trans b
 all_goals first
  |exact a.elim
  |(obtain⟨c,h1,_,_,h2⟩:=a;obtain⟨c',Hh,_,_,Ou⟩:=b;rw[h1]at Hh;cases Hh;exact IsCell.fun h2 (hk _ _ Ou))
noncomputable def wj(P:Pk)(n:Nat)(K:Cx)(ifs:List Expr)(f:ao->Option Bool):Prop:=
 ∀(A:Around) (env:Env) (out hid:List Addr) (m:Str->Option Value) (B s:Shared) (ρ:ao) (b:Bool) (E:Value->Shared->Prop),cJ n A->aU P K env out hid m B s ρ->f ρ=some b->
  wpAny (model P.prog P.w) A (Ep ifs env) (fun c s'=>Kp s s'/\c=b) E s
theorem eY:wj P n K [] fun ø=>some true:=fun A env out hid m B s ρ b E r S hf=>by
 cases hf;exact bK ⟨.refl s,rfl⟩
theorem gN{c:Expr}{f}(h:se P n K c f):wj P n K [c] f:=fun A env out hid m B s ρ b E r S hf=>wpAny_tests_one (h A env out hid m B s ρ b E r S hf)
noncomputable def nK(asg:ao->V->Option ao)(tf:ao->Option Bool)(ef:ao->Option V):List V->ao->Option (List V)
 |[],_=>some []
 |x::xs,ρ=>(asg ρ x).bind fun am=>(tf am).bind fun ok=>if ok then(ef am).bind fun y=>(nK asg tf ef xs am).map (y:: ·)else nK asg tf ef xs am
theorem HE(asg:ao->V->Option ao)(tf:ao->Option Bool)(ef:ao->Option V)(x:V)(xs:List V)(ρ:ao):nK asg tf ef (x::xs) ρ=(asg ρ x).bind fun am=>(tf am).bind fun ok=>if ok then(ef am).bind fun y=>(nK asg tf ef xs am).map (y:: ·)else nK asg tf ef xs am:=rfl
noncomputable def mS(it:ao->Option (List V))(asg:ao->V->Option ao)(tf:ao->Option Bool)(ef:ao->Option V)(nt:Nat)(cap:List Nat):ao->Option V:=fun ρ=>
 (it ρ).bind fun xs=>if xs.length<most then(nK asg tf ef xs (pX nt cap ρ)).map .list else none
noncomputable def NB(P:Pk)(K:Cx)(T:Env->Addr)(t:Expr)(a:ao->V->Option ao):Prop:=
 ∀(A:Around) (env:Env) (out hid:List Addr) (m:Str->Option Value) (B s:Shared) (ρ aQ:ao) (x:V) (v:Value) (E:Value->Shared->Prop),A.handled=none->aU P K env out hid m B s ρ->a ρ x=some aQ->Dn P s.heap hid x v->
  wpAny (model P.prog P.w) A (assign t env v) (fun ø s'=>∃ar m',aU P K env out ar m' B s' aQ/\Ks out hid ar s s'/\∀b o,b≠T env->s.heap.get? b=some o->s'.heap.get? b=some o) E s
theorem wX{t:Expr}{a}(h:En P K true t a):NB P K Env.locals t a:=fun A env out hid m B s ρ aQ x v E hh S hf hv=>
 aD (h A env out hid m B s ρ aQ x v E hh S hf hv) (fun ø s' q=>q.casesOn fun ar m' S k l=>⟨ar,m',S,k,l rfl⟩) fun ø ø q=>q
noncomputable def Er(x:Str)(e:Env):Addr:=(e.cells.lookup x).getD 0
theorem NB.cell(i:Nat){x:Str}{p:Pos}(hi:K.vars[i]?=some (x,.cell,false)):NB P K (Er x) (.Name x p) fun ρ y=>some (upd ρ i y):=fun A env out hid m B s ρ aQ y v E hh S hf hv=>by
 cases hf;obtain⟨ov,kR,_⟩:=S.slot i x _ _ hi;obtain⟨c,q1,q2,q3,q4⟩:=kR;refine lz (wpAny_storeName_cell S.fn (S.kind i x _ _ hi) q1 q4 fun h' Cd v9=>?_);have hs:∀a o,a≠c->s.heap.get? a=some o->h'.get? a=some o:=fun a o ha q=>(v9.2 a ha).trans q
 have WE:∃o,h'.get? c=some o:=Cd.elim fun o q=>⟨o,q.1⟩
 obtain⟨r1,r2⟩:=aU.fill (m':=m) (s':={s with heap:=h'}) (y:=y) (v:=v) S hi q2 q3 hs (.refl _) rfl (fun ø q=>q) (fun ø q=>.inl q) (S.live.extBut hs WE) (S.ns.sameBut v9 fun e=>Ns.jS S.ns (e▸q4))
  (fun j x' k' z a ø ø ø ø q=>by
   obtain⟨a',e,h1,h2,h3,h4⟩:=eP.addr (P:=P) q;cases e;exact fun e=>mR.jS h4 (e▸q4)) ⟨c,q1,q2,q3,Cd⟩
  (fun j x' k' b' u hj qJ hu=>by
   have cZ:x'≠x:=fun e=>hj (S.nodup j i x' k' b' _ _ qJ (e▸hi))
   exact hu.map id fun c' z1 z2 z3 z4=>⟨z2,z3,z4.sameBut v9 fun e=>cZ (S.iz x' x c (e▸z1) q1)⟩)
  (Dn.grow (P:=P) hv (fun a o ha q=>hs a o (fun e=>ha (e▸q2)) q) fun a q=>.inl q) (fun e=>nomatch e)
 refine⟨hid,m,r1,r2,fun b o hb=>hs b o fun e=>hb (e.trans ?_)⟩;unfold Er;rw[q1];rfl
inductive HF(scope:Scope):(Env->Addr)->Prop
 |loc:HF scope Env.locals
 |cell (x:Str) (h:scope.names.lookup x=some .cell):HF scope (Er x)
inductive CS(P:Pk)(K':Cx)(ce:Env)(out hid:List Addr)(B s:Shared)(C D:Addr)(W:List Addr)(St:List Addr->Nat->Shared->Prop)(i:Nat)(ρ:ao)(l:List V)(s':Shared):Prop
 |mk (ar:List Addr) (m':Str->Option Value) (vs:List Value) (S:aU P K' ce (W++(D::out)) ar m' B s' ρ) (p:s'.heap.PlainList D vs.toArray) (d:bd P s'.heap ar l vs) (st:St ar i s') (kp:Kp s s') (sub:∀a∈C::D::(W++hid),a∈ar)
structure ue(P:Pk)(K':Cx)(A:Around)(ce:Env)(T:Addr)(B s:Shared)(xs:List V)(I C D:Addr)(W:List Addr)(gi:Option Nat)(St:List Addr->Nat->Shared->Prop):Prop where
 hI:rl P A I W gi xs St
 hW:∀a∈W,s.heap.get? a=none
 hg:∀g,gi=some g->s.gens.size<=g
 hB:∀a,s.heap.get? a=none->B.heap.get? a=none
 NC:∀g,gi=some g->B.gens.size<=g
 sC:s.heap.get? C=none
 sD:s.heap.get? D=none
 CD:C≠D
 WC:C∉W
 WD:D∉W
 lc:ce.locals=C
 sT:s.heap.get? T=none
 TD:T≠D
section
variable{A:Around}{ce:Env}{T:Addr}{out hid:List Addr}{B s s' gZ:Shared}{xs:List V}{I C D:Addr}{W:List Addr}{gi:Option Nat}{St:List Addr->Nat->Shared->Prop}{i:Nat}{ρ aQ:ao}{l:List V}
theorem CS.kp(c:ue P K' A ce T B s xs I C D W gi St)(h:CS P K' ce out hid B s C D W St i ρ l s')(k:Kp s' gZ):CS P K' ce out hid B s C D W St i ρ l gZ:=by
 obtain⟨ar,m',vs,S,p,d,st,kp,sub⟩:=h;exact⟨ar,m',vs,S.after k,p.at fun o e=>k.keep D o e,bd.kp d k,c.hI.frame ar ar i s' gZ (fun a h=>sub a (.tail _ (.tail _ (cP _ h)))) st (.iI k),kp.trans k,sub⟩
theorem CS.assign(c:ue P K' A ce T B s xs I C D W gi St){ar pv:List Addr}{m₂:Str->Option Value}{vs:List Value}(p:s'.heap.PlainList D vs.toArray)(d:bd P s'.heap ar l vs)(st:St ar i s')(kp:Kp s s')(sub:∀a∈C::D::(W++hid),a∈ar)
  (dI:aU P K' ce (W++(D::out)) pv m₂ B gZ aQ) (ro:Ks (W++(D::out)) ar pv s' gZ) (Lx:∀b o,b≠T->s'.heap.get? b=some o->gZ.heap.get? b=some o):CS P K' ce out hid B s C D W St i aQ l gZ:=
 ⟨pv,m₂,vs,dI,p.at fun o e=>Lx D o (ft c.TD) e,bd.ks d ro,c.hI.frame ar pv i s' gZ (fun a h=>sub a (.tail _ (.tail _ (cP _ h)))) st (ro.only fun a h=>cP _ h),
  ⟨fun b o h=>Lx b o (fun z=>nomatch(z▸c.sT).symm.trans h) (kp.keep b o h),kp.gens.trans ro.gens,ro.os.trans kp.os⟩,fun a h=>ro.sub a (sub a h)⟩
theorem CS.app(c:ue P K' A ce T B s xs I C D W gi St){ar:List Addr}{m':Str->Option Value}{vs:List Value}{h':Heap}{y:V}{u:Value}(S:aU P K' ce (W++(D::out)) ar m' B s' ρ)(d:bd P s'.heap ar l vs)(st:St ar i s')(kp:Kp s s')(sub:∀a∈C::D::(W++hid),a∈ar)
  (k:Kp s' gZ) (hu:Dn P gZ.heap ar y u) (hp:h'.PlainList D (vs++[u]).toArray) (v9:Heap.SameBut D gZ.heap h'):CS P K' ce out hid B s C D W St i ρ (l++[y]) {gZ with heap:=h'}:=by
 have kD:∀b o,b≠D->gZ.heap.get? b=some o->h'.get? b=some o:=fun b o hb e=>(v9.2 b hb).trans e
 have hD:D∈ar:=sub D (.tail _ (.head _));have Ce:∀a∈W,a∈ar:=fun a h=>sub a (.tail _ (.tail _ (cP _ h)))
 have one:∀a∈[D],a=D:=fun a h=>cq.mp h
 have mv:Mv [D] none gZ {gZ with heap:=h'}:=⟨⟨fun b o hb e=>kD b o (fun z=>hb (z▸ .head _)) e,fun j x ø h=>h,id,rfl⟩,fun a ha=>by
  rw[one a ha];exact hp.elim fun k e=>⟨_,e⟩⟩
 exact⟨ar,m',vs++[u],(S.after k).step (W:=[D]) (fun a h=>ck _ (one a h▸ .head _)) mv (fun a h=>one a h▸c.hB D c.sD) (fun g q=>nomatch q),hp,(bd.but (bd.kp d k) hD v9).app (.one (Dn.but hu hD v9)),
  c.hI.frame ar ar i s' _ Ce st ⟨fun b o hb e=>kD b o (fun z=>hb.elim (fun w=>w (z▸hD)) (z▸c.WD)) (k.keep b o e),fun a h=>.inl h,fun a h=>h,k.gens,k.os⟩,
  ⟨fun b o h=>kD b o (fun z=>nomatch(z▸c.sD).symm.trans h) ((kp.trans k).keep b o h),(kp.trans k).gens,(kp.trans k).os⟩,sub⟩
end
inductive CompI(P:Pk)(K':Cx)(ce:Env)(out hid:List Addr)(B s:Shared)(xs l:List V)(asg:ao->V->Option ao)(tf:ao->Option Bool)(ef:ao->Option V)(C D:Addr)(W:List Addr)(St:List Addr->Nat->Shared->Prop)(k:Nat)(s':Shared):Prop
 |mk (i:Nat) (am:ao) (l₁ rest:List V) (e:k+i=xs.length) (le:l₁.length<=i) (S:CS P K' ce out hid B s C D W St i am l₁ s') (c:nK asg tf ef (xs.drop i) am=some rest) (el:l=l₁++rest):CompI P K' ce out hid B s xs l asg tf ef C D W St k s'
theorem FD{elt:Expr}{ef}(he:em P n K' false elt ef){A:Around}{ce:Env}{TC:Addr}{out hid:List Addr}{B s s':Shared}{xs l:List V}{I C D:Addr}{W:List Addr}{gi:Option Nat}{St:List Addr->Nat->Shared->Prop}{R:Result->Shared->Prop}{i:Nat}{ρ:ao}{J:Shared->Prop}{ok:Bool}
  (rm:cJ n A) (hl:l.length<most) (c:ue P K' A ce TC B s xs I C D W gi St) (h:CS P K' ce out hid B s C D W St i ρ l s') (hJ:(ok=false->J s')/\(ok=true->∃y,ef ρ=some y/\∀FF,CS P K' ce out hid B s C D W St i ρ (l++[y]) FF->J FF)):
  CX P A R elt (.ref D) ce J ok s':=by
 cases ok with
 |false=>exact hJ.1 rfl
 |true=>
  obtain⟨y,hy,hJ⟩:=hJ.2 rfl;obtain⟨ar,m',vs,S,p,d,st,kp,sub⟩:=h;refine aD (he A ce (W++(D::out)) ar m' B s' ρ y _ rm S hy) (fun u rn sK=>?_) fun ø ø q=>q
  obtain⟨Sj,hu⟩:=sK;refine wpAny_list_append_plain (p.at fun o e=>Sj.keep D o e) (fun h' lS v9=>hJ _ (CS.app c S d st kp sub Sj hu (List.push_toArray vs u▸lS) v9)) ?_;have:=d.length;have hm:=cR;rw[cb,this];omega
theorem FH{elt target:Expr}{ifs:List Expr}{asg tf ef}{T:Env->Addr}(ha:NB P K' T target asg)(ht:wj P n K' ifs tf)(he:em P n K' false elt ef){A:Around}{ce:Env}{out hid:List Addr}{B s s':Shared}{xs l:List V}{I C D:Addr}{W:List Addr}{gi:Option Nat}{St:List Addr->Nat->Shared->Prop}{R:Result->Shared->Prop}{i:Nat}{ρ aQ:ao}{J:Shared->Prop}{ok:Bool}{x:V}
  (rm:cJ n A) (c:ue P K' A ce (T ce) B s xs I C D W gi St) (hx:xs[i]?=some x) (h:CS P K' ce out hid B s C D W St i ρ l s') (h1:asg ρ x=some aQ) (h2:tf aQ=some ok) (hl:l.length<most)
  (hJ:∀s₃,CS P K' ce out hid B s C D W St (i+1) aQ l s₃->(ok=false->J s₃)/\(ok=true->∃y,ef aQ=some y/\∀FF,CS P K' ce out hid B s C D W St (i+1) aQ (l++[y]) FF->J FF)):
  wpAny (model P.prog P.w) A (pyNext (.ref I)) (CT P A R elt target ifs (.ref D) ce J (.ref I)) (CE P A R ce) s':=by
 obtain⟨ar,m',vs,S',p,d,Cf,kps,sub⟩:=h;have Ce:∀a∈W,a∈ar:=fun a h=>sub a (.tail _ (.tail _ (cP _ h)))
 refine aD (c.hI.item ar i s' x _ hx Ce S'.G S'.live Cf) (fun r s₁ aj=>?_) fun ø ø q=>q
 obtain⟨v,rfl,hv,st₁,hq,mv⟩:=aj;have d₁:bd P s₁.heap ar l vs:=bd.grow d (fun a o ha e=>mv.keep a o (fun z=>ha (Ce a z)) e) fun a h=>.inl h
 refine zZ hq (aD (ha A ce (W++(D::out)) ar m' B s₁ ρ aQ x v _ rm.handled (S'.step (fun a h=>cP _ h) mv (fun a h=>c.hB a (c.hW a h)) c.NC) h1 hv) (fun ø s₂ aM=>?_) fun ø ø q=>q);obtain⟨pv,m₂,dI,ro,Lx⟩:=aM;have Sk:=CS.assign c (p.at fun o e=>mv.keep D o c.WD e) d₁ st₁ (kps.Zc mv.toMv0 c.hW c.hg) sub dI ro Lx;refine aD (ht A ce (W++(D::out)) pv m₂ B s₂ aQ ok _ rm dI h2) (fun Vi s₃ eo=>?_) fun ø ø q=>q
 obtain⟨CU,rfl⟩:=eo;exact FD he rm hl c (Sk.kp c CU) (hJ _ (Sk.kp c CU))
theorem FI{elt target:Expr}{ifs:List Expr}{asg tf ef}{T:Env->Addr}(ha:NB P K' T target asg)(ht:wj P n K' ifs tf)(he:em P n K' false elt ef){A:Around}{ce:Env}{out hid:List Addr}{B s s':Shared}{xs l:List V}{I C D:Addr}{W:List Addr}{gi:Option Nat}{St:List Addr->Nat->Shared->Prop}{R:Result->Shared->Prop}{k:Nat}
  (rm:cJ n A) (hl:xs.length<most) (c:ue P K' A ce (T ce) B s xs I C D W gi St)
  (fin:∀s₁ m₁ (vs:List Value),Kp s s₁->s₁.heap.PlainList D vs.toArray->bd P s₁.heap (C::D::hid) l vs->s₁.heap.Ns C m₁->R (.ok .next) s₁)
  (h:CompI P K' ce out hid B s xs l asg tf ef C D W St k s'):wpAny (model P.prog P.w) A (pyNext (.ref I)) (CT P A R elt target ifs (.ref D) ce (fun t=>∃m,m<k/\CompI P K' ce out hid B s xs l asg tf ef C D W St m t) (.ref I)) (CE P A R ce) s':=by
 obtain⟨i,am,l₁,rest,e,le,S,hc,el⟩:=h;by_cases eu:i<xs.length
 ·rw[List.drop_eq_getElem_cons eu]at hc
  refine ak hc fun di h1 hc=>ak hc fun okb h2 hc=>?_
  obtain⟨j,hj⟩:=Nat.exists_eq_add_of_lt eu;have hk:k=j+1:=by omega
  have Sl:j+(i+1)=xs.length:=by omega
  refine FH ha ht he rm c (iG eu) S h1 h2 (fq (az le (dU eu)) hl) fun s₃ rr=>⟨fun z=>?_,fun z=>?_⟩
  ·exact⟨j,hk▸mJ j,i+1,di,l₁,rest,Sl,ez le,rr,(au (z▸nofun)).symm.trans hc,el⟩
  ·refine ak ((aw z).symm.trans hc) fun y hy hc=>cI hc fun r hr er=>⟨y,hy,fun FF WN=>⟨j,hk▸mJ j,i+1,di,l₁++[y],r,Sl,?_,WN,hr,?_⟩⟩
   ·rw[aY];exact jO le 1
   ·rw[el,<-er,List.append_assoc];rfl
 ·have hie:i=xs.length:=by omega
  rw[tB (tw eu)]at hc;have er:=Option.some.inj hc;obtain⟨ar,m',vs,S',p,d,st,kp,sub⟩:=S;have Ce:∀a∈W,a∈ar:=fun a h=>sub a (.tail _ (.tail _ (cP _ h)))
  refine aD (c.hI.done ar s' _ Ce S'.G S'.live (hie▸st)) (fun r s₁ aj=>?_) fun ø ø q=>q
  obtain⟨rfl,mv⟩:=aj;have dl:bd P s₁.heap ar l vs:=by
   rw[el,<-er,dZ];exact bd.grow d (fun a o ha e=>mv.keep a o (fun z=>ha (Ce a z)) e) fun a h=>.inl h
  obtain⟨o,es,ep,ho,hr⟩:=S'.ns;rw[c.lc]at ho;exact fin s₁ m' vs (kp.Zc mv c.hW c.hg) (p.at fun o e=>mv.keep D o c.WD e) (dl.less fun a h=>sub a ((bI.mp h).elim (fun e=>e▸ .head _) fun h=>.tail _ ((bI.mp h).elim (fun e=>e▸ .head _) fun h=>.tail _ (ck _ h)))) ⟨o,es,ep,mv.keep C o c.WC ho,hr⟩
theorem CV{elt target iter:Expr}{ifs:List Expr}{scope:Scope}{pos:Pos}{asg tf ef}{nt:Nat}{cap:List Nat}(ok:si K K' nt cap scope){T:Env->Addr}(ha:NB P K' T target asg)(ht:wj P n K' ifs tf)(he:em P n K' false elt ef){A:Around}{env:Env}{out hid:List Addr}{m Ly}
  {B s s₂ j8:Shared} {ρ:ao} {xs l:List V} {C D:Addr} {cs:List (Str×Addr)} {X:List Addr} {it:Value} {R:Result->Shared->Prop} (rm:cJ n A) (S:aU P K env out hid m B s ρ) (hl:xs.length<most) (hc:nK asg tf ef xs (pX nt cap ρ)=some l) (h:Sf P A hid xs s s₂ it)
  (k4:Kp s₂ j8) (D0:s₂.heap.get? D=none) (C0:s₂.heap.get? C=none) (FC:C≠D) (lst:j8.heap.PlainList D ([]:List Value).toArray) (ns:j8.heap.Ns C Ly) (hX:∀a∈X,s₂.heap.get? a=none/\a≠D) (lX:cD j8.heap X)
  (Cd:∀x c,scope.names.lookup x=some .free->env.cells.lookup x=some c->cs.lookup x=some c) (Lv:∀x,scope.names.lookup x=some .cell->∃c,cs.lookup x=some c/\c∈X/\j8.heap.IsCell c none) (WL:∀x y c,cs.lookup x=some c->cs.lookup y=some c->x=y) (hT:HF scope T)
  (fin:∀s₁ m₁ (vs:List Value),s.heap.get? D=none->s.heap.get? C=none->Kp s s₁->s₁.heap.PlainList D vs.toArray->bd P s₁.heap (C::D::hid) l vs->s₁.heap.Ns C m₁->R (.ok .next) s₁):
  codeAny (model P.prog P.w) A (.compStart (.ListComp elt [⟨target,iter,ifs,0⟩] scope pos) 0 it (.ref D) (compEnvC scope cs C env)) R j8:=by
 obtain⟨I,W,gi,St,rfl,kp,hI,hW,lW,hg,st⟩:=h;have fresh:∀a,s₂.heap.get? a=none->s.heap.get? a=none:=fun a h=>by
  cases e:s.heap.get? a with
  |none=>rfl
  |some o=>exact nomatch(kp.keep a o e).symm.trans h
 have WC:C∉W:=fun h=>(lW C h).elim fun o e=>nomatch C0.symm.trans e
 have WD:D∉W:=fun h=>(lW D h).elim fun o e=>nomatch D0.symm.trans e
 have NC:∀g,gi=some g->B.gens.size<=g:=fun g e=>az S.kp.gens.size (hg g e)
 have Ze:s₂.heap.get? (T (compEnvC scope cs C env))=none/\T (compEnvC scope cs C env)≠D:=by
  cases hT with
  |loc=>exact⟨C0,FC⟩
  |cell x h=>
   obtain⟨d,q1,q2,_⟩:=Lv x h;have e:Er x (compEnvC scope cs C env)=d:=by
    show(cs.lookup x).getD 0=d;rw[q1];rfl
   rw[e];exact hX d q2
 have WX:∀a∈X,a∉W:=fun a h q=>(lW a q).elim fun o e=>nomatch(hX a h).1.symm.trans e
 have c:ue P K' A (compEnvC scope cs C env) (T (compEnvC scope cs C env)) B s xs I C D W gi St:=⟨hI,hW,hg,fun a h=>S.fresh h,NC,fresh C C0,fresh D D0,FC,WC,WD,rfl,fresh _ Ze.1,Ze.2⟩;have ru:=S.comp ok (C:=C) (D:=D) (W:=W) (X:=X) (kp.trans k4) (fun a h=>fresh a (hX a h).1) lX Cd (fun x h=>(Lv x h).elim fun d q=>⟨d,q.1,q.2.1,WX d q.2.1,(hX d q.2.1).2,q.2.2⟩) WL hW c.sC c.sD FC WC (lW.kp k4) (lst.elim fun k q=>⟨_,q⟩) ns;have ND:St (C::D::(W++(X++hid))) 0 j8:=hI.frame (W++hid) (C::D::(W++(X++hid))) 0 s₂ j8 (fun a h=>cP _ h) st ⟨fun b o ø e=>k4.keep b o e,fun a h=>(bI.mp h).elim (fun e=>.inr (e▸C0)) fun h=>(bI.mp h).elim (fun e=>.inr (e▸D0)) fun h=>(bZ.mp h).elim (fun h=>.inl (cP _ h)) fun h=>(bZ.mp h).elim (fun h=>.inr (hX a h).1) fun h=>.inl (ck _ h),fun a h=>.tail _ (.tail _ ((bZ.mp h).elim (fun h=>cP _ h) fun h=>ck _ (ck _ h))),k4.gens,k4.os⟩;have main:=oq (iter:=iter) (scope:=scope) (pos:=pos) (fun k s'=>CompI P K' (compEnvC scope cs C env) out hid B s xs l asg tf ef C D W St k s') (fun k s' h=>FI ha ht he rm hl c (fun s₁ m₁ vs=>fin s₁ m₁ vs c.sD c.sC) h) xs.length
  ⟨0,pX nt cap ρ,[],l,rfl,eK _,⟨C::D::(W++(X++hid)),_,[],ru,lst,bq.nil,ND,kp.trans k4,fun a h=>(bI.mp h).elim (fun e=>e▸ .head _) fun h=>.tail _ ((bI.mp h).elim (fun e=>e▸ .head _) fun h=>.tail _ ((bZ.mp h).elim (fun h=>cP _ h) fun h=>ck _ (ck _ h)))⟩,hc,rfl⟩
 exact codeAny_compStart_list main (hI.self _ 0 j8 _ _ ND main)
theorem HG{α:Type}{asg:ao->V->Option ao}{tf:ao->Option Bool}{ef:ao->Option V}(I:ao->Prop)(toV:α->V)(p:α->Bool)(h:α->V):∀(us:List α) (ρ:ao),(∀x∈us,∀ρ,I ρ->∃am,asg ρ (toV x)=some am/\I am/\tf am=some (p x)/\(p x=true->ef am=some (h x)))->I ρ->nK asg tf ef (us.map toV) ρ=some ((us.filter p).map h):=by
 intro us
 induction us with
 |nil=>exact fun ø ø ø=>rfl
 |cons x xs ih=>
  intro ρ hs hI;obtain⟨am,h1,h2,h3,h4⟩:=hs x (.head _) ρ hI;have ih:=ih am (fun y hy=>hs y (.tail _ hy)) h2;rw[bB,HE,h1,qS];show((tf am).bind fun ok=>if ok then(ef am).bind fun y=>(nK asg tf ef (xs.map toV) am).map (y:: ·)else nK asg tf ef (xs.map toV) am)=_;rw[h3,ih];show(if p x=true then(ef am).bind fun y=>(some _).map (y:: ·)else some _)=_;by_cases hp:p x=true
  ·rw[aw hp,aw hp,h4 hp];rfl
  ·rw[au hp,au hp]
theorem jp{α:Type}{it:ao->Option (List V)}{asg:ao->V->Option ao}{tf:ao->Option Bool}{ef:ao->Option V}{nt:Nat}{cap:List Nat}{ρ:ao}(I:ao->Prop)(us:List α)(toV:α->V)(p:α->Bool)(h:α->V)(hi:it ρ=some (us.map toV))(hm:us.length<most)
  (hs:∀x∈us,∀ρ,I ρ->∃am,asg ρ (toV x)=some am/\I am/\tf am=some (p x)/\(p x=true->ef am=some (h x))) (hI:I (pX nt cap ρ)):mS it asg tf ef nt cap ρ=some (.list ((us.filter p).map h)):=by
 unfold mS;rw[hi];show(if(us.map toV).length<most then _ else none)=_;rw[List.length_map,aw hm,HG I toV p h us _ hs hI];rfl
theorem gn{α:Type}{it:ao->Option (List V)}{asg:ao->V->Option ao}{ef:ao->Option V}{nt:Nat}{cap:List Nat}{ρ:ao}(I:ao->Prop)(us:List α)(toV:α->V)(h:α->V)(hi:it ρ=some (us.map toV))(hm:us.length<most)
  (hs:∀x∈us,∀ρ,I ρ->∃am,asg ρ (toV x)=some am/\I am/\ef am=some (h x)) (hI:I (pX nt cap ρ)):mS it asg (fun ø=>some true) ef nt cap ρ=some (.list (us.map h)):=
 (jp (tf:=fun ø=>some true) I us toV (fun ø=>true) h hi hm (fun x hx ρ hI=>by
  obtain⟨am,h1,h2,h3⟩:=hs x hx ρ hI;exact⟨am,h1,h2,rfl,fun ø=>h3⟩) hI).trans (by rw[List.filter_eq_self.mpr fun ø ø=>rfl])
theorem Lz{s:Shared}{o ns:Obj}{names:List (Str×NameKind)}{aj:Heap}(ho:o.isFreed=false)(hn:ns.isFreed=false)(hh:aj=pushCells ((s.heap.push o).push ns) names){Q:Prop}
  (h:Kp s {s with heap:=aj}->s.heap.get? s.heap.objs.size=none->s.heap.get? (s.heap.push o).objs.size=none->(s.heap.push o).objs.size≠s.heap.objs.size->aj.get? s.heap.objs.size=some o->aj.get? (s.heap.push o).objs.size=some ns->(∀a,(s.heap.push o).objs.size+1<=a->s.heap.get? a=none/\a≠s.heap.objs.size)->Q):Q:=by
 subst hh;have e:(s.heap.push o).objs.size=s.heap.objs.size+1:=jd ..;have cZ:(s.heap.push o).objs.size≠s.heap.objs.size:=e▸pi _;have up:∀a,s.heap.objs.size<=a->s.heap.get? a=none:=fun a ha=>by
  cases q:s.heap.get? a with
  |none=>rfl
  |some o=>exact absurd (ew q) (gY.mpr ha)
 exact h (.heap fun b o' q=>tA _ _ _ _ (bz _ (bz _ q))) (up _ (bL _)) (up _ (e▸kH _)) cZ (tA _ _ _ _ (bz _ (bJ _ ho))) (tA _ _ _ _ (bJ _ hn))
  fun a ha=>⟨up a (by omega),fun z=>by omega⟩
theorem OM{γ:Type}{c:Prop}[Decidable c]{a:Option γ}{z:γ}{G:Prop}(h:(if c then a else none)=some z)(k:c->a=some z->G):G:=by
 by_cases q:c
 ·exact k q ((aw q).symm.trans h)
 ·exact nomatch(au q).symm.trans h
theorem Aa{elt target iter:Expr}{ifs:List Expr}{scope:Scope}{pos:Pos}{it asg tf ef}{nt:Nat}{cap:List Nat}(hi:Lr P n K iter it)(ok:si K K' nt cap scope){T:Env->Addr}(ha:NB P K' T target asg)(hT:HF scope T)(ht:wj P n K' ifs tf)(he:em P n K' false elt ef)
  (hs:∀env x,foldedSetIterable iter env x=pure x) {A:Around} {env:Env} {out hid:List Addr} {m} {B s:Shared} {ρ:ao} {x:V} (E:Value->Shared->Prop) (rm:cJ n A) (S:aU P K env out hid m B s ρ) (hf:mS it asg tf ef nt cap ρ=some x) {ps:Pos}
  {use:Option (Value->Sem Unit)} {Q:Value->Shared->Prop}
  (LA:∀D C s₁ m₁ l (vs:List Value),x= .list l->s.heap.get? D=none->s.heap.get? C=none->C≠D->Kp s s₁->s₁.heap.PlainList D vs.toArray->bd P s₁.heap (C::D::hid) l vs->s₁.heap.Ns C m₁->compPost (model P.prog P.w) A E use Q (.ref D) C (.ok .next) s₁):
  wpAny (model P.prog P.w) A (comprehension (.ListComp elt [⟨target,iter,ifs,0⟩] scope pos) scope env ps (newList []) false (eval iter env) use) Q E s:=by
 refine ak hf fun xs x7 gu=>?_
 refine OM gu fun hlen hq=>cI hq fun l hl e=>?_
 have nH:∀y∈scope.names,y.2= .free->∃c,env.cells.lookup y.1=some c:=fun y hy h=>by
  obtain⟨i,k,b,hv,hk⟩:=ok.free y hy h;obtain⟨ov,h1,_⟩:=S.slot i y.1 k b hv;rcases hk with rfl|rfl<;>simp only[At]at h1<;>exact⟨_,h1.choose_spec.1⟩
 refine wpAny_comprehension_free (g:=⟨target,iter,ifs,0⟩) (gs:=[]) rfl (hs env) (wi nH) ok.kind ok.names ?_;refine aD (hi A env out hid m B s ρ xs E rm S x7) (fun v s₁ aj=>aD aj (fun it' s₂ aM=>?_) fun ø ø q=>q) fun ø ø q=>q
 refine tC (x9 ?_);obtain⟨_,_,_,_,_,kp,_,_,_,_,_⟩:=id aM;refine Lz (s:=s₂) (o:={cls:=.type "list",dict:=none,data:=.seq ([]:List Value).toArray}) (ns:={cls:=.type "dict",data:=.dict #[]}) (names:=scope.names) rfl rfl rfl fun k4 D0 C0 FC lst lns FJ=>?_
 have low:∀x c,(x,c)∈eI env.cells scope.names []->c<s₂.heap.objs.size:=fun x c q=>(g9 q).elim (fun z=>nomatch z) fun z=>by
  obtain⟨i,k,b,hv,hk⟩:=ok.free (x,.free) z.2 rfl;obtain⟨ov,h1,_⟩:=S.slot i x k b hv;have:c∈hid:=by rcases hk with rfl|rfl<;>(obtain⟨c',q1,q2,_⟩:=h1;rw[z.1]at q1;cases q1;exact q2)
  obtain⟨o,ho⟩:=S.live c this;exact ew (kp.keep c o ho)
 have sh:((s₂.heap.push {cls:=.type "list",dict:=none,data:=.seq ([]:List Value).toArray}).push {cls:=.type "dict",data:=.dict #[]}).objs.size=(s₂.heap.push {cls:=.type "list",dict:=none,data:=.seq ([]:List Value).toArray}).objs.size+1:=jd ..;have aa2:(s₂.heap.push {cls:=.type "list",dict:=none,data:=.seq ([]:List Value).toArray}).objs.size=s₂.heap.objs.size+1:=jd ..;refine CV (Ly:=fun ø=>none) (X:=((cellsFrom ((s₂.heap.push {cls:=.type "list",dict:=none,data:=.seq ([]:List Value).toArray}).objs.size+1) scope.names (eI env.cells scope.names [])).filter fun y=>decide ((s₂.heap.push {cls:=.type "list",dict:=none,data:=.seq ([]:List Value).toArray}).objs.size+1<=y.2)).map (·.2)) ok ha ht he rm S hlen hl aM k4 D0 C0 FC ⟨0,lst⟩ ((Heap.Ns.new _ (.type "dict")).keeps (tA _ _)) (fun a q=>?_) (fun a q=>?_) (fun x c hx hc=>?_) (fun x hx=>?_) (fun x y c hx hy=>?_) hT fun s₁ m₁ vs sD sC kp p d ns=>LA _ _ s₁ m₁ l vs e.symm sD sC FC kp p d ns
 ·obtain⟨y,q0,rfl⟩:=dt.mp q
  exact FJ _ (cV (gw.mp q0).2)
 ·obtain⟨⟨x,c⟩,q0,rfl⟩:=dt.mp q
  obtain⟨q1,q2⟩:=gw.mp q0;rw[<-sh]at q1;rcases gz q1 with z|z
  ·have:=low x c z
   have q2:=cV q2;exact absurd this (by show ¬c<_;omega)
  ·exact z.2.elim fun o z=>⟨o,z.1⟩
 ·refine(j9 fun z=>?_).trans (HD hc (hO hx))
  rw[ok.ncell _ z rfl]at hx;cases hx
 ·obtain⟨c,hc⟩:=kf (k:=(s₂.heap.push {cls:=.type "list",dict:=none,data:=.seq ([]:List Value).toArray}).objs.size+1) (acc:=eI env.cells scope.names []) (.inl (hO hx))
  obtain⟨d,hd⟩:=mem_lookup hc;have hm:=lookup_mem hd;have ON:=hm;rw[<-sh]at ON;rcases gz ON with z|z
  ·rcases g9 z with z|z
   ·cases z
   ·rw[ok.free1 _ z.2 rfl]at hx;cases hx
  ·exact⟨d,hd,dt.mpr ⟨(x,d),gw.mpr ⟨hm,bo (sh▸z.1)⟩,rfl⟩,z.2⟩
 ·refine kb (fun x c q=>?_) (fun x y c h1 h2=>?_) x y c (lookup_mem hx) (lookup_mem hy)
  ·have:=low x c q;omega
  ·exact S.iz x y c ((gM h1).resolve_left (fun z=>nomatch z)) ((gM h2).resolve_left (fun z=>nomatch z))
theorem sj{elt target iter:Expr}{ifs:List Expr}{scope:Scope}{pos:Pos}{it asg tf ef}{nt:Nat}{cap:List Nat}(hi:Lr P n K iter it)(ok:si K K' nt cap scope){T:Env->Addr}(ha:NB P K' T target asg)(hT:HF scope T)(ht:wj P n K' ifs tf)(he:em P n K' false elt ef)
  (hs:∀env x,foldedSetIterable iter env x=pure x):Hs P n K (.ListComp elt [⟨target,iter,ifs,0⟩] scope pos) (mS it asg tf ef nt cap):=fun A env out hid m B s ρ x E rm S hf=>by
 rw[eval_ListComp];refine Aa (use:=none) hi ok ha hT ht he hs E rm S hf fun D C s₁ m₁ l vs hx sD sC FC kp Ab hd zP=>⟨m₁,zP,fun h' v9=>⟨⟨fun b o q=>(v9.2 b fun z=>by rw[z,sC]at q;cases q).trans (kp.keep b o q),kp.gens,kp.os⟩,?_⟩⟩
 subst hx;exact⟨D,vs,rfl,sD,Ab.at fun o e=>(v9.2 D (ft FC)).trans e,(bd.grow (P:=P) hd (fun a o ha e=>(v9.2 a fun z=>ha (by simp[z])).trans e) fun a h=>.inl h).less fun a h=>by simp at h ⊢;exact .inr h⟩
theorem fW{elt target iter:Expr}{ifs:List Expr}{scope:Scope}{pos:Pos}{it asg tf ef}{nt:Nat}{cap:List Nat}(hi:Lr P n K iter it)(ok:si K K' nt cap scope)(ha:En P K' true target asg)(ht:wj P n K' ifs tf)(he:em P n K' false elt ef)
 (hs:∀env x,foldedSetIterable iter env x=pure x):Hs P n K (.ListComp elt [⟨target,iter,ifs,0⟩] scope pos) (mS it asg tf ef nt cap):=sj hi ok (wX ha) .loc ht he hs
theorem Ac{elt iter:Expr}{x:Str}{p:Pos}{ifs:List Expr}{scope:Scope}{pos:Pos}{it tf ef}(i nt:Nat)(cap:List Nat)(hi:Lr P n K iter it)(ok:si K K' nt cap scope)(hv:K'.vars[i]?=some (x,.cell,false))(hx:scope.names.lookup x=some .cell)(ht:wj P n K' ifs tf)(he:em P n K' false elt ef)
 (hs:∀env x,foldedSetIterable iter env x=pure x):Hs P n K (.ListComp elt [⟨.Name x p,iter,ifs,0⟩] scope pos) (mS it (fun ρ y=>some (upd ρ i y)) tf ef nt cap):=sj hi ok (.cell i hv) (.cell x hx) ht he hs
theorem CW{elt:Expr}{gens:List Comprehension}{scope:Scope}{pos p:Pos}{line:Nat}{x:Str}{env:Env}(hk:env.scope.kind= .function)(hl:env.kindOf x=some .local)(hp:(p.line==pos.line)=true)
  (hn:(scope.names.any fun y=>y.1==x&&(y.2== .local||y.2== .cell))=false):swapsWith (.ListComp elt gens scope pos) (some (.Name x p)) line env=pure true:=by
 unfold swapsWith;have hb:env.blockKind= .function:=by unfold Env.blockKind;simp[hk,ScopeKind.isAnnotationScope]
 have e:(env.blockKind== .function&&env.kindOf x==some .local&&p.line==(Expr.ListComp elt gens scope pos).pos.line&&!(scope.names.any fun y=>y.1==x&&(y.2== .local||y.2== .cell)))=true:=by
  have WO:(p.line==(Expr.ListComp elt gens scope pos).pos.line)=true:=hp;rw[hb,hl,hn,WO];rfl
 show(pure _:Sem Bool)=pure true;exact congrArg _ e
theorem aU.rv{env:Env}{out hid:List Addr}{m}{B s:Shared}{ρ}(S:aU P K env out hid m B s ρ){a c:Addr}(h:a∈hid)(hc:s.heap.get? c=none):a≠c:=fun e=>(S.live a h).elim fun o q=>nomatch(e▸q).symm.trans hc
theorem aU.HH{env:Env}{out hid out' ar:List Addr}{m}{B s s₁:Shared}{ρ}(S:aU P K env out hid m B s ρ)(k:Kp s s₁){D:Addr}(hD:s.heap.get? D=none)(j:Nat)(x' k' a)(hj:K.vars[j]?=some (x',k',true))(e:Value.ref D= .ref a)(kR:At env m s₁.heap out' ar x' k' (some (.ref a))):ρ j=none:=by
 obtain⟨ov,q1,q2⟩:=S.slot j x' k' true hj;rw[<-At.NA kR q1 fun c v z=>z.keeps k.keep]at q2
 induction er:ρ j with
 |none=>rfl
 |some z=>
  rw[er]at q2;obtain⟨u,e',q2⟩:=q2;obtain⟨Y8,e'',z1,_⟩:=eP.addr (P:=P) q2;exact absurd (Value.ref.inj (e.trans ((Option.some.inj e').trans e''))) (S.rv z1 hD).symm
theorem Ad{env:Env}{out hid:List Addr}{m}{B s s₁:Shared}{ρ}(S:aU P K env out hid m B s ρ){i:Nat}{x:Str}{b:Bool}(Sm:K.vars[i]?=some (x,.local,b)){C:Addr}{m₁}{y:V}{v:Value}{A:Around}{E:Value->Shared->Prop}{p:Pos}(kp:Kp s s₁)(sC:s.heap.get? C=none)(zP:s₁.heap.Ns C m₁){X:List Addr}(hX:∀a∈X,s.heap.get? a=none)(lX:cD s₁.heap X)
  (hv:if b then eP P env.locals s₁.heap ([C]++out) ([C]++(X++hid)) y v else Dn P s₁.heap ([C]++(X++hid)) y v)
  (Cc:b=true->∀(j:Nat) x' k' a,j≠i->K.vars[j]?=some (x',k',true)->v= .ref a->At env m s₁.heap ([C]++out) ([C]++(X++hid)) x' k' (some (.ref a))->ρ j=none):
  wpAny (model P.prog P.w) A (assign (.Name x p) env v) (fun ø gZ=>∃m,gZ.heap.Ns C m/\∀h',Heap.SameBut C gZ.heap h'->Hc P K env out hid B s {gZ with heap:=h'} (upd ρ i y) .next .next) E s₁:=by
 have one:∀a∈[C],a=C:=fun a h=>cq.mp h
 obtain⟨o,es,ep,ho,hr⟩:=zP;have WP:=S.Hy (W:=[C]) (X:=X) kp (fun a h=>one a h▸sC) (fun a h=>⟨o,one a h▸ho⟩) hX lX;refine lz (WP.store Sm hv Cc (by decide) fun m' gZ S' jl ø=>⟨m₁,⟨o,es,ep,jl.keep C o (.inr (.head _)) ho,hr⟩,fun h' v9=>?_⟩);have hk:∀b o,b≠C->gZ.heap.get? b=some o->h'.get? b=some o:=fun b o hb q=>(v9.2 b hb).trans q
 have S'':=S'.last (s':={gZ with heap:=h'}) (gi:=none) ⟨fun b o hb q=>hk b o (fun z=>hb (z▸ .head _)) q,fun j y ø h=>h,id,rfl⟩ (fun a h=>one a h▸S.fresh sC) (fun g q=>nomatch q) fun a h q=>S.rv (S.oh a h) sC (one a q)
 refine⟨_,m',S'',⟨fun b o hb q=>?_,fun a h=>?_,fun a h=>?_,kp.gens.trans jl.gens,jl.os.trans kp.os⟩,rfl⟩
 ·have Zf:b≠C:=fun e=>nomatch(e▸q).symm.trans sC
  exact hk b o Zf (jl.keep b o (hb.imp (fun hn hm=>(bI.mp hm).elim Zf fun z=>(bZ.mp (show b∈X++hid from z)).elim (fun z=>nomatch(hX b z).symm.trans q) hn) (.tail _)) (kp.keep b o q))
 ·obtain⟨h1,h2⟩:=gw.mp h
  refine(bI.mp h1).elim (fun z=>?_) fun z=>(bZ.mp (show a∈X++hid from z)).elim (fun w=>.inr (hX a w)) .inl
  rw[z,Cq,qO]at h2;cases h2
 ·refine gw.mpr ⟨.tail _ (ck X h),?_⟩
  rw[Cq,kI.mpr (S.rv h sC)];rfl
theorem gO(i:Nat){x:Str}{b:Bool}{p WQ:Pos}{elt target iter:Expr}{ifs:List Expr}{scope:Scope}{pos:Pos}{it asg tf ef}{nt:Nat}{cap:List Nat}(Sm:K.vars[i]?=some (x,.local,b))
  (hi:Lr P n K iter it) (ok:si K K' nt cap scope) (ha:En P K' true target asg) (ht:wj P n K' ifs tf) (he:em P n K' false elt ef)
  (hs:∀env x,foldedSetIterable iter env x=pure x) (hp:(p.line==pos.line)=true) (hn:(scope.names.any fun y=>y.1==x&&(y.2== .local||y.2== .cell))=false):
  zQ P n K (.Assign [.Name x p] (.ListComp elt [⟨target,iter,ifs,0⟩] scope pos) WQ) (fun ρ=>(mS it asg tf ef nt cap ρ).map fun y=>(upd ρ i y,.next)):=fun A env out hid m B s ρ aQ fl E rm S hf=>by
 refine cI hf fun y hy e=>pair_inv e ?_
 rw[exec_Assign_Name_used _ _ _ _ (CW S.fn (S.kind i x _ b Sm) hp hn)];refine aA (lB (aA ?_));show wpAny _ A (do let _ <-comprehension (.ListComp elt [⟨target,iter,ifs,0⟩] scope pos) scope env _ (newList []) false (eval iter env) (some (assign (.Name x p) env))) _ _ s;refine aA (aD (Aa (use:=some (assign (.Name x p) env)) (Q:=fun ø s'=>Hc P K env out hid B s s' (upd ρ i y) .next .next) hi ok (wX ha) .loc ht he hs E rm S hy fun D C s₁ m₁ l vs hx sD sC FC kp Ab hd zP=>?_) (fun ø s' hq=>bK (bK hq)) fun ø ø e=>e);show wpAny _ A (assign (.Name x p) env (.ref D)) _ _ _;have one:∀a∈[D],a=D:=fun a h=>cq.mp h
 induction b with
 |false=>
  exact Ad S Sm kp sC zP (X:=[]) (fun a h=>nomatch h) (fun a h=>nomatch h) (hx.symm▸Dn.ofList (fun h=>(bI.mp h).elim FC.symm fun h=>S.rv h sD rfl) Ab (hd.less fun a h=>(bI.mp h).elim (fun e=>e▸ .head _) fun h=>.tail _ (.tail _ h))) nofun
 |true=>
  exact Ad S Sm kp sC zP (X:=[D]) (fun a h=>one a h▸sD) (fun a h=>one a h▸Ab.elim fun k e=>⟨_,e⟩) (hx.symm▸eP.ofList (.tail _ (.head _)) (fun h=>(bI.mp h).elim FC.symm fun h=>S.rv (S.oh D h) sD rfl) (fun e=>S.rv S.Lh sD e.symm) Ab hd) fun ø j x' k' a hj qJ e kR=>S.HH kp sD j x' k' a qJ e kR
end
section
variable{P:Pk}{n:Nat}{K K':Cx}{lo:Bool}
noncomputable def mY(xs:List V):ao:=fun j=>xs[j]?
noncomputable def Sn:ao×Fl->Option V
 |(_,.next)=>some .none
 |(_,.ret x)=>some x
 |_=>none
structure uf(K:Cx)(sc:Scope)(ps:List Str):Prop where
 kind:sc.kind= .function
 vars:∀(j:Nat) x k b,K.vars[j]?=some (x,k,b)->sc.names.lookup x=some k/\(k= .local\/k= .cell)
 pars:∀(j:Nat) x,ps[j]?=some x->∃k,K.vars[j]?=some (x,k,false)
 glob:∀x∈K.aV,sc.names.lookup x=some .globalImplicit
 nodup:∀(i j:Nat) x k b k' b',K.vars[i]?=some (x,k,b)->K.vars[j]?=some (x,k',b')->i=j
noncomputable def LB(K:Cx)(sc:Scope)(ps:List Str):Bool:=
 sc.kind== .function&&(K.vars.all fun z=>sc.names.lookup z.1==some z.2.1&&(z.2.1== .local||z.2.1== .cell))&&decide ((K.vars.take ps.length).map (fun z=>(z.1,z.2.2))=ps.map fun x=>(x,false))&&
 (K.aV.all fun x=>sc.names.lookup x==some .globalImplicit)&&decide (K.vars.map (·.1)).Nodup
theorem uf.of{sc:Scope}{ps:List Str}(h:LB K sc ps=true):uf K sc ps:=by
 simp only[LB,bX,cH,jN,lx,mI]at h;obtain⟨⟨⟨⟨h1,h2⟩,h3⟩,h4⟩,h5⟩:=h;refine⟨h1,fun j x k b hj=>?_,fun j x hj=>?_,h4,fun i j x k b k' b' hi hj=>?_⟩
 ·have:=h2 (x,k,b) (oO hj)
  exact⟨this.1,this.2⟩
 ·have e:((K.vars.take ps.length).map (fun z=>(z.1,z.2.2)))[j]?=some (x,false):=by rw[h3,dh,hj];rfl
  rw[dh]at e;refine cI e fun z hz e=>?_
  rw[List.getElem?_take]at hz;split at hz
  ·obtain⟨x',k,b⟩:=z
   cases e;exact⟨k,hz⟩
  ·cases hz
 ·have e1:(K.vars.map (·.1))[i]?=some x:=by rw[dh,hi];rfl
  have e2:(K.vars.map (·.1))[j]?=some x:=by rw[dh,hj];rfl
  have R7:i<(K.vars.map (·.1)).length:=by
   by_cases q:i<(K.vars.map (·.1)).length
   ·exact q
   ·rw[na (by omega)]at e1;cases e1
  exact(List.getElem?_inj R7 h5).mp (e1.trans e2.symm)
set_option tactic.hygienic true in
theorem gS{x:Str}:∀{names:List (Str×NameKind)} {k:Nat} {acc:List (Str×Addr)},((x,NameKind.cell)∈names\/∃c,(x,c)∈acc)->∃c,(x,c)∈cellsFrom k names acc
 |[],k,acc,h=>by
  rcases h with h|h
  ·cases h
  ·exact h
 |(y,kd)::r,k,acc,h=>by
  unfold cellsFrom;split
  ·rename_i hk
   refine gS ?_;rcases h with h|⟨c,h⟩
   ·rcases bI.mp h with q|q
    ·cases q;exact .inr ⟨k,by simp⟩
    ·exact .inl q
   ·exact .inr ⟨c,by simp[h]⟩
  ·rename_i hk
   refine gS ?_;rcases h with h|h
   ·rcases bI.mp h with q|q
    ·cases q;exact absurd rfl hk
    ·exact .inl q
   ·exact .inr h
theorem Ae{kindOf:Str->Option NameKind}:∀{l:List (Str×Value)} {m:Str->Option Value} {x:Str},(∀y∈l,y.1≠x)->bindL kindOf l m x=m x
 |[],_,_,_=>rfl
 |(y,v)::r,m,x,h=>by
  unfold bindL;rw[Ae fun z hz=>h z (by simp[hz])];have:x≠y:=fun e=>h (y,v) (by simp) e.symm
  split
  ·simp[this]
  ·rfl
theorem Af{kindOf:Str->Option NameKind}:∀{l:List (Str×Value)} {m:Str->Option Value} {x:Str},(∀y∈l,y.1≠x)->bindC kindOf l m x=m x
 |[],_,_,_=>rfl
 |(y,v)::r,m,x,h=>by
  unfold bindC;rw[Af fun z hz=>h z (by simp[hz])];have:x≠y:=fun e=>h (y,v) (by simp) e.symm
  split
  ·rfl
  ·simp[this]
theorem Ag{kindOf:Str->Option NameKind}:∀{ps:List Str} {vs:List Value} {m:Str->Option Value} {j:Nat} {x:Str} {v:Value},ps.Nodup->ps[j]?=some x->vs[j]?=some v->kindOf x=some .local->bindL kindOf (ps.zip vs) m x=some v
 |[],_,_,_,_,_,_,h,_,_=>by simp at h
 |_::_,[],_,_,_,_,_,_,h,_=>by simp at h
 |p::ps,u::vs,m,0,x,v,hn,hp,hv,hk=>by
  simp at hp hv;subst hp;subst hv;rw[pj];unfold bindL;rw[aw hk,Ae (x:=p) fun y hy e=>(mK.mp hn).1 (by have:=(List.of_mem_zip hy).1;rwa[e]at this)];simp
 |p::ps,u::vs,m,j+1,x,v,hn,hp,hv,hk=>by
  rw[pj];unfold bindL;exact Ag (mK.mp hn).2 (by simpa using hp) (by simpa using hv) hk
theorem Ah{kindOf:Str->Option NameKind}:∀{ps:List Str} {vs:List Value} {m:Str->Option Value} {j:Nat} {x:Str} {v:Value},ps.Nodup->ps[j]?=some x->vs[j]?=some v->kindOf x≠some .local->bindC kindOf (ps.zip vs) m x=some v
 |[],_,_,_,_,_,_,h,_,_=>by simp at h
 |_::_,[],_,_,_,_,_,_,h,_=>by simp at h
 |p::ps,u::vs,m,0,x,v,hn,hp,hv,hk=>by
  simp at hp hv;subst hp;subst hv;rw[pj];unfold bindC;rw[au hk,Af (x:=p) fun y hy e=>(mK.mp hn).1 (by have:=(List.of_mem_zip hy).1;rwa[e]at this)];simp
 |p::ps,u::vs,m,j+1,x,v,hn,hp,hv,hk=>by
  rw[pj];unfold bindC;exact Ah (mK.mp hn).2 (by simpa using hp) (by simpa using hv) hk
end
section
variable{P:Pk}{n:Nat}{K K':Cx}{lo:Bool}
theorem aU.perm{env:Env}{out hid ar:List Addr}{m}{B s:Shared}{ρ}(S:aU P K env out hid m B s ρ)(h:∀a,a∈ar<->a∈hid):aU P K env out ar m B s ρ:=
 S.grow (.refl s) (fun a q=>(h a).mpr q) (fun a q=>.inl ((h a).mp q)) fun a q=>S.live a ((h a).mp q)
inductive kg(P:Pk)(L:Addr)(h:Heap)(out hid:List Addr):List Bool->List V->List Value->List Addr->Prop
 |nil:kg P L h out hid [] [] [] []
 |dat {bs xs vs H x v} (d:Dn P h hid x v) (r:kg P L h out hid bs xs vs H):kg P L h out hid (false::bs) (x::xs) (v::vs) H
 |box {bs xs vs H x a} (ha:a∉H) (b:eP P L h out hid x (.ref a)) (r:kg P L h out hid bs xs vs H):kg P L h out hid (true::bs) (x::xs) (.ref a::vs) (a::H)
theorem kg.grow{L:Addr}{h h':Heap}{out hid ar:List Addr}(hk:∀a o,h.get? a=some o->h'.get? a=some o)(hh:∀a∈hid,a∈ar)(hn:∀a∈ar,a∈hid\/h.get? a=none){bs:List Bool}{xs:List V}{vs:List Value}{H:List Addr}(e:kg P L h out hid bs xs vs H):kg P L h' out ar bs xs vs H:=by
 induction e with
 |nil=>exact .nil
 |dat d _ ih=>exact .dat (Dn.grow (P:=P) d (fun a o ø q=>hk a o q) hn) ih
 |box ha b _ ih=>exact .box ha (eP.grow (P:=P) b hk hh hn) ih
inductive So(P:Pk)(K:Cx)(env:Env)(out hid:List Addr)(m:Str->Option Value)(B s s':Shared)(ρ:ao)(bs:List Bool)(xs:List V)(vs:List Value):Prop
 |mk (H:List Addr) (S:aU P K env out (H++hid) m B s' ρ) (k:Kp s s') (n:∀a∈H,s.heap.get? a=none) (r:kg P env.locals s'.heap out (H++hid) bs xs vs H):So P K env out hid m B s s' ρ bs xs vs
noncomputable def fX(P:Pk)(n:Nat)(K:Cx)(es:List Expr)(bs:List Bool)(f:ao->Option (List V)):Prop:=
 ∀(A:Around) (env:Env) (out hid:List Addr) (m:Str->Option Value) (B s:Shared) (ρ:ao) (xs:List V) (E:Value->Shared->Prop) (pos:Pos),cJ n A->aU P K env out hid m B s ρ->f ρ=some xs->
  wpAny (model P.prog P.w) A (spliced (backTo pos (starEach es env))) (fun vs s'=>So P K env out hid m B s s' ρ bs xs vs) E s
theorem fX.nil:fX P n K [] [] fun ø=>some []:=fun A env out hid m B s ρ x E pos rm S hf=>by
 cases hf;exact nk ⟨[],S,.refl s,fun a h=>(nomatch h),.nil⟩
theorem fX.dat{e:Expr}{es:List Expr}{bs f g}(h:em P n K false e f)(hs:fX P n K es bs g)(he:∀env,starEach (e::es) env=(false,eval e env)::starEach es env):fX P n K (e::es) (false::bs) (cW f g):=
 fun A env out hid m B s ρ x E pos rm S hf=>by
 refine ak hf fun y hy gu=>?_
 clear hf;rename _=>hf
 refine ak hf fun ys Hi gu=>?_
 clear hf;rename _=>hf
 cases hf;refine m7 (aD (h A env out hid m B s ρ y E rm S hy) (fun v s₁ aj=>?_) fun ø ø q=>q) (he env);refine aD (hs A env out hid m B s₁ ρ ys E pos rm (S.after aj.1) Hi) (fun vs s₂ aM=>?_) fun ø ø q=>q
 obtain⟨H,dI,k₂,hH,hr⟩:=aM;refine⟨H,dI,aj.1.trans k₂,fun a q=>?_,.dat (Dn.grow (P:=P) aj.2 (fun a o ø z=>k₂.keep a o z) (fun a q=>(bZ.mp q).elim (fun z=>.inr (hH a z)) .inl)) hr⟩
 cases e:s.heap.get? a with
 |none=>rfl
 |some o=>have:=hH a q;rw[aj.1.keep a o e]at this;cases this
theorem fX.new{e:Expr}{es:List Expr}{bs f g}(h:Hs P n K e f)(hs:fX P n K es bs g)(he:∀env,starEach (e::es) env=(false,eval e env)::starEach es env):fX P n K (e::es) (true::bs) (cW f g):=
 fun A env out hid m B s ρ x E pos rm S hf=>by
 refine ak hf fun y hy gu=>?_
 clear hf;rename _=>hf
 refine ak hf fun ys Hi gu=>?_
 clear hf;rename _=>hf
 cases hf;refine m7 (aD (h A env out hid m B s ρ y E rm S hy) (fun v s₁ aj=>?_) fun ø ø q=>q) (he env);obtain⟨a,rfl,ha,hah,OE,K5⟩:=Hr.box (P:=P) (out:=out) (L:=env.locals) aj.2 S.live S.oh S.Lh;have new:∀b∈a::hid,b∈hid\/s.heap.get? b=none:=fun b hb=>(bI.mp hb).elim (fun q=>.inr (q▸ha)) .inl
 have live:cD s₁.heap (a::hid):=fun b hb=>(bI.mp hb).elim (fun q=>q▸K5) (S.live.kp aj.1 b)
 have bC:=S.grow aj.1 (fun b q=>ge _ q) new live;refine aD (hs A env out (a::hid) m B s₁ ρ ys E pos rm bC Hi) (fun vs s₂ aM=>?_) fun ø ø q=>q
 obtain⟨H,dI,k₂,hH,hr⟩:=aM;have hp:∀b,b∈(a::H)++hid<->b∈H++(a::hid):=fun b=>by simp;constructor<;>rintro(q|q|q)<;>simp[q]
 have Vj:a∉H:=fun q=>by obtain⟨o,z⟩:=K5;rw[hH a q]at z;cases z
 refine⟨a::H,dI.perm hp,aj.1.trans k₂,fun b q=>?_,.box Vj ?_ ?_⟩
 ·rcases bI.mp q with rfl|q
  ·exact ha
  ·cases e:s.heap.get? b with
   |none=>rfl
   |some o=>have:=hH b q;rw[aj.1.keep b o e]at this;cases this
 ·exact eP.grow (P:=P) OE k₂.keep (fun b q=>by simp at q ⊢;rcases q with q|q<;>simp[q]) fun b q=>by
   rcases bZ.mp q with q|q
   ·rcases bI.mp q with rfl|q
    ·exact .inl (by simp)
    ·exact .inr (hH b q)
   ·exact .inl (by simp[q])
 ·exact kg.grow (P:=P) (fun ø ø q=>q) (fun b q=>(hp b).mpr q) (fun b q=>.inl ((hp b).mp q)) hr
theorem kg.app{L:Addr}{h:Heap}{out hid:List Addr}{Zg:List Bool}{NE:List V}{v8:List Value}{H':List Addr}(e':kg P L h out hid Zg NE v8 H'){bs:List Bool}{xs:List V}{vs:List Value}{H:List Addr}(hd:∀a∈H,a∉H')(e:kg P L h out hid bs xs vs H):kg P L h out hid (bs++Zg) (xs++NE) (vs++v8) (H++H'):=by
 induction e with
 |nil=>exact e'
 |dat d _ ih=>exact .dat d (ih hd)
 |box ha b _ ih=>exact .box (fun q=>(bZ.mp q).elim ha (hd _ gI)) b (ih fun c q=>hd c (ge _ q))
theorem kg.rev{L:Addr}{h:Heap}{out hid:List Addr}{bs:List Bool}{xs:List V}{vs:List Value}{H:List Addr}(e:kg P L h out hid bs xs vs H):kg P L h out hid bs.reverse xs.reverse vs.reverse H.reverse:=by
 induction e with
 |nil=>exact .nil
 |dat d _ ih=>
  have:=kg.app (.dat d .nil) (fun a ø q=>nomatch q) ih;rw[lC,lC,lC];rwa[dZ]at this
 |box ha b _ ih=>
  rw[lC,lC,lC,lC];exact kg.app (.box tD b .nil) (fun c hc q=>ha (cq.mp q▸List.mem_reverse.mp hc)) ih
theorem kg.but{L:Addr}{h h':Heap}{out hid:List Addr}(hk:∀a o,a∉hid->h.get? a=some o->h'.get? a=some o)(hb:∀a o,mR h a->a≠L->h.get? a=some o->h'.get? a=some o){bs:List Bool}{xs:List V}{vs:List Value}{H:List Addr}(e:kg P L h out hid bs xs vs H):kg P L h' out hid bs xs vs H:=by
 induction e with
 |nil=>exact .nil
 |dat d _ ih=>exact .dat (Dn.grow (P:=P) d hk fun a q=>.inl q) ih
 |box ha b _ ih=>
  obtain⟨a',e,_,_,h3,h4⟩:=eP.addr (P:=P) b;cases e;exact .box ha (eP.keep (P:=P) b (fun o q=>hb _ o h4 h3 q) hk (fun ø q=>q) fun a q=>.inl q) ih
noncomputable def nL(ρ:ao):List Nat->List V->ao
 |i::is,x::xs=>nL (upd ρ i x) is xs
 |_,_=>ρ
theorem LC(ρ:ao)(i:Nat)(is:List Nat)(x:V)(xs:List V):nL ρ (i::is) (x::xs)=nL (upd ρ i x) is xs:=rfl
theorem LD(ρ:ao)(l:List V):nL ρ [] l=ρ:=rfl
theorem LE(ρ:ao)(i:Nat)(is:List Nat):nL ρ (i::is) []=ρ:=rfl
theorem HI(ρ:ao){i j:Nat}(x y:V)(h:i≠j):upd (upd ρ i x) j y=upd (upd ρ j y) i x:=by
 funext k
 by_cases hj:k=j
 ·subst hj;rw[kP,iA _ _ (ft h),kP]
 ·rw[iA _ _ hj]
  by_cases hi:k=i
  ·subst hi;rw[kP,kP]
  ·rw[iA _ _ hi,iA _ _ hi,iA _ _ hj]
theorem Ai:∀(is:List Nat) (xs:List V) (ρ:ao) (i:Nat) (x:V),i∉is->nL (upd ρ i x) is xs=upd (nL ρ is xs) i x
 |[],xs,ρ,i,x,_=>by cases xs<;>rfl
 |j::is,[],ρ,i,x,_=>rfl
 |j::is,y::xs,ρ,i,x,h=>by
  simp only[LC,LD,LE];rw[HI ρ x y (fun e=>h (by simp[e])),Ai is xs (upd ρ j y) i x fun q=>h (by simp[q])]
theorem FK(i:Nat)(x:V):∀(is:List Nat) (xs:List V) (ρ:ao),is.length=xs.length->nL ρ (is++[i]) (xs++[x])=upd (nL ρ is xs) i x:=by
 intro is
 induction is with
 |nil=>
  intro xs ρ h
  cases xs with
  |nil=>rfl
  |cons=>cases h
 |cons j is ih=>
  intro xs ρ h
  cases xs with
  |nil=>cases h
  |cons y xs=>exact ih xs _ (Nat.succ.inj h)
theorem HJ:∀(is:List Nat) (xs:List V) (ρ:ao),is.Nodup->is.length=xs.length->nL ρ is.reverse xs.reverse=nL ρ is xs:=by
 intro is
 induction is with
 |nil=>
  intro xs ρ _ h
  cases xs with
  |nil=>rfl
  |cons=>cases h
 |cons i is ih=>
  intro xs ρ hn h
  cases xs with
  |nil=>cases h
  |cons x xs=>
   have hl:is.length=xs.length:=Nat.succ.inj h;rw[lC,lC,FK _ _ _ _ _ (by rw[List.length_reverse,List.length_reverse];exact hl),ih xs ρ (mK.mp hn).2 hl];exact(Ai is xs ρ i x (mK.mp hn).1).symm
structure HK(K:Cx)(ts:List (Nat×Str×NameKind×Bool)):Prop where
 vars:∀t∈ts,K.vars[t.1]?=some (t.2.1,t.2.2.1,t.2.2.2)/\t.2.2.1≠ .free
 nodup:(ts.map (·.1)).Nodup
theorem ya{M:Model}{A:Around}{env:Env}{out hid:List Addr}{B:Shared}{E:Value->Shared->Prop}:∀(ts:List (Nat×Str×NameKind×Bool)) (fs:List (Value->Sem Unit)) (xs:List V) (vs:List Value) (H:List Addr) (m:Str->Option Value) (s:Shared) (ρ:ao),HK K ts->
  fs.length=ts.length->(∀(j:Nat) t f,ts[j]?=some t->fs[j]?=some f->∀v s Q,wpAny M A (storeName env t.2.1 v) Q E s->wpAny M A (f v) Q E s)->aU P K env out hid m B s ρ->kg P env.locals s.heap out hid (ts.map (·.2.2.2)) xs vs H->
  (∀(j:Nat) x' k' a,a∈H->K.vars[j]?=some (x',k',true)->At env m s.heap out hid x' k' (some (.ref a))->ρ j=none)->
  wpAny M A (assignInOrder fs vs) (fun ø s'=>∃m',aU P K env out hid m' B s' (nL ρ (ts.map (·.1)) xs)/\Ks out hid hid s s') E s:=by
 intro ts
 induction ts with
 |nil=>
  intro fs xs vs H m s ρ ok hl hf S hr hi
  cases fs with
  |cons=>cases hl
  |nil=>
   cases hr;exact wpAny_assignInOrder_none ⟨m,S,.refl ..⟩
 |cons t ts ih=>
  intro fs xs vs H m s ρ ok hl hf S hr hi;obtain⟨i,x,k,b⟩:=t
  cases fs with
  |nil=>cases hl
  |cons f fs=>
   obtain⟨hv,hk⟩:=ok.vars (i,x,k,b) (by simp);have Vi:HK K ts:=⟨fun t ht=>ok.vars t (by simp[ht]),(mK.mp ok.nodup).2⟩;have hni:∀t∈ts,t.1≠i:=fun t ht e=>(mK.mp ok.nodup).1 (e▸dt.mpr ⟨t,ht,rfl⟩)
   have go:∀(y:V) (v:Value) (NE:List V) (v8:List Value) (H':List Addr),(if b then eP P env.locals s.heap out hid y v else Dn P s.heap hid y v)->kg P env.locals s.heap out hid (ts.map (·.2.2.2)) NE v8 H'->(∀a∈H',a∈H)->(b=true->∀a,v= .ref a->a∈H/\a∉H')->
     wpAny M A (assignInOrder (f::fs) (v::v8)) (fun ø s'=>∃m',aU P K env out hid m' B s' (nL (upd ρ i y) (ts.map (·.1)) NE)/\Ks out hid hid s s') E s:=fun y v NE v8 H' hyv Rl hH ha=>by
    refine wpAny_assignInOrder_more (hf 0 (i,x,k,b) f rfl rfl v s _ (S.store hv hyv (fun hb j x' k' a hj qJ e kR=>hi j x' k' a (ha hb a e).1 qJ kR) hk fun m' s' S' K' lS=>?_));have K6:∀a o,a∉hid->s.heap.get? a=some o->s'.heap.get? a=some o:=fun a o q=>K'.keep a o (.inl q)
    have WR:kg P env.locals s'.heap out hid (ts.map (·.2.2.2)) NE v8 H':=kg.but K6 lS.2.2.1 Rl;refine aD (ih fs NE v8 H' m' s' (upd ρ i y) Vi (Nat.succ.inj hl) (fun j t f' h1 h2=>hf (j+1) t f' h1 h2) S' WR (fun j x' k' a Vj qJ kR=>?_)) (fun _ s₂ ⟨m₂,dI,ro⟩=>⟨m₂,dI,K'.trans ro⟩) fun ø ø q=>q
    by_cases CO:j=i
    ·subst CO
     exfalso;rw[hv]at qJ;cases qJ;have:=At.fun lS.2.2.2 kR
     cases this;exact(ha rfl a rfl).2 Vj
    ·rw[iA _ _ CO]
     exact hi j x' k' a (hH a Vj) qJ (lS.2.1 j x' k' true _ CO qJ kR)
   cases hr with
   |dat d r=>exact go _ _ _ _ H d r (fun a q=>q) (fun q=>nomatch q)
   |box ha bx r=>exact go _ _ _ _ _ bx r (fun b q=>ge _ q) (fun ø a' e=>by cases e;exact⟨gI,ha⟩)
theorem Es{M:Model}{A:Around}{env:Env}{out hid H:List Addr}{m:Str->Option Value}{B s s₁ s₂:Shared}{ρ:ao}{E:Value->Shared->Prop}{ts:List (Nat×Str×NameKind×Bool)}{fs:List (Value->Sem Unit)}{xs:List V}{vs:List Value}(S:aU P K env out hid m B s ρ)
  (ok:HK K ts) (bC:aU P K env out (H++hid) m B s₁ ρ) (k₁:Kp s s₁) (hH:∀a∈H,s.heap.get? a=none) (hr:kg P env.locals s₁.heap out (H++hid) (ts.map (·.2.2.2)) xs vs H) (k₂:Kp s₁ s₂)
  (hl:fs.length=ts.length) (hf:∀(j:Nat) t f,ts[j]?=some t->fs[j]?=some f->∀v s Q,wpAny M A (storeName env t.2.1 v) Q E s->wpAny M A (f v) Q E s):
  wpAny M A (assignInOrder fs vs) (fun ø s'=>Hc P K env out hid B s s' (nL ρ (ts.map (·.1)) xs) .next .next) E s₂:=by
 have dI:=bC.after k₂;have new:∀b∈H++hid,b∈hid\/s.heap.get? b=none:=fun b hb=>(bZ.mp hb).elim (fun q=>.inr (hH b q)) .inl
 refine aD (ya ts fs xs vs H m s₂ ρ ok hl hf dI (kg.grow (P:=P) k₂.keep (fun ø q=>q) (fun a q=>.inl q) hr) (fun j x' k' a ha qJ kR=>?_)) (fun _ s' ⟨m',S',K'⟩=>⟨H++hid,m',S',?_,rfl⟩) fun ø ø q=>q
 ·obtain⟨ov,q1,q2⟩:=S.slot j x' k' true qJ
  have:=At.NA kR q1 fun c v q=>q.keeps (k₁.trans k₂).keep
  subst this
  cases er:ρ j with
  |none=>rfl
  |some z=>
   rw[er]at q2;obtain⟨u,e,q2⟩:=q2;cases e;obtain⟨Y8,e,z1,_⟩:=eP.addr (P:=P) q2;cases e;obtain⟨o,ho⟩:=S.live a z1;rw[hH a ha]at ho;cases ho
 ·exact⟨fun b o hb q=>K'.keep b o (hb.imp (fun z hm=>(bZ.mp hm).elim (fun w=>by rw[hH b w]at q;cases q) z) id) ((k₁.trans k₂).keep b o q),new,fun b q=>ck _ q,(k₁.trans k₂).gens.trans K'.gens,K'.os.trans (k₁.trans k₂).os⟩
noncomputable abbrev kS(ts:List (Nat×Str×NameKind×Bool))(ps:List Pos):List Expr:=(ts.zip ps).map fun t=>.Name t.1.2.1 t.2
theorem kT(env:Env):∀(ts:List (Nat×Str×NameKind×Bool)) (ps:List Pos),(assignEach (kS ts ps) env).map (·.2)=(kS ts ps).map (fun t=>assign t env)/\(assignEach (kS ts ps) env).length=(kS ts ps).length/\(assignEach (kS ts ps) env).findIdx? (·.1)=none
 |[],_=>⟨rfl,rfl,rfl⟩
 |_::_,[]=>⟨rfl,rfl,rfl⟩
 |t::ts,p::ps=>by
  obtain⟨h1,h2,h3⟩:=kT env ts ps;have e:assignEach (kS (t::ts) (p::ps)) env=(false,assign (.Name t.2.1 p) env)::assignEach (kS ts ps) env:=rfl;rw[e];refine⟨?_,?_,?_⟩
  ·rw[bB,h1];rfl
  ·rw[cr,h2];rfl
  ·rw[List.findIdx?_cons];simp[h3]
theorem gP{ts:List (Nat×Str×NameKind×Bool)}{ps:List Pos}{es:List Expr}{k k':Nat}{p p' pos:Pos}{f}(ok:HK K ts)(CY:ps.length=ts.length)(h:fX P n K es (ts.map (·.2.2.2)) f)(hes:ts.length<=100)(hlen:∀ρ x,f ρ=some x->x.length=ts.length)
  (OO:∀env out hid H h xs vs,kg P env h out hid (ts.map (·.2.2.2)) xs vs H->vs.length=ts.length)
  (Zh:∀env,swapsWithSole [.Tuple (kS ts ps) k p] (.Tuple es k' p') pos.line env=pure false)
  (iS:(∀env,(∀(i:Nat) x kd b,K.vars[i]?=some (x,kd,b)->env.kindOf x=some kd)->env.scope.kind= .function->swappedStores [.Tuple (kS ts ps) k p] (.Tuple es k' p') env=pure none\/swappedStores [.Tuple (kS ts ps) k p] (.Tuple es k' p') env=pure (some (ts.map (·.2.1))))):
  zQ P n K (.Assign [.Tuple (kS ts ps) k p] (.Tuple es k' p') pos) (fun ρ=>(f ρ).map fun xs=>(nL ρ (ts.map (·.1)) xs,.next)):=fun A env out hid m B s ρ aQ fl E rm S hf=>by
 refine cI hf fun xs x7 e=>?_
 clear hf
 first|refine pair_inv e ?_;clear e|cases e
 have hlx:=hlen _ _ x7;have Rs:(kS ts ps).length=ts.length:=by simp[CY]
 have vals:∀(R:Value->Shared->Prop),(∀vs s₁ H,aU P K env out (H++hid) m B s₁ ρ->Kp s s₁->(∀a∈H,s.heap.get? a=none)->kg P env.locals s₁.heap out (H++hid) (ts.map (·.2.2.2)) xs vs H->vs.length=ts.length->R (.ref s₁.heap.objs.size) {s₁ with heap:=s₁.heap.push {cls:=.type "tuple",data:=.seq vs.toArray} })->
   wpAny (model P.prog P.w) A (eval (.Tuple es k' p') env) R E s:=fun R hR=>by
  refine wpAny_Tuple (aD (h A env out hid m B s ρ xs E p' rm S x7) (fun vs s₁ aj=>?_) fun ø ø q=>q);obtain⟨H,bC,k₁,hH,hr⟩:=aj;have:=OO _ _ _ _ _ _ _ hr;exact⟨by rw[this,jM];omega,hR vs s₁ H bC k₁ hH hr this⟩
 rcases iS env S.kind S.fn with iS|iS
 ·refine wpAny_Assign_stores (vals _ fun vs s₁ H bC k₁ hH hr OO=>?_) (Zh env) iS
  show wpAny _ A (assignAll _ [assign (.Tuple (kS ts ps) k p) env]) _ E _;obtain⟨a1,a2,a3⟩:=kT env ts ps;refine Cm rm.handled (items:=vs.toArray) ⟨_,bJ _ rfl,rfl,0,rfl⟩ ?_ a3 fun h' hx=>?_
  ·rw[a2,Rs,cb,OO]
  ·rw[a1]
   refine Es (m:=m) (s₁:=s₁) S ok bC k₁ hH hr ?_ (by simp[CY]) fun j t f h1 h2 v s Q hq=>?_
   ·refine .heap fun b o q=>hx b o (fun z=>?_) (bz _ q)
    have:=ew q;rw[z,jd]at this;exact absurd this (gY.mpr (kH _))
   ·rw[dh,dh]at h2
    refine cI h2 ?_;rintro e he rfl;refine cI he ?_;rintro⟨t',p''⟩ Hd rfl;rw[xG]at Hd;rw[h1]at Hd;cases Hd.1;exact lz hq
 ·refine PyProof.Rows.Assign_Tuple_swapped (names:=ts.map (·.2.1)) (vals _ fun vs s₁ H bC k₁ hH hr OO=>?_) (Zh env) iS
  have hq:(ts.map (·.2.1)).length=vs.toArray.size:=by rw[List.length_map,cb,OO]
  rw[hq];refine wpAny_unpackItems_tuple rm.handled (items:=vs.toArray) ⟨_,bJ _ rfl,rfl,0,rfl⟩ fun h' hx=>?_
  have Rl:=kg.rev hr;rw[<-List.map_reverse]at Rl;have Vi:HK K ts.reverse:=⟨fun t ht=>ok.vars t (List.mem_reverse.mp ht),by rw[List.map_reverse];exact((List.reverse_perm _).nodup_iff).mpr ok.nodup⟩;have key:=Es (M:=model P.prog P.w) (A:=A) (E:=E) (m:=m) (s₁:=s₁) (s₂:={s₁ with heap:=h'}) (H:=H.reverse) (fs:=(ts.map (·.2.1)).reverse.map fun n=>bindName env n) S Vi (bC.perm fun a=>by simp) k₁ (fun a ha=>hH a (by simpa using ha))
   (kg.grow (P:=P) (fun ø ø q=>q) (fun b q=>by simpa using q) (fun b q=>.inl (by simpa using q)) Rl) ?_ (by simp) fun j t f h1 h2 v s Q hq=>?_
  ·have e:nL ρ (ts.reverse.map (·.1)) xs.reverse=nL ρ (ts.map (·.1)) xs:=by rw[List.map_reverse];exact HJ _ _ _ ok.nodup (by simp[hlx])
   rw[e]at key;exact key
  ·refine .heap fun b o q=>hx b o (fun z=>?_) (bz _ q)
   have:=ew q;rw[z,jd]at this;exact absurd this (gY.mpr (kH _))
  ·rw[<-List.map_reverse,iH,dh,h1]at h2
   cases h2;exact wpAny_bindName hq
end
section
variable{P:Pk}{n:Nat}{K K':Cx}{lo:Bool}
inductive Et(M:Model)(A:Around)(E:Value->Shared->Prop)(o i:Value)(Q:Value->Shared->Prop)(s:Shared):Prop
 |mk (T id:String) (l:typeLookup (.type T) "__getitem__"=pure (some (.builtin id))) (t:s.TypeIs o T) (h:wpAny M A (getItem o i) Q E s):Et M A E o i Q s
theorem rx{prog:Program}{w:World}{A:Around}{E:Value->Shared->Prop}{env:Env}{value slice:Expr}{pos:Pos}{s:Shared}{Q:Value->Shared->Prop}
  (h:wpAny (model prog w) A (eval value env) (fun o s₁=>wpAny (model prog w) A (eval slice env) (fun i s₂=>Et (model prog w) A E o i Q s₂) E s₁) E s)
  (hs:∀o i,∃ops,subscripted slice false o i=operate ops (getItem o i)):wpAny (model prog w) A (eval (.Subscript value slice pos) env) Q E s:=by
 refine Subscript_ (aD h (fun o s₁ aj=>aD aj (fun i s₂ aM=>?_) fun ø ø q=>q) fun ø ø q=>q);obtain⟨T,id,hl,hT,hg⟩:=aM;unfold subscriptTail;refine aA ?_;rw[getitemInPython_of_ne hT.not_modules];refine aA (xH hT hl ?_);obtain⟨ops,e⟩:=hs o i;have fin:wpAny (model prog w) A (subscripted slice false o i) (fun r s₃=>wpAny (model prog w) A (letTemporaryGo value o r>>= fun ø=>pure r) Q E s₃) E s₂:=by
  rw[e];exact wpAny_operating (aD hg (fun r s₃ eo=>aA (wpAny_letTemporaryGo (bK eo))) fun ø ø x=>x)
 first
  |exact bK (aA fin)
  |exact aA (bK (aA fin))
  |exact aA fin
noncomputable def pY:List Int->List V->Int->Option V
 |k::ks,v::vs,q=>if k=q then some v else pY ks vs q
 |_,_,_=>none
theorem sV(k:Int)(ks:List Int)(v:V)(vs:List V)(q:Int):pY (k::ks) (v::vs) q=if k=q then some v else pY ks vs q:=rfl
theorem Eu(l:List V)(q:Int):pY [] l q=none:=rfl
theorem Ew(k:Int)(ks:List Int)(q:Int):pY (k::ks) [] q=none:=rfl
theorem ug{h:Heap}{hid:List Addr}{q:Int}:∀{ks:List Int} {xs:List V} {vs:List Value},vs.length=ks.length->bd P h hid xs vs->match pY ks xs q with
  |some z=>∃v,valueAt (ks.zip vs) q=some v/\Dn P h hid z v
  |none=>valueAt (ks.zip vs) q=none
 |[],xs,vs,hl,hd=>by simp[sV,Eu,Ew,valueAt]
 |k::ks,[],vs,hl,hd=>by
  obtain rfl:=bd.nil_inv hd;simp at hl
 |k::ks,x::xs,vs,hl,hd=>by
  obtain⟨v,r,rfl,h1,h2⟩:=bd.cons_inv hd;have ih:=ug (q:=q) (ks:=ks) (by simpa using hl) h2;rw[sV];by_cases hk:k=q
  ·subst hk
   rw[aw rfl];exact⟨v,by simp[valueAt],h1⟩
  ·rw[au hk]
   have e:valueAt ((k::ks).zip (v::r)) q=valueAt (ks.zip r) q:=by simp[valueAt,hk]
   rw[e];exact ih
noncomputable def wY(ks:List Int)(q:Int):List Int:=if ks.contains q then ks else ks++[q]
noncomputable def Aj(ks:List Int)(vs:List V)(q:Int)(x:V):List V:=if ks.contains q then List.zipWith (fun k v=>if k=q then x else v) ks vs else vs++[x]
noncomputable def iJ(x y:V):Option V:=y.int?.bind fun i=>match x with
 | .list l=>if l.length<=most then(g8 i l.length).bind (l[·]?)else none
 | .tup l=>if l.length<=most then(g8 i l.length).bind (l[·]?)else none
 | .str l=>if l.length<=most then((g8 i l.length).bind (l[·]?)).map fun c=>.str [c]else none
 | .dict ks vs=>pY ks vs i
 |_=>none
theorem LF(l:List V)(i:Int):iJ (.list l) (.int i)=if l.length<=most then(g8 i l.length).bind (l[·]?)else none:=id rfl
theorem LG(l:List V)(i:Int):iJ (.tup l) (.int i)=if l.length<=most then(g8 i l.length).bind (l[·]?)else none:=id rfl
theorem Ex(l:List Nat)(i:Int):iJ (.str l) (.int i)=if l.length<=most then((g8 i l.length).bind (l[·]?)).map fun c=>.str [c]else none:=id rfl
theorem yb{γ:Type}{c:Prop}[Decidable c]{o:Option γ}{z:γ}{G:Prop}(h:(if c then o else none)=some z)(k:c->o=some z->G):G:=by
 by_cases q:c
 ·rw[aw q]at h;exact k q h
 ·rw[au q]at h;cases h
theorem ry{i:Int}{n k:Nat}(h:g8 i n=some k)(hn:n<=most):seqIndex? i n=some k/\ -(2^63)<=i/\i<2^63/\k<n:=by
 have hm:most=1000000:=rfl;unfold g8 at h;refine⟨(zY h hn).1,?_⟩;by_cases h0:0<=i
 ·rw[aw h0]at h
  exact eR h fun h1 e=>⟨oP (by decide) h0,Int.lt_of_lt_of_le h1 (oP (nc.mpr hn) (by decide)),e▸(Int.toNat_lt h0).mpr h1⟩
 ·rw[au h0]at h
  exact eR h fun h1 e=>⟨oP (Int.neg_le_neg (oP (nc.mpr hn) (by decide))) (Int.le_of_add_le_add_right (b:=(n:Int)) (by rw[Int.add_left_neg];exact h1)),Int.lt_trans (mL.mp h0) (by decide),e▸(Int.toNat_lt h1).mpr (Int.lt_of_lt_of_le (Int.add_lt_add_right (mL.mp h0) n) (Int.le_of_eq (Int.zero_add _)))⟩
theorem FL{i:Int}{n k:Nat}(h:g8 i n=some k)(h0:¬0<=i):i<0/\0<=i+n/\k=(i+n).toNat:=by
 unfold g8 at h;rw[au h0]at h;exact eR h fun h1 e=>⟨mL.mp h0,h1,e.symm⟩
theorem FM{i:Int}{n k:Nat}(h:g8 i n=some k)(h0:0<=i):k=i.toNat:=by
 unfold g8 at h;rw[aw h0]at h;exact eR h fun h1 e=>e.symm
theorem OP{A:Around}{s:Shared}{hid:List Addr}{x y z:V}{u v:Value}{E:Value->Shared->Prop}(rm:cJ 0 A)(hx:Dn P s.heap hid x u)(hy:Dn P s.heap hid y v)(hf:iJ x y=some z):
  Et (model P.prog P.w) A E u v (fun r s'=>Kp s s'/\Dn P s'.heap hid z r) s:=by
 refine ak hf fun i hi hf=>hy.int_k hi fun t'=>?_
 clear hy hi
 cases x with
 |str l=>
  refine yb hf fun hle hf=>cI hf fun c hc e=>ak hc fun k hk hc=>?_
  subst e;obtain⟨h1,h2,h3,h4⟩:=ry hk hle;refine hx.str_k rfl fun t=>?_
  refine⟨"str","str.__getitem__",F.slot_str_getitem.lookup,qU _ _ _,PyProof.Rows.getItem_str (c:=c) ?_ ?_ ⟨Kp.toks s _,.ofStr [c] _⟩⟩
  ·clear hf hc hx hk;simp;omega
  ·rw[ec,h1];simpa using hc
 |tup l=>
  refine yb hf fun hle hf=>ak hf fun k hk hc=>?_
  obtain⟨h1,h2,h3,h4⟩:=ry hk hle;obtain⟨a,vs,rfl,ha,ht,hd⟩:=hx.oe;obtain⟨w,hw,hz⟩:=bq.get hd hc;exact⟨"tuple","tuple.__getitem__",slot_tuple_getitem.lookup,ht.isTup.typeIs,PyProof.Rows.getItem_tuple ht.isTup h2 h3 (j:=k) (by rw[cb,hd.length];exact h1) (by simpa using hw) ⟨.refl s,hz⟩⟩
 |list l=>
  refine yb hf fun hle hf=>ak hf fun k hk hc=>?_
  obtain⟨h1,h2,h3,h4⟩:=ry hk hle;refine hx.jj rfl fun a vs ø ha ø ht hd=>?_
  obtain⟨w,hw,hz⟩:=bq.get hd hc;have hlen:=hd.length;refine⟨"list","list.__getitem__",slot_list_getitem.lookup,ht.isList.typeIs,?_⟩;by_cases h0:0<=i
  ·cases FM hk h0
   exact wpAny_getItem_list ht.isList h0 h3 (by simpa using hw) ⟨.refl s,hz⟩
  ·obtain⟨z1,z2,rfl⟩:=FL hk h0
   exact wpAny_getItem_list_neg ht.isList z1 (by rw[cb,hlen];clear hf hc hx hk hz hw hd;omega) h2 (by rw[cb,hlen];simpa using hw) ⟨.refl s,hz⟩
 |dict ks ws=>
  obtain⟨a,vs,rfl,ha,hlen,ls,ht,hd⟩:=hx.kO;have:=ug (P:=P) (q:=i) hlen hd;rw[show pY ks ws i=some z from hf]at this;obtain⟨w,hw,hz⟩:=this;exact⟨"dict","dict.__getitem__",slot_dict_getitem.lookup,ht.typeIs,wpAny_getItem_of (intKind_is P.prog P.w i t') ht.mapOf hw ⟨Kp.toks s _,hz⟩⟩
 |_=>cases hf
noncomputable def CZ(f g:ao->Option V):ao->Option V:=fun ρ=>(f ρ).bind fun x=>(g ρ).bind fun y=>iJ x y
theorem aF{o i:Expr}{pos:Pos}{f g}(ho:em P n K lo o f)(hi:em P n K true i g)(hs:∀u v,subscripted i false u v=operate [u,v] (getItem u v)):em P n K lo (.Subscript o i pos) (CZ f g):=fun A env out hid m B s ρ z E rm S hf=>by
 refine ak hf fun x hx gu=>?_
 clear hf;rename _=>hf
 refine ak hf fun y hy gu=>?_
 clear hf;rename _=>hf
 refine rx (aD (ho A env out hid m B s ρ x E rm S hx) (fun u s₁ aj=>?_) fun ø ø q=>q) (fun u v=>⟨_,hs u v⟩);refine aD (hi A env out hid m B s₁ ρ y E rm (S.after aj.1) hy) (fun v s₂ aM=>?_) fun ø ø q=>q
 have hv:Dn P s₂.heap (av lo out hid) y v:=by
  cases lo
  ·have LH:∃i,y= .int i:=ak (o:=y.int?) hf fun i hi ø=>⟨i,V.nE hi⟩
   obtain⟨i,rfl⟩:=LH;exact aM.2.scalar rfl
  ·exact aM.2
 obtain⟨T,id,c1,c2,c3⟩:=OP (E:=E) (rm.less (eK _)) (aj.2.kp aM.1) hv hf;exact⟨T,id,c1,c2,aD c3 (fun r s₃ q=>⟨aj.1.trans (aM.1.trans q.1),q.2⟩) fun ø ø q=>q⟩
noncomputable def pick{α:Type}(l:List α)(lo hi st:Option Int):List α:=(sliceRange (sliceBounds lo hi st l.length).1 (sliceBounds lo hi st l.length).2.1 (sliceBounds lo hi st l.length).2.2).filterMap (l[·]?)
noncomputable def Ak(l:List Nat)(lo hi:Option Int):List Nat:=if((Builtin.Str.strSliceIndices lo hi 1 l.length).length==l.length)=true then l else(Builtin.Str.strSliceIndices lo hi 1 l.length).filterMap (l[·]?)
noncomputable def kh(x:V)(a b c:Option Int):Option V:=match x with
 | .list l=>if l.length<=most/\c≠some 0 then some (.list (pick l a b c))else none
 | .str l=>if l.length<=most/\c=none then some (.str (Ak l a b))else none
 |_=>none
theorem Al(l:List V)(a b c:Option Int):kh (.list l) a b c=if l.length<=most/\c≠some 0 then some (.list (pick l a b c))else none:=id rfl
theorem uh(l:List Nat)(a b:Option Int):kh (.str l) a b none=if l.length<=most then some (.str (Ak l a b))else none:=by
 show(if _ then _ else _)=_;by_cases h:l.length<=most
 ·rw[aw ⟨h,rfl⟩,aw h]
 ·rw[au fun z=>h z.1,au h]
noncomputable def Am(P:Pk)(n:Nat)(K:Cx)(e:Option Expr)(f:ao->Option (Option Int)):Prop:=
 ∀(A:Around) (env:Env) (out hid:List Addr) (m:Str->Option Value) (B s:Shared) (ρ:ao) (x:Option Int) (E:Value->Shared->Prop),cJ n A->aU P K env out hid m B s ρ->f ρ=some x->
  wpAny (model P.prog P.w) A (evalPart e env) (fun v s'=>Kp s s'/\∃q:Option (Int×Tok),v=partValue q/\q.map (·.1)=x) E s
theorem cF:Am P n K none fun ø=>some none:=fun A env out hid m B s ρ x E rm S hf=>by
 cases hf;exact evalPart_none_step ⟨.refl s,none,rfl,rfl⟩
noncomputable def An:V->Option (Option Int)
 | .int i=>some (some i)
 | .none=>some none
 |_=>none
theorem eZ{e:Expr}{f}(h:em P n K true e f):Am P n K (some e) fun ρ=>(f ρ).bind An:=fun A env out hid m B s ρ x E rm S hf=>by
 refine ak hf fun y hy gu=>?_
 clear hf;rename _=>hf
 refine evalPart_some_step (aD (h A env out hid m B s ρ y E rm S hy) (fun v s₁ q=>⟨q.1,?_⟩) fun ø ø q=>q);have hv:=q.2;cases y<;>simp only[An]at hf<;>cases hf
 ·obtain rfl:=hv.none_inv
  exact⟨none,rfl,rfl⟩
 ·obtain⟨t,rfl⟩:=hv.int_inv
  exact⟨some (_,t),rfl,rfl⟩
theorem C1{q:Option (Int×Tok)}:IsPart (partValue q) (q.map (·.1)):=by
 rcases q with _|⟨i,t⟩
 ·exact .none
 ·exact .int i t
theorem LI{A:Around}{s:Shared}{hid:List Addr}{x z:V}{u:Value}{a b c:Option (Int×Tok)}{E:Value->Shared->Prop}(live:cD s.heap hid)(hx:Dn P s.heap hid x u)(hf:kh x (a.map (·.1)) (b.map (·.1)) (c.map (·.1))=some z):
  Et (model P.prog P.w) A E u (.ref s.heap.objs.size) (fun r s'=>Kp s s'/\Dn P s'.heap hid z r) {s with heap:=s.heap.push {cls:=.type "slice",data:=.fields #[partValue a,partValue b,partValue c]} }:=by
 have hm:=cR;generalize eS:({s with heap:=s.heap.push {cls:=.type "slice",data:=.fields #[partValue a,partValue b,partValue c]} }:Shared)=s₁;have k₁:Kp s s₁:=by subst eS;exact Kp.push s _ _
 have Sp:s₁.heap.get? s.heap.objs.size=some {cls:=.type "slice",data:=.fields #[partValue a,partValue b,partValue c]}:=by subst eS;exact bJ _ rfl
 have HL:=hx.kp k₁
 cases x with
 |str l=>
  refine ite_inv hf fun hc=>?_
  have hle:=hc.1
  cases c with
  |some c=>exact absurd hc.2 (by simp)
  |none=>
  clear hf hx;refine HL.str_k rfl fun t=>?_
  refine⟨"str","str.__getitem__",F.slot_str_getitem.lookup,qU _ _ _,wpAny_getItem_str_slice (l:=a) (u:=b) (st:=none) ⟨_,Sp,rfl,rfl⟩ rfl ?_⟩;unfold sliceMade slicePicked;simp only[Option.map_none,Option.getD_none,qO,xI,ec];unfold Ak;split
  ·exact⟨k₁.trans (.refl s₁),.ofStr _ _⟩
  ·refine⟨?_,k₁.trans (Kp.toks s₁ _),?_⟩
   ·show(List.filterMap _ _).toArray.size<=sizeLine
    rw[cb];refine az (List.length_filterMap_le _ _) (az (sliceIndices_le _ _ _) (az hle hm))
   ·have e:(List.filterMap (fun x=>(pyStr l).cps[x]?) (Builtin.Str.strSliceIndices (a.map (·.1)) (b.map (·.1)) 1 l.length))=(Builtin.Str.strSliceIndices (a.map (·.1)) (b.map (·.1)) 1 l.length).filterMap (l[·]?):=by simp
    rw[e];exact .ofStr _ _
 |list l=>
  refine ite_inv hf fun hc=>HL.jj rfl fun ad vs ø ha ø ht hd=>?_
  clear hf hx HL;refine⟨"list","list.__getitem__",slot_list_getitem.lookup,ht.isList.typeIs,wpAny_getItem_list_slice ht.isList ⟨_,Sp,rfl,rfl⟩ C1 C1 C1 hc.2 ⟨k₁.trans (Kp.push s₁ _ s₁.toks),?_⟩ (by rw[cb,hd.length];exact az hc.1 hm)⟩;have hp:slicePick vs.toArray (a.map (·.1)) (b.map (·.1)) (c.map (·.1))=((sliceRange (sliceBounds (a.map (·.1)) (b.map (·.1)) (c.map (·.1)) l.length).1 (sliceBounds (a.map (·.1)) (b.map (·.1)) (c.map (·.1)) l.length).2.1 (sliceBounds (a.map (·.1)) (b.map (·.1)) (c.map (·.1)) l.length).2.2).filterMap (vs[·]?)).toArray:=by
   unfold slicePick;rw[cb,hd.length];simp
  rw[hp];refine Dn.newList (live.kp k₁) ?_;unfold pick;generalize sliceRange _ _ _=ix
  induction ix with
  |nil=>exact .nil
  |cons i ix ih=>
   cases hi:l[i]? with
   |none=>
    have hv:vs[i]?=none:=by
     rw[List.getElem?_eq_none_iff]at hi ⊢;rw[hd.length];exact hi
    rw[qV,hi,qV,hv];exact ih
   |some x=>
    obtain⟨v,hv,OJ⟩:=bq.get hd hi;rw[qV,hi,qV,hv];exact .cons OJ ih
 |_=>cases hf
noncomputable def ui(f:ao->Option V)(a b c:ao->Option (Option Int)):ao->Option V:=fun ρ=>(f ρ).bind fun x=>(a ρ).bind fun p=>(b ρ).bind fun q=>(c ρ).bind fun r=>kh x p q r
theorem e6{o:Expr}{l u st:Option Expr}{p pos:Pos}{f a b c}(ho:em P n K lo o f)(ha:Am P n K l a)(hb:Am P n K u b)(hc:Am P n K st c):em P n K lo (.Subscript o (.Slice l u st p) pos) (ui f a b c):=fun A env out hid m B s ρ z E rm S hf=>by
 refine ak hf fun x hx gu=>?_
 clear hf;rename _=>hf
 refine ak hf fun C2 h1 gu=>?_
 clear hf;rename _=>hf
 refine ak hf fun Ao h2 gu=>?_
 clear hf;rename _=>hf
 refine ak hf fun C3 h3 gu=>?_
 clear hf;rename _=>hf
 refine rx (aD (ho A env out hid m B s ρ x E rm S hx) (fun v s₁ Ap=>?_) fun ø ø q=>q) (fun u v=>by cases st<;>exact⟨_,rfl⟩);have bC:=S.after Ap.1;refine wpAny_Slice (aD (ha A env out hid m B s₁ ρ C2 E rm bC h1) (fun aa3 s₂ yd=>?_) fun ø ø q=>q);have dI:=bC.after yd.1;refine aD (hb A env out hid m B s₂ ρ Ao E rm dI h2) (fun aa4 s₃ LJ=>?_) fun ø ø q=>q
 have rr:=dI.after LJ.1;refine aD (hc A env out hid m B s₃ ρ C3 E rm rr h3) (fun aa5 j8 LK=>?_) fun ø ø q=>q
 have ru:=rr.after LK.1;obtain⟨aa6,rfl,rfl⟩:=yd.2;obtain⟨aa7,rfl,rfl⟩:=LJ.2;obtain⟨aa8,rfl,rfl⟩:=LK.2;have kk:=Ap.1.trans (yd.1.trans (LJ.1.trans LK.1));obtain⟨T,id,c1,c2,c3⟩:=LI (P:=P) (A:=A) (E:=E) (ru.Ek lo) (((Ap.2.kp yd.1).kp LJ.1).kp LK.1) hf;exact⟨T,id,c1,c2,aD c3 (fun r rn q=>⟨kk.trans q.1,q.2⟩) fun ø ø q=>q⟩
end
section
variable{P:Pk}{n:Nat}{K K':Cx}{lo:Bool}
noncomputable def Aq(x y:V):Option V:=(qI V.int? V.int? (fun a b=>some (.int (a+b))) x y).or
 (qI V.jK V.jK (fun a b=>if a.length+b.length<=most then some (.str (a++b))else none) x y)
theorem HM(a b:List Nat)(h:a.length+b.length<=most):Aq (.str a) (.str b)=some (.str (a++b)):=by
 show(if _ then _ else _)=_;rw[aw h]
noncomputable def Sq:V->V->Option V:=qI V.int? V.int? fun a b=>some (.int (a-b))
noncomputable def HN(P:Pk)(op:Operator)(F:V->V->Option V):Prop:=
 ∀(A:Around) (s:Shared) (hid:List Addr) (x y z:V) (u v:Value) (E:Value->Shared->Prop),cJ 0 A->cD s.heap hid->Dn P s.heap hid x u->Dn P s.heap hid y v->F x y=some z->
  wpAny (model P.prog P.w) A (inplaceOp op u v) (fun r s'=>Kp s s'/\Dn P s'.heap hid z r) E s
theorem cS(i:Nat){x:Str}{k:NameKind}{p pos:Pos}{op:Operator}{e:Expr}{F f}(hi:K.vars[i]?=some (x,k,false))(nH:k≠ .free)(hc:(x==("__classdict__":Str))=false)(hd:(x==("__debug__":Str))=false)(ho:HN P op F)(h:em P n K false e f):
  zQ P n K (.AugAssign (.Name x p) op e pos) (fun ρ=>(ρ i).bind fun a=>(f ρ).bind fun b=>(F a b).map fun c=>(upd ρ i c,.next)):=fun A env out hid m B s ρ aQ fl E rm S hf=>by
 refine ak hf fun a ha gu=>?_
 clear hf;rename _=>hf
 refine ak hf fun b hb gu=>?_
 clear hf;rename _=>hf
 refine cI hf fun c Lu e=>?_
 clear hf
 first|refine pair_inv e ?_;clear e|cases e
 refine wpAny_AugAssign_Name (S.load hi ha hd hc fun u hu ø=>?_);rw[au (by decide)]at hu;refine aD (h A env out hid m B s ρ b E rm S hb) (fun v s₁ aj=>?_) fun ø ø q=>q
 have bC:=S.after aj.1;refine aD (ho A s₁ hid a b c u v E (rm.less (eK _)) bC.live (hu.kp aj.1) aj.2 Lu) (fun r s₂ aM=>?_) fun ø ø q=>q
 exact(bC.after aM.1).store hi aM.2 (fun q=>by cases q) nH fun m' s' S' K' ø=>⟨hid,m',S',(Ks.iI (aj.1.trans aM.1)).trans K',rfl⟩
noncomputable def NF(P:Pk)(F:V->V->V->Option V):Prop:=
 ∀(A:Around) (s:Shared) (L:Addr) (out hid:List Addr) (y i x y':V) (a:Addr) (iv v:Value) (E:Value->Shared->Prop),cJ 0 A->eP P L s.heap out hid y (.ref a)->Dn P s.heap hid i iv->Dn P s.heap hid x v->F y i x=some y'->
  wpAny (model P.prog P.w) A (setItem (.ref a) iv v) (fun ø s'=>Heap.SameBut a s.heap s'.heap/\s'.gens=s.gens/\s'.os=s.os/\eP P L s'.heap out hid y' (.ref a)) E s
theorem uj(i:Nat){x:Str}{k:NameKind}{p sp pos:Pos}{ix e:Expr}{F f g}(hi:K.vars[i]?=some (x,k,true))(hd:(x==("__debug__":Str))=false)(hc:(x==("__classdict__":Str))=false)(ho:NF P F)(h:em P n K false e f)(hx:em P n K false ix g)
  (hs:∀env,swapsWith e (some (.Subscript (.Name x p) ix sp)) pos.line env=pure false):
  zQ P n K (.Assign [.Subscript (.Name x p) ix sp] e pos) (fun ρ=>(f ρ).bind fun v=>(ρ i).bind fun y=>(g ρ).bind fun j=>(F y j v).map fun y'=>(upd ρ i y',.next)):=fun A env out hid m B s ρ aQ fl E rm S hf=>by
 refine ak hf fun v hv gu=>?_
 clear hf;rename _=>hf
 refine ak hf fun y hy gu=>?_
 clear hf;rename _=>hf
 refine ak hf fun j hj gu=>?_
 clear hf;rename _=>hf
 refine cI hf fun y' LH e=>?_
 clear hf
 first|refine pair_inv e ?_;clear e|cases e
 refine wpAny_Assign_Subscript (aD (h A env out hid m B s ρ v E rm S hv) (fun u s₁ aj=>?_) fun ø ø q=>q) (hs env);have bC:=S.after aj.1;refine fM (bC.load hi hy hd hc fun w hw kR=>?_) hd;rw[aw rfl]at hw;obtain⟨a,rfl,b1,b2,b3,b4⟩:=eP.addr (P:=P) hw;refine aD (hx A env out hid m B s₁ ρ j E rm bC hj) (fun jv s₂ aM=>?_) fun ø ø q=>q
 have dI:=bC.after aM.1;have NG:eP P env.locals s₂.heap out hid y (.ref a):=eP.grow (P:=P) hw aM.1.keep (fun ø q=>q) fun ø q=>.inl q
 refine aD (ho A s₂ env.locals out hid y j v y' a jv u E (rm.less (eK _)) NG aM.2 (aj.2.kp aM.1) LH) (fun ø s₃ q=>?_) fun ø ø q=>q
 obtain⟨q1,q2,q3,q4⟩:=q;obtain⟨z1,z2⟩:=dI.mut (s':=s₃) hi (kR.grow (fun c v q=>q.keeps aM.1.keep) fun ø q=>q) hy NG (fun b o hb q=>(q1.2 b hb).trans q) (by rw[q2];exact .refl _) q3 q4;exact⟨hid,m,z1,(Ks.iI (aj.1.trans aM.1)).trans z2,rfl⟩
noncomputable def C4(y i x:V):Option V:=i.int?.bind fun k=>match y with
 | .dict ks vs=>if ks.length<=most then some (.dict (wY ks k) (Aj ks vs k x))else none
 | .list l=>if 0<=k/\k<l.length/\l.length<=most then some (.list (l.set k.toNat x))else none
 |_=>none
theorem OQ(ks:List Int)(vs:List V)(k:Int)(x:V):C4 (.dict ks vs) (.int k) x=if ks.length<=most then some (.dict (wY ks k) (Aj ks vs k x))else none:=id rfl
theorem OR(l:List V)(k:Int)(x:V):C4 (.list l) (.int k) x=if 0<=k/\k<l.length/\l.length<=most then some (.list (l.set k.toNat x))else none:=id rfl
theorem Ar{h:Heap}{hid:List Addr}{q:Int}{x:V}{v:Value}(hx:Dn P h hid x v){ks:List Int}{xs:List V}{vs:List Value}(hl:vs.length=ks.length)(hd:bd P h hid xs vs):
  ∃v8,stored (ks.zip vs) q v=(wY ks q).zip v8/\v8.length=(wY ks q).length/\bd P h hid (Aj ks xs q x) v8:=by
 have Sr:∀(ks:List Int) (vs:List Value),vs.length=ks.length->((ks.zip vs).any fun kv=>decide (kv.1=q))=ks.contains q:=by
  intro ks
  induction ks with
  |nil=>intro vs _;rfl
  |cons k ks ih=>
   intro vs hl
   cases vs with
   |nil=>simp at hl
   |cons w vs=>
    rw[pj,List.any_cons,ih vs (by simpa using hl),Cq]
    congr 1
    show decide (k=q)=(q==k);by_cases e:k=q
    ·subst e;simp
    ·have:¬q=k:=fun z=>e z.symm
     simp[e,this]
 unfold stored wY Aj;rw[Sr ks vs hl]
 cases hc:ks.contains q with
 |false=>
  simp only[kC,gX];exact⟨vs++[v],by rw[List.zip_append hl.symm];rfl,by simp[hl],hd.app (.one hx)⟩
 |true=>
  simp only[jL];clear hc Sr;refine⟨List.zipWith (fun k w=>if k=q then v else w) ks vs,?_,?_,?_⟩
  ·induction ks generalizing vs xs with
   |nil=>simp
   |cons k ks ih=>
    cases vs with
    |nil=>simp at hl
    |cons w vs=>
     obtain⟨w',r,e,h1,h2⟩:∃w' r,xs=w'::r/\True/\True:=by
      cases xs with
      |nil=>have:=bd.nil_inv hd;cases this
      |cons a b=>exact⟨a,b,rfl,trivial,trivial⟩
     subst e;obtain⟨_,_,e,_,hr⟩:=bd.cons_inv hd;cases e;rw[pj,bB,ih (by simpa using hl) hr,Cr,pj];by_cases e:k=q<;>simp[e]
  ·simp[hl]
  ·induction ks generalizing vs xs with
   |nil=>exact .nil
   |cons k ks ih=>
    cases vs with
    |nil=>simp at hl
    |cons w vs=>
     cases xs with
     |nil=>have:=bd.nil_inv hd;cases this
     |cons y ys=>
      obtain⟨_,_,e,h1,hr⟩:=bd.cons_inv hd;cases e;rw[Cr,Cr];refine .cons ?_ (ih (by simpa using hl) hr);by_cases e:k=q<;>simp[e,hx,h1]
theorem gQ:HN P .Add Aq:=fun A s hid x y z u v E rm hh hx hy hf=>lQ hf
 (fun hf=>bO hf fun a b ha hb hz=>some_inv hz <| hx.int_k ha fun t=>hy.int_k hb fun t'=>PyProof.Rows.iadd_int ⟨Kp.toks s _,.ofInt _ _⟩)
 fun hf=>bO hf fun a b ha hb hz=>ite_inv hz fun hc=>hx.str_k ha fun t=>hy.str_k hb fun t'=>
  PyProof.Rows.iadd_str (fun t' tk=>⟨Kp.toks s _,by rw[og];exact .ofStr _ _⟩) (by rw[ec,ec];exact az hc cR)
theorem OS:HN P .Sub Sq:=fun A s hid x y z u v E rm hh hx hy hf=>bO hf fun a b ha hb hz=>some_inv hz <| hx.int_k ha fun t=>hy.int_k hb fun t'=>PyProof.Rows.isub_int ⟨Kp.toks s _,.ofInt _ _⟩
theorem bd.set{h:Heap}{hid}{x:V}{v:Value}(hx:Dn P h hid x v):∀{l:List V} {ws:List Value} (k:Nat),bd P h hid l ws->bd P h hid (l.set k x) (ws.set k v)
 |[],ws,k,e=>by obtain rfl:=bd.nil_inv e;simpa using e
 |y::l,ws,0,e=>by
  obtain⟨u,r,rfl,h1,h2⟩:=bd.cons_inv e;exact .cons hx h2
 |y::l,ws,k+1,e=>by
  obtain⟨u,r,rfl,h1,h2⟩:=bd.cons_inv e;exact .cons h1 (bd.set hx k h2)
theorem LL{n:Nat}(h:n<=most):(n:Int)<2^63:=by
 have:most=1000000:=rfl;omega
theorem wk{prog:Program}{w:World}{A:Around}{E:Value->Shared->Prop}{s:Shared}{l:Addr}{items:Array Value}{k:Int}{t:Tok}{v:Value}{Q:Unit->Shared->Prop}(hl:s.heap.PlainList l items)(h0:0<=k)(WS:k<2^63)(hn:k<items.size)
  (hQ:∀h',h'.PlainList l (items.setIfInBounds k.toNat v)->Heap.SameBut l s.heap h'->Q () {s with heap:=h'}):wpAny (model prog w) A (setItem (.ref l) (.int k t) v) Q E s:=by
 obtain⟨e0,ho⟩:=id hl;have hT:=hl.isList.typeIs;unfold setItem
 try with_reducible refine gH ?_
 first|refine aA (bK ?_)|skip
 refine aA (wpAny_sequenceKey hT (by decide) ?_);refine aA (oQ (name:=Str.ofString "__setitem__") hT slot_list_setitem (lE slot_list_setitem hT entry_list_setitem ?_ (args_list_setitem _ _ _)));show wpAny _ _ (Builtin.List.listSubscript? (.int k t)>>= _) _ _ s;refine aA (wpAny_listSubscript_int (fitsIndex_of h0 WS) ?_);obtain⟨j,rfl⟩:=qW h0;have hj:j<items.size:=by omega
 have zS:items[j]?=some items[j]:=xE hj;show wpAny _ _ ((seqItemAt l j>>= fun r=>pure (r.map (j,·)))>>= _) _ _ s;refine aA (aA (wpAny_seqItemAt ho rfl (bK ?_)));rw[zS];show wpAny _ _ (setSeqItemAt l j v>>= _) _ _ s;refine aA (wpAny_setSeqItemAt ho rfl ?_);have hp:=lR (f:=(·.setIfInBounds j v)) ho rfl
 first
  |exact aA (bK (bK ⟨.none,rfl,bK (hQ _ hp (oK ..))⟩))
  |exact bK ⟨.none,rfl,bK (hQ _ hp (oK ..))⟩
theorem eP.jj{L h out hid l a}{G:Prop}(e:eP P L h out hid (.list l) (.ref a))(k:∀vs,a∈hid->a∉out->a≠L->h.PlainList a vs.toArray->bd P h hid l vs->G):G:=by
 obtain⟨a',vs,e,h1,h2,h3,h4,h5⟩:=eP.cK e;cases e;exact k vs h1 h2 h3 h4 h5
theorem NH:NF P C4:=fun A s L out hid y i x y' a iv v E rm hb hi hx hf=>ak hf fun k hk hf=>hi.int_k hk fun t=>by
 clear hi hk
 cases y with
 |list l=>
  refine ite_inv hf fun hc=>eP.jj hb fun ws c1 c2 c3 c4 c5=>?_
  clear hf hb;refine wk c4 hc.1 (Int.lt_trans hc.2.1 (LL hc.2.2)) (by rw[cb,c5.length];exact hc.2.1) fun h' lS hs=>⟨hs,rfl,rfl,?_⟩
  exact eP.ofList c1 c2 c3 (vs:=ws.set k.toNat v) (by simpa using lS) (bd.set (Dn.but hx c1 hs) _ (bd.but c5 c1 hs))
 |dict ks vs=>
  refine ite_inv hf fun hc=>?_
  obtain⟨a',ws,e,c1,c2,c3,c4,c5,c6,c7⟩:=eP.kO hb;cases e;clear hf hb;refine wpAny_setItem_pairs (intKind_is P.prog P.w k t) c6 (fun h' lu hs=>⟨hs,rfl,rfl,?_⟩) (by rw[xJ,c5,Nat.min_self];exact az hc cR);obtain⟨v8,e1,e2,e3⟩:=Ar (P:=P) (q:=k) (Dn.but hx c1 hs) c5 (bd.but c7 c1 hs);rw[e1]at lu;exact⟨a,v8,rfl,c1,c2,c3,c4,e2,lu,e3⟩
 |_=>cases hf
end
section
variable{P:Pk}{n:Nat}{K K':Cx}{lo:Bool}
noncomputable def V.OT:V->Option Nat
 | .list l=>some l.length
 | .tup l=>some l.length
 | .str l=>some l.length
 | .dict ks _=>some ks.length
 |_=>Option.none
noncomputable def one?:List V->Option V
 |[x]=>some x
 |_=>none
theorem jm:∀{xs:List V} {x},one? xs=some x->xs=[x]
 |[_],_,h=>congrArg (fun x=>[x]) (Option.some.inj h)
 |[],_,h|_::_::_,_,h=>nomatch h
noncomputable def uk(xs:List V):Option V:=(one? xs).bind fun x=>x.OT.bind fun n=>if n<=most then some (.int n)else none
theorem ye{x:V}{n:Nat}(h:x.OT=some n)(hm:n<=most):uk [x]=some (.int n):=by
 unfold uk one?;rw[lF,h,lF,aw hm]
theorem yg{h:Heap}{hid x vs}(e:bd P h hid [x] vs):∃v,vs=[v]/\Dn P h hid x v:=by
 obtain⟨v,r,rfl,h1,h2⟩:=bd.cons_inv e;obtain rfl:=bd.nil_inv h2;exact⟨v,rfl,h1⟩
@[elab_as_elim] theorem bd.one?_k {h:Heap} {hid xs x vs} {C:List Value->Prop} (e:bd P h hid xs vs) (q:one? xs=some x) (k:∀v,Dn P h hid x v->C [v]):C vs:=by
 cases jm q;exact e.one_k k
theorem V.OU{x:V}{n:Nat}{G:Prop}(h:x.OT=some n)(k1:∀l,x= .list l->n=l.length->G)(k2:∀l,x= .tup l->n=l.length->G)(k3:∀l,x= .str l->n=l.length->G)(k4:∀ks l,x= .dict ks l->n=ks.length->G):G:=by
 cases x with
 |list l=>exact k1 l rfl (Option.some.inj h).symm
 |tup l=>exact k2 l rfl (Option.some.inj h).symm
 |str l=>exact k3 l rfl (Option.some.inj h).symm
 |dict ks l=>exact k4 ks l rfl (Option.some.inj h).symm
 |_=>cases h
theorem hU{n:Nat}(h:n<=most):(n:Int)<2^63:=by
 have:most=1000000:=rfl;omega
theorem Ey{ws:List Value}{ks:List Int}(h:ws.length=ks.length):(ks.zip ws).length=ks.length:=by rw[xJ,h,Nat.min_self]
theorem jq:aZ P n (.builtin "len") uk:=fun A s hid xs x vs E rm hG live hd hf=>ak hf fun y hy hf=>ak hf fun n hn hf=>ite_inv hf fun hm=>hd.one?_k hy fun v hv=>by
 clear hd hf hy;refine V.OU hn (fun l e1 e2=>?_) (fun l e1 e2=>?_) (fun l e1 e2=>?_) fun ks l e1 e2=>?_<;>subst e1<;>subst e2
 ·refine hv.jj rfl fun a ws k ha ø ht lu=>?_
  refine Calls.call_len_list ht.isList (by rw[cb,lu.length];first|exact hU hm|exact mL.mpr (hU hm)) ⟨Kp.toks s _,?_⟩;rw[cb,lu.length];exact .ofInt _ _
 ·obtain⟨a,ws,rfl,ha,ht,lu⟩:=hv.oe
  refine PyProof.Rows.len_tuple ht.isTup (by rw[cb,lu.length];first|exact hU hm|exact mL.mpr (hU hm)) ⟨Kp.toks s _,?_⟩;rw[cb,lu.length];exact .ofInt _ _
 ·refine hv.str_k rfl fun t=>?_
  refine PySem.P.len_str (by rw[ec];first|exact hU hm|exact mL.mpr (hU hm)) ⟨Kp.toks s _,?_⟩;rw[ec];exact .ofInt _ _
 ·obtain⟨a,ws,rfl,ha,hlen,ls,ht,lu⟩:=hv.kO
  refine call_len_dict ls ht (by rw[Ey hlen];first|exact hU hm|exact mL.mpr (hU hm)) ⟨Kp.toks s _,?_⟩;rw[Ey hlen];exact .ofInt _ _
noncomputable def Ss(xs:List V):Option V:=(one? xs).bind fun x=>x.jK.bind fun l=>(OA l).map fun(c:Nat)=>V.int (Int.ofNat c)
theorem OV(c:Nat):Ss [.str [c]]=some (.int (c:Int)):=rfl
theorem HO:aZ P n (.builtin "ord") Ss:=fun A s hid xs x vs E rm hG live hd hf=>ak hf fun y hy hf=>ak hf fun l hl hf=>map_inv hf fun c hc=>hd.one?_k hy fun v hv=>by
 cases zX hc;exact hv.str_k hl fun t=>PySem.P.ord_of_char ⟨Kp.toks s _,.ofInt _ _⟩
noncomputable def FN(xs:List V):Option V:=(one? xs).bind fun x=>x.int?.bind fun i=>if 0<=i/\i<=0x10FFFF then some (.str [i.toNat])else none
theorem OW(i:Int):FN [.int i]=if 0<=i/\i<=0x10FFFF then some (.str [i.toNat])else none:=id rfl
theorem Ez:aZ P n (.builtin "chr") FN:=fun A s hid xs x vs E rm hG live hd hf=>ak hf fun y hy hf=>ak hf fun i hi hf=>ite_inv hf fun hc=>hd.one?_k hy fun v hv=>hv.int_k hi fun t=>
 PySem.P.chr_of_int (by clear hd hf hv;simp;omega) ⟨Kp.toks s _,.ofStr [i.toNat] _⟩
noncomputable def hV:List V->Option (List Int)
 |[]=>some []
 |x::l=>x.int?.bind fun i=>(hV l).map (i:: ·)
theorem HP:hV []=some []:=rfl
theorem As(i:Int)(l:List V):hV (.int i::l)=(hV l).map (i:: ·):=rfl
theorem oj{y:V}{l:List V}{is:List Int}(h:hV (y::l)=some is):∃k LM,y= .int k/\hV l=some LM/\is=k::LM:=by
 obtain⟨i,hi,h⟩:=kG.mp h;obtain⟨r,h1,h2⟩:=np.mp h;exact⟨i,r,V.nE hi,h1,h2.symm⟩
theorem Au:∀{l:List V} {is:List Int} {i:Nat} {x:V},hV l=some is->l[i]?=some x->∃k,x= .int k/\is[i]?=some k
 |[],is,i,x,h,hx=>by simp at hx
 |y::l,is,i,x,h,hx=>by
  obtain⟨k,LM,rfl,h',rfl⟩:=oj h
  cases i with
  |zero=>simp at hx;subst hx;exact⟨k,rfl,by simp⟩
  |succ i=>simpa using Au (l:=l) (i:=i) h' (by simpa using hx)
theorem rz:∀{l:List V} {is:List Int},hV l=some is->is.length=l.length
 |[],is,h=>by cases h;rfl
 |y::l,is,h=>by
  obtain⟨k,LM,rfl,h',rfl⟩:=oj h;simp[rz h']
noncomputable def OX(xs:List V):Option V:=(one? xs).bind fun x=>x.gm.bind fun l=>(hV l).map fun is=>.int is.sum
theorem OY(l:List V):OX [.list l]=(hV l).map fun is=>.int is.sum:=rfl
theorem C5(is:List Int):preSum (fun j=>(is[j]?).getD 0) is.length=is.sum:=by
 have key:∀(is:List Int) (k:Nat),k<=is.length->preSum (fun j=>(is[j]?).getD 0) k=(is.take k).sum:=by
  intro is k
  induction k with
  |zero=>intro _;simp[preSum]
  |succ k ih=>
   intro hk;rw[preSum,ih (by omega),List.take_succ_eq_append_getElem (by omega),List.sum_append];simp[show k<is.length by omega]
 rw[key is is.length (bL _),xK]
theorem Su:aZ P n (.builtin "sum") OX:=fun A s hid xs x vs E rm hG live hd hf=>ak hf fun y hy hf=>ak hf fun l hl hf=>map_inv hf fun is LN=>hd.one?_k hy fun v hv=>hv.jj hl fun a ws ø ha ø ht lu=>by
 clear hd hf hy
 ·
  have cZ:a≠s.heap.objs.size:=fun e=>by obtain⟨k,z⟩:=ht;rw[e,bE]at z;cases z
  refine call_sum_walkAnyS (tz ht.isList ?_);have W:=(Walks.list (prog:=P.prog) (w:=P.w) (A:=A.in1) rm.handled s.heap.objs.size a cZ ws.toArray).toS;refine⟨_,_,_,_,_,_,_,fun j=>(is[j]?).getD 0,rfl,W,⟨⟨_,bJ _ rfl,rfl,rfl⟩,ht.isList.at fun o q=>bz _ q⟩,fun b hb=>?_,fun i v hv=>?_,fun s' t' mv=>?_⟩
  ·rw[jd]
   rcases bI.mp hb with rfl|hb
   ·exact mJ _
   ·obtain rfl:b=a:=by simpa using hb
    obtain⟨k,z⟩:=ht;exact kK (ew z)
  ·have hv:ws[i]?=some v:=by simpa using hv
   obtain⟨y,hy,hr⟩:=bq.get' lu hv;obtain⟨k,rfl,hk⟩:=Au LN hy;obtain⟨t,rfl⟩:=Dn.int_inv (P:=P) hr;exact⟨t,by simp[hk]⟩
  ·refine⟨⟨fun b o q=>mv.heap b o (fun hm=>?_) (bz _ q),?_,mv.os⟩,?_⟩
   ·obtain rfl:b=s.heap.objs.size:=by simpa using hm
    rw[bE]at q;cases q
   ·have:=mv.gens
    rw[show s'.gens=s.gens from this];exact .refl _
   ·rw[cb,lu.length,<-rz LN,C5]
    exact .ofInt _ _
noncomputable def ul(f:Nat->Int):Nat->Int
 |0=>f 0
 |k+1=>max (ul f k) (f (k+1))
theorem EA(f:Nat->Int):ul f 0=f 0:=rfl
theorem yh(f:Nat->Int)(k:Nat):ul f (k+1)=max (ul f k) (f (k+1)):=rfl
theorem sk(f:Nat->Int):∀k,f (argBest (fun i j=>decide (f i>f j)) k)=ul f k
 |0=>rfl
 |k+1=>by
  have ih:=sk f k;unfold argBest;rw[yh];rw[<-ih];by_cases h:f (k+1)>f (argBest (fun i j=>decide (f i>f j)) k)
  ·rw[aw (by simpa using h)];omega
  ·rw[au (by simpa using h)];omega
noncomputable def HQ(l:List V):Option V:=if l.isEmpty=true then none else(hV l).map fun is=>.int (ul (fun j=>(is[j]?).getD 0) (is.length-1))
noncomputable def C6:List V->Option V
 |[x]=>x.gm.bind HQ
 |[x,y]=>qI V.int? V.int? (fun a b=>some (.int (if b>a then b else a))) x y
 |_=>none
theorem OZ(l:List V):C6 [.list l]=HQ l:=rfl
theorem O0(a b:Int):C6 [.int a,.int b]=some (.int (if b>a then b else a)):=rfl
theorem Av{l:List V}{is:List Int}{h:Heap}{hid:List Addr}:∀{ws:List Value},hV l=some is->bd P h hid l ws->∃ts:List (Int×Tok),ws.toArray=intItems ts.toArray/\ts.map (·.1)=is:=by
 induction l generalizing is with
 |nil=>
  intro ws h1 h2;cases h1;obtain rfl:=bd.nil_inv h2;exact⟨[],by simp[intItems],rfl⟩
 |cons y l ih=>
  intro ws h1 h2;obtain⟨v,r,rfl,hv,hr⟩:=bd.cons_inv h2;obtain⟨k,LM,rfl,h',rfl⟩:=oj h1;obtain⟨t,rfl⟩:=hv.int_inv;obtain⟨ts,e1,e2⟩:=ih h' hr;refine⟨(k,t)::ts,?_,by simp[e2]⟩;have e1':r=ts.map fun p=>Value.int p.1 p.2:=by
   have:=congrArg Array.toList e1;simpa[intItems]using this
  simp[intItems,e1']
theorem LO{A:Around}{s:Shared}{hid:List Addr}{l:List V}{x:V}{v:Value}{E:Value->Shared->Prop}(rm:cJ n A)(hv:Dn P s.heap hid (.list l) v)(hf:HQ l=some x):
  wpAny (model P.prog P.w) A (call (.builtin "max") [v]) (fun r s'=>Kp s s'/\Dn P s'.heap hid x r) E s:=by
 unfold HQ at hf;by_cases cZ:l.isEmpty=true
 ·rw[aw cZ]at hf;cases hf
 ·rw[au cZ]at hf
  refine map_inv hf fun is LN=>hv.jj rfl fun a ws ø ha ø ht lu=>?_
  clear hf hv;obtain⟨ts,e1,e2⟩:=Av LN lu;rw[e1]at ht;have hlen:ts.length=is.length:=by rw[<-e2];simp
  have hl:is.length=l.length:=rz LN;have Hu:0<ts.toArray.size:=by
   rw[cb,hlen,hl];exact tu.mpr fun z=>cZ (by rw[z];rfl)
  have kR:numAt ts.toArray=fun j=>(is[j]?).getD 0:=by
   funext j
   unfold numAt;rw[<-e2];simp
  refine max_intList rm.handled ht.isList Hu fun v h' tk Fx hk=>⟨.heap hk,?_⟩
  obtain⟨t,rfl⟩:=intItems_at Fx;have e3:=sk (numAt ts.toArray) (ts.toArray.size-1);rw[e3,kR,cb,hlen];exact .ofInt _ _
theorem um:aZ P n (.builtin "max") C6:=fun A s hid xs x vs E rm hG live hd hf=>by
 cases xs with
 |nil=>cases hf
 |cons y xs=>cases xs with
  |nil=>exact ak hf fun l hl hf=>hd.one_k fun v hv=>LO rm (V.eO hl▸hv) hf
  |cons z xs=>cases xs with
   |nil=>
    exact bO hf fun a b ha hb hf=>some_inv hf <| hd.two_k fun v w hv hw=>hv.int_k ha fun t=>hw.int_k hb fun t'=>max_two_ints rm.handled fun h' tk hk=>⟨.heap hk,by
     by_cases h:b>a
     ·rw[aw h,aw h];exact .ofInt _ _
     ·rw[au h,au h];exact .ofInt _ _⟩
   |cons _ _=>cases hf
end
section
variable{P:Pk}{n:Nat}{K K':Cx}{lo:Bool}
inductive Zi(P:Pk)(name:Str)(s:Shared)(hid:List Addr)(y:V)(v:Value)(xs:List V)(r:V):Prop
 |mk (T id:String) (p:PlainAttrs T) (sl:Slot T name id) (t:typeOf (.builtin id)=pure (.type "method_descriptor")) (ty:s.TypeIs v T) (nd:∀a,v= .ref a->∃ob,s.heap.get? a=some ob/\ob.dict=none)
  (h:∀(A:Around) (s₁:Shared) (vs:List Value) (E:Value->Shared->Prop),cJ 0 A->P.G s₁.heap->cD s₁.heap hid->Dn P s₁.heap hid y v->bd P s₁.heap hid xs vs->
   wpAny (model P.prog P.w) A (call (.builtin id) (v::vs)) (fun u s'=>Kp s₁ s'/\Dn P s'.heap hid r u) E s₁):Zi P name s hid y v xs r
noncomputable def HR(P:Pk)(name:Str)(F:V->List V->Option V):Prop:=
 ∀(s:Shared) (hid:List Addr) (y:V) (v:Value) (xs:List V) (r:V),P.G s.heap->Dn P s.heap hid y v->F y xs=some r->Zi P name s hid y v xs r
noncomputable def Rt(F:V->List V->Option V)(f:ao->Option V)(g:ao->Option (List V)):ao->Option V:=fun ρ=>(f ρ).bind fun y=>(g ρ).bind fun xs=>F y xs
theorem hZ{o:Expr}{apos pos:Pos}{name:Str}{args:List Expr}{F f g}(ho:em P n K lo o f)
  (hm:HR P name F) (ha:j7 P n K lo args g) (iS:∀env,starEach args env=args.map fun e=>(false,eval e env)) (cZ:args.length<20) (pU:(apos.endLine==pos.line)=true) (pV:∀env,attributeBase o name env (eval o env)=eval o env):
  em P n K lo (.Call (.Attribute o name apos) args [] pos) (Rt F f g):=fun A env out hid m B s ρ z E r S hf=>by
 refine ak hf fun y hy gu=>?_
 clear hf;rename _=>hf
 refine ak hf fun xs x7 hF=>?_
 have ee:(backTo pos (starEach args env)).any (·.1)=false:=ct iS;refine xB (pV env) (nI ee cZ) pU ?_;refine aD (ho A env out hid m B s ρ y E r S hy) (fun v s₁ q=>?_) fun ø ø q=>q
 have bC:=S.after q.1;obtain⟨T,id,c1,c2,c3,c4,c5,c6⟩:=hm s₁ (av lo out hid) y v xs z bC.G q.2 hF;refine⟨T,id,c1,c2,c3,c4,c5,tq ee ?_⟩;have key:=ha A env out hid m B s₁ ρ xs E pos r bC x7;have fin:∀vs s₂,(Kp s₁ s₂/\bd P s₂.heap (av lo out hid) xs vs)->wpAny (model P.prog P.w) A (call (.builtin id) ([v]++vs) []) (fun u s'=>Kp s s'/\Dn P s'.heap (av lo out hid) z u) E s₂:=by
  intro vs s₂ aM;have dI:=bC.after aM.1;exact aD (c6 A s₂ vs E (r.less (eK _)) dI.G (dI.Ek lo) (Dn.kp (P:=P) q.2 aM.1) aM.2) (fun u s' q'=>⟨(q.1.trans aM.1).trans q'.1,q'.2⟩) fun ø ø q=>q
 exact bW ee (aD key fin fun ø ø q=>q)
noncomputable def oW:List V->Option (List (List Nat))
 |[]=>some []
 |x::l=>x.jK.bind fun i=>(oW l).map (i:: ·)
theorem HS:oW []=some []:=rfl
theorem HT(i:List Nat)(l:List V):oW (.str i::l)=(oW l).map (i:: ·):=rfl
theorem FO{y:V}{l:List V}{is:List (List Nat)}(h:oW (y::l)=some is):∃k LM,y= .str k/\oW l=some LM/\is=k::LM:=by
 obtain⟨i,hi,h⟩:=kG.mp h;obtain⟨r,h1,h2⟩:=np.mp h;exact⟨i,r,V.kN hi,h1,h2.symm⟩
theorem wZ{h:Heap}{hid}:∀{l:List V} {ts:List (List Nat)} {vs:List Value},oW l=some ts->bd P h hid l vs->∃w:List (Str×Tok),vs=strValues w/\w.map (·.1)=ts.map pyStr
 |[],ts,vs,e,d=>by cases e;obtain rfl:=bd.nil_inv d;exact⟨[],rfl,rfl⟩
 |y::l,ts,vs,e,d=>by
  obtain⟨t,ts',rfl,h',rfl⟩:=FO e;obtain⟨v,r,rfl,h1,h2⟩:=bd.cons_inv d;obtain⟨k,rfl⟩:=h1.str_inv;obtain⟨w,rfl,hw⟩:=wZ h' h2;exact⟨(pyStr t,k)::w,rfl,by simp[hw]⟩
noncomputable def oX(sep:List Nat):List (List Nat)->List Nat
 |[]=>[]
 |[x]=>x
 |x::y::r=>x++sep++oX sep (y::r)
theorem Aw(sep:List Nat):oX sep []=[]:=rfl
theorem Ax(sep x:List Nat):oX sep [x]=x:=rfl
theorem Ay(sep x y:List Nat)(r:List (List Nat)):oX sep (x::y::r)=x++sep++oX sep (y::r):=rfl
theorem EB(sep:List Nat):∀ts:List (List Nat),Str.join (pyStr sep) (ts.map pyStr)=pyStr (oX sep ts)
 |[]=>rfl
 |[x]=>rfl
 |x::y::r=>by
  show pyStr x++pyStr sep++Str.join (pyStr sep) ((y::r).map pyStr)=_;rw[EB sep (y::r),og,og];rfl
noncomputable def Sv(sep:List Nat)(l:List V):Option V:=(oW l).bind fun ts=>if JoinOk (pyStr sep) (ts.map pyStr)=true then some (.str (oX sep ts))else none
noncomputable def EC(y:V)(xs:List V):Option V:=y.jK.bind fun sep=>(V.one? xs).bind fun x=>x.gm.bind (Sv sep)
theorem ED(sep:List Nat)(l:List V):EC (.str sep) [.list l]=(oW l).bind fun ts=>if JoinOk (pyStr sep) (ts.map pyStr)=true then some (.str (oX sep ts))else none:=rfl
theorem EE:HR P "join" EC:=fun s hid y v xs r G hv hF=>ak hF fun sep hs hF=>ak hF fun x R9 hF=>ak hF fun l hl hF=>ak hF fun ts Sw hF=>eR hF fun Cg e=>by
 cases V.jm R9;subst e;exact hv.str_k hs fun t=>⟨"str","str.join",Cs,PySem.F.slot_str_join,PySem.F.type_str_join,qU _ _ _,(fun ø e=>nomatch e),fun A s₁ vs E rm HU live t9 hx=>hx.one_k fun u hu=>hu.jj hl fun a ws ø ha ø ht hd=>by
  obtain⟨w,rfl,hw⟩:=wZ Sw hd;refine PySem.SC.join ht.isList hw Cg fun t' k=>⟨Kp.toks s₁ k,?_⟩
  rw[show Txt.join (pyStr sep) (ts.map pyStr)=pyStr (oX sep ts)from(PySem.StrLaws.glued_eq_join _ _).trans (EB sep ts)];exact .ofStr _ _⟩
noncomputable def lY(l:List Nat):List Nat:=(Txt.lower (pyStr l)).cps.toList
noncomputable def O1(y:V)(xs:List V):Option V:=y.jK.bind fun l=>if xs.isEmpty=true/\Builtin.Str.tooLong (Txt.lower (pyStr l)).length=false then some (.str (lY l))else none
theorem O2(l:List Nat)(h:Builtin.Str.tooLong (Txt.lower (pyStr l)).length=false):O1 (.str l) []=some (.str (lY l)):=by
 show(if _ then _ else _)=_;rw[aw ⟨rfl,h⟩]
theorem Sx:HR P "lower" O1:=fun s hid y v xs r G hv hF=>ak hF fun l hl hF=>eR hF fun Cg e=>by
 subst e;obtain⟨h1,Cg⟩:=Cg
 cases xs with
 |cons _ _=>cases h1
 |nil=>
  exact hv.str_k hl fun t=>⟨"str","str.lower",Cs,PySem.F.slot_str_lower,PySem.F.type_str_lower,qU _ _ _,(fun ø e=>nomatch e),fun A s₁ vs E rm HU live t9 hx=>by
   obtain rfl:=bd.nil_inv hx;exact PySem.SC.lower (t:=t) Cg ⟨Kp.toks s₁ _,.ofStr (lY l) _⟩⟩
end
section
variable{P:Pk}{n:Nat}{K K':Cx}{lo:Bool}
noncomputable def Sy(xs:List V):Option V:=(V.one? xs).bind fun x=>x.gm.bind fun l=>if l.length<=most then some (.tup l)else none
theorem O3(l:List V):Sy [.list l]=if l.length<=most then some (.tup l)else none:=id rfl
theorem O4{A:Around}{s:Shared}{hid:List Addr}{a:Addr}{ws:List Value}{l:List V}{E:Value->Shared->Prop}(live:cD s.heap hid)(ht:s.heap.PlainList a ws.toArray)(hd:bd P s.heap hid l ws)(hm:l.length<=most):
  wpAny (model P.prog P.w) A (call (.type "tuple") [.ref a]) (fun r s'=>Kp s s'/\Dn P s'.heap hid (.tup l) r) E s:=by
 refine PySem.call_tuple_list ht.isList (fun h' hk=>?_) (by rw[cb,hd.length];exact az hm cR);have kp:Kp s {s with heap:=h'.push {cls:=.type "tuple",data:=.seq ws.toArray} }:=⟨fun b o e=>bz _ (hk b o e),.refl _,rfl⟩;refine⟨kp,.Hk ?_ ⟨0,bJ _ rfl⟩ (bd.kp (P:=P) hd kp)⟩;intro q;obtain⟨o,e⟩:=live _ q;have:=hk _ _ e;rw[bE]at this;cases this
noncomputable def WT(xs:List V):Option V:=(nJ xs).bind fun l=>if l.length<=most then some (.list l)else none
theorem bd.Sz{h:Heap}{hid}{l:List V}:∀{vs:List Value},vs.length=l.length->(∀(i:Nat) x v,l[i]?=some x->vs[i]?=some v->Dn P h hid x v)->bd P h hid l vs:=by
 induction l with
 |nil=>
  intro vs hl _;cases List.length_eq_zero_iff.mp hl;exact bq.nil
 |cons x l ih=>
  intro vs hl h1
  cases vs with
  |nil=>cases hl
  |cons v vs=>exact .cons (h1 0 x v rfl rfl) (ih (Nat.succ.inj hl) fun i y u hy hu=>h1 (i+1) y u hy hu)
set_option tactic.hygienic true in
theorem sL{p p2 pos pZ:Pos}{es:List Expr}{f}(hx:K.aV.contains "range"=true)(hv:P.glob "range"=some (.type "range"))(zS:K.aV.contains "list"=true)(Fx:P.glob "list"=some (.type "list"))
  (hs:j7 P n K false es f) (iS:∀env,starEach es env=es.map fun e=>(false,eval e env)) (Az:∀env,starEach [.Call (.Name "range" p2) es [] pZ] env=[(false,eval (.Call (.Name "range" p2) es [] pZ) env)]):
  Hs P n K (.Call (.Name "list" p) [.Call (.Name "range" p2) es [] pZ] [] pos) (fun ρ=>(f ρ).bind WT):=fun A env out hid m B s ρ x E rm S hf=>by
 refine ak hf fun y hy gu=>?_
 clear hf;rename _=>hf
 refine ak hf fun l hl gu=>?_
 clear hf;rename _=>hf
 split at hf
 case isFalse=>cases hf
 rename_i hm;cases hf;have hp:(backTo pos (starEach [.Call (.Name "range" p2) es [] pZ] env)).any (·.1)=false:=by rw[Az];rfl
 refine kF (bH S zS Fx (by decide) ?_);refine ph hp ?_;refine bW hp (m7 (Q:=fun vs s'=>wpAny (model P.prog P.w) A (call (.type "list") ([]++vs) []) (fun v s'=>Kp s s'/\Hr P s s' hid (.list l) v) E s') ?_ (Az env));refine kF (bH S hx hv (by decide) ?_);refine ph (ct iS) ?_;refine bW (ct iS) (aD (hs A env out hid m B s ρ y E pZ rm S hy) (fun vs s₁ aj=>?_) fun ø ø q=>q);refine pW (vs:=[]++vs) aj.2 hl fun a b c t u v k s₂ lS hk ls hr kp=>?_
 subst lS;refine nk ?_;have hkm:k<=most:=by simpa using hm
 have EF:most=1000000:=rfl;refine call_list_range rm.handled hr ls hk.symm (by omega) fun h' tk eN c' O5 hS hit=>?_
 have kp':Kp s₂ {s₂ with heap:=h',toks:=tk}:=.heap O5;refine⟨aj.1.trans (kp.trans kp'),?_⟩;have jn:s.heap.get? s₂.heap.objs.size=none:=by
  cases e:s.heap.get? s₂.heap.objs.size with
  |none=>rfl
  |some o=>have:=kp.keep _ _ (aj.1.keep _ _ e);rw[bE]at this;cases this
 refine⟨_,eN.toList,rfl,jn,⟨c',by simpa using hS⟩,bd.Sz (by simp[hit.1]) fun i z w hz hw=>?_⟩;rw[dh]at hz;have hw':eN[i]?=some w:=by simpa using hw
 obtain⟨t',rfl⟩:=hit.2 i w hw';by_cases hi:i<k
 ·rw[Co hi]at hz
  cases hz;exact .ofInt _ _
 ·rw[na (by simpa using hi)]at hz;cases hz
end
section
variable{P:Pk}{n:Nat}{K K':Cx}{lo:Bool}
theorem HV{h:Heap}{hid:List Addr}{q:Int}{ks:List Int}{xs:List V}{vs:List Value}{d:V}{u:Value}(hl:vs.length=ks.length)(hd:bd P h hid xs vs)(hu:Dn P h hid d u):Dn P h hid ((pY ks xs q).getD d) ((valueAt (ks.zip vs) q).getD u):=by
 have:=ug (P:=P) (q:=q) hl hd
 cases e:pY ks xs q with
 |some z=>rw[e]at this;obtain⟨w,hw,hz⟩:=this;rw[hw];exact hz
 |none=>rw[e]at this;rw[this];exact hu
noncomputable def HW(P:Pk)(a:Addr)(name:Str)(F:List V->Option V):Prop:=
 ∀(s:Shared),P.G s.heap->∃(T id:String),PlainAttrs T/\Slot T name id/\typeOf (.builtin id)=pure (.type "method_descriptor")/\s.TypeIs (.ref a) T/\(∃ob,s.heap.get? a=some ob/\ob.dict=none)/\
  ∀(A:Around) (s₁:Shared) (hid:List Addr) (xs:List V) (r:V) (vs:List Value) (E:Value->Shared->Prop),cJ 0 A->P.G s₁.heap->cD s₁.heap hid->bd P s₁.heap hid xs vs->F xs=some r->
   wpAny (model P.prog P.w) A (call (.builtin id) (.ref a::vs)) (fun u s'=>Kp s₁ s'/\Dn P s'.heap hid r u) E s₁
theorem AA{id:Str}{p apos pos:Pos}{name:Str}{args:List Expr}{a:Addr}{F g}(hx:K.aV.contains id=true)(hv:P.glob id=some (.ref a))(hd:(id==("__debug__":Str))=false)
  (hm:HW P a name F) (ha:j7 P n K lo args g) (iS:∀env,starEach args env=args.map fun e=>(false,eval e env)) (cZ:args.length<20) (pU:(apos.endLine==pos.line)=true) (pV:∀env,attributeBase (.Name id p) name env (eval (.Name id p) env)=eval (.Name id p) env):
  em P n K lo (.Call (.Attribute (.Name id p) name apos) args [] pos) (ji F g):=fun A env out hid m B s ρ z E r S hf=>by
 refine ak hf fun xs x7 hF=>?_
 have ee:(backTo pos (starEach args env)).any (·.1)=false:=ct iS;refine xB (pV env) (nI ee cZ) pU ?_;refine bH S hx hv hd ?_;obtain⟨T,id,c1,c2,c3,c4,c5,c6⟩:=hm s S.G;refine⟨T,id,c1,c2,c3,c4,fun b e=>by cases e;exact c5,tq ee ?_⟩;have key:=ha A env out hid m B s ρ xs E pos r S x7;have fin:∀vs s₂,(Kp s s₂/\bd P s₂.heap (av lo out hid) xs vs)->wpAny (model P.prog P.w) A (call (.builtin id) ([.ref a]++vs) []) (fun u s'=>Kp s s'/\Dn P s'.heap (av lo out hid) z u) E s₂:=by
  intro vs s₂ aM;have dI:=S.after aM.1;exact aD (c6 A s₂ _ xs z vs E (r.less (eK _)) dI.G (dI.Ek lo) aM.2 hF) (fun u s' q'=>⟨aM.1.trans q'.1,q'.2⟩) fun ø ø q=>q
 exact bW ee (aD key fin fun ø ø q=>q)
noncomputable def HX(ks:List Int)(ts:List (List Nat))(xs:List V):Option V:=(V.one? xs).bind fun x=>x.int?.bind fun k=>some ((pY ks (ts.map .str) k).getD .none)
theorem O6(ks:List Int)(ts:List (List Nat))(k:Int):HX ks ts [.int k]=some ((pY ks (ts.map .str) k).getD .none):=rfl
theorem SA{a:Addr}{ks:List Int}{ts:List (List Nat)}(ls:(a==sysModules)=false)(h:∀h,P.G h->∃oU:List (Str×Tok),oU.map (·.1)=ts.map pyStr/\oU.length=ks.length/\h.DictOf (intKind P.prog P.w) a (ks.zip (strValues oU))):
  HW P a "get" (HX ks ts):=fun s G=>by
 obtain⟨oU,e1,e2,ht⟩:=h _ G;refine⟨"dict","dict.get",PySem.F.plainAttrs_dict,PySem.F.slot_dict_get,PySem.F.type_dict_get,ht.typeIs,ht.mapOf.noDict _ rfl,fun A s₁ hid xs r vs E rm HU live hx hF=>?_⟩;refine ak hF fun y hy hF=>ak hF fun k hk hF=>some_inv hF ?_
 cases V.jm hy;refine hx.one_k fun u hu=>hu.int_k hk fun t=>?_
 clear hF hy hu hx ht e1 e2 oU;obtain⟨oU,e1,e2,ht⟩:=h _ HU;have key:∀(oU:List (Str×Tok)) (ts:List (List Nat)),oU.map (·.1)=ts.map pyStr->bd P s₁.heap hid (ts.map .str) (strValues oU):=by
  intro oU
  induction oU with
  |nil=>intro ts e;cases ts with
   |nil=>exact bq.nil
   |cons t ts=>simp at e
  |cons p oU ih=>intro ts e;cases ts with
   |nil=>simp at e
   |cons t ts=>
    simp only[bB,List.cons.injEq]at e;obtain⟨x,y⟩:=p;obtain⟨rfl,e⟩:=e;exact .cons (Dn.ofStr (P:=P) _ _) (ih ts e)
 exact call_meetsIn PySem.F.slot_dict_get ht.typeIs PySem.F.entry_dict_get (PySem.F.args_dict_get_2 _ _) (meets_dict_get _ a (intKind_is P.prog P.w k t) ls) ⟨_,ht.mapOf,Kp.toks s₁ _,HV (by simpa[strValues]using e2) (key oU ts e1) .t8⟩
end
section
variable{P:Pk}{n:Nat}{K K':Cx}{lo:Bool}
noncomputable def HY(T:Int->Bool)(x:V):Option V:=x.int?.map fun k=>.bool (T k)
theorem H0(T:Int->Bool)(k:Int):HY T (.int k)=some (.bool (T k)):=rfl
theorem AB{l:Expr}{id:Str}{p pos:Pos}{a:Addr}{T:Int->Bool}{f}(hx:K.aV.contains id=true)(hv:P.glob id=some (.ref a))(hd:(id==("__debug__":Str))=false)
  (hG:∀h,P.G h->∃n,h.SetOf (intKind P.prog P.w) a T n) (hl:em P n K true l f) (hm:behindInMarks .In (.Name id p)=false):
  em P n K lo (.Compare l [.In] [.Name id p] pos) (fun ρ=>(f ρ).bind (HY T)):=fun A env out hid m B s ρ z E rm S hf=>by
 refine ak hf fun x zS gu=>?_
 clear hf;rename _=>hf
 refine cI hf fun k hk e=>?_
 cases V.nE hk;subst e;refine wpAny_Compare1 (aD (hl A env out hid m B s ρ _ E rm S zS) (fun u s₁ aj=>?_) fun ø ø q=>q) hm;have bC:=S.after aj.1;refine bH bC hx hv hd ?_;obtain⟨t,rfl⟩:=aj.2.int_inv;obtain⟨n,hS⟩:=hG _ bC.G;exact wpAny_inSet_of (intKind_is P.prog P.w k t) rfl hS ⟨aj.1.trans (Kp.toks s₁ _),.ofBool _⟩
noncomputable def tabS(T:List Nat->Option Int)(x:V):Option V:=x.jK.bind fun l=>(T l).map .int
theorem AC{i:Expr}{id:Str}{p pos:Pos}{a:Addr}{T:List Nat->Option Int}{g}(hx:K.aV.contains id=true)(hv:P.glob id=some (.ref a))(hd:(id==("__debug__":Str))=false)
  (hG:∀h,P.G h->∃f:Str->Option Value,h.MapOf (strKind P.prog P.w) a f/\∀l k,T l=some k->∃t,f (pyStr l)=some (.int k t)) (hi:em P n K true i g)
  (hs:∀u v,subscripted i false u v=operate [u,v] (getItem u v)):em P n K lo (.Subscript (.Name id p) i pos) (fun ρ=>(g ρ).bind (tabS T)):=fun A env out hid m B s ρ z E rm S hf=>by
 refine ak hf fun y hy gu=>?_
 clear hf;rename _=>hf
 refine ak hf fun l hl hf=>cI hf fun k hk e=>?_
 cases V.kN hl;subst e;refine rx ?_ (fun u v=>⟨_,hs u v⟩);refine bH S hx hv hd ?_;refine aD (hi A env out hid m B s ρ _ E rm S hy) (fun v s₂ aM=>?_) fun ø ø q=>q
 obtain⟨t,rfl⟩:=aM.2.str_inv;obtain⟨f,hm,hf⟩:=hG _ (S.after aM.1).G;obtain⟨t',e⟩:=hf l k hk;exact⟨"dict","dict.__getitem__",slot_dict_getitem.lookup,hm.typeIs,wpAny_getItem_of (strKind_is P.prog P.w (pyStr l) t) hm e ⟨aM.1.trans (Kp.toks s₂ _),.ofInt _ _⟩⟩
end
section
section
variable{prog:Program}{w:World}{A:Around}{E:Value->Shared->Prop}{s:Shared}{KK:Type}[DecidableEq KK]{knd:KeyKind prog w KK}
end
end
section
variable{P:Pk}{n:Nat}{K K':Cx}{lo:Bool}
theorem fm{es:List Expr}{pos:Pos}{f}(hs:j7 P n K false es f)(hl:es.length<=100)(hlen:∀ρ x,f ρ=some x->x.length=es.length):Hs P n K (.List es pos) (fun ρ=>(f ρ).map .list):=fun A env out hid m B s ρ x E rm S hf=>by
 refine cI hf ?_;clear hf;rintro y hy rfl;refine wpAny_List (aD (hs A env out hid m B s ρ y E pos rm S hy) (fun vs s₁ aj=>⟨?_,aj.1.trans (Kp.push s₁ _ _),?_⟩) fun ø ø q=>q)
 ·rw[aj.2.length,hlen _ _ hy,jM];omega
 ·have jn:s.heap.get? s₁.heap.objs.size=none:=by
   cases e:s.heap.get? s₁.heap.objs.size with
   |none=>rfl
   |some o=>have:=aj.1.keep _ _ e;rw[bE]at this;cases this
  exact⟨_,vs,rfl,jn,⟨0,bJ _ rfl⟩,aj.2.grow (fun a o ø e=>bz _ e) fun a ha=>by
   rcases bI.mp ha with rfl|ha
   ·exact .inr (bE _)
   ·exact .inl ha⟩
theorem AD{pos:Pos}:Hs P n K (.Dict [] [] pos) (fun ø=>some (.dict [] [])):=fun A env out hid m B s ρ x E rm S hf=>by
 cases hf;refine wpAny_Dict_empty ⟨Kp.push s _ s.toks,?_⟩;have cZ:(s.heap.objs.size==sysModules)=false:=by
  obtain⟨mg,mb,h1,h2,_⟩:=P.aV S.G;rw[kI];intro e;have:=h1.lt;rw[e]at this;exact absurd this (by decide)
 exact⟨_,[],rfl,bE _,cZ,rfl,Heap.DictOf.new _,bq.nil⟩
noncomputable def SB(x:V):Option V:=x.int?.map fun i=>.int (-i)
theorem FP{e:Expr}{pos:Pos}{f}(h:em P n K lo e f):em P n K lo (.UnaryOp .USub e pos) (fun ρ=>(f ρ).bind SB):=fun A env out hid m B s ρ x E rm S hf=>by
 refine ak hf fun y hy gu=>?_
 clear hf;rename _=>hf
 refine wpAny_UnaryOp (aD (h A env out hid m B s ρ y E rm S hy) (fun v s₁ aj=>?_) fun ø ø q=>q);refine cI hf fun i hi e=>?_
 cases V.nE hi;subst e;obtain⟨t,rfl⟩:=aj.2.int_inv;exact PyProof.Rows.neg_int ⟨aj.1.trans (Kp.toks s₁ _),.ofInt _ _⟩
noncomputable def Vk(P:Pk)(n:Nat)(K:Cx)(e:Expr)(f:ao->Option V):Prop:=
 ∀(A:Around) (env:Env) (out hid:List Addr) (m:Str->Option Value) (B s:Shared) (ρ:ao) (l:List V) (E:Value->Shared->Prop),cJ n A->aU P K env out hid m B s ρ->f ρ=some (.list l)->
  wpAny (model P.prog P.w) A (eval e env) (fun v s'=>Kp s s'/\∃a vs,v= .ref a/\s'.heap.PlainList a vs.toArray/\bd P s'.heap hid l vs) E s
theorem H1{e f}(h:em P n K false e f):Vk P n K e f:=fun A env out hid m B s ρ l E rm S hf=>
 aD (h A env out hid m B s ρ _ E rm S hf) (fun v s' q=>⟨q.1,by
  obtain⟨p,vs,rfl,d1,d2,d3⟩:=q.2.cK;exact⟨p,vs,rfl,d2,d3⟩⟩) fun ø ø q=>q
theorem FQ(i:Nat){x:Str}{k:NameKind}{pos:Pos}(hi:K.vars[i]?=some (x,k,true))(hd:(x==("__debug__":Str))=false)(hc:(x==("__classdict__":Str))=false):
  Vk P n K (.Name x pos) fun ρ=>ρ i:=fun A env out hid m B s ρ y E r S hf=>
 fM (S.load hi hf hd hc fun v hv ø=>⟨Kp.refl s,by
  rw[aw rfl]at hv;obtain⟨a,vs,rfl,h1,h2,h3,h4,h5⟩:=eP.cK hv;exact⟨a,vs,rfl,h4,h5⟩⟩) hd
noncomputable def O7:V->V->Option V:=qI V.gm V.gm fun a b=>if a.length+b.length<=most then some (.list (a++b))else none
theorem LP(a b:List V):O7 (.list a) (.list b)=if a.length+b.length<=most then some (.list (a++b))else none:=rfl
theorem C7{l r:Expr}{pos:Pos}{f g}(hl:Vk P n K l f)(hr:Vk P n K r g):
  Hs P n K (.BinOp l .Add r pos) (iR O7 f g):=fun A env out hid m B s ρ z E rm S hf=>by
 refine ak hf fun x hx gu=>?_
 clear hf;rename _=>hf
 refine ak hf fun y hy gu=>?_
 clear hf;rename _=>hf
 refine bO hf fun a b ha hb hf=>eR hf fun hc he=>?_
 cases V.eO ha;cases V.eO hb;subst he;refine wpAny_BinOp (aD (hl A env out hid m B s ρ _ E rm S hx) (fun u s₁ aj=>?_) fun ø ø q=>q);refine aD (hr A env out hid m B s₁ ρ _ E rm (S.after aj.1) hy) (fun v s₂ aM=>?_) fun ø ø q=>q
 obtain⟨k1,p,vs,rfl,⟨n₁,d2⟩,d3⟩:=aj;obtain⟨k2,p',v8,rfl,⟨Oy,d2'⟩,Zj⟩:=aM;have jn:s.heap.get? s₂.heap.objs.size=none:=by
  cases e:s.heap.get? s₂.heap.objs.size with
  |none=>rfl
  |some o=>have:=k2.keep _ _ (k1.keep _ _ e);rw[bE]at this;cases this
 replace d3:=bd.kp (P:=P) d3 k2;refine PySem.P.add_list (n:=n₁) (n2:=Oy) (k2.keep _ _ d2) d2' ⟨k1.trans (k2.trans (Kp.push s₂ _ s₂.toks)),?_⟩ (by rw[cb,cb,d3.length,Zj.length];exact az hc cR);rw[Cj];exact⟨_,vs++v8,rfl,jn,⟨0,bJ _ rfl⟩,bd.grow (P:=P) (d3.app Zj) (fun a o ø e=>bz _ e) fun a ha=>by
  rcases bI.mp ha with rfl|ha
  ·exact .inr (bE _)
  ·exact .inl ha⟩
end
section
variable{P:Pk}{n:Nat}{K K':Cx}{lo:Bool}
theorem w0{t e:Expr}{pos:Pos}{a f}(ha:En P K false t a)(h:em P n K false e f)(hs:∀env,swapsWithSole [t] e pos.line env=pure false)(hw:∀env,swappedStores [t] e env=pure none)
  (he:∀env,(assignEach [t] env).map (·.2)=[assign t env]):zQ P n K (.Assign [t] e pos) fun ρ=>(f ρ).bind fun y=>(a ρ y).map fun aQ=>(aQ,.next):=fun A env out hid m B s ρ aQ fl E r S hf=>by
 refine ak hf fun y hy e'=>?_
 refine cI e' ?_;rintro am LH e';cases e';refine wpAny_Assign_stores (aD (h A env out hid m B s ρ y E r S hy) (fun v s₁ aj=>?_) fun ø ø x=>x) (hs env) (hw env);rw[he];refine aD (ha A env out hid m B s₁ ρ _ y v E r.handled (S.after aj.1) LH aj.2) (fun ø s₂ q=>?_) fun ø ø x=>x
 obtain⟨ar,m',S',K',_⟩:=q;exact⟨ar,m',S',(Ks.iI aj.1).trans K',rfl⟩
theorem C8(i j k:Nat){x y z:Str}{kx ky kz:NameKind}{p1 p2 p3 pos:Pos}{e:Expr}{c:Int}(hi:K.vars[i]?=some (x,kx,false))(hj:K.vars[j]?=some (y,ky,false))(hk:K.vars[k]?=some (z,kz,false))
  (fx:kx≠ .free) (fy:ky≠ .free) (fz:kz≠ .free) (h:em P n K false e fun ø=>some (.int c)) (hw:∀env,swappedStores [.Name x p1,.Name y p2,.Name z p3] e env=pure none)
  (he:∀env,(assignEach [.Name x p1,.Name y p2,.Name z p3] env).map (·.2)=[assign (.Name x p1) env,assign (.Name y p2) env,assign (.Name z p3) env]):
  zQ P n K (.Assign [.Name x p1,.Name y p2,.Name z p3] e pos) fun ρ=>some (upd (upd (upd ρ i (.int c)) j (.int c)) k (.int c),.next):=fun A env out hid m B s ρ aQ fl E r S hf=>by
 cases hf;refine wpAny_Assign_three (aD (h A env out hid m B s ρ _ E r S rfl) (fun v s₁ aj=>?_) fun ø ø x=>x) (he env) (hw env);obtain⟨t,rfl⟩:=aj.2.int_inv;refine lz ((S.after aj.1).store hi (y:=.int c) (show Dn P s₁.heap hid (.int c) (.int c t)from .ofInt c t) (fun q=>by cases q) fx fun m₁ s₂ dI ro ø=>?_);refine lz (dI.store hj (y:=.int c) (show Dn P s₂.heap hid (.int c) (.int c t)from .ofInt c t) (fun q=>by cases q) fy fun m₂ s₃ rr O8 ø=>?_);exact lz (rr.store hk (y:=.int c) (show Dn P s₃.heap hid (.int c) (.int c t)from .ofInt c t) (fun q=>by cases q) fz fun SD j8 ru FR ø=>⟨hid,SD,ru,(Ks.iI aj.1).trans (ro.trans (O8.trans FR)),rfl⟩)
end
section
section
variable{prog:Program}{w:World}{A:Around}{E:Value->Shared->Prop}{s:Shared}
theorem w5{it t:Addr}{items:Array Value}(cZ:t≠it):∀(n i:Nat) (s:Shared) (Q:List Value->Shared->Prop),s.heap.IsListIter it t i->s.heap.IsList t items->i+n<=items.size->
  (∀h',h'.IsListIter it t (i+n)->Heap.SameBut it s.heap h'->Q ((items.toList.drop i).take n) {s with heap:=h'})->wpAny (model prog w) A (draw (.ref it) n) Q E s
 |0,i,s,Q,hit,_,_,hQ=>by
  show wpAny _ _ (pure []) Q E s;exact bK (by simpa using hQ s.heap hit (Heap.SameBut.refl ..))
 |n+1,i,s,Q,hit,ht,hle,hQ=>by
  have eu:i<items.size:=by omega
  show wpAny _ _ (pyNext (.ref it)>>= _) Q E s;refine aA (wpAny_pyNext_list_item hit ht (x:=items[i]) (by simp[eu]) fun aj rA eS=>?_);refine aA (gH (w5 cZ n (i+1) _ _ rA (ht.extBut eS.extBut cZ) (by omega) fun aM O9 kU=>bK ?_));have hd:items.toList.drop i=items[i]::items.toList.drop (i+1):=by simp[List.drop_eq_getElem_cons,eu]
  have:=hQ aM (by rw[show i+(n+1)=i+1+n by omega];exact O9) (eS.trans kU);rw[hd,List.take_succ_cons]at this;exact this
theorem rB{t:Addr}{items:Array Value}{Q:List Value->Shared->Prop}(hh:A.handled=none)(ht:s.heap.IsList t items)
  (hQ:∀h',Heap.ExtBut s.heap.objs.size s.heap h'->Q items.toList {s with heap:=h'}):wpAny (model prog w) A (unpackItems (.ref t) items.size none) Q E s:=by
 have eu:t≠s.heap.objs.size:=by obtain⟨o,ho,_⟩:=ht;exact nf (ew ho)
 unfold unpackItems;refine aA ?_
 ·unfold notIterableAtAll
  refine aA (xH ht.typeIs slot_list_iter.lookup ?_);refine bK ?_;simp only[kC,gX];refine aA (gH (tz ht ?_));refine aA (gH (w5 eu items.size 0 _ _ ⟨_,bJ _ rfl,rfl,rfl⟩ (ht.push _) (by omega) fun aj rA eS=>?_));have Ft:List.take items.size (List.drop 0 items.toList)=items.toList:=by
   rw[List.drop_zero];exact qR (by simp)
  rw[Ft];rw[au (by simp)];have SE:aj.IsList t items:=(ht.push _).extBut eS.extBut eu;refine aA (gH (wpAny_pyNext_list_end hh rA SE (by simp) fun aM SF=>?_));simp only[Option.isSome_none,kC,gX];refine bK (hQ aM fun b o hb e=>SF b o hb (eS.extBut b o hb (bz _ e)))
theorem AE{t:Addr}{items:Array Value}{targets:List (Bool×(Value->Sem Unit))}{Q:Unit->Shared->Prop}(hh:A.handled=none)(ht:s.heap.IsList t items)
  (hn:targets.length=items.size) (SG:targets.findIdx? (·.1)=none)
  (h:∀h',Heap.ExtBut s.heap.objs.size s.heap h'->wpAny (model prog w) A (assignInOrder (targets.map (·.2)) items.toList) Q E {s with heap:=h'}):
  wpAny (model prog w) A (unpack (.ref t) targets) Q E s:=by
 unfold unpack;rw[hn,SG];exact aA (gH (rB hh ht h))
end
variable{P:Pk}{n:Nat}{K K':Cx}{lo:Bool}
noncomputable def NI(b:ao->List V->Option ao):ao->V->Option ao:=fun ρ x=>match x with
 | .list l=>b ρ l
 |_=>none
set_option tactic.hygienic true in
theorem Ru{lc:Bool}{ts:List Expr}{k:Nat}{p:Pos}{b}(h:Hw P K lc ts b)(hl:∀ρ xs aQ,b ρ xs=some aQ->xs.length=ts.length)(he:∀env,assignEach ts env=ts.map fun t=>(false,assign t env)):En P K lc (.Tuple ts k p) (NI b):=
 fun A env out hid m B s ρ aQ x v E hh S hf hv=>by
 cases x<;>simp only[NI]at hf<;>try cases hf
 rename_i l;obtain⟨a,vs,rfl,ha,ht,hd⟩:=hv.cK;rw[arm_assign_Tuple];refine aA (lB (AE hh ht.isList ?_ ?_ fun h' hx=>?_))
 ·rw[he,List.length_map,cb,hd.length,hl _ _ _ hf]
 ·rw[he]
  rw[List.findIdx?_eq_none_iff];intro q hq;obtain⟨t,_,rfl⟩:=dt.mp hq;rfl
 ·have e:(assignEach ts env).map (·.2)=ts.map fun t=>assign t env:=by rw[he];simp
  rw[e];have k1:Kp s {s with heap:=h'}:=.heap fun b o q=>hx b o (fun z=>by rw[z,bE]at q;cases q) q
  refine aD (h A env out hid m B {s with heap:=h'} ρ aQ l vs E hh (S.after k1) hf (hd.kp k1)) (fun ø s₂ q=>q.pre (Ks.iI k1) fun ø b o ø q=>k1.keep b o q) fun ø ø q=>q
end
section
variable{P:Pk}{n:Nat}{K K':Cx}{lo:Bool}
end
section
variable{P:Pk}{n:Nat}{K K':Cx}{lo:Bool}
end
theorem intLit(n:Nat):Int.ofNat (no_index (@OfNat.ofNat Nat n (instOfNatNat n)))= @OfNat.ofNat Int n instOfNat:=rfl
noncomputable def WU:Stmt:=(PySem.Challenge.pw_sl0032_02.main.body[3]?).getD (.Pass default)
noncomputable def NJ(S:Stmt):Program:={PySem.Challenge.pw_sl0032_02 with main:={PySem.Challenge.pw_sl0032_02.main with body:=PySem.Challenge.pw_sl0032_02.main.body.set 3 S} }
noncomputable def pqT:{q:Program//True}:=by
 refine⟨?q,(?f:(fun S:Stmt=>NJ S) WU=?q->True) ?p⟩
 case p=>conv=>lhs;arg 0;unfold NJ PySem.Challenge.pw_sl0032_02;reduce;dsimp only[intLit]
 case f=>exact fun ø=>trivial
noncomputable abbrev pq:Program:=pqT.1
theorem SH:PySem.Challenge.pw_sl0032_02=pq:=by kernel_rfl!
noncomputable def aO(b:List Stmt)(i:Nat):Stmt:=match b[i]? with
 |some s=>s
 |none=>.Pass default
noncomputable def yi{α:Type}(d:α)(fD:Arguments->List Stmt->Scope->α)(fC:List Stmt->α)(fA:List Expr->Expr->Pos->α)(fF:Expr->Expr->List Stmt->α)(fI:Expr->List Stmt->List Stmt->α)(s:Stmt):α:=
 @Stmt.casesOn (fun ø=>α) s (fun ø a b ø ø ø s ø ø ø=>fD a b s) (fun ø ø ø ø ø ø ø ø ø ø=>d) (fun ø ø ø b ø ø ø ø ø ø ø=>fC b) (fun ø ø=>d) (fun ø ø=>d) (fun t v p=>fA t v p) (fun ø ø ø ø ø ø ø=>d) (fun ø ø ø ø=>d) (fun ø ø ø ø ø=>d) (fun t i b ø ø=>fF t i b) (fun ø ø ø ø ø=>d) (fun ø ø ø ø=>d) (fun t b e ø=>fI t b e) (fun ø ø ø=>d) (fun ø ø ø=>d) (fun ø ø ø=>d) (fun ø ø ø=>d) (fun ø ø ø ø ø=>d) (fun ø ø ø ø ø=>d) (fun ø ø ø=>d) (fun ø ø=>d) (fun ø ø ø ø=>d) (fun ø ø=>d) (fun ø ø=>d) (fun ø ø=>d) (fun ø=>d) (fun ø=>d) (fun ø=>d)
noncomputable def H2{α:Type}(d:α)(fK:List (Option Expr)->List Expr->Pos->α)(fN:Int->Nat->Pos->α)(fS:Str->Nat->Pos->α)(e:Expr):α:=
 @Expr.casesOn (fun ø=>α) e (fun ø ø ø=>d) (fun ø ø ø=>d) (fun ø ø ø ø=>d) (fun ø ø ø=>d) (fun ø ø ø ø=>d) (fun ø ø ø ø=>d) (fun k v p=>fK k v p) (fun ø ø ø=>d) (fun ø ø ø ø=>d) (fun ø ø ø ø=>d) (fun ø ø ø ø ø=>d) (fun ø ø ø ø=>d) (fun ø ø=>d) (fun ø ø=>d) (fun ø ø=>d) (fun ø ø ø ø=>d) (fun ø ø ø ø=>d) (fun ø ø ø ø=>d) (fun ø ø=>d) (fun c n p=> @Const.casesOn (fun ø=>α) c d (fun ø=>d) (fun i=>fN i n p) (fun ø=>d) (fun ø ø=>d) (fun x=>fS x n p) (fun ø=>d) d) (fun ø ø ø=>d) (fun ø ø ø=>d) (fun ø ø=>d) (fun ø ø=>d) (fun ø ø=>d) (fun ø ø ø=>d) (fun ø ø ø ø=>d)
noncomputable def dW:Stmt->List Stmt:=yi [] (fun ø b ø=>b) (fun ø=>[]) (fun ø ø ø=>[]) (fun ø ø ø=>[]) (fun ø ø ø=>[])
noncomputable def SI:Stmt->Arguments:=yi default (fun a ø ø=>a) (fun ø=>default) (fun ø ø ø=>default) (fun ø ø ø=>default) (fun ø ø ø=>default)
noncomputable def ki:Stmt->Scope:=yi default (fun ø ø s=>s) (fun ø=>default) (fun ø ø ø=>default) (fun ø ø ø=>default) (fun ø ø ø=>default)
noncomputable def dX:Stmt->List Stmt:=yi [] (fun ø ø ø=>[]) (fun b=>b) (fun ø ø ø=>[]) (fun ø ø ø=>[]) (fun ø ø ø=>[])
noncomputable def seg(i n:Nat):List Stmt:=(pq.main.body.drop i).take n
noncomputable def E:Env:={scope:=pq.main.scope,locals:=mainNs,globals:=mainNs,cells:=[],code:=.ref 13,frame:=some 14}
noncomputable abbrev cE:Code:=.body (behindTheImports pq) E
noncomputable abbrev SS(T:Params->BT)(n k:Nat)(w:World)(os:OsState):SharedT:=⟨T w.params,n,{},#[],{},k,os⟩
noncomputable abbrev fp:Pos:=⟨0,0,0,0⟩
noncomputable def dE(P:Params)(x:Str)(n:Nat)(v:Value):DictEntry:=⟨PySem.PyData.keyHash P x,.str x n,v⟩
noncomputable def mO(c:Value)(d:Data):Obj:={cls:=c,dict:=none,data:=d,slots:= #[]}
noncomputable def fD(a b:Str)(s:Stmt)(g:Addr)(m c:Value):Data:=.func {name:=a,qualname:=b,params:=SI s,body:=.stmts (dW s),scope:=ki s,globals:=g,closure:=[],defaults:=.none,kwdefaults:=.none,doc:=.none,pyModule:=m,annotations:=none,code:=c,closureTuple:=.none,builtins:=0}
noncomputable def lf(o:Obj):BT:=.node o .nil .nil
noncomputable def iv(n:Int):Value:=.int n 0
noncomputable def cO(a:Str)(t:Nat)(b:Str)(t2:Nat)(c:Str)(t3:Nat)(l m n o f:Int)(r:Addr)(k:Bool)(q:Int)(r2:Addr)(v w x:Value)(i j:Int)(d:Str)(t4:Nat):Obj:=mO (.type "code") (.fields #[.str a t,.str b t2,.str c t3,iv l,iv m,iv n,iv o,iv f,.ref r,.bool k,iv q,.ref r2,.none,v,w,x,iv i,iv j,.str d t4])
noncomputable def d0(P:Params):DictEntry:=dE P s0 165 (.str s1 187)
noncomputable def d1(P:Params):DictEntry:=dE P s2 166 .none
noncomputable def d2(P:Params):DictEntry:=dE P ⟨#[95,95,112,97,99,107,97,103,101,95,95]⟩ 167 .none
noncomputable def d3(P:Params):DictEntry:=dE P ⟨#[95,95,108,111,97,100,101,114,95,95]⟩ 168 (.builtin "__main__.__loader__#opaque")
noncomputable def d4(P:Params):DictEntry:=dE P ⟨#[95,95,115,112,101,99,95,95]⟩ 169 .none
noncomputable def d5(P:Params):DictEntry:=dE P ⟨#[95,95,97,110,110,111,116,97,116,105,111,110,115,95,95]⟩ 170 (.ref 6)
noncomputable def d6(P:Params):DictEntry:=dE P ⟨#[95,95,98,117,105,108,116,105,110,115,95,95]⟩ 171 (.ref 4)
noncomputable def d7(P:Params):DictEntry:=dE P ⟨#[95,95,102,105,108,101,95,95]⟩ 173 (.str s3 172)
noncomputable def d8(P:Params):DictEntry:=dE P ⟨#[95,95,99,97,99,104,101,100,95,95]⟩ 174 .none
noncomputable def d9(P:Params):DictEntry:=dE P s4 248 (.ref 22)
noncomputable def Pa(P:Params):DictEntry:=dE P s5 255 (.ref 32)
noncomputable def Rv(P:Params):DictEntry:=dE P s6 2206 (.ref 33)
noncomputable def Vl(P:Params):DictEntry:=dE P s0 165 (.str s7 2249)
noncomputable def SJ(P:Params):DictEntry:=dE P s8 2214 (.ref 78)
noncomputable def SK(P:Params):DictEntry:=dE P s9 2226 (.ref 85)
noncomputable def SM(P:Params):DictEntry:=dE P Eh 2238 (.ref 92)
noncomputable def SN(P:Params):DictEntry:=dE P G6 2248 (.ref 99)
noncomputable def SO(P:Params):DictEntry:=dE P CH 2356 (.ref 161)
noncomputable def Zk(P:Params):DictEntry:=dE P ⟨#[95,95,109,111,100,117,108,101,95,95]⟩ 2258 (.str s7 2249)
noncomputable def Zl(P:Params):DictEntry:=dE P ⟨#[95,95,102,105,114,115,116,108,105,110,101,110,111,95,95]⟩ 2262 (.int (55) 2261)
noncomputable def Zm(P:Params):DictEntry:=dE P RT 2266 (.str ⟨#[32]⟩ 2264)
noncomputable def Zn(P:Params):DictEntry:=dE P RU 2267 (.str ⟨#[9]⟩ 2265)
noncomputable def Zo(P:Params):DictEntry:=dE P U2 2282 (.ref 116)
noncomputable def Zp(P:Params):DictEntry:=dE P G7 2291 (.ref 123)
noncomputable def Zq(P:Params):DictEntry:=dE P Ei 2303 (.ref 130)
noncomputable def Zr(P:Params):DictEntry:=dE P Nl 2311 (.ref 137)
noncomputable def Zs(P:Params):DictEntry:=dE P Nm 2322 (.ref 144)
noncomputable def Zt(P:Params):DictEntry:=dE P Nn 2332 (.ref 151)
noncomputable def Zu(P:Params):DictEntry:=dE P No 2343 (.ref 158)
noncomputable def Zv(P:Params):DictEntry:=dE P ⟨#[95,95,115,116,97,116,105,99,95,97,116,116,114,105,98,117,116,101,115,95,95]⟩ 2349 (.ref 159)
noncomputable def Vm(P:Params):DictEntry:=dE P ⟨#[76,80,65,82]⟩ 2358 (.int (7) 2357)
noncomputable def Vn(P:Params):DictEntry:=dE P ⟨#[82,80,65,82]⟩ 2360 (.int (8) 2359)
noncomputable def Vo(P:Params):DictEntry:=dE P ⟨#[76,83,81,66]⟩ 2362 (.int (9) 2361)
noncomputable def Vp(P:Params):DictEntry:=dE P ⟨#[82,83,81,66]⟩ 2364 (.int (10) 2363)
noncomputable def Vq(P:Params):DictEntry:=dE P ⟨#[67,79,76,79,78]⟩ 2366 (.int (11) 2365)
noncomputable def Vr(P:Params):DictEntry:=dE P ⟨#[67,79,77,77,65]⟩ 2368 (.int (12) 2367)
noncomputable def Vs(P:Params):DictEntry:=dE P ⟨#[83,69,77,73]⟩ 2370 (.int (13) 2369)
noncomputable def Vt(P:Params):DictEntry:=dE P ⟨#[80,76,85,83]⟩ 2372 (.int (14) 2371)
noncomputable def Vu(P:Params):DictEntry:=dE P ⟨#[77,73,78,85,83]⟩ 2374 (.int (15) 2373)
noncomputable def Vv(P:Params):DictEntry:=dE P ⟨#[83,84,65,82]⟩ 2376 (.int (16) 2375)
noncomputable def Vw(P:Params):DictEntry:=dE P ⟨#[83,76,65,83,72]⟩ 2378 (.int (17) 2377)
noncomputable def Vx(P:Params):DictEntry:=dE P ⟨#[86,66,65,82]⟩ 2380 (.int (18) 2379)
noncomputable def Vy(P:Params):DictEntry:=dE P ⟨#[65,77,80,69,82]⟩ 2382 (.int (19) 2381)
noncomputable def Vz(P:Params):DictEntry:=dE P ⟨#[76,69,83,83]⟩ 2384 (.int (20) 2383)
noncomputable def VA(P:Params):DictEntry:=dE P ⟨#[71,82,69,65,84,69,82]⟩ 2386 (.int (21) 2385)
noncomputable def VB(P:Params):DictEntry:=dE P ⟨#[69,81,85,65,76]⟩ 2388 (.int (22) 2387)
noncomputable def VC(P:Params):DictEntry:=dE P ⟨#[68,79,84]⟩ 2390 (.int (23) 2389)
noncomputable def VD(P:Params):DictEntry:=dE P ⟨#[80,69,82,67,69,78,84]⟩ 2392 (.int (24) 2391)
noncomputable def VE(P:Params):DictEntry:=dE P ⟨#[76,66,82,65,67,69]⟩ 2394 (.int (25) 2393)
noncomputable def VF(P:Params):DictEntry:=dE P ⟨#[82,66,82,65,67,69]⟩ 2396 (.int (26) 2395)
noncomputable def VG(P:Params):DictEntry:=dE P ⟨#[69,81,69,81,85,65,76]⟩ 2398 (.int (27) 2397)
noncomputable def VH(P:Params):DictEntry:=dE P ⟨#[78,79,84,69,81,85,65,76]⟩ 2400 (.int (28) 2399)
noncomputable def VI(P:Params):DictEntry:=dE P ⟨#[76,69,83,83,69,81,85,65,76]⟩ 2402 (.int (29) 2401)
noncomputable def VJ(P:Params):DictEntry:=dE P ⟨#[71,82,69,65,84,69,82,69,81,85,65,76]⟩ 2404 (.int (30) 2403)
noncomputable def WV(P:Params):DictEntry:=dE P ⟨#[84,73,76,68,69]⟩ 2406 (.int (31) 2405)
noncomputable def WW(P:Params):DictEntry:=dE P ⟨#[67,73,82,67,85,77,70,76,69,88]⟩ 2408 (.int (32) 2407)
noncomputable def WY(P:Params):DictEntry:=dE P ⟨#[76,69,70,84,83,72,73,70,84]⟩ 2410 (.int (33) 2409)
noncomputable def WZ(P:Params):DictEntry:=dE P ⟨#[82,73,71,72,84,83,72,73,70,84]⟩ 2412 (.int (34) 2411)
noncomputable def W0(P:Params):DictEntry:=dE P ⟨#[68,79,85,66,76,69,83,84,65,82]⟩ 2414 (.int (35) 2413)
noncomputable def W1(P:Params):DictEntry:=dE P ⟨#[80,76,85,83,69,81,85,65,76]⟩ 2416 (.int (36) 2415)
noncomputable def W2(P:Params):DictEntry:=dE P ⟨#[77,73,78,69,81,85,65,76]⟩ 2418 (.int (37) 2417)
noncomputable def W3(P:Params):DictEntry:=dE P ⟨#[83,84,65,82,69,81,85,65,76]⟩ 2420 (.int (38) 2419)
noncomputable def W4(P:Params):DictEntry:=dE P ⟨#[83,76,65,83,72,69,81,85,65,76]⟩ 2422 (.int (39) 2421)
noncomputable def W5(P:Params):DictEntry:=dE P ⟨#[80,69,82,67,69,78,84,69,81,85,65,76]⟩ 2424 (.int (40) 2423)
noncomputable def W6(P:Params):DictEntry:=dE P ⟨#[65,77,80,69,82,69,81,85,65,76]⟩ 2426 (.int (41) 2425)
noncomputable def W7(P:Params):DictEntry:=dE P ⟨#[86,66,65,82,69,81,85,65,76]⟩ 2428 (.int (42) 2427)
noncomputable def W8(P:Params):DictEntry:=dE P ⟨#[67,73,82,67,85,77,70,76,69,88,69,81,85,65,76]⟩ 2430 (.int (43) 2429)
noncomputable def W9(P:Params):DictEntry:=dE P ⟨#[76,69,70,84,83,72,73,70,84,69,81,85,65,76]⟩ 2432 (.int (44) 2431)
noncomputable def Xa(P:Params):DictEntry:=dE P ⟨#[82,73,71,72,84,83,72,73,70,84,69,81,85,65,76]⟩ 2434 (.int (45) 2433)
noncomputable def Xb(P:Params):DictEntry:=dE P ⟨#[68,79,85,66,76,69,83,84,65,82,69,81,85,65,76]⟩ 2436 (.int (46) 2435)
noncomputable def Xc(P:Params):DictEntry:=dE P ⟨#[68,79,85,66,76,69,83,76,65,83,72]⟩ 2438 (.int (47) 2437)
noncomputable def Xd(P:Params):DictEntry:=dE P ⟨#[68,79,85,66,76,69,83,76,65,83,72,69,81,85,65,76]⟩ 2440 (.int (48) 2439)
noncomputable def Xe(P:Params):DictEntry:=dE P ⟨#[65,84]⟩ 2442 (.int (49) 2441)
noncomputable def Xf(P:Params):DictEntry:=dE P ⟨#[65,84,69,81,85,65,76]⟩ 2444 (.int (50) 2443)
noncomputable def Xg(P:Params):DictEntry:=dE P ⟨#[82,65,82,82,79,87]⟩ 2446 (.int (51) 2445)
noncomputable def Xh(P:Params):DictEntry:=dE P ⟨#[69,76,76,73,80,83,73,83]⟩ 2448 (.int (52) 2447)
noncomputable def Xi(P:Params):DictEntry:=dE P ⟨#[67,79,76,79,78,69,81,85,65,76]⟩ 2450 (.int (53) 2449)
noncomputable def Xj(P:Params):DictEntry:=dE P ⟨#[69,88,67,76,65,77,65,84,73,79,78]⟩ 2452 (.int (54) 2451)
noncomputable def Zw(P:Params):DictEntry:=dE P U3 2549 (.ref 166)
noncomputable def Zx(P:Params):DictEntry:=dE P ⟨#[45,62]⟩ 2487 (.int (51) 2445)
noncomputable def Zy(P:Params):DictEntry:=dE P ⟨#[46]⟩ 2489 (.int (23) 2389)
noncomputable def Zz(P:Params):DictEntry:=dE P ⟨#[46,46,46]⟩ 2491 (.int (52) 2447)
noncomputable def ZA(P:Params):DictEntry:=dE P ⟨#[47]⟩ 2493 (.int (17) 2377)
noncomputable def ZB(P:Params):DictEntry:=dE P ⟨#[47,47]⟩ 2495 (.int (47) 2437)
noncomputable def ZC(P:Params):DictEntry:=dE P ⟨#[47,47,61]⟩ 2497 (.int (48) 2439)
noncomputable def ZD(P:Params):DictEntry:=dE P ⟨#[47,61]⟩ 2499 (.int (39) 2421)
noncomputable def ZE(P:Params):DictEntry:=dE P ⟨#[58]⟩ 2501 (.int (11) 2365)
noncomputable def ZF(P:Params):DictEntry:=dE P ⟨#[58,61]⟩ 2503 (.int (53) 2449)
noncomputable def ZG(P:Params):DictEntry:=dE P ⟨#[59]⟩ 2505 (.int (13) 2369)
noncomputable def ZH(P:Params):DictEntry:=dE P ⟨#[60]⟩ 2507 (.int (20) 2383)
noncomputable def ZI(P:Params):DictEntry:=dE P ⟨#[60,60]⟩ 2509 (.int (33) 2409)
noncomputable def ZJ(P:Params):DictEntry:=dE P ⟨#[60,60,61]⟩ 2511 (.int (44) 2431)
noncomputable def ZK(P:Params):DictEntry:=dE P ⟨#[60,61]⟩ 2513 (.int (29) 2401)
noncomputable def ZL(P:Params):DictEntry:=dE P ⟨#[61]⟩ 2515 (.int (22) 2387)
noncomputable def ZM(P:Params):DictEntry:=dE P ⟨#[61,61]⟩ 2517 (.int (27) 2397)
noncomputable def ZN(P:Params):DictEntry:=dE P ⟨#[62]⟩ 2519 (.int (21) 2385)
noncomputable def ZO(P:Params):DictEntry:=dE P ⟨#[62,61]⟩ 2521 (.int (30) 2403)
noncomputable def ZP(P:Params):DictEntry:=dE P ⟨#[62,62]⟩ 2522 (.int (34) 2411)
noncomputable def ZQ(P:Params):DictEntry:=dE P ⟨#[62,62,61]⟩ 2523 (.int (45) 2433)
noncomputable def ZR(P:Params):DictEntry:=dE P ⟨#[64]⟩ 2524 (.int (49) 2441)
noncomputable def SQ(P:Params):DictEntry:=dE P ⟨#[64,61]⟩ 2525 (.int (50) 2443)
noncomputable def SR(P:Params):DictEntry:=dE P ⟨#[91]⟩ 2526 (.int (9) 2361)
noncomputable def ST(P:Params):DictEntry:=dE P ⟨#[93]⟩ 2527 (.int (10) 2363)
noncomputable def SU(P:Params):DictEntry:=dE P ⟨#[94]⟩ 2528 (.int (32) 2407)
noncomputable def SV(P:Params):DictEntry:=dE P ⟨#[94,61]⟩ 2529 (.int (43) 2429)
noncomputable def SW(P:Params):DictEntry:=dE P ⟨#[123]⟩ 2530 (.int (25) 2393)
noncomputable def SX(P:Params):DictEntry:=dE P ⟨#[124]⟩ 2531 (.int (18) 2379)
noncomputable def SY(P:Params):DictEntry:=dE P ⟨#[124,61]⟩ 2532 (.int (42) 2427)
noncomputable def SZ(P:Params):DictEntry:=dE P ⟨#[125]⟩ 2533 (.int (26) 2395)
noncomputable def S2(P:Params):DictEntry:=dE P ⟨#[126]⟩ 2534 (.int (31) 2405)
noncomputable def aq:Obj:=mO (.type "tuple") (.seq #[] 0)
noncomputable def bb:Obj:=mO .none (.fields #[])
noncomputable def nM:Obj:=cO YW 182 YW 183 s3 184 1 0 0 0 0 11 false 181 12 .none .none .none 185 1 s3 186
noncomputable def lZ:Obj:={cls:=(.type "frame"),dict:=none,data:=.plain,slots:= #[(some (.ref 13)),(some (.ref 3)),(some (.ref 3)),none,(some (.str ⟨#[95,95,109,97,105,110,95,95]⟩ 164)),none,(some (.ref 0))]}
noncomputable def b0(P:Params):BT:=(.node (boot_o_5 P) (lf (boot_o_9 P)) (lf nM))
noncomputable def b1(P:Params):BT:=(.node (boot_o_2 P) (.node (boot_o_4 P) (lf (boot_o_8 P)) (lf bb)) (.node (boot_o_6 P) (lf (boot_o_10 P)) (lf lZ)))
noncomputable def ZS(P:Params):Heap:=⟨#[(boot_o_0 P),(boot_o_1 P),(boot_o_2 P),(boot_o_3 P),(boot_o_4 P),(boot_o_5 P),(boot_o_6 P),(boot_o_7 P),(boot_o_8 P),(boot_o_9 P),(boot_o_10 P),aq,bb,nM,lZ],{ }⟩
noncomputable def ZT(P:Params):BT:=(.node (boot_o_0 P) (.node (boot_o_1 P) (.node (boot_o_3 P) (lf (boot_o_7 P)) (lf aq)) (b0 P)) (b1 P))
noncomputable def S3(P:Params):Obj:=mO (.type "dict") (.dict #[(d0 P),(d1 P),(d2 P),(d3 P),(d4 P),(d5 P),(d6 P),(d7 P),(d8 P)] 9)
noncomputable def Xk(P:Params):BT:=(.node (boot_o_0 P) (.node (boot_o_1 P) (.node (S3 P) (lf (boot_o_7 P)) (lf aq)) (b0 P)) (b1 P))
noncomputable def S4(P:Params):Obj:=mO (.type "dict") (.dict #[(d0 P),(d1 P),(d2 P),(d3 P),(d4 P),(d5 P),(d6 P),(d7 P),(d8 P),(d9 P)] 10)
noncomputable def rC:Obj:=mO (.type "list") (.seq #[(.int (173) 189),(.int (847) 190),(.int (6150) 191),(.int (6155) 192),(.int (6156) 193),(.int (6157) 194),(.int (8203) 195),(.int (8204) 196),(.int (8205) 197),(.int (8288) 198),(.int (65279) 199)] 0)
noncomputable def rD:Obj:=mO (.type "range") (.fields #[(.int (65024) 200),(.int (65040) 201),(.int (1) 202)])
noncomputable def un:Obj:=mO (.type "list") (.seq #[(.int (65024) 205),(.int (65025) 206),(.int (65026) 207),(.int (65027) 208),(.int (65028) 209),(.int (65029) 210),(.int (65030) 211),(.int (65031) 212),(.int (65032) 213),(.int (65033) 214),(.int (65034) 215),(.int (65035) 216),(.int (65036) 217),(.int (65037) 218),(.int (65038) 219),(.int (65039) 220)] 18)
noncomputable def rE:Obj:=mO (.type "range_iterator") (.fields #[(iv 65040),(iv 0),(iv 1)])
noncomputable def rF:Obj:=mO (.type "StopIteration") (.fields #[(.ref 19),.none,.none,.none,(.bool false),.none])
noncomputable def rG:Obj:=mO (.type "list") (.seq #[(.int (173) 189),(.int (847) 190),(.int (6150) 191),(.int (6155) 192),(.int (6156) 193),(.int (6157) 194),(.int (8203) 195),(.int (8204) 196),(.int (8205) 197),(.int (8288) 198),(.int (65279) 199),(.int (65024) 205),(.int (65025) 206),(.int (65026) 207),(.int (65027) 208),(.int (65028) 209),(.int (65029) 210),(.int (65030) 211),(.int (65031) 212),(.int (65032) 213),(.int (65033) 214),(.int (65034) 215),(.int (65035) 216),(.int (65036) 217),(.int (65037) 218),(.int (65038) 219),(.int (65039) 220)] 0)
noncomputable def iB(P:Params):Obj:=mO (.type "set") (.set #[((65024),(.int (65024) 205)),((65025),(.int (65025) 206)),((65026),(.int (65026) 207)),((65027),(.int (65027) 208)),((65028),(.int (65028) 209)),((65029),(.int (65029) 210)),((6150),(.int (6150) 191)),((65030),(.int (65030) 211)),((65031),(.int (65031) 212)),((65032),(.int (65032) 213)),((65033),(.int (65033) 214)),((6155),(.int (6155) 192)),((6156),(.int (6156) 193)),((6157),(.int (6157) 194)),((8203),(.int (8203) 195)),((8204),(.int (8204) 196)),((8205),(.int (8205) 197)),((65034),(.int (65034) 215)),((65035),(.int (65035) 216)),((65036),(.int (65036) 217)),((65037),(.int (65037) 218)),((65038),(.int (65038) 219)),((65039),(.int (65039) 220)),((173),(.int (173) 189)),((847),(.int (847) 190)),((8288),(.int (8288) 198)),((65279),(.int (65279) 199))] 29 {mask:=127,place:= #[0,1,2,3,4,5,6,7,8,9,10,11,12,13,14,15,16,17,18,19,20,21,22,45,79,96,127],dummies:= #[],finger:=0,led:=!(P.followText "set-order"),moves:=2,plain:=true})
noncomputable def px:Obj:=mO (.type "list_iterator") (.fields #[.none,(iv 27)])
noncomputable def uo:Obj:=mO (.type "StopIteration") (.fields #[(.ref 24),.none,.none,.none,(.bool false),.none])
noncomputable def b2:BT:=(.node aq (lf aq) .nil)
noncomputable def b3(P:Params):BT:=(.node (boot_o_9 P) (lf un) (lf uo))
noncomputable def Xl(P:Params):BT:=(.node (boot_o_0 P) (.node (boot_o_1 P) (.node (S4 P) (.node (boot_o_7 P) (lf rC) (lf px)) b2) (.node (boot_o_5 P) (b3 P) (.node nM (lf rG) .nil))) (.node (boot_o_2 P) (.node (boot_o_4 P) (.node (boot_o_8 P) (lf rD) (lf aq)) (.node bb (lf rF) .nil)) (.node (boot_o_6 P) (.node (boot_o_10 P) (lf rE) .nil) (.node lZ (lf (iB P)) .nil))))
noncomputable def NK(P:Params):Obj:=mO (.type "dict") (.dict #[(d0 P),(d1 P),(d2 P),(d3 P),(d4 P),(d5 P),(d6 P),(d7 P),(d8 P),(d9 P),(Pa P)] 11)
noncomputable def H3:Obj:=mO .none (.fields #[(iv 3),(iv 0),(.ref 31)])
noncomputable def uq:Obj:=mO (.type "tuple") (.seq #[(.str U4 252)] 0)
noncomputable def ur:Obj:=mO .none (fD s5 s5 (aO pq.main.body 2) 0 .none .none)
noncomputable def rH:Obj:=cO s5 249 s5 250 s3 251 3 1 0 0 3 26 true 181 27 (.ref 28) (.ref 29) (.ref 30) 253 3 s3 254
noncomputable def l0:Obj:=mO (.type "function") (fD s5 s5 (aO pq.main.body 2) 3 (.str s1 187) (.ref 31))
noncomputable def NL(P:Params):BT:=(.node (boot_o_0 P) (.node (boot_o_1 P) (.node (NK P) (.node (boot_o_7 P) (.node rC (lf rH) .nil) (lf px)) (.node aq (lf aq) (lf bb))) (.node (boot_o_5 P) (b3 P) (.node nM (lf rG) (lf aq)))) (.node (boot_o_2 P) (.node (boot_o_4 P) (.node (boot_o_8 P) (.node rD (lf l0) .nil) (lf aq)) (.node H3 (lf rF) (lf uq))) (.node (boot_o_6 P) (.node (boot_o_10 P) (lf rE) (lf aq)) (.node lZ (lf (iB P)) (lf ur)))))
theorem S5(w:World):(fun os=>topGo treeTable pq w 11 (some (.ref 6)) 12 ⟨boot_heap w.params,#[],boot_drawn,boot_toks,os⟩ (topStub pq))=fun os=>some (⟨ZS w.params,#[],{},187,os⟩,⟨denote treeTable cE,cE,⟨0,0,0,0⟩,[topFrame fp]⟩):=by
 rw[PySem.W.Fast.te15667345088766844465,jP,Ct]
 kernel_rfl!
theorem LQ(w:World):(fun os=>segRun treeTable pq w 11 (some (.ref 6)) 1 1 ⟨ZS w.params,#[],{},187,os⟩ (blockOf (behindTheImports pq) E cE ⟨0,0,0,0⟩ [topFrame fp]))=fun os=>some (.next,(SS ZT 15 187 w os).abs,cE,⟨0,0,0,0⟩):=by
 rw[PySem.W.Fast.te14374325043358763698,jP]
 kernel_rfl!
theorem h_0(w:World):(fun os=>segRunT treeTable pq w 11 (some (.ref 6)) 1 10 (SS ZT 15 187 w os) (piecesOf (seg 0 1) E cE ⟨0,0,0,0⟩ [topFrame fp]))=fun os=>some (.next,SS Xk 15 189 w os,cE,⟨1,0,1,8⟩):=by
 rw[lG,jP]
 kernel_rfl!
theorem h_1(w:World):(fun os=>segRunT treeTable pq w 11 (some (.ref 6)) 1 999 (SS Xk 15 189 w os) (piecesOf (seg 1 1) E cE ⟨1,0,1,8⟩ [topFrame fp]))=fun os=>some (.next,SS Xl 26 249 w os,cE,⟨2,0,2,6⟩):=by
 refine byRow2 "set-order" (P:=fun w=>(fun os=>segRunT treeTable pq w 11 (some (.ref 6)) 1 999 (SS Xk 15 189 w os) (piecesOf (seg 1 1) E cE ⟨1,0,1,8⟩ [topFrame fp]))=fun os=>some (.next,SS Xl 26 249 w os,cE,⟨2,0,2,6⟩)) (byRow2 "special-get-raises" ?_ ?_) (byRow2 "special-get-raises" ?_ ?_) w<;>clear w<;>intro w
 all_goals rw[lG,jP]
 all_goals kernel_rfl!
noncomputable def so:Stmt->List (Option Expr):=yi [] (fun ø ø ø=>[]) (fun ø=>[]) (fun ø v ø=>H2 [] (fun k ø ø=>k) (fun ø ø ø=>[]) (fun ø ø ø=>[]) v) (fun ø ø ø=>[]) (fun ø ø ø=>[])
noncomputable def sq:Stmt->List Expr:=yi [] (fun ø ø ø=>[]) (fun ø=>[]) (fun ø v ø=>H2 [] (fun ø v ø=>v) (fun ø ø ø=>[]) (fun ø ø ø=>[]) v) (fun ø ø ø=>[]) (fun ø ø ø=>[])
noncomputable def LR:Stmt->List Expr:=yi [] (fun ø ø ø=>[]) (fun ø=>[]) (fun t ø ø=>t) (fun ø ø ø=>[]) (fun ø ø ø=>[])
noncomputable def C9:Stmt->Pos:=yi default (fun ø ø ø=>default) (fun ø=>default) (fun ø ø p=>p) (fun ø ø ø=>default) (fun ø ø ø=>default)
noncomputable def mT:Stmt->Pos:=yi default (fun ø ø ø=>default) (fun ø=>default) (fun ø v ø=>H2 default (fun ø ø p=>p) (fun ø ø ø=>default) (fun ø ø ø=>default) v) (fun ø ø ø=>default) (fun ø ø ø=>default)
noncomputable def aR(l:List DictEntry)(n:Nat):Obj:={cls:=.type "dict",data:=.dict l.toArray n}
noncomputable def FS(a b:Int):Bool:= @Int.rec (fun ø=>Bool) (fun m=> @Int.rec (fun ø=>Bool) (fun n=>Nat.beq m n) (fun ø=>false) b) (fun ø=>a==b) a
theorem Pb{a b:Int}(h:FS a b=false):a≠b:=by
 intro e;subst e
 cases a with
 |ofNat m=>simp[FS,Nat.beq_refl]at h
 |negSucc m=>simp[FS]at h
noncomputable def l6(h:Int)(l:List DictEntry):Bool:= @List.rec DictEntry (fun ø=>Bool) true (fun e ø ih=> @Bool.rec (fun ø=>Bool) ih false (FS e.hash h)) l
theorem w6{h:Int}:∀{l:List DictEntry},l6 h l=true->∀e∈l,e.hash≠h
 |[],_,e,he=>by cases he
 |a::l,q,e,he=>by
  have q': @Bool.rec (fun ø=>Bool) (l6 h l) false (FS a.hash h)=true:=q
  cases hb:FS a.hash h with
  |true=>rw[hb]at q';cases q'
  |false=>
   rw[hb]at q';rcases bI.mp he with rfl|he
   ·exact Pb hb
   ·exact w6 (l:=l) q' e he
noncomputable def Rw{α:Type}(x:Sem α)(o:Obj):Sem α:= @Sem.casesOn α (fun ø=>Sem α) x (fun ø=>x) (fun ø=>x) (fun ø=>x) (fun ø=>x) (fun ø ø=>x) (fun ø ø=>x) (fun ø ø k=>k o) (fun ø ø ø ø=>x) (fun ø ø=>x) (fun ø ø=>x) (fun ø ø=>x) (fun ø ø=>x) (fun ø=>x) (fun ø=>x) (fun ø ø ø=>x) (fun ø ø ø=>x) (fun ø ø ø ø ø=>x) (fun ø ø=>x) (fun ø ø=>x) (fun ø ø=>x) (fun ø ø ø ø=>x) (fun ø ø ø ø=>x) (fun ø=>x) (fun ø ø=>x) (fun ø=>x) (fun ø ø ø ø ø=>x)
noncomputable def FU(d:Addr)(key:Value)(h:Int):Sem (Option Nat):=match key with
 | .int k t=>.load d (keyPart (.int k t)) fun o=>match o.data with
   | .dict es n=> @Bool.rec (fun ø=>Sem (Option Nat)) (Rw (dictFind d (.int k t) h) o) (.pure none) (l6 h es.toList)
   |_=>Rw (dictFind d (.int k t) h) o
 |key=>dictFind d key h
theorem Da{es:Array DictEntry}{h:Int}(q:l6 h es.toList=true):placesWithHash es.size (fun i=>es[i]?.map (·.hash)) h=[]:=by
 unfold placesWithHash;rw[xL];intro i hi;have hi:=ea.mp hi;have:=w6 q es[i] (by simp);simp[hi,this]
set_option tactic.hygienic true in
theorem AF: @dictFind=FU:=by
 funext d key h
 cases key<;>try rfl
 rename_i k t;show dictFind d (.int k t) h= .load d (keyPart (.int k t)) _;have e1:dictFind d (.int k t) h= .load d (keyPart (.int k t)) (fun o=>Rw (dictFind d (.int k t) h) o):=rfl;rw[e1]
 congr 1
 funext o
 obtain⟨c,dd,data,sl⟩:=o
 cases data with
 |dict es n=>
  show Rw (dictFind d (.int k t) h) _= @Bool.rec (fun ø=>Sem (Option Nat)) (Rw (dictFind d (.int k t) h) _) (.pure none) (l6 h es.toList)
  cases q:l6 h es.toList with
  |false=>rfl
  |true=>
   show Rw (dictFind d (.int k t) h) _= .pure none;have hp:=Da q;show(if(Value.int k t::List.filterMap (fun i=>Option.map (fun x=>x.key) es[i]?) (placesWithHash es.size (fun i=>Option.map (fun x=>x.hash) es[i]?) h)).all carriedByValue=true then dictWalkPlain d (Value.int k t) h es (placesWithHash es.size (fun i=>Option.map (fun x=>x.hash) es[i]?) h)else _)=_;rw[hp];rfl
 |_=>rfl
section
section
variable{tb:String->Option Builtin}{p:Program}{w:World}{n₀:Nat}{ann:Option Value}
noncomputable def l7(tb:String->Option Builtin)(p:Program)(w:World)(n₀:Nat)(ann:Option Value)(b:Nat)(s:Shared)(t:Thread)(s':Shared)(t':Thread):Prop:=
 ∀N r,topRun tb p w n₀ ann N s' t'=some r->topRun tb p w n₀ ann (b+N) s t=some r
theorem l7.refl(s t):l7 tb p w n₀ ann 0 s t s t:=fun N r h=>by rw[gg];exact h
theorem l7.trans{b b' s t s' t' gZ WJ}(h:l7 tb p w n₀ ann b s t s' t')(h':l7 tb p w n₀ ann b' s' t' gZ WJ):l7 tb p w n₀ ann (b+b') s t gZ WJ:=fun N r q=>by
 rw[Nat.add_assoc];exact h _ _ (h' _ _ q)
theorem l7.mono{b b' s t s' t'}(h:l7 tb p w n₀ ann b s t s' t')(hb:b<=b'):l7 tb p w n₀ ann b' s t s' t':=fun N r q=>by
 have:=topRun_mono (b'-b) _ _ _ _ (h N r q);rwa[show b+N+(b'-b)=b'+N by omega]at this
theorem l7.step{s t s' t'}(ht:through t=false)(hk:stepOk n₀ ann t=true)(hs:step (denote tb) p w s t= .go s' t'):l7 tb p w n₀ ann 1 s t s' t':=fun N r q=>by
 rw[qX];show topRun tb p w n₀ ann (N+1) s t=some r;unfold topRun;rw[ht,hk,hs];exact q
noncomputable def Ev(tb:String->Option Builtin)(p:Program)(w:World)(n₀:Nat)(ann:Option Value)(c:Code){α:Type}(b:Nat)(x:Sem α)(s:Shared)(pos:Pos)(a:α)(s':Shared)(pos':Pos):Prop:=
 ∀(K:α->Sem Fin) (H:Value->Sem Fin) (gd:Bool->Bool) (lv:List Value->List Value) (f:Frame) (B:List Frame),l7 tb p w n₀ ann b s ⟨x.wrap K H gd lv,c,pos,f::B⟩ s' ⟨K a,c,pos',f::B⟩
variable{c:Code}{α β:Type}{s s':Shared}{pos pos':Pos}{a:α}{b:Nat}
theorem Ev.mono{x:Sem α}{b'}(h:Ev tb p w n₀ ann c b x s pos a s' pos')(hb:b<=b'):Ev tb p w n₀ ann c b' x s pos a s' pos':=fun K H gd lv f B=>(h K H gd lv f B).mono hb
theorem Ev.pure:Ev tb p w n₀ ann c 0 (.pure a) s pos a s pos:=fun K H gd lv f B=>l7.refl _ _
theorem Ev.bind{m:Sem α}{f:α->Sem β}{y:β}{b' gZ ie}(h:Ev tb p w n₀ ann c b m s pos a s' pos')(h':Ev tb p w n₀ ann c b' (f a) s' pos' y gZ ie):Ev tb p w n₀ ann c (b+b') (m>>= f) s pos y gZ ie:=fun K H gd lv fr B=>by
 show l7 tb p w n₀ ann _ s ⟨(m.bind f).wrap K H gd lv,c,pos,fr::B⟩ _ _;rw[Sem.bind_eq_wrap,nu];exact(h _ _ _ _ fr B).trans (h' K H gd lv fr B)
theorem Ev.NM{m:Sem α}{f:α->Sem β}{y:β}{b' gZ ie}(h:Ev tb p w n₀ ann c 0 m s pos a s' pos')(h':Ev tb p w n₀ ann c b' (f a) s' pos' y gZ ie):Ev tb p w n₀ ann c b' (m>>= f) s pos y gZ ie:=by
 have:=h.bind h';rwa[gg]at this
theorem Ev.keep{x:Sem α}{vs}(h:Ev tb p w n₀ ann c b x s pos a s' pos'):Ev tb p w n₀ ann c b (x.keep vs) s pos a s' pos':=fun K H gd lv f B=>by
 rw[Sem.keep_eq_wrap,nu];exact h _ _ _ _ f B
theorem Ev.holding{x:Sem α}{vs}(h:Ev tb p w n₀ ann c b x s pos a s' pos'):Ev tb p w n₀ ann c b (holding vs x) s pos a s' pos':=by
 unfold PySem.holding;split
 ·exact h
 ·exact h.keep
theorem Ev.onRaise{x:Sem α}{g}(h:Ev tb p w n₀ ann c b x s pos a s' pos'):Ev tb p w n₀ ann c b (x.onRaise g) s pos a s' pos':=fun K H gd lv f B=>by
 rw[Sem.onRaise_eq_wrap,nu];exact h _ _ _ _ f B
theorem Ev.tryCatch{x:Sem α}{g}(h:Ev tb p w n₀ ann c b x s pos a s' pos'):Ev tb p w n₀ ann c b (x.tryCatch g) s pos a s' pos':=fun K H gd lv f B=>by
 rw[Sem.tryCatch_eq_wrap,nu];exact h _ _ _ _ f B
theorem Ev.rule{t}{k:Unit->Sem α}(h:Ev tb p w n₀ ann c b (k ()) s pos a s' pos'):Ev tb p w n₀ ann c (1+b) (.rule t k) s pos a s' pos':=fun K H gd lv f B=>
 l7.trans (l7.step rfl rfl (by obtain⟨h,g,d,tk,os⟩:=s;rfl)) (h K H gd lv f B)
theorem Ev.at{q}{k:Unit->Sem α}(h:Ev tb p w n₀ ann c b (k ()) s q a s' pos'):Ev tb p w n₀ ann c (1+b) (.at q k) s pos a s' pos':=fun K H gd lv f B=>
 l7.trans (l7.step rfl rfl (by obtain⟨h,g,d,tk,os⟩:=s;rfl)) (h K H gd lv f B)
theorem Ev.fresh{k:Tok->Sem α}(h:Ev tb p w n₀ ann c b (k s.toks) {s with toks:=s.toks+1} pos a s' pos'):Ev tb p w n₀ ann c (1+b) (.fresh k) s pos a s' pos':=fun K H gd lv f B=>
 l7.trans (l7.step rfl rfl (by obtain⟨h,g,d,tk,os⟩:=s;rfl)) (h K H gd lv f B)
theorem Ev.ask{k:Setting->Sem α}(h:Ev tb p w n₀ ann c b (k ⟨p,w.params⟩) s pos a s' pos'):Ev tb p w n₀ ann c (1+b) (.ask k) s pos a s' pos':=fun K H gd lv f B=>
 l7.trans (l7.step rfl rfl (by obtain⟨h,g,d,tk,os⟩:=s;rfl)) (h K H gd lv f B)
theorem Ev.alloc{o}{k:Addr->Sem α}(h:Ev tb p w n₀ ann c b (k s.heap.objs.size) {s with heap:=s.heap.push o} pos a s' pos'):Ev tb p w n₀ ann c (1+b) (.alloc o k) s pos a s' pos':=fun K H gd lv f B=>
 l7.trans (l7.step rfl rfl (by obtain⟨h,g,d,tk,os⟩:=s;rfl)) (h K H gd lv f B)
theorem Ev.load{d:Addr}{q o}{k:Obj->Sem α}(ho:s.heap.get? d=some o)(h:Ev tb p w n₀ ann c b (k o) s pos a s' pos'):Ev tb p w n₀ ann c (1+b) (.load d q k) s pos a s' pos':=fun K H gd lv f B=>
 l7.trans (l7.step rfl rfl (by obtain⟨hp,gs,dd,tk,os⟩:=s;show(match hp.get? d with|some o=>_|none=>_)=_;rw[show hp.get? d=some o from ho])) (h K H gd lv f B)
theorem Ev.update{d:Addr}{q o g}{k:Unit->Sem α}(ho:s.heap.get? d=some o)(hn:n₀<=d)(h:Ev tb p w n₀ ann c b (k ()) {s with heap:=s.heap.update d g} pos a s' pos'):Ev tb p w n₀ ann c (1+b) (.update d q g k) s pos a s' pos':=fun K H gd lv f B=>
 l7.trans (l7.step rfl (by
    show(true&&(Nat.ble n₀ d||d==mainNs||d==cStatics||ann==some (.ref d)))=true;rw[Nat.ble_eq_true_of_le hn];rfl)
  (by obtain⟨hp,gs,dd,tk,os⟩:=s;show(if(hp.get? d).isSome then _ else _)=_;rw[show hp.get? d=some o from ho];rfl)) (h K H gd lv f B)
theorem Ev.call{id:String}{args:Args}{hd g l}{k:Result->Sem α}{r:Result}{y:Sem Fin}(h1:denote tb (.call (.builtin id) args)= .pure (.again (.builtin id args)))(h2:denote tb (.builtin id args)=y)(hid:id.startsWith "lifetime."=false)
  {b' gZ ie} (hy:∀f B,l7 tb p w n₀ ann b s ⟨y,.builtin id args,pos,f::B⟩ s' ⟨.pure (match r with| .ok f=>.done f| .error _=>.done .next),.builtin id args,pos',f::B⟩) (hr:∃v,r= .ok v)
  (h:Ev tb p w n₀ ann c b' (k r) s' pos a gZ ie):Ev tb p w n₀ ann c (1+(1+(b+(1+b')))) (.call (.call (.builtin id) args) hd g l k) s pos a gZ ie:=fun K H gd lv f B=>by
 obtain⟨v,rfl⟩:=hr;obtain⟨hp,gs,dd,tk,os⟩:=s;obtain⟨WO,gs',dd',VK,os'⟩:=s';refine l7.trans (t':=⟨denote tb (.call (.builtin id) args),.call (.builtin id) args,pos,.ret (fun x=>(k x).wrap K H gd lv) hd (gd g) (lv l) c pos _::f::B⟩) (l7.step rfl rfl rfl) ?_;rw[h1];refine l7.trans (l7.step rfl (by
  show((!(id.startsWith "lifetime.")||_)&&_&&_&&_)=true;rw[hid];rfl) step_again) ?_
 rw[h2];refine l7.trans (hy _ _) (l7.trans (l7.step rfl rfl rfl) (h K H gd lv f B))
end
theorem H4(k:Int)(t:Tok):denote treeTable (.call (.builtin "int.__hash__") ⟨[.int k t],[]⟩)= .pure (.again (.builtin "int.__hash__" ⟨[.int k t],[]⟩)):=by
 rw[Ct,jP]
 kernel_rfl!
theorem H5(k:Int)(t:Tok):denote treeTable (.builtin "int.__hash__" ⟨[.int k t],[]⟩)= .fresh fun tk=>.pure (.done (.ret (.int (rawHash k) tk))):=by
 rw[Ct,jP]
 kernel_rfl!
section
variable{p:Program}{w:World}{n₀:Nat}{ann:Option Value}{c:Code}{s:Shared}{pos:Pos}
theorem AG(k:Int)(t:Tok):Ev treeTable p w n₀ ann c 4 (PySem.call (.builtin "int.__hash__") [.int k t]) s pos (.int (rawHash k) s.toks) {s with toks:=s.toks+1} pos:=by
 refine Ev.mono (b:=1+(1+(1+(1+0)))+0) ?_ (bL _);unfold PySem.call runValue run;refine Ev.bind (a:=.ret (.int (rawHash k) s.toks)) (s':={s with toks:=s.toks+1}) (pos':=pos) ?_ Ev.pure;refine Ev.call (pos':=pos) (r:=.ok (.ret (.int (rawHash k) s.toks))) (H4 k t) (H5 k t) (by decide+kernel) (b:=1) (fun f B=>?_) ⟨_,rfl⟩ Ev.pure;exact l7.step rfl rfl (by obtain⟨h,g,d,tk,os⟩:=s;rfl)
theorem LT(k:Int)(t:Tok):Ev treeTable p w n₀ ann c 5 (pyHash (.int k t)) s pos (hashInt k) {s with toks:=s.toks+1} pos:=by
 have hr:=rawHash_range k;show Ev treeTable p w n₀ ann c 5 (pyHashByItsType (.int k t)) s pos (hashInt k) {s with toks:=s.toks+1} pos;unfold pyHashByItsType;have hv:cRoomFor "hash" [Value.int k t]=(Pure.pure ():Sem Unit):=rfl;have hs:specialOf (.int k t) "__hash__"=(Pure.pure (some (.builtin "int.__hash__")):Sem _):=slot_int_hash.lookup;rw[hv,hs];refine Ev.bind (b:=0) (b':=5) Ev.pure (Ev.bind (b:=0) (b':=5) Ev.pure ?_);dsimp only;rw[au (by rw[beq_builtin_none];exact ny)];refine Ev.bind (b:=0) (b':=5) Ev.pure ?_;rw[au (by exact ny)];refine Ev.bind (b:=5) (b':=0) (a:=some (.int (rawHash k) s.toks)) (s':={s with toks:=s.toks+1}) (pos':=pos) ?_ ?_
 ·simp only[callSpecialIfBoundUnlessNone?,bindSpecialIfBound?,hs]
  refine Ev.holding (Ev.bind (b:=1) (b':=4) (a:=some (.builtin "int.__hash__",[.int k t])) (s':=s) (pos':=pos) ?_ ?_)
  ·show Ev treeTable p w n₀ ann c 1 (.ask fun st=>_) s pos _ s pos
   refine Ev.ask (b:=0) ?_;simp only[slot_int_hash.bind];refine Ev.bind (b:=0) (b':=0) Ev.pure ?_;dsimp only;split
   ·exact Ev.pure
   ·exact Ev.tryCatch (x:=(Sem.pure (some (Value.builtin "int.__hash__",[Value.int k t])):Sem (Option (Value×List Value)))) Ev.pure
  ·show Ev treeTable p w n₀ ann c 4 (if(Value.builtin "int.__hash__"==Value.none)=true then _ else _) s pos _ _ pos
   rw[au (by simp only[builtin_beq_none];exact ny)];exact Ev.bind (b:=4) (b':=0) (AG k t) Ev.pure
 ·show Ev treeTable p w n₀ ann c 0 (if(decide (-(2:Int)^63<=rawHash k)&&decide (rawHash k<2^63))=true then _ else _) _ pos _ _ pos
  rw[aw (by rw[bo hr.1,bo hr.2];rfl)];exact Ev.pure
end
end
section
noncomputable def hp(h:Heap)(l:List Obj):Heap:=⟨h.objs++l.toArray,h.life⟩
theorem Pc(h:Heap):hp h []=h:=by simp[hp]
theorem EG(h:Heap)(l:List Obj)(o:Obj):(hp h l).push o=hp h (l++[o]):=by
 show Heap.mk ((h.objs++l.toArray).push o) h.life=Heap.mk (h.objs++(l++[o]).toArray) h.life
 congr 1
 apply Array.toList_inj.mp;simp
theorem EH(h:Heap)(l:List Obj):(hp h l).objs.size=h.objs.size+l.length:=by simp[hp]
theorem pz(h:Heap)(l₁ l₂:List Obj)(es n):(hp h (l₁++aR es n::l₂)).get? (h.objs.size+l₁.length)=some (aR es n):=by
 unfold Heap.get?;have:(hp h (l₁++aR es n::l₂)).objs[h.objs.size+l₁.length]?=some (aR es n):=by
  show(h.objs++(l₁++aR es n::l₂).toArray)[h.objs.size+l₁.length]?=_;rw[Array.getElem?_append_right (by omega)];simp
 rw[this];rfl
theorem FV(h:Heap)(l₁ l₂:List Obj)(o)(f:Obj->Obj):(hp h (l₁++o::l₂)).update (h.objs.size+l₁.length) f=hp h (l₁++f o::l₂):=by
 show Heap.mk ((h.objs++(l₁++o::l₂).toArray).modify _ f) h.life=Heap.mk _ h.life
 congr 1
 apply Array.ext
 ·simp
 ·intro i h1 h2
  rw[Array.getElem_modify];by_cases hi:i<h.objs.size
  ·rw[au (by omega),Array.getElem_append_left hi,Array.getElem_append_left hi]
  ·rw[Array.getElem_append_right (by omega),Array.getElem_append_right (by omega)]
   simp only[List.getElem_toArray];by_cases hj:h.objs.size+l₁.length=i
   ·subst hj
    simp
   ·rw[au hj]
    by_cases hk:i-h.objs.size<l₁.length
    ·rw[List.getElem_append_left hk,List.getElem_append_left hk]
    ·rw[List.getElem_append_right (by omega),List.getElem_append_right (by omega)]
     have:i-h.objs.size-l₁.length≠0:=by omega
     obtain⟨j,hj⟩:=Nat.exists_eq_succ_of_ne_zero this;simp[hj]
noncomputable def AH(h:Int)(es:List DictEntry):Prop:=∀e∈es,e.hash≠h
theorem p0{h:Int}:∀{l:List DictEntry},AH h l->l6 h l=true
 |[],_=>rfl
 |a::l,q=>by
  show @Bool.rec (fun ø=>Bool) (l6 h l) false (FS a.hash h)=true;have:FS a.hash h=false:=by
   cases hb:FS a.hash h with
   |false=>rfl
   |true=>
    exfalso;refine q a (by simp) ?_;revert hb;generalize a.hash=x;intro hb;cases x<;>cases h
    ·simp only[FS]at hb;rw[Nat.eq_of_beq_eq_true hb]
    ·simp[FS]at hb
    ·simp[FS]at hb
    ·simpa[FS]using hb
  rw[this];exact p0 fun e he=>q e (ge _ he)
section
variable{p:Program}{w:World}{n₀:Nat}{ann:Option Value}{c:Code}{h:Heap}{g:Array GenState}{dr:Drawn}{tk:Nat}{os:OsState}{pos:Pos}
theorem EI{l₁ l₂:List Obj}{es n}{k:Int}{t:Tok}{x:Int}(hf:AH x es):
  Ev treeTable p w n₀ ann c 1 (dictFind (h.objs.size+l₁.length) (.int k t) x) ⟨hp h (l₁++aR es n::l₂),g,dr,tk,os⟩ pos none ⟨hp h (l₁++aR es n::l₂),g,dr,tk,os⟩ pos:=by
 rw[AF];refine Ev.load (b:=0) (pz h l₁ l₂ es n) ?_;show Ev treeTable p w n₀ ann c 0 (@Bool.rec (fun ø=>Sem (Option Nat)) _ (.pure none) (l6 x es.toArray.toList)) _ pos none _ pos;rw[p0 hf];exact Ev.pure
theorem ut{l₁ l₂:List Obj}{es n}{e:DictEntry}{part}(hn:n₀<=h.objs.size+l₁.length)(hl:es.length<1000):
  Ev treeTable p w n₀ ann c 3 (updateDictKeys (h.objs.size+l₁.length) (·.push e) part) ⟨hp h (l₁++aR es n::l₂),g,dr,tk,os⟩ pos () ⟨hp h (l₁++aR (es++[e]) (n+1)::l₂),g,dr,tk,os⟩ pos:=by
 unfold updateDictKeys;have hm:(aR es n).mapDictKeys (·.push e)=aR (es++[e]) (n+1):=by
  show Obj.mk _ _ (.dict (es.toArray.push e) (n+1)) _=Obj.mk _ _ (.dict (es++[e]).toArray (n+1)) _;rw[List.push_toArray]
 refine Ev.load (b:=2) (pz h l₁ l₂ es n) ?_;refine Ev.update (b:=1) (pz h l₁ l₂ es n) hn ?_;rw[FV,hm];refine Ev.load (b:=0) (pz h l₁ l₂ (es++[e]) (n+1)) ?_;refine Ev.bind (b:=0) (b':=0) Ev.pure ?_;have:(aR (es++[e]) (n+1)).data.pastItsLine=none:=by
  show(if(es++[e]).toArray.size>sizeLine+1 then _ else _)=_;rw[au (by rw[jM];simp;omega)]
 rw[this];exact Ev.pure
theorem Pd{l₁ l₂:List Obj}{es n}{k:Int}{t:Tok}{v:Value}{x:Int}(hf:AH x es)(hn:n₀<=h.objs.size+l₁.length)(hl:es.length<1000):
  Ev treeTable p w n₀ ann c 4 (dictPut (h.objs.size+l₁.length) x (.int k t) v) ⟨hp h (l₁++aR es n::l₂),g,dr,tk,os⟩ pos () ⟨hp h (l₁++aR (es++[⟨x,.int k t,v⟩]) (n+1)::l₂),g,dr,tk,os⟩ pos:=by
 unfold dictPut;exact Ev.bind (b:=1) (b':=3) (EI hf) (ut hn hl)
theorem H6{l₁ l₂:List Obj}{es n}{k:Int}{t:Tok}{v:Value}(hf:AH (hashInt k) es)(hn:n₀<=h.objs.size+l₁.length)(hl:es.length<1000):
  Ev treeTable p w n₀ ann c 10 (dictSet (h.objs.size+l₁.length) (.int k t) v) ⟨hp h (l₁++aR es n::l₂),g,dr,tk,os⟩ pos () ⟨hp h (l₁++aR (es++[⟨hashInt k,.int k t,v⟩]) (n+1)::l₂),g,dr,tk+1,os⟩ pos:=by
 unfold dictSet;refine Ev.holding (Ev.bind (b:=5) (b':=5) (LT k t) ?_);unfold dictSetHashed;refine Ev.holding (Ev.bind (b:=1) (b':=4) (EI hf) ?_);exact Ev.rule (b:=3) (ut hn hl)
noncomputable def ba:Nat->List (Int×Str)->List DictEntry
 |_,[]=>[]
 |T,(k,x)::r=>⟨hashInt k,.int k T,.str x (T+1)⟩::ba (T+3) r
theorem p4(T:Nat):ba T []=[]:=rfl
theorem p5(T:Nat)(k:Int)(x:Str)(r:List (Int×Str)):ba T ((k,x)::r)=⟨hashInt k,.int k T,.str x (T+1)⟩::ba (T+3) r:=rfl
noncomputable def gK:Nat->List (Int×Str)->List DictEntry
 |_,[]=>[]
 |T,(k,x)::r=>⟨hashInt k,.int k T,.str x (T+1)⟩::gK (T+2) r
theorem p6(T:Nat):gK T []=[]:=rfl
theorem p7(T:Nat)(k:Int)(x:Str)(r:List (Int×Str)):gK T ((k,x)::r)=⟨hashInt k,.int k T,.str x (T+1)⟩::gK (T+2) r:=rfl
noncomputable def wm(k:Int):Sem Value:=mkInt k
noncomputable def wn(q:Pos)(x:Str):Sem Value:=do let v <-mkText x;standAt q;pure v
noncomputable def dw(q:Pos)(l:List (Int×Str)):List (Sem Value×Sem Value):=l.map fun(k,x)=>(wm k,wn q x)
theorem H7{s:Shared}(k:Int):Ev treeTable p w n₀ ann c 1 (wm k) s pos (.int k s.toks) {s with toks:=s.toks+1} pos:=Ev.fresh (b:=0) Ev.pure
theorem H8{s:Shared}(q:Pos)(x:Str):Ev treeTable p w n₀ ann c 2 (wn q x) s pos (.str x s.toks) {s with toks:=s.toks+1} q:=Ev.fresh (b:=1) (Ev.at (b:=0) Ev.pure)
noncomputable def Apart(es:List DictEntry):List (Int×Str)->Prop
 |[]=>True
 |(k,_)::r=>AH (hashInt k) es/\(∀y∈r,hashInt y.1≠hashInt k)/\Apart es r
theorem Apart.push{es:List DictEntry}{k x v}:∀{l:List (Int×Str)},Apart es l->(∀y∈l,hashInt y.1≠hashInt k)->Apart (es++[⟨hashInt k,x,v⟩]) l
 |[],_,_=>trivial
 |(k',_)::r,h,hk=>⟨fun e he=>by
  rcases bZ.mp he with he|he
  ·exact h.1 e he
  ·obtain rfl:=cq.mp he
   exact fun q=>hk (k',_) (gI) q.symm,h.2.1,Apart.push h.2.2 fun y hy=>hk y (by simp[hy])⟩
theorem AI{l₁ l₂:List Obj}(q:Pos)(hn:n₀<=h.objs.size+l₁.length):∀(l:List (Int×Str)) (es:List DictEntry) (n tk:Nat) (pos:Pos),Apart es l->es.length+l.length<1000->
  Ev treeTable p w n₀ ann c (13*l.length) (forIn (dw q l) PUnit.unit fun(x:Sem Value×Sem Value) (_:PUnit)=>(do
    let kv <-x.1
    let vv <-holding [kv] x.2
    holding [kv,vv] (dictSet (h.objs.size+l₁.length) kv vv)
    pure (ForInStep.yield PUnit.unit):Sem (ForInStep PUnit))) ⟨hp h (l₁++aR es n::l₂),g,dr,tk,os⟩ pos PUnit.unit
   ⟨hp h (l₁++aR (es++ba tk l) (n+l.length)::l₂),g,dr,tk+3*l.length,os⟩ (if l=[]then pos else q)
 |[],es,n,tk,pos,_,_=>by
  simp only[dw,pk,nq,p4,p5,dZ,gx,pn,lH,jL];exact Ev.pure
 |(k,x)::r,es,n,tk,pos,ha,hl=>by
  simp only[dw,bB,oM];simp only[cr]at hl;refine Ev.mono (b:=(1+(2+(10+0)))+13*r.length) ?_ (by simp only[cr];omega);refine Ev.bind (a:=ForInStep.yield PUnit.unit) (s':=⟨hp h (l₁++aR (es++[⟨hashInt k,.int k tk,.str x (tk+1)⟩]) (n+1)::l₂),g,dr,tk+3,os⟩) (pos':=q) ?_ ?_
  ·refine Ev.bind (H7 k) (Ev.bind (Ev.holding (H8 q x)) (Ev.bind (Ev.holding (H6 ha.1 hn (by omega))) Ev.pure))
  ·have:=AI (l₂:=l₂) q hn r (es++[⟨hashInt k,.int k tk,.str x (tk+1)⟩]) (n+1) (tk+3) q (ha.2.2.push ha.2.1) (by simp only[aY,List.length_singleton];omega)
   simp only[List.append_assoc,tE,ite_self]at this;simp only[p4,p5,cr,gX,reduceCtorEq];rw[show n+(r.length+1)=n+1+r.length by omega,show tk+3*(r.length+1)=tk+3+3*r.length by omega];exact this
theorem EJ{l₁:List Obj}(q:Pos)(l:List (Int×Str))(hn:n₀<=h.objs.size+l₁.length)(ha:Apart [] l)(hl:l.length=17):
  Ev treeTable p w n₀ ann c 223 (subDict (dw q l)) ⟨hp h l₁,g,dr,tk,os⟩ pos (h.objs.size+l₁.length) ⟨hp h (l₁++[aR (ba tk l) 17]),g,dr,tk+51,os⟩ q:=by
 unfold subDict;refine Ev.alloc (b:=222) ?_;rw[EG,EH];refine Ev.bind (b:=0) (b':=222) Ev.pure ?_;have cZ:l≠[]:=fun e=>by rw[e]at hl;cases hl
 have key:=AI (p:=p) (w:=w) (ann:=ann) (c:=c) (g:=g) (dr:=dr) (os:=os) (l₂:=[]) q hn l [] 0 tk pos ha (by simp[hl]);rw[au cZ,hl]at key;refine Ev.bind (b:=222) (b':=0) (a:=()) (Ev.holding ?_) Ev.pure;rw[au (by simp[dw,hl])];exact Ev.mono (b:=1+(0+(13*17+0))) (Ev.rule (Ev.bind Ev.pure (Ev.bind key Ev.pure))) (by omega)
noncomputable def Rx:Nat->List (Int×Str)->List (Value×Value)
 |_,[]=>[]
 |T,(k,x)::r=>(.int k T,.str x (T+1))::Rx (T+2) r
theorem yj(T:Nat):Rx T []=[]:=rfl
theorem yk(T:Nat)(k:Int)(x:Str)(r:List (Int×Str)):Rx T ((k,x)::r)=(.int k T,.str x (T+1))::Rx (T+2) r:=rfl
theorem AJ(q:Pos):∀(l:List (Int×Str)) (s:Shared) (pos:Pos),Ev treeTable p w n₀ ann c (3*l.length) (evalPairs (dw q l)) s pos (Rx s.toks l) {s with toks:=s.toks+2*l.length} (if l=[]then pos else q)
 |[],s,pos=>by
  simp only[dw,pk,evalPairs,yj,yk,gx,pn,lH,jL];exact Ev.pure
 |(k,x)::r,s,pos=>by
  simp only[dw,bB,evalPairs];refine Ev.mono (b:=1+(2+(3*r.length+0))) ?_ (by simp only[cr];omega);have:=AJ q r {s with toks:=s.toks+2} q;simp only[ite_self]at this;simp only[gX,reduceCtorEq,yj,yk,cr];rw[show s.toks+2*(r.length+1)=s.toks+2+2*r.length by omega];exact Ev.bind (H7 k) (Ev.bind (Ev.holding (H8 q x)) (Ev.bind (Ev.holding this) Ev.pure))
theorem AK{l₁ l₂:List Obj}(hn:n₀<=h.objs.size+l₁.length):∀(l:List (Int×Str)) (T:Nat) (es:List DictEntry) (n tk:Nat) (pos:Pos),Apart es l->es.length+l.length<1000->
  Ev treeTable p w n₀ ann c (10*l.length) (forIn (Rx T l) PUnit.unit fun(x:Value×Value) (_:PUnit)=>(do
    dictSet (h.objs.size+l₁.length) x.1 x.2
    pure (ForInStep.yield PUnit.unit):Sem (ForInStep PUnit))) ⟨hp h (l₁++aR es n::l₂),g,dr,tk,os⟩ pos PUnit.unit
   ⟨hp h (l₁++aR (es++gK T l) (n+l.length)::l₂),g,dr,tk+l.length,os⟩ pos
 |[],T,es,n,tk,pos,_,_=>by
  simp only[yj,yk,nq,p6,p7,dZ,gx,pn,lH];exact Ev.pure
 |(k,x)::r,T,es,n,tk,pos,ha,hl=>by
  simp only[yj,yk,oM];simp only[cr]at hl;refine Ev.mono (b:=(10+0)+10*r.length) ?_ (by simp only[cr];omega);refine Ev.bind (a:=ForInStep.yield PUnit.unit) (s':=⟨hp h (l₁++aR (es++[⟨hashInt k,.int k T,.str x (T+1)⟩]) (n+1)::l₂),g,dr,tk+1,os⟩) (pos':=pos) ?_ ?_
  ·exact Ev.bind (H6 ha.1 hn (by omega)) Ev.pure
  ·have:=AK (l₂:=l₂) hn r (T+2) (es++[⟨hashInt k,.int k T,.str x (T+1)⟩]) (n+1) (tk+1) pos (ha.2.2.push ha.2.1) (by simp only[aY,List.length_singleton];omega)
   simp only[List.append_assoc,tE]at this;simp only[p6,p7,cr];rw[show n+(r.length+1)=n+1+r.length by omega,show tk+(r.length+1)=tk+1+r.length by omega];exact this
theorem LU{l₁:List Obj}(q:Pos)(l:List (Int×Str))(hn:n₀<=h.objs.size+l₁.length)(ha:Apart [] l)(hl:l.length<=15)(cZ:l≠[]):
  Ev treeTable p w n₀ ann c (1+13*l.length) (subDict (dw q l)) ⟨hp h l₁,g,dr,tk,os⟩ pos (h.objs.size+l₁.length) ⟨hp h (l₁++[aR (gK tk l) l.length]),g,dr,tk+2*l.length+l.length,os⟩ q:=by
 unfold subDict;refine Ev.alloc (b:=13*l.length) ?_;rw[EG,EH];refine Ev.mono (b:=0+(3*l.length+(10*l.length+0)+0)) ?_ (by omega);refine Ev.bind Ev.pure ?_;refine Ev.bind (a:=()) (Ev.holding ?_) Ev.pure;rw[aw (by simpa[dw]using hl)];have k1:=AJ (p:=p) (w:=w) (n₀:=n₀) (ann:=ann) (c:=c) q l ⟨hp h (l₁++[aR [] 0]),g,dr,tk,os⟩ pos;rw[au cZ]at k1;refine Ev.bind k1 (Ev.holding ?_);have k2:=AK (p:=p) (w:=w) (ann:=ann) (c:=c) (g:=g) (dr:=dr) (os:=os) (l₂:=[]) hn l tk [] 0 (tk+2*l.length) q ha (by simp;omega);rw[gh,gg]at k2;exact Ev.bind k2 Ev.pure
theorem pA{l₁ l₂:List Obj}{es:List DictEntry}{n:Nat}{part}:Ev treeTable p w n₀ ann c 1 (dictEntries (h.objs.size+l₁.length) part) ⟨hp h (l₁++aR es n::l₂),g,dr,tk,os⟩ pos es.toArray ⟨hp h (l₁++aR es n::l₂),g,dr,tk,os⟩ pos:=
 Ev.load (b:=0) (pz h l₁ l₂ es n) Ev.pure
theorem AL{l₁ l₂:List Obj}{es:List DictEntry}{n:Nat}{part}:Ev treeTable p w n₀ ann c 1 (dictEpoch (h.objs.size+l₁.length) part) ⟨hp h (l₁++aR es n::l₂),g,dr,tk,os⟩ pos n ⟨hp h (l₁++aR es n::l₂),g,dr,tk,os⟩ pos:=
 Ev.load (b:=0) (pz h l₁ l₂ es n) Ev.pure
theorem AM{l₁ l₂:List Obj}{es':List DictEntry}{n':Nat}(hn:n₀<=h.objs.size+l₁.length)
  (hk:∀e∈es',∃k t,e.key= .int k t):∀(m i:Nat) (es:List DictEntry) (n:Nat),i+m=es'.length->es.length+m<1000->(es'.drop i).Pairwise (fun a b=>a.hash≠b.hash)->(∀a∈es,∀b∈es'.drop i,a.hash≠b.hash)->
  Ev treeTable p w n₀ ann c (6*m) (forIn (List.range' i m) PUnit.unit fun(i:Nat) (_:PUnit)=>(do
    let x <-dictEntries (h.objs.size+(l₁++aR es n::l₂).length)
    match x[i]? with
    |some e=>do
     holding [e.key,e.val] (dictPut (h.objs.size+l₁.length) e.hash e.key e.val)
     let ep <-dictEpoch (h.objs.size+(l₁++aR es n::l₂).length)
     if(ep != n')=true then do
      unsupported "dict.changed-during-merge"
      pure (ForInStep.yield PUnit.unit)
     else pure (ForInStep.yield PUnit.unit)
    |x=>do
     unsupported "dict.changed-during-merge"
     pure (ForInStep.yield PUnit.unit):Sem (ForInStep PUnit))) ⟨hp h ((l₁++aR es n::l₂)++[aR es' n']),g,dr,tk,os⟩ pos PUnit.unit
   ⟨hp h ((l₁++aR (es++es'.drop i) (n+m)::l₂)++[aR es' n']),g,dr,tk,os⟩ pos
 |0,i,es,n,hi,hl,WO,hf=>by
  have:es'.drop i=[]:=tB (by omega);simp only[List.range'_zero,nq,this,dZ,pn,lH];exact Ev.pure
 |m+1,i,es,n,hi,hl,Cc,hf=>by
  have eu:i<es'.length:=by omega
  have hd:es'.drop i=es'[i]::es'.drop (i+1):=(List.drop_eq_getElem_cons eu);rw[hd]at Cc hf ⊢;obtain⟨k,t,Pe⟩:=hk es'[i] (by simp);simp only[List.range'_succ,oM];refine Ev.mono (b:=(1+(4+(1+0)))+6*m) ?_ (by omega);refine Ev.bind (a:=ForInStep.yield PUnit.unit) (s':=⟨hp h ((l₁++aR (es++[es'[i]]) (n+1)::l₂)++[aR es' n']),g,dr,tk,os⟩) (pos':=pos) ?_ ?_
  ·refine Ev.bind (pA (l₁:=l₁++aR es n::l₂) (l₂:=[])) ?_
   have he:es'.toArray[i]?=some es'[i]:=by simp[eu]
   rw[he];have H9:=Pd (p:=p) (w:=w) (n₀:=n₀) (ann:=ann) (c:=c) (h:=h) (g:=g) (dr:=dr) (tk:=tk) (os:=os) (pos:=pos) (l₁:=l₁) (l₂:=l₂++[aR es' n']) (es:=es) (n:=n) (k:=k) (t:=t) (v:=es'[i].val) (x:=es'[i].hash) (fun e Hd=>hf e Hd _ gI) hn (by omega);rw[<-Pe]at H9;have e0:(⟨es'[i].hash,es'[i].key,es'[i].val⟩:DictEntry)=es'[i]:=rfl;rw[e0]at H9;simp only[List.append_assoc,List.cons_append]at H9 ⊢;refine Ev.bind (Ev.holding H9) ?_;have ZU:=AL (p:=p) (w:=w) (n₀:=n₀) (ann:=ann) (c:=c) (h:=h) (g:=g) (dr:=dr) (tk:=tk) (os:=os) (pos:=pos) (l₁:=l₁++aR (es++[es'[i]]) (n+1)::l₂) (l₂:=[]) (es:=es') (n:=n') (part:=none);simp only[List.append_assoc,List.cons_append,aY,cr]at ZU ⊢;refine Ev.bind ZU ?_;rw[au (by simp)];exact Ev.pure
  ·have:=AM (l₁:=l₁) (l₂:=l₂) (n':=n') hn hk m (i+1) (es++[es'[i]]) (n+1) (by omega) (by simp;omega) (List.Pairwise.of_cons Cc) (fun a ha b hb=>by
    rcases bZ.mp ha with ha|ha
    ·exact hf a ha b (ge _ hb)
    ·obtain rfl:=cq.mp ha
     exact(List.pairwise_cons.mp Cc).1 b hb)
   simp only[List.append_assoc,tE,aY,cr]at this ⊢;rw[show n+(m+1)=n+1+m by omega];exact this
theorem AN{l₁ l₂:List Obj}{es es':List DictEntry}{n n':Nat}(hn:n₀<=h.objs.size+l₁.length)(cZ:es≠[])(ls:(h.objs.size+(l₁++aR es n::l₂).length==sysModules)=false)
  (hk:∀e∈es',∃k t,e.key= .int k t) (Cc:es'.Pairwise fun a b=>a.hash≠b.hash) (hf:∀a∈es,∀b∈es',a.hash≠b.hash) (hl:es.length+es'.length<1000):
  Ev treeTable p w n₀ ann c (5+6*es'.length) (mergeMapping (h.objs.size+l₁.length) (.ref (h.objs.size+(l₁++aR es n::l₂).length)) false) ⟨hp h ((l₁++aR es n::l₂)++[aR es' n']),g,dr,tk,os⟩ pos ()
   ⟨hp h ((l₁++aR (es++es') (n+es'.length)::l₂)++[aR es' n']),g,dr,tk,os⟩ pos:=by
 unfold mergeMapping;have s0:=pz h (l₁++aR es n::l₂) [] es' n';have Vh:Ev treeTable p w n₀ ann c 1 (PySem.typeOf (.ref (h.objs.size+(l₁++aR es n::l₂).length))) ⟨hp h ((l₁++aR es n::l₂)++[aR es' n']),g,dr,tk,os⟩ pos (.type "dict") ⟨hp h ((l₁++aR es n::l₂)++[aR es' n']),g,dr,tk,os⟩ pos:=Ev.load (b:=0) s0 Ev.pure;refine Ev.mono (b:=(1+0)+((1+0)+(1+(1+(1+(6*es'.length+0)))))) ?_ (by omega);refine Ev.bind (a:=true) (s':=⟨hp h ((l₁++aR es n::l₂)++[aR es' n']),g,dr,tk,os⟩) (pos':=pos) ?_ ?_
 ·unfold isInstance
  refine Ev.bind Vh ?_;rw[isSubtype_dict_dict];exact Ev.pure
 ·dsimp only
  rw[aw rfl];refine Ev.bind (a:=some (.builtin "dict.__iter__")) (s':=⟨hp h ((l₁++aR es n::l₂)++[aR es' n']),g,dr,tk,os⟩) (pos':=pos) ?_ ?_
  ·unfold specialOf
   refine Ev.bind Vh ?_;rw[PySem.F.slot_dict_iter.lookup];exact Ev.pure
  ·have e1:(some (Value.builtin "dict.__iter__")==some (Value.builtin "dict.__iter__"))=true:=by simp
   rw[e1];refine Ev.NM Ev.pure ?_;dsimp only;rw[au (by rw[ls];exact ny)];have k1:=pA (p:=p) (w:=w) (n₀:=n₀) (ann:=ann) (c:=c) (h:=h) (g:=g) (dr:=dr) (tk:=tk) (os:=os) (pos:=pos) (l₁:=l₁) (l₂:=l₂++[aR es' n']) (es:=es) (n:=n) (part:=none);have k2:=pA (p:=p) (w:=w) (n₀:=n₀) (ann:=ann) (c:=c) (h:=h) (g:=g) (dr:=dr) (tk:=tk) (os:=os) (pos:=pos) (l₁:=l₁++aR es n::l₂) (l₂:=[]) (es:=es') (n:=n') (part:=none);have k3:=AL (p:=p) (w:=w) (n₀:=n₀) (ann:=ann) (c:=c) (h:=h) (g:=g) (dr:=dr) (tk:=tk) (os:=os) (pos:=pos) (l₁:=l₁++aR es n::l₂) (l₂:=[]) (es:=es') (n:=n') (part:=none);have k4:=AM (p:=p) (w:=w) (n₀:=n₀) (ann:=ann) (c:=c) (h:=h) (g:=g) (dr:=dr) (tk:=tk) (os:=os) (pos:=pos) (l₁:=l₁) (l₂:=l₂) (es':=es') (n':=n') hn hk es'.length 0 es n (by omega) hl (by simpa using Cc) (by simpa using hf);rw[<-List.cons_append,<-List.append_assoc]at k1;refine Ev.bind k1 ?_;rw[au (by simpa using cZ)];refine Ev.bind k2 (Ev.bind k3 ?_);rw[List.range_eq_range'];simp only[List.drop_zero]at k4;refine Ev.bind (a:=PUnit.unit) ?_ Ev.pure;exact k4
noncomputable def gL:Nat->List (List (Int×Str))->List DictEntry
 |_,[]=>[]
 |T,l::r=>ba T l++gL (T+51) r
theorem uu(T:Nat):gL T []=[]:=rfl
theorem uv(T:Nat)(l:List (Int×Str))(r:List (List (Int×Str))):gL T (l::r)=ba T l++gL (T+51) r:=rfl
noncomputable def oY:Nat->List (List (Int×Str))->List Obj
 |_,[]=>[]
 |T,l::r=>aR (ba T l) 17::oY (T+51) r
theorem AO(T:Nat):oY T []=[]:=rfl
theorem AP(T:Nat)(l:List (Int×Str))(r:List (List (Int×Str))):oY T (l::r)=aR (ba T l) 17::oY (T+51) r:=rfl
noncomputable def cM(q:Pos)(l:List (Int×Str)):List (Option (Sem Value)×Sem Value):=l.map fun(k,x)=>(some (wm k),wn q x)
noncomputable def hs(l:List (Int×Str)):List Int:=l.map fun y=>hashInt y.1
theorem jr:∀(l:List (Int×Str)) (T:Nat),(ba T l).map (·.hash)=hs l
 |[],_=>rfl
 |(k,x)::r,T=>by simp only[p4,p5,bB,jr r,hs]
theorem uw:∀(l:List (Int×Str)) (T:Nat),(gK T l).map (·.hash)=hs l
 |[],_=>rfl
 |(k,x)::r,T=>by simp only[p6,p7,bB,uw r,hs]
theorem gq:∀(l:List (Int×Str)) (T:Nat),(ba T l).length=l.length
 |[],_=>rfl
 |(k,x)::r,T=>by simp only[p4,p5,cr,gq r]
theorem rI:∀(l:List (Int×Str)) (T:Nat),(gK T l).length=l.length
 |[],_=>rfl
 |(k,x)::r,T=>by simp only[p6,p7,cr,rI r]
theorem w8:∀(l:List (Int×Str)) (T:Nat),∀e∈ba T l,∃k t,e.key= .int k t
 |[],_,e,he=>by cases he
 |(k,x)::r,T,e,he=>by
  rcases bI.mp he with rfl|he
  ·exact⟨_,_,rfl⟩
  ·exact w8 r _ e he
theorem w9:∀(l:List (Int×Str)) (T:Nat),∀e∈gK T l,∃k t,e.key= .int k t
 |[],_,e,he=>by cases he
 |(k,x)::r,T,e,he=>by
  rcases bI.mp he with rfl|he
  ·exact⟨_,_,rfl⟩
  ·exact w9 r _ e he
theorem sr{es:List DictEntry}(h:(es.map (·.hash)).Nodup):es.Pairwise fun a b=>a.hash≠b.hash:=List.pairwise_map.mp h
theorem p8:∀{l:List (Int×Str)} {es:List DictEntry},(es.map (·.hash)++hs l).Nodup->Apart es l
 |[],_,_=>trivial
 |(k,x)::r,es,hn=>by
  have h2:=(lI.mp hn);refine⟨fun e he q=>h2.2.2 _ (dt.mpr ⟨e,he,rfl⟩) _ (gI) q,fun y hy q=>?_,p8 ?_⟩
  ·exact(mK.mp h2.2.1).1 (dt.mpr ⟨y,hy,q⟩)
  ·exact hn.sublist (List.sublist_append_right [_] _ |>.append_left _)
theorem AQ(q:Pos)(k:Int)(x:Str)(r:List (Int×Str)):cM q ((k,x)::r)=(some (wm k),wn q x)::cM q r:=rfl
section
variable{F:Option (Sem Value)×Sem Value->Option Addr×List (Sem Value×Sem Value)->Sem (ForInStep (Option Addr×List (Sem Value×Sem Value)))}
theorem fill(ux:∀k v main run,run.length+1≠17->F (some k,v) (main,run)=pure (.yield (main,run++[(k,v)])))(q:Pos)(rest:List (Option (Sem Value)×Sem Value))(main:Option Addr):
  ∀(l:List (Int×Str)) (run:List (Sem Value×Sem Value)),run.length+l.length<17->forIn (cM q l++rest) (main,run) F=forIn rest (main,run++dw q l) F
 |[],run,_=>by simp[cM,dw]
 |(k,x)::r,run,hl=>by
  simp only[cr]at hl;rw[AQ,List.cons_append,oM,ux _ _ _ _ (by omega)];have:=fill ux q rest main r (run++[(wm k,wn q x)]) (by simp;omega);show forIn (cM q r++rest) (main,run++[(wm k,wn q x)]) F=_;rw[this,List.append_assoc];rfl
variable{R:Addr->Value->Sem Unit}
variable(ux:∀k v main run,run.length+1≠17->F (some k,v) (main,run)=pure (.yield (main,run++[(k,v)])))
 (NN:∀k v run,run.length+1=17->F (some k,v) (none,run)=(do let d <-(do let d <-subDict (run++[(k,v)]);pure (some d));pure (.yield (d,[]))))
 (Ry:∀k v d run,run.length+1=17->F (some k,v) (some d,run)=(do
  let m <-(do
   let sub <-holding [.ref d] (subDict (run++[(k,v)]))
   (holding [.ref d,.ref sub] (mergeMapping d (.ref sub) false)).onRaise (R d)
   pure (some d))
  pure (.yield (m,[]))))
include ux
theorem EK{l:List (Int×Str)}(hl:l.length=17):∃l' k x,l=l'++[(k,x)]/\l'.length=16:=by
 refine⟨l.dropLast,(l.getLast (by intro e;rw[e]at hl;cases hl)).1,(l.getLast (by intro e;rw[e]at hl;cases hl)).2,?_,by simp[hl]⟩;exact(List.dropLast_concat_getLast (by intro e;rw[e]at hl;cases hl)).symm
include Ry
theorem Ia{q:Pos}{l:List (Int×Str)}{rest:List (Option (Sem Value)×Sem Value)}(hl:l.length=17){E:List DictEntry}{n:Nat}{subs:List Obj}(hE:E≠[])(EL:(E.map (·.hash)++hs l).Nodup)(hlen:E.length+17<1000)
  (hn:n₀<=h.objs.size) (ls:sysModules<h.objs.size) {b:Nat} {a gZ ie}
  (k:Ev treeTable p w n₀ ann c b (forIn rest (some h.objs.size,[]) F) ⟨hp h (aR (E++ba tk l) (n+17)::subs++[aR (ba tk l) 17]),g,dr,tk+51,os⟩ q a gZ ie):
  Ev treeTable p w n₀ ann c (400+b) (forIn (cM q l++rest) (some h.objs.size,[]) F) ⟨hp h (aR E n::subs),g,dr,tk,os⟩ pos a gZ ie:=by
 obtain⟨l',k',x',rfl,lS⟩:=EK ux hl;have e1:cM q (l'++[(k',x')])++rest=cM q l'++((some (wm k'),wn q x')::rest):=by simp[cM]
 rw[e1,fill ux q _ _ l' [] (by simp[lS]),gh,oM,Ry _ _ _ _ (by simp[dw,lS])];have e2:dw q l'++[(wm k',wn q x')]=dw q (l'++[(k',x')]):=by simp[dw]
 rw[e2];generalize hL:l'++[(k',x')]=L at*;have d0:(hs L).Nodup:=(lI.mp EL).2.1;have dd:=(lI.mp EL).2.2;have k1:=EJ (p:=p) (w:=w) (n₀:=n₀) (ann:=ann) (c:=c) (h:=h) (g:=g) (dr:=dr) (tk:=tk) (os:=os) (pos:=pos) (l₁:=aR E n::subs) q L (by omega) (p8 (by simpa using d0)) hl;have k2:=AN (p:=p) (w:=w) (n₀:=n₀) (ann:=ann) (c:=c) (h:=h) (g:=g) (dr:=dr) (tk:=tk+51) (os:=os) (pos:=q) (l₁:=[]) (l₂:=subs) (es:=E) (es':=ba tk L) (n:=n) (n':=17) (by simpa using hn) hE
  (kI.mpr (nz (fu ls (fO _ _)))) (w8 L tk) (sr (by rw[jr];exact d0)) (fun a ha b hb=>dd _ (dt.mpr ⟨a,ha,rfl⟩) _ (by rw[<-jr L tk];exact dt.mpr ⟨b,hb,rfl⟩)) (by rw[gq,hl];exact hlen)
 simp only[gh,gx,lH,gq,hl]at k2;refine Ev.mono (b:=(((223+(5+6*17+0))+0)+b)) ?_ (by omega);refine Ev.bind (a:=ForInStep.yield (some h.objs.size,[])) (Ev.bind (a:=some h.objs.size) (Ev.bind (Ev.holding k1) (Ev.bind (Ev.onRaise (Ev.holding k2)) Ev.pure)) Ev.pure) k
theorem xa{q:Pos}{rest:List (Option (Sem Value)×Sem Value)}(hn:n₀<=h.objs.size)(ls:sysModules<h.objs.size){b:Nat}{a gZ ie}:∀(cs:List (List (Int×Str))) (E:List DictEntry) (n:Nat) (subs:List Obj) (tk:Nat),
  (∀l∈cs,l.length=17)->E≠[]->(E.map (·.hash)++hs cs.flatten).Nodup->E.length+17*cs.length<1000->
  (Ev treeTable p w n₀ ann c b (forIn rest (some h.objs.size,[]) F) ⟨hp h (aR (E++gL tk cs) (n+17*cs.length)::subs++oY tk cs),g,dr,tk+51*cs.length,os⟩ q a gZ ie)->
  Ev treeTable p w n₀ ann c (400*cs.length+b) (forIn (cM q cs.flatten++rest) (some h.objs.size,[]) F) ⟨hp h (aR E n::subs),g,dr,tk,os⟩ q a gZ ie
 |[],E,n,subs,tk,_,_,_,_,k=>by
  simp only[List.flatten_nil,cM,pk,gh,gx,pn,gg];simpa only[uu,uv,AO,AP,dZ,gx,pn,lH]using k
 |l::cs,E,n,subs,tk,hl,hE,EL,hlen,k=>by
  simp only[cr]at hlen;have h1:l.length=17:=hl l (by simp);have S6:hs (l++cs.flatten)=hs l++hs cs.flatten:=by simp[hs]
  rw[eQ,S6,<-List.append_assoc]at EL;have e1:cM q (l::cs).flatten++rest=cM q l++(cM q cs.flatten++rest):=by simp[cM]
  rw[e1];refine Ev.mono (b:=400+(400*cs.length+b)) ?_ (by simp only[cr];omega);refine Ia ux Ry h1 hE (lI.mp EL).1 (by omega) hn ls ?_;have:=xa hn ls cs (E++ba tk l) (n+17) (subs++[aR (ba tk l) 17]) (tk+51) (fun y hy=>hl y (by simp[hy])) (by simp[hE]) (by rw[List.map_append,jr];exact EL) (by rw[aY,gq,h1];omega)
   (by
    simp only[uu,uv,AO,AP,cr]at k;rw[show n+17+17*cs.length=n+17*(cs.length+1) by omega,show tk+51+51*cs.length=tk+51*(cs.length+1) by omega];simpa only[List.append_assoc,List.cons_append,gh,tE]using k)
  simpa only[List.cons_append]using this
omit Ry in
include NN in
theorem Ib{q:Pos}{l:List (Int×Str)}{rest:List (Option (Sem Value)×Sem Value)}(hl:l.length=17)(EL:(hs l).Nodup)(hn:n₀<=h.objs.size){b:Nat}{a gZ ie}
  (k:Ev treeTable p w n₀ ann c b (forIn rest (some h.objs.size,[]) F) ⟨hp h [aR (ba tk l) 17],g,dr,tk+51,os⟩ q a gZ ie):
  Ev treeTable p w n₀ ann c (400+b) (forIn (cM q l++rest) (none,[]) F) ⟨h,g,dr,tk,os⟩ pos a gZ ie:=by
 obtain⟨l',k',x',rfl,lS⟩:=EK ux hl;have e1:cM q (l'++[(k',x')])++rest=cM q l'++((some (wm k'),wn q x')::rest):=by simp[cM]
 rw[e1,fill ux q _ _ l' [] (by simp[lS]),gh,oM,NN _ _ _ (by simp[dw,lS])];have e2:dw q l'++[(wm k',wn q x')]=dw q (l'++[(k',x')]):=by simp[dw]
 rw[e2];generalize hL:l'++[(k',x')]=L at*;have k1:=EJ (p:=p) (w:=w) (n₀:=n₀) (ann:=ann) (c:=c) (h:=h) (g:=g) (dr:=dr) (tk:=tk) (os:=os) (pos:=pos) (l₁:=[]) q L (by simpa using hn) (p8 (by simpa using EL)) hl;simp only[Pc,gx,lH,gh]at k1;refine Ev.mono (b:=(((223+0)+0)+b)) ?_ (by omega);exact Ev.bind (a:=ForInStep.yield (some h.objs.size,[])) (Ev.bind (a:=some h.objs.size) (Ev.bind k1 Ev.pure) Ev.pure) k
end
theorem xb:∀(cs:List (List (Int×Str))),(∀l∈cs,l.length=17)->∀T,(gL T cs).length=17*cs.length
 |[],_,_=>rfl
 |l::cs,hc,T=>by
  simp only[uu,uv,aY,gq,cr,xb cs (fun y hy=>hc y (by simp[hy])),hc l (by simp)];omega
theorem AR:∀(cs:List (List (Int×Str))) (T:Nat),(gL T cs).map (·.hash)=hs cs.flatten
 |[],_=>rfl
 |l::cs,T=>by
  have:hs (l++cs.flatten)=hs l++hs cs.flatten:=by simp[hs]
  rw[gL,List.map_append,jr,AR cs,eQ,this]
theorem Db{q:Pos}(p9:List (Int×Str))(cs:List (List (Int×Str)))(l:List (Int×Str))(h0:p9.length=17)(hc:∀l∈cs,l.length=17)(hl:l.length<=15)(cZ:l≠[])(EL:(hs p9++hs cs.flatten++hs l).Nodup)
  (hlen:17*cs.length<900) (hn:n₀<=h.objs.size) (ls:sysModules<h.objs.size):
  Ev treeTable p w n₀ ann c (400*cs.length+1000) (dictDisplay (cM q (p9++(cs.flatten++l)))) ⟨h,g,dr,tk,os⟩ pos (.ref h.objs.size)
   ⟨hp h (aR (ba tk p9++gL (tk+51) cs++gK (tk+51+51*cs.length) l) (17+17*cs.length+l.length)::oY (tk+51) cs++[aR (gK (tk+51+51*cs.length) l) l.length]),g,dr,tk+51+51*cs.length+3*l.length,os⟩ q:=by
 have e1:cM q (p9++(cs.flatten++l))=cM q p9++(cM q cs.flatten++(cM q l++[])):=by simp[cM]
 unfold dictDisplay;dsimp only;rw[e1];refine Ev.mono (b:=(400+(400*cs.length+0))+((1+13*l.length)+((5+6*l.length)+0)+0)) ?_ (by omega);have Ic:=lI.mp EL;have Xm:=lI.mp Ic.1;refine Ev.bind (a:=(some h.objs.size,dw q l)) (s':=⟨hp h (aR (ba tk p9++gL (tk+51) cs) (17+17*cs.length)::oY (tk+51) cs),g,dr,tk+51+51*cs.length,os⟩) (pos':=q) ?_ ?_
 ·have ux:∀(k:Sem Value) (v:Sem Value) (main:Option Addr) (run:List (Sem Value×Sem Value)),run.length+1≠17->(((run++[(k,v)]).length==17)=true)=False:=fun k v main run hr=>by simpa using hr
  have NN:∀(k:Sem Value) (v:Sem Value) (run:List (Sem Value×Sem Value)),run.length+1=17->(((run++[(k,v)]).length==17)=true)=True:=fun k v run hr=>by simpa using hr
  have hE:∀(k:Sem Value) (v:Sem Value) (run:List (Sem Value×Sem Value)),((run++[(k,v)]).isEmpty=true)=False:=fun k v run=>by simp
  refine Ib (fun k v main run hr=>?_) (fun k v run hr=>?_) h0 Xm.1 hn (xa (R:=fun d x=>do let _ <-holding [Value.ref d,x] (runValue (Code.builtin "proto.let_go" { }));pure ()) (fun k v main run hr=>?_) (fun k v d run hr=>?_) hn ls cs (ba tk p9) 17 [] (tk+51) hc (fun e=>?_) (by rw[jr];exact Ic.1) (by rw[gq,h0];omega) ?_)
  ·dsimp only;rw[au (by rw[ux k v main run hr];exact id)]
  ·dsimp only;rw[aw (by rw[NN k v run hr];trivial),au (by rw[hE];exact id)]
  ·dsimp only;rw[au (by rw[ux k v main run hr];exact id)]
  ·dsimp only;rw[aw (by rw[NN k v run hr];trivial),au (by rw[hE];exact id)]
  ·have:=gq p9 tk
   rw[e,h0]at this;cases this
  ·rw[fill (fun k v main run hr=>by dsimp only;rw[au (by rw[ux k v main run hr];exact id)]) q [] _ l [] (by simp;omega)]
   simp only[nq,gh];exact Ev.pure
 ·have hlp:(dw q l).isEmpty=false:=by
   cases l with
   |nil=>exact absurd rfl cZ
   |cons=>rfl
  dsimp only;rw[au (by rw[hlp];exact ny)];have len:(ba tk p9++gL (tk+51) cs).length=17+17*cs.length:=by rw[aY,gq,h0,xb cs hc]
  have hsE:(ba tk p9++gL (tk+51) cs).map (·.hash)=hs p9++hs cs.flatten:=by rw[List.map_append,jr,AR]
  have k1:=LU (p:=p) (w:=w) (n₀:=n₀) (ann:=ann) (c:=c) (h:=h) (g:=g) (dr:=dr) (tk:=tk+51+51*cs.length) (os:=os) (pos:=q) (l₁:=aR (ba tk p9++gL (tk+51) cs) (17+17*cs.length)::oY (tk+51) cs) q l (by omega) (p8 (by simpa using Ic.2.1)) hl cZ;have k2:=AN (p:=p) (w:=w) (n₀:=n₀) (ann:=ann) (c:=c) (h:=h) (g:=g) (dr:=dr) (tk:=tk+51+51*cs.length+2*l.length+l.length) (os:=os) (pos:=q) (l₁:=[]) (l₂:=oY (tk+51) cs) (es:=ba tk p9++gL (tk+51) cs) (es':=gK (tk+51+51*cs.length) l) (n:=17+17*cs.length) (n':=l.length) (by simpa using hn)
   (by intro e;rw[e,gx]at len;omega)
   (kI.mpr (nz (fu ls (fO _ _)))) (w9 l _) (sr (by rw[uw];exact Ic.2.1))
   (fun a ha b hb=>Ic.2.2 _ (by rw[<-hsE];exact dt.mpr ⟨a,ha,rfl⟩) _ (by rw[<-uw l (tk+51+51*cs.length)];exact dt.mpr ⟨b,hb,rfl⟩)) (by rw[len,rI];omega)
  simp only[gh,gx,lH,rI]at k2;rw[show tk+51+51*cs.length+3*l.length=tk+51+51*cs.length+2*l.length+l.length by omega];refine Ev.bind (a:=some h.objs.size) (Ev.bind (Ev.holding k1) (Ev.bind (Ev.onRaise (Ev.holding k2)) Ev.pure)) Ev.pure
end
noncomputable abbrev Ent:=(Int×Nat×Pos)×(Str×Nat×Pos)
noncomputable def kE(d:Ent):Option Expr:=some (.Constant (.int d.1.1) d.1.2.1 d.1.2.2)
noncomputable def vE(d:Ent):Expr:=.Constant (.str d.2.1) d.2.2.1 d.2.2.2
theorem Id(q:Pos)(env:Env)(D:List Ent):(evalEachOpt (D.map kE) env).zip ((evalEach (D.map vE) env).map fun v=>do let x <-v;standAt q;pure x)=cM q (D.map fun d=>(d.1.1,d.2.1)):=by
 induction D with
 |nil=>rfl
 |cons d D ih=>exact congrArg (List.cons _) ih
noncomputable def ma:Nat->List (Int×Str)->Bool
 |_,[]=>true
 |n,(.ofNat k,_)::r=>Nat.ble n k&&ma (k+1) r
 |_,(.negSucc _,_)::_=>false
theorem me(n k:Nat)(x:Str)(r:List (Int×Str)):ma n ((.ofNat k,x)::r)=(Nat.ble n k&&ma (k+1) r):=rfl
theorem mf(n k:Nat)(x:Str)(r:List (Int×Str)):ma n ((.negSucc k,x)::r)=false:=rfl
set_option tactic.hygienic true in
theorem oZ{k:Nat}(hk:k<2^61-1):hashInt (Int.ofNat k)=Int.ofNat k:=by
 have h1:rawHash (Int.ofNat k)=Int.ofNat k:=by
  have e:((k:Int) % ((2^61-1:Nat):Int))=(k:Int):=Int.emod_eq_of_lt (by omega) (by omega);simp only[rawHash,Int.ofNat_eq_natCast,Int.natAbs_natCast,e];split
  ·omega
  ·split
   ·rename_i h;have:=eq_of_beq h;omega
   ·rfl
 unfold hashInt;rw[h1,au];intro h;have:=eq_of_beq h;have:(0:Int)<=Int.ofNat k:=ni k;omega
theorem Ie:∀{l:List (Int×Str)} {n:Nat},ma n l=true->∀y∈l,∃k:Nat,y.1=Int.ofNat k/\n<=k
 |[],_,_,y,hy=>by cases hy
 |(.ofNat k,x)::r,n,h,y,hy=>by
  simp only[me,mf,bX,Nat.ble_eq]at h;rcases bI.mp hy with rfl|hy
  ·exact⟨k,rfl,h.1⟩
  ·obtain⟨k',e,hk⟩:=Ie h.2 y hy
   exact⟨k',e,by omega⟩
 |(.negSucc _,_)::_,_,h,_,_=>by simp[me,mf]at h
theorem xc:∀{l:List (Int×Str)} {n:Nat},ma n l=true->(∀y∈l,y.1<2^31)->(hs l).Nodup
 |[],_,_,_=>xM
 |(.ofNat k,x)::r,n,h,hb=>by
  simp only[me,mf,bX,Nat.ble_eq]at h;refine mK.mpr ⟨fun hm=>?_,xc h.2 fun y hy=>hb y (by simp[hy])⟩;obtain⟨y,hy,e⟩:=dt.mp hm;obtain⟨k',e',hk⟩:=Ie h.2 y hy;have b1:=hb y (by simp[hy]);have b2:=hb (Int.ofNat k,x) (by simp);rw[e']at e b1;have b1':((k':Nat):Int)<2147483648:=b1;have b2':((k:Nat):Int)<2147483648:=b2;dsimp only at e;rw[oZ (by omega),oZ (by omega)]at e;have:=Int.ofNat.inj e;omega
 |(.negSucc _,_)::_,_,h,_=>by simp[me,mf]at h
end
noncomputable def kj:Stmt:=aO pq.main.body 3
noncomputable def S7(k:Option Expr)(v:Expr):Ent:=(k.elim (0,0,default) (H2 (0,0,default) (fun ø ø ø=>(0,0,default)) (fun i n p=>(i,n,p)) (fun ø ø ø=>(0,0,default))),H2 (default,0,default) (fun ø ø ø=>(default,0,default)) (fun ø ø ø=>(default,0,default)) (fun x n p=>(x,n,p)) v)
noncomputable def Xn:List Ent:=(so kj).zipWith S7 (sq kj)
noncomputable def EM:List (Int×Str):=Xn.map fun d=>(d.1.1,d.2.1)
noncomputable def c0:List (Int×Str):=EM.take 17
noncomputable def cn(j:Nat):List (Int×Str):=(EM.drop (17*j)).take 17
noncomputable def cs:List (List (Int×Str)):=[cn 1,cn 2,cn 3,cn 4,cn 5,cn 6,cn 7,cn 8,cn 9,cn 10,cn 11,cn 12,cn 13,cn 14,cn 15,cn 16,cn 17,cn 18,cn 19,cn 20,cn 21,cn 22,cn 23,cn 24,cn 25,cn 26,cn 27,cn 28,cn 29,cn 30,cn 31,cn 32,cn 33,cn 34,cn 35,cn 36,cn 37]
noncomputable def cl:List (Int×Str):=EM.drop 646
noncomputable def rJ:Obj:=aR (ba 256 c0++gL 307 cs++gK 2194 cl) 650
noncomputable def yl:Obj:=aR (ba 307 (cn 1)) 17
noncomputable def ym:Obj:=aR (ba 358 (cn 2)) 17
noncomputable def yn:Obj:=aR (ba 409 (cn 3)) 17
noncomputable def yo:Obj:=aR (ba 460 (cn 4)) 17
noncomputable def uy:Obj:=aR (ba 511 (cn 5)) 17
noncomputable def uz:Obj:=aR (ba 562 (cn 6)) 17
noncomputable def uA:Obj:=aR (ba 613 (cn 7)) 17
noncomputable def yp:Obj:=aR (ba 664 (cn 8)) 17
noncomputable def yq:Obj:=aR (ba 715 (cn 9)) 17
noncomputable def yr:Obj:=aR (ba 766 (cn 10)) 17
noncomputable def yt:Obj:=aR (ba 817 (cn 11)) 17
noncomputable def yu:Obj:=aR (ba 868 (cn 12)) 17
noncomputable def yv:Obj:=aR (ba 919 (cn 13)) 17
noncomputable def yw:Obj:=aR (ba 970 (cn 14)) 17
noncomputable def yx:Obj:=aR (ba 1021 (cn 15)) 17
noncomputable def yy:Obj:=aR (ba 1072 (cn 16)) 17
noncomputable def yz:Obj:=aR (ba 1123 (cn 17)) 17
noncomputable def yA:Obj:=aR (ba 1174 (cn 18)) 17
noncomputable def yB:Obj:=aR (ba 1225 (cn 19)) 17
noncomputable def yC:Obj:=aR (ba 1276 (cn 20)) 17
noncomputable def yD:Obj:=aR (ba 1327 (cn 21)) 17
noncomputable def yE:Obj:=aR (ba 1378 (cn 22)) 17
noncomputable def yF:Obj:=aR (ba 1429 (cn 23)) 17
noncomputable def yG:Obj:=aR (ba 1480 (cn 24)) 17
noncomputable def yH:Obj:=aR (ba 1531 (cn 25)) 17
noncomputable def yI:Obj:=aR (ba 1582 (cn 26)) 17
noncomputable def yJ:Obj:=aR (ba 1633 (cn 27)) 17
noncomputable def yK:Obj:=aR (ba 1684 (cn 28)) 17
noncomputable def yL:Obj:=aR (ba 1735 (cn 29)) 17
noncomputable def yM:Obj:=aR (ba 1786 (cn 30)) 17
noncomputable def yN:Obj:=aR (ba 1837 (cn 31)) 17
noncomputable def yO:Obj:=aR (ba 1888 (cn 32)) 17
noncomputable def yP:Obj:=aR (ba 1939 (cn 33)) 17
noncomputable def yQ:Obj:=aR (ba 1990 (cn 34)) 17
noncomputable def yR:Obj:=aR (ba 2041 (cn 35)) 17
noncomputable def yS:Obj:=aR (ba 2092 (cn 36)) 17
noncomputable def yT:Obj:=aR (ba 2143 (cn 37)) 17
noncomputable def yU:Obj:=aR (gK 2194 cl) 4
noncomputable def S8(P:Params):Obj:=mO (.type "dict") (.dict #[(d0 P),(d1 P),(d2 P),(d3 P),(d4 P),(d5 P),(d6 P),(d7 P),(d8 P),(d9 P),(Pa P),(Rv P)] 12)
noncomputable def b4(P:Params):BT:=(.node (boot_o_7 P) (.node rC (.node rH (lf yM) .nil) (lf yw)) (.node px (.node uz (lf yU) .nil) (lf yE)))
noncomputable def b5:BT:=(.node aq (.node aq (.node ym (lf yQ) .nil) (lf yA)) (.node bb (lf yr) (lf yI)))
noncomputable def b6(P:Params):BT:=(.node (boot_o_5 P) (.node (boot_o_9 P) (.node un (.node rJ (lf yO) .nil) (lf yy)) (.node uo (lf yp) (lf yG))) (.node nM (.node rG (.node yo (lf yS) .nil) (lf yC)) (.node aq (lf yu) (lf yK))))
noncomputable def b7(P:Params):BT:=(.node (boot_o_2 P) (.node (boot_o_4 P) (.node (boot_o_8 P) (.node rD (.node l0 (lf yN) .nil) (lf yx)) (.node aq (lf uA) (lf yF))) (.node H3 (.node rF (.node yn (lf yR) .nil) (lf yB)) (.node uq (lf yt) (lf yJ)))) (.node (boot_o_6 P) (.node (boot_o_10 P) (.node rE (.node yl (lf yP) .nil) (lf yz)) (.node aq (lf yq) (lf yH))) (.node lZ (.node (iB P) (.node uy (lf yT) .nil) (lf yD)) (.node ur (lf yv) (lf yL)))))
noncomputable def S9(P:Params):BT:=(.node (boot_o_0 P) (.node (boot_o_1 P) (.node (S8 P) (b4 P) b5) (b6 P)) (b7 P))
noncomputable def FW(P:Params):BT:=(.node (boot_o_0 P) (.node (boot_o_1 P) (.node (NK P) (b4 P) b5) (b6 P)) (b7 P))
theorem h_2(w:World):(fun os=>segRunT treeTable pq w 11 (some (.ref 6)) 1 30 (SS Xl 26 249 w os) (piecesOf (seg 2 1) E cE ⟨2,0,2,6⟩ [topFrame fp]))=fun os=>some (.next,SS NL 33 256 w os,cE,⟨3,0,4,30⟩):=by
 rw[lG,jP]
 kernel_rfl!
theorem uB:EM=c0++(cs.flatten++cl):=by kernel_rfl!
theorem Xo:so kj=Xn.map kE:=by kernel_rfl!
theorem Xp:sq kj=Xn.map vE:=by kernel_rfl!
theorem Pf:ma 0 EM=true:=by kernel_rfl!
theorem Ig:(EM.all fun y=>y.1<2147483648)=true:=by kernel_rfl!
theorem AS:(hs c0++hs cs.flatten++hs cl).Nodup:=by
 have h:=xc Pf fun y hy=>by
  have:=cH.mp Ig y hy;simpa using this
 rw[uB]at h;simpa[hs]using h
theorem Pg:kj= .Assign (LR kj) (.Dict (so kj) (sq kj) (mT kj)) (C9 kj):=by kernel_rfl!
theorem LV:seg 3 1=[kj]:=by kernel_rfl!
theorem Ii(env:Env):swapsWithSole (LR kj) (.Dict (so kj) (sq kj) (mT kj)) (C9 kj).line E=pure false:=by kernel_rfl!
noncomputable def uC(v:Value):Sem Flow:=do assignStores E v (<-swappedStores (LR kj) (.Dict (so kj) (sq kj) (mT kj)) E) ((assignEach (LR kj) E).map (·.2))
theorem Xq(w:World):(fun os=>segRunT treeTable pq w 11 (some (.ref 6)) 1 8 (SS FW 72 2206 w os) ⟨(uC (.ref 33)).wrap doneF deadEnd id id,cE,mT kj,[topFrame fp]⟩)=fun os=>some (.next,SS S9 72 2207 w os,cE,⟨5,0,5,13⟩):=by
 rw[lG,jP]
 kernel_rfl!
theorem Xr(P:Params):hp (absHeap (NL P) 33 {}) (aR (ba 256 c0++gL 307 cs++gK 2194 cl) 650::oY 307 cs++[aR (gK 2194 cl) 4])=absHeap (FW P) 72 {}:=by kernel_rfl!
theorem Ph(P:Params):(absHeap (NL P) 33 {}).objs.size=33:=by kernel_rfl!
theorem Ij:cs.length=37:=by kernel_rfl!
theorem Dc:cl.length=4:=by kernel_rfl!
theorem Pi:c0.length=17:=by kernel_rfl!
theorem Pj:(cs.all fun l=>l.length==17)=true:=by kernel_rfl!
theorem h_8(w:World)(os:OsState){rest:List Stmt}{N:Nat}{r:Shared}
  (k:topRun treeTable pq w 11 (some (.ref 6)) N (SS S9 72 2207 w os).abs (restOf rest E cE ⟨5,0,5,13⟩ [topFrame fp])=some r):
  topRun treeTable pq w 11 (some (.ref 6)) (16000+N) (SS NL 33 256 w os).abs (restOf (seg 3 1++rest) E cE ⟨3,0,4,30⟩ [topFrame fp])=some r:=by
 rw[LV];unfold restOf;rw[tE,execs_cons_wrap];generalize hK:(fun f:Flow=>_)=K at*;have Ta:=Db (p:=pq) (w:=w) (n₀:=11) (ann:=some (.ref 6)) (c:=cE) (h:=absHeap (NL w.params) 33 {}) (g:= #[]) (dr:={}) (tk:=256) (os:=os) (pos:=mT kj) (q:=mT kj) c0 cs cl Pi (fun l hl=>by simpa using cH.mp Pj l hl) (by rw[Dc];decide) (by intro e;have:=Dc;rw[e]at this;cases this) AS (by rw[Ij];decide) (by rw[Ph];decide) (by rw[Ph];decide);rw[Ij,Dc,Ph,<-uB]at Ta;have hh:=Xr w.params;have hd:Ev treeTable pq w 11 (some (.ref 6)) cE (1+(400*37+1000)) (eval (.Dict (so kj) (sq kj) (mT kj)) E) (SS NL 33 256 w os).abs (C9 kj) (.ref 33) (SS FW 72 2206 w os).abs (mT kj):=by
  rw[arm_eval_Dict,Xo,Xp,Id];refine Ev.at (Ev.NM Ev.pure ?_);rw[show(SS FW 72 2206 w os).abs=⟨absHeap (FW w.params) 72 {},#[],{},2206,os⟩from rfl,<-hh];exact Ta
 have e8:exec kj E=(standAt (C9 kj)).bind fun ø=>(eval (.Dict (so kj) (sq kj) (mT kj)) E).bind uC:=by
  conv=>lhs;rw[Pg]
  rw[arm_exec_Assign,Ii E];rfl
 generalize hD:eval (.Dict (so kj) (sq kj) (mT kj)) E=D at*;have hE:(D.bind uC).wrap K (leaveH E) id id=D.wrap (fun v=>(uC v).wrap K (leaveH E) id id) (leaveH E) id id:=by rw[Sem.bind_eq_wrap,nu];rfl
 have hS:(exec kj E).wrap K (leaveH E) id id=(standAt (C9 kj)).wrap (fun ø=>(D.bind uC).wrap K (leaveH E) id id) (leaveH E) id id:=by rw[e8,Sem.bind_eq_wrap,nu];rfl
 rw[hS];have s1:l7 treeTable pq w 11 (some (.ref 6)) 1 (SS NL 33 256 w os).abs ⟨(standAt (C9 kj)).wrap (fun ø=>(D.bind uC).wrap K (leaveH E) id id) (leaveH E) id id,cE,⟨3,0,4,30⟩,[topFrame fp]⟩ (SS NL 33 256 w os).abs ⟨(D.bind uC).wrap K (leaveH E) id id,cE,C9 kj,[topFrame fp]⟩:=
  Ev.at (b:=0) Ev.pure (fun ø=>(D.bind uC).wrap K (leaveH E) id id) (leaveH E) id id (topFrame fp) []
 have s2:=hd (fun v=>(uC v).wrap K (leaveH E) id id) (leaveH E) id id (topFrame fp) [];rw[hE]at s1 ⊢;obtain⟨a,ha,s3⟩:=seg_top (res:=id) (K':=K) (H':=leaveH E) (gd:=id) (lv:=id) (B:=[topFrame fp]) rfl 8 (SS FW 72 2206 w os).abs ⟨(uC (.ref 33)).wrap doneF deadEnd id id,cE,mT kj,[topFrame fp]⟩ ⟨(uC (.ref 33)).wrap K (leaveH E) id id,cE,mT kj,[topFrame fp]⟩ _ _ _ _ ⟨rfl,rfl,.inl ⟨rfl,rfl,_,rfl,rfl⟩⟩ (lJ (congrFun (Xq w) os));obtain rfl:a= .next:=ha
 have s4:topRun treeTable pq w 11 (some (.ref 6)) N (SS S9 72 2207 w os).abs ⟨K .next,cE,⟨5,0,5,13⟩,[topFrame fp]⟩=some r:=by
  rw[<-hK];exact k
 have s5:=l7.mono (s1.trans s2) (Nat.le_of_ble_eq_true rfl:1+(1+(400*37+1000))<=15992) (8+N) r (s3 N r s4);rw[<-Nat.add_assoc]at s5;exact s5
noncomputable def Pl(P:Params):Obj:=mO (.type "dict") (.dict #[(Vl P),(d1 P),(d2 P),(d3 P),(d4 P),(d5 P),(d6 P),(d7 P),(d8 P),(d9 P),(Pa P),(Rv P),(SJ P),(SK P),(SM P),(SN P),(SO P)] 17)
noncomputable def LW:Obj:=mO .none (.fields #[(iv 3),(iv 0),(.ref 31),(iv 6),(iv 0),(.ref 77),(iv 12),(iv 0),(.ref 84),(iv 25),(iv 0),(.ref 91),(iv 43),(iv 0),(.ref 98),(iv 55),(iv 0),(.ref 105)])
noncomputable def yV:Obj:=mO (.type "tuple") (.seq #[(.str U4 2210),(.str ⟨#[114]⟩ 2211)] 0)
noncomputable def yW:Obj:=mO .none (fD s8 s8 (aO pq.main.body 4) 0 .none .none)
noncomputable def sW:Obj:=cO s8 2207 s8 2208 s3 2209 6 1 0 0 3 72 true 181 73 (.ref 74) (.ref 75) (.ref 76) 2212 6 s3 2213
noncomputable def mh:Obj:=mO (.type "function") (fD s8 s8 (aO pq.main.body 4) 3 (.str s1 187) (.ref 77))
noncomputable def yX:Obj:=mO (.type "tuple") (.seq #[(.str Op 2220),(.str RV 2221),(.str ⟨#[101,115,99,97,112,101]⟩ 2222),(.str Oq 2223)] 0)
noncomputable def yY:Obj:=mO .none (fD s9 s9 (aO pq.main.body 6) 0 .none .none)
noncomputable def sX:Obj:=cO s9 2217 s9 2218 s3 2219 12 1 0 0 35 79 true 181 80 (.ref 81) (.ref 82) (.ref 83) 2224 12 s3 2225
noncomputable def mi:Obj:=mO (.type "function") (fD s9 s9 (aO pq.main.body 6) 3 (.str Wa 2215) (.ref 84))
noncomputable def yZ:Obj:=mO (.type "tuple") (.seq #[(.str Op 2230),(.str Wb 2231),(.str YX 2232),(.str YY 2233),(.str RV 2234),(.str Oq 2235)] 0)
noncomputable def y0:Obj:=mO .none (fD Eh Eh (aO pq.main.body 7) 0 .none .none)
noncomputable def sY:Obj:=cO Eh 2227 Eh 2228 s3 2229 25 1 0 0 3 86 true 181 87 (.ref 88) (.ref 89) (.ref 90) 2236 25 s3 2237
noncomputable def qb:Obj:=mO (.type "function") (fD Eh Eh (aO pq.main.body 7) 3 (.str Wa 2215) (.ref 91))
noncomputable def LX:Obj:=mO (.type "tuple") (.seq #[(.str Op 2242),(.str ⟨#[111,112,101,110,115]⟩ 2243),(.str RV 2244),(.str Oq 2245)] 0)
noncomputable def LY:Obj:=mO .none (fD G6 G6 (aO pq.main.body 8) 0 .none .none)
noncomputable def EN:Obj:=cO G6 2239 G6 2240 s3 2241 43 1 0 0 3 93 true 181 94 (.ref 95) (.ref 96) (.ref 97) 2246 43 s3 2247
noncomputable def qc:Obj:=mO (.type "function") (fD G6 G6 (aO pq.main.body 8) 3 (.str Wa 2215) (.ref 98))
noncomputable def Ik:Obj:=mO (.type "builtin_function_or_method") (.fields #[(.builtin "type.__prepare__"),(.type "type")])
noncomputable def AT(P:Params):Obj:=mO (.type "dict") (.dict #[(Zk P),(dE P ⟨#[95,95,113,117,97,108,110,97,109,101,95,95]⟩ 2260 (.str CH 2259)),(Zl P),(Zm P),(Zn P),(Zo P),(Zp P),(Zq P),(Zr P),(Zs P),(Zt P),(Zu P),(Zv P)] 13)
noncomputable def AU:Obj:=mO .none (.fields #[(iv 58),(iv 4),(.ref 115),(iv 81),(iv 4),(.ref 122),(iv 85),(iv 4),(.ref 129),(iv 92),(iv 4),(.ref 136),(iv 95),(iv 4),(.ref 143),(iv 103),(iv 4),(.ref 150),(iv 114),(iv 4),(.ref 157)])
noncomputable def uD:Obj:=cO CH 2253 CH 2254 s3 2255 55 0 0 0 0 103 false 181 104 .none .none .none 2256 55 s3 2257
noncomputable def uE:Obj:={cls:=(.type "frame"),dict:=none,data:=.plain,slots:= #[(some (.ref 105)),(some (.ref 3)),(some (.ref 102)),none,(some (.str s7 2249)),none,(some (.ref 0))]}
noncomputable def uF:Obj:=mO (.type "str_ascii_iterator") (.fields #[.none,(iv 2)])
noncomputable def uG:Obj:=mO (.type "StopIteration") (.fields #[(.ref 108),.none,.none,.none,(.bool false),.none])
noncomputable def uH:Obj:=mO (.type "tuple") (.seq #[(.str wd 2271),(.str ⟨#[119,115]⟩ 2272),(.str RT 2273),(.str RU 2274),(.str Rf 2275),(.str ⟨#[98]⟩ 2276),(.str Le 2277),(.str ⟨#[110,116]⟩ 2278),(.str Oq 2279)] 0)
noncomputable def uI:Obj:=mO .none (fD U2 Wc (aO (dX (aO pq.main.body 10)) 1) 0 .none .none)
noncomputable def qe:Obj:=cO U2 2268 Wc 2269 s3 2270 58 2 0 0 3 110 true 181 111 (.ref 112) (.ref 113) (.ref 114) 2280 58 s3 2281
noncomputable def ig:Obj:=mO (.type "function") (fD U2 Wc (aO (dX (aO pq.main.body 10)) 1) 3 (.str s7 2249) (.ref 115))
noncomputable def uJ:Obj:=mO (.type "tuple") (.seq #[(.str wd 2286),(.str Rf 2287),(.str U5 2288)] 0)
noncomputable def uK:Obj:=mO .none (fD G7 Wd (aO (dX (aO pq.main.body 10)) 2) 0 .none .none)
noncomputable def qf:Obj:=cO G7 2283 Wd 2284 s3 2285 81 1 0 0 3 117 true 181 118 (.ref 119) (.ref 120) (.ref 121) 2289 81 s3 2290
noncomputable def js:Obj:=mO (.type "function") (fD G7 Wd (aO (dX (aO pq.main.body 10)) 2) 3 (.str s7 2249) (.ref 122))
noncomputable def uL:Obj:=mO (.type "tuple") (.seq #[(.str wd 2295),(.str We 2296),(.str Rf 2297),(.str U5 2298),(.str ⟨#[105,108]⟩ 2299),(.str ⟨#[105]⟩ 2300)] 0)
noncomputable def uM:Obj:=mO .none (fD Ei Wf (aO (dX (aO pq.main.body 10)) 3) 0 .none .none)
noncomputable def qg:Obj:=cO Ei 2292 Wf 2293 s3 2294 85 2 0 0 3 124 true 181 125 (.ref 126) (.ref 127) (.ref 128) 2301 85 s3 2302
noncomputable def jt:Obj:=mO (.type "function") (fD Ei Wf (aO (dX (aO pq.main.body 10)) 3) 3 (.str s7 2249) (.ref 129))
noncomputable def uN:Obj:=mO (.type "tuple") (.seq #[(.str wd 2307),(.str Fs 2308)] 0)
noncomputable def uO:Obj:=mO .none (fD Nl Wg (aO (dX (aO pq.main.body 10)) 4) 0 .none .none)
noncomputable def qh:Obj:=cO Nl 2304 Wg 2305 s3 2306 92 2 0 0 3 131 true 181 132 (.ref 133) (.ref 134) (.ref 135) 2309 92 s3 2310
noncomputable def ju:Obj:=mO (.type "function") (fD Nl Wg (aO (dX (aO pq.main.body 10)) 4) 3 (.str s7 2249) (.ref 136))
noncomputable def uP:Obj:=mO (.type "tuple") (.seq #[(.str wd 2315),(.str Fs 2316),(.str Le 2317),(.str ⟨#[97]⟩ 2318),(.str Rg 2319)] 0)
noncomputable def uQ:Obj:=mO .none (fD Nm Wh (aO (dX (aO pq.main.body 10)) 5) 0 .none .none)
noncomputable def qj:Obj:=cO Nm 2312 Wh 2313 s3 2314 95 2 0 0 3 138 true 181 139 (.ref 140) (.ref 141) (.ref 142) 2320 95 s3 2321
noncomputable def jw:Obj:=mO (.type "function") (fD Nm Wh (aO (dX (aO pq.main.body 10)) 5) 3 (.str s7 2249) (.ref 143))
noncomputable def uR:Obj:=mO (.type "tuple") (.seq #[(.str wd 2326),(.str Fs 2327),(.str Le 2328),(.str Rg 2329)] 0)
noncomputable def uS:Obj:=mO .none (fD Nn Wi (aO (dX (aO pq.main.body 10)) 6) 0 .none .none)
noncomputable def qk:Obj:=cO Nn 2323 Wi 2324 s3 2325 103 2 0 0 3 145 true 181 146 (.ref 147) (.ref 148) (.ref 149) 2330 103 s3 2331
noncomputable def jx:Obj:=mO (.type "function") (fD Nn Wi (aO (dX (aO pq.main.body 10)) 6) 3 (.str s7 2249) (.ref 150))
noncomputable def uT:Obj:=mO (.type "tuple") (.seq #[(.str wd 2336),(.str Fs 2337),(.str Le 2338),(.str ⟨#[97]⟩ 2339),(.str Rg 2340)] 0)
noncomputable def Il:Obj:=mO .none (fD No Wj (aO (dX (aO pq.main.body 10)) 7) 0 .none .none)
noncomputable def AV:Obj:=cO No 2333 Wj 2334 s3 2335 114 2 0 0 3 152 true 181 153 (.ref 154) (.ref 155) (.ref 156) 2341 114 s3 2342
noncomputable def nN:Obj:=mO (.type "function") (fD No Wj (aO (dX (aO pq.main.body 10)) 7) 3 (.str s7 2249) (.ref 157))
noncomputable def Im:Obj:=mO (.type "tuple") (.seq #[(.str ⟨#[105,115,95,115,105,109,112,108,101]⟩ 2344),(.str Le 2345),(.str ⟨#[110,111,114,109]⟩ 2346),(.str ⟨#[110,116]⟩ 2347),(.str ⟨#[114,97,119]⟩ 2348)] 0)
noncomputable def ii(P:Params):Obj:=mO (.type "dict") (.dict #[(Zk P),(Zl P),(Zm P),(Zn P),(Zo P),(Zp P),(Zq P),(Zr P),(Zs P),(Zt P),(Zu P),(Zv P),(dE P YZ 2351 (.ref 162)),(dE P Y0 2353 (.ref 163)),(dE P s2 2354 .none)] 4)
noncomputable def uU:Obj:={cls:=(.type "type"),dict:=none,data:=(.cls {name:=CH,bases:=[(.type "object")],mro:=[(.ref 161),(.type "object")],ns:=160,qualname:=CH,hasDict:=true,slotNames:=[],subclasses:=[],abstract:=false,collection:=none,hasDel:=false}),slots:= #[none,none,(some (.str CH 2251)),(some (.str CH 2259)),(some (.builtin "object.__new__")),(some (.bool true))]}
noncomputable def Io:Obj:=mO (.type "getset_descriptor") (.fields #[(.str YZ 2350),(.ref 161),(.builtin "function.__dict__"),(.builtin "function.__dict__#set")])
noncomputable def Ip:Obj:=mO (.type "getset_descriptor") (.fields #[(.str Y0 2352),(.ref 161),(.builtin "ExceptionGroup.__weakref__"),.none])
noncomputable def Iq:Obj:=mO (.type "super") (.fields #[(.ref 161),(.ref 161),(.ref 161)])
noncomputable def Ir:Obj:=mO (.type "builtin_function_or_method") (.fields #[(.builtin "object.__init_subclass__"),(.ref 161)])
noncomputable def b8:BT:=(.node LX (lf Im) .nil)
noncomputable def b9:BT:=(.node rC (.node rH (.node yM (lf aq) .nil) b8) (.node yw (.node aq (lf qj) .nil) (lf bb)))
noncomputable def ZV:BT:=(.node yU (lf uO) .nil)
noncomputable def ZW:BT:=(.node yE (.node bb (lf jx) .nil) (lf uJ))
noncomputable def Xs(P:Params):BT:=(.node (boot_o_7 P) b9 (.node px (.node uz ZV (lf aq)) ZW))
noncomputable def Xu:BT:=(.node qc (lf Ip) .nil)
noncomputable def Xv:BT:=(.node aq (lf bb) .nil)
noncomputable def VL:BT:=(.node aq (.node aq (.node ym (.node yQ (lf aq) .nil) Xu) (.node yA (.node yY (lf uR) .nil) (lf qe))) (.node bb (.node yr Xv (lf uF)) (.node yI (.node sY (lf aq) .nil) (lf js))))
noncomputable def Xw:BT:=(.node LY (lf uU) .nil)
noncomputable def Xx:BT:=(.node Ik (lf Ir) .nil)
noncomputable def Xy:BT:=(.node aq (lf AV) .nil)
noncomputable def VM(P:Params):BT:=(.node (boot_o_5 P) (.node (boot_o_9 P) (.node un (.node rJ (.node yO (lf qg) .nil) Xw) (.node yy (.node yX (lf aq) .nil) (lf aq))) (.node uo (.node yp (.node bb (lf ju) .nil) (lf uD)) (.node yG Xv (lf uK)))) (.node nM (.node rG (.node yo (.node yS (lf uN) .nil) Xx) (.node yC (.node mi (lf uS) .nil) (lf aq))) (.node aq (.node yu (.node sW (lf aq) .nil) (lf uG)) (.node yK Xy (lf bb)))))
noncomputable def Xz(P:Params):BT:=(.node aq (lf (ii P)) .nil)
noncomputable def ZX(P:Params):BT:=(.node rD (.node l0 (.node yN (lf uM) .nil) (Xz P)) (.node yx (.node bb (lf jw) .nil) (lf uH)))
noncomputable def ZY:BT:=(.node aq (lf qh) .nil)
noncomputable def ZZ:BT:=(.node yF (.node yZ (lf aq) .nil) (lf aq))
noncomputable def XA:BT:=(.node aq (lf Iq) .nil)
noncomputable def XB:BT:=(.node qb (lf Il) .nil)
noncomputable def Z0:BT:=(.node LW (.node rF (.node yn (.node yR (lf bb) .nil) XA) (.node yB (.node sX (lf aq) .nil) (lf ig))) (.node uq (.node yt (.node yW (lf uP) .nil) (lf aq)) (.node yJ XB (lf aq))))
noncomputable def XC:BT:=(.node EN (lf Io) .nil)
noncomputable def Z1(P:Params):BT:=(.node (boot_o_10 P) (.node rE (.node yl (.node yP (lf jt) .nil) XC) (.node yz Xv (lf uI))) (.node aq (.node yq (.node yV (lf aq) .nil) (lf uE)) (.node yH (.node y0 (lf uT) .nil) (lf qf))))
noncomputable def Z2:BT:=(.node yT (lf aq) .nil)
noncomputable def Z3:BT:=(.node yD (.node aq (lf qk) .nil) (lf bb))
noncomputable def XD:BT:=(.node bb (lf nN) .nil)
noncomputable def Z4:BT:=(.node ur (.node yv (.node mh (lf uQ) .nil) (lf aq)) (.node yL XD (lf uL)))
noncomputable def XE(P:Params):BT:=(.node (boot_o_2 P) (.node (boot_o_4 P) (.node (boot_o_8 P) (ZX P) (.node aq (.node uA ZY (lf AU)) ZZ)) Z0) (.node (boot_o_6 P) (Z1 P) (.node lZ (.node (iB P) (.node uy Z2 (lf (AT P))) Z3) Z4)))
noncomputable def Pm(P:Params):BT:=(.node (boot_o_0 P) (.node (boot_o_1 P) (.node (Pl P) (Xs P) VL) (VM P)) (XE P))
noncomputable def Pn(P:Params):Obj:=mO (.type "dict") (.dict #[(Vl P),(d1 P),(d2 P),(d3 P),(d4 P),(d5 P),(d6 P),(d7 P),(d8 P),(d9 P),(Pa P),(Rv P),(SJ P),(SK P),(SM P),(SN P),(SO P),(Vm P),(Vn P),(Vo P),(Vp P),(Vq P),(Vr P),(Vs P),(Vt P),(Vu P),(Vv P),(Vw P),(Vx P),(Vy P),(Vz P),(VA P),(VB P),(VC P),(VD P),(VE P),(VF P),(VG P),(VH P),(VI P),(VJ P)] 41)
noncomputable def Tb(P:Params):BT:=(.node (boot_o_0 P) (.node (boot_o_1 P) (.node (Pn P) (Xs P) VL) (VM P)) (XE P))
noncomputable def Po(P:Params):Obj:=mO (.type "dict") (.dict #[(Vl P),(d1 P),(d2 P),(d3 P),(d4 P),(d5 P),(d6 P),(d7 P),(d8 P),(d9 P),(Pa P),(Rv P),(SJ P),(SK P),(SM P),(SN P),(SO P),(Vm P),(Vn P),(Vo P),(Vp P),(Vq P),(Vr P),(Vs P),(Vt P),(Vu P),(Vv P),(Vw P),(Vx P),(Vy P),(Vz P),(VA P),(VB P),(VC P),(VD P),(VE P),(VF P),(VG P),(VH P),(VI P),(VJ P),(WV P),(WW P),(WY P),(WZ P),(W0 P),(W1 P),(W2 P),(W3 P),(W4 P),(W5 P),(W6 P),(W7 P),(W8 P),(W9 P),(Xa P),(Xb P),(Xc P),(Xd P),(Xe P),(Xf P),(Xg P),(Xh P),(Xi P),(Xj P)] 65)
noncomputable def Pq(P:Params):BT:=(.node (boot_o_0 P) (.node (boot_o_1 P) (.node (Po P) (Xs P) VL) (VM P)) (XE P))
noncomputable def Pr(P:Params):Obj:=mO (.type "dict") (.dict #[(Vl P),(d1 P),(d2 P),(d3 P),(d4 P),(d5 P),(d6 P),(d7 P),(d8 P),(d9 P),(Pa P),(Rv P),(SJ P),(SK P),(SM P),(SN P),(SO P),(Vm P),(Vn P),(Vo P),(Vp P),(Vq P),(Vr P),(Vs P),(Vt P),(Vu P),(Vv P),(Vw P),(Vx P),(Vy P),(Vz P),(VA P),(VB P),(VC P),(VD P),(VE P),(VF P),(VG P),(VH P),(VI P),(VJ P),(WV P),(WW P),(WY P),(WZ P),(W0 P),(W1 P),(W2 P),(W3 P),(W4 P),(W5 P),(W6 P),(W7 P),(W8 P),(W9 P),(Xa P),(Xb P),(Xc P),(Xd P),(Xe P),(Xf P),(Xg P),(Xh P),(Xi P),(Xj P),(Zw P)] 66)
noncomputable def e7(P:Params):Obj:=mO (.type "dict") (.dict #[(dE P ⟨#[33]⟩ 2453 (.int (54) 2451)),(dE P ⟨#[33,61]⟩ 2455 (.int (28) 2399)),(dE P ⟨#[37]⟩ 2457 (.int (24) 2391)),(dE P ⟨#[37,61]⟩ 2459 (.int (40) 2423)),(dE P ⟨#[38]⟩ 2461 (.int (19) 2381)),(dE P ⟨#[38,61]⟩ 2463 (.int (41) 2425)),(dE P ⟨#[40]⟩ 2465 (.int (7) 2357)),(dE P ⟨#[41]⟩ 2467 (.int (8) 2359)),(dE P ⟨#[42]⟩ 2469 (.int (16) 2375)),(dE P ⟨#[42,42]⟩ 2471 (.int (35) 2413)),(dE P ⟨#[42,42,61]⟩ 2473 (.int (46) 2435)),(dE P ⟨#[42,61]⟩ 2475 (.int (38) 2419)),(dE P ⟨#[43]⟩ 2477 (.int (14) 2371)),(dE P ⟨#[43,61]⟩ 2479 (.int (36) 2415)),(dE P ⟨#[44]⟩ 2481 (.int (12) 2367)),(dE P ⟨#[45]⟩ 2483 (.int (15) 2373)),(dE P ⟨#[45,61]⟩ 2485 (.int (37) 2417)),(Zx P),(Zy P),(Zz P),(ZA P),(ZB P),(ZC P),(ZD P),(ZE P),(ZF P),(ZG P),(ZH P),(ZI P),(ZJ P),(ZK P),(ZL P),(ZM P),(ZN P),(ZO P),(ZP P),(ZQ P),(ZR P),(SQ P),(SR P),(ST P),(SU P),(SV P),(SW P),(SX P),(SY P),(SZ P),(S2 P)] 48)
noncomputable def It(P:Params):Obj:=mO (.type "dict") (.dict #[(Zx P),(Zy P),(Zz P),(ZA P),(ZB P),(ZC P),(ZD P),(ZE P),(ZF P),(ZG P),(ZH P),(ZI P),(ZJ P),(ZK P),(ZL P),(ZM P),(ZN P)] 17)
noncomputable def Iu(P:Params):Obj:=mO (.type "dict") (.dict #[(ZO P),(ZP P),(ZQ P),(ZR P),(SQ P),(SR P),(ST P),(SU P),(SV P),(SW P),(SX P),(SY P),(SZ P),(S2 P)] 14)
noncomputable def XF(P:Params):BT:=(.node aq (lf (It P)) .nil)
noncomputable def XG(P:Params):BT:=(.node AU (lf (Iu P)) .nil)
noncomputable def XH(P:Params):BT:=(.node (AT P) (lf (e7 P)) .nil)
noncomputable def Ps(P:Params):BT:=(.node (boot_o_0 P) (.node (boot_o_1 P) (.node (Pr P) (.node (boot_o_7 P) b9 (.node px (.node uz ZV (XF P)) ZW)) VL) (VM P)) (.node (boot_o_2 P) (.node (boot_o_4 P) (.node (boot_o_8 P) (ZX P) (.node aq (.node uA ZY (XG P)) ZZ)) Z0) (.node (boot_o_6 P) (Z1 P) (.node lZ (.node (iB P) (.node uy Z2 (XH P)) Z3) Z4))))
noncomputable def nO(P:Params):Obj:=mO (.type "dict") (.dict #[(dE P s0 165 (.str KU 2550)),(d1 P),(d2 P),(d3 P),(d4 P),(d5 P),(d6 P),(d7 P),(d8 P),(d9 P),(Pa P),(Rv P),(SJ P),(SK P),(SM P),(SN P),(SO P),(Vm P),(Vn P),(Vo P),(Vp P),(Vq P),(Vr P),(Vs P),(Vt P),(Vu P),(Vv P),(Vw P),(Vx P),(Vy P),(Vz P),(VA P),(VB P),(VC P),(VD P),(VE P),(VF P),(VG P),(VH P),(VI P),(VJ P),(WV P),(WW P),(WY P),(WZ P),(W0 P),(W1 P),(W2 P),(W3 P),(W4 P),(W5 P),(W6 P),(W7 P),(W8 P),(W9 P),(Xa P),(Xb P),(Xc P),(Xd P),(Xe P),(Xf P),(Xg P),(Xh P),(Xi P),(Xj P),(Zw P),(dE P KV 2557 (.ref 173)),(dE P G8 2566 (.ref 180)),(dE P KW 2572 (.ref 185)),(dE P KX 2585 (.ref 192)),(dE P KY 2599 (.ref 199)),(dE P KZ 2605 (.ref 204)),(dE P K0 2611 (.ref 209)),(dE P K2 2617 (.ref 214)),(dE P Os 2623 (.ref 219))] 75)
noncomputable def EO:Obj:=mO .none (.fields #[(iv 3),(iv 0),(.ref 31),(iv 6),(iv 0),(.ref 77),(iv 12),(iv 0),(.ref 84),(iv 25),(iv 0),(.ref 91),(iv 43),(iv 0),(.ref 98),(iv 55),(iv 0),(.ref 105),(iv 171),(iv 0),(.ref 172),(iv 185),(iv 0),(.ref 179),(iv 189),(iv 0),(.ref 184),(iv 198),(iv 0),(.ref 191),(iv 209),(iv 0),(.ref 198),(iv 224),(iv 0),(.ref 203),(iv 235),(iv 0),(.ref 208),(iv 244),(iv 0),(.ref 213),(iv 257),(iv 0),(.ref 218)])
noncomputable def AW:Obj:=mO .none (fD KV KV (aO pq.main.body 61) 0 .none .none)
noncomputable def uV:Obj:=cO KV 2552 KV 2553 s3 2554 171 1 0 0 3 169 true 181 170 .none .none (.ref 171) 2555 171 s3 2556
noncomputable def kW:Obj:=mO (.type "function") (fD KV KV (aO pq.main.body 61) 3 (.str KU 2550) (.ref 172))
noncomputable def AX:Obj:=mO (.type "tuple") (.seq #[(.str Lg 2561),(.str ⟨#[101,100,103,101,115]⟩ 2562),(.str Y1 2563)] 0)
noncomputable def AY:Obj:=mO .none (fD G8 G8 (aO pq.main.body 62) 0 .none .none)
noncomputable def uW:Obj:=cO G8 2558 G8 2559 s3 2560 185 1 0 0 3 174 true 181 175 (.ref 176) (.ref 177) (.ref 178) 2564 185 s3 2565
noncomputable def kX:Obj:=mO (.type "function") (fD G8 G8 (aO pq.main.body 62) 3 (.str KU 2550) (.ref 179))
noncomputable def AZ:Obj:=mO .none (fD KW KW (aO pq.main.body 63) 0 .none .none)
noncomputable def uX:Obj:=cO KW 2567 KW 2568 s3 2569 189 3 0 0 3 181 true 181 182 .none .none (.ref 183) 2570 189 s3 2571
noncomputable def kY:Obj:=mO (.type "function") (fD KW KW (aO pq.main.body 63) 3 (.str KU 2550) (.ref 184))
noncomputable def A0:Obj:=mO (.type "tuple") (.seq #[(.str K3 2576),(.str Lg 2577),(.str RX 2578),(.str RY 2579),(.str Rh 2580),(.str Ot 2581),(.str Y2 2582)] 0)
noncomputable def A1:Obj:=mO .none (fD KX KX (aO pq.main.body 64) 0 .none .none)
noncomputable def uY:Obj:=cO KX 2573 KX 2574 s3 2575 198 2 0 0 3 186 true 181 187 (.ref 188) (.ref 189) (.ref 190) 2583 198 s3 2584
noncomputable def kZ:Obj:=mO (.type "function") (fD KX KX (aO pq.main.body 64) 3 (.str KU 2550) (.ref 191))
noncomputable def A2:Obj:=mO (.type "tuple") (.seq #[(.str RX 2589),(.str ⟨#[108,101,102,116]⟩ 2590),(.str G9 2591),(.str Ha 2592),(.str Wk 2593),(.str RZ 2594),(.str ⟨#[117,110,105,116]⟩ 2595),(.str Wl 2596)] 0)
noncomputable def A3:Obj:=mO .none (fD KY KY (aO pq.main.body 65) 0 .none .none)
noncomputable def uZ:Obj:=cO KY 2586 KY 2587 s3 2588 209 1 0 0 3 193 true 181 194 (.ref 195) (.ref 196) (.ref 197) 2597 209 s3 2598
noncomputable def la:Obj:=mO (.type "function") (fD KY KY (aO pq.main.body 65) 3 (.str KU 2550) (.ref 198))
noncomputable def A4:Obj:=mO .none (fD KZ KZ (aO pq.main.body 66) 0 .none .none)
noncomputable def u0:Obj:=cO KZ 2600 KZ 2601 s3 2602 224 1 0 0 3 200 true 181 201 .none .none (.ref 202) 2603 224 s3 2604
noncomputable def lb:Obj:=mO (.type "function") (fD KZ KZ (aO pq.main.body 66) 3 (.str KU 2550) (.ref 203))
noncomputable def A5:Obj:=mO .none (fD K0 K0 (aO pq.main.body 67) 0 .none .none)
noncomputable def u3:Obj:=cO K0 2606 K0 2607 s3 2608 235 3 0 0 3 205 true 181 206 .none .none (.ref 207) 2609 235 s3 2610
noncomputable def ld:Obj:=mO (.type "function") (fD K0 K0 (aO pq.main.body 67) 3 (.str KU 2550) (.ref 208))
noncomputable def A6:Obj:=mO .none (fD K2 K2 (aO pq.main.body 68) 0 .none .none)
noncomputable def u4:Obj:=cO K2 2612 K2 2613 s3 2614 244 2 0 0 3 210 true 181 211 .none .none (.ref 212) 2615 244 s3 2616
noncomputable def jy:Obj:=mO (.type "function") (fD K2 K2 (aO pq.main.body 68) 3 (.str KU 2550) (.ref 213))
noncomputable def A7:Obj:=mO .none (fD Os Os (aO pq.main.body 69) 0 .none .none)
noncomputable def A8:Obj:=cO Os 2618 Os 2619 s3 2620 257 1 0 0 3 215 true 181 216 .none .none (.ref 217) 2621 257 s3 2622
noncomputable def A9:Obj:=mO (.type "function") (fD Os Os (aO pq.main.body 69) 3 (.str KU 2550) (.ref 218))
noncomputable def VN:BT:=(.node bb (lf bb) .nil)
noncomputable def Tc(P:Params):BT:=(.node (boot_o_0 P) (.node (boot_o_1 P) (.node (nO P) (.node (boot_o_7 P) (.node rC (.node rH (.node yM (lf aq) (lf uY)) b8) (.node yw (.node aq (lf qj) (lf A5)) VN)) (.node px (.node uz (.node yU (lf uO) (lf la)) (XF P)) (.node yE (.node bb (lf jx) (lf aq)) (.node uJ (lf AZ) .nil)))) (.node aq (.node aq (.node ym (.node yQ (lf aq) (lf A2)) Xu) (.node yA (.node yY (lf uR) (lf bb)) (.node qe (lf uW) .nil))) (.node bb (.node yr (.node aq (lf bb) (lf u0)) (.node uF (lf AW) .nil)) (.node yI (.node sY (lf aq) (lf A9)) (.node js (lf bb) .nil))))) (.node (boot_o_5 P) (.node (boot_o_9 P) (.node un (.node rJ (.node yO (lf qg) (lf aq)) Xw) (.node yy (.node yX (lf aq) (lf ld)) b2)) (.node uo (.node yp (.node bb (lf ju) (lf bb)) (.node uD (lf aq) .nil)) (.node yG (.node aq (lf bb) (lf A7)) (.node uK (lf kY) .nil)))) (.node nM (.node rG (.node yo (.node yS (lf uN) (lf A3)) Xx) (.node yC (.node mi (lf uS) (lf u4)) b2)) (.node aq (.node yu (.node sW (lf aq) (lf aq)) (.node uG (lf kW) .nil)) (.node yK Xy (.node bb (lf aq) .nil)))))) (.node (boot_o_2 P) (.node (boot_o_4 P) (.node (boot_o_8 P) (.node rD (.node l0 (.node yN (lf uM) (lf kZ)) (Xz P)) (.node yx (.node bb (lf jw) (lf u3)) (.node uH (lf AX) .nil))) (.node aq (.node uA (.node aq (lf qh) (lf aq)) (XG P)) (.node yF (.node yZ (lf aq) (lf bb)) (.node aq (lf uX) .nil)))) (.node EO (.node rF (.node yn (.node yR (lf bb) (lf aq)) XA) (.node yB (.node sX (lf aq) (lf A6)) (.node ig (lf kX) .nil))) (.node uq (.node yt (.node yW (lf uP) (lf lb)) (.node aq (lf uV) .nil)) (.node yJ XB (.node aq (lf A0) .nil))))) (.node (boot_o_6 P) (.node (boot_o_10 P) (.node rE (.node yl (.node yP (lf jt) (lf bb)) XC) (.node yz (.node aq (lf bb) (lf aq)) (.node uI (lf AY) .nil))) (.node aq (.node yq (.node yV (lf aq) (lf A4)) (.node uE (lf bb) .nil)) (.node yH (.node y0 (lf uT) (lf A8)) (.node qf (lf aq) .nil)))) (.node lZ (.node (iB P) (.node uy (.node yT (lf aq) (lf uZ)) (XH P)) (.node yD (.node aq (lf qk) (lf jy)) VN)) (.node ur (.node yv (.node mh (lf uQ) (lf bb)) b2) (.node yL XD (.node uL (lf A1) .nil)))))))
noncomputable def Rz(P:Params):BT:=(.node (boot_o_0 P) (.node (boot_o_1 P) (.node (nO P) (.node (boot_o_7 P) (.node rC (.node rH (.node yM (lf aq) (lf uY)) b8) (.node yw (.node aq (lf qj) (lf A5)) VN)) (.node px (.node uz (.node yU (lf uO) (lf la)) (XF P)) (.node yE (.node bb (lf jx) (lf aq)) (.node uJ (lf AZ) .nil)))) (.node aq (.node aq (.node ym (.node yQ (lf aq) (lf A2)) Xu) (.node yA (.node yY (lf uR) (lf bb)) (.node qe (lf uW) .nil))) (.node bb (.node yr (.node aq (lf bb) (lf u0)) (.node uF (lf AW) .nil)) (.node yI (.node sY (lf aq) (lf A9)) (.node js (lf bb) .nil))))) (.node (boot_o_5 P) (.node (boot_o_9 P) (.node un (.node rJ (.node yO (lf qg) (lf aq)) Xw) (.node yy (.node yX (lf aq) (lf ld)) b2)) (.node uo (.node yp (.node bb (lf ju) (lf bb)) (.node uD (lf aq) .nil)) (.node yG (.node aq (lf bb) (lf A7)) (.node uK (lf kY) .nil)))) (.node nM (.node rG (.node yo (.node yS (lf uN) (lf A3)) Xx) (.node yC (.node mi (lf uS) (lf u4)) b2)) (.node aq (.node yu (.node sW (lf aq) (lf aq)) (.node uG (lf kW) .nil)) (.node yK Xy (.node bb (lf aq) .nil)))))) (.node (boot_o_2 P) (.node (boot_o_4 P) (.node (boot_o_8 P) (.node rD (.node l0 (.node yN (lf uM) (lf kZ)) (Xz P)) (.node yx (.node bb (lf jw) (lf u3)) (.node uH (lf AX) .nil))) (.node aq (.node uA (.node aq (lf qh) (lf aq)) (XG P)) (.node yF (.node yZ (lf aq) (lf bb)) (.node aq (lf uX) .nil)))) (.node EO (.node rF (.node yn (.node yR (lf bb) (lf aq)) XA) (.node yB (.node sX (lf aq) (lf A6)) (.node ig (lf kX) .nil))) (.node uq (.node yt (.node yW (lf uP) (lf lb)) (.node aq (lf uV) .nil)) (.node yJ XB (.node aq (lf A0) .nil))))) (.node (boot_o_6 P) (.node (boot_o_10 P) (.node rE (.node yl (.node yP (lf jt) (lf bb)) XC) (.node yz (.node aq (lf bb) (lf aq)) (.node uI (lf AY) .nil))) (.node aq (.node yq (.node yV (lf aq) (lf A4)) (.node uE (lf bb) .nil)) (.node yH (.node y0 (lf uT) (lf A8)) (.node qf (lf aq) .nil)))) (.node lZ (.node (iB P) (.node uy (.node yT (lf aq) (lf uZ)) (XH P)) (.node yD (.node aq (lf qk) (lf jy)) VN)) (.node ur (.node yv (.node mh (lf uQ) (lf bb)) b2) (.node yL XD (.node uL (lf A1) .nil)))))))
theorem XI(w:World):(fun os=>segRunT treeTable pq w 11 (some (.ref 6)) 1 700 (SS S9 72 2207 w os) (piecesOf (seg 4 7) E cE ⟨5,0,5,13⟩ [topFrame fp]))=fun os=>some (.next,SS Pm 166 2357 w os,cE,⟨55,0,120,16⟩):=by
 refine byRow2 "special-get-raises" (P:=fun w=>(fun os=>segRunT treeTable pq w 11 (some (.ref 6)) 1 700 (SS S9 72 2207 w os) (piecesOf (seg 4 7) E cE ⟨5,0,5,13⟩ [topFrame fp]))=fun os=>some (.next,SS Pm 166 2357 w os,cE,⟨55,0,120,16⟩)) ?_ ?_ w<;>clear w<;>intro w
 all_goals rw[lG,jP]
 all_goals kernel_rfl!
theorem XJ(w:World):(fun os=>segRunT treeTable pq w 11 (some (.ref 6)) 1 217 (SS Pm 166 2357 w os) (piecesOf (seg 11 24) E cE ⟨55,0,120,16⟩ [topFrame fp]))=fun os=>some (.next,SS Tb 166 2405 w os,cE,⟨144,0,144,12⟩):=by
 rw[lG,jP]
 kernel_rfl!
theorem XK(w:World):(fun os=>segRunT treeTable pq w 11 (some (.ref 6)) 1 217 (SS Tb 166 2405 w os) (piecesOf (seg 35 24) E cE ⟨144,0,144,12⟩ [topFrame fp]))=fun os=>some (.next,SS Pq 166 2453 w os,cE,⟨168,0,168,11⟩):=by
 rw[lG,jP]
 kernel_rfl!
theorem XL(w:World):(fun os=>segRunT treeTable pq w 11 (some (.ref 6)) 1 979 (SS Pq 166 2453 w os) (piecesOf (seg 59 1) E cE ⟨168,0,168,11⟩ [topFrame fp]))=fun os=>some (.next,SS Ps 169 2550 w os,cE,⟨169,0,169,17⟩):=by
 refine byRow2 "special-get-raises" (P:=fun w=>(fun os=>segRunT treeTable pq w 11 (some (.ref 6)) 1 979 (SS Pq 166 2453 w os) (piecesOf (seg 59 1) E cE ⟨168,0,168,11⟩ [topFrame fp]))=fun os=>some (.next,SS Ps 169 2550 w os,cE,⟨169,0,169,17⟩)) ?_ ?_ w<;>clear w<;>intro w
 all_goals rw[lG,jP]
 all_goals kernel_rfl!
theorem XM(w:World):(fun os=>segRunT treeTable pq w 11 (some (.ref 6)) 1 300 (SS Ps 169 2550 w os) (piecesOf (seg 60 10) E cE ⟨169,0,169,17⟩ [topFrame fp]))=fun os=>some (.next,SS Tc 220 2624 w os,cE,⟨257,0,276,15⟩):=by
 rw[lG,jP]
 kernel_rfl!
theorem Td(w:World):(fun os=>topRun treeTable pq w 11 (some (.ref 6)) 2 (SS Tc 220 2624 w os).abs ⟨doneF .next,cE,⟨257,0,276,15⟩,[topFrame fp]⟩)=fun os=>some (SS Rz 220 2624 w os).abs:=by
 rw[PySem.W.Fast.te14082659384304107361,jP]
 kernel_rfl!
theorem LZ:behindTheImports pq=seg 0 1++(seg 1 1++(seg 2 1++(seg 3 1++(seg 4 7++(seg 11 24++(seg 35 24++(seg 59 1++(seg 60 10++[])))))))):=by kernel_rfl!
theorem Te(w:World)(os:OsState):topRun treeTable pq w 11 (some (.ref 6)) (12+(1+(10+(999+(30+(16000+(700+(217+(217+(979+(300+2))))))))))) ⟨boot_heap w.params,#[],boot_drawn,boot_toks,os⟩ (topStub pq)=some (SS Rz 220 2624 w os).abs:=by
 refine go_top (congrFun (S5 w) os) ?_;refine piece_block (congrFun (LQ w) os) ?_;have k9:=nA (rest:=[]) (lJ (congrFun (XM w) os)) (piece_nil (congrFun (Td w) os));have k8:=nA (lJ (congrFun (XL w) os)) k9;have k7:=nA (lJ (congrFun (XK w) os)) k8;have k6:=nA (lJ (congrFun (XJ w) os)) k7;have k5:=nA (lJ (congrFun (XI w) os)) k6;have k4:=h_8 w os k5;have k3:=nA (lJ (congrFun (h_2 w) os)) k4;have k2:=nA (lJ (congrFun (h_1 w) os)) k3;have k1:=nA (lJ (congrFun (h_0 w) os)) k2;rw[<-LZ]at k1;exact k1
noncomputable def VQ:Program:={pq with main:={pq.main with body:=seg 69 1} }
noncomputable def LS:List Str:=pq.boundNames.filter fun x=>!(x==(Str.ofString "law"))
noncomputable def HZ(P:Params):Heap:=absHeap (Rz P) 220 {}
theorem Pt(w:World):((boot_heap w.params).isNs mainGlobals&&(#[]:Array GenState).size==0,(boot_heap w.params).objs.size,(boot_heap w.params).nsMap mainGlobals "__annotations__")=(true,11,some (.ref 6)):=by kernel_rfl!
theorem L0(w:World):(fun os=>(staticsOk (importedModules pq.main.body) (boot_heap w.params) (HZ w.params)&&namesBound pq (HZ w.params)&&gensDone ⟨HZ w.params,#[],{},2624,os⟩&&laidKept (boot_heap w.params) (HZ w.params)))=fun(_:OsState)=>true:=by kernel_rfl!
noncomputable def XT(s:Shared):Bool:=recOk (RowW.records (OpenRow.toRowW (OpenLaw.row PySem.Challenge.rw_sl0032_02))) s
theorem L3(w:World):(fun os=>openSeen VQ LS (importedModules pq.main.body) XT true ⟨HZ w.params,#[],{},2624,os⟩)=fun ø=>openGood VQ LS:=by
 rw[PySem.W.Fast.te4187177175401517315]
 kernel_rfl!
theorem Pu:LeftO pq VQ LS XT (fun s=>s.heap) (fun w=>HZ w.params) 40000 true:=
 LeftO.of_pieces (H₀:=boot_heap) (H₁:=HZ) (gs₀:=Array.mk []) (gs₁:= #[]) (d₀:=boot_drawn) (d₁:={}) (k₀:=boot_toks) (k₁:=2624) (m₀:=11) (ann:=some (.ref 6)) (M:=12+(1+(10+(999+(30+(16000+(700+(217+(217+(979+(300+2)))))))))))
  (boot_open (by kernel_rfl!) (by decide) fun s=>by kernel_rfl!) Pt Te (by decide)
  fun w=>by
   funext os
   exact Prod.ext (congrFun (L0 w) os) (Prod.ext (congrFun (L3 w) os) rfl)
noncomputable def rq:OpenLaw:={prog:=pq,name:=(PySem.Str.ofString "law"),about:=[(PySem.Str.ofString "map_table_b3")],foot:=9,most:=some 63,bound:=none,writes:=false}
theorem Tf:PySem.Challenge.rw_sl0032_02=rq:=congrArg (fun p=>({prog:=p,name:=(PySem.Str.ofString "law"),about:=[(PySem.Str.ofString "map_table_b3")],foot:=9,most:=some 63,bound:=none,writes:=false}:OpenLaw)) SH
theorem Tg:OpenLaw.wellSaid rq=true:=by
 rw[PySem.W.Fast.te9446332074065402090]
 kernel_rfl!
noncomputable abbrev RW:OpenRow:=OpenLaw.row rq
noncomputable def ot:DefRec:=⟨Str.ofString "law",SI (aO pq.main.body 69),dW (aO pq.main.body 69),ki (aO pq.main.body 69),(aO pq.main.body 69).pos⟩
noncomputable abbrev YP(w:World)(h:Heap):Prop:=∀a o,(HZ w.params).get? a=some o->h.get? a=some o
theorem top_holds(hw:RW.toRowW.promised)(walk:WalkO VQ LS (fun ø ø=>True) YP RW.toRowW ot [] fun f vs=>PySem.call f vs):PySem.Challenge.rw_sl0032_02.Holds:=by
 rw[Tf];refine holds_law Tg fun XN=>?_
 have hl:=Pu;exact PySem.W.holds_open (q:=VQ) (loose:=LS) (Xt:=XT) (XP:=fun ø ø=>True) (Yf:=fun s=>s.heap) (Ya:=fun w=>HZ w.params) (YP:=YP) (N:=40000) hl
  (fun w s e a o h=>by rw[show s.heap=HZ w.params from e];exact h) (fun w h h' y k a o e=>k a o (y a o e)) (fun ø ø=>trivial) (fun ø ø ø ø ø=>trivial)
  (d:=ot) (kwd:=[]) (by kernel_rfl!) (by kernel_rfl!) (by kernel_rfl!) (fun s e=>recFacts_of e) (by kernel_rfl!) XN (by kernel_rfl!) ⟨rfl,rfl,rfl,rfl,rfl,by decide+kernel⟩ hw walk
theorem prom:RW.toRowW.promised:=RowW.promised_of_found (by decide+kernel)
noncomputable def Iv(prog:Program)(w:World)(OB:Heap->Addr->List Value->(Addr->Prop)->Prop)(ok:Hg OB)(aj:Heap)(mg mb:Str->Option Value)(hg:aj.Ns mainGlobals mg)(hb:aj.Ns builtinsNs mb)(nl:aj.NoLimit):Pk where
 prog:=prog
 w:=w
 OB:=OB
 ok:=ok
 G:=fun h=>∀b o,aj.get? b=some o->h.get? b=some o
 Gk:=fun g k b o e=>k b o (g b o e)
 glob:=fun x=>match mg x with
  |some v=>some v
  |none=>mb x
 nolim:=fun g=>by
  obtain⟨mc,h1,h2⟩:=nl;exact⟨mc,h1.keeps g,h2⟩
 aV:=fun g=>⟨mg,mb,hg.keeps g,hb.keeps g,fun x v e=>by
  cases q:mg x with
  |some u=>rw[q]at e;exact .inl e
  |none=>rw[q]at e;exact .inr ⟨rfl,e⟩⟩
theorem L4(w:World)(cl:Str->Option Addr)(XO:ExcName->Option Value)(args:List WData)(s₁ s':Shared)(k:Kp s₁ s')(hg:s₁.gens= #[]):GoodWG RW.toRowW.claim cl XO args s₁ (.ok (.ret (.bool true))) s':=by
 refine⟨.inl ⟨_,.bool true,[],rfl,fun cls=>rfl,.bool true,?_,fun ø=>⟨xM,fun a h=>(nomatch h)⟩⟩,.of_keep k.keep,k.os,k.gens.2 (.of_eq hg)⟩
 kernel_rfl
set_option tactic.hygienic true in
theorem items_int{R:WRecords}:∀{xs:List WData},WShape.hasItems R xs .int=true->∃ns:List Int,xs=ns.map .int
 |[],_=>⟨[],rfl⟩
 |x::xs,h=>by
  simp only[WShape.hasItems,bX]at h;obtain⟨h1,h2⟩:=h;obtain⟨ns,rfl⟩:=items_int h2;cases x<;>try cases h1
  rename_i i;exact⟨i::ns,rfl⟩
set_option tactic.hygienic true in
theorem L5{R:WRecords}{args:List WData}(h:WShape.hasAll R args [.list .int]=true):∃ns:List Int,args=[.list (ns.map .int)]:=by
 cases args with
 |nil=>simp[WShape.hasAll]at h
 |cons x xs=>
  cases xs with
  |cons y ys=>simp[WShape.hasAll]at h
  |nil=>
   simp only[WShape.hasAll,bX]at h;obtain⟨h1,_⟩:=h;cases x<;>try(first|cases h1|exact absurd h1 ny)
   rename_i _ xs;have h2:(WShape.hasItems R xs .int||false)=true:=h1;obtain⟨ns,rfl⟩:=items_int ((Bool.or_false _).symm.trans h2);exact⟨ns,rfl⟩
theorem L6{args:List WData}(h:RW.toRowW.claim.pre args=true):∃ns:List Int,args=[.list (ns.map .int)]/\ns.length<=63:=by
 have h':(WShape.hasAll RW.toRowW.records args RW.toRowW.args&&RW.toRowW.pre.holds RW.toRowW.records {args:=args})=true:=h;rw[bX]at h';have e1:RW.toRowW.args=[.list .int]:=by kernel_rfl
 have e2:RW.toRowW.pre= .and (.not (.lt (.lit (.int 63)) (.len (.arg 0)))) (.lit (.bool true)):=by kernel_rfl
 rw[e1,e2]at h';obtain⟨ns,rfl⟩:=L5 h'.1;refine⟨ns,rfl,?_⟩;have h2:WTm.holds RW.toRowW.records (.and (.not (.lit (.bool (decide ((63:Int)<((ns.map WData.int).length:Int)))))) (.lit (.bool true))) {args:=[.list (ns.map .int)]}=true:=h'.2;rw[List.length_map]at h2;by_cases hc:ns.length<=63
 ·exact hc
 ·rw[bo (by omega)]at h2
  exact absurd (h2:false=true) ny
theorem xd{P:Pk}{Q:Params}{h:Heap}{hid:List Addr}:∀{ns:List Int} {vs:List Value},WellAll Q h vs (ns.map .int)->bd P h hid (ns.map .int) vs
 |[],vs,e=>by cases e;exact bq.nil
 |n::ns,vs,e=>by
  cases e with
  |cons h1 h2=>
   cases h1;exact .cons (Dn.ofInt (P:=P) _ _) (xd h2)
theorem L7(OB:Heap->Addr->List Value->(Addr->Prop)->Prop)(ok:Hg OB)
  (core:∀(w:World) (aj:Heap) (mg mb:Str->Option Value) (hg:aj.Ns mainGlobals mg) (hb:aj.Ns builtinsNs mb) (nl:aj.NoLimit),(∀x:Str,x≠"__name__"->mb x=bootBuiltins x)->YP w aj->
   ∀(a:Addr) (o:Obj) (pm cd doc dV kV:Value),aj.get? a=some o->o.data= .func {docDef ot.name ot.params ot.body ot.scope pm cd doc with defaults:=dV,kwdefaults:=kV}->aj.CodeRec cd ot.name->Dflts mg aj ot.params [] dV kV->
    ∃n F,aZ (Iv RW.toRowW.prog w OB ok aj mg mb hg hb nl) n (.ref a) F/\cJ n callerA/\∀ns:List Int,ns.length<=63->F [.list (ns.map .int)]=some (.bool true)):
  WalkO VQ LS (fun ø ø=>True) YP RW.toRowW ot [] fun f vs=>PySem.call f vs:=by
 intro w bn s₁ mg mb G y a o pm cd doc dV kV ho hd hc hD hm Th args vals as Ti aa9 VO Tj ab0;obtain⟨ns,rfl,hlen⟩:=L6 Ti;obtain⟨n,F,hF,hR,hT⟩:=core w s₁.heap mg mb G.T.g G.T.b G.T.nolimit G.T.builtins y a o pm cd doc dV kV ho hd hc hD
 cases Tj with
 |cons h1 h2=>
  cases h2
  cases h1 with
  |list hl hi=>
   refine aD (hF callerA s₁ [] [.list (ns.map .int)] (.bool true) _ _ hR (fun ø ø e=>e) (fun ø q=>(nomatch q)) (.cons (Dn.ofList (fun q=>(nomatch q)) ⟨0,hl⟩ (xd hi)) .nil) (hT ns hlen)) (fun v s' q=>?_) fun ø ø q=>q
   obtain rfl:=q.2.bool_inv;exact L4 w _ _ _ s₁ s' q.1 Th
noncomputable def Pw{α:Type}(d:α)(fK:Array DictEntry->α)(fS:Array (Int×Value)->α)(fF:FuncData->α)(x:Data):α:= @Data.casesOn (fun ø=>α) x d (fun ø=>d) (fun ø ø=>d) (fun es ø=>fK es) (fun es ø ø=>fS es) (fun ø ø=>d) (fun ø=>d) (fF) (fun ø=>d) (fun ø=>d) d
noncomputable def ents(o:Obj):Array DictEntry:=Pw #[] (fun es=>es) (fun ø=> #[]) (fun ø=> #[]) o.data
theorem ql(P:Params){a:Nat}{o:Obj}(ha:(Rz P).get a=some o)(eu:a<220)(hf:o.alive=true):(HZ P).get? a=some o:=by
 have h1:(HZ P).objs[a]?=some o:=by
  unfold HZ;rw[absHeap_at,aw eu,ha];rfl
 exact(tF _ _ _).mpr ⟨h1,hf⟩
theorem at3(P:Params):(HZ P).get? mainGlobals=some (nO P):=ql P (by kernel_rfl) (by decide) (by kernel_rfl)
theorem NO{w:World}{aj:Heap}{mg:Str->Option Value}(hg:aj.Ns mainGlobals mg)(y:YP w aj)(x:Str):mg x=nsFind (ents (nO w.params)) x:=by
 obtain⟨o,es,ep,h1,h2,h3,h4⟩:=hg;have h5:=y _ _ (at3 w.params);rw[h1]at h5;cases h5;rw[<-h4];unfold ents;rw[h2];rfl
noncomputable def fdOf(o:Obj):FuncData:=Pw default (fun ø=>default) (fun ø=>default) (fun fd=>fd) o.data
theorem gr{w:World}{aj h:Heap}(y:YP w aj)(g:∀b o,aj.get? b=some o->h.get? b=some o){a c:Nat}{o oc:Obj}{vs t}(ha:(Rz w.params).get a=some o)(eu:a<220)(hf:o.alive=true)(hd:o.data= .func (fdOf o))(hk:o.cls= .type "function")
  (hc:(Rz w.params).get c=some oc) (XQ:c<220) (hcf:oc.alive=true) (hcd:oc.data= .fields vs) (Tk:(fdOf o).code= .ref c) (hq:vs[1]?=some (.str (fdOf o).qualname t)):
  (∃o',h.get? a=some o'/\o'.cls= .type "function"/\o'.data= .func (fdOf o))/\h.CodeRec (fdOf o).code (fdOf o).qualname:=
 ⟨⟨o,g _ _ (y _ _ (ql _ ha eu hf)),hk,hd⟩,⟨c,oc,vs,t,Tk,g _ _ (y _ _ (ql _ hc XQ hcf)),hcd,hq⟩⟩
theorem y4{C:List Value->Prop}(h:∀a0,C [a0]):∀vs:List Value,vs.length=1->C vs:=fun vs e=>by
 obtain⟨a0,rfl⟩:∃a0,vs=[a0]:=by
  rcases vs with _|⟨a0,_|⟨b,vs⟩⟩<;>first|exact⟨_,rfl⟩|simp at e
 exact h _
theorem Ba{C:List Value->Prop}(h:∀a0 a1,C [a0,a1]):∀vs:List Value,vs.length=2->C vs:=fun vs e=>by
 obtain⟨a0,a1,rfl⟩:∃a0 a1,vs=[a0,a1]:=by
  rcases vs with _|⟨a0,_|⟨a1,_|⟨b,vs⟩⟩⟩<;>first|exact⟨_,_,rfl⟩|simp at e
 exact h _ _
theorem Tl{C:List Value->Prop}(h:∀a0 a1 a2,C [a0,a1,a2]):∀vs:List Value,vs.length=3->C vs:=fun vs e=>by
 obtain⟨a0,a1,a2,rfl⟩:∃a0 a1 a2,vs=[a0,a1,a2]:=by
  rcases vs with _|⟨a0,_|⟨a1,_|⟨a2,_|⟨b,vs⟩⟩⟩⟩<;>first|exact⟨_,_,_,rfl⟩|simp at e
 exact h _ _ _
structure lh(fd:FuncData)(s:Stmt)(ps:List Str):Prop where
 body:fd.body= .stmts (dW s)
 gl:fd.globals=mainGlobals
 bl:fd.builtins=builtinsNs
 clo:fd.closure=[]
 scope:fd.scope=ki s
 bind:∀vs:List Value,vs.length=ps.length->bindArgs fd ⟨vs,[]⟩=pure (ps.zip vs)
theorem Tm{w:World}{aj h:Heap}(y:YP w aj)(g:∀b o,aj.get? b=some o->h.get? b=some o):(∃o',h.get? 85=some o'/\o'.cls= .type "function"/\o'.data= .func (fdOf mi))/\h.CodeRec (fdOf mi).code (fdOf mi).qualname:=
 gr (a:=85) (c:=84) (oc:=sX) y g (by kernel_rfl) (by decide) (by kernel_rfl) rfl rfl (by kernel_rfl) (by decide) (by kernel_rfl) rfl rfl rfl
theorem NP{w:World}{aj h:Heap}(y:YP w aj)(g:∀b o,aj.get? b=some o->h.get? b=some o):(∃o',h.get? 92=some o'/\o'.cls= .type "function"/\o'.data= .func (fdOf qb))/\h.CodeRec (fdOf qb).code (fdOf qb).qualname:=
 gr (a:=92) (c:=91) (oc:=sY) y g (by kernel_rfl) (by decide) (by kernel_rfl) rfl rfl (by kernel_rfl) (by decide) (by kernel_rfl) rfl rfl rfl
noncomputable abbrev Tn:List Str:=[Op]
theorem To(P:Params):lh (fdOf qb) (aO pq.main.body 7) Tn:=⟨rfl,rfl,rfl,rfl,rfl,y4 fun v0=>rfl⟩
theorem NQ{w:World}{aj h:Heap}(y:YP w aj)(g:∀b o,aj.get? b=some o->h.get? b=some o):(∃o',h.get? 99=some o'/\o'.cls= .type "function"/\o'.data= .func (fdOf qc))/\h.CodeRec (fdOf qc).code (fdOf qc).qualname:=
 gr (a:=99) (c:=98) (oc:=EN) y g (by kernel_rfl) (by decide) (by kernel_rfl) rfl rfl (by kernel_rfl) (by decide) (by kernel_rfl) rfl rfl rfl
noncomputable abbrev Tp:List Str:=[Op]
theorem Tq(P:Params):lh (fdOf qc) (aO pq.main.body 8) Tp:=⟨rfl,rfl,rfl,rfl,rfl,y4 fun v0=>rfl⟩
theorem NR{w:World}{aj h:Heap}(y:YP w aj)(g:∀b o,aj.get? b=some o->h.get? b=some o):(∃o',h.get? 32=some o'/\o'.cls= .type "function"/\o'.data= .func (fdOf l0))/\h.CodeRec (fdOf l0).code (fdOf l0).qualname:=
 gr (a:=32) (c:=31) (oc:=rH) y g (by kernel_rfl) (by decide) (by kernel_rfl) rfl rfl (by kernel_rfl) (by decide) (by kernel_rfl) rfl rfl rfl
noncomputable abbrev Tr:List Str:=[U4]
theorem Ts(P:Params):lh (fdOf l0) (aO pq.main.body 2) Tr:=⟨rfl,rfl,rfl,rfl,rfl,y4 fun v0=>rfl⟩
theorem NS{w:World}{aj h:Heap}(y:YP w aj)(g:∀b o,aj.get? b=some o->h.get? b=some o):(∃o',h.get? 78=some o'/\o'.cls= .type "function"/\o'.data= .func (fdOf mh))/\h.CodeRec (fdOf mh).code (fdOf mh).qualname:=
 gr (a:=78) (c:=77) (oc:=sW) y g (by kernel_rfl) (by decide) (by kernel_rfl) rfl rfl (by kernel_rfl) (by decide) (by kernel_rfl) rfl rfl rfl
noncomputable abbrev Tt:List Str:=[U4]
theorem Tu(P:Params):lh (fdOf mh) (aO pq.main.body 4) Tt:=⟨rfl,rfl,rfl,rfl,rfl,y4 fun v0=>rfl⟩
theorem Iw{w:World}{aj h:Heap}(y:YP w aj)(g:∀b o,aj.get? b=some o->h.get? b=some o):(∃o',h.get? 116=some o'/\o'.cls= .type "function"/\o'.data= .func (fdOf ig))/\h.CodeRec (fdOf ig).code (fdOf ig).qualname:=
 gr (a:=116) (c:=115) (oc:=qe) y g (by kernel_rfl) (by decide) (by kernel_rfl) rfl rfl (by kernel_rfl) (by decide) (by kernel_rfl) rfl rfl rfl
noncomputable abbrev Ix:List Str:=[wd,⟨#[119,115]⟩]
theorem Px(P:Params):lh (fdOf ig) (aO (dX (aO pq.main.body 10)) 1) Ix:=⟨rfl,rfl,rfl,rfl,rfl,Ba fun v0 v1=>rfl⟩
theorem Iy{w:World}{aj h:Heap}(y:YP w aj)(g:∀b o,aj.get? b=some o->h.get? b=some o):(∃o',h.get? 123=some o'/\o'.cls= .type "function"/\o'.data= .func (fdOf js))/\h.CodeRec (fdOf js).code (fdOf js).qualname:=
 gr (a:=123) (c:=122) (oc:=qf) y g (by kernel_rfl) (by decide) (by kernel_rfl) rfl rfl (by kernel_rfl) (by decide) (by kernel_rfl) rfl rfl rfl
noncomputable abbrev Py:List Str:=[wd]
theorem Pz(P:Params):lh (fdOf js) (aO (dX (aO pq.main.body 10)) 2) Py:=⟨rfl,rfl,rfl,rfl,rfl,y4 fun v0=>rfl⟩
theorem Iz{w:World}{aj h:Heap}(y:YP w aj)(g:∀b o,aj.get? b=some o->h.get? b=some o):(∃o',h.get? 130=some o'/\o'.cls= .type "function"/\o'.data= .func (fdOf jt))/\h.CodeRec (fdOf jt).code (fdOf jt).qualname:=
 gr (a:=130) (c:=129) (oc:=qg) y g (by kernel_rfl) (by decide) (by kernel_rfl) rfl rfl (by kernel_rfl) (by decide) (by kernel_rfl) rfl rfl rfl
noncomputable abbrev PA:List Str:=[wd,We]
theorem PB(P:Params):lh (fdOf jt) (aO (dX (aO pq.main.body 10)) 3) PA:=⟨rfl,rfl,rfl,rfl,rfl,Ba fun v0 v1=>rfl⟩
theorem IB{w:World}{aj h:Heap}(y:YP w aj)(g:∀b o,aj.get? b=some o->h.get? b=some o):(∃o',h.get? 137=some o'/\o'.cls= .type "function"/\o'.data= .func (fdOf ju))/\h.CodeRec (fdOf ju).code (fdOf ju).qualname:=
 gr (a:=137) (c:=136) (oc:=qh) y g (by kernel_rfl) (by decide) (by kernel_rfl) rfl rfl (by kernel_rfl) (by decide) (by kernel_rfl) rfl rfl rfl
noncomputable abbrev PC:List Str:=[wd,Fs]
theorem PD(P:Params):lh (fdOf ju) (aO (dX (aO pq.main.body 10)) 4) PC:=⟨rfl,rfl,rfl,rfl,rfl,Ba fun v0 v1=>rfl⟩
theorem IC{w:World}{aj h:Heap}(y:YP w aj)(g:∀b o,aj.get? b=some o->h.get? b=some o):(∃o',h.get? 144=some o'/\o'.cls= .type "function"/\o'.data= .func (fdOf jw))/\h.CodeRec (fdOf jw).code (fdOf jw).qualname:=
 gr (a:=144) (c:=143) (oc:=qj) y g (by kernel_rfl) (by decide) (by kernel_rfl) rfl rfl (by kernel_rfl) (by decide) (by kernel_rfl) rfl rfl rfl
noncomputable abbrev PE:List Str:=[wd,Fs]
theorem PF(P:Params):lh (fdOf jw) (aO (dX (aO pq.main.body 10)) 5) PE:=⟨rfl,rfl,rfl,rfl,rfl,Ba fun v0 v1=>rfl⟩
theorem ID{w:World}{aj h:Heap}(y:YP w aj)(g:∀b o,aj.get? b=some o->h.get? b=some o):(∃o',h.get? 151=some o'/\o'.cls= .type "function"/\o'.data= .func (fdOf jx))/\h.CodeRec (fdOf jx).code (fdOf jx).qualname:=
 gr (a:=151) (c:=150) (oc:=qk) y g (by kernel_rfl) (by decide) (by kernel_rfl) rfl rfl (by kernel_rfl) (by decide) (by kernel_rfl) rfl rfl rfl
noncomputable abbrev PG:List Str:=[wd,Fs]
theorem PH(P:Params):lh (fdOf jx) (aO (dX (aO pq.main.body 10)) 6) PG:=⟨rfl,rfl,rfl,rfl,rfl,Ba fun v0 v1=>rfl⟩
theorem IE{w:World}{aj h:Heap}(y:YP w aj)(g:∀b o,aj.get? b=some o->h.get? b=some o):(∃o',h.get? 158=some o'/\o'.cls= .type "function"/\o'.data= .func (fdOf nN))/\h.CodeRec (fdOf nN).code (fdOf nN).qualname:=
 gr (a:=158) (c:=157) (oc:=AV) y g (by kernel_rfl) (by decide) (by kernel_rfl) rfl rfl (by kernel_rfl) (by decide) (by kernel_rfl) rfl rfl rfl
noncomputable abbrev PI:List Str:=[wd,Fs]
theorem PJ(P:Params):lh (fdOf nN) (aO (dX (aO pq.main.body 10)) 7) PI:=⟨rfl,rfl,rfl,rfl,rfl,Ba fun v0 v1=>rfl⟩
theorem IF{w:World}{aj h:Heap}(y:YP w aj)(g:∀b o,aj.get? b=some o->h.get? b=some o):(∃o',h.get? 173=some o'/\o'.cls= .type "function"/\o'.data= .func (fdOf kW))/\h.CodeRec (fdOf kW).code (fdOf kW).qualname:=
 gr (a:=173) (c:=172) (oc:=uV) y g (by kernel_rfl) (by decide) (by kernel_rfl) rfl rfl (by kernel_rfl) (by decide) (by kernel_rfl) rfl rfl rfl
noncomputable abbrev IG:List Str:=[U6]
theorem PK(P:Params):lh (fdOf kW) (aO pq.main.body 61) IG:=⟨rfl,rfl,rfl,rfl,rfl,y4 fun v0=>rfl⟩
theorem IH{w:World}{aj h:Heap}(y:YP w aj)(g:∀b o,aj.get? b=some o->h.get? b=some o):(∃o',h.get? 180=some o'/\o'.cls= .type "function"/\o'.data= .func (fdOf kX))/\h.CodeRec (fdOf kX).code (fdOf kX).qualname:=
 gr (a:=180) (c:=179) (oc:=uW) y g (by kernel_rfl) (by decide) (by kernel_rfl) rfl rfl (by kernel_rfl) (by decide) (by kernel_rfl) rfl rfl rfl
noncomputable abbrev II:List Str:=[Lg]
theorem PL(P:Params):lh (fdOf kX) (aO pq.main.body 62) II:=⟨rfl,rfl,rfl,rfl,rfl,y4 fun v0=>rfl⟩
theorem IJ{w:World}{aj h:Heap}(y:YP w aj)(g:∀b o,aj.get? b=some o->h.get? b=some o):(∃o',h.get? 185=some o'/\o'.cls= .type "function"/\o'.data= .func (fdOf kY))/\h.CodeRec (fdOf kY).code (fdOf kY).qualname:=
 gr (a:=185) (c:=184) (oc:=uX) y g (by kernel_rfl) (by decide) (by kernel_rfl) rfl rfl (by kernel_rfl) (by decide) (by kernel_rfl) rfl rfl rfl
noncomputable abbrev Dd:List Str:=[Ha,Lg,Ot]
theorem PM(P:Params):lh (fdOf kY) (aO pq.main.body 63) Dd:=⟨rfl,rfl,rfl,rfl,rfl,Tl fun v0 v1 v2=>rfl⟩
theorem IK{w:World}{aj h:Heap}(y:YP w aj)(g:∀b o,aj.get? b=some o->h.get? b=some o):(∃o',h.get? 192=some o'/\o'.cls= .type "function"/\o'.data= .func (fdOf kZ))/\h.CodeRec (fdOf kZ).code (fdOf kZ).qualname:=
 gr (a:=192) (c:=191) (oc:=uY) y g (by kernel_rfl) (by decide) (by kernel_rfl) rfl rfl (by kernel_rfl) (by decide) (by kernel_rfl) rfl rfl rfl
noncomputable abbrev PN:List Str:=[K3,Lg]
theorem PO(P:Params):lh (fdOf kZ) (aO pq.main.body 64) PN:=⟨rfl,rfl,rfl,rfl,rfl,Ba fun v0 v1=>rfl⟩
theorem IL{w:World}{aj h:Heap}(y:YP w aj)(g:∀b o,aj.get? b=some o->h.get? b=some o):(∃o',h.get? 199=some o'/\o'.cls= .type "function"/\o'.data= .func (fdOf la))/\h.CodeRec (fdOf la).code (fdOf la).qualname:=
 gr (a:=199) (c:=198) (oc:=uZ) y g (by kernel_rfl) (by decide) (by kernel_rfl) rfl rfl (by kernel_rfl) (by decide) (by kernel_rfl) rfl rfl rfl
noncomputable abbrev PP:List Str:=[RX]
theorem PQ(P:Params):lh (fdOf la) (aO pq.main.body 65) PP:=⟨rfl,rfl,rfl,rfl,rfl,y4 fun v0=>rfl⟩
theorem IM{w:World}{aj h:Heap}(y:YP w aj)(g:∀b o,aj.get? b=some o->h.get? b=some o):(∃o',h.get? 204=some o'/\o'.cls= .type "function"/\o'.data= .func (fdOf lb))/\h.CodeRec (fdOf lb).code (fdOf lb).qualname:=
 gr (a:=204) (c:=203) (oc:=u0) y g (by kernel_rfl) (by decide) (by kernel_rfl) rfl rfl (by kernel_rfl) (by decide) (by kernel_rfl) rfl rfl rfl
noncomputable abbrev PR:List Str:=[G9]
theorem PS(P:Params):lh (fdOf lb) (aO pq.main.body 66) PR:=⟨rfl,rfl,rfl,rfl,rfl,y4 fun v0=>rfl⟩
theorem IN{w:World}{aj h:Heap}(y:YP w aj)(g:∀b o,aj.get? b=some o->h.get? b=some o):(∃o',h.get? 209=some o'/\o'.cls= .type "function"/\o'.data= .func (fdOf ld))/\h.CodeRec (fdOf ld).code (fdOf ld).qualname:=
 gr (a:=209) (c:=208) (oc:=u3) y g (by kernel_rfl) (by decide) (by kernel_rfl) rfl rfl (by kernel_rfl) (by decide) (by kernel_rfl) rfl rfl rfl
noncomputable abbrev PT:List Str:=[G9,Ri,Ha]
theorem PU(P:Params):lh (fdOf ld) (aO pq.main.body 67) PT:=⟨rfl,rfl,rfl,rfl,rfl,Tl fun v0 v1 v2=>rfl⟩
theorem IO{w:World}{aj h:Heap}(y:YP w aj)(g:∀b o,aj.get? b=some o->h.get? b=some o):(∃o',h.get? 214=some o'/\o'.cls= .type "function"/\o'.data= .func (fdOf jy))/\h.CodeRec (fdOf jy).code (fdOf jy).qualname:=
 gr (a:=214) (c:=213) (oc:=u4) y g (by kernel_rfl) (by decide) (by kernel_rfl) rfl rfl (by kernel_rfl) (by decide) (by kernel_rfl) rfl rfl rfl
noncomputable abbrev IP:List Str:=[K3,Rh]
theorem PV(P:Params):lh (fdOf jy) (aO pq.main.body 68) IP:=⟨rfl,rfl,rfl,rfl,rfl,Ba fun v0 v1=>rfl⟩
inductive rK:List (Int×Str)->List DictEntry->Prop
 |nil:rK [] []
 |cons {k x T T' ps es}:rK ps es->rK ((k,x)::ps) (⟨hashInt k,.int k T,.str x T'⟩::es)
theorem rK.app{a b:List (Int×Str)}{x y:List DictEntry}(h:rK a x)(h':rK b y):rK (a++b) (x++y):=by
 induction h with
 |nil=>exact h'
 |cons _ ih=>exact .cons ih
theorem De:∀(l:List (Int×Str)) (T:Nat),rK l (ba T l)
 |[],T=>.nil
 |(k,x)::r,T=>.cons (De r _)
theorem IQ:∀(l:List (Int×Str)) (T:Nat),rK l (gK T l)
 |[],T=>.nil
 |(k,x)::r,T=>.cons (IQ r _)
theorem IR:∀(l:List (List (Int×Str))) (T:Nat),rK l.flatten (gL T l)
 |[],T=>.nil
 |l::r,T=>by rw[eQ];exact(De l T).app (IR r _)
theorem L8:rK EM (ba 256 c0++gL 307 cs++gK 2194 cl):=by
 rw[uB,List.append_assoc];exact(De _ _).app ((IR _ _).app (IQ _ _))
theorem rK.dict{prog:Program}{w:World}{ps:List (Int×Str)}{es:List DictEntry}(h:rK ps es):∃oU:List (Str×Tok),oU.map (·.1)=ps.map (·.2)/\oU.length=ps.length/\KeysOf (intKind prog w) es.toArray/\Pairs (intKind prog w) es ((ps.map (·.1)).zip (strValues oU)):=by
 induction h with
 |nil=>exact⟨[],rfl,rfl,fun e he=>by simp at he,.nil⟩
 | @cons k x T T' ps es _ ih=>
   obtain⟨oU,h1,h2,h3,h4⟩:=ih;refine⟨(x,T')::oU,by simp[h1],by simp[h2],fun e he=>?_,.cons (by simp[intKind,Value.isInt]) rfl h4⟩;have Hd:e∈(⟨hashInt k,.int k T,.str x T'⟩:DictEntry)::es:=by simpa using he
   rcases bI.mp Hd with rfl|Hd
   ·exact⟨k,by simp[intKind,Value.isInt],rfl⟩
   ·exact h3 e (by simpa using Hd)
noncomputable abbrev PW:List Int:=EM.map (·.1)
noncomputable abbrev PX:List (List Nat):=EM.map fun p=>p.2.cps.toList
theorem Tv(P:Params):(HZ P).get? 33=some rJ:=ql P (by kernel_rfl) (by decide) (by kernel_rfl)
theorem PY{P:Pk}(hG:∀h,P.G h->YP P.w h):HW P 33 "get" (HX PW PX):=by
 refine SA (by decide) fun h G=>?_
 obtain⟨oU,h1,h2,h3,h4⟩:=L8.dict (prog:=P.prog) (w:=P.w);refine⟨oU,?_,by rw[h2,List.length_map],rJ,_,_,hG h G _ _ (Tv _),⟨rfl,rfl,rfl⟩,rfl,h3,by simpa using h4,?_⟩
 ·rw[h1,iH]
  refine lK fun p ø=>?_
  simp[pyStr]
 ·rw[List.map_fst_zip (by rw[List.length_map];simp[strValues,h2])]
  exact AS
section
section
variable{M:Model}{A:Around}{R:GenEnd}{Y:Protocol}{n:Nat}{bn:Shared}{c:Code}{fs:List Frame}{s:Shared}{env:Env}
theorem jz{α β:Type}{m:Sem α}{k:α->Sem β}{K:β->Sem Fin}{H:Value->Sem Fin}{gd:Bool->Bool}{lv:List Value->List Value}
  (h:∀E,wpAny M (A.over c fs) m (fun a s'=>Seg M A R Y n bn c ((k a).wrap K H gd lv) fs s') E s):Seg M A R Y n bn c ((m>>= k).wrap K H gd lv) fs s:=by
 rw[Sem.bind_eq_wrap',nu];exact seg_wrap (h _)
theorem y5{m:Sem Flow}{K:Flow->Sem Fin}{H:Value->Sem Fin}{gd:Bool->Bool}{lv:List Value->List Value}
 (h:∀E,wpAny M (A.over c fs) m (fun a s'=>Seg M A R Y n bn c (K a) fs s') E s):Seg M A R Y n bn c (m.wrap K H gd lv) fs s:=seg_wrap (h _)
theorem rL{test:Expr}{a b:List Stmt}{pos:Pos}{K:Flow->Sem Fin}{H:Value->Sem Fin}{gd:Bool->Bool}{lv:List Value->List Value}
  (h:∀E,wpAny M (A.over c fs) (isTrue test env (eval test env)) (fun z s'=>Seg M A R Y n bn c ((if z=true then execs a env else execs b env).wrap K H gd lv) fs s') E s):
  Seg M A R Y n bn c ((exec (.If test a b pos) env).wrap K H gd lv) fs s:=by
 rw[exec_If];refine jz fun E=>lB (jz fun E=>?_)
 exact h E
theorem L9{target iter:Expr}{body orelse:List Stmt}{pos:Pos}{K:Flow->Sem Fin}{H:Value->Sem Fin}{gd:Bool->Bool}{lv:List Value->List Value}(hs:∀x,foldedSetIterable iter env x=pure x)
  (h:∀E,wpAny M (A.over c fs) (eval iter env) (fun x s₁=>∀E,wpAny M (A.over c fs) (pyIter x) (fun it s₂=>∀k l p,(∀f,k (.ok f)=K f)->
   Seg M A R Y n bn (.forLoop target it body orelse env) (M.den (.forLoop target it body orelse env)) (.ret k none (gd false) l c p []::fs) s₂) E s₁) E s):
  Seg M A R Y n bn c ((exec (.For target iter body orelse pos) env).wrap K H gd lv) fs s:=by
 rw[exec_For];refine jz fun E=>lB (jz fun E=>?_)
 refine aD (h E) (fun x s₁ aj=>?_) fun ø ø q=>q
 refine jz fun E=>wpAny_of_eq (hs x) (jz fun E=>lB (jz fun E=>gH (aD (aj E) (fun it s₂ aM=>?_) fun ø ø q=>q)))
 exact seg_call fun p=>aM _ _ p fun f=>rfl
end
section
variable{prog:Program}{w:World}{A:Around}{R:GenEnd}{Y:Protocol}{n:Nat}{bn:Shared}{fs:List Frame}{s:Shared}{env:Env}
theorem Bb{target:Expr}{it:Value}{body:List Stmt}
  (h:∀E,wpAny (model prog w) (A.over (.forLoop target it body [] env) fs) (pyNext it) (fun r s₁=>match r with
   |none=>Seg (model prog w) A R Y n bn (.block [] env) (leafOf (.ok .next)) fs s₁
   |some v=>∀E,wpAny (model prog w) (A.over (.forLoop target it body [] env) fs) (letOwnedTupleGo target it v) (fun ø s₂=>∀E,wpAny (model prog w) (A.over (.forLoop target it body [] env) fs) (assign target env v) (fun ø s₃=>
    ∀K H,(∀f,K f=match f with
       | .next| .cont=>.pure (.again (.forLoop target it body [] env))
       | .brk=>.pure (.done .next)
       | .ret v=>.pure (.done (.ret v)))->Seg (model prog w) A R Y n bn (.forLoop target it body [] env) ((execs body env).wrap K H id id) fs s₃) E s₂) E s₁) E s):
  Seg (model prog w) A R Y n bn (.forLoop target it body [] env) ((model prog w).den (.forLoop target it body [] env)) fs s:=by
 show Seg _ A R Y n bn _ ((forTurn target it body [] env).onRaise (fun x=>do noteFrame x env;theTreesLotGoes x)) fs s;rw[Sem.onRaise_eq_wrap];unfold forTurn;refine jz fun E=>lB (jz fun E=>xN (aD (h _) (fun r s₁ aj=>?_) fun ø ø q=>lB q))
 cases r with
 |none=>
  refine seg_again (c':=.block [] env) rfl ?_;exact aj
 |some v=>
  refine jz fun E=>aD (aj E) (fun ø s₂ aM=>?_) fun ø ø q=>q
  refine jz fun E=>aD (aM E) (fun ø s₃ eo=>?_) fun ø ø q=>q
  rw[Sem.bind_eq_wrap',nu];exact eo _ _ fun f=>by cases f<;>rfl
end
end
section
section
variable{prog:Program}{w:World}{A:Around}{E:Value->Shared->Prop}{s:Shared}
theorem Bc{Q:Value->Shared->Prop}(h:∀h' e,(∀b o,s.heap.get? b=some o->h'.get? b=some o)->(∃o,h'.get? e=some o/\o.cls= .type "StopIteration")->Q (.ref e) {s with heap:=h'}):wpAny (model prog w) A (newExc (.type "StopIteration") []) Q E s:=by
 refine aA (tC ?_ (eK _));refine aA (m:=firstArgMember _ _) (wpAny_of_eq (a:=Value.none) (by first|rfl|(simp only[firstArgMember];rfl)) ?_);refine tC ?_ (by size_fits);exact h _ _ (fun b o e=>bz _ (bz _ e)) ⟨_,bJ _ rfl,rfl⟩
theorem Bd{α:Type}(hh:A.handled=none){Q:α->Shared->Prop}(h:∀h' e,(∀b o,s.heap.get? b=some o->h'.get? b=some o)->(∃o,h'.get? e=some o/\o.cls= .type "StopIteration")->E (.ref e) {s with heap:=h'}):
 wpAny (model prog w) A (do raiseNew (<-newExc (.type "StopIteration") []):Sem α) Q E s:=aA (Bc fun h' e hk he=>wpAny_raiseNew_none hh (h h' e hk he))
theorem FX{it:Addr}{x:Str}{t:Tok}{i:Nat}{Q:Value->Shared->Prop}(hh:A.handled=none)(hit:s.heap.IsStrIter it "str_ascii_iterator" x t i)(hx:x.cps[i]?=none)
  (hE:∀h' e,Heap.ExtBut it s.heap h'->(∃o,h'.get? it=some o)->(∃o,h'.get? e=some o/\o.cls= .type "StopIteration")->E (.ref e) {s with heap:=h'}):
  wpAny (model prog w) A (Builtin.SmallTypes.nextOf (.ref it)) Q E s:=by
 have hT:=hit.typeIs;obtain⟨o,ho,hc,hd⟩:=hit;refine aA (oQ hT F.slot_str_ascii_iterator_next (lE F.slot_str_ascii_iterator_next hT F.entry_str_ascii_iterator_next ?_ (F.args_str_ascii_iterator_next_1 _)));show wpAny _ _ (field (.ref it) 0>>= _) _ _ s;refine aA (gj ho hd (x:=.str x t) rfl ?_);show wpAny _ _ (field (.ref it) 1>>= _) _ _ s;refine aA (gj ho hd (x:=.int i 0) rfl ?_);simp only[lL,hx];refine aA (qY (aA (wpAny_setField ho hd (by simp) (aA (qZ ?_)))));refine Bd (A:=A.in1) hh fun h' e hk he=>?_
 exact hE _ _ (fun b o q r=>hk b o ((oK ..).extBut b o q r)) ⟨_,hk _ _ (kJ _ ho (Obj.isFreed_of_fields (Obj.data_mapFields hd _)))⟩ he
theorem IS{it:Addr}{x:Str}{t:Tok}{i:Nat}{Q:Value->Shared->Prop}(hh:A.handled=none)(hit:s.heap.IsStrIter it "str_iterator" x t i)(hx:x.cps[i]?=none)
  (hE:∀h' e,Heap.ExtBut it s.heap h'->(∃o,h'.get? it=some o)->(∃o,h'.get? e=some o/\o.cls= .type "StopIteration")->E (.ref e) {s with heap:=h'}):
  wpAny (model prog w) A (Builtin.SmallTypes.nextOf (.ref it)) Q E s:=by
 have hT:=hit.typeIs;obtain⟨o,ho,hc,hd⟩:=hit;refine aA (oQ hT F.slot_str_iterator_next (lE F.slot_str_iterator_next hT F.entry_str_iterator_next ?_ (F.args_str_iterator_next_1 _)));show wpAny _ _ (field (.ref it) 0>>= _) _ _ s;refine aA (gj ho hd (x:=.str x t) rfl ?_);show wpAny _ _ (field (.ref it) 1>>= _) _ _ s;refine aA (gj ho hd (x:=.int i 0) rfl ?_);simp only[lL,hx];refine aA (qY (aA (wpAny_setField ho hd (by simp) (aA (qZ ?_)))));refine Bd (A:=A.in1) hh fun h' e hk he=>?_
 exact hE _ _ (fun b o q r=>hk b o ((oK ..).extBut b o q r)) ⟨_,hk _ _ (kJ _ ho (Obj.isFreed_of_fields (Obj.data_mapFields hd _)))⟩ he
theorem IT{e it:Addr}{x:Str}{t:Tok}{i:Nat}{j:Int}{old:Value}{Q:Option Value->Shared->Prop}(hh:A.handled=none)(he:IsEnum s.heap e it j old)(iS:s.heap.IsStrIter it (strIterType x) x t i)(hx:x.cps[i]?=none)
  (hQ:∀h',Heap.ExtBut it s.heap h'->(∃o,h'.get? it=some o)->Q none {s with heap:=h'}):wpAny (model prog w) A (pyNext (.ref e)) Q E s:=by
 have hT:s.TypeIs (.ref e) "enumerate":=⟨_,he,rfl⟩;refine aA (tG (oQ hT F.slot_enumerate_next (lE F.slot_enumerate_next hT F.entry_enumerate_next ?_ (F.args_enumerate_next_1 _))));show wpAny _ _ (field (.ref e) 2>>= _) _ _ _;refine aA (gj he rfl (x:=.ref it) rfl ?_);have fin:∀h' y,Heap.ExtBut it s.heap h'->(∃o,h'.get? it=some o)->(∃o,h'.get? y=some o/\o.cls= .type "StopIteration")->wpAny (model prog w) A (do if <-isInstance (.ref y) (.type "StopIteration")then pure none else throw (.ref y):Sem (Option Value)) Q E {s with heap:=h'}:=fun h' y h1 h2 h3=>by
  obtain⟨o,ho,hc⟩:=h3;refine aA (wpAny_isInstance (T:="StopIteration") (b:=true) ⟨o,ho,hc⟩ isSubtype_stop ?_);exact bK (hQ _ h1 h2)
 cases ha:x.cps.all (· <128)
 ·refine aA (IS hh (by simpa[strIterType,ha]using iS) hx fun h' y h1 h2 h3=>?_)
  exact fin h' y h1 h2 h3
 ·refine aA (FX hh (by simpa[strIterType,ha]using iS) hx fun h' y h1 h2 h3=>?_)
  exact fin h' y h1 h2 h3
end
end
section
noncomputable def gR(p:Nat):Bool->List Nat->List (Nat×List Nat)
 |true,[]=>[(p-1,[92])]
 |false,[]=>[]
 |true,c::cs=>(p,[92,c])::gR (p+1) false cs
 |false,c::cs=>if c=92 then gR (p+1) true cs else(p,[c])::gR (p+1) false cs
theorem y6(p:Nat):gR p true []=[(p-1,[92])]:=rfl
theorem EP(p:Nat):gR p false []=[]:=rfl
theorem y8(p c:Nat)(cs:List Nat):gR p true (c::cs)=(p,[92,c])::gR (p+1) false cs:=rfl
theorem sZ(p c:Nat)(cs:List Nat):gR p false (c::cs)=if c=92 then gR (p+1) true cs else(p,[c])::gR (p+1) false cs:=rfl
section
variable(L it:Addr)(items:List (Nat×List Nat))
structure GK(bn s₁:Shared):Prop where
 keep:∀b o,b≠L->b≠it->b≠it+1->bn.heap.get? b=some o->s₁.heap.get? b=some o
 gens:s₁.gens=bn.gens
 os:s₁.os=bn.os
noncomputable def GP(n:Nat)(bn s₁:Shared):Prop:=n=0/\GK L it bn s₁
noncomputable def GR:GenEnd:=fun n bn r s₁=>r= .ok (.ret .none)/\GP L it n bn s₁
noncomputable def Agree(s₁ s₂:Shared):Prop:=∀b,(b=L\/b=it\/b=it+1)->∀o,s₁.heap.get? b=some o->s₂.heap.get? b=some o
inductive NT(m:Nat)(bn:Shared)(v:Value)(s₁:Shared):Prop
 |mk (p:Nat) (str:List Nat) (T:Addr) (t1 t2:Tok) (e:items[items.length-(m+1)]?=some (p,str)) (ev:v= .ref T) (t:x0 s₁.heap T #[.int (p:Nat) t1,.str (pyStr str) t2]) (n:bn.heap.get? T=none) (n1:T≠L) (n2:T≠it) (n3:T≠it+1):NT m bn v s₁
inductive Z5(m:Nat)(bn:Shared)(v:Value)(s₁:Shared)(K7:Resume->Shared->Prop):Prop
 |mk (k:GK L it bn s₁) (l:∀b,(b=L\/b=it\/b=it+1)->∃o,s₁.heap.get? b=some o) (i:NT L it items m bn v s₁) (kp:∀s₂,Agree L it s₁ s₂->K7 (.send .none) s₂):Z5 m bn v s₁ K7
noncomputable def GY:Protocol:=fun m bn v s₁ K7=>Z5 L it items m bn v s₁ K7
end
theorem GK.refl(L it s):GK L it s s:=⟨fun ø ø ø ø ø h=>h,rfl,rfl⟩
theorem GK.trans{L it a b c}(x:GK L it a b)(y:GK L it b c):GK L it a c:=⟨fun q o h1 h2 h3 h=>y.keep q o h1 h2 h3 (x.keep q o h1 h2 h3 h),y.gens.trans x.gens,y.os.trans x.os⟩
theorem GK.heap{L it}{s:Shared}{h':Heap}{tk:Nat}(h:∀b o,b≠L->b≠it->b≠it+1->s.heap.get? b=some o->h'.get? b=some o):GK L it s {s with heap:=h',toks:=tk}:=⟨h,rfl,rfl⟩
inductive Lf(items:List (Nat×List Nat))(x:List Nat)(i:Nat)(b:Bool)(n:Nat):Prop
 |mk (l:n=(gR i b (x.drop i)).length) (e:gR i b (x.drop i)=items.drop (items.length-n)) (h:n<=items.length)
theorem Lf.same{items x i b n i' b'}(h:Lf items x i b n)(e:gR i b (x.drop i)=gR i' b' (x.drop i')):Lf items x i' b' n:=by
 obtain⟨l,q,h⟩:=h;rw[e]at l q;exact⟨l,q,h⟩
theorem Lf.cut{items:List (Nat×List Nat)}{n:Nat}{p:Nat×List Nat}{r:List (Nat×List Nat)}(l:n=r.length+1)(q:p::r=items.drop (items.length-n))(h:n<=items.length):items[items.length-(r.length+1)]?=some p/\r=items.drop (items.length-r.length):=by
 rw[l]at q h;have e:items.length-r.length=items.length-(r.length+1)+1:=(xC (Nat.sub_pos_of_lt h)).symm;have q0:=congrArg (·[0]?) q;rw[tH]at q0;rw[e,<-List.drop_drop,<-q];exact⟨q0.symm,rfl⟩
theorem Lf.cons{items x i b n i' b' p}(h:Lf items x i b n)(e:gR i b (x.drop i)=p::gR i' b' (x.drop i')):∃n',n=n'+1/\items[items.length-(n'+1)]?=some p/\Lf items x i' b' n':=by
 obtain⟨l,q,h⟩:=h;rw[e]at l q;have c:=Lf.cut l q h;exact⟨_,l,c.1,rfl,c.2,kL (az (je l.symm) h)⟩
theorem IU{L it:Addr}{items:List (Nat×List Nat)}{n:Nat}{bn s:Shared}{p:Nat}{EQ:List Nat}{t u:Tok}{tk:Nat}{K7:Resume->Shared->Prop}(k:GK L it bn s)(l:∀b,(b=L\/b=it\/b=it+1)->∃o,s.heap.get? b=some o)(hit:items[items.length-(n+1)]?=some (p,EQ))
  (hk:∀s₂,Agree L it {s with toks:=tk,heap:=s.heap.push {cls:=.type "tuple",data:=.seq #[.int (p:Nat) t,.str (pyStr EQ) u]} } s₂->K7 (.send .none) s₂):
  GY L it items n bn (.ref s.heap.objs.size) {s with toks:=tk,heap:=s.heap.push {cls:=.type "tuple",data:=.seq #[.int (p:Nat) t,.str (pyStr EQ) u]} } K7:=by
 have ne:∀b,(b=L\/b=it\/b=it+1)->s.heap.objs.size≠b:=fun b hb z=>(l b hb).elim fun o q=>nomatch(z▸bE s.heap).symm.trans q
 refine⟨⟨fun b o h1 h2 h3 h=>bz _ (k.keep b o h1 h2 h3 h),k.gens,k.os⟩,fun b hb=>(l b hb).elim fun o q=>⟨o,bz _ q⟩,⟨p,EQ,s.heap.objs.size,t,u,hit,rfl,⟨0,bJ _ rfl⟩,?_,ne _ (.inl rfl),ne _ (.inr (.inl rfl)),ne _ (.inr (.inr rfl))⟩,hk⟩
 induction e:bn.heap.get? s.heap.objs.size with
 |none=>rfl
 |some o=>exact nomatch(bE s.heap).symm.trans (k.keep _ o (ne _ (.inl rfl)) (ne _ (.inr (.inl rfl))) (ne _ (.inr (.inr rfl))) e)
section
variable{prog:Program}{w:World}{A:Around}{n:Nat}{bn:Shared}{s:Shared}{env:Env}{it:Addr}{items:List (Nat×List Nat)}{x:List Nat}{tx:Tok}
structure IV(env:Env)(it:Addr)(i:Nat)(b:Bool)(s:Shared):Prop where
 ns:∃m t,s.heap.Ns env.locals m/\m "escape"=some (.bool b)/\m "pos"=some (.int ((i-1:Nat):Int) t)
 en:∃old,IsEnum s.heap (it+1) it i old
 li:∃o,s.heap.get? it=some o
inductive GF(env:Env)(it:Addr)(x:List Nat)(tx:Tok)(i:Nat)(b:Bool)(s:Shared):Prop
 |mk (h:IV env it i b s) (st:s.heap.IsStrIter it (strIterType (pyStr x)) (pyStr x) tx i)
inductive GS(env:Env)(it:Addr)(x:List Nat)(tx:Tok)(i:Nat)(b:Bool)(c:Nat)(s:Shared):Prop
 |mk (m:Str->Option Value) (t u:Tok) (old:Value) (ns:s.heap.Ns env.locals m) (he:m "escape"=some (.bool b)) (hp:m "pos"=some (.int (i:Nat) t)) (hc:m "ch"=some (.str (pyStr [c]) u)) (en:IsEnum s.heap (it+1) it (i+1:Nat) old) (st:s.heap.IsStrIter it (strIterType (pyStr x)) (pyStr x) tx (i+1))
theorem GF.moved{env it x tx i b s s'}(h:GF env it x tx i b s)(hk:∀b,(b=env.locals\/b=it\/b=it+1)->∀o,s.heap.get? b=some o->s'.heap.get? b=some o):GF env it x tx i b s':=by
 obtain⟨⟨⟨m,t,ns,he,hp⟩,⟨old,en⟩,li⟩,oi,qi,c⟩:=h;have Tw:=hk _ (.inr (.inl rfl)) _ qi;exact⟨⟨⟨m,t,ns.at fun o q=>hk _ (.inl rfl) o q,he,hp⟩,⟨old,hk _ (.inr (.inr rfl)) _ en⟩,⟨oi,Tw⟩⟩,oi,Tw,c⟩
theorem GF.agree{env it x tx i b s s₂}(h:GF env it x tx i b s){o tk}(ha:Agree env.locals it {s with toks:=tk,heap:=s.heap.push o} s₂):GF env it x tx i b s₂:=
 h.moved fun b hb o' q=>ha b hb o' (bz _ q)
theorem GS.gf{env it x tx i b c s}(h:GS env it x tx i b c s):GF env it x tx (i+1) b s:=by
 obtain⟨m,t,u,old,ns,he,hp,hc,en,oi,qi,q⟩:=h;exact⟨⟨⟨m,t,ns,he,hp⟩,⟨old,en⟩,⟨oi,qi⟩⟩,oi,qi,q⟩
theorem IV.live{env it i b s}(h:IV env it i b s):∀b,(b=env.locals\/b=it\/b=it+1)->∃o,s.heap.get? b=some o:=by
 obtain⟨⟨m,t,⟨oL,es,ep,qL,_⟩,_⟩,⟨old,en⟩,o1,q1⟩:=h;exact fun b hb=>hb.elim (fun e=>e▸⟨oL,qL⟩) fun hb=>hb.elim (fun e=>e▸⟨o1,q1⟩) fun e=>e▸⟨_,en⟩
structure rM(env:Env):Prop where
 fn:env.scope.kind= .function
 co:env.scope.isCoroutine=false
 kp:env.kindOf "pos"=some .local
 ke:env.kindOf "escape"=some .local
 kc:env.kindOf "ch"=some .local
theorem rM.hp{env:Env}(g:rM env):(env.scope.kind== .class||(env.scope.kind== .module&&env.locals != env.globals))=false:=by rw[g.fn];rfl
theorem PZ{A:Around}{e1 e2:Expr}{k:Nat}{pos:Pos}{u:Value}{Pv:Value->Prop}{E:Value->Shared->Prop}{Q:Value->Shared->Prop}
  (h1:∀E (Q:Value->Shared->Prop),Q u s->wpAny (model prog w) A (eval e1 env) Q E s) (h2:∀E (Q:Value->Shared->Prop),(∀v tk,Pv v->Q v {s with toks:=tk})->wpAny (model prog w) A (eval e2 env) Q E s)
  (he1:starEach [e1,e2] env=(false,eval e1 env)::starEach [e2] env) (he2:starEach [e2] env=(false,eval e2 env)::starEach [] env)
  (hQ:∀v tk,Pv v->Q (.ref s.heap.objs.size) {s with toks:=tk,heap:=s.heap.push {cls:=.type "tuple",data:=.seq #[u,v]} }):wpAny (model prog w) A (eval (.Tuple [e1,e2] k pos) env) Q E s:=by
 refine wpAny_Tuple (m7 (h1 _ _ (m7 (h2 _ _ fun v tk hv=>nk ⟨?_,?_⟩) he2)) he1)
 ·rw[jM];exact az (show 2<=100 by decide) (by decide)
 ·exact hQ v tk hv
theorem NU(c:Nat):((pyStr [c])==(pyStr [92]))=decide (c=92):=by
 rw[rk];by_cases h:c=92
 ·subst h;decide
 ·simp[h]
noncomputable abbrev ss(gp:Nat->Pos):List Stmt:=
 [.If (.Name "escape" (gp 20)) [.Expr (.Yield (some (.Tuple [.Name "pos" (gp 21),.BinOp (.Constant (.str "\\") 0 (gp 22)) .Add (.Name "ch" (gp 23)) (gp 24)] 0 (gp 25))) (gp 26)) (gp 27),.Assign [.Name "escape" (gp 28)] (.Constant (.bool false) 0 (gp 29)) (gp 30)]
  [.If (.Compare (.Name "ch" (gp 31)) [.Eq] [.Constant (.str "\\") 0 (gp 32)] (gp 33)) [.Assign [.Name "escape" (gp 34)] (.Constant (.bool true) 0 (gp 35)) (gp 36)] [.Expr (.Yield (some (.Tuple [.Name "pos" (gp 37),.Name "ch" (gp 38)] 0 (gp 39))) (gp 40)) (gp 41)] (gp 42)] (gp 43)]
section
variable{gp:Nat->Pos}{a1 a2 a3 a4 a5 a6 a7 a8 a9:Pos}
theorem i8{M:Model}{R:GenEnd}{Y:Protocol}{c:Code}{fs:List Frame}{z z':Bool}{a b:List Stmt}{K:Flow->Sem Fin}{H:Value->Sem Fin}{gd:Bool->Bool}{lv:List Value->List Value}(e:z=z')(h:Seg M A R Y n bn c ((execs (cond z' a b) env).wrap K H gd lv) fs s):Seg M A R Y n bn c ((if z=true then execs a env else execs b env).wrap K H gd lv) fs s:=by
 rw[e]
 induction z'<;>exact h
theorem inter(g:rM env):interactive env=false:=by unfold interactive;rw[g.fn];rfl
theorem IW(g:rM env){fs:List Frame}{c:Code}{b:Bool}{K:Flow->Sem Fin}{H:Value->Sem Fin}(IX:fs=[])(hA:(A.over c fs).handled=none)
  (hK:K .next= .pure (.done (.ret .none))) (hi:IV env it x.length b s) (k:GK env.locals it bn s) (lf:Lf items x x.length b n):
  Seg (model prog w) A (GR env.locals it) (GY env.locals it items) n bn c ((execs [.If (.Name "escape" a1) [.Expr (.Yield (some (.Tuple [.Name "pos" a2,.Constant (.str "\\") 0 a3] 0 a4)) a5) a6] [] a7] env).wrap K H id id) fs s:=by
 obtain⟨⟨m,t,hm,he,hp⟩,_⟩:=id hi;obtain⟨hn,hx,cZ⟩:=lf;rw[List.drop_length]at hn hx;refine jQ (rL fun E=>tn (fM (kB g.fn g.ke hm he (mH (i8 rfl ?_))) rfl) rfl)
 induction b with
 |false=>
  refine xO (xO ?_);rw[hK,IX];exact seg_end (.ok (.ret .none)) ⟨rfl,hn,k⟩
 |true=>
  rw[y6]at hn hx;have hc:=Lf.cut (r:=[]) hn hx cZ;rw[hn];refine jQ (seg_Expr_Yield (IX▸rfl) rfl (IX▸rfl) (PZ (u:=.int ((x.length-1:Nat):Int) t) (Pv:=fun v=>v= .str (pyStr [92]) s.toks) (fun E Q h=>fM (kB g.fn g.kp hm hp h) rfl) (fun E Q h=>tl (h _ _ rfl)) rfl rfl fun v tk hv K7 hk=>?_) g.co (inter g));rw[hv];refine IU k hi.live hc.1 fun s₂ ø=>hk _ _ (xO (xO ?_))
  rw[hK,IX];exact seg_end (.ok (.ret .none)) ⟨rfl,rfl,.refl ..⟩
noncomputable abbrev o0(gp:Nat->Pos):Expr:=.Tuple [.Name "pos" (gp 17),.Name "ch" (gp 18)] 0 (gp 19)
theorem xe{A:Around}(hA:A.handled=none):Draws prog w A.in1 it [it] (pyStr x).cps.size (fun i v=>∃c u,(pyStr x).cps[i]?=some c/\v= .str ⟨#[c]⟩ u) (fun i h=>h.IsStrIter it (strIterType (pyStr x)) (pyStr x) tx i):=by
 cases ha:(pyStr x).cps.all (· <128)
 ·rw[show strIterType (pyStr x)="str_iterator" by unfold strIterType;rw[ha];rfl];exact Draws.strWide (A:=A.in1) hA it (pyStr x) tx
 ·rw[show strIterType (pyStr x)="str_ascii_iterator" by unfold strIterType;rw[ha];rfl];exact Draws.strAscii (A:=A.in1) hA it (pyStr x) tx
theorem IY(g:rM env)(hL:env.locals≠it)(wc:env.locals≠it+1){R:GenEnd}{Y:Protocol}{fs:List Frame}{body:List Stmt}(hA:(A.over (.forLoop (o0 gp) (.ref (it+1)) body [] env) fs).handled=none){i:Nat}{b:Bool}(hI:GF env it x tx i b s){c:Nat}(hc:x[i]?=some c)
  (h:∀s' K H,K .next= .pure (.again (.forLoop (o0 gp) (.ref (it+1)) body [] env))->GK env.locals it s s'->GS env it x tx i b c s'->Seg (model prog w) A R Y n bn (.forLoop (o0 gp) (.ref (it+1)) body [] env) ((execs body env).wrap K H id id) fs s'):
  Seg (model prog w) A R Y n bn (.forLoop (o0 gp) (.ref (it+1)) body [] env) ((model prog w).den (.forLoop (o0 gp) (.ref (it+1)) body [] env)) fs s:=by
 have W:=WalksT.enumerateD (prog:=prog) (w:=w) (xe (it:=it) (x:=x) (tx:=tx) hA) (it+1) (pi _) (fun h=>pi _ (cq.mp h)) (.head _);obtain⟨⟨⟨m,t,hm,he,hp⟩,VP,_⟩,iS⟩:=hI;have sz:(pyStr x).cps.size=x.length:=cb ..;have nw:∀b,b≠it->b≠it+1->b∉[it+1,it]:=fun b q1 q2 h=>(bI.mp h).elim q2 fun h=>q1 (cq.mp h)
 refine Bb fun E=>W.item i s _ _ (sz▸(gG.mp hc).1) ⟨VP,iS⟩ fun T vals aj tk hP hT Tx Ty hk E=>?_
 obtain⟨t',v,⟨c',u,Lu,e2⟩,e1⟩:=hP;rw[e1,e2,show c'=c from Option.some.inj (Lu.symm.trans (List.getElem?_toArray.trans hc))]at Tx;refine W.go _ _ _ i T _ _ _ Ty fun aM P0 NV E=>?_
 obtain⟨oT,qT,cT,nT,dT⟩:=Tx;have Tz:aM.IsTuple T #[.int i t',.str ⟨#[c]⟩ u]:=⟨oT,NV _ _ (W.apart _ _ _ Ty) qT,cT,nT,dT⟩;obtain⟨⟨P1,hen₂⟩,oi,qi,ci⟩:=P0;have He:∀b o,b≠it->b≠it+1->s.heap.get? b=some o->aM.get? b=some o:=fun b o q1 q2 e=>NV b o (nw b q1 q2) (hk b o (nw b q1 q2) e)
 have XR:aM.Ns env.locals m:=hm.at fun o e=>He _ o hL wc e
 refine Cm hA Tz rfl rfl fun eo TA=>?_
 have Z6:∀b o,aM.get? b=some o->eo.get? b=some o:=fun b o e=>TA b o (fun z=>nomatch(z▸bE aM).symm.trans e) e
 refine aA (gH (lz (qP g.kp (XR.at fun o e=>Z6 _ o e) (fun x8 TB o6=>?_) g.hp)));refine aA (gH (lz (qP g.kc TB (fun sK IZ u5=>bK fun K H hK=>?_) g.hp)));have P2:∀b o,b≠env.locals->aM.get? b=some o->sK.get? b=some o:=fun b o q e=>(u5.2 b q).trans ((o6.2 b q).trans (Z6 b o e))
 exact h _ K H (hK .next) ⟨fun b o q0 q1 q2 e=>P2 b o q0 (He b o q1 q2 e),rfl,rfl⟩ ⟨_,t',u,P1,IZ,(au (by decide+kernel)).trans ((au (by decide+kernel)).trans he),(au (by decide+kernel)).trans (aw rfl),aw rfl,P2 _ _ (ft wc) hen₂,oi,P2 _ _ (ft hL) qi,ci⟩
noncomputable def SL(prog:Program)(w:World)(A:Around)(env:Env)(it:Addr)(items:List (Nat×List Nat))(gp:Nat->Pos)(fs:List Frame)(n:Nat)(bn:Shared)(K:Sem Fin)(s:Shared):Prop:=Seg (model prog w) A (GR env.locals it) (GY env.locals it items) n bn (.forLoop (o0 gp) (.ref (it+1)) (ss gp) [] env) K fs s
theorem u6(g:rM env)(hL:env.locals≠it)(wc:env.locals≠it+1){A:Around}{i:Nat}{b b':Bool}(hf:GF env it x tx i b s){E:Value->Shared->Prop}{Q:Unit->Shared->Prop}(h:∀s',GK env.locals it s s'->GF env it x tx i b' s'->Q () s'):
  wpAny (model prog w) A (storeName env "escape" (.bool b')) Q E s:=by
 obtain⟨⟨⟨m,t,ns,he,hp⟩,⟨old,en⟩,li⟩,oi,qi,c⟩:=hf;refine qP g.ke ns (fun sK IZ u5=>?_) g.hp;have P2:∀b o,b≠env.locals->s.heap.get? b=some o->sK.get? b=some o:=fun b o q e=>(u5.2 b q).trans e
 have Tw:=P2 _ _ (ft hL) qi;exact h _ ⟨fun b o q1 ø ø e=>P2 b o q1 e,rfl,rfl⟩ ⟨⟨⟨_,t,IZ,aw rfl,(au (by decide+kernel)).trans hp⟩,⟨old,P2 _ _ (ft wc) en⟩,⟨oi,Tw⟩⟩,oi,Tw,c⟩
section
variable{fs:List Frame}{i c:Nat}{K:Flow->Sem Fin}{H:Value->Sem Fin}
theorem Ma(g:rM env)(hL:env.locals≠it)(wc:env.locals≠it+1)(IX:splitAtGen fs=none)(RA:fs.any Frame.guarded=false)(hit:items[items.length-(n+1)]?=some (i,[92,c]))(k:GK env.locals it bn s)(gs:GS env it x tx i true c s)
  (next:∀s₂ s',GK env.locals it s₂ s'->GF env it x tx (i+1) false s'->SL prog w A env it items gp fs n s₂ (K .next) s'):SL prog w A env it items gp fs (n+1) bn ((execs (ss gp) env).wrap K H id id) s:=by
 obtain⟨m,t,u,old,hm,he,hp,hch,_⟩:=id gs;refine jQ (rL fun E=>tn (fM (kB g.fn g.ke hm he (mH (i8 rfl ?_))) rfl) rfl);refine jQ (seg_Expr_Yield IX rfl RA (PZ (u:=.int (i:Nat) t) (Pv:=fun v=>∃u',v= .str (pyStr [92,c]) u') (fun E Q h=>fM (kB g.fn g.kp hm hp h) rfl)
  (fun E Q h=>wpAny_BinOp (tl (fM (kB g.fn g.kc hm hch (add_str (fun t' tk=>h _ _ ⟨_,rfl⟩) ?_)) rfl))) rfl rfl fun v tk hv K7 hk=>?_) g.co (inter g))
 ·rw[jM];show 1+1<=_;decide
 ·obtain⟨u',e⟩:=hv
  rw[e];exact IU k gs.gf.1.live hit fun s₂ ha=>hk _ _ (jQ (y5 fun E=>qQ (xz (u6 g hL wc (gs.gf.agree ha) fun h' k' f'=>next s₂ _ k' f')) rfl))
theorem Mb(g:rM env)(hL:env.locals≠it)(wc:env.locals≠it+1)(k:GK env.locals it bn s)(gs:GS env it x tx i false 92 s)
  (next:∀s',GK env.locals it bn s'->GF env it x tx (i+1) true s'->SL prog w A env it items gp fs n bn (K .next) s'):SL prog w A env it items gp fs n bn ((execs (ss gp) env).wrap K H id id) s:=by
 obtain⟨m,t,u,old,hm,he,hp,hch,_⟩:=id gs;refine jQ (rL fun E=>tn (fM (kB g.fn g.ke hm he (mH (i8 rfl ?_))) rfl) rfl);refine jQ (rL fun E=>tm (fM (kB g.fn g.kc hm hch (tl (eq_str (mH (i8 (NU 92) ?_))))) rfl) rfl);exact jQ (y5 fun E=>qQ (xz (u6 (s:={s with toks:=s.toks+1}) g hL wc (gs.gf.moved fun ø ø ø q=>q) fun h' k' f'=>next _ (k.trans ⟨k'.1,k'.2,k'.3⟩) f')) rfl)
theorem Mc(g:rM env)(IX:splitAtGen fs=none)(RA:fs.any Frame.guarded=false)(hc:c≠92)(hit:items[items.length-(n+1)]?=some (i,[c]))(k:GK env.locals it bn s)(gs:GS env it x tx i false c s)
  (next:∀s₂,GF env it x tx (i+1) false s₂->SL prog w A env it items gp fs n s₂ (K .next) s₂):SL prog w A env it items gp fs (n+1) bn ((execs (ss gp) env).wrap K H id id) s:=by
 obtain⟨m,t,u,old,hm,he,hp,hch,_⟩:=id gs;refine jQ (rL fun E=>tn (fM (kB g.fn g.ke hm he (mH (i8 rfl ?_))) rfl) rfl);refine jQ (rL fun E=>tm (fM (kB g.fn g.kc hm hch (tl (eq_str (mH (i8 ((NU c).trans (db hc)) ?_))))) rfl) rfl);refine jQ (seg_Expr_Yield IX rfl RA (PZ (u:=.int (i:Nat) t) (Pv:=fun v=>v= .str (pyStr [c]) u) (fun E Q h=>fM (kB g.fn g.kp hm hp h) rfl) (fun E Q h=>fM (kB g.fn g.kc hm hch (h _ _ rfl)) rfl) rfl rfl fun v tk hv K7 hk=>?_) g.co (inter g));rw[hv];exact IU (s:={s with toks:=s.toks+1}) ⟨k.1,k.2,k.3⟩ gs.gf.1.live hit fun s₂ ha=>hk _ _ (next s₂ (gs.gf.agree ha))
end
theorem I0(g:rM env)(hL:env.locals≠it)(wc:env.locals≠it+1){fs:List Frame}(IX:splitAtGen fs=none)(RA:fs.any Frame.guarded=false)
  (hA:(A.over (.forLoop (o0 gp) (.ref (it+1)) (ss gp) [] env) fs).handled=none)
  (Df:∀b bn s n,IV env it x.length b s->GK env.locals it bn s->Lf items x x.length b n->Seg (model prog w) A (GR env.locals it) (GY env.locals it items) n bn (.block [] env) (leafOf (.ok .next)) fs s):
  ∀k i b bn s n,i+k=x.length->Lf items x i b n->GF env it x tx i b s->GK env.locals it bn s->SL prog w A env it items gp fs n bn ((model prog w).den (.forLoop (o0 gp) (.ref (it+1)) (ss gp) [] env)) s:=by
 intro k
 induction k with
 |zero=>
  intro i b bn s n (e:i=_) lf hI k;obtain⟨⟨⟨m,t,hm,he,hp⟩,⟨old,VP⟩,_⟩,iS⟩:=hI;refine Bb fun E=>IT hA VP iS (Array.getElem?_eq_none (e▸je (cb ..))) fun h' zS lS=>?_
  rw[e]at hp lf;exact Df b bn _ n ⟨⟨m,t,hm.at fun o e=>zS _ o hL e,he,hp⟩,⟨old,zS _ _ (pi _) (e▸VP)⟩,lS⟩ (k.trans (.heap (tk:=s.toks) fun b o h1 h2 h3 e=>zS b o h2 e)) lf
 |succ k ih=>
  intro i b bn s n hk lf hI k₀;have eu:i<x.length:=by omega
  have K6:i+1+k=x.length:=by omega
  have hc:=iG eu;refine IY g hL wc hA hI hc fun s' K H hK k' gs=>?_
  have go:∀n b' bn s,Lf items x (i+1) b' n->GF env it x tx (i+1) b' s->GK env.locals it bn s->SL prog w A env it items gp fs n bn (K .next) s:=fun n b' bn s lf hf k=>by
   rw[hK];exact seg_again rfl (ih (i+1) b' bn s n K6 lf hf k)
  have hd:=List.drop_eq_getElem_cons eu
  induction b with
  |false=>
   by_cases VR:x[i]=92
   ·exact Mb g hL wc (k₀.trans k') (VR▸gs) fun s₂ k₂ P3=>go n true bn s₂ (lf.same (by rw[hd,sZ,aw VR])) P3 k₂
   ·obtain⟨n',e,hit,lf'⟩:=lf.cons (i':=i+1) (b':=false) (p:=(i,[x[i]])) (by rw[hd,sZ,au VR])
    rw[e];exact Mc g IX RA VR hit (k₀.trans k') gs fun s₂ P3=>go n' false s₂ s₂ lf' P3 (.refl ..)
  |true=>
   obtain⟨n',e,hit,lf'⟩:=lf.cons (i':=i+1) (b':=false) (p:=(i,[92,x[i]])) (by rw[hd,y8]);rw[e];exact Ma g hL wc IX RA hit (k₀.trans k') gs fun s₂ s₃ CU XS=>go n' false s₂ s₃ lf' XS CU
end
end
end
section
section
variable{prog:Program}{w:World}{A:Around}{E:Value->Shared->Prop}{s:Shared}
theorem Be{a:Addr}{g n:Nat}{gs:GenState}{L it:Addr}{Y:Protocol}{Q:Option Value->Shared->Prop}(hh:A.handled=none)(hl:s.heap.NoLimit)(ER:A.depth<recursionLimit)(hg:s.heap.IsGen a g)(Bf:s.gens[g]?=some gs)
  (XU:gs.Goes (model prog w) A.in1 (GR L it) Y n (.send .none) (s.setGen g .running))
  (hY:∀v s₁ gs',gs'.bare=true->Y (n-1) (s.setGen g .running) v s₁ (fun r' gZ=>match n with|0=>False|m+1=>gs'.Goes (model prog w) A.in1 (GR L it) Y m r' gZ)->Q (some v) (s₁.setGen g gs'))
  (hP:∀s₁,GP L it n (s.setGen g .running) s₁->∀h',(∀b o,s₁.heap.get? b=some o->h'.get? b=some o)->Q none {s₁.setGen g .finished with heap:=h'}):wpAny (model prog w) A (pyNext (.ref a)) Q E s:=by
 have LA:gs≠ .running/\gs≠ .finished:=⟨fun e=>by subst e;exact XU.elim,fun e=>by subst e;exact XU.elim⟩;refine aA (tG (oQ hg.typeIs slot_gen_next (lE slot_gen_next hg.typeIs entry_gen_next ?_ (args_gen_next _))));show wpAny _ A.in1 (Builtin.Generator.genWake (.ref a) (.send .none)) _ _ s;unfold Builtin.Generator.genWake;refine aA (gH (wpAny_genNumber hg (aA (wpAny_genState Bf ?_))))
 cases gs with
 |running=>exact absurd rfl LA.1
 |finished=>exact absurd rfl LA.2
 |_=>
  refine aA (wpAny_roomToWake hl ER ?_);show wpAny _ A.in1 (.resume g (.send .none) [] _) _ _ s;refine wpAny_resumeQ Bf XU (fun x s₁ hx=>?_) (fun v s₁ gs' hb hv=>?_)
  ·obtain⟨rfl,hp⟩:=hx
   show wpAny _ A.in1 (newExc (.type "StopIteration") []>>= _) _ _ _;refine aA (Bc fun h' e hk he=>aA (wpAny_raiseNew_none hh ?_));obtain⟨o,ho,hc⟩:=he;refine aA (wpAny_isInstance (T:="StopIteration") (b:=true) ⟨o,ho,hc⟩ isSubtype_stop ?_);exact bK (hP s₁ hp _ hk)
  ·exact bK ⟨v,rfl,bK (hY v s₁ gs' hb hv)⟩
end
inductive I1(P:Pk)(hid:List Addr)(x:V)(St:List Addr->List Addr->Nat->Shared->Prop)(i:Nat)(I:Addr)(W:List Addr)(gi:Option Nat)(s s':Shared)(r:Option Value):Prop
 |mk (v:Value) (X:List Addr) (e:r=some v) (n:∀a∈X,s.heap.get? a=none) (l:cD s'.heap X) (d:Dn P s'.heap (X++hid) x v) (st:St (X++W) (X++hid) (i+1) s') (q:Quiet s' I) (mv:Mv W gi s s'):I1 P hid x St i I W gi s s' r
structure I2(P:Pk)(A:Around)(I:Addr)(gi:Option Nat)(xs:List V)(St:List Addr->List Addr->Nat->Shared->Prop):Prop where
 frame:∀W hid ar i s s',(∀a∈W,a∈hid)->St W hid i s->Ks W hid ar s s'->St W ar i s'
 item:∀W hid i s x (E:Value->Shared->Prop),xs[i]?=some x->(∀a∈W,a∈hid)->P.G s.heap->cD s.heap hid->St W hid i s->
  wpAny (model P.prog P.w) A (pyNext (.ref I)) (fun r s'=>I1 P hid x St i I W gi s s' r) E s
 done:∀W hid s (E:Value->Shared->Prop),(∀a∈W,a∈hid)->P.G s.heap->cD s.heap hid->St W hid xs.length s->wpAny (model P.prog P.w) A (pyNext (.ref I)) (fun r s'=>r=none/\Mv0 W gi s s') E s
noncomputable abbrev mU(p:Nat×List Nat):V:=.tup [.int p.1,.str p.2]
section
variable{P:Pk}{A:Around}{a L g:Nat}{items:List (Nat×List Nat)}
inductive XV(P:Pk)(A:Around)(a L:Nat)(items:List (Nat×List Nat))(W:List Addr)(i:Nat)(s:Shared)(gs:GenState):Prop
 |mk (e:i=0) (w:W=[a,L]) (h:∀s₂,(∀o,s.heap.get? L=some o->s₂.heap.get? L=some o)->P.G s₂.heap->gs.Goes (model P.prog P.w) A.in1 (GR L s₂.heap.objs.size) (GY L s₂.heap.objs.size items) items.length (.send .none) s₂):XV P A a L items W i s gs
inductive XW(P:Pk)(A:Around)(a L:Nat)(items:List (Nat×List Nat))(W:List Addr)(i:Nat)(s:Shared)(gs:GenState):Prop
 |mk (it:Nat) (h0:0<i) (h1:i<=items.length) (w:W=[it,it+1,a,L]) (n1:a≠it) (n2:a≠it+1) (l1:∃o,s.heap.get? it=some o) (l2:∃o,s.heap.get? (it+1)=some o) (h:∀s₂,Agree L it s s₂->gs.Goes (model P.prog P.w) A.in1 (GR L it) (GY L it items) (items.length-i) (.send .none) s₂):XW P A a L items W i s gs
inductive RB(P:Pk)(A:Around)(a L g:Nat)(items:List (Nat×List Nat))(W hid:List Addr)(i:Nat)(s:Shared):Prop
 |mk (gs:GenState) (hg:s.heap.IsGen a g) (Bf:s.gens[g]?=some gs) (n:a≠L) (l:∃o,s.heap.get? L=some o) (wa:a∈W) (wl:L∈W) (h:XV P A a L items W i s gs\/XW P A a L items W i s gs):RB P A a L g items W hid i s
theorem Bg{s s₁:Shared}{g:Nat}{gs gs':GenState}(hg:s.gens[g]?=some gs)(e:s₁.gens=(s.setGen g .running).gens):(∀(i:Nat) x,(some g:Option Nat)≠some i->s.gens[i]?=some x->(s₁.setGen g gs').gens[i]?=some x)/\(s₁.setGen g gs').gens[g]?=some gs':=by
 refine⟨fun i x hi hx=>?_,?_⟩
 ·have:g≠i:=fun z=>hi (by rw[z])
  simp only[Shared.setGen,e,Array.getElem?_setIfInBounds,au this];exact hx
 ·have eu:g<s.gens.size:=(xD.mp hg).1
  simp[Shared.setGen,e,eu]
theorem xg{s s₁:Shared}{g:Nat}{gs':GenState}(e:s₁.gens=(s.setGen g .running).gens)(hb:gs'.bare=true)(h:AllBare s.gens):AllBare (s₁.setGen g gs').gens:=by
 intro y hy;simp only[Shared.setGen,e,Array.setIfInBounds_setIfInBounds]at hy;rcases Array.mem_or_eq_of_mem_setIfInBounds hy with q|rfl
 ·exact h _ q
 ·exact hb
inductive TE(P:Pk)(A:Around)(a L g:Nat)(items:List (Nat×List Nat))(W:List Addr)(i:Nat)(s:Shared)(gs:GenState):Prop
 |mk (X:List Addr) (it:Nat) (w:X++W=[it,it+1,a,L]) (x:∀b∈X,s.heap.get? b=none) (n1:a≠it) (n2:a≠it+1) (go:gs.Goes (model P.prog P.w) A.in1 (GR L it) (GY L it items) (items.length-i) (.send .none) (s.setGen g .running)):TE P A a L g items W i s gs
theorem TE.of{W:List Addr}{i:Nat}{s:Shared}{gs:GenState}(hG:P.G s.heap)(ha:∃o,s.heap.get? a=some o)(h:XV P A a L items W i s gs\/XW P A a L items W i s gs):TE P A a L g items W i s gs:=by
 rcases h with⟨e,w,h⟩|⟨it,h0,h1,w,n1,n2,h4,h5,h6⟩
 ·obtain⟨o,ho⟩:=ha
  have old:∀b,s.heap.objs.size<=b->s.heap.get? b=none:=fun b h=>by
   induction e:s.heap.get? b with
   |none=>rfl
   |some o=>exact absurd (ew e) (gY.mpr h)
  rw[w,e];exact⟨[s.heap.objs.size,s.heap.objs.size+1],s.heap.objs.size,rfl,fun b hb=>old b ((bI.mp hb).elim (fun e=>je e.symm) fun h=>cq.mp h▸kH _),nf (ew ho),nf (kK (ew ho)),h (s.setGen g .running) (fun ø e=>e) hG⟩
 ·rw[w]
  exact⟨[],it,rfl,fun b hb=>(nomatch hb),n1,n2,h6 (s.setGen g .running) fun b hb o e=>e⟩
theorem RB.frame{W hid ar:List Addr}{i:Nat}{s s':Shared}(st:RB P A a L g items W hid i s)(k:Ks W hid ar s s'):RB P A a L g items W ar i s':=by
 obtain⟨gs,⟨oa,nm,qn,hoa,ra⟩,Bf,P4,⟨oL,qL⟩,wa,wl,h⟩:=st;have hk:∀b∈W,∀o,s.heap.get? b=some o->s'.heap.get? b=some o:=fun b hb o e=>k.keep b o (.inr hb) e
 refine⟨gs,⟨oa,nm,qn,hk a wa _ hoa,ra⟩,k.gens.1 _ _ Bf,P4,⟨oL,hk L wl _ qL⟩,wa,wl,?_⟩;rcases h with⟨e,w,h⟩|⟨it,h0,h1,w,n1,n2,⟨o1,h4⟩,⟨o2,h5⟩,h6⟩
 ·exact .inl ⟨e,w,fun s₂ q=>h s₂ fun o e=>q o (hk L wl o e)⟩
 ·have m0:it∈W:=w▸ .head _
  have m1:it+1∈W:=w▸ .tail _ (.head _);exact .inr ⟨it,h0,h1,w,n1,n2,⟨o1,hk it m0 _ h4⟩,⟨o2,hk _ m1 _ h5⟩,fun s₂ q=>h6 s₂ fun b hb o e=>q b hb o (hk b (hb.elim (fun z=>z▸wl) fun hb=>hb.elim (fun z=>z▸m0) fun z=>z▸m1) o e)⟩
theorem I3{it b:Nat}{X W:List Addr}(w:X++W=[it,it+1,a,L]){s:Shared}(hX:∀b∈X,s.heap.get? b=none)(hb:b∉W){o}(e:s.heap.get? b=some o):b≠L/\b≠it/\b≠it+1:=by
 have h:b∉[it,it+1,a,L]:=w▸fun h=>(bZ.mp h).elim (fun h=>nomatch(hX b h).symm.trans e) hb
 exact⟨fun z=>h (z▸ .tail _ (.tail _ (.tail _ (.head _)))),fun z=>h (z▸ .head _),fun z=>h (z▸ .tail _ (.head _))⟩
theorem I4{W hid:List Addr}{i m:Nat}{s s₁:Shared}{gs gs':GenState}{v:Value}{pc:Nat×List Nat}(TF:items[i]?=some pc)(hm:items.length-i=m+1)(live:cD s.heap hid)(hg:s.heap.IsGen a g)(Bf:s.gens[g]?=some gs)(P4:a≠L)
  {X:List Addr} {it:Nat} (w:X++W=[it,it+1,a,L]) (hX:∀b∈X,s.heap.get? b=none) (n1:a≠it) (n2:a≠it+1) (hb:gs'.bare=true)
  (hv:GY L it items m (s.setGen g .running) v s₁ fun r' gZ=>gs'.Goes (model P.prog P.w) A.in1 (GR L it) (GY L it items) m r' gZ):I1 P hid (mU pc) (RB P A a L g items) i a W (some g) s (s₁.setGen g gs') (some v):=by
 obtain⟨k,lv,⟨p,str,T,t1,t2,hit,ev,hT,Z7,hTL,hT0,hT1⟩,P5⟩:=hv;obtain⟨oa,nm,qn,hoa,ra⟩:=hg;have hi:i<items.length:=(gG.mp TF).1;have ON:items.length-(i+1)=m:=congrArg Nat.pred hm;rw[show items.length-(m+1)=i from hm▸Nat.sub_sub_self (dU hi),TF]at hit;rw[Option.some.inj hit];have ka:=k.keep a _ P4 n1 n2 hoa;have l4:∀b∈X++W,∃o,s₁.heap.get? b=some o:=w▸fun b hb=>(bI.mp hb).elim (fun e=>lv b (.inr (.inl e))) fun hb=>(bI.mp hb).elim (fun e=>lv b (.inr (.inr e))) fun hb=>(bI.mp hb).elim (fun e=>e▸⟨oa,ka⟩) fun hb=>lv b (.inl (cq.mp hb))
 have hTX:T∉X++W:=w▸fun hb=>(bI.mp hb).elim hT0 fun hb=>(bI.mp hb).elim hT1 fun hb=>(bI.mp hb).elim (fun e=>nomatch(e▸Z7:s.heap.get? a=none).symm.trans hoa) fun hb=>hTL (cq.mp hb)
 obtain⟨q1,q2⟩:=Bg (gs':=gs') Bf k.gens;refine⟨v,X,rfl,hX,fun b hb=>l4 b (cP _ hb),?_,?_,⟨oa,"generator",ka,ra.1,by decide⟩,⟨⟨fun b o hb e=>?_,q1,xg k.gens hb,k.os⟩,fun b hb=>l4 b (ck _ hb)⟩⟩
 ·rw[ev]
  exact Dn.Hk (fun hm=>(bZ.mp hm).elim (fun h=>hTX (cP _ h)) fun h=>(live T h).elim fun o e=>nomatch(Z7:s.heap.get? T=none).symm.trans e) hT (.cons (Dn.ofInt (P:=P) _ _) (.cons (Dn.ofStr (P:=P) _ _) .nil))
 ·rw[w]
  exact⟨gs',⟨oa,nm,qn,ka,ra⟩,q2,P4,lv L (.inl rfl),.tail _ (.tail _ (.head _)),.tail _ (.tail _ (.tail _ (.head _))),.inr ⟨it,jf _,hi,rfl,n1,n2,lv _ (.inr (.inl rfl)),lv _ (.inr (.inr rfl)),fun s₂ ha=>ON▸P5 s₂ ha⟩⟩
 ·have h:=I3 w hX hb e
  exact k.keep b o h.1 h.2.1 h.2.2 e
theorem rl.gen(hh:A.handled=none)(ER:A.depth<recursionLimit):I2 P A a (some g) (items.map mU) (RB P A a L g items)where
 frame:=fun W hid ar i s s' hW st k=>st.frame k
 item:=fun W hid i s x E hx hW hG live st=>by
  obtain⟨gs,hg,Bf,P4,hL,wa,wl,h⟩:=st;rw[dh]at hx;refine cI hx fun pc TF ex=>?_
  obtain⟨m,ON⟩:=Nat.exists_eq_succ_of_ne_zero (Nat.sub_ne_zero_of_lt (gG.mp TF).1);obtain⟨X,it,w,hX,n1,n2,go⟩:=TE.of (g:=g) hG (hg.elim fun o q=>q.elim fun ø q=>q.elim fun ø q=>⟨o,q.1⟩) h;rw[ON]at go;exact Be hh (P.nolim hG) ER hg Bf go (fun v s₁ gs' hb hv=>ex▸I4 TF ON live hg Bf P4 w hX n1 n2 hb hv) fun s₁ hp h' hk=>nomatch hp.1
 done:=fun W hid s E hW hG live st=>by
  obtain⟨gs,hg,Bf,P4,hL,wa,wl,h⟩:=st;obtain⟨X,it,w,hX,n1,n2,go⟩:=TE.of (g:=g) hG (hg.elim fun o q=>q.elim fun ø q=>q.elim fun ø q=>⟨o,q.1⟩) h;rw[List.length_map,tI]at go;refine Be hh (P.nolim hG) ER hg Bf go (fun v s₁ gs' hb hv=>?_) fun s₁ hp h' hk=>?_
  ·obtain⟨_,_,_,P5⟩:=hv
   exact(P5 s₁ fun ø ø ø e=>e).elim
  ·obtain⟨_,k⟩:=hp
   obtain⟨q1,q2⟩:=Bg (gs':=.finished) Bf k.gens;refine⟨rfl,fun b o hb e=>?_,q1,xg k.gens rfl,k.os⟩;have h:=I3 w hX hb e;exact hk b o (k.keep b o h.1 h.2.1 h.2.2 e)
end
end
section
variable{P:Pk}{n:Nat}{K:Cx}{lo:Bool}
noncomputable def qm(h h':Heap)(W:List Addr):Heap:={h' with objs:=h'.objs.mapIdx fun i o=>if i∈W then(h.objs[i]?).getD o else o}
theorem Md(h h':Heap)(W:List Addr){a:Addr}(lW:cD h' W)(lW':cD h W):(qm h h' W).get? a=if a∈W then h.get? a else h'.get? a:=by
 have key:∀o,(qm h h' W).get? a=some o<->(if a∈W then h.get? a else h'.get? a)=some o:=by
  intro o;rw[tF];unfold qm;simp only[Array.getElem?_mapIdx,np];by_cases hm:a∈W
  ·simp only[hm,jL]
   obtain⟨o1,q1⟩:=lW a hm;obtain⟨o2,q2⟩:=lW' a hm;have e1:=((tF _ _ _).mp q1).1;have e2:=(tF _ _ _).mp q2;rw[q2];constructor
   ·rintro⟨⟨x,hx,rfl⟩,h2⟩
    rw[e2.1];rfl
   ·intro q
    cases q;exact⟨⟨o1,e1,by rw[e2.1];rfl⟩,e2.2⟩
  ·simp only[hm,gX]
   rw[tF];constructor
   ·rintro⟨⟨x,hx,rfl⟩,h2⟩;exact⟨hx,h2⟩
   ·rintro⟨h1,h2⟩;exact⟨⟨o,h1,rfl⟩,h2⟩
 cases e:(if a∈W then h.get? a else h'.get? a)with
 |none=>
  cases e':(qm h h' W).get? a with
  |none=>rfl
  |some o=>have:=(key o).mp e';rw[e]at this;cases this
 |some o=>exact(key o).mpr e
theorem aU.TG{env:Env}{out hid W X:List Addr}{gi:Option Nat}{m}{B s s':Shared}{ρ}(S:aU P K env out hid m B s ρ)(Rr:∀a∈W,a∈out)(v:Mv W gi s s')(hW:∀a∈W,B.heap.get? a=none)(hg:∀g,gi=some g->B.gens.size<=g)
  (hX:∀a∈X,s.heap.get? a=none) (lX:cD s'.heap X):aU P K env (X++out) (X++hid) m B s' ρ:=by
 have lW:cD s.heap W:=fun a h=>S.live a (S.oh a (Rr a h))
 let sm:Shared:={s with heap:=qm s.heap s'.heap W}
 have P6:∀a,sm.heap.get? a=if a∈W then s.heap.get? a else s'.heap.get? a:=fun a=>Md _ _ W v.live lW
 have k1:Kp s sm:=⟨fun b o h=>by
  rw[P6];by_cases hm:b∈W
  ·rw[aw hm];exact h
  ·rw[au hm];exact v.keep b o hm h,.refl _,rfl⟩
 have lX':cD sm.heap X:=fun a h=>by
  rw[P6];have:a∉W:=fun q=>by obtain⟨o,e⟩:=lW a q;rw[hX a h]at e;cases e
  rw[au this];exact lX a h
 have S1:=S.outer k1 hX lX';have v1:Mv W gi sm s':=⟨⟨fun b o hb h=>by rw[P6,au hb]at h;exact h,v.gens,v.bare,v.os⟩,v.live⟩;exact S1.step (fun a h=>ck _ (Rr a h)) v1 hW hg
inductive wo(P:Pk)(A:Around)(hid:List Addr)(xs:List V)(s s₂:Shared)(it:Value):Prop
 |mk (I:Addr) (W:List Addr) (gi:Option Nat) (St:List Addr->List Addr->Nat->Shared->Prop) (e:it= .ref I) (k:Kp s s₂) (h:I2 P A I gi xs St) (f:∀a∈W,s.heap.get? a=none) (l:cD s₂.heap W) (g:∀g,gi=some g->s.gens.size<=g) (st:St W (W++hid) 0 s₂):wo P A hid xs s s₂ it
noncomputable def TH(P:Pk)(n:Nat)(K:Cx)(e:Expr)(f:ao->Option (List V)):Prop:=
 ∀(A:Around) (env:Env) (out hid:List Addr) (m:Str->Option Value) (B s:Shared) (ρ:ao) (xs:List V) (E:Value->Shared->Prop),cJ n A->aU P K env out hid m B s ρ->f ρ=some xs->
  wpAny (model P.prog P.w) A (eval e env) (fun v s₁=>∀E,wpAny (model P.prog P.w) A (pyIter v) (fun it s₂=>wo P A hid xs s s₂ it) E s₁) E s
theorem Rp.less{h:Heap}{out out':List Addr}{fl:Fl}{f:Flow}(x:Rp P h out fl f)(hs:∀a∈out',a∈out):Rp P h out' fl f:=by
 cases fl with
 |ret v=>exact x.elim fun u q=>⟨u,q.1,q.2.less hs⟩
 |_=>exact x
inductive VS(P:Pk)(K:Cx)(env:Env)(out hid:List Addr)(B s:Shared)(St:List Addr->List Addr->Nat->Shared->Prop)(i:Nat)(ρ:ao)(s':Shared):Prop
 |mk (W ar:List Addr) (m':Str->Option Value) (S:aU P K env (W++out) ar m' B s' ρ) (K':Ks out hid ar s s') (wh:∀a∈W,a∈ar) (w:∀a∈W,s.heap.get? a=none) (st:St W ar i s'):VS P K env out hid B s St i ρ s'
inductive Me(P:Pk)(K:Cx)(env:Env)(out hid:List Addr)(B s:Shared)(xs:List V)(asg:ao->V->Option ao)(bf:ao->Option (ao×Fl))(aQ:ao)(fl:Fl)(St:List Addr->List Addr->Nat->Shared->Prop)(k:Nat)(s':Shared):Prop
 |mk (i:Nat) (am:ao) (e:k+i=xs.length) (F:VS P K env out hid B s St i am s') (l:gy asg bf (xs.drop i) am=some (aQ,fl)):Me P K env out hid B s xs asg bf aQ fl St k s'
section
variable{lc:Bool}{target:Expr}{body:List Stmt}{asg:ao->V->Option ao}{bf:ao->Option (ao×Fl)}{A:Around}{env:Env}{out hid:List Addr}{B s s':Shared}{xs:List V}{E:Value->Shared->Prop}{I:Addr}{gi:Option Nat}{St:List Addr->List Addr->Nat->Shared->Prop}{Q:Flow->Shared->Prop}
theorem I6(rm:cJ n A)(ha:En P K lc target asg)(hb:oo P n K body bf)(hI:I2 P A I gi xs St)(hg:∀g,gi=some g->s.gens.size<=g)(NC:∀g,gi=some g->B.gens.size<=g)(hB:∀a,s.heap.get? a=none->B.heap.get? a=none){i:Nat}{x:V}{am di u7:ao}{fl:Fl}{J:Shared->Prop}
  (hx:xs[i]?=some x) (F:VS P K env out hid B s St i am s') (h1:asg am x=some di) (h2:bf di=some (u7,fl)) (hJ:∀dG rn,VS P K env out hid B s St (i+1) u7 rn->Rp P rn.heap out fl dG->FB Q J dG rn):
  wpAny (model P.prog P.w) A (pyNext (.ref I)) (FT P A E env Q target body J (.ref I)) (FE P A E env) s':=by
 obtain⟨W,ar,m',S',K',Ce,hW,Cf⟩:=F;refine aD (hI.item W ar i s' x _ hx Ce S'.G S'.live Cf) (fun r s₃ eo=>?_) fun ø ø q=>q
 obtain⟨v,X,er,hX,lX,hv,TJ,hq,mv⟩:=eo;rw[er];have TK:=S'.TG (fun a h=>cP _ h) mv (fun a h=>hB a (hW a h)) NC hX lX;have rr:aU P K env ((X++W)++out) (X++ar) m' B s₃ am:=by rw[List.append_assoc];exact TK
 have Z8:∀a∈X,s.heap.get? a=none:=fun a h=>by
  induction e:s.heap.get? a with
  |none=>rfl
  |some o=>
   by_cases q:a∈hid
   ·exact(S'.live a (K'.sub a q)).elim fun o' e'=>nomatch e'.symm.trans (hX a h)
   ·exact nomatch(K'.keep a o (.inl q) e).symm.trans (hX a h)
 have k1:=K'.mv mv.toMv0 hW hg;have O8:Ks out hid (X++ar) s s₃:=⟨k1.keep,fun a h=>(bZ.mp h).elim (fun q=>.inr (Z8 a q)) (k1.new a),fun a h=>ck _ (k1.sub a h),k1.gens,k1.os⟩;have P7:∀a∈X++W,a∈X++ar:=fun a h=>(bZ.mp h).elim (fun q=>cP _ q) fun q=>ck _ (Ce a q)
 refine zZ hq (aD (ha A env _ _ m' B s₃ am di x v _ rm.handled rr h1 hv) (fun ø j8 x8=>?_) fun ø ø q=>q);obtain⟨Dg,Ly,ru,FR,_⟩:=x8;refine aD (hb A env _ Dg Ly B j8 di u7 fl _ rm ru h2) (fun f rn sK=>?_) fun ø ø q=>q
 obtain⟨y9,P8,P9,I7,pT⟩:=sK;exact hJ f rn ⟨X++W,y9,P8,P9,(O8.behind FR).behind I7,fun a h=>I7.sub a (FR.sub a (P7 a h)),fun a h=>(bZ.mp h).elim (Z8 a) (hW a),
  hI.frame _ Dg y9 (i+1) j8 rn (fun a h=>FR.sub a (P7 a h)) (hI.frame _ _ Dg (i+1) s₃ j8 P7 TJ (FR.only fun a h=>cP _ h)) (I7.only fun a h=>cP _ h)⟩ (pT.less fun a h=>ck _ h)
theorem I8(rm:cJ n A)(ha:En P K lc target asg)(hb:oo P n K body bf)(hI:I2 P A I gi xs St)(hg:∀g,gi=some g->s.gens.size<=g)(NC:∀g,gi=some g->B.gens.size<=g)(hB:∀a,s.heap.get? a=none->B.heap.get? a=none)(hl:cD s.heap hid)(ho:∀a∈out,a∈hid){aQ:ao}{fl:Fl}
  (hQ:∀dG s',Hc P K env out hid B s s' aQ fl dG->Q dG s') {k:Nat} (h:Me P K env out hid B s xs asg bf aQ fl St k s'):wpAny (model P.prog P.w) A (pyNext (.ref I)) (FT P A E env Q target body (fun t=>∃m,m<k/\Me P K env out hid B s xs asg bf aQ fl St m t) (.ref I)) (FE P A E env) s':=by
 obtain⟨i,am,e,F,lS⟩:=h;by_cases eu:i<xs.length
 ·obtain⟨j,hj⟩:=Nat.exists_eq_add_of_lt eu
  have hk:k=j+1:=by omega
  have Sl:j+(i+1)=xs.length:=by omega
  rw[List.drop_eq_getElem_cons eu]at lS;refine ak lS fun di h1 lS=>ak lS fun XX h2 lS=>?_
  obtain⟨u7,fl₃⟩:=XX;refine I6 rm ha hb hI hg NC hB (iG eu) F h1 h2 fun dG rn Qa pT=>?_
  have Z9:∀{TL:ao} {fl':Fl} {dG:Flow},some (u7,fl')=some (TL,fl)->TL=aQ->Rp P rn.heap out fl' dG->Q dG rn:=fun e e' h=>hQ _ _ (by
   cases e;obtain⟨W,y9,P8,P9,I7,wh,w,st⟩:=Qa;exact⟨y9,P8,e'▸P9.inner fun a h=>hB a (w a h),I7,h⟩)
  cases fl₃ with
  |next=>exact(show dG= .next from pT)▸⟨j,hk▸mJ j,i+1,u7,Sl,Qa,lS⟩
  |cont=>exact(show dG= .cont from pT)▸⟨j,hk▸mJ j,i+1,u7,Sl,Qa,lS⟩
  |brk=>exact(show dG= .brk from pT)▸Z9 lS rfl rfl
  |ret v=>exact pT.elim fun u q=>q.1▸Z9 lS rfl ⟨u,rfl,q.2⟩
 ·have he:i=xs.length:=by omega
  rw[tB (tw eu)]at lS;obtain⟨W,ar,m',S',K',Ce,hW,Cf⟩:=F;refine aD (hI.done W ar s' _ Ce S'.G S'.live (he▸Cf)) (fun r s₃ eo=>?_) fun ø ø q=>q
  obtain⟨er,mv⟩:=eo;rw[er];have hn:∀a∈W,a∉hid:=fun a h q=>(hl a q).elim fun o e=>nomatch e.symm.trans (hW a h)
  obtain⟨e1,e2⟩:=mG (Option.some.inj lS);exact hQ .next s₃ ⟨_,m',e1▸S'.last mv (fun a h=>hB a (hW a h)) NC (fun a h q=>hn a q (ho a h)),(K'.mv mv hW hg).last hn,e2▸rfl⟩
end
theorem Dh{lc:Bool}{target iter:Expr}{body:List Stmt}{pos:Pos}{asg bf}{A:Around}{env:Env}{out hid:List Addr}{m:Str->Option Value}{B s:Shared}{ρ aQ:ao}{fl:Fl}{xs:List V}{E:Value->Shared->Prop}(rm:cJ n A)(S:aU P K env out hid m B s ρ)
  (hi:wpAny (model P.prog P.w) A (eval iter env) (fun v s₁=>wpAny (model P.prog P.w) A (pyIter v) (fun it s₂=>wo P A hid xs s s₂ it) E s₁) E s)
  (ha:En P K lc target asg) (hb:oo P n K body bf) (hs:∀x,foldedSetIterable iter env x=pure x) (hf:gy asg bf xs ρ=some (aQ,fl)):
  wpAny (model P.prog P.w) A (exec (.For target iter body [] pos) env) (fun dG s'=>Hc P K env out hid B s s' aQ fl dG) E s:=by
 refine Hz hs (aD hi (fun v s₁ aj=>aD aj (fun it s₂ aM=>?_) fun ø ø q=>q) fun ø ø q=>q);obtain⟨I,W,gi,St,e,kp,hI,hW,lW,hg,st⟩:=aM;rw[e];have ro:Ks out hid (W++hid) s s₂:=⟨fun b o ø h=>kp.keep b o h,fun a h=>(bZ.mp h).elim (fun q=>.inr (hW a q)) .inl,fun a h=>ck _ h,kp.gens,kp.os⟩;exact⟨fun k s'=>Me P K env out hid B s xs asg bf aQ fl St k s',xs.length,⟨0,ρ,rfl,⟨W,W++hid,m,S.outer kp hW lW,ro,fun a h=>cP _ h,hW,st⟩,hf⟩,
  fun k s' h=>I8 rm ha hb hI hg (fun g e=>az S.kp.gens.size (hg g e)) (fun a h=>S.fresh h) S.live S.oh (fun ø ø q=>q) h⟩
theorem pB{lc:Bool}{target iter:Expr}{body:List Stmt}{pos:Pos}{it asg bf}(hi:TH P n K iter it)(ha:En P K lc target asg)(hb:oo P n K body bf)(hs:∀env x,foldedSetIterable iter env x=pure x):
  zQ P n K (.For target iter body [] pos) (Ls it asg bf):=fun A env out hid m B s ρ aQ fl E rm S hf=>by
 refine ak hf fun xs x7 gu=>?_
 clear hf;rename _=>hf
 exact Dh rm S (aD (hi A env out hid m B s ρ xs E rm S x7) (fun v s₁ h=>h E) fun ø ø q=>q) ha hb (hs env) hf
theorem rl.toG{A:Around}{I:Addr}{W:List Addr}{gi:Option Nat}{xs:List V}{St:List Addr->Nat->Shared->Prop}(h:rl P A I W gi xs St):I2 P A I gi xs (fun W' hid i s=>W'=W/\St hid i s)where
 frame:=fun W' hid ar i s s' hW st k=>by
  obtain⟨rfl,st⟩:=st;exact⟨rfl,h.frame hid ar i s s' hW st k⟩
 item:=fun W' hid i s x E hx hW hG live st=>by
  obtain⟨rfl,st⟩:=st;exact aD (h.item hid i s x E hx hW hG live st) (fun r s' q=>by obtain⟨v,q1,q2,q3,q4,q5⟩:=q;exact⟨v,[],q1,fun a h=>(nomatch h),fun a h=>(nomatch h),q2,⟨rfl,q3⟩,q4,q5⟩) fun ø ø q=>q
 done:=fun W' hid s E hW hG live st=>by
  obtain⟨rfl,st⟩:=st;exact h.done hid s E hW hG live st
theorem Sf.toG{A:Around}{hid:List Addr}{xs:List V}{s s₂:Shared}{it:Value}(q:Sf P A hid xs s s₂ it):wo P A hid xs s s₂ it:=by
 obtain⟨I,W,gi,St,e,k,h,f,l,g,st⟩:=q;exact⟨I,W,gi,_,e,k,h.toG,f,l,g,rfl,st⟩
theorem dB{lc:Bool}{target iter:Expr}{body:List Stmt}{pos:Pos}{it asg bf}(hi:Lr P n K iter it)(ha:En P K lc target asg)(hb:oo P n K body bf)(hs:∀env x,foldedSetIterable iter env x=pure x):
  zQ P n K (.For target iter body [] pos) (Ls it asg bf):=fun A env out hid m B s ρ aQ fl E rm S hf=>by
 refine ak hf fun xs x7 gu=>?_
 clear hf;rename _=>hf
 exact Dh rm S (aD (hi A env out hid m B s ρ xs E rm S x7) (fun v s₁ h=>aD h (fun ø ø q=>q.toG) fun ø ø q=>q) fun ø ø q=>q) ha hb (hs env) hf
theorem I9{A:Around}(hh:A.handled=none){s bn:Shared}(kp:Kp bn s){hid:List Addr}{l:List Nat}{t:Tok}{E:Value->Shared->Prop}:
  wpAny (model P.prog P.w) A (pyIter (.str (pyStr l) t)) (fun it s₂=>wo P A hid (l.map fun c=>V.str [c]) bn s₂ it) E s:=by
 have jn:bn.heap.get? s.heap.objs.size=none:=by
  cases e:bn.heap.get? s.heap.objs.size with
  |none=>rfl
  |some o=>have:=kp.keep _ _ e;rw[bE]at this;cases this
 have sh:(pyStr l).cps.size=(l.map fun c=>V.str [c]).length:=by simp
 have rel:∀hid i x v (s:Shared),True->(l.map fun c=>V.str [c])[i]?=some x->SignAt (pyStr l) i v->Dn P s.heap hid x v:=fun hid i x v s ø hx hv=>by
  obtain⟨c,u,hc,rfl⟩:=hv;rw[dh]at hx;have Lu:l[i]?=some c:=by simpa using hc
  rw[Lu]at hx;cases hx;exact .ofStr [c] u
 cases ha:(pyStr l).cps.all (· <128)
 ·have W:=Walks.strWide (prog:=P.prog) (w:=P.w) hh s.heap.objs.size (pyStr l) t
  rw[sh]at W;refine wpAny_pyIter_wide ha ⟨s.heap.objs.size,[s.heap.objs.size],none,_,rfl,kp.trans (Kp.push s _ _),rl.toG (rl.of W (fun ø ø=>True) (fun ø ø ø ø ø ø ø=>trivial) (fun ø ø ø ø ø ø ø=>trivial) rel (fun i h st=>?_)),fun b hb=>?_,fun b hb=>?_,fun g q=>(nomatch q),rfl,?_⟩
  ·obtain⟨o,ho,hc,_⟩:=st
   exact⟨o,"str_iterator",ho,hc,by decide⟩
  ·obtain rfl:b=s.heap.objs.size:=by simpa using hb
   exact jn
  ·obtain rfl:b=s.heap.objs.size:=by simpa using hb
   exact⟨_,bJ _ rfl⟩
  ·refine⟨⟨_,bJ _ rfl,rfl,rfl⟩,trivial,fun b hb zR=>absurd (by simpa using hb) zR,by simp⟩
 ·have W:=Walks.strAscii (prog:=P.prog) (w:=P.w) hh s.heap.objs.size (pyStr l) t
  rw[sh]at W;refine wpAny_pyIter_ascii ha ⟨s.heap.objs.size,[s.heap.objs.size],none,_,rfl,kp.trans (Kp.push s _ _),rl.toG (rl.of W (fun ø ø=>True) (fun ø ø ø ø ø ø ø=>trivial) (fun ø ø ø ø ø ø ø=>trivial) rel (fun i h st=>?_)),fun b hb=>?_,fun b hb=>?_,fun g q=>(nomatch q),rfl,?_⟩
  ·obtain⟨o,ho,hc,_⟩:=st
   exact⟨o,"str_ascii_iterator",ho,hc,by decide⟩
  ·obtain rfl:b=s.heap.objs.size:=by simpa using hb
   exact jn
  ·obtain rfl:b=s.heap.objs.size:=by simpa using hb
   exact⟨_,bJ _ rfl⟩
  ·refine⟨⟨_,bJ _ rfl,rfl,rfl⟩,trivial,fun b hb zR=>absurd (by simpa using hb) zR,by simp⟩
end
section
variable{P:Pk}{n:Nat}{K:Cx}{lo:Bool}
section
variable{gp:Nat->Pos}
noncomputable abbrev jT(gp:Nat->Pos):List Stmt:=
 [.Assign [.Name "pos" (gp 0)] (.Constant (.int 0) 0 (gp 1)) (gp 2),.Assign [.Name "escape" (gp 3)] (.Constant (.bool false) 0 (gp 4)) (gp 5),
  .For (o0 gp) (.Call (.Name "enumerate" (gp 6)) [.Name "addr" (gp 7)] [] (gp 8)) (ss gp) [] (gp 9),
  .If (.Name "escape" (gp 10)) [.Expr (.Yield (some (.Tuple [.Name "pos" (gp 11),.Constant (.str "\\") 0 (gp 12)] 0 (gp 13))) (gp 14)) (gp 15)] [] (gp 16)]
structure NW(fd:FuncData):Prop where
 gl:fd.globals=mainGlobals
 bl:fd.builtins=builtinsNs
 clo:fd.closure=[]
 bind:∀v,bindArgs fd ⟨[v],[]⟩=pure [((Str.ofString "addr"),v)]
 fn:fd.scope.kind= .function
 co:fd.scope.isCoroutine=false
 gen:fd.scope.isGenerator=true
 ka:fd.scope.names.lookup (Str.ofString "addr")=some .local
 kp:fd.scope.names.lookup (Str.ofString "pos")=some .local
 ke:fd.scope.names.lookup (Str.ofString "escape")=some .local
 kc:fd.scope.names.lookup (Str.ofString "ch")=some .local
 kn:fd.scope.names.lookup (Str.ofString "enumerate")=some .globalImplicit
 cell:∀x∈fd.scope.names,x.2≠ .cell
theorem za{A:Around}(hh:A.handled=none)(c c':Code)(k:Result->Sem Fin)(g:Bool)(l:List Value)(p:Pos):(A.in1.over c [.ret k none g l c' p []]).handled=none:=by
 show(marksOver [.ret k none g l c' p []] (A.handled,A.handled)).1=none;rw[hh];rfl
theorem Mf{A:Around}(hh:A.handled=none){env:Env}(g:rM env)(ka:env.kindOf "addr"=some .local)(kn:env.kindOf "enumerate"=some .globalImplicit){x:List Nat}{tx t:Tok}{bn s:Shared}{it:Addr}(hit:s.heap.objs.size=it)(hL:env.locals<it){K:Flow->Sem Fin}{H:Value->Sem Fin}(hK:K .next= .pure (.done (.ret .none)))
  (glob:∀{A':Around} {E':Value->Shared->Prop} {Q:Value->Shared->Prop} {tk:Nat},Q (.type "enumerate") {s with toks:=tk}->wpAny (model P.prog P.w) A' (loadGlobal env "enumerate") Q E' {s with toks:=tk})
  {m:Str->Option Value} (hm:s.heap.Ns env.locals m) (ha:m "addr"=some (.str (pyStr x) tx)) (he:m "escape"=some (.bool false)) (hp:m "pos"=some (.int 0 t)) (k₁:GK env.locals it bn s):
  Seg (model P.prog P.w) A.in1 (GR env.locals it) (GY env.locals it (gR 0 false x)) (gR 0 false x).length bn (.func (jT gp) env) ((execs [.For (o0 gp) (.Call (.Name "enumerate" (gp 6)) [.Name "addr" (gp 7)] [] (gp 8)) (ss gp) [] (gp 9),
   .If (.Name "escape" (gp 10)) [.Expr (.Yield (some (.Tuple [.Name "pos" (gp 11),.Constant (.str "\\") 0 (gp 12)] 0 (gp 13))) (gp 14)) (gp 15)] [] (gp 16)] env).wrap K H id id) [] s:=by
 subst hit;refine jQ (L9 (fun x=>rfl) fun E=>kF (Name_function_global g.fn kn (glob ?_) rfl));refine PySem.Pv.callWith_type1 (m7 (fM (kB g.fn ka hm ha (nk ?_)) rfl));refine call_enumerate_str fun eo NX Di aa0 NY E=>?_
 have W:=WalksT.enumerateD (xe (prog:=P.prog) (w:=P.w) (A:=A.in1.over (.func (jT gp) env) []) (it:=s.heap.objs.size) (x:=x) (tx:=tx) hh) (s.heap.objs.size+1) (pi _) (fun h=>pi _ (cq.mp h)) (.head _);refine W.self 0 _ _ _ ⟨⟨.none,NX⟩,Di⟩ fun k l p hk=>?_
 refine I0 (x:=x) (tx:=tx) g (nf hL) (nf (kK hL)) rfl rfl (za hh _ _ _ _ _ _) (fun b bn s' n' hI k' lf=>seg_leaf (.ok .next) ?_) x.length 0 false bn _ _ (gg _) ⟨rfl,by rw[tI];rfl,bL _⟩
  ⟨⟨⟨m,t,hm.at fun o q=>NY _ o q,he,hp⟩,⟨.none,NX⟩,Di.elim fun o q=>⟨o,q.1⟩⟩,Di⟩ ⟨fun b o e1 e2 e3 e=>NY b o (k₁.keep b o e1 e2 e3 e),k₁.gens,k₁.os⟩
 rw[hk];exact IW g (x:=x) (fs:=[]) rfl (by exact hh) hK hI k' lf
theorem FY{A:Around}(hh:A.handled=none){env:Env}(g:rM env)(ka:env.kindOf "addr"=some .local)(kn:env.kindOf "enumerate"=some .globalImplicit)(gl:env.globals=mainGlobals)(bl:env.builtins=builtinsNs){x:List Nat}{tx:Tok}{s:Shared}
  (hLg:env.locals≠mainGlobals) (hLb:env.locals≠builtinsNs) (hG:P.G s.heap) (u8:P.glob "enumerate"=some (.type "enumerate")) {m:Str->Option Value} (hm:s.heap.Ns env.locals m) (hma:m "addr"=some (.str (pyStr x) tx)):
  Seg (model P.prog P.w) A.in1 (GR env.locals s.heap.objs.size) (GY env.locals s.heap.objs.size (gR 0 false x)) (gR 0 false x).length s (.func (jT gp) env)
   ((model P.prog P.w).den (.func (jT gp) env)) [] s:=by
 refine seg_func ?_;refine jQ (y5 fun E=>qQ (wpAny_Constant_int (qP g.kp hm (fun aj xh eS=>?_) g.hp)) rfl);refine jQ (y5 fun E=>qQ (xz (qP g.ke xh (fun aM TM kU=>?_) g.hp)) rfl);have sh:aM.objs.size=s.heap.objs.size:=kU.1.trans eS.1;have He:∀b o,b≠env.locals->s.heap.get? b=some o->aM.get? b=some o:=fun b o q e=>(kU.2 b q).trans ((eS.2 b q).trans e)
 obtain⟨mg,mb,z1,z2,z3⟩:=P.aV hG;have z1':aM.Ns env.globals mg:=gl▸z1.at fun o q=>He _ o (ft hLg) q
 have z2':aM.Ns env.builtins mb:=bl▸z2.at fun o q=>He _ o (ft hLb) q
 exact Mf hh g ka kn sh (hm.elim fun oL q=>q.elim fun es q=>q.elim fun ep q=>ew q.1) rfl (fun h=>(z3 _ _ u8).elim (fun q=>loadGlobal_global z1' q h) fun q=>loadGlobal_builtin z1' q.1 z2' q.2 h) TM
  ((au (by decide+kernel)).trans ((au (by decide+kernel)).trans hma)) (aw rfl) ((au (by decide+kernel)).trans (aw rfl)) ⟨fun b o e1 ø ø e=>He b o e1 e,rfl,rfl⟩
theorem Ja(u8:P.glob "enumerate"=some (.type "enumerate")){A:Around}{s s₁:Shared}{hid:List Addr}{x:List Nat}{tx:Tok}{E:Value->Shared->Prop}{env:Env}{aj:Heap}(hh:A.handled=none)(FZ:A.depth<recursionLimit)(hG:P.G s.heap)
  (g:rM env) (ka:env.kindOf "addr"=some .local) (kn:env.kindOf "enumerate"=some .globalImplicit) (gl:env.globals=mainGlobals) (bl:env.builtins=builtinsNs) (eL:env.locals=s.heap.objs.size)
  (xh:aj.Ns env.locals (fun y=>([((Str.ofString "addr"),Value.str (pyStr x) tx)]:List (Str×Value)).reverse.lookup y)) (sh:aj.objs.size=s.heap.objs.size+1) (TN:∀b o,s.heap.get? b=some o->aj.get? b=some o) (He:∀b o,aj.get? b=some o->s₁.heap.get? b=some o)
  (lg:∃o,s₁.heap.get? aj.objs.size=some o) (sM:s₁.heap.IsGen aj.objs.size s.gens.size) (Bf:s₁.gens=s.gens.push (GenState.fresh (Code.func (jT gp) env))) (Nu:s₁.os=s.os):
  wpAny (model P.prog P.w) A (pyIter (.ref aj.objs.size)) (fun it s₂=>wo P A hid ((gR 0 false x).map mU) s s₂ it) E s₁:=by
 obtain⟨oL,es,ep,qL,_⟩:=id xh;obtain⟨mg,mb,z1,z2,_⟩:=P.aV hG;have cZ:aj.objs.size≠env.locals:=by rw[eL,sh];exact pi _
 have old:∀b,s.heap.objs.size<=b->s.heap.get? b=none:=fun b h=>by
  induction e:s.heap.get? b with
  |none=>rfl
  |some o=>exact absurd (ew e) (gY.mpr h)
 refine wpAny_pyIter_gen sM ⟨aj.objs.size,[aj.objs.size,env.locals],some s.gens.size,_,rfl,⟨fun b o e=>He b o (TN b o e),⟨fun i y e=>?_,fun hb=>Bf▸AllBare.push hb rfl⟩,Nu⟩,rl.gen (L:=env.locals) hh FZ,fun b hb=>old b ?_,fun b hb=>(bI.mp hb).elim (fun e=>e▸lg) fun h=>cq.mp h▸⟨oL,He _ _ qL⟩,fun g' e=>je (Option.some.inj e),?_⟩
 ·rw[Bf,Array.getElem?_push,au (nf (xD.mp e).1)];exact e
 ·exact(bI.mp hb).elim (fun e=>e▸sh▸kH _) fun h=>je (eL.symm.trans (cq.mp h).symm)
 ·refine⟨.fresh (.func (jT gp) env),sM,by rw[Bf];exact Array.getElem?_push_size ..,cZ,⟨oL,He _ _ qL⟩,.head _,.tail _ (.head _),.inl ⟨rfl,rfl,fun s₂ Mg hG2=>⟨rfl,?_⟩⟩⟩
  exact FY hh g ka kn gl bl (fun e=>gv _ (eL▸e▸z1.lt)) (fun e=>gv _ (eL▸e▸z2.lt)) hG2 u8 (xh.at fun o e=>Mg o (He _ _ e)) rfl
theorem Jb{a:Addr}{fd:FuncData}(Cb:∀h,P.G h->(∃o,h.get? a=some o/\o.data= .func fd)/\h.CodeRec fd.code fd.qualname)(gf:NW fd)
  (nP:fd.body= .stmts (jT gp)) (u8:P.glob "enumerate"=some (.type "enumerate"))
  {A:Around} {s:Shared} {hid:List Addr} {x:List Nat} {tx:Tok} {E:Value->Shared->Prop} (rm:cJ n A) (hG:P.G s.heap):
  wpAny (model P.prog P.w) A (call (.ref a) [.str (pyStr x) tx]) (fun v s₁=>∀E,wpAny (model P.prog P.w) A (pyIter v) (fun it s₂=>wo P A hid ((gR 0 false x).map mU) s s₂ it) E s₁) E s:=by
 obtain⟨⟨o,ho,Ov⟩,XY⟩:=Cb _ hG;have FZ:A.depth<recursionLimit:=fq (az (fO _ _) rm.depth) (by decide);refine wpAny_call (codeAny_call_generator FZ ho Ov gf.co gf.gen nP XY ?_);rw[gf.bind,gf.clo];refine bK (wpAny_newFunctionEnv gf.cell (fun y hy=>cq.mp hy▸gf.ka) (fun aj xh eS=>?_) gf.fn);have TN:∀b o,s.heap.get? b=some o->aj.get? b=some o:=fun b o e=>eS.extBut b o (nf (ew e)) (bz _ e)
 exact⟨(P.nolim hG).keeps TN,fun E=>Ja (env:=newEnv fd.scope s.heap.objs.size fd.globals [] (fd.qualname++".<locals>.") (some a) fd.code none fd.builtins) u8 rm.handled FZ hG ⟨gf.fn,gf.co,gf.kp,gf.ke,gf.kc⟩ gf.ka gf.kn gf.gl gf.bl rfl xh
  (eS.1.trans (jd ..)) TN (fun b o e=>bz _ e) ⟨_,bJ _ rfl⟩ ⟨_,_,_,bJ _ rfl,rfl,rfl,rfl⟩ rfl rfl⟩
noncomputable def Qb(xs:List V):Option (List V):=(V.one? xs).bind fun x=>x.jK.bind fun l=>if l.length<=most then some ((gR 0 false l).map mU)else none
theorem Qc(l:List Nat):Qb [.str l]=if l.length<=most then some ((gR 0 false l).map mU)else none:=id rfl
noncomputable def Bh(P:Pk)(a:Addr):Prop:=∃fd:FuncData,(∀h,P.G h->(∃o,h.get? a=some o/\o.data= .func fd)/\h.CodeRec fd.code fd.qualname)/\NW fd/\P.glob "enumerate"=some (.type "enumerate")/\
 ∃gp,fd.body= .stmts (jT gp)
theorem wo.pre{A:Around}{hid:List Addr}{xs:List V}{s s₁ s₂:Shared}{it:Value}(h:wo P A hid xs s₁ s₂ it)(k:Kp s s₁):wo P A hid xs s s₂ it:=by
 obtain⟨I,W,gi,St,z1,z2,z3,z4,z5,z6,z7⟩:=h;refine⟨I,W,gi,St,z1,k.trans z2,z3,fun b hb=>?_,z5,fun g e=>az k.gens.size (z6 g e),z7⟩
 induction e:s.heap.get? b with
 |none=>rfl
 |some o=>exact nomatch(k.keep _ _ e).symm.trans (z4 b hb)
theorem nQ{id:Str}{p pos:Pos}{es:List Expr}{f}{a:Addr}(hx:K.aV.contains id=true)(hv:P.glob id=some (.ref a))(hd:(id==("__debug__":Str))=false)(hg:Bh P a)
  (hs:j7 P n K true es f) (iS:∀env,starEach es env=es.map fun e=>(false,eval e env)) (cZ:es≠[]):TH P n K (.Call (.Name id p) es [] pos) (fun ρ=>(f ρ).bind Qb):=fun A env out hid m B s ρ xs E rm S hf=>by
 obtain⟨fd,Cb,gf,u8,gp,nP⟩:=hg;refine ak hf fun y hy hq=>ak hq fun y1 hy1 hq=>ak hq fun x R9 hq=>eR hq fun hx2 e=>?_
 rw[V.jm hy1,V.kN R9]at hy;obtain⟨⟨o,ho,Ov⟩,_⟩:=Cb _ S.G;refine kF (bH S hx hv hd (callWith_function (o:=o) (fd:=fd) ?_));have key:=hs A env out hid m B s ρ _ E pos rm S hy
 induction es with
 |nil=>exact absurd rfl cZ
 |cons t6 es' _=>
 have hb:backTo pos (starEach (t6::es') env)=(false,eval t6 env)::(backTo pos (starEach (t6::es') env)).tail:=by rw[iS];rfl
 rw[hb]at key ⊢;refine evalArgs_plain (aD key (fun vs s₁ aj=>⟨⟨aj.1.keep _ _ ho,Ov⟩,?_⟩) fun ø ø q=>q);obtain⟨k₁,Bi⟩:=aj;obtain⟨v,ev,hv⟩:=yg Bi;obtain⟨t,et⟩:=hv.str_inv;rw[ev,et];exact aD (Jb (hid:=hid) Cb gf nP u8 rm (S.after k₁).G) (fun v s₂ aM E=>aD (aM E) (fun it s₃ eo=>e▸eo.pre k₁) fun ø ø q=>q) fun ø ø q=>q
end
end
section
variable{P:Pk}{n:Nat}{K:Cx}{lo:Bool}
noncomputable def ol(env:Env)(hid:List Addr):List Addr:=env.locals::((env.cells.filter fun y=>env.cells.lookup y.1==some y.2).map (·.2)++hid)
theorem Jc{env:Env}{hid:List Addr}{y:Str}{d:Addr}(h:env.cells.lookup y=some d):d∈ol env hid:=
 .tail _ (cP _ (dt.mpr ⟨(y,d),gw.mpr ⟨lookup_mem h,jN.mpr h⟩,rfl⟩))
theorem xi{env:Env}{hid:List Addr}{C:Addr->Prop}(h0:C env.locals)(h1:∀y d,env.cells.lookup y=some d->C d)(h2:∀c∈hid,C c):∀c∈ol env hid,C c:=fun c hc=>
 (bI.mp hc).elim (fun e=>e▸h0) fun hc=>(bZ.mp hc).elim (fun q=>by
  obtain⟨y,hy,e⟩:=dt.mp q;exact e▸h1 y.1 y.2 (eq_of_beq (gw.mp hy).2)) (h2 c)
theorem Jd{fd:FuncData}{ps:List Str}(ok:uf K fd.scope ps)(CY:ps.Nodup){env:Env}{s s₁:Shared}{hid:List Addr}{xs:List V}{vs:List Value}(hG:P.G s.heap)(live:cD s.heap hid)(hd:bd P s.heap hid xs vs)(hlen:xs.length=ps.length)
  (fn:env.scope.kind= .function) (gl:env.globals=mainGlobals) (bl:env.builtins=builtinsNs) (eL:env.locals=s.heap.objs.size) (ek:∀y,env.kindOf y=fd.scope.names.lookup y) (ecl:env.cells=cellsFrom (s.heap.objs.size+1) fd.scope.names [])
  (ic:InCallC s env.locals (bindL env.kindOf (ps.zip vs) fun ø=>none) env.cells (bindC env.kindOf (ps.zip vs) fun ø=>none) s₁):
  aU P K env hid (ol env hid) (bindL env.kindOf (ps.zip vs) fun ø=>none) s s₁ (mY xs)/\∀c∈ol env hid,c∈hid\/s.heap.get? c=none:=by
 have kp:Kp s s₁:=by
  obtain⟨h',tk,e⟩:=ic.toInCall.same;have hk:=ic.toInCall.keep;rw[e]at hk ⊢;exact .heap hk
 have s0:∀c,s.heap.objs.size<=c->s.heap.get? c=none:=fun c hc=>by
  induction e:s.heap.get? c with
  |none=>rfl
  |some o=>exact absurd (ew e) (gY.mpr hc)
 have hcn:∀y c,env.cells.lookup y=some c->s.heap.get? c=none:=fun y c q=>s0 c (eL▸dU (ic.above y c (lookup_mem q)))
 have Sg:∀y c,env.cells.lookup y=some c->c∉hid:=fun y c q z=>(live _ z).elim fun o e=>nomatch e.symm.trans (hcn y c q)
 have hL0:s.heap.get? env.locals=none:=by rw[eL];exact bE _
 have jn:∀c∈ol env hid,c∈hid\/s.heap.get? c=none:=xi (.inr hL0) (fun y d q=>.inr (hcn y d q)) fun c h=>.inl h
 have sf:∀y,fd.scope.names.lookup y=some .cell->∃d,env.cells.lookup y=some d:=fun y hl=>by
  obtain⟨c,hc⟩:=gS (k:=s.heap.objs.size+1) (acc:=[]) (.inl (hO hl));rw[<-ecl]at hc;exact mem_lookup hc
 have kR:∀y k ov,fd.scope.names.lookup y=some k->(k= .local\/k= .cell)->(k= .local->bindL env.kindOf (ps.zip vs) (fun ø=>none) y=ov)->(k= .cell->bindC env.kindOf (ps.zip vs) (fun ø=>none) y=ov)->At env (bindL env.kindOf (ps.zip vs) fun ø=>none) s₁.heap hid (ol env hid) y k ov:=fun y k ov hl hk h1 h2=>by
  rcases hk with e|e
  ·rw[e];exact h1 e
  ·obtain⟨d,lu⟩:=sf y (e▸hl)
   rw[e,<-h2 e];exact⟨d,lu,Jc lu,Sg _ _ lu,ic.cell _ _ lu⟩
 refine⟨⟨fn,gl,bl,fun j y k b hj=>(ek y).trans (ok.vars j y k b hj).1,fun y hy=>(ek y).trans (ok.glob y hy),ok.nodup,fun y z c q1 q2=>?_,?_,fun c hc=>.tail _ (ck _ hc),.head _,
  fun hc=>(live _ hc).elim fun o q=>(nomatch q.symm.trans hL0),ic.toInCall.ns,fun j y k b hj=>?_,fun i j y z k k' c U9 hi hj ø ø=>.inl ?_,hG,kp,fun c hc ho=>(jn c hc).elim (fun q=>absurd q ho) id⟩,jn⟩
 ·obtain⟨i,hi,e1⟩:=Cp (lookup_mem q1)
  obtain⟨j,hj,e2⟩:=Cp (lookup_mem q2);have pw:=fun i j hi hj eu=>List.pairwise_iff_getElem.mp ic.apart i j hi hj eu
  rcases Nat.lt_trichotomy i j with eu|heq|hgt
  ·exact absurd (by rw[e1,e2]) (pw i j hi hj eu)
  ·exact congrArg Prod.fst (e1.symm.trans ((getElem_congr_idx heq).trans e2))
  ·exact absurd (by rw[e1,e2]) (pw j i hj hi hgt)
 ·exact xi (ic.toInCall.ns.elim fun o q=>q.elim fun ø q=>q.elim fun ø q=>⟨o,q.1⟩) (fun y d q=>(ic.cell y d q).elim fun o q=>⟨o,q.1⟩) (live.kp kp)
 ·obtain⟨hl,hk⟩:=ok.vars j y k b hj
  by_cases VT:j<ps.length
  ·obtain⟨k',hv⟩:=ok.pars j ps[j] (iG VT)
   obtain⟨ey,q⟩:=mG (Option.some.inj (hj.symm.trans hv));have eb:=(mG q).2;have hjx:j<xs.length:=hlen▸VT;obtain⟨v,hv,OJ⟩:=bq.get (i:=j) (x:=xs[j]) hd (iG hjx);have hp:ps[j]?=some y:=ey▸iG VT;refine⟨some v,kR y k _ hl hk (fun e=>Ag CY hp hv ((ek _).trans (e▸hl))) (fun e=>Ah CY hp hv (by rw[ek,hl,e];nofun)),?_⟩;rw[show mY xs j=some xs[j]from iG hjx,eb];exact⟨v,rfl,Dn.grow (P:=P) OJ (fun c o ø q=>kp.keep c o q) jn⟩
  ·have e:mY xs j=none:=na (hlen▸gY.mp VT)
   rcases hk with q|q
   ·exact⟨_,kR y k _ hl (.inl q) (fun ø=>rfl) (fun z=>nomatch q.symm.trans z),by rw[e];trivial⟩
   ·exact⟨_,kR y k _ hl (.inr q) (fun z=>nomatch q.symm.trans z) (fun ø=>rfl),by rw[e];trivial⟩
 ·by_cases hip:i<ps.length
  ·obtain⟨k',hv⟩:=ok.pars i ps[i] (iG hip)
   exact nomatch(mG (mG (Option.some.inj (hi.symm.trans hv))).2).2
  ·exact na (hlen▸gY.mp hip)
theorem u9{a:Addr}{fd:FuncData}{body:List Stmt}{ps:List Str}(Cb:∀h,P.G h->(∃o,h.get? a=some o/\o.data= .func fd)/\h.CodeRec fd.code fd.qualname)(nP:fd.body= .stmts body)
  (K8:fd.globals=mainGlobals) (Qd:fd.builtins=builtinsNs) (Dj:fd.closure=[]) (va:∀vs:List Value,vs.length=ps.length->bindArgs fd ⟨vs,[]⟩=pure (ps.zip vs)) (ok:uf K fd.scope ps) (CY:ps.Nodup)
  (Mh:fd.scope.isCoroutine=false) (sM:fd.scope.isGenerator=false) {A:Around} {s:Shared} {hid:List Addr} {xs:List V} {vs:List Value} {Q:Value->Shared->Prop} {E:Value->Shared->Prop} (rm:cJ (n+1) A) (hG:P.G s.heap) (live:cD s.heap hid) (hd:bd P s.heap hid xs vs) (hlen:xs.length=ps.length)
  (h:∀env s₁ ar m E',aU P K env hid ar m s s₁ (mY xs)->(∀c∈ar,c∈hid\/s.heap.get? c=none)->cJ n (A.deeper env)->wpAny (model P.prog P.w) (A.deeper env) (execs body env) (fun f s'=>Q (match f with| .ret v=>v|_=>.none) s') E' s₁):
  wpAny (model P.prog P.w) A (call (.ref a) vs) Q E s:=by
 obtain⟨⟨o,ho,Ov⟩,XY⟩:=Cb _ hG;have OO:vs.length=ps.length:=hd.length.trans hlen;have FZ:A.depth<recursionLimit:=fq (az (fO _ _) rm.depth) (by decide);have ou:∀y∈ps.zip vs,∃j v,ps[j]?=some y.1/\vs[j]?=some v:=fun y hy=>by
  obtain⟨j,hj⟩:=List.mem_iff_getElem?.mp hy;rw[xG]at hj;exact⟨j,y.2,hj.1,hj.2⟩
 have hbk:∀y∈ps.zip vs,fd.scope.names.lookup y.1=some .local\/(fd.scope.names.lookup y.1=some .cell/\((cellsFrom (s.heap.objs.size+1) fd.scope.names []).lookup y.1).isSome=true):=fun y hy=>by
  obtain⟨j,v,hj,_⟩:=ou y hy;obtain⟨k,hv⟩:=ok.pars j y.1 hj;obtain⟨hl,hk⟩:=ok.vars j _ _ _ hv;rcases hk with rfl|rfl
  ·exact .inl hl
  ·refine .inr ⟨hl,?_⟩
   obtain⟨c,hc⟩:=gS (k:=s.heap.objs.size+1) (acc:=[]) (.inl (hO hl));obtain⟨d,hd⟩:=mem_lookup hc;rw[hd];rfl
 refine wpAny_call (codeAny_call_cells FZ ho Ov (P.nolim hG) XY nP (va vs OO) Dj hbk (fun s₁ ic=>?_) Mh sM ok.kind);have S:=Jd (env:=callEnvC fd s.heap.objs.size a) ok CY hG live hd hlen ok.kind K8 Qd rfl (fun ø=>rfl) rfl ic;exact h _ s₁ _ _ _ S.1 S.2 (rm.deeper _)
theorem aZ.fn{a:Addr}{fd:FuncData}{body:List Stmt}{ps:List Str}{f:ao->Option (ao×Fl)}(Cb:∀h,P.G h->(∃o,h.get? a=some o/\o.data= .func fd)/\h.CodeRec fd.code fd.qualname)(nP:fd.body= .stmts body)
  (K8:fd.globals=mainGlobals) (Qd:fd.builtins=builtinsNs) (Dj:fd.closure=[]) (va:∀vs:List Value,vs.length=ps.length->bindArgs fd ⟨vs,[]⟩=pure (ps.zip vs)) (ok:uf K fd.scope ps) (CY:ps.Nodup)
  (Mh:fd.scope.isCoroutine=false) (sM:fd.scope.isGenerator=false) (h:oo P n K body f):aZ P (n+1) (.ref a) (fun xs=>if xs.length=ps.length then(f (mY xs)).bind Sn else none):=fun A s hid xs x vs E rm hG live hd hf=>yb hf fun hlen hf=>by
 refine ak hf ?_;rintro⟨aQ,fl⟩ h1 h2;refine u9 Cb nP K8 Qd Dj va ok CY Mh sM rm hG live hd hlen fun env s₁ ar m E' S ø TP=>?_
 refine aD (h (A.deeper env) env hid ar m s s₁ (mY xs) aQ fl _ TP S h1) (fun dG s' q=>?_) fun ø ø q=>q
 obtain⟨pv,m₂,dI,_,pT⟩:=q;cases fl
 case next=>
  obtain rfl:=pT;exact some_inv h2 ⟨dI.kp,.t8⟩
 case ret=>
  obtain⟨v,rfl,hv⟩:=pT;exact some_inv h2 ⟨dI.kp,hv⟩
 all_goals cases h2
end
section
variable{P:Pk}{n:Nat}{K:Cx}{lo:Bool}
noncomputable def bP:List Str:=[(Str.ofString "raw"),(Str.ofString "n"),(Str.ofString "nt"),(Str.ofString "norm"),(Str.ofString "is_simple")]
inductive ij(C:Addr)(h:Heap)(x dx:Addr)(ws:List Value):Prop
 |mk (o:Obj) (mA:Str->Option Value) (e:h.get? x=some o) (c:o.cls= .ref C) (d:∀c,o.data≠ .cls c) (dd:o.dict=some dx) (n:dx≠x) (ns:h.Ns1 dx mA) (v:∀(i:Nat) v nm,ws[i]?=some v->bP[i]?=some nm->mA nm=some v) (no:∀nm,nm∉bP.take ws.length->mA nm=none):ij C h x dx ws
theorem ij.at{C:Addr}{h h':Heap}{x dx ws}(I:ij C h x dx ws)(k1:∀o,h.get? x=some o->h'.get? x=some o)(k2:∀o,h.get? dx=some o->h'.get? dx=some o):ij C h' x dx ws:=by
 obtain⟨o,mA,h1,h2,h3,h4,h5,h6,h7,h8⟩:=I;exact⟨o,mA,k1 _ h1,h2,h3,h4,h5,h6.at k2,h7,h8⟩
theorem ij.inst{C:Addr}{h:Heap}{x dx ws}(I:ij C h x dx ws):∃mA,h.Inst x C mA/\(∀(i:Nat) v nm,ws[i]?=some v->bP[i]?=some nm->mA nm=some v)/\∀nm,nm∉bP.take ws.length->mA nm=none:=by
 obtain⟨o,mA,h1,h2,h3,h4,h5,h6,h7,h8⟩:=I;exact⟨mA,⟨o,h1,h2,h3,.inr ⟨dx,h4,h5,h6⟩⟩,h7,h8⟩
noncomputable def Dk(C:Addr)(h:Heap)(a:Addr)(vs:List Value)(T:Addr->Prop):Prop:=(∃t,vs=[.int (a:Nat) t])\/(vs.length=5/\∃d,ij C h a d vs/\T a/\T d)
theorem Dk.ok(C:Addr):Hg (Dk C):=fun h h' T T' a vs hk hT e=>by
 rcases e with e|⟨hl,d,I,h1,h2⟩
 ·exact .inl e
 ·obtain⟨o,mA,q1,q2,q3,q4,q5,q6,q7,q8⟩:=id I
  obtain⟨od,es,ep,z,_⟩:=id q6;exact .inr ⟨hl,d,I.at (fun o e=>hk a o h1 e) (fun o e=>hk d o h2 e),hT a o h1 q1,hT d od h2 z⟩
structure dJ(P:Pk)(C N:Addr)(mN:Str->Option Value):Prop where
 ob:P.OB=Dk C
 cls:∀h,P.G h->ClsAt h C N mN
 ng:mN (Str.ofString "__getattribute__")=none
 nh:mN (Str.ofString "__getattr__")=none
 nsa:mN (Str.ofString "__setattr__")=none
 names:∀nm∈bP,mN nm=none
theorem dJ.xj{P:Pk}{C N:Addr}{mN:Str->Option Value}(W:dJ P C N mN){h:Heap}(G:P.G h){R:Prop}(k:∀nm q bs sn sub col dd k0 k1 k2 k3 k5,h.get? C=some (excClassObj nm q C N bs [.type "object"] true sn sub false col dd k0 k1 k2 k3 k5 "object.__new__")->h.Ns N mN->R):R:=by
 obtain⟨X,hN⟩:=W.cls _ G;obtain⟨nm,q,bs,sn,sub,col,dd,k0,k1,k2,k3,k5,hC⟩:=X;exact k nm q bs sn sub col dd k0 k1 k2 k3 k5 hC hN
theorem dJ.ne{P:Pk}{C N:Addr}{mN:Str->Option Value}(W:dJ P C N mN){h:Heap}(G:P.G h){x:Addr}(hx:h.get? x=none):x≠C:=
 W.xj G fun ø ø ø ø ø ø ø ø ø ø ø ø hC ø z=>by rw[<-z,hx]at hC;cases hC
theorem noAttr:∀nm∈bP,typeLookup (.type "object") nm=pure none:=by
 intro nm h;simp only[bP,bI,tD,or_false]at h;rcases h with rfl|rfl|rfl|rfl|rfl<;>(rw[lM,lN];kernel_rfl)
theorem Ga{h:Heap}{hid}{x:V}{v:Value}(e:Dn P h hid x v):handedOut v=pure v:=by
 cases x
 ·rw[e.none_inv];rfl
 ·rw[e.bool_inv];rfl
 ·obtain⟨t,rfl⟩:=e;rfl
 ·obtain⟨t,rfl⟩:=e;rfl
 ·obtain⟨a,vs,rfl,_⟩:=e;rfl
 ·obtain⟨a,vs,rfl,_⟩:=e;rfl
 ·obtain⟨a,vs,rfl,_⟩:=e;rfl
 ·obtain⟨a,vs,rfl,_⟩:=e;rfl
theorem Dn.ES{C N mN}(W:dJ P C N mN){h:Heap}{hid}{l:List V}{v:Value}(e:Dn P h hid (.obj l) v)(hl:l.length=5):∃a d vs,v= .ref a/\ij C h a d vs/\a∉hid/\d∉hid/\vs.length=5/\bd P h hid l vs:=by
 obtain⟨a,vs,rfl,h1,h2⟩:=e;rw[W.ob]at h1;have hv:=h2.length;rcases h1 with⟨t,rfl⟩|⟨h3,d,I,q1,q2⟩
 ·rw[hl]at hv;cases hv
 ·exact⟨a,d,vs,rfl,I,q1,q2,h3,h2⟩
theorem Dn.ET{C N mN}(W:dJ P C N mN){h:Heap}{hid}{x:Addr}{v:Value}(e:Dn P h hid (.obj [.int (x:Nat)]) v):v= .ref x:=by
 obtain⟨a,vs,rfl,h1,h2⟩:=e;rw[W.ob]at h1;have hv:=h2.length;obtain⟨u,rfl,hu⟩:=yg (P:=P) (hid:=hid) h2;obtain⟨t,rfl⟩:=hu.int_inv;rcases h1 with⟨t',e⟩|⟨h3,_⟩
 ·have:(x:Int)=(a:Nat):=by
   simp only[List.cons.injEq,Value.int.injEq]at e;exact e.1.1
  have:x=a:=by exact_mod_cast this
  rw[this]
 ·cases h3
theorem Dn.TQ{C N mN}(W:dJ P C N mN){h:Heap}{hid}(x:Addr):Dn P h hid (.obj [.int (x:Nat)]) (.ref x):=by
 exact⟨x,[.int (x:Nat) 0],rfl,by rw[W.ob];exact .inl ⟨0,rfl⟩,.one (Dn.ofInt (P:=P) (h:=h) (hid:=hid) _ _)⟩
noncomputable def TR(i:Nat)(x:V):Option V:=x.Ow.bind fun l=>if l.length=5 then l[i]? else none
theorem dj{C N mN}(W:dJ P C N mN)(i:Nat){o:Expr}{nm:Str}{pos:Pos}{f}(hi:bP[i]?=some nm)(ho:em P n K lo o f)
  (he:∀env,attributeBase o nm env (eval o env)=eval o env):em P n K lo (.Attribute o nm pos) (fun ρ=>(f ρ).bind (TR i)):=fun A env out hid m B s ρ z E r S hf=>by
 refine ak hf fun y hy gu=>?_
 clear hf;rename _=>hf
 refine Attribute_any_ (aD (ho A env out hid m B s ρ y E r S hy) (fun v s₁ q=>?_) fun ø ø q=>q) (by rw[Cu,he]);have bC:=S.after q.1;refine ak hf fun l LH hz=>?_
 cases V.zU LH;by_cases hl:l.length=5
 case neg=>rw[au hl]at hz;cases hz
 rw[aw hl]at hz;obtain⟨a,d,vs,rfl,I,h1,h2,h3,h4⟩:=q.2.ES W hl;obtain⟨u,hu,hzu⟩:=bq.get h4 hz;obtain⟨mA,I',h5,h6⟩:=I.inst;refine W.xj bC.G fun VU q' bs sn sub col dd k0 k1 k2 k3 k5 hC hN=>?_
 have ou:nm∈bP:=oO hi;exact load_attr hC hN W.ng (W.names _ ou) (noAttr _ ou) I' (h5 i u nm hu hi) (Ga (P:=P) hzu) ⟨q.1.trans (Kp.toks _ _),hzu⟩
noncomputable def Je(F:List V->Option V)(f:ao->Option V)(g:ao->Option (List V)):ao->Option V:=fun ρ=>(f ρ).bind fun y=>y.Ow.bind fun l=>if l.length=5 then(g ρ).bind fun xs=>F (.obj l::xs)else Option.none
theorem bc{C N mN}(W:dJ P C N mN){o:Expr}{apos pos:Pos}{name:Str}{args:List Expr}{fa:Addr}{F f g}(ho:em P n K lo o f)(hf:mN name=some (.ref fa))(XZ:∀h,P.G h->∃of fd,h.get? fa=some of/\of.cls= .type "function"/\of.data= .func fd)
  {y:Option Value} (hB:typeLookup (.type "object") name=pure y) (hnw:name∉bP) (hc:aZ P n (.ref fa) F)
  (ha:j7 P n K lo args g) (iS:∀env,starEach args env=args.map fun e=>(false,eval e env)) (cZ:args.length<20) (pU:(apos.endLine==pos.line)=true) (pV:∀env,attributeBase o name env (eval o env)=eval o env):
  em P n K lo (.Call (.Attribute o name apos) args [] pos) (Je F f g):=fun A env out hid m B s ρ z E r S X0=>by
 refine ak X0 fun x hx X0=>?_
 refine ak X0 fun l LH hz=>?_
 cases V.zU LH;by_cases hl:l.length=5
 case neg=>rw[au hl]at hz;cases hz
 rw[aw hl]at hz;refine ak hz fun xs x7 hF=>?_
 have ee:(backTo pos (starEach args env)).any (·.1)=false:=ct iS;rw[arm_eval_Call,pV];refine aA (aD (ho A env out hid m B s ρ _ E r S hx) (fun v s₁ q=>?_) fun ø ø q=>q);refine aA (lB ?_);have TS:methodCallForm (args.length+([]:List Keyword).length) (backTo pos (starEach args env)) (backToKw pos (keywordEach [] env))=true:=nI ee cZ;have Hu:methodCallPos true o env apos pos=pure pos:=by unfold methodCallPos;simp[pU]
 unfold methodCall;rw[TS];have bC:=S.after q.1;obtain⟨a,d,vs,rfl,I,h1,h2,h3,h4⟩:=q.2.ES W hl;obtain⟨mA,I',h5,h6⟩:=I.inst;refine W.xj bC.G fun VU q' bs sn sub col dd k0 k1 k2 k3 k5 hC hN=>?_
 obtain⟨of,fd,X1,ho2,ho3⟩:=XZ _ bC.G;have fin:∀{Q:Value×List Value->Shared->Prop},Q (.ref fa,[.ref a]) s₁->wpAny (model P.prog P.w) A (getMethod (.ref a) name (pure true)) Q E s₁:=fun hQ=>by
  exact method_of hC hN W.ng W.nh hf X1 ho2 hB I' (h6 _ fun hm=>hnw (Cv hm)) hQ
 have X2:∀{pl:Sem Bool} {Q:Value×List Value->Shared->Prop},Q (.ref fa,[.ref a]) s₁->wpAny (model P.prog P.w) A (getMethod (.ref a) name pl) Q E s₁:=fun hQ=>by
  exact method_of hC hN W.ng W.nh hf X1 ho2 hB I' (h6 _ fun hm=>hnw (Cv hm)) hQ
 refine aA (gH (X2 ?_));refine aA (wpAny_of_eq Hu ?_);refine callWith_function (o:=of) (fd:=fd) ?_;have key:=ha A env out hid m B s₁ ρ xs E pos r bC x7;refine bW ee (aD key (fun ws s₂ aM=>⟨⟨aM.1.keep _ _ X1,ho3⟩,?_⟩) fun ø ø q=>q);exact aD (hc A s₂ (av lo out hid) (.obj l::xs) z (.ref a::ws) E r (bC.after aM.1).G ((bC.after aM.1).Ek lo) (.cons (Dn.kp (P:=P) q.2 aM.1) aM.2) hF) (fun v s₃ eo=>⟨q.1.trans (aM.1.trans eo.1),eo.2⟩) fun ø ø q=>q
theorem qo{C:Addr}{id nm:Str}{p pos:Pos}{l:List Nat}{t:Tok}(hx:K.aV.contains id=true)(hv:P.glob id=some (.ref C))(hd:(id==("__debug__":Str))=false)
  (hG:∀h,P.G h->∃(Fr:Frag) (mc:Value),Fr.In h/\readsIn Fr C mc=true/\findCls Fr (.ref C) mc nm=some (.val (.str (pyStr l) t))) (he:∀env,attributeBase (.Name id p) nm env (eval (.Name id p) env)=eval (.Name id p) env):
  em P n K lo (.Attribute (.Name id p) nm pos) (fun ø=>some (.str l)):=fun A env out hid m B s ρ z E r S hf=>by
 cases hf;refine Attribute_any_ (bH S hx hv hd ?_) (by rw[Cu,he]);obtain⟨Fr,mc,X,h1,h2⟩:=hG _ S.G;exact cls_value X h1 h2 rfl ⟨Kp.toks _ _,.ofStr _ _⟩
end
section
variable{P:Pk}{n:Nat}{K:Cx}{lo:Bool}{C N:Addr}{mN:Str->Option Value}
theorem aU.rebase{env:Env}{out hid:List Addr}{m}{B B' s:Shared}{ρ}(S:aU P K env out hid m B s ρ)(k:Kp B' B)(hG:P.G B'.heap):aU P K env out hid m B' s ρ:=
 {fn:=S.fn,gl:=S.gl,bl:=S.bl,kind:=S.kind,oS:=S.oS,nodup:=S.nodup,iz:=S.iz,live:=S.live,oh:=S.oh,Lh:=S.Lh,Lo:=S.Lo,ns:=S.ns,slot:=S.slot,apart:=S.apart,gb:=hG,kp:=k.trans S.kp
  own:=fun a h ho=>by
   cases e:B'.heap.get? a with
   |none=>rfl
   |some o=>have:=k.keep a o e;rw[S.own a h ho]at this;cases this}
noncomputable def rN(x:Addr)(ρ:ao):Bool:= @decide (ρ 0=some (.obj [.int (x:Nat)])) (Classical.propDecidable _)
theorem vb{x:Addr}{ρ:ao}(h:rN x ρ=true):ρ 0=some (.obj [.int (x:Nat)]):= @cV _ (Classical.propDecidable _) h
theorem i9{x:Addr}{ρ:ao}(h:ρ 0=some (.obj [.int (x:Nat)])):rN x ρ=true:= @bo _ (Classical.propDecidable _) h
inductive X3(P:Pk)(K:Cx)(C:Addr)(env:Env)(out:List Addr)(B:Shared)(x dx:Addr)(aQ:ao)(wp:List V)(dG:Flow)(s':Shared):Prop
 |mk (f:dG= .next) (ar:List Addr) (m':Str->Option Value) (OG:List Value) (S:aU P K env ([x,dx]++out) ar m' B s' aQ) (I:ij C s'.heap x dx OG) (d:bd P s'.heap ar wp OG):X3 P K C env out B x dx aQ wp dG s'
noncomputable def su(P:Pk)(n:Nat)(K:Cx)(C:Addr)(st:List Stmt)(F:Addr->ao->List V->Option (ao×List V)):Prop:=
 ∀(A:Around) (env:Env) (out hid:List Addr) (m:Str->Option Value) (B s:Shared) (x dx:Addr) (ρ:ao) (lv:List V) (ws:List Value) (aQ:ao) (wp:List V) (E:Value->Shared->Prop),cJ n A->aU P K env ([x,dx]++out) hid m B s ρ->
  B.heap.get? x=none->B.heap.get? dx=none->ij C s.heap x dx ws->bd P s.heap hid lv ws->F x ρ lv=some (aQ,wp)->
  wpAny (model P.prog P.w) A (execs st env) (fun dG s'=>X3 P K C env out B x dx aQ wp dG s') E s
theorem su.nil:su P n K C [] (fun x ρ lv=>some (ρ,lv)):=fun A env out hid m B s x dx ρ lv ws aQ wp E rm S hx Gb I hd hf=>by
 cases hf;exact wpAny_execs_nil ⟨rfl,hid,m,ws,S,I,hd⟩
noncomputable def stW(f:ao->Option (ao×Fl))(g:Addr->ao->List V->Option (ao×List V)):Addr->ao->List V->Option (ao×List V):=fun x ρ lv=>(f ρ).bind fun r=>match r.2 with
 | .next=>g x r.1 lv
 |_=>none
theorem su.st{st:Stmt}{rest:List Stmt}{f g}(h:zQ P n K st f)(hr:su P n K C rest g):su P n K C (st::rest) (stW f g):=fun A env out hid m B s x dx ρ lv ws aQ wp E rm S hx Gb I hd hf=>by
 refine ak hf ?_;clear hf;rintro⟨am,fl⟩ h1 hf;refine tt (aD (h A env _ hid m B s ρ am fl E rm S h1) (fun dG s₁ q=>?_) fun ø ø q=>q);obtain⟨du,m₁,bC,jl,pT⟩:=q;cases fl<;>dsimp only at hf<;>try cases hf
 obtain rfl:=pT;exact hr A env out du m₁ B s₁ x dx am lv ws aQ wp E rm bC hx Gb (I.at (fun o e=>jl.keep x o (.inr (by simp)) e) fun o e=>jl.keep dx o (.inr (by simp)) e) (hd.ks jl) hf
noncomputable def Jf(idx:Nat)(f:ao->Option V)(g:Addr->ao->List V->Option (ao×List V)):Addr->ao->List V->Option (ao×List V):=fun x ρ lv=>
 if lv.length=idx/\rN x ρ=true then(f ρ).bind fun v=>g x ρ (lv++[v])else none
theorem wq:bP.Nodup:=by decide+kernel
theorem Dl{ws:List Value}{idx:Nat}{u:Value}{nm:Str}{mA:Str->Option Value}(Mi:ws.length=idx)(K9:bP[idx]?=some nm)(h5:∀(i:Nat) v nm,ws[i]?=some v->bP[i]?=some nm->mA nm=some v)(h6:∀nm,nm∉bP.take ws.length->mA nm=none):
  (∀(i:Nat) v Jg,(ws++[u])[i]?=some v->bP[i]?=some Jg->(if Jg=nm then some u else mA Jg)=some v)/\∀Jg,Jg∉bP.take (ws++[u]).length->(if Jg=nm then some u else mA Jg)=none:=by
 refine⟨fun i v Jg hi Jh=>?_,fun Jg Jh=>?_⟩
 ·by_cases eu:i<ws.length
  ·rw[List.getElem?_append_left eu]at hi
   rw[au fun z=>?_]
   ·exact h5 i v Jg hi Jh
   ·have a1:=gG.mp Jh
    have a2:=gG.mp K9;exact List.pairwise_iff_getElem.mp wq i idx a1.1 a2.1 (Mi▸eu) (a1.2.trans (z.trans a2.2.symm))
  ·rw[List.getElem?_append_right (gY.mp eu)]at hi
   have h1:i-ws.length<1:=(gG.mp hi).1;have e:i=idx:=Mi▸Nat.le_antisymm (Nat.le_of_sub_eq_zero (Nat.lt_one_iff.mp h1)) (gY.mp eu);rw[Nat.lt_one_iff.mp h1]at hi;rw[e]at Jh;rw[aw (Option.some.inj (Jh.symm.trans K9))];exact hi
 ·have h1:bP.take (ws++[u]).length=bP.take ws.length++[nm]:=by
   rw[aY,Mi];show bP.take (idx+1)=_;rw[xP,K9];rfl
  rw[h1]at Jh;rw[au (c:=Jg=nm) fun z=>Jh (ck _ (z▸ .head _))];exact h6 _ fun z=>Jh (cP _ z)
theorem Mj{h:Heap}{x dx C:Addr}{mA:Str->Option Value}{ws:List Value}(Ih:h.Inst x C mA)(hs:∃o,h.get? x=some o/\o.dict=some dx)(hv:(∀(i:Nat) v nm,ws[i]?=some v->bP[i]?=some nm->mA nm=some v)/\∀nm,nm∉bP.take ws.length->mA nm=none):ij C h x dx ws:=by
 obtain⟨o,z1,z2,z3,z4⟩:=Ih;obtain⟨TT,y1,y2⟩:=hs;rw[<-Option.some.inj (z1.symm.trans y1)]at y2;rcases z4 with⟨z4,_⟩|⟨d',z4,z5,z6⟩
 ·exact nomatch z4.symm.trans y2
 ·have ed:=Option.some.inj (z4.symm.trans y2)
  rw[ed]at z4 z5 z6;exact⟨o,_,z1,z2,z3,z4,z5,z6,hv.1,hv.2⟩
theorem ij.two{h:Heap}{x dx C:Addr}{ws:List Value}(I:ij C h x dx ws):cD h [x,dx]:=by
 obtain⟨o,mA,z1,_,_,_,_,⟨o',es,ep,z6,_⟩,_⟩:=I;exact fun b hb=>(bI.mp hb).elim (fun e=>e▸⟨o,z1⟩) fun hb=>cq.mp hb▸⟨o',z6⟩
theorem su.go{env:Env}{out hid:List Addr}{m}{B s₁:Shared}{x dx:Addr}{ρ aQ:ao}{lv wp:List V}{ws:List Value}{v:V}{u:Value}{A:Around}{E:Value->Shared->Prop}{rest:List Stmt}{g}(hr:su P n K C rest g)(rm:cJ n A)(bC:aU P K env ([x,dx]++out) hid m B s₁ ρ)
  (hx:B.heap.get? x=none) (Gb:B.heap.get? dx=none) (Bi:bd P s₁.heap hid lv ws) (hu:Dn P s₁.heap hid v u) (hf:g x ρ (lv++[v])=some (aQ,wp)) {h':Heap} {VK:Nat} (Mk:ij C h' x dx (ws++[u])) (hk:∀b o,b≠x->b≠dx->s₁.heap.get? b=some o->h'.get? b=some o):
  wpAny (model P.prog P.w) A (execs rest env) (fun dG s'=>X3 P K C env out B x dx aQ wp dG s') E {s₁ with heap:=h',toks:=VK}:=by
 have hmv:Mv [x,dx] none s₁ {s₁ with heap:=h',toks:=VK}:=⟨⟨fun b o hb e=>hk b o (fun z=>hb (z▸ .head _)) (fun z=>hb (z▸ .tail _ (.head _))) e,fun i y ø e=>e,id,rfl⟩,Mk.two⟩;have dI:=bC.step (W:=[x,dx]) (gi:=none) (fun a ha=>cP _ ha) hmv (fun a ha=>(bI.mp ha).elim (fun e=>e▸hx) fun ha=>cq.mp ha▸Gb) fun g e=>nomatch e
 have K6:∀a o,a∉hid->s₁.heap.get? a=some o->h'.get? a=some o:=fun a o ha e=>hk a o (fun z=>ha (z▸bC.oh _ (.head _))) (fun z=>ha (z▸bC.oh _ (.tail _ (.head _)))) e
 exact hr A env out hid m B _ x dx ρ (lv++[v]) (ws++[u]) aQ wp E rm dI hx Gb Mk (bq.app (bd.grow (P:=P) Bi K6 fun a h=>.inl h) (.one (Dn.grow (P:=P) hu K6 fun a h=>.inl h))) hf
set_option tactic.hygienic true in
theorem su.store(W:dJ P C N mN)(idx:Nat){nm self:Str}{kd:NameKind}{p p' pos:Pos}{e:Expr}{rest:List Stmt}{f g}(K9:bP[idx]?=some nm)(RC:K.vars[0]?=some (self,kd,false))(lu:(self==("__debug__":Str))=false)(hc:(self==("__classdict__":Str))=false)
  (h:em P n K false e f) (hr:su P n K C rest g) (hs:∀env,swapsWith e (some (.Attribute (.Name self p) nm p')) pos.line env=pure false):su P n K C (.Assign [.Attribute (.Name self p) nm p'] e pos::rest) (Jf idx f g):=
 fun A env out hid m B s x dx ρ lv ws aQ wp E rm S hx Gb I hd hf=>by
 refine OM hf fun hif hf=>ak hf fun v hv hf=>?_
 refine tt (plainObj_wpAny_Assign_Attribute (aD (h A env _ hid m B s ρ v E rm S hv) (fun u s₁ q=>?_) fun ø ø q=>q) (hs env));have bC:=S.after q.1;refine fM (bC.load RC (vb hif.2) lu hc fun v0 X4 ø=>?_) lu;rw[Dn.ET W X4];have TU:ij C s₁.heap x dx ws:=I.at (fun o e=>q.1.keep _ o e) fun o e=>q.1.keep _ o e
 have Bi:bd P s₁.heap hid lv ws:=hd.kp q.1;obtain⟨mA,IA,h5,h6⟩:=TU.inst;refine W.xj bC.G fun VU q' bs sn sub col dd k0 k1 k2 k3 k5 hC hN=>?_
 have ou:nm∈bP:=oO K9;obtain⟨ox,mA2,z1,z2,z3,z4,_⟩:=id TU;refine store_attr (ns:=bP) PySem.F.store_object hC hN W.nsa (W.names _ ou) (noAttr _ ou) (W.ne S.gb hx) IA (fun h' VK Ih hk TV=>?_) (fun y hy=>?_) (by rw[jM];exact az (show bP.length<=100 by decide) (by decide))
 ·obtain⟨TT,y1,_,_,_,y2⟩:=TV ox z1
  exact su.go hr rm bC hx Gb Bi q.2 hf (Mj Ih ⟨TT,y1,y2 dx z4⟩ (Dl (hd.length.trans hif.1) K9 h5 h6)) fun b o b1 b2 e=>hk b o b1 (fun ab1 dx' e1 e2 z=>b2 (z.trans (Option.some.inj (e2.symm.trans ((congrArg Obj.dict (Option.some.inj (e1.symm.trans z1))).trans z4))))) e
 ·exact Cw fun hm=>hy (h6 y fun z=>hm (Cv z))
noncomputable def TW(asg:ao->V->Option ao)(bf:ao->Option (ao×Fl))(g:Addr->ao->List V->Option (ao×List V)):Addr->ao->List V->Option (ao×List V):=fun x ρ lv=>
 if rN x ρ=true then(lv.head?.bind V.jK).bind fun l=>(gy asg bf (l.map fun c=>V.str [c]) ρ).bind fun r=>match r.2 with
  | .next=>g x r.1 lv
  |_=>none
 else none
set_option tactic.hygienic true in
theorem su.for(W:dJ P C N mN){lc:Bool}{self:Str}{kd:NameKind}{target:Expr}{body rest:List Stmt}{p p' pos:Pos}{asg bf g}(RC:K.vars[0]?=some (self,kd,false))(lu:(self==("__debug__":Str))=false)(hc:(self==("__classdict__":Str))=false)
  (he:∀env,attributeBase (.Name self p) (Str.ofString "raw") env (eval (.Name self p) env)=eval (.Name self p) env) (ha:En P K lc target asg) (hb:oo P n K body bf) (hr:su P n K C rest g):
  su P n K C (.For target (.Attribute (.Name self p) (Str.ofString "raw") p') body [] pos::rest) (TW asg bf g):=fun A env out hid m B s x dx ρ lv ws aQ wp E rm S hx Gb I hd hf=>by
 refine OM hf fun TX hf=>ak hf fun l hl hf=>ak hl fun v hv hl=>?_
 obtain⟨lv0,rfl⟩:=List.head?_eq_some_iff.mp hv;cases V.kN hl;refine ak hf ?_;clear hf;rintro⟨am,fl⟩ h1 hf;have h0:=vb TX;refine tt (aD (Dh (fl:=fl) (aQ:=am) (xs:=l.map fun c=>V.str [c]) rm S ?_ ha hb (fun x=>rfl) h1) (fun dG s₁ q=>?_) fun ø ø q=>q)
 ·refine Attribute_any_ (fM (S.load RC h0 lu hc fun v0 X4 ø=>?_) lu) (by rw[Cu,he])
  obtain rfl:=Dn.ET W X4;obtain⟨mA,IA,h5,h6⟩:=I.inst;refine W.xj S.G fun VU q' bs sn sub col dd k0 k1 k2 k3 k5 hC hN=>?_
  obtain⟨u,r,rfl,hu,_⟩:=bd.cons_inv hd;obtain⟨t,rfl⟩:=hu.str_inv;have ou:(Str.ofString "raw")∈bP:=by decide+kernel
  have hh:=rm.handled;obtain⟨hp,g',d',tk,os⟩:=s;exact load_attr hC hN W.ng (W.names _ ou) (noAttr _ ou) IA (h5 0 _ _ rfl rfl) rfl (I9 hh (Kp.toks (Shared.mk hp g' d' tk os) _))
 ·obtain⟨du,m₁,bC,jl,pT⟩:=q
  cases fl<;>dsimp only at hf<;>try cases hf
  obtain rfl:=pT;exact hr A env out du m₁ B s₁ x dx am _ ws aQ wp E rm bC hx Gb (I.at (fun o e=>jl.keep x o (.inr (by simp)) e) fun o e=>jl.keep dx o (.inr (by simp)) e) (hd.ks jl) hf
theorem Dm(W:dJ P C N mN){id:Str}{p pos:Pos}{e:Expr}{F0:Addr->ao->List V->Option (ao×List V)}{F:List V->Option (List V)}{f}{fI:Addr}{fd:FuncData}{body:List Stmt}{ps:List Str}{K':Cx}(hx:K.aV.contains id=true)(hv:P.glob id=some (.ref C))(Qe:(id==("__debug__":Str))=false)
  (hi:mN (Str.ofString "__init__")=some (.ref fI)) (XZ:∀h,P.G h->∃of,h.get? fI=some of/\of.cls= .type "function")
  (Cb:∀h,P.G h->(∃o,h.get? fI=some o/\o.data= .func fd)/\h.CodeRec fd.code fd.qualname) (nP:fd.body= .stmts body)
  (K8:fd.globals=mainGlobals) (Qd:fd.builtins=builtinsNs) (Dj:fd.closure=[]) (va:∀vs:List Value,vs.length=ps.length->bindArgs fd ⟨vs,[]⟩=pure (ps.zip vs)) (ok:uf K' fd.scope ps) (CY:ps.Nodup)
  (Mh:fd.scope.isCoroutine=false) (sM:fd.scope.isGenerator=false)
  (hB:su P n K' C body F0) (hF:∀x xs r,F xs=some r->xs.length+1=ps.length/\r.length=5/\∃aQ,F0 x (mY (.obj [.int (x:Nat)]::xs)) []=some (aQ,r))
  (hs:j7 P (n+2) K lo [e] f) (he:∀env,starEach [e] env=(false,eval e env)::starEach [] env):em P (n+2) K lo (.Call (.Name id p) [e] [] pos) (fun ρ=>(f ρ).bind fun xs=>(F xs).map .obj):=fun A env out hid m B s ρ z E rm S hf=>by
 refine ak hf fun y hy gu=>?_
 clear hf;rename _=>hf
 refine cI hf ?_;clear hf;rintro r hr rfl;refine kF (bH S hx hv Qe ?_);refine callWith_cls (W.cls _ S.G) (aD (hs A env out hid m B s ρ y E pos rm S hy) (fun vs s₁ aj=>⟨aj.1.keep,?_⟩) fun ø ø q=>q) (he env) rfl;have bC:=S.after aj.1;have live:=bC.Ek lo;have VV:=bC.G;refine W.xj VV fun VU q' bs sn sub col dd k0 k1 k2 k3 k5 hC hN=>?_
 obtain⟨oI,hoI,hcI⟩:=XZ _ VV;have hdn:=aj.2;have k01:=aj.1;clear aj;obtain⟨hlen,hlen5,_⟩:=hF 0 y r hr;obtain⟨hp,g',d',tk,os⟩:=s₁;refine wpAny_call_obj_init PySem.F.objNew hC hN hi hoI hcI fun h' x dx mo=>?_
 have k12:Kp ⟨hp,g',d',tk,os⟩ ⟨h',g',d',tk,os⟩:=⟨mo.keeps,.refl _,rfl⟩;obtain⟨o,mA⟩:∃o,h'.get? x=some o:=by obtain⟨o,e,_⟩:=mo.inst;exact⟨o,e⟩
 have hI:ij C h' x dx []:=by
  obtain⟨o,z1,z2,z3,z4⟩:=mo.inst;have Gb:=mo.dict o z1;rcases z4 with⟨z4,_⟩|⟨d2,z4,z5,z6⟩
  ·rw[Gb]at z4;cases z4
  ·rw[Gb]at z4;cases z4
   exact⟨o,_,z1,z2,z3,Gb,z5,z6,fun i v nm h=>by simp at h,fun ø ø=>rfl⟩
 obtain⟨odx,hodx⟩:∃o,h'.get? dx=some o:=by obtain⟨_,_,_,_,_,_,_,⟨o,_,_,z,_⟩,_⟩:=hI;exact⟨o,z⟩
 have TP:cJ (n+1) (A.under (.builtin "type.__call__" ⟨.ref C::vs,[]⟩)):=by
  refine⟨rm.handled,?_,?_⟩
  ·rw[depth_under_make];have:=rm.depth;omega
  ·show A.units+(Code.builtin "type.__call__" ⟨.ref C::vs,[]⟩).cUnits+10*(n+1)+10<=9000
   have h4:(Code.builtin "type.__call__" ⟨.ref C::vs,[]⟩).cUnits<=10:=by
    show 1+3*(Code.builtin "type.__call__" ⟨.ref C::vs,[]⟩).frames<=10;have:(Code.builtin "type.__call__" ⟨.ref C::vs,[]⟩).frames<=3:=by
     show(Code.builtin "type.__call__" ⟨[],[]⟩).frames<=3
     decide+kernel
    omega
   have:=rm.units;omega
 have hx0:x∉av lo out hid:=live.not mo.newX;have X5:dx∉av lo out hid:=live.not mo.newD;have TY:cD h' ([x,dx]++av lo out hid):=fun a h=>by
  simp only[List.cons_append,gh,bI]at h;rcases h with rfl|rfl|h
  ·exact⟨_,mA⟩
  ·exact⟨_,hodx⟩
  ·obtain⟨o,e⟩:=live a h;exact⟨o,mo.keeps _ _ e⟩
 have jn:∀a∈[x,dx]++av lo out hid,a∈av lo out hid\/hp.get? a=Option.none:=fun a h=>by
  simp only[List.cons_append,gh,bI]at h;rcases h with rfl|rfl|h
  ·exact .inr mo.newX
  ·exact .inr mo.newD
  ·exact .inl h
 have lu:bd P h' ([x,dx]++av lo out hid) y vs:=bd.grow (P:=P) hdn (fun a o ø e=>mo.keeps a o e) jn;refine u9 (xs:=.obj [.int (x:Nat)]::y) Cb nP K8 Qd Dj va ok CY Mh sM TP (P.Gk VV mo.keeps) TY (.cons (Dn.TQ W x) lu) (by simp[hlen]) fun TZ s₂ ar m' E' dI Jh rm2=>?_
 have rr:aU P K' TZ ([x,dx]++av lo out hid) ar m' ⟨hp,g',d',tk,os⟩ s₂ _:=dI.rebase k12 VV;obtain⟨_,_,aQ,hf0⟩:=hF x y r hr;have Mk:ij C s₂.heap x dx []:=hI.at (fun o e=>dI.kp.keep _ o e) fun o e=>dI.kp.keep _ o e
 refine aD (hB _ TZ _ ar m' _ s₂ x dx _ [] [] aQ r E' rm2 rr mo.newX mo.newD Mk .nil hf0) (fun dG s₃ q=>?_) fun ø ø q=>q
 obtain⟨rfl,hid₃,SD,ws,ru,I₄,NZ⟩:=q;refine⟨rfl,k01.trans ru.kp,?_⟩;refine⟨x,ws,rfl,?_,bd.less (P:=P) NZ fun a h=>ru.oh a (ck _ h)⟩;rw[W.ob];exact .inr ⟨NZ.length.trans hlen5,dx,I₄,hx0,X5⟩
end
section
variable{P:Pk}{n:Nat}{K:Cx}{lo:Bool}
theorem aZ.up{v F}(h:aZ P n v F):aZ P (n+1) v F:=fun A s hid xs x vs E rm hG live hd hf=>h A s hid xs x vs E (rm.less (kH _)) hG live hd hf
theorem aZ.pS{v F}(h:aZ P n v F)(k:Nat):aZ P (n+k) v F:=by
 induction k with
 |zero=>exact h
 |succ k ih=>exact ih.up
inductive EtQ(P:Pk)(K:Cx)(env:Env)(out hid:List Addr)(B s s':Shared)(aQ:ao)(b c:Bool):Prop
 |mk (ar:List Addr) (m':Str->Option Value) (S:aU P K env out ar m' B s' aQ) (k:Ks out hid ar s s') (e:c=b):EtQ P K env out hid B s s' aQ b c
noncomputable def EfT(P:Pk)(n:Nat)(K:Cx)(e:Expr)(f:ao->Option (ao×Bool)):Prop:=
 ∀(A:Around) (env:Env) (out hid:List Addr) (m:Str->Option Value) (B s:Shared) (ρ aQ:ao) (b:Bool) (E:Value->Shared->Prop),cJ n A->aU P K env out hid m B s ρ->f ρ=some (aQ,b)->
  wpAny (model P.prog P.w) A (isTrue e env (eval e env)) (fun c s'=>EtQ P K env out hid B s s' aQ b c) E s
noncomputable def X6(F:V->V->Option Bool)(f:ao->Option (ao×V))(g:ao->Option V):ao->Option (ao×Bool):=fun ρ=>(f ρ).bind fun r=>(g r.1).bind fun y=>(F r.2 y).map fun b=>(r.1,b)
theorem EfT.cmp{l r:Expr}{op:CmpOp}{pos:Pos}{F f g}(ho:jh P op F)(hl:R8 P n K l f)(hr:em P n K false r g)(hm:behindInMarks op r=false):EfT P n K (.Compare l [op] [r] pos) (X6 F f g):=fun A env out hid m B s ρ aQ b E rm S hf=>by
 refine ak hf ?_;clear hf;rintro⟨am,x⟩ hx hf;refine ak hf fun y hy gu=>?_
 clear hf;rename _=>hf
 refine cI hf fun b' hb e=>?_
 clear hf
 first|refine pair_inv e ?_;clear e|cases e
 refine tm (aD (hl A env out hid m B s ρ am x E rm S hx) (fun u s₁ aj=>?_) fun ø ø q=>q) hm;obtain⟨du,m₁,bC,jl,hu⟩:=aj;refine aD (hr A env out du m₁ B s₁ am y E rm bC hy) (fun v s₂ aM=>?_) fun ø ø q=>q
 have dI:=bC.after aM.1;refine aD (ho A s₂ du x y b' u v E (rm.less (eK _)) dI.G dI.live (hu.kp aM.1) aM.2 hb) (fun w s₃ eo=>?_) fun ø ø q=>q
 rw[eo.2];exact mH ⟨du,m₁,dI.after eo.1,(jl.trans (.iI aM.1)).trans (.iI eo.1),rfl⟩
theorem Bj{asg:ao->V->Option ao}{body:ao->Option (ao×Fl)}(I:Nat->ao->Prop)(Q:ao×Fl->Prop){xs:List V}
  (step:∀(i:Nat) x ρ,xs[i]?=some x->I i ρ->∃am r,asg ρ x=some am/\body am=some r/\match r.2 with
   | .next| .cont=>I (i+1) r.1
   | .brk=>Q (r.1,.next)
   | .ret v=>Q (r.1,.ret v))
  (done:∀ρ,I xs.length ρ->Q (ρ,.next)) {ρ:ao} (h0:I 0 ρ):∃r,gy asg body xs ρ=some r/\Q r:=by
 have go:∀(k:Nat) (i:Nat) ρ,k=xs.length-i->i<=xs.length->I i ρ->∃r,gy asg body (xs.drop i) ρ=some r/\Q r:=by
  intro k
  induction k with
  |zero=>
   intro i ρ hk hi h;have:i=xs.length:=by omega
   subst this;rw[List.drop_length];exact⟨_,rfl,done ρ h⟩
  |succ k ih=>
   intro i ρ hk hi h;have eu:i<xs.length:=by omega
   rw[List.drop_eq_getElem_cons eu];obtain⟨am,r,h1,h2,h3⟩:=step i xs[i] ρ (by simp[eu]) h;rw[uc];rw[h1,lF,h2,lF];obtain⟨di,fl⟩:=r;cases fl<;>dsimp only at h3 ⊢
   ·exact ih (i+1) di (by omega) eu h3
   ·exact⟨_,rfl,h3⟩
   ·exact ih (i+1) di (by omega) eu h3
   ·exact⟨_,rfl,h3⟩
 simpa using go _ 0 ρ rfl (eK _) h0
end
section
variable{P:Pk}{n:Nat}{K:Cx}{lo:Bool}
theorem len0:∀(ρ:ao) (x:List V),(fun _:ao=>some ([]:List V)) ρ=some x->x.length=0:=fun ρ x h=>by cases h;rfl
theorem kg.len0{L:Addr}{h:Heap}{out hid:List Addr}{bs:List Bool}{xs:List V}{vs:List Value}{H:List Addr}(e:kg P L h out hid bs xs vs H):vs.length=bs.length:=by
 induction e with
 |nil=>rfl
 |dat _ _ ih=>exact congrArg Nat.succ ih
 |box _ _ _ ih=>exact congrArg Nat.succ ih
theorem kg.len{ts:List (Nat×Str×NameKind×Bool)}:∀(L:Addr) (out hid:List Addr) (H:List Addr) (h:Heap) (xs:List V) (vs:List Value),kg P L h out hid (ts.map (·.2.2.2)) xs vs H->vs.length=ts.length:=fun L out hid H h xs vs e=>by
 rw[kg.len0 e];simp
theorem jA{i:Nat}{g}:∀ρ r,oV Fy i g ρ=some r->r.2= .none:=by
 intro ρ r h;simp only[oV,kG,np]at h;obtain⟨y,_,xs,_,r',hF,rfl⟩:=h;exact ak hF fun l ø hF=>ak hF fun x ø hF=>eR hF fun ø e=>by subst e;rfl
theorem Ji{i:Nat}{g}:∀ρ r,oV Lq i g ρ=some r->r.2= .none:=by
 intro ρ r h;simp only[oV,kG,np]at h;obtain⟨y,_,xs,_,r',hF,rfl⟩:=h;exact ak hF fun l ø hF=>ak hF fun p ø hF=>ak hF fun n ø hF=>eR hF fun ø e=>by subst e;rfl
theorem zb{env:Env}(h:env.scope.kind= .function):env.blockKind= .function:=by
 unfold Env.blockKind;rw[h];rfl
theorem T0{α:Type _}{b:Bool}{x y z:α}(h:b=false)(e:y=z):(if b=true then x else y)=z:=by
 subst h;exact e
theorem T1{α:Type _}{b:Bool}{x y:α}(e:y=x):(if b=true then x else y)=x:=by
 rw[e,ite_self]
noncomputable def RD:{q:(Expr->Bool)×(Env->List Expr->Expr->Option Str)//∀ts es k k' p p' env,swappedStores [.Tuple ts k p] (.Tuple es k' p') env=
  if(!(ts.length==2||ts.length==3)||es.length != ts.length||env.blockKind != .function)=true then pure none else if es.any q.1=true then pure none else
   if((ts.filterMap (q.2 env ts)).length != ts.length||(ts.filterMap (q.2 env ts)).eraseDups.length != (ts.filterMap (q.2 env ts)).length)=true then pure none else
    if es.all (foldedForSure 8)=true then pure none else if es.all (constantsAlone 8)=true then(do unsupported "assign.tuple-of-constant-expressions:order-of-the-stores";pure (some (ts.filterMap (q.2 env ts))))else pure (some (ts.filterMap (q.2 env ts)))}:=
 ⟨(_,_),fun ø ø ø ø ø ø ø=>rfl⟩
noncomputable abbrev star:Expr->Bool:=RD.1.1
noncomputable abbrev vc(env:Env)(ts:List Expr):Expr->Option Str:=RD.1.2 env ts
theorem nR{env:Env}{x y:Str}{p q:Pos}{ts:List Expr}(h:env.kindOf x=some .local)(hl:(p.line==q.line)=true):vc env (.Name y q::ts) (.Name x p)=some x:=by
 show(if(env.kindOf x==some .local&&p.line==q.line)=true then some x else none)=some x;rw[h,hl];rfl
theorem EU{env:Env}{ts es:List Expr}{k k':Nat}{p p':Pos}{names:List Str}(hl:(!(ts.length==2||ts.length==3)||es.length != ts.length||env.blockKind != .function)=false)(h1:es.any star=false)(hn:ts.filterMap (vc env ts)=names)
  (Jh:(names.length != ts.length||names.eraseDups.length != names.length)=false) (h2:es.all (foldedForSure 8)=false) (h3:es.all (constantsAlone 8)=false):swappedStores [.Tuple ts k p] (.Tuple es k' p') env=pure (some names):=by
 subst hn;exact(RD.2 ..).trans (T0 hl (T0 h1 (T0 Jh (T0 h2 (T0 h3 rfl)))))
theorem EV{env:Env}{ts es:List Expr}{k k':Nat}{p p':Pos}{names:List Str}(hn:ts.filterMap (vc env ts)=names)(h:(names.length != ts.length||names.eraseDups.length != names.length)=true):swappedStores [.Tuple ts k p] (.Tuple es k' p') env=pure none:=by
 subst hn;exact(RD.2 ..).trans (T1 (T1 (aw h)))
theorem N0{env:Env}{es:List Expr}{m:Nat}(hs:(es.length != m)=false)(hf:env.scope.kind= .function):(es.length != m||env.blockKind != .function)=false:=by
 rw[hs,zb hf];rfl
theorem T2{K:Cx}{i j:Nat}{x y:Str}{b b':Bool}{p1 p2 p p':Pos}{k k':Nat}{es:List Expr}(hi:K.vars[i]?=some (x,.local,b))(hj:K.vars[j]?=some (y,.local,b'))(hl:(p2.line==p1.line)=true)(hn:([x,y].eraseDups.length != 2)=false)
  (hs:(es.length != 2)=false) (h1:es.any star=false) (h2:es.all (foldedForSure 8)=false) (h3:es.all (constantsAlone 8)=false):
  ∀env:Env,(∀(i:Nat) x kd b,K.vars[i]?=some (x,kd,b)->env.kindOf x=some kd)->env.scope.kind= .function->swappedStores [.Tuple [.Name x p1,.Name y p2] k p] (.Tuple es k' p') env=pure none\/swappedStores [.Tuple [.Name x p1,.Name y p2] k p] (.Tuple es k' p') env=pure (some [x,y]):=fun env hk hf=>
 .inr (EU (N0 hs hf) h1 ((q9 (nR (hk i x _ _ hi) (qO _))).trans (congrArg _ (q9 (nR (hk j y _ _ hj) hl)))) hn h2 h3)
theorem N1{K:Cx}{i j l:Nat}{x y z:Str}{b b' b'':Bool}{p1 p2 p3 p p':Pos}{k k':Nat}{es:List Expr}(hi:K.vars[i]?=some (x,.local,b))(hj:K.vars[j]?=some (y,.local,b'))(hz:K.vars[l]?=some (z,.local,b''))(hl:(p2.line==p1.line)=true)(X7:(p3.line==p1.line)=true)(hn:([x,y,z].eraseDups.length != 3)=false)
  (hs:(es.length != 3)=false) (h1:es.any star=false) (h2:es.all (foldedForSure 8)=false) (h3:es.all (constantsAlone 8)=false):
  ∀env:Env,(∀(i:Nat) x kd b,K.vars[i]?=some (x,kd,b)->env.kindOf x=some kd)->env.scope.kind= .function->swappedStores [.Tuple [.Name x p1,.Name y p2,.Name z p3] k p] (.Tuple es k' p') env=pure none\/swappedStores [.Tuple [.Name x p1,.Name y p2,.Name z p3] k p] (.Tuple es k' p') env=pure (some [x,y,z]):=fun env hk hf=>
 .inr (EU (N0 hs hf) h1 ((q9 (nR (hk i x _ _ hi) (qO _))).trans (congrArg _ ((q9 (nR (hk j y _ _ hj) hl)).trans (congrArg _ (q9 (nR (hk l z _ _ hz) X7)))))) hn h2 h3)
theorem Ml{K:Cx}{ts:List Expr}{p p':Pos}{k k':Nat}{es:List Expr}{names:List Str}(h1:es.any star=false)(h2:es.all (foldedForSure 8)=true):
 ∀env:Env,(∀(i:Nat) x kd b,K.vars[i]?=some (x,kd,b)->env.kindOf x=some kd)->env.scope.kind= .function->swappedStores [.Tuple ts k p] (.Tuple es k' p') env=pure none\/swappedStores [.Tuple ts k p] (.Tuple es k' p') env=pure (some names):=fun env hk hf=>.inl ((RD.2 ..).trans (T1 (T1 (T1 (aw h2)))))
end
section
variable{P:Pk}{n:Nat}{K K':Cx}{lo:Bool}
noncomputable def Mm(P:Pk)(n:Nat)(K:Cx)(st:List Stmt)(f:ao->Option V):Prop:=
 ∀(A:Around) (env:Env) (out hid:List Addr) (m:Str->Option Value) (B s:Shared) (ρ:ao) (x:V) (E:Value->Shared->Prop),cJ n A->aU P K env out hid m B s ρ->f ρ=some x->
  wpAny (model P.prog P.w) A (execs st env) (fun dG s'=>Kp B s'/\∃v,dG= .ret v/\Dn P s'.heap out x v) E s
theorem Bk{st f}(h:oo P n K st f):Mm P n K st (fun ρ=>(f ρ).bind fun r=>match r.2 with| .ret x=>some x|_=>Option.none):=fun A env out hid m B s ρ x E rm S hf=>by
 refine ak hf ?_;clear hf;rintro⟨aQ,fl⟩ h1 hf;cases fl<;>dsimp only at hf<;>try cases hf
 refine aD (h A env out hid m B s ρ aQ _ E rm S h1) (fun dG s' q=>?_) fun ø ø q=>q
 obtain⟨ar,m',S',K',v,rfl,hv⟩:=q;exact⟨S'.kp,v,rfl,hv⟩
noncomputable def Jj(f:ao->Option (ao×Fl))(g:ao->Option V):ao->Option V:=fun ρ=>(f ρ).bind fun r=>match r.2 with
 | .next=>g r.1
 | .ret x=>some x
 |_=>Option.none
theorem dM{st:Stmt}{rest:List Stmt}{f g}(h:zQ P n K st f)(hr:Mm P n K rest g):Mm P n K (st::rest) (Jj f g):=fun A env out hid m B s ρ x E rm S hf=>by
 refine ak hf ?_;clear hf;rintro⟨am,fl⟩ h1 hf;refine tt (aD (h A env out hid m B s ρ am fl E rm S h1) (fun dG s₁ q=>?_) fun ø ø q=>q);obtain⟨du,m₁,bC,jl,pT⟩:=q;cases fl<;>dsimp only at hf<;>try cases hf
 ·obtain rfl:=pT
  exact hr A env out du m₁ B s₁ am x E rm bC hf
 ·obtain⟨v,rfl,hv⟩:=pT
  exact⟨bC.kp,v,rfl,hv⟩
theorem aU.freeze{env:Env}{out hid:List Addr}{m}{B s:Shared}{ρ}(S:aU P K env out hid m B s ρ)(i:Nat){x:Str}{k:NameKind}(hi:K.vars[i]?=some (x,k,true))(hv:K'.vars=K.vars.set i (x,k,false))(hg:K'.aV=K.aV){y:V}(hy:ρ i=some y):
  ∃ar,aU P K' env out ar m B s ρ:=by
 obtain⟨ov,Vb,sl0⟩:=S.slot i x k true hi;rw[hy]at sl0;obtain⟨v0,rfl,bx⟩:=sl0;rw[aw rfl]at bx;obtain⟨a,rfl,ha1,ha2,ha3,ha4⟩:=eP.addr (P:=P) bx;have mem:∀b,b∈hid.filter (fun b=>decide (b≠a))<->b∈hid/\b≠a:=fun b=>by simp[gw]
 have sub:∀b∈hid.filter (fun b=>decide (b≠a)),b∈hid:=fun b h=>((mem b).mp h).1
 have X8:a∉hid.filter (fun b=>decide (b≠a)):=fun q=>((mem a).mp q).2 rfl
 refine⟨hid.filter fun b=>decide (b≠a),S.unbox hi hv hg hy Vb ha4 (fun b h=>(mem b).mpr ⟨S.oh b h,fun e=>ha2 (e▸h)⟩) (fun b h ho=>S.own b (sub b h) ho) (fun b h ho cZ=>⟨(mem b).mpr ⟨h,cZ⟩,ho⟩) ha3 sub
  (fun h=>h.map id fun c ø q2 q3 q4=>⟨(mem c).mpr ⟨q2,fun e=>ha4.jS (e▸q4)⟩,q3,q4⟩) (fun ø ø=>rfl) hy ?_⟩
 cases y
 case list=>
  obtain⟨a',vs,e,z1,z2,z3,z4,z5⟩:=bx;cases e;exact .ofList X8 z4 (bd.less (P:=P) z5 sub)
 case dict=>
  obtain⟨a',vs,e,z1,z2,z3,z4,z5,z6,z7⟩:=bx;cases e;exact⟨a,vs,rfl,X8,z5,z4,z6,bd.less (P:=P) z7 sub⟩
 all_goals exact bx.elim
theorem zc(i:Nat){x:Str}{k:NameKind}{rest:List Stmt}{g}(hi:K.vars[i]?=some (x,k,true))(hv:K'.vars=K.vars.set i (x,k,false))(hg:K'.aV=K.aV)(hr:Mm P n K' rest g):Mm P n K rest (fun ρ=>(ρ i).bind fun ø=>g ρ):=fun A env out hid m B s ρ x E rm S hf=>by
 refine ak hf fun y hy gu=>?_
 clear hf;rename _=>hf
 obtain⟨ar,S'⟩:=S.freeze i hi hv hg hy;exact hr A env out ar m B s ρ x E rm S' hf
set_option tactic.hygienic true in
theorem aZ.fnT{a:Addr}{fd:FuncData}{body:List Stmt}{ps:List Str}{f:ao->Option V}(Cb:∀h,P.G h->(∃o,h.get? a=some o/\o.data= .func fd)/\h.CodeRec fd.code fd.qualname)(nP:fd.body= .stmts body)
  (K8:fd.globals=mainGlobals) (Qd:fd.builtins=builtinsNs) (Dj:fd.closure=[]) (va:∀vs:List Value,vs.length=ps.length->bindArgs fd ⟨vs,[]⟩=pure (ps.zip vs)) (ok:uf K fd.scope ps) (CY:ps.Nodup)
  (Mh:fd.scope.isCoroutine=false) (sM:fd.scope.isGenerator=false) (h:Mm P n K body f):aZ P (n+1) (.ref a) (fun xs=>if xs.length=ps.length then f (mY xs)else Option.none):=
 fun A s hid xs x vs E rm hG live hd hf=>by
 dsimp only at hf;split at hf
 case isFalse=>cases hf
 rename_i hlen;refine u9 Cb nP K8 Qd Dj va ok CY Mh sM rm hG live hd hlen fun env s₁ ar m E' S ø TP=>?_
 refine aD (h _ env hid ar m s s₁ (mY xs) x E' TP S hf) (fun dG s' q=>?_) fun ø ø q=>q
 obtain⟨k,v,rfl,hv⟩:=q;exact⟨k,hv⟩
theorem zd(i:Nat){id x:Str}{k:NameKind}{p xp pos:Pos}(hi:K.vars[i]?=some (x,k,true))(hd:(x==("__debug__":Str))=false)(hc:(x==("__classdict__":Str))=false)(hx:K.aV.contains id=true)(hv:P.glob id=some (.type "tuple"))(Qe:(id==("__debug__":Str))=false):
  em P n K false (.Call (.Name id p) [.Name x xp] [] pos) (fun ρ=>(ρ i).bind fun y=>Sy [y]):=fun A env out hid m B s ρ z E rm S hf=>by
 refine ak hf fun y hy gu=>?_
 clear hf;rename _=>hf
 refine kF (bH S hx hv Qe ?_);refine PySem.Pv.callWith_type1 (m7 (fM (S.load hi hy hd hc fun v bx ø=>nk ?_) hd));rw[aw rfl]at bx;refine ak (o:=y.gm) hf fun l hl hf=>ite_inv hf fun hm=>?_
 cases V.eO hl;obtain⟨a,ws,rfl,_,_,_,ht,lu⟩:=bx.cK;exact O4 S.live ht lu hm
end
section
section tables
end tables
section
variable{prog:Program}{w:World}{K:Type}[DecidableEq K]{knd:KeyKind prog w K}{A:Around}{E:Value->Shared->Prop}{s:Shared}
structure X9(knd:KeyKind prog w K)(o:Obj)(es:Array (Int×Value))(ep:Nat)(t:SetTable)(ks:List K)(led:Bool):Prop where
 h1:o.ExactSet
 h2:o.data= .set es ep t
 h3:ElemsOf knd es.toList
 h4:es.size=ks.length
 h5:∀k,k∈ks<->∃e∈es.toList,knd.is k e.2=true
 h6:es.size<scanBound
 h7:t.fits es.size=true
 h8:t.led=led
 h9:es.size≠0->t.plain=false
inductive Mn(knd:KeyKind prog w K)(h:Heap)(a:Addr)(ks:List K)(led:Bool):Prop
 |mk (o:Obj) (es:Array (Int×Value)) (ep:Nat) (t:SetTable) (e:h.get? a=some o) (d:X9 knd o es ep t ks led):Mn knd h a ks led
theorem Mn.at{h h':Heap}{a ks led}(x:Mn knd h a ks led)(k:∀o,h.get? a=some o->h'.get? a=some o):Mn knd h' a ks led:=let⟨o,es,ep,t,e,r⟩:=x;⟨o,es,ep,t,k o e,r⟩
end
end
section
section
variable{prog:Program}{w:World}{A:Around}{E:Value->Shared->Prop}{s:Shared}
noncomputable def Qf(ks:List Str)(k:Str):List Str:=if k∈ks then ks else ks++[k]
noncomputable def dd(xs:List (List Nat)):List Str:=(xs.map pyStr).foldl Qf []
end
end
section
section
variable{prog:Program}{w:World}{A:Around}{E:Value->Shared->Prop}{s:Shared}
end
end
section
section facts
end facts
section perms
variable{M:Model}{A:Around}{E:Value->Shared->Prop}{s:Shared}
end perms
section
variable{prog:Program}{w:World}{A:Around}{E:Value->Shared->Prop}{s:Shared}
inductive rO(w:World)(S:Addr)(es:Array (Int×Value))(ep:Nat)(t:SetTable)(first:Nat->Value)(vals:List Value)(h:Heap):Prop
 |txt (a1:w.params.followText "set-order"=true) (a2:∀i,first i=rawInt (0:Nat)) (a3:vals=(pickOrder (w.params.setOrder S ep) es).toList.map (·.2)):rO w S es ep t first vals h
 |drw (a1:w.params.followText "set-order"=false) (tp:Addr) (places:List Nat) (a2:∀i,first i= .ref tp) (a3:x0 h tp (places.map fun(p:Nat)=>rawInt p).toArray) (a4:places.Perm (List.range es.size)) (a5:vals=places.filterMap fun p=>(es[p]?).map (·.2)):rO w S es ep t first vals h
 |one (a1:w.params.followText "set-order"=false) (a2:es.size<=1) (a3:t.led=true) (a4:first 0=rawInt (0:Nat)) (a5:∀p,t.place[0]?=some p->first 1=rawInt (p+1:Nat)) (a6:vals=es.toList.map (·.2)):rO w S es ep t first vals h
end
end
section
section
variable{prog:Program}{w:World}{A:Around}{E:Value->Shared->Prop}{s:Shared}
noncomputable def Qg{α:Type}(d:α)(fI:Int->Tok->α)(fS:Str->Tok->α)(fR:Addr->α)(v:Value):α:= @Value.casesOn (fun ø=>α) v d d d (fun ø=>d) (fun k t=>fI k t) (fun ø ø=>d) (fun x t=>fS x t) (fun ø ø=>d) (fun ø=>d) (fun ø=>d) (fun a=>fR a)
noncomputable def vInt:Value->Option (Int×Tok):=Qg none (fun k t=>some (k,t)) (fun ø ø=>none) (fun ø=>none)
noncomputable def vStr:Value->Option (Str×Tok):=Qg none (fun ø ø=>none) (fun x t=>some (x,t)) (fun ø=>none)
noncomputable def Yb:Value->Option Addr:=Qg none (fun ø ø=>none) (fun ø ø=>none) some
theorem vd{v:Value}{p}(h:vInt v=some p):v= .int p.1 p.2:=by
 cases v<;>cases h;rfl
theorem Jk{v:Value}{p}(h:vStr v=some p):v= .str p.1 p.2:=by
 cases v<;>cases h;rfl
noncomputable def T3(first:Nat->Value):List Addr:=(Yb (first 0)).toList
theorem rO.keep{S:Addr}{es:Array (Int×Value)}{ep:Nat}{t:SetTable}{first:Nat->Value}{vals:List Value}{h h':Heap}(x:rO w S es ep t first vals h)(k:∀b∈T3 first,∀o,h.get? b=some o->h'.get? b=some o):rO w S es ep t first vals h':=by
 rcases x with⟨a,b,c⟩|⟨a,tp,places,b,c,d,e⟩|⟨a,b,c,d,e,f⟩
 ·exact .txt a b c
 ·obtain⟨n,c⟩:=c
  exact .drw a tp places b ⟨n,k tp (by unfold T3;rw[b 0];exact List.mem_singleton_self _) _ c⟩ d e
 ·exact .one a b c d e f
end
end
section
section
variable{prog:Program}{w:World}{A:Around}{E:Value->Shared->Prop}{s:Shared}
end
end
section
section
variable{prog:Program}{w:World}{A:Around}{E:Value->Shared->Prop}{s:Shared}
end
variable{P:Pk}{n:Nat}{K K':Cx}{lo:Bool}
end
section
variable{P:Pk}{n:Nat}{K:Cx}{lo:Bool}{C N:Addr}
structure Do(P:Pk)(n:Nat)(C:Addr)(F:List V->Option (List V)):Prop where
 ok:∀{K:Cx} {lo:Bool} {id:Str} {p pos:Pos} {e:Expr} {f},K.aV.contains id=true->P.glob id=some (.ref C)->(id==("__debug__":Str))=false->j7 P n K lo [e] f->(∀env,starEach [e] env=(false,eval e env)::starEach [] env)->
  em P n K lo (.Call (.Name id p) [e] [] pos) (fun ρ=>(f ρ).bind fun xs=>(F xs).map .obj)
theorem em.mk{F:List V->Option (List V)}(m:Do P n C F){id:Str}{p pos:Pos}{e:Expr}{f}(hx:K.aV.contains id=true)(hv:P.glob id=some (.ref C))(Qe:(id==("__debug__":Str))=false)(hs:j7 P n K lo [e] f)(he:∀env,starEach [e] env=(false,eval e env)::starEach [] env):
 em P n K lo (.Call (.Name id p) [e] [] pos) (fun ρ=>(f ρ).bind fun xs=>(F xs).map .obj):=m.ok hx hv Qe hs he
end
theorem Yc(P:Params):(HZ P).get? 22=some (iB P):=ql P (by kernel_rfl) (by decide) (by kernel_rfl)
theorem N2(P:Params):(HZ P).get? 160=some (ii P):=ql P (by kernel_rfl) (by decide) (by kernel_rfl)
theorem N3(P:Params):(HZ P).get? 161=some uU:=ql P (by kernel_rfl) (by decide) (by kernel_rfl)
theorem T4(P:Params):(HZ P).get? 166=some (e7 P):=ql P (by kernel_rfl) (by decide) (by kernel_rfl)
theorem at2(P:Params):(HZ P).get? 2=some (boot_o_2 P):=ql P (by kernel_rfl) (by decide) (by kernel_rfl)
noncomputable def Jl(o:Obj):Array (Int×Value):=Pw #[] (fun ø=> #[]) (fun es=>es) (fun ø=> #[]) o.data
noncomputable def T6(es:List (Int×Value)):Bool:=es.all fun e=>(vInt e.2).elim false fun k=>e.1==hashInt k.1&&e.2.scannable
noncomputable def T7:List Int:=[65024,65025,65026,65027,65028,65029,6150,65030,65031,65032,65033,6155,6156,6157,8203,8204,8205,65034,65035,65036,65037,65038,65039,173,847,8288,65279]
noncomputable def N4(es:List (Int×Value)):List Int:=es.filterMap fun e=>(vInt e.2).map (·.1)
theorem ve{α:Type}{o:Option α}{f:α->Bool}(h:o.elim false f=true):∃a,o=some a/\f a=true:=by
 cases o with
 |none=>cases h
 |some a=>exact⟨a,rfl,h⟩
set_option tactic.hygienic true in
theorem Qh{P:Pk}(hG:∀h,P.G h->YP P.w h):∀h,P.G h->∃n,h.SetOf (intKind P.prog P.w) 22 (fun k=>decide (k∈T7)) n:=fun h G=>by
 have hk:N4 (Jl (iB P.w.params)).toList=T7:=by kernel_rfl
 have LN:T6 (Jl (iB P.w.params)).toList=true:=by kernel_rfl
 refine⟨_,iB P.w.params,Jl (iB P.w.params),_,_,hG h G _ _ (Yc _),⟨rfl,rfl,rfl⟩,rfl,fun e he=>?_,fun k=>?_,?_,?_,rfl⟩
 ·obtain⟨p,h1,h2⟩:=ve (cH.mp LN e he)
  obtain⟨h3,h4⟩:=(bX _ _).mp h2;exact⟨⟨p.1,by rw[vd h1];simp[intKind,Value.isInt],eq_of_beq h3⟩,h4⟩
 ·rw[mI,<-hk]
  unfold N4;rw[List.mem_filterMap];constructor
  ·rintro⟨e,he,hq⟩
   refine cI hq fun p hp hq=>⟨e,he,?_⟩
   rw[vd hp];simp[intKind,Value.isInt,hq]
  ·rintro⟨e,he,hq⟩
   obtain⟨t,ht⟩:=Value.isInt_shape hq;exact⟨e,he,by rw[ht];rfl⟩
 ·show 27<scanBound
  decide
 ·kernel_rfl
noncomputable def Mo(P:Params)(l:List Nat):Option Int:=(findBy (fun(k:Str) v=>v.isStrOf k) (ents (e7 P)) (pyStr l)).bind fun v=>(vInt v).map (·.1)
noncomputable def keysOk(P:Params):List DictEntry->Prop
 |[]=>True
 |e::es=>((vStr e.key).elim False fun x=>e.hash=PySem.PyData.keyHash P x.1)/\keysOk P es
set_option tactic.hygienic true in
theorem xk{prog:Program}{w:World}:∀{es:List DictEntry},keysOk w.params es->∀e∈es,∃k,(PySem.strKind prog w).is k e.key=true/\e.hash=(PySem.strKind prog w).hash k
 |[],_,e,he=>by cases he
 |x::es,h,e,he=>by
  obtain⟨h1,h2⟩:=h;rcases bI.mp he with rfl|he
  ·cases q:vStr e.key with
   |none=>rw[q]at h1;cases h1
   |some y=>
    rw[q]at h1;exact⟨y.1,by rw[Jk q];simp[PySem.strKind,Value.isStrOf],h1⟩
  ·exact xk h2 e he
theorem Jm(P:Params):keysOk P (ents (e7 P)).toList:=⟨rfl,rfl,rfl,rfl,rfl,rfl,rfl,rfl,rfl,rfl,rfl,rfl,rfl,rfl,rfl,rfl,rfl,rfl,rfl,rfl,rfl,rfl,rfl,rfl,rfl,rfl,rfl,rfl,rfl,rfl,rfl,rfl,rfl,rfl,rfl,rfl,rfl,rfl,rfl,rfl,rfl,rfl,rfl,rfl,rfl,rfl,rfl,rfl,trivial⟩
theorem Jn{P:Pk}(hG:∀h,P.G h->YP P.w h):∀h,P.G h->h.MapOf (PySem.strKind P.prog P.w) 166 fun k=>findBy (fun(k:Str) v=>v.isStrOf k) (ents (e7 P.w.params)) k:=fun h G=>
 ⟨e7 P.w.params,ents (e7 P.w.params),_,hG h G _ _ (T4 _),⟨rfl,rfl,rfl⟩,rfl,fun e he=>xk (Jm _) e (by simpa using he),fun k=>rfl⟩
set_option tactic.hygienic true in
theorem EW{P:Pk}(hG:∀h,P.G h->YP P.w h):∀h,P.G h->∃f:Str->Option Value,h.MapOf (PySem.strKind P.prog P.w) 166 f/\∀l k,Mo P.w.params l=some k->∃t,f (pyStr l)=some (.int k t):=fun h G=>
 ⟨_,Jn hG h G,fun l k hk=>ak hk fun v hv hk=>cI hk fun p hp hk=>⟨p.2,by rw[<-hk,<-vd hp];exact hv⟩⟩
noncomputable def Qi(P:Params)(l:List Nat):Bool:=(findBy (fun(k:Str) v=>v.isStrOf k) (ents (e7 P)) (pyStr l)).isSome
theorem Jo{P:Pk}(hG:∀h,P.G h->YP P.w h):∀h,P.G h->∃g:Str->Option Value,h.MapOf (PySem.strKind P.prog P.w) 166 g/\∀l,Qi P.w.params l=(g (pyStr l)).isSome:=fun h G=>⟨_,Jn hG h G,fun l=>rfl⟩
noncomputable def Mp(P:Params)(c:Nat):Option Nat:=(Mo P [c]).map Int.toNat
theorem Jp(P:Params):((ents (e7 P)).toList.all fun e=>(vInt e.val).elim false fun k=>decide (0<=k.1))=true:=by kernel_rfl
theorem Mq{P:Params}{l:List Nat}{v:Value}(h:findBy (fun(k:Str) v=>v.isStrOf k) (ents (e7 P)) (pyStr l)=some v):∃p:Int×Tok,vInt v=some p/\0<=p.1:=by
 unfold findBy at h;refine cI h fun e he h=>?_
 obtain⟨p,h1,h2⟩:=ve (cH.mp (Jp P) e (Array.mem_toList_iff.mpr (Array.mem_of_find?_eq_some he)));exact⟨p,h▸h1,cV h2⟩
noncomputable def Mr(P:Params)(x:Str):Option Value:=nsFind (ents (ii P)) x
noncomputable def strKeys(es:List DictEntry):Bool:=es.all fun e=>match e.key with
 | .str _ _=>true
 |_=>false
theorem Ms(P:Params):strKeys (ents (ii P)).toList=true:=by kernel_rfl
set_option tactic.hygienic true in
theorem Mt(P:Params):StrKeys (ents (ii P)):=fun e he=>by
 have:=cH.mp (Ms P) e (by simpa using he);split at this
 ·rename_i x t q
  exact⟨x,t,q⟩
 ·cases this
theorem mj{P:Pk}(hob:P.OB=Dk 161)(hG:∀h,P.G h->YP P.w h):dJ P 161 160 (Mr P.w.params)where
 ob:=hob
 cls:=fun h G=>⟨⟨_,_,_,_,_,_,_,_,_,_,_,_,hG h G _ _ (N3 _)⟩,⟨ii P.w.params,ents (ii P.w.params),_,hG h G _ _ (N2 _),rfl,Mt _,fun ø=>rfl⟩⟩
 ng:=by kernel_rfl
 nh:=by kernel_rfl
 nsa:=by kernel_rfl
 names:=fun nm h=>by
  simp only[bP,bI,tD,or_false]at h;rcases h with rfl|rfl|rfl|rfl|rfl<;>kernel_rfl
theorem Mu(P:Params):Mr P (Str.ofString "__init__")=some (.ref 116):=by kernel_rfl
noncomputable def Qj(P:Params):Frag:=[(2,boot_o_2 P),(160,ii P),(161,uU)]
theorem EX{P:Pk}(hG:∀h,P.G h->YP P.w h):∀h,P.G h->(Qj P.w.params).In h:=fun h G=>
 Frag.in_of (as:=[2,160,161]) rfl (by
  have y:=hG h G;simp only[Qj,bB,pk];rw[y _ _ (at2 _),y _ _ (N2 _),y _ _ (N3 _)])
theorem Bl(P:Params):readsIn (Qj P) 161 (.type "type")=true:=by kernel_rfl
theorem Yd(P:Params):findCls (Qj P) (.ref 161) (.type "type") "S"=some (.val (.str (pyStr [32]) 2264)):=by kernel_rfl
section
variable{P:Pk}{n:Nat}
noncomputable def KB1:Cx:={vars:=[("code",.local,false)],aV:=["ord","b1_set"]}
end
section
variable{P:Pk}{n:Nat}
noncomputable def KB3:Cx:={vars:=[("code",.local,false),("r",.local,false)],aV:=["ord","b3_exceptions"]}
end
section
noncomputable def gpL:List Pos:=[⟨13,4,13,7⟩,⟨13,10,13,11⟩,⟨13,4,13,11⟩,⟨14,4,14,10⟩,⟨14,13,14,18⟩,⟨14,4,14,18⟩,⟨15,19,15,28⟩,⟨15,29,15,33⟩,⟨15,19,15,34⟩,⟨15,4,22,27⟩,⟨23,7,23,13⟩,⟨24,15,24,18⟩,⟨24,20,24,24⟩,⟨24,14,24,25⟩,⟨24,8,24,25⟩,⟨24,8,24,25⟩,⟨23,4,24,25⟩,⟨15,8,15,11⟩,⟨15,13,15,15⟩,⟨15,8,15,15⟩,⟨16,11,16,17⟩,⟨17,19,17,22⟩,⟨17,24,17,28⟩,⟨17,31,17,33⟩,⟨17,24,17,33⟩,⟨17,18,17,34⟩,⟨17,12,17,34⟩,⟨17,12,17,34⟩,⟨18,12,18,18⟩,⟨18,21,18,26⟩,⟨18,12,18,26⟩,⟨19,13,19,15⟩,⟨19,19,19,23⟩,⟨19,13,19,23⟩,⟨20,12,20,18⟩,⟨20,21,20,25⟩,⟨20,12,20,25⟩,⟨22,19,22,22⟩,⟨22,24,22,26⟩,⟨22,18,22,27⟩,⟨22,12,22,27⟩,⟨22,12,22,27⟩,⟨19,8,22,27⟩,⟨16,8,22,27⟩]
theorem Ye(P:Params):findCls (Qj P) (.ref 161) (.type "type") "T"=some (.val (.str (pyStr [9]) 2265)):=by kernel_rfl
structure bG(P:Pk):Prop where
 ob:P.OB=Dk 161
 top:∀h,P.G h->YP P.w h
 glob:∀(x:Str) v,nsFind (ents (nO P.w.params)) x=some v->P.glob x=some v
 built:∀(x:Str) v,x≠"__name__"->nsFind (ents (nO P.w.params)) x=none->bootBuiltins x=some v->P.glob x=some v
theorem Qk(w:World)(aj:Heap)(mg mb:Str->Option Value)(hg:aj.Ns mainGlobals mg)(hb:aj.Ns builtinsNs mb)(nl:aj.NoLimit)(hB:∀x:Str,x≠"__name__"->mb x=bootBuiltins x)(y:YP w aj):bG (Iv RW.toRowW.prog w (Dk 161) (Dk.ok 161) aj mg mb hg hb nl)where
 ob:=rfl
 top:=fun h G a o e=>G _ _ (y a o e)
 glob:=fun x v e=>by
  show(match mg x with|some v=>some v|none=>mb x)=some v;replace e:nsFind (ents (nO w.params)) x=some v:=e;rw[NO hg y,e]
 built:=fun x v h1 h2 h3=>by
  show(match mg x with|some v=>some v|none=>mb x)=some v;replace h2:nsFind (ents (nO w.params)) x=none:=h2;rw[NO hg y,h2];show mb x=some v;rw[hB x h1,h3]
section
variable{P:Pk}(X:bG P)
include X
theorem bG.fn{h:Heap}(G:P.G h){a:Nat}{Q:Heap->Prop}(f:∀{aj h:Heap},YP P.w aj->(∀b o,aj.get? b=some o->h.get? b=some o)->Q h):Q h:=f (X.top h G) fun ø ø e=>e
theorem bG.enum:P.glob "enumerate"=some (.type "enumerate"):=X.built _ _ (by decide) (by kernel_rfl) (by kernel_rfl)
theorem bG.gen:Bh P 85:=⟨fdOf mi,fun h G=>by
 obtain⟨⟨o,h1,h2,h3⟩,h4⟩:=Tm (X.top h G) fun ø ø e=>e
 exact⟨⟨o,h1,h3⟩,h4⟩,⟨rfl,rfl,rfl,fun v=>rfl,rfl,rfl,rfl,by kernel_rfl,by kernel_rfl,by kernel_rfl,by kernel_rfl,by kernel_rfl,by
  show ∀x∈(ki (aO pq.main.body 6)).names,x.2≠ .cell
  decide+kernel⟩,X.enum,⟨fun i=>gpL.getD i default,by kernel_rfl⟩⟩
end
end
noncomputable def clip(v:Option Int)(d n:Nat):Nat:=match v with
 |none=>d
 |some i=>(max 0 (min (if i<0 then i+n else i) n)).toNat
theorem Mw{v:Option Int}{d n:Nat}(h:d<=n):clip v d n<=n:=by
 cases v with
 |none=>exact h
 |some i=>exact Int.toNat_le.mpr (Int.max_le.mpr ⟨ni _,Int.min_le_right _ _⟩)
theorem clz(v:Option Int)(d n:Nat):(clip v d n:Int)=v.elim (d:Int) fun i=>max 0 (min (if i<0 then i+n else i) n):=by
 cases v with
 |none=>rfl
 |some i=>exact Int.toNat_of_nonneg (Int.le_max_left _ _)
theorem Bm(d:Nat){n i:Nat}(h:n<=i):clip (some (i:Int)) d n=n:=by
 show(max 0 (min (if(i:Int)<0 then(i:Int)+n else(i:Int)) n)).toNat=_;rw[au (by omega),Int.min_eq_right (by omega),Int.max_eq_right (by omega)];rfl
theorem nS(i d n:Nat)(h:i<=n):clip (some (i:Int)) d n=i:=by
 show(max 0 (min (if(i:Int)<0 then(i:Int)+n else(i:Int)) n)).toNat=_;rw[au (by omega),Int.min_eq_left (by omega),Int.max_eq_right (by omega)];rfl
theorem vf{α:Type}(l:List α)(a:Nat):∀k:Nat,((List.range k).map fun(j:Nat)=>a+j).filterMap (l[·]?)=(l.drop a).take k
 |0=>rfl
 |k+1=>by
  rw[tJ,List.map_append,List.filterMap_append,vf l a k,xP,tH];cases h:l[a+k]?<;>simp[h]
theorem Jq(a b:Nat):(if(a:Int)<b then((b:Int)-a+1-1)/1 else 0).toNat=b-a:=by
 by_cases h:(a:Int)<b
 ·rw[aw h,Int.ediv_one,Int.add_sub_cancel,Int.toNat_sub]
 ·rw[au h,Nat.sub_eq_zero_of_le (nc.mp (Int.not_lt.mp h))]
  rfl
theorem Bn(a b:Nat):sliceRange (a:Int) (b:Int) 1=(List.range (b-a)).map fun(k:Nat)=>a+k:=by
 show(List.range (if(a:Int)<b then((b:Int)-a+1-1)/1 else 0).toNat).map (fun(k:Nat)=>((a:Int)+1*(k:Int)).toNat)=_;rw[Jq];exact lK fun k ø=>by rw[Int.one_mul];rfl
theorem Bo{α:Type}(l:List α)(a b:Nat):(sliceRange (a:Int) (b:Int) 1).filterMap (l[·]?)=(l.drop a).take (b-a):=by
 rw[Bn,vf]
theorem Gc(a b:Nat):(sliceRange (a:Int) (b:Int) 1).length=b-a:=by
 rw[Bn,List.length_map,eM]
theorem T8(lo hi:Option Int)(n:Nat):sliceBounds lo hi none n=((clip lo 0 n:Int),(clip hi n n:Int),1):=by
 rw[clz,clz];cases lo<;>cases hi<;>rfl
theorem T9(lo hi:Option Int)(n:Nat):Builtin.Str.strSliceIndices lo hi 1 n=sliceRange (clip lo 0 n:Int) (clip hi n n:Int) 1:=by
 rw[clz,clz];cases lo<;>cases hi<;>rfl
theorem EY{α:Type}(l:List α)(lo hi:Option Int):pick l lo hi none=(l.drop (clip lo 0 l.length)).take (clip hi l.length l.length-clip lo 0 l.length):=by
 unfold pick;rw[T8];exact Bo l _ _
theorem vg(l:List Nat)(lo hi:Option Int):Ak l lo hi=(l.drop (clip lo 0 l.length)).take (clip hi l.length l.length-clip lo 0 l.length):=by
 unfold Ak;rw[T9,Gc,Bo];refine ite_eq_right_iff.mpr fun h=>(((List.take_sublist _ _).trans (List.drop_sublist _ _)).eq_of_length ?_).symm
 have h1:clip hi l.length l.length<=l.length:=Mw (bL _);have h2:=eq_of_beq h;rw[tK,nB];exact Nat.le_antisymm (az (Nat.min_le_right _ _) (Nat.sub_le _ _)) (Nat.le_min.mpr ⟨je h2.symm,az (je h2.symm) (Nat.sub_le_sub_right h1 _)⟩)
noncomputable def bp{σ α τ:Type}(step:σ->α->Sum σ τ):List α->σ->Sum σ τ
 |[],s=>.inl s
 |x::xs,s=>match step s x with
  | .inl s'=>bp step xs s'
  | .inr t=>.inr t
theorem vh{σ α τ:Type}(step:σ->α->Sum σ τ)(s:σ):bp step [] s= .inl s:=rfl
theorem fb{σ α τ:Type}(step:σ->α->Sum σ τ)(x:α)(xs:List α)(s:σ):bp step (x::xs) s=match step s x with
 | .inl s'=>bp step xs s'
 | .inr t=>.inr t:=rfl
theorem Jr(a b:List Nat):Hb (.str a) (.str b)=some (!(a==b)):=rfl
theorem bU(a b:Int):m6 (.int a) (.int b)=some (decide (a=b)):=by
 unfold m6;show(if(0:Nat)<=50 then some (PyData.eqv (.int a) (.int b))else none)=_;rw[aw (by decide)];have e:PyData.eqv (.int a) (.int b)=(a==b):=by simp[PyData.eqv]
 rw[e];rfl
theorem Dp(a b:Int):Hb (.int a) (.int b)=some (!decide (a=b)):=by
 unfold Hb;rw[bU];rfl
theorem ze(a b:Int)(h: -(2^64)<b/\b<2^64):zV (.int a) (.int b)=some (.int (a*b)):=by show Option.or (if _ then some _ else _) _=_;rw[aw h];rfl
theorem EZ(a b:Int)(h:0<b/\b<1073741824):CJ (.int a) (.int b)=some (.int (a % b)):=by show(if _ then some _ else _)=_;rw[aw h,Int.fmod_eq_emod_of_nonneg _ (Int.le_of_lt h.1)]
theorem E0(a b:Int)(h:0<b/\b<1073741824):Li (.int a) (.int b)=some (.int (a/b)):=by show(if _ then some _ else _)=_;rw[aw h,Int.fdiv_eq_ediv_of_nonneg _ (Int.le_of_lt h.1)]
theorem fo(a b:List Nat)(h:a.length+b.length<=most):t7 (.str a) (.str b)=some (.str (a++b)):=by show Option.or (if _ then _ else _) _=_;rw[aw h];rfl
theorem zf(a b:List V)(h:a.length+b.length<=most):t7 (.list a) (.list b)=some (.list (a++b)):=by show(if _ then _ else _)=_;rw[aw h]
theorem fc(a b:List Nat)(h:a.length+b.length<=most):Aq (.str a) (.str b)=some (.str (a++b)):=HM a b h
theorem ml(a:List Nat)(h:a.length<=most):uk [.str a]=some (.int a.length):=ye rfl h
theorem nU(a:List V)(h:a.length<=most):uk [.list a]=some (.int a.length):=ye rfl h
theorem Js(a:List V)(h:a.length<=most):uk [.tup a]=some (.int a.length):=ye rfl h
noncomputable def sl{α:Type}(l:List α)(s e:Nat):List α:=(l.drop s).take (e-s)
theorem Gd(l:List Nat)(a b:Nat)(ha:a<=l.length)(hb:b<=l.length)(h:l.length<=most):kh (.str l) (some (a:Int)) (some (b:Int)) none=some (.str (sl l a b)):=by
 rw[uh,aw h,vg,nS _ _ _ ha,nS _ _ _ hb];rfl
theorem Bp(l:List Nat)(a:Nat)(ha:a<=l.length)(h:l.length<=most):kh (.str l) (some (a:Int)) none none=some (.str (sl l a l.length)):=by
 rw[uh,aw h,vg,nS _ _ _ ha];rfl
theorem rP(l:List V)(x:V)(h:l.length<most):Fy (.list l) [x]=some (.list (l++[x]),.none):=by rw[Lp,aw h]
theorem pC(l:List V)(b:Nat)(h:l.length<=most):kh (.list l) none (some (b:Int)) none=some (.list (l.take b)):=by
 rw[Al,aw ⟨h,nofun⟩,EY];show some (V.list (l.take (clip (some (b:Int)) l.length l.length)))=_;by_cases q:b<=l.length
 ·rw[nS _ _ _ q]
 ·rw[Bm _ (xQ q),xK,qR (xQ q)]
theorem zg(l:List V)(a:Nat)(h:l.length<=most):kh (.list l) (some (a:Int)) none none=some (.list (l.drop a)):=by
 rw[Al,aw ⟨h,nofun⟩,EY];show some (V.list ((l.drop (clip (some (a:Int)) 0 l.length)).take (l.length-clip (some (a:Int)) 0 l.length)))=_;by_cases q:a<=l.length
 ·rw[nS _ _ _ q,qR (je nB)]
 ·rw[Bm _ (xQ q),List.drop_length,tB (xQ q),List.take_nil]
theorem qp(l:List Int):V.Fu (l.map .int)=some (l.map .int):=by
 induction l with
 |nil=>rfl
 |cons y l ih=>simp only[bB,V.x4,V.CK,V.wP,V.wQ,V.wR,V.wS,V.wT,ih,lF]
theorem Dq(l:List Int):PyData.depthAll (l.map .int)<=1:=by
 induction l with
 |nil=>simp[PyData.depthAll]
 |cons y l ih=>simp only[bB,PyData.depthAll,PyData.depth];omega
theorem eA{α β:Type}(a:α)(f:α->Option β):(some a).bind f=f a:=by
 have h:∀o:Option α,o=some a->o.bind f=f a:=fun o e=>by subst e;rfl
 exact h _ rfl
theorem ap{f:ao->Option V}{g:ao->Option (List V)}{ρ:ao}{x:V}{xs:List V}(hf:f ρ=some x)(hg:g ρ=some xs):cW f g ρ=some (x::xs):=by
 unfold cW;rw[hf,hg,eA,eA]
theorem cj{ρ:ao}{i:Nat}{a:V}(h:ρ i=some a):upd ρ i a=ρ:=by
 funext j
 by_cases e:j=i
 ·subst e;rw[kP,h]
 ·rw[iA _ _ e]
@[elab_as_elim] theorem ex1 {C:ao->Prop} (ρ:ao) {i:Nat} {a:V} (h1:ρ i=some a) (f:∀σ,C (upd σ i a)):C ρ:=by
 have:=f ρ;rwa[cj h1]at this
@[elab_as_elim] theorem ex2 {C:ao->Prop} (ρ:ao) {i j:Nat} {a b:V} (h1:ρ i=some a) (h2:ρ j=some b) (f:∀σ,C (upd (upd σ i a) j b)):C ρ:=by
 have:=f ρ;rwa[cj h1,cj h2]at this
@[elab_as_elim] theorem ex4 {C:ao->Prop} (ρ:ao) {i j k l:Nat} {a b c d:V} (h1:ρ i=some a) (h2:ρ j=some b) (h3:ρ k=some c) (h4:ρ l=some d) (f:∀σ,C (upd (upd (upd (upd σ i a) j b) k c) l d)):C ρ:=by
 have:=f ρ;rwa[cj h1,cj h2,cj h3,cj h4]at this
@[elab_as_elim] theorem ex3 {C:ao->Prop} (ρ:ao) {i j k:Nat} {a b c:V} (h1:ρ i=some a) (h2:ρ j=some b) (h3:ρ k=some c) (f:∀σ,C (upd (upd (upd σ i a) j b) k c)):C ρ:=by
 have:=f ρ;rwa[cj h1,cj h2,cj h3]at this
theorem bY{F:List V->Option V}{f:ao->Option V}{ρ:ao}{x:V}{r}(hf:f ρ=some x)(hF:F [x]=r):ji F (cW f fun ø=>some []) ρ=r:=by
 unfold ji cW;rw[hf,eA,eA,eA];exact hF
theorem mZ{α:Type}{c:Option Bool}{t e r:Option α}(hc:c=some true)(h:t=r):(c.bind fun z=>if z=true then t else e)=r:=by
 subst hc;exact h
theorem ik{α:Type}{c:Option Bool}{t e r:Option α}(hc:c=some false)(h:e=r):(c.bind fun z=>if z=true then t else e)=r:=by
 subst hc;exact h
theorem cf{f g:ao->Option (ao×Fl)}{ρ am:ao}{r}(h:f ρ=some (am,.next))(hg:g am=r):eW f g ρ=r:=by
 unfold eW;rw[h];exact hg
theorem Ql{f g:ao->Option (ao×Fl)}{ρ am:ao}{v}(h:f ρ=some (am,.ret v)):eW f g ρ=some (am,.ret v):=by
 unfold eW;rw[h];rfl
theorem RE{a b:Int}(h:a=b):Hb (.int a) (.int b)=some false:=by rw[Dp,h];simp
theorem neT{a b:Int}(h:a≠b):Hb (.int a) (.int b)=some true:=by rw[Dp];simp[h]
theorem aG{F:V->V->Option Bool}{f g:ao->Option V}{ρ:ao}{x y:V}{r}(hf:f ρ=some x)(hg:g ρ=some y)(hF:F x y=r):eU F f g ρ=r:=by
 unfold eU;rw[hf,hg,eA,eA];exact hF
theorem N5{F:V->List V->Option (V×V)}{i:Nat}{f:ao->Option V}{ρ:ao}{y x:V}{r}(hy:ρ i=some y)(hf:f ρ=some x)(hF:F y [x]=some r):oV F i (cW f fun ø=>some []) ρ=some (upd ρ i r.1,r.2):=by
 unfold oV cW;rw[hy,hf,eA,eA,eA,eA,hF];rfl
theorem cB{α β:Type}{o:Option α}{a:α}{f:α->β}{b:Option β}(h:o=some a)(hb:some (f a)=b):o.map f=b:=by subst h;exact hb
@[elab_as_elim] theorem ex5 {C:ao->Prop} (ρ:ao) {i j k l m:Nat} {a b c d e:V} (h1:ρ i=some a) (h2:ρ j=some b) (h3:ρ k=some c) (h4:ρ l=some d) (h5:ρ m=some e) (f:∀σ,C (upd (upd (upd (upd (upd σ i a) j b) k c) l d) m e)):C ρ:=by
 have:=f ρ;rwa[cj h1,cj h2,cj h3,cj h4,cj h5]at this
theorem cN{α β:Type}{o:Option α}{a:α}{f:α->Option β}{r}(h:o=some a)(hf:f a=r):o.bind f=r:=by subst h;exact hf
theorem bT{F:V->V->Option V}{f g:ao->Option V}{ρ:ao}{x y:V}{r}(hf:f ρ=some x)(hg:g ρ=some y)(hF:F x y=r):iR F f g ρ=r:=cN hf (cN hg hF)
theorem nW{f:ao->Option V}{a b c:ao->Option (Option Int)}{ρ:ao}{x p q s r}(hf:f ρ=some x)(ha:a ρ=some p)(hb:b ρ=some q)(hc:c ρ=some s)(h:kh x p q s=r):ui f a b c ρ=r:=cN hf (cN ha (cN hb (cN hc h)))
theorem md{f:ao->Option V}{ρ:ao}{a b:Int}(hf:f ρ=some (.int a))(h:decide (0<b/\b<1073741824)=true):iR CJ f (fun ø=>some (.int b)) ρ=some (.int (a % b)):=bT hf rfl (EZ a b (cV h))
theorem dv{f:ao->Option V}{ρ:ao}{a b:Int}(hf:f ρ=some (.int a))(h:decide (0<b/\b<1073741824)=true):iR Li f (fun ø=>some (.int b)) ρ=some (.int (a/b)):=bT hf rfl (E0 a b (cV h))
theorem ad{f g:ao->Option V}{ρ:ao}{a b:Int}(hf:f ρ=some (.int a))(hg:g ρ=some (.int b)):iR t7 f g ρ=some (.int (a+b)):=bT hf hg rfl
theorem Bq{f g:ao->Option Bool}{ρ:ao}{a b:Bool}(hf:f ρ=some a)(hg:g ρ=some b):Rn f g ρ=some (a||b):=cN hf (by cases a;exact hg;rfl)
theorem gB{f g:ao->Option Bool}{ρ:ao}{a b:Bool}(hf:f ρ=some a)(hg:g ρ=some b):on f g ρ=some (a&&b):=cN hf (by cases a;rfl;exact hg)
theorem nX{α β:Type}(f:α->β)(l:List α)(x:α):l.map f++[f x]=(l++[x]).map f:=(List.map_append (f:=f) (l₁:=l) (l₂:=[x])).symm
theorem Jt{α:Type}{p:α->Prop}{l:List α}{x:α}(h:∀e∈l,p e)(hx:p x):∀e∈l++[x],p e:=List.forall_mem_append.mpr ⟨h,List.forall_mem_singleton.mpr hx⟩
theorem bF{f g:ao->Option V}{ρ:ao}{x y:V}{r}(hf:f ρ=some x)(hg:g ρ=some y)(h:iJ x y=r):CZ f g ρ=r:=cN hf (cN hg h)
theorem Ju{F:V->List V->Option V}{f:ao->Option V}{g:ao->Option (List V)}{ρ:ao}{y:V}{xs:List V}{r}(hf:f ρ=some y)(hg:g ρ=some xs)(h:F y xs=r):Rt F f g ρ=r:=cN hf (cN hg h)
theorem bQ{F:List V->Option V}{f:ao->Option V}{g:ao->Option (List V)}{ρ:ao}{l xs:List V}{r}(hf:f ρ=some (.obj l))(hl:l.length=5)(hg:g ρ=some xs)(h:F (.obj l::xs)=r):Je F f g ρ=r:=cN hf (cN (a:=l) rfl ((aw hl).trans (cN hg h)))
theorem Yg{n:Nat}(h:n<=8):n<most:=fq h (by decide)
inductive RF(I:ao->Prop)(E:ao×Fl->Prop):ao×Fl->Prop
 |nx {ρ:ao} (h:I ρ):RF I E (ρ,.next)
 |br {ρ:ao} (h:E (ρ,.next)):RF I E (ρ,.brk)
 |rt {ρ:ao} {v:V} (h:E (ρ,.ret v)):RF I E (ρ,.ret v)
theorem vi{α:Type}{asg:ao->V->Option ao}{body:ao->Option (ao×Fl)}(toV:α->V)(us:List α)(I:List α->ao->Prop)(E:ao×Fl->Prop)
  (step:∀l u l' ρ,l++u::l'=us->I l ρ->∃am,asg ρ (toV u)=some am/\∃r,body am=some r/\RF (I (l++[u])) E r) (done:∀ρ,I us ρ->E (ρ,.next)) {ρ:ao} (h0:I [] ρ):∃r,gy asg body (us.map toV) ρ=some r/\E r:=by
 have go:∀(l' l:List α) ρ,l++l'=us->I l ρ->∃r,gy asg body (l'.map toV) ρ=some r/\E r:=by
  intro l'
  induction l' with
  |nil=>exact fun l ρ e h=>⟨_,rfl,done ρ (by rw[<-e,dZ];exact h)⟩
  |cons u l' ih=>
   intro l ρ e h;obtain⟨am,h1,r,h2,h3⟩:=step l u l' ρ e h;rw[bB,uc,h1,eA,h2,eA]
   cases h3 with
   |nx h=>exact ih (l++[u]) _ (by rw[List.append_assoc];exact e) h
   |br h=>exact⟨_,rfl,h⟩
   |rt h=>exact⟨_,rfl,h⟩
 exact go us [] ρ rfl h0
theorem qq{α:Type}{asg:ao->V->Option ao}{body:ao->Option (ao×Fl)}(toV:α->V)(us:List α)(I:List α->ao->Prop)
  (step:∀l u l' ρ,l++u::l'=us->I l ρ->∃am,asg ρ (toV u)=some am/\∃r,body am=some r/\r.2= .next/\I (l++[u]) r.1) {ρ:ao} (h0:I [] ρ):∃r,gy asg body (us.map toV) ρ=some r/\r.2= .next/\I us r.1:=
 vi toV us I _ (fun l u l' ρ e h=>by
  obtain⟨am,h1,⟨di,_⟩,h2,rfl,h3⟩:=step l u l' ρ e h;exact⟨am,h1,_,h2,.nx h3⟩) (fun ρ h=>⟨rfl,h⟩) h0
theorem lj{α:Type}{asg:ao->V->Option ao}{body:ao->Option (ao×Fl)}(toV:α->V)(us:List α)(I:List α->ao->Prop)
  (step:∀l u ρ,u∈us->l.length<us.length->I l ρ->∃am di,asg ρ (toV u)=some am/\body am=some (di,.next)/\I (l++[u]) di) {ρ:ao} (h0:I [] ρ):∃r,gy asg body (us.map toV) ρ=some r/\r.2= .next/\I us r.1:=
 qq toV us I (fun l u l' ρ e h=>by
  obtain⟨am,di,h1,h2,h3⟩:=step l u ρ (by rw[<-e];exact ck _ gI) (by rw[<-e,aY];exact tL (jf _)) h;exact⟨am,h1,_,h2,rfl,h3⟩) h0
inductive VW(i j k l m:Nat)(a b c d e:V)(ρ:ao):Prop
 |mk (h1:ρ i=some a) (h2:ρ j=some b) (h3:ρ k=some c) (h4:ρ l=some d) (h5:ρ m=some e)
@[elab_as_elim] theorem VW.ex {C:ao->Prop} {ρ:ao} {i j k l m:Nat} {a b c d e:V} (h:VW i j k l m a b c d e ρ) (f:∀σ,C (upd (upd (upd (upd (upd σ i a) j b) k c) l d) m e)):C ρ:=ex5 ρ h.1 h.2 h.3 h.4 h.5 f
inductive Qm(i j k l:Nat)(a b c d:V)(ρ:ao):Prop
 |mk (h1:ρ i=some a) (h2:ρ j=some b) (h3:ρ k=some c) (h4:ρ l=some d)
@[elab_as_elim] theorem Qm.ex {C:ao->Prop} {ρ:ao} {i j k l:Nat} {a b c d:V} (h:Qm i j k l a b c d ρ) (f:∀σ,C (upd (upd (upd (upd σ i a) j b) k c) l d)):C ρ:=ex4 ρ h.1 h.2 h.3 h.4 f
inductive At6(i j k l m n:Nat)(a b c d e f:V)(ρ:ao):Prop
 |mk (h1:ρ i=some a) (h2:ρ j=some b) (h3:ρ k=some c) (h4:ρ l=some d) (h5:ρ m=some e) (h6:ρ n=some f)
@[elab_as_elim] theorem At6.ex {C:ao->Prop} {ρ:ao} {i j k l m n:Nat} {a b c d e g:V} (h:At6 i j k l m n a b c d e g ρ) (f:∀σ,C (upd (upd (upd (upd (upd (upd σ i a) j b) k c) l d) m e) n g)):C ρ:=by
 have:=f ρ;rwa[cj h.1,cj h.2,cj h.3,cj h.4,cj h.5,cj h.6]at this
inductive Yh(i j k l m n o:Nat)(a b c d e f g:V)(ρ:ao):Prop
 |mk (h1:ρ i=some a) (h2:ρ j=some b) (h3:ρ k=some c) (h4:ρ l=some d) (h5:ρ m=some e) (h6:ρ n=some f) (h7:ρ o=some g)
@[elab_as_elim] theorem Yh.ex {C:ao->Prop} {ρ:ao} {i j k l m n o:Nat} {a b c d e g h':V} (h:Yh i j k l m n o a b c d e g h' ρ) (f:∀σ,C (upd (upd (upd (upd (upd (upd (upd σ i a) j b) k c) l d) m e) n g) o h')):C ρ:=by
 have:=f ρ;rwa[cj h.1,cj h.2,cj h.3,cj h.4,cj h.5,cj h.6,cj h.7]at this
theorem tc{k n:Nat}(h:k<n):g8 (k:Int) n=some k:=by
 unfold g8;rw[aw (ni k),aw (jR.mpr h)];rfl
theorem im{xs:List V}{k:Nat}{b:V}(h:xs[k]?=some b)(hm:xs.length<=most):iJ (.list xs) (.int k)=some b:=by
 rw[LF,aw hm,tc (gG.mp h).1,eA,h]
theorem Mx{xs:List V}{k:Nat}{b:V}(h:xs[k]?=some b)(hm:xs.length<=most):iJ (.tup xs) (.int k)=some b:=by
 rw[LG,aw hm,tc (gG.mp h).1,eA,h]
theorem get_mem{α:Type}{l:List α}{k:Nat}(h:k<l.length):∃e,l[k]?=some e:=⟨_,iG h⟩
theorem Jv{F:V->List V->Option (V×V)}{i:Nat}{g:ao->Option (List V)}{ρ:ao}{y:V}{xs:List V}{r}(hy:ρ i=some y)(hx:g ρ=some xs)(hF:F y xs=some r):oV F i g ρ=some (upd ρ i r.1,r.2):=cN hy (cN hx (cB hF rfl))
theorem int_at{xs:List Int}{i:Int}(h0:0<=i)(h1:i<xs.length)(hm:xs.length<=most):∃b∈xs,xs[i.toNat]?=some b/\iJ (.list (xs.map .int)) (.int i)=some (.int b):=by
 obtain⟨k,rfl⟩:=qW h0;obtain⟨b,hb⟩:=get_mem (jR.mp h1);exact⟨b,oO hb,hb,im (by rw[dh,hb];rfl) (by rw[List.length_map];exact hm)⟩
theorem mm{i:Nat}{f:ao->Option V}{g:ao->Option (ao×Fl)}{ρ:ao}{v:V}{r}(h:f ρ=some v)(hg:g (upd ρ i v)=r):eW (fun ρ=>Option.map (fun y=>(upd ρ i y,.next)) (f ρ)) g ρ=r:=cf (cB h rfl) hg
theorem Ge{F:V->List V->Option (V×V)}{i:Nat}{xf:ao->Option (List V)}{g:ao->Option (ao×Fl)}{ρ:ao}{y:V}{xs:List V}{y' z:V}{r}(hy:ρ i=some y)(hx:xf ρ=some xs)(hF:F y xs=some (y',z))(hg:g (upd ρ i y')=r):eW (fun ρ=>Option.map (fun r=>(r.1,.next)) (oV F i xf ρ)) g ρ=r:=cf (cB (Jv hy hx hF) rfl) hg
theorem ow{F:V->V->Option V}{i:Nat}{f:ao->Option V}{g:ao->Option (ao×Fl)}{ρ:ao}{x y z:V}{r}(hx:ρ i=some x)(hf:f ρ=some y)(hF:F x y=some z)(hg:g (upd ρ i z)=r):eW (fun ρ=>(ρ i).bind fun a=>(f ρ).bind fun b=>Option.map (fun c=>(upd ρ i c,.next)) (F a b)) g ρ=r:=cf (cN hx (cN hf (cB hF rfl))) hg
theorem ja{σ α τ:Type}(step:σ->α->Sum σ τ):∀(l l':List α) (s:σ),bp step (l++l') s=match bp step l s with
  | .inl s'=>bp step l' s'
  | .inr t=>.inr t
 |[],l',s=>rfl
 |x::l,l',s=>by
  simp only[List.cons_append,vh,fb]
  cases step s x with
  |inl s'=>exact ja step l l' s'
  |inr t=>rfl
theorem bD{σ α τ:Type}{step:σ->α->Sum σ τ}{l:List α}{u:α}{s s':σ}{r}(h:bp step l s= .inl s')(hs:step s' u= .inl r):bp step (l++[u]) s= .inl r:=by
 rw[ja,h];show bp step [u] s'=_;rw[fb,hs];rfl
theorem jb{σ α τ:Type}{step:σ->α->Sum σ τ}{l l':List α}{u:α}{s s':σ}{r}(h:bp step l s= .inl s')(hs:step s' u= .inr r):bp step (l++u::l') s= .inr r:=by
 rw[ja,h];show bp step (u::l') s'=_;rw[fb,hs]
theorem Jw{f g:ao->Option (ao×Fl)}{ρ am:ao}(h:f ρ=some (am,.brk)):eW f g ρ=some (am,.brk):=by
 unfold eW;rw[h];rfl
theorem Ua{F:V->V->V->Option V}{i:Nat}{f g:ao->Option V}{k:ao->Option (ao×Fl)}{ρ:ao}{v y j y':V}{r}(hf:f ρ=some v)(hy:ρ i=some y)(hg:g ρ=some j)(hF:F y j v=some y')(hk:k (upd ρ i y')=r):
 eW (fun ρ=>(f ρ).bind fun v=>(ρ i).bind fun y=>(g ρ).bind fun j=>Option.map (fun y'=>(upd ρ i y',.next)) (F y j v)) k ρ=r:=cf (cN hf (cN hy (cN hg (cB hF rfl)))) hk
noncomputable def kl:Cx:={vars:=[(Op,.local,false),(Wb,.local,false),(YX,.local,false),(YY,.local,true),(RV,.local,false),(Oq,.local,false)],aV:=[s9,we]}
noncomputable def dN{P:Pk}{n:Nat}{aT:Addr}(cC:P.glob s9=some (.ref aT))(cg:Bh P aT)(cA:P.glob we=some (.builtin "len")):{f:ao->Option (ao×Fl)//oo P n kl (dW (aO pq.main.body 7)) f}:=⟨_,(@af _ _ _ _ _ _ _ (@aN _ _ _ _ _ _ _ _ _ _ (ay Lm (aC rfl) (ac (ab 0 rfl rfl rfl)) rfl) (@af _ _ _ _ _ _ _ (aW (ac (ab 0 rfl rfl rfl))) ai) ai) (@af _ _ _ _ _ _ _ (aI 1 rfl (by decide) ae cz) (@af _ _ _ _ _ _ _ (aI 2 rfl (by decide) lP cz) (@af _ _ _ _ _ _ _ (fV 3 rfl (by decide) (fm ag (by decide) len0) cz) (@af _ _ _ _ _ _ _ (@pB _ _ _ (false) _ _ _ _ _ _ _ (@nQ _ _ _ _ _ _ _ _ _ rfl cC rfl cg (aa (ac (ab 0 rfl rfl rfl)) ag ir) ir (ca _ _)) (@fk _ _ _ _ _ _ _ (bh (aB 4 rfl (by decide) (by decide)) (bh (aB 5 rfl (by decide) (by decide)) eH)) (bA (bA fj)) ir) (@af _ _ _ _ _ _ _ (@aN _ _ _ _ _ _ _ _ _ _ (ay fi (ac (ab 5 rfl rfl rfl)) (aC rfl) rfl) (@af _ _ _ _ _ _ _ (@aN _ _ _ _ _ _ _ _ _ _ (ay Ww (ac (ab 2 rfl rfl rfl)) lP rfl) (af (aI 2 rfl (by decide) (ab 4 rfl rfl rfl) cz) ai) (@af _ _ _ _ _ _ _ (@aN _ _ _ _ _ _ _ _ _ _ (ay wf (ac (ab 1 rfl rfl rfl)) (ac (ab 2 rfl rfl rfl)) rfl) (@af _ _ _ _ _ _ _ (@eG _ _ _ _ _ _ (@eF _ _ _ 3 _ _ _ _ _ _ _ _ _ rfl rfl rfl ub (@aa _ _ _ _ _ _ _ _ (@e6 _ _ _ _ _ _ _ _ _ _ _ _ _ _ (ab 0 rfl rfl rfl) (eZ (ac (ab 1 rfl rfl rfl))) (eZ (ac (ab 2 rfl rfl rfl))) cF) ag ir) ir (by decide) rfl ir) jA ir) ai) ai) (@af _ _ _ _ _ _ _ (aI 1 rfl (by decide) (al cm (ab 4 rfl rfl rfl) ae) cz) (af (aI 2 rfl (by decide) lP cz) ai)))) ai) ai) ai) cz) (@af _ _ _ _ _ _ _ (@aN _ _ _ _ _ _ _ _ _ _ (@ay _ _ _ _ _ _ _ _ _ _ OD (ac (ab 1 rfl rfl rfl)) (@aJ _ _ _ _ _ _ _ _ _ _ _ rfl cA rfl jq (aa (ac (ab 0 rfl rfl rfl)) ag ir) ir (ca _ _)) rfl) (@af _ _ _ _ _ _ _ (@eG _ _ _ _ _ _ (@eF _ _ _ 3 _ _ _ _ _ _ _ _ _ rfl rfl rfl ub (@aa _ _ _ _ _ _ _ _ (@e6 _ _ _ _ _ _ _ _ _ _ _ _ _ _ (ab 0 rfl rfl rfl) (eZ (ac (ab 1 rfl rfl rfl))) cF cF) ag ir) ir (by decide) rfl ir) jA ir) ai) ai) (@af _ _ _ _ _ _ _ (@aW _ _ _ _ _ _ (hZ (aC rfl) EE (aa (dc 3 rfl rfl rfl) ag ir) ir (by decide) rfl ir)) ai)))))))⟩
noncomputable def oy:Cx:={vars:=[(Op,.local,false),(⟨#[111,112,101,110,115]⟩,.local,false),(RV,.local,false),(Oq,.local,false)],aV:=[Eh,s9]}
noncomputable def fw{P:Pk}{n:Nat}{aS:Addr}{bS:List V->Option V}(dy:P.glob Eh=some (.ref aS))(dz:∀h,P.G h->∃o fd,h.get? aS=some o/\o.data= .func fd)(dA:aZ P n (.ref aS) bS){aT:Addr}(cC:P.glob s9=some (.ref aT))(cg:Bh P aT):{f:ao->Option (ao×Fl)//oo P n oy (dW (aO pq.main.body 8)) f}:=⟨_,(@af _ _ _ _ _ _ _ (@aI _ _ _ 0 _ _ _ _ _ _ rfl (by decide) (bM rfl dy rfl dz dA (aa (ab 0 rfl rfl rfl) ag ir) ir (ca _ _)) cz) (@af _ _ _ _ _ _ _ (aI 1 rfl (by decide) ae cz) (@af _ _ _ _ _ _ _ (@pB _ _ _ (false) _ _ _ _ _ _ _ (@nQ _ _ _ _ _ _ _ _ _ rfl cC rfl cg (aa (ac (ab 0 rfl rfl rfl)) ag ir) ir (ca _ _)) (@fk _ _ _ _ _ _ _ (bh (aB 2 rfl (by decide) (by decide)) (bh (aB 3 rfl (by decide) (by decide)) eH)) (bA (bA fj)) ir) (@af _ _ _ _ _ _ _ (@aN _ _ _ _ _ _ _ _ _ _ (ay fi (ac (ab 3 rfl rfl rfl)) (aC rfl) rfl) (af (cS 1 rfl (by decide) rfl rfl gQ ae) ai) (@af _ _ _ _ _ _ _ (@aN _ _ _ _ _ _ _ _ _ _ (ay fi (ac (ab 3 rfl rfl rfl)) (aC rfl) rfl) (@af _ _ _ _ _ _ _ (cS 1 rfl (by decide) rfl rfl OS ae) (@af _ _ _ _ _ _ _ (@aN _ _ _ _ _ _ _ _ _ _ (ay OD (ac (ab 1 rfl rfl rfl)) ae rfl) (af (aW eV) ai) ai) ai)) ai) ai)) ai) cz) (@af _ _ _ _ _ _ _ (@aW _ _ _ _ _ _ (iX fi (ac (ab 1 rfl rfl rfl)) ae rfl)) ai))))⟩
noncomputable def zh(p:Nat):List (List Nat)->List (Nat×List Nat)
 |[]=>[]
 |u::us=>(p+u.length-1,u)::zh (p+u.length) us
theorem E2(p:Nat):zh p []=[]:=rfl
theorem zi(p:Nat)(u:List Nat)(us:List (List Nat)):zh p (u::us)=(p+u.length-1,u)::zh (p+u.length) us:=rfl
noncomputable def wu(u:List Nat):Bool:=match u with
 |[c]=>c != 92
 |[c,_]=>c==92
 |_=>false
noncomputable def m4:List (List Nat)->Bool
 |[]=>true
 |[u]=>wu u||u==[92]
 |u::us=>wu u&&m4 us
theorem td:m4 []=true:=rfl
theorem te(u:List Nat):m4 [u]=(wu u||u==[92]):=rfl
theorem tg(u v:List Nat)(us:List (List Nat)):m4 (u::v::us)=(wu u&&m4 (v::us)):=rfl
theorem Br{u:List Nat}(h:wu u=true)(p:Nat)(l:List Nat):gR p false (u++l)=(p+u.length-1,u)::gR (p+u.length) false l:=by
 cases u with
 |nil=>cases h
 |cons c u=>cases u with
  |nil=>
   have h:¬c=92:=fun e=>by rw[e]at h;cases h
   exact au h
  |cons d u=>cases u with
   |nil=>
    obtain rfl:=eq_of_beq h;rfl
   |cons=>cases h
theorem xl:∀(us:List (List Nat)) (p:Nat),m4 us=true->gR p false us.flatten=zh p us
 |[],p,_=>rfl
 |[u],p,h=>by
  simp only[td,te,tg,lx,jN]at h;rcases h with h|rfl
  ·have:=Br h p []
   simpa[E2,zi,y6,EP,y8,sZ]using this
  ·simp[E2,zi,y6,EP,y8,sZ]
 |u::v::us,p,h=>by
  simp only[td,te,tg,bX]at h;rw[eQ,Br h.1,xl (v::us) _ h.2];rfl
noncomputable def cx(st:List (List Nat)×Option (List (List Nat)))(u:List Nat):List (List Nat)×Option (List (List Nat)):=match st.2 with
 |none=>if u=[34]then(st.1,some [u])else(st.1++[u],none)
 |some q=>if u=[34]then(st.1,none)else(st.1,some (q++[u]))
noncomputable def fB(us:List (List Nat)):List (List Nat):=(us.foldl cx ([],none)).1++(us.foldl cx ([],none)).2.getD []
theorem qr(us:List (List Nat)):(fB us).flatten.length<=us.flatten.length:=by
 have go:∀(us:List (List Nat)) (st:List (List Nat)×Option (List (List Nat))),(us.foldl cx st).1.flatten.length+((us.foldl cx st).2.getD []).flatten.length<=st.1.flatten.length+(st.2.getD []).flatten.length+us.flatten.length:=by
  intro us
  induction us with
  |nil=>intro st;simp
  |cons u us ih=>
   intro st;rw[dg];refine az (ih _) ?_;obtain⟨k,q⟩:=st;have:(cx (k,q) u).1.flatten.length+((cx (k,q) u).2.getD []).flatten.length<=k.flatten.length+(q.getD []).flatten.length+u.length:=by
    cases q<;>simp only[cx]<;>split<;>simp[bR]<;>omega
   simp only[eQ,aY];omega
 have:=go us ([],none);unfold fB;simpa[bR]using this
noncomputable def Ends(f:ao->Option (ao×Fl))(ρ:ao)(v:V):Prop:=∃aQ,f ρ=some (aQ,.ret v)
theorem bw{f g ρ am v}(h:f ρ=some (am,.next))(hg:Ends g am v):Ends (eW f g) ρ v:=by
 obtain⟨aQ,e⟩:=hg;exact⟨aQ,cN h e⟩
theorem dO{f g ρ v}(h:Ends f ρ v):Ends (eW f g) ρ v:=by
 obtain⟨aQ,e⟩:=h;exact⟨aQ,cN e rfl⟩
theorem eB{f g ρ v}(R:ao->Prop)(h:∃r,f ρ=some r/\r.2= .next/\R r.1)(hg:∀am,R am->Ends g am v):Ends (eW f g) ρ v:=by
 obtain⟨⟨am,fl⟩,e,rfl,q⟩:=h;exact bw e (hg _ q)
theorem vj{f g ρ v}(h:∃r,f ρ=some r/\(r.2= .ret v\/(r.2= .next/\Ends g r.1 v))):Ends (eW f g) ρ v:=by
 obtain⟨⟨am,fl⟩,e,h⟩:=h;dsimp only at h;rcases h with rfl|⟨rfl,h⟩
 ·exact dO ⟨_,e⟩
 ·exact bw e h
theorem eT{it asg bf}{ρ:ao}{xs:List V}{Q:ao×Fl->Prop}(hi:it ρ=some xs)(h:∃r,gy asg bf xs ρ=some r/\Q r):∃r,Ls it asg bf ρ=some r/\Q r:=by
 obtain⟨r,e,q⟩:=h;exact⟨r,by simp[Ls,hi,e],q⟩
noncomputable def rQ(f:ao->Option (ao×Fl))(ρ:ao)(Q:V->Prop):Prop:=∃v,Q v/\Ends f ρ v
theorem jB{f g ρ am Q}(h:f ρ=some (am,.next))(hg:rQ g am Q):rQ (eW f g) ρ Q:=let⟨v,q,e⟩:=hg;⟨v,q,bw h e⟩
theorem Dr{f g ρ Q}(h:rQ f ρ Q):rQ (eW f g) ρ Q:=let⟨v,q,e⟩:=h;⟨v,q,dO e⟩
theorem sv{f g ρ Q}(R:ao->Prop)(h:∃r,f ρ=some r/\r.2= .next/\R r.1)(hg:∀am,R am->rQ g am Q):rQ (eW f g) ρ Q:=by
 obtain⟨⟨am,fl⟩,e,rfl,q⟩:=h;exact jB e (hg _ q)
theorem jC{i:Nat}{f:ao->Option V}{g ρ Q}{v:V}(h:f ρ=some v)(hg:rQ g (upd ρ i v) Q):rQ (eW (fun ρ=>Option.map (fun y=>(upd ρ i y,.next)) (f ρ)) g) ρ Q:=jB (cB h rfl) hg
theorem rR{f:ao->Option V}{g ρ}{Q:V->Prop}{v:V}(h:f ρ=some v)(q:Q v):rQ (eW (fun ρ=>Option.map (fun x=>(ρ,.ret x)) (f ρ)) g) ρ Q:=Dr ⟨v,q,ρ,cB h rfl⟩
theorem dk{i:Nat}{f:ao->Option V}{g ρ v}{x:V}(h:f ρ=some x)(hg:Ends g (upd ρ i x) v):Ends (eW (fun ρ=>Option.map (fun y=>(upd ρ i y,.next)) (f ρ)) g) ρ v:=bw (cB h rfl) hg
theorem df{f:ao->Option V}{g ρ}{v:V}(h:f ρ=some v):Ends (eW (fun ρ=>Option.map (fun x=>(ρ,.ret x)) (f ρ)) g) ρ v:=dO ⟨ρ,cB h rfl⟩
theorem rS:∀ts:List (List Nat),oX [] ts=ts.flatten
 |[]=>rfl
 |[x]=>by simp[Aw,Ax,Ay]
 |x::y::r=>by simp[Aw,Ax,Ay,rS (y::r)]
theorem rT:∀ts:List (List Nat),oW (ts.map .str)=some ts
 |[]=>rfl
 |x::r=>by simp[HS,HT,rT r]
theorem joinOk_of(sep:List Nat)(ts:List (List Nat))(h:ts.flatten.length+ts.length*sep.length<=1000000):JoinOk (pyStr sep) (ts.map pyStr)=true:=by
 unfold JoinOk;have e:∀(l:List (List Nat)) (k:Nat),(l.map pyStr).foldl (fun(n:Nat) (x:Str)=>n+x.length+(pyStr sep).length) k=k+(l.flatten.length+l.length*sep.length):=by
  intro l
  induction l with
  |nil=>intro k;simp
  |cons x l ih=>
   intro k;simp only[bB,dg,ih,eQ,aY,cr];have e1:(pyStr x).length=x.length:=by simp[pyStr,Str.length]
   have e2:(pyStr sep).length=sep.length:=by simp[pyStr,Str.length]
   rw[e1,e2,Nat.add_one_mul];omega
 have e3:Builtin.Str.tooLong ((ts.map pyStr).toArray.foldl (fun n x=>n+x.length+(pyStr sep).length) 0)=false:=by
  rw[List.foldl_toArray];rw[e];unfold Builtin.Str.tooLong;rw[jM];simp only[tr,gY,gt_iff_lt];omega
 rw[e3];rfl
theorem Ds(l:List Nat){s e f:Nat}(h1:s<=e)(h2:e<=f):sl l s e++sl l e f=sl l s f:=by
 unfold sl;have:f-s=(e-s)+(f-e):=(Nat.sub_add_sub_cancel h2 h1).symm.trans (qX _ _);rw[this,List.take_add,List.drop_drop];rw[rc h1]
theorem zj(l:List Nat)(s:Nat):sl l s s=[]:=by simp[sl]
theorem My{l l' us:List (List Nat)}{u:List Nat}(h:l++u::l'=us):sl us.flatten l.flatten.length (l.flatten.length+u.length)=u/\l.flatten.length+u.length<=us.flatten.length:=by
 rw[<-h,bR,eQ];unfold sl;rw[List.drop_left,Nat.add_sub_cancel_left,List.take_left,aY,aY];exact⟨rfl,by omega⟩
theorem vk:∀(us:List (List Nat)) (k:List (List Nat)),(∀u∈us,u≠[34])->us.foldl cx (k,none)=(k++us,none)
 |[],k,_=>by simp
 |u::us,k,h=>by
  rw[dg];have:cx (k,none) u=(k++[u],none):=by simp[cx,h u gI]
  rw[this,vk us _ fun v hv=>h v (ge _ hv)];simp
inductive Jx(us:List (List Nat))(n p:Nat)(ρ:ao):List (List Nat)×Option (List (List Nat))->Prop
 |no {k} (s:Nat) (res:List (List Nat)) (h0:ρ 0=some (.str us.flatten)) (h1:ρ 1=some (.int s)) (h2:ρ 2=some .none) (h3:ρ 3=some (.list (res.map .str))) (hl:res.length<=n) (hs:s<=p) (hk:res.flatten++sl us.flatten s p=k.flatten):Jx us n p ρ (k,none)
 |op {k q} (s o:Nat) (res:List (List Nat)) (h0:ρ 0=some (.str us.flatten)) (h1:ρ 1=some (.int s)) (h2:ρ 2=some (.int o)) (h3:ρ 3=some (.list (res.map .str))) (hl:res.length<=n) (hs:s<=o) (ho:o<p) (hk:res.flatten++sl us.flatten s o=k.flatten) (hq:sl us.flatten o p=q.flatten):Jx us n p ρ (k,some q)
theorem Jx.last{us:List (List Nat)}{n:Nat}{ρ:ao}{st}{C:Prop}(h:Jx us n us.flatten.length ρ st)(k:∀(s:Nat) (res:List (List Nat)),ρ 0=some (.str us.flatten)->ρ 1=some (.int s)->ρ 3=some (.list (res.map .str))->res.length<=n->s<=us.flatten.length->res.flatten++sl us.flatten s us.flatten.length=(st.1++st.2.getD []).flatten->C):C:=by
 cases h with
 |no s res h0 h1 h2 h3 hl hs hk=>exact k s res h0 h1 h3 hl hs (hk.trans (by rw[Option.getD_none,dZ]))
 |op s o res h0 h1 h2 h3 hl hs ho hk hq=>exact k s res h0 h1 h3 hl (az hs (dU ho)) (by rw[<-Ds us.flatten hs (dU ho),<-List.append_assoc,hk,hq,tM,bR])
theorem Qn{us:List (List Nat)}{res:List (List Nat)}{s e:Nat}{k:List (List Nat)}(hk:res.flatten++sl us.flatten s e=k.flatten):(res++[sl us.flatten s e]).flatten=k.flatten:=by
 rw[bR,gJ,hk]
theorem Jy{us:List (List Nat)}{r:List Nat}{e:Nat}{k:List Nat}(hk:r=k):r++sl us.flatten e e=k:=by rw[zj,dZ,hk]
theorem Bs{us res:List (List Nat)}(h:res.flatten=(fB us).flatten)(hl:us.flatten.length<=10000){ρ:ao}(h3:ρ 3=some (.list (res.map .str))):Rt EC (fun ø=>some (.str [])) (cW (fun ρ=>ρ 3) fun ø=>some []) ρ=some (.str (fB us).flatten):=by
 have hf:res.flatten.length<=1000000:=by rw[h];exact az (qr us) (az hl (by decide))
 unfold Rt cW;dsimp only;rw[h3,eA,eA,eA,eA,ED,rT,eA,aw (joinOk_of [] res (by simpa using hf)),rS,h]
theorem Jz{res:List (List Nat)}{n:Nat}(x:V)(h:res.length<=n)(hn:n<=10000):Fy (.list (res.map .str)) [x]=some (.list (res.map .str++[x]),.none):=rP _ _ (by rw[List.length_map];exact fq h (fq hn (by decide)))
theorem Dt{us:List (List Nat)}{f:ao->Option V}{ρ:ao}(h0:f ρ=some (.str us.flatten))(hm:us.flatten.length<=most)(h:m4 us=true):((cW f fun ø=>some []) ρ).bind Qb=some ((zh 0 us).map mU):=
 cN (ap h0 rfl) (by rw[Qc,aw hm,xl us 0 h])
theorem sw{asg:ao->V->Option ao}{body:ao->Option (ao×Fl)}(ws:List (List Nat))(I:List (List Nat)->ao->Prop)(E:ao×Fl->Prop)
  (step:∀l u l' ρ,l++u::l'=ws->I l ρ->∃am,asg ρ (mU (l.flatten.length+u.length-1,u))=some am/\∃r,body am=some r/\RF (I (l++[u])) E r) (done:∀ρ,I ws ρ->E (ρ,.next)) {ρ:ao} (h0:I [] ρ):∃r,gy asg body ((zh 0 ws).map mU) ρ=some r/\E r:=by
 have go:∀(l' l:List (List Nat)) ρ,l++l'=ws->I l ρ->∃r,gy asg body ((zh l.flatten.length l').map mU) ρ=some r/\E r:=by
  intro l'
  induction l' with
  |nil=>exact fun l ρ e h=>⟨_,rfl,done ρ (by rw[<-e,dZ];exact h)⟩
  |cons u l' ih=>
   intro l ρ e h;obtain⟨am,h1,r,h2,h3⟩:=step l u l' ρ e h;rw[zi,bB,uc,h1,eA,h2,eA]
   cases h3 with
   |nx h=>
    have:=ih (l++[u]) _ (by rw[List.append_assoc];exact e) h;rwa[bR,gJ,aY]at this
   |br h=>exact⟨_,rfl,h⟩
   |rt h=>exact⟨_,rfl,h⟩
 exact go ws [] ρ rfl h0
theorem vl{asg:ao->V->Option ao}{body:ao->Option (ao×Fl)}(ws:List (List Nat))(I:List (List Nat)->ao->Prop)
  (step:∀l u l' ρ,l++u::l'=ws->I l ρ->∃am di,asg ρ (mU (l.flatten.length+u.length-1,u))=some am/\body am=some (di,.next)/\I (l++[u]) di) {ρ:ao} (h0:I [] ρ):∃r,gy asg body ((zh 0 ws).map mU) ρ=some r/\r.2= .next/\I ws r.1:=
 sw ws I _ (fun l u l' ρ e h=>by
  obtain⟨am,di,h1,h2,h3⟩:=step l u l' ρ e h;exact⟨am,h1,_,h2,.nx h3⟩) (fun ρ h=>⟨rfl,h⟩) h0
theorem E3(l:List (List Nat))(u:List Nat):(l++[u]).flatten=l.flatten++u:=by rw[bR,gJ]
theorem Gf{P:Pk}{n:Nat}{a:Addr}{g gen gl}{us:List (List Nat)}(h:m4 us=true)(hl:us.flatten.length<=10000)(hn:us.length<=10000){ρ:ao}(h0:ρ 0=some (.str us.flatten)):
  Ends (dN (P:=P) (n:=n) (aT:=a) g gen gl).1 ρ (.str (fB us).flatten):=by
 have hm:us.flatten.length<=most:=az hl (by decide);unfold dN;by_cases hq:34∈us.flatten
 case neg=>
  refine dO ⟨ρ,mZ (aG rfl h0 (congrArg (fun b=>some !b) (db hq))) ?_⟩;have e:fB us=us:=by
   unfold fB;rw[vk us [] fun u hu z=>hq (List.mem_flatten.mpr ⟨u,hu,by rw[z];exact List.mem_singleton_self _⟩)];exact dZ _
  rw[e];dsimp only[eW];rw[h0];rfl
 refine bw (am:=ρ) (ik (aG rfl h0 (congrArg (fun b=>some !b) (bo hq))) rfl) (bw rfl (bw rfl (bw rfl ?_)));refine eB (fun ρ=>Jx us us.length us.flatten.length ρ (us.foldl cx ([],none))) (eT (Dt h0 hm h) (vl us (fun l ρ=>Jx us l.length l.flatten.length ρ (l.foldl cx ([],none))) (fun l u l' ρ hx hR=>?_) (.no 0 [] h0 rfl rfl rfl (bL _) (bL _) rfl))) fun am hR=>?_
 ·obtain⟨Yi,Ab⟩:=My hx
  have eu:l.length<us.length:=by rw[<-hx,aY];exact tL (jf _)
  rw[E3,aY,aY,dF,dg,mM];generalize l.foldl cx ([],none)=st at*;generalize l.flatten.length=p at*;generalize l.length=i at*;by_cases Mz:u=[34]
  ·subst Mz
   cases hR with
   |no s res h0 h1 h2 h3 hl hs hk=>exact ex4 ρ h0 h1 h2 h3 fun σ=>⟨_,_,rfl,rfl,Jx.op s p res rfl rfl rfl rfl (ez hl) hs (mJ p) hk (Yi.trans rfl)⟩
   |op s o res h0 h1 h2 h3 hl hs ho hk hq=>
    by_cases hz:s=o
    ·subst hz
     exact ex4 ρ h0 h1 h2 h3 fun σ=>⟨_,_,rfl,cf (mZ rfl (cf (ik rfl (cf (ik (aG rfl rfl (RE rfl)) rfl) rfl)) rfl)) rfl,Jx.no (p+1) res rfl rfl rfl rfl (ez hl) (bL _) (Jy (by rw[<-hk,zj,dZ]))⟩
    ·exact ex4 ρ h0 h1 h2 h3 fun σ=>⟨_,_,rfl,cf (mZ rfl (cf (ik rfl (cf (mZ (aG rfl rfl (neT fun e=>hz (Int.ofNat.inj e))) (cf (cB (N5 rfl (Gd us.flatten s o (by omega) (by omega) hm) (Jz _ hl (by omega))) rfl) rfl)) rfl)) rfl)) rfl,Jx.no (p+1) (res++[sl us.flatten s o]) rfl rfl rfl (by rw[List.map_append];rfl) (by rw[aY];exact fP hl) (bL _) (Jy (Qn hk))⟩
  ·have hb:(u==[34])=false:=kI.mpr Mz
   cases hR with
   |no s res h0 h1 h2 h3 hl hs hk=>
    have e:cx (k,none) u=(k++[u],none):=au Mz;rw[e];exact ex4 ρ h0 h1 h2 h3 fun σ=>⟨_,_,rfl,cf (ik (congrArg some hb) rfl) rfl,Jx.no s res rfl rfl rfl rfl (ez hl) (by omega) (by rw[<-Ds us.flatten hs (fO p u.length),Yi,<-List.append_assoc,hk,bR,gJ])⟩
   |op s o res h0 h1 h2 h3 hl hs ho hk hq=>
    have e:cx (k,some q) u=(k,some (q++[u])):=au Mz;rw[e];exact ex4 ρ h0 h1 h2 h3 fun σ=>⟨_,_,rfl,cf (ik (congrArg some hb) rfl) rfl,Jx.op s o res rfl rfl rfl rfl (ez hl) hs (by omega) hk (by rw[<-Ds us.flatten (dU ho) (fO p u.length),Yi,hq,bR,gJ])⟩
 ·exact hR.last fun s res h0 h1 h3 hr hs hk=>ex3 am h0 h1 h3 fun σ=>by
   by_cases eu:s<us.flatten.length
   ·exact bw (mZ (aG rfl (bY rfl (ml _ hm)) (congrArg some (bo (jR.mpr eu)))) (cf (cB (N5 rfl (Bp us.flatten s hs hm) (Jz _ hr hn)) rfl) rfl)) (dO ⟨_,cB (Bs (res:=res++[sl us.flatten s us.flatten.length]) (by rw[bR,gJ,hk];rfl) hl (by rw[List.map_append];rfl)) rfl⟩)
   ·obtain rfl:s=us.flatten.length:=Nat.le_antisymm hs (tw eu)
    rw[zj,dZ]at hk;exact bw (ik (aG rfl (bY rfl (ml _ hm)) (congrArg some (db fun e=>eu (jR.mp e)))) rfl) (dO ⟨_,cB (Bs (res:=res) (hk.trans rfl) hl rfl) rfl⟩)
noncomputable def nY(d:Nat)(u:List Nat):Sum Nat Unit:=if u=[40]then .inl (d+1)else if u=[41]then(if d=0 then .inr ()else .inl (d-1))else .inl d
noncomputable def pD(us:List (List Nat)):Bool:=match bp nY us 0 with
 | .inl d=>d==0
 | .inr _=>false
theorem Gg{P:Pk}{n:Nat}{a a':Addr}{F g h c g' gen}{us ws:List (List Nat)}{t:List Nat}(hF:F [.str t]=some (.str ws.flatten))(hs:m4 ws=true)(hl:ws.flatten.length<=10000){ρ:ao}(h0:ρ 0=some (.str t)):
  Ends (fw (P:=P) (n:=n) (aS:=a) (bS:=F) (aT:=a') g h c g' gen).1 ρ (.bool (pD ws)):=by
 have hm:ws.flatten.length<=most:=az hl (by decide);unfold fw;refine dk (bY h0 hF) (bw rfl (vj (eT (Dt rfl hm hs) (sw ws (fun l ρ=>∃d:Nat,ρ 1=some (.int d)/\bp nY l 0= .inl d) _ (fun l u l' ρ hx hR=>?_) (fun ρ hR=>.inr ⟨rfl,?_⟩) ⟨0,rfl,rfl⟩))))
 ·obtain⟨d,hd,hf⟩:=hR
  by_cases e1:u=[40]
  ·subst e1
   exact ex1 ρ hd fun σ=>⟨_,rfl,_,rfl,.nx ⟨d+1,rfl,bD hf rfl⟩⟩
  ·have c1:(u==[40])=false:=kI.mpr e1
   by_cases e2:u=[41]
   ·subst e2
    cases d with
    |zero=>
     have e:pD ws=false:=by unfold pD;rw[<-hx,jb hf rfl]
     exact ex1 ρ hd fun σ=>⟨_,rfl,_,rfl,.rt (.inl (by rw[e]))⟩
    |succ k=>exact ex1 ρ hd fun σ=>⟨_,rfl,_,cf (ik rfl (cf (mZ rfl (cf rfl (cf (ik (congrArg some (db (by omega))) rfl) rfl))) rfl)) rfl,.nx ⟨k,congrArg (fun z=>some (V.int z)) (by omega),bD hf rfl⟩⟩
   ·have c2:(u==[41])=false:=kI.mpr e2
    exact ex1 ρ hd fun σ=>⟨_,rfl,_,cf (ik (congrArg some c1) (cf (ik (congrArg some c2) rfl) rfl)) rfl,.nx ⟨d,rfl,bD hf ((au e1).trans (au e2))⟩⟩
 ·obtain⟨d,hd,hf⟩:=hR
  have e:pD ws=(d==0):=by unfold pD;rw[hf]
  rw[e];exact df (cB (aG hd rfl (bU _ _)) (by cases d<;>rfl))
noncomputable def xm:Cx:={vars:=[(U6,.local,false),(⟨#[120]⟩,.local,false),(⟨#[110,117,109,98,101,114,115]⟩,.local,false),(K3,.local,true),(Y3,.local,false),(⟨#[100,101,112,116,104]⟩,.local,false),(RY,.local,false)],aV:=[we,v7]}
noncomputable def zk:Cx:={vars:=[(⟨#[107]⟩,.local,false)],aV:=[]}
noncomputable def zl:Cx:={vars:=[(⟨#[120]⟩,.local,false)],aV:=[]}
noncomputable def rU{P:Pk}{n:Nat}(cA:P.glob we=some (.builtin "len"))(aX:P.glob v7=some (.type "range")):{f:ao->Option (ao×Fl)//oo P n xm (dW (aO pq.main.body 61)) f}:=⟨_,(@af _ _ _ _ _ _ _ (@gO _ _ _ (zl) 2 _ _ _ _ _ _ _ _ _ _ _ _ _ _ (1) ([]) rfl (@dH _ _ _ _ _ (e6 (ab 0 rfl rfl rfl) cF (eZ ae) cF)) (cu (by decide+kernel)) (aB 0 rfl (by decide) (by decide)) eY (al jk (ab 0 rfl rfl rfl) (al Nq ae ae)) cz rfl rfl) (@af _ _ _ _ _ _ _ (@aI _ _ _ 2 _ _ _ _ _ _ rfl (by decide) (@al _ _ _ _ _ _ _ _ _ _ _ cm (ab 2 rfl rfl rfl) (@e6 _ _ _ _ _ _ _ _ _ _ _ _ _ _ (@cQ _ _ _ _ _ _ _ (@aa _ _ _ _ _ _ _ _ ae (@aa _ _ _ _ _ _ _ _ ae (@aa _ _ _ _ _ _ _ _ ae (@aa _ _ _ _ _ _ _ _ ae (@aa _ _ _ _ _ _ _ _ ae (aa ae (aa ae ag ir) ir) ir) ir) ir) ir) ir) (by decide) (@ah _ _ _ (@ah _ _ _ (@ah _ _ _ (@ah _ _ _ (ah (ah (ah len0)))))))) (@eZ _ _ _ _ _ (@aJ _ _ _ _ _ _ _ _ _ _ _ rfl cA rfl jq (aa (ac (ab 2 rfl rfl rfl)) ag ir) ir (ca _ _))) cF cF)) cz) (@af _ _ _ _ _ _ _ (@gP _ _ _ ([(3,K3,.local,true),(4,Y3,.local,false),(5,⟨#[100,101,112,116,104]⟩,.local,false)]) ([_,_,_]) _ _ _ _ _ _ _ ⟨by decide+kernel,by decide+kernel⟩ rfl (@fX.new _ _ _ _ _ _ _ _ (fm ag (by decide) len0) (fX.dat ae (fX.dat ae fX.nil ir) ir) ir) (by decide) (ah (ah (ah len0))) kg.len ir (N1 (K:=xm) (i:=3) (j:=4) (l:=5) rfl rfl rfl rfl rfl (by decide+kernel) rfl rfl rfl rfl)) (@af _ _ _ _ _ _ _ (@dB _ _ _ (false) _ _ _ _ _ _ _ (dH (ab 2 rfl rfl rfl)) (aB 1 rfl (by decide) (by decide)) (@af _ _ _ _ _ _ _ (aI 6 rfl (by decide) (al jk (ab 1 rfl rfl rfl) ae) cz) (@af _ _ _ _ _ _ _ (@aN _ _ _ _ _ _ _ _ _ _ (ay fi (ac (ab 4 rfl rfl rfl)) ae rfl) (af (aI 6 rfl (by decide) ae cz) ai) (@af _ _ _ _ _ _ _ (@aN _ _ _ _ _ _ _ _ _ _ (@se.or _ _ _ _ _ _ _ _ (@gk _ _ _ _ _ _ _ _ (ay fi (ac (ab 6 rfl rfl rfl)) ae rfl) (ay fi (ac (ab 4 rfl rfl rfl)) ae rfl)) (@gk _ _ _ _ _ _ _ _ (ay fi (ac (ab 6 rfl rfl rfl)) ae rfl) (ay fi (ac (ab 5 rfl rfl rfl)) ae rfl))) (af (aI 6 rfl (by decide) ae cz) ai) ai) ai)) (@af _ _ _ _ _ _ _ (@cS _ _ _ 4 _ _ _ _ _ _ _ _ rfl (by decide) rfl rfl gQ (@iZ _ _ _ _ _ _ _ _ _ _ _ (ay fi (ac (ab 6 rfl rfl rfl)) ae rfl) ae ae)) (@af _ _ _ _ _ _ _ (cS 5 rfl (by decide) rfl rfl gQ (al El ae (ab 6 rfl rfl rfl))) (@af _ _ _ _ _ _ _ (@eG _ _ _ _ _ _ (@eF _ _ _ 3 _ _ _ _ _ _ _ _ _ rfl rfl rfl ub (@aa _ _ _ _ _ _ _ _ (@de _ _ _ _ _ _ _ _ (@aa _ _ _ _ _ _ _ _ (ab 6 rfl rfl rfl) (@aa _ _ _ _ _ _ _ _ (al jk (al nF (ab 1 rfl rfl rfl) ae) ae) (aa (al nF (ab 1 rfl rfl rfl) ae) ag ir) ir) ir) (by decide) (ah (ah (ah len0)))) ag ir) ir (by decide) rfl ir) jA ir) ai))))) cz) (@af _ _ _ _ _ _ _ (@aW _ _ _ _ _ _ (@al _ _ _ _ _ _ _ _ _ _ _ cm (dc 3 rfl rfl rfl) (@ac _ _ _ _ _ (@fQ _ _ _ _ _ _ (@fW _ _ _ (zk) _ _ _ _ _ _ _ _ _ _ (1) ([]) (cL rfl aX (aa (ab 5 rfl rfl rfl) ag ir) ir (ca _ _)) (cu (by decide+kernel)) (aB 0 rfl (by decide) (by decide)) eY (@de _ _ _ _ _ _ _ _ (@aa _ _ _ _ _ _ _ _ ae (aa ae (aa (ab 0 rfl rfl rfl) ag ir) ir) ir) (by decide) (ah (ah (ah len0)))) cz))))) ai)))))⟩
noncomputable abbrev Item:=Nat×Nat×Int
noncomputable abbrev Hf(e:Item):V:=.tup [.int e.1,.int e.2.1,.int e.2.2]
noncomputable def Du(e:Item):Prop:=e.1<3/\e.2.1<3/\0<=e.2.2/\e.2.2<=1111111
noncomputable def eg(d a:Nat):Sum Nat Unit:=if a=0 then .inl (d+1)else if a=1 then .inl d else if d=0 then .inr ()else .inl (d-1)
structure jU(its:List Item):Prop where
 len:its.length<=11
 ok:∀e∈its,Du e
 dyck:bp eg (its.map (·.1)) 0= .inl 0
 few:its.countP (fun e=>e.1 != 2)<=7
noncomputable def m5(m op dp:Nat):Nat:=if op=0 then 0 else if(m=0/\op=4)\/(m=2/\dp=0)then 1 else m
theorem MA{its:List Item}{d d':Nat}{e:Item}(h:bp eg (its.map (·.1)) 0= .inl d)(hs:eg d e.1= .inl d'):bp eg ((its++[e]).map (·.1)) 0= .inl d':=by
 rw[List.map_append];exact bD h hs
theorem Ub{m op dp:Nat}{ρ:ao}(h4:ρ 4=some (.int op))(h5:ρ 5=some (.int dp))(h6:ρ 6=some (.int m)):
  ((eU m6 (fun ρ=>ρ 4) (fun x=>some (V.int 0)) ρ).bind fun z=>if z=true then eW (fun ρ=>Option.map (fun y=>(upd ρ 6 y,Fl.next)) (some (V.int 0))) (fun ρ=>some (ρ,Fl.next)) ρ
   else eW (fun ρ=>(Rn (on (eU m6 (fun ρ=>ρ 6) fun x=>some (V.int 0)) (eU m6 (fun ρ=>ρ 4) fun x=>some (V.int 4))) (on (eU m6 (fun ρ=>ρ 6) fun x=>some (V.int 2)) (eU m6 (fun ρ=>ρ 5) fun x=>some (V.int 0))) ρ).bind fun z=>
    if z=true then eW (fun ρ=>Option.map (fun y=>(upd ρ 6 y,Fl.next)) (some (V.int 1))) (fun ρ=>some (ρ,Fl.next)) ρ else some (ρ,Fl.next)) (fun ρ=>some (ρ,Fl.next)) ρ)=some (upd ρ 6 (.int (m5 m op dp)),.next):=by
 by_cases q:op=0
 ·subst q
  rw[m5,aw rfl];exact mZ (aG h4 rfl (bU _ _)) rfl
 ·have c4:=aG (F:=m6) (f:=fun ρ=>ρ 4) (g:=fun ø=>some (.int 0)) h4 rfl ((bU _ _).trans (congrArg some (db (p:=(op:Int)=0) (by omega))))
  have hc:Rn (on (eU m6 (fun ρ=>ρ 6) fun x=>some (V.int 0)) (eU m6 (fun ρ=>ρ 4) fun x=>some (V.int 4))) (on (eU m6 (fun ρ=>ρ 6) fun x=>some (V.int 2)) (eU m6 (fun ρ=>ρ 5) fun x=>some (V.int 0))) ρ=some (decide ((m=0/\op=4)\/(m=2/\dp=0))):=by
   refine(Bq (gB (aG h6 rfl (bU _ _)) (aG h4 rfl (bU _ _))) (gB (aG h6 rfl (bU _ _)) (aG h5 rfl (bU _ _)))).trans (congrArg some ?_);rw[ly];simp only[lx,bX,mI];omega
  rw[m5,au q];by_cases q2:(m=0/\op=4)\/(m=2/\dp=0)
  ·rw[aw q2]
   exact ik c4 (cf (mZ (hc.trans (congrArg some (bo q2))) rfl) rfl)
  ·rw[au q2,cj h6]
   exact ik c4 (cf (ik (hc.trans (congrArg some (db q2))) rfl) rfl)
inductive Qo(nv:V)(i:Nat)(ρ:ao):Prop
 |mk (its:List Item) (op dp:Nat) (h2:ρ 2=some nv) (h3:ρ 3=some (.list (its.map Hf))) (h4:ρ 4=some (.int op)) (h5:ρ 5=some (.int dp)) (hl:its.length=i) (ho:op<=4) (hd:dp<=op) (hf:bp eg (its.map (·.1)) 0= .inl dp) (Cg:∀e∈its,Du e)
theorem JA{cy:List Int}(hs:cy.length<=63){ρ:ao}(h0:ρ 0=some (.list (cy.map .int))):
  mS (fun ρ=>(ui (fun ρ=>ρ 0) (fun x=>some none) (fun ρ=>(some (V.int 7)).bind An) (fun x=>some none) ρ).bind elems) (fun ρ y=>some (upd ρ 0 y)) (fun x=>some true) (iR CJ (fun ρ=>ρ 0) (iR Ox (fun x=>some (V.int 10)) fun x=>some (V.int 7))) 1 [] ρ=some (.list (((cy.take 7).map (· % 10000000)).map .int)):=by
 rw[iH];exact gn (fun ø=>True) (cy.take 7) .int (fun x=>.int (x % 10000000)) (cN (nW h0 rfl rfl rfl (pC _ 7 (by rw[List.length_map];exact az hs (by decide)))) (congrArg some (List.map_take ..).symm)) (fq (List.length_take_le _ _) (by decide)) (fun x hx ρ ø=>⟨upd ρ 0 (.int x),rfl,trivial,md rfl rfl⟩) trivial
theorem JB{l:List Int}(h8:l.length<=7)(hr:∀x∈l,0<=x/\x<10000000):∃nums:List Int,nums.length=7/\(∀x∈nums,0<=x/\x<10000000)/\l.map V.int++([2286,41023,580014,20029,1301167,47,2103639].map V.int).drop (l.map V.int).length=nums.map V.int/\(l.map V.int).length+(([2286,41023,580014,20029,1301167,47,2103639].map V.int).drop (l.map V.int).length).length<=most:=by
 refine⟨l++[2286,41023,580014,20029,1301167,47,2103639].drop l.length,by rw[aY,nB];exact rc h8,fun x hx=>?_,by rw[List.map_append,List.map_drop,List.length_map],?_⟩
 ·rcases bZ.mp hx with hx|hx
  ·exact hr x hx
  ·exact(by decide:∀x∈[2286,41023,580014,20029,1301167,47,2103639],(0:Int)<=x/\x<10000000) x (List.mem_of_mem_drop hx)
 ·rw[nB,List.length_map]
  show l.length+(7-l.length)<=1000000;omega
theorem JC{m op dp:Nat}(hm:m<3):m5 m op dp<3:=by
 unfold m5;split
 ·decide
 ·split
  ·decide
  ·exact hm
theorem JD{m op dp:Nat}(hm:m<3)(ho:op<=4)(hd:dp<=op):∃Uc Ud:Nat,Uc<=4/\Ud<=Uc/\eg dp (m5 m op dp)= .inl Ud/\(Uc:Int)=op+(if m5 m op dp=0 then 1 else 0)/\(Ud:Int)=dp+(1-m5 m op dp):=by
 have h3:=JC (op:=op) (dp:=dp) hm;unfold eg;by_cases q:m5 m op dp=0
 ·refine⟨op+1,dp+1,?_,fP hd,aw q,by rw[aw q];rfl,by rw[q];omega⟩
  unfold m5 at q;split at q
  ·omega
  ·split at q
   ·cases q
   ·omega
 ·by_cases q1:m5 m op dp=1
  ·exact⟨op,dp,ho,hd,by rw[au q,aw q1],by rw[au q];omega,by rw[q1];omega⟩
  ·have q2:m5 m op dp=2:=by omega
   have hz:dp≠0:=fun z=>by
    unfold m5 at q2;split at q2
    ·cases q2
    ·split at q2
     ·cases q2
     ·omega
   exact⟨op,dp-1,ho,by omega,by rw[au q,au q1,au hz],by rw[au q];omega,by rw[q2];omega⟩
theorem JE(dp:Nat):∀k:Nat,k<=dp->bp eg (((List.range k).map fun(j:Nat)=>((2,0,(j:Int)):Item)).map (·.1)) dp= .inl (dp-k)
 |0,_=>rfl
 |k+1,h=>by
  rw[tJ,List.map_append,List.map_append];refine bD (JE dp k (kL h)) ?_;show eg (dp-k) 2=_;unfold eg;rw[au (by decide),au (by decide),au (by omega)];exact congrArg Sum.inl (by omega)
theorem MB(l:List Nat):(l.map fun(j:Nat)=>((2,0,(j:Int)):Item)).countP (fun e=>e.1 != 2)=0:=List.countP_eq_zero.mpr fun e he=>by
 obtain⟨j,_,rfl⟩:=dt.mp he;exact ny
theorem MC{P:Pk}{n:Nat}{g1 g2}{cy:List Int}(hs:cy.length<=63){ρ:ao}(h0:ρ 0=some (.list (cy.map .int))):
  rQ (rU (P:=P) (n:=n) g1 g2).1 ρ fun v=>∃its,jU its/\v= .list (its.map Hf):=by
 have h8:((cy.take 7).map (· % 10000000)).length<=7:=by rw[List.length_map];exact List.length_take_le _ _
 have hr:∀x∈(cy.take 7).map (· % 10000000),0<=x/\x<10000000:=fun x hx=>by
  obtain⟨y,_,rfl⟩:=dt.mp hx;omega
 have e1:=JA hs h0;generalize(cy.take 7).map (· % 10000000)=l at e1 h8 hr;obtain⟨nums,Rs,hnr,hn,K5⟩:=JB h8 hr;have Dv:(l.map V.int).length<=most:=by rw[List.length_map];exact az h8 (by decide)
 unfold rU;dsimp only;refine jC e1 (jC (bT rfl (nW rfl (cN (bY rfl (nU _ Dv)) rfl) rfl rfl (zg _ _ (by decide))) ((zf _ _ K5).trans (congrArg (fun z=>some (V.list z)) hn))) (jB rfl ?_));refine sv (Qo (.list (nums.map .int)) 7) (eT (xs:=nums.map .int) rfl (Bj (fun i ρ=>Qo (.list (nums.map .int)) i ρ) _ (fun i x ρ hx hR=>?_) (fun ρ hR=>⟨rfl,?_⟩) (.mk [] 0 0 rfl rfl rfl rfl rfl (by decide) (bL _) rfl (List.forall_mem_nil _)))) fun am hR=>?_
 ·rw[dh]at hx
  refine cI hx fun x zS e=>?_
  subst e;have hil:i<7:=Rs▸(gG.mp zS).1;have hxr:=hnr x (oO zS);obtain⟨m,hm⟩:=qW (a:=x % 3) (by omega);obtain⟨w,hw⟩:=qW (a:=x/3 % 3) (by omega);have hd:0<=x/9/\x/9<=1111111:=by omega
  obtain⟨its,op,dp,h2,h3,h4,h5,hl,ho,Ll,hf,Cg⟩:=hR;obtain⟨Uc,Ud,o1,o2,o3,o4,o5⟩:=JD (m:=m) (op:=op) (dp:=dp) (by omega) ho Ll;have K5:=JC (m:=m) (op:=op) (dp:=dp) (by omega);have hit:(its.map Hf).length<most:=by rw[List.length_map,hl];exact Nat.lt_trans hil (by decide)
  have hb:∀aQ:ao,aQ 6=some (.int (m5 m op dp))->CI (eU m6 (fun ρ=>ρ 6) fun x=>some (V.int 0)) (fun x=>some (V.int 1)) (fun x=>some (V.int 0)) aQ=some (.int (if m5 m op dp=0 then 1 else 0)):=fun aQ h6=>by
   by_cases q:m5 m op dp=0
   ·rw[aw q];exact mZ (aG h6 rfl ((bU _ _).trans (congrArg some (bo (by rw[q];rfl))))) rfl
   ·rw[au q];exact ik (aG h6 rfl ((bU _ _).trans (congrArg some (db (by omega))))) rfl
  exact ex4 ρ h2 h3 h4 h5 fun σ=>⟨_,_,rfl,mm ((md rfl rfl).trans (congrArg (fun z=>some (V.int z)) hm)) (cf (Ub rfl rfl rfl) (ow rfl (hb _ rfl) (congrArg (fun z=>some (V.int z)) o4.symm)
    (ow rfl (bT rfl rfl rfl) (congrArg (fun z=>some (V.int z)) o5.symm) (Ge rfl (ap (cB (ap rfl (ap ((md (dv rfl rfl) rfl).trans (congrArg (fun z=>some (V.int z)) hw)) (ap (dv rfl rfl) rfl))) rfl) rfl) (rP _ _ hit) rfl)))),
   Qo.mk (its++[(m5 m op dp,w,x/9)]) Uc Ud rfl (congrArg (fun z=>some (V.list z)) (nX Hf its (m5 m op dp,w,x/9))) rfl rfl (by rw[aY,hl];rfl) o1 o2 (MA hf o3) (Jt Cg ⟨K5,by show w<3;omega,hd⟩)⟩
 ·obtain⟨its,op,dp,h2,h3,h4,h5,hl,ho,Ll,hf,Cg⟩:=hR
  refine ex2 am h3 h5 fun σ=>rR (bT rfl (gn (fun ø=>True) (List.range dp) (fun(j:Nat)=>V.int j) (fun(j:Nat)=>Hf (2,0,(j:Int))) (cN (ap rfl rfl) ?_) (by rw[eM];exact fq (az Ll ho) (by decide)) (fun j hj ρ ø=>⟨upd ρ 0 (.int j),rfl,trivial,rfl⟩) trivial) (zf _ _ ?_)) ⟨its++(List.range dp).map fun(j:Nat)=>((2,0,(j:Int)):Item),⟨?_,fun e he=>?_,?_,?_⟩,?_⟩
  ·rw[HA,aw (by exact(bX _ _).mpr ⟨bo (by omega),bo (by omega)⟩)]
   refine congrArg some ?_;unfold Ny;have e:(Builtin.Range.rangeSize 0 (dp:Int) 1).toNat=dp:=by
    unfold Builtin.Range.rangeSize;simp;split<;>omega
   rw[e];simp
  ·rw[List.length_map,List.length_map,eM,hl]
   exact az (mP (az Ll ho) 7) (by decide)
  ·rw[aY,List.length_map,eM,hl]
   omega
  ·rcases bZ.mp he with he|he
   ·exact Cg e he
   ·obtain⟨j,hj,rfl⟩:=dt.mp he
    have:=ea.mp hj;exact⟨(by decide:2<3),(by decide:0<3),by show(0:Int)<=(j:Int);omega,by show(j:Int)<=1111111;omega⟩
  ·rw[List.map_append,ja,hf]
   show bp eg _ dp=_;rw[JE dp dp (bL _),tI]
  ·rw[List.countP_append,MB]
   exact az List.countP_le_length (je hl)
  ·rw[List.map_append,iH]
   rfl
 ·rw[List.length_map,Rs]at hR
  exact hR
noncomputable def nZ:Cx:={vars:=[(Lg,.local,false),(⟨#[101,100,103,101,115]⟩,.local,false),(Y1,.local,false)],aV:=[Rj]}
noncomputable def io{P:Pk}{n:Nat}(mV:P.glob Rj=some (.builtin "chr")):{f:ao->Option (ao×Fl)//oo P n nZ (dW (aO pq.main.body 62)) f}:=⟨_,(@af _ _ _ _ _ _ _ (@aI _ _ _ 1 _ _ _ _ _ _ rfl (by decide) (@cQ _ _ _ _ _ _ _ (@aa _ _ _ _ _ _ _ _ ae (@aa _ _ _ _ _ _ _ _ ae (@aa _ _ _ _ _ _ _ _ ae (@aa _ _ _ _ _ _ _ _ ae (@aa _ _ _ _ _ _ _ _ ae (@aa _ _ _ _ _ _ _ _ ae (@aa _ _ _ _ _ _ _ _ ae (@aa _ _ _ _ _ _ _ _ ae (@aa _ _ _ _ _ _ _ _ ae (@aa _ _ _ _ _ _ _ _ ae (@aa _ _ _ _ _ _ _ _ ae (@aa _ _ _ _ _ _ _ _ ae (@aa _ _ _ _ _ _ _ _ ae (@aa _ _ _ _ _ _ _ _ ae (aa ae (aa ae ag ir) ir) ir) ir) ir) ir) ir) ir) ir) ir) ir) ir) ir) ir) ir) ir) (by decide) (@ah _ _ _ (@ah _ _ _ (@ah _ _ _ (@ah _ _ _ (@ah _ _ _ (@ah _ _ _ (@ah _ _ _ (@ah _ _ _ (@ah _ _ _ (@ah _ _ _ (@ah _ _ _ (@ah _ _ _ (@ah _ _ _ (ah (ah (ah len0))))))))))))))))) cz) (@af _ _ _ _ _ _ _ (@aI _ _ _ 2 _ _ _ _ _ _ rfl (by decide) (@aF _ _ _ _ _ _ _ _ _ (aC rfl) (al jk (ac (ab 0 rfl rfl rfl)) ae) cz) cz) (@af _ _ _ _ _ _ _ (@aW _ _ _ _ _ _ (@cQ _ _ _ _ _ _ _ (@aa _ _ _ _ _ _ _ _ (ac (ab 2 rfl rfl rfl)) (@aa _ _ _ _ _ _ _ _ (@al _ _ _ _ _ _ _ _ _ _ _ cm (ac (ab 2 rfl rfl rfl)) (@aJ _ _ _ _ _ _ _ _ _ _ _ rfl mV rfl Ez (@aa _ _ _ _ _ _ _ _ (@aF _ _ _ _ _ _ _ _ _ (ac (ab 1 rfl rfl rfl)) (@al _ _ _ _ _ _ _ _ _ _ _ jk (al nF (ac (ab 0 rfl rfl rfl)) ae) ae) cz) ag ir) ir (ca _ _))) (@aa _ _ _ _ _ _ _ _ (@aF _ _ _ _ _ _ _ _ _ (@cQ _ _ _ _ _ _ _ (@aa _ _ _ _ _ _ _ _ (aC rfl) (@aa _ _ _ _ _ _ _ _ (aC rfl) (@aa _ _ _ _ _ _ _ _ (aC rfl) (@aa _ _ _ _ _ _ _ _ (aC rfl) (@aa _ _ _ _ _ _ _ _ (aC rfl) (aa (aC rfl) (aa (aC rfl) ag ir) ir) ir) ir) ir) ir) ir) (by decide) (@ah _ _ _ (@ah _ _ _ (@ah _ _ _ (@ah _ _ _ (ah (ah (ah len0)))))))) (@al _ _ _ _ _ _ _ _ _ _ _ jk (al nF (ac (ab 0 rfl rfl rfl)) ae) ae) cz) ag ir) ir) ir) (by decide) (ah (ah (ah len0))))) ai)))⟩
section
variable{P:Pk}{n:Nat}{K:Cx}{lo:Bool}
noncomputable def chn(MD ME:V->V->Option Bool)(f Ap yd:ao->Option V):ao->Option Bool:=fun ρ=>(f ρ).bind fun x=>(Ap ρ).bind fun y=>(MD x y).bind fun b=>if b then(yd ρ).bind fun z=>ME y z else some false
theorem vm{l Qp Qq:Expr}{JF JG:CmpOp}{pos:Pos}{MD ME f Ap yd}(Ue:jh P JF MD)(Uf:jh P JG ME)(hl:em P n K true l f)(h1:em P n K true Qp Ap)(h2:em P n K true Qq yd)(hm:lastMarks [JF,JG] [Qp,Qq]=false):
  se P n K (.Compare l [JF,JG] [Qp,Qq] pos) (chn MD ME f Ap yd):=fun A env out hid m B s ρ b E rm S hf=>by
 obtain⟨x,hx,hf⟩:=kG.mp hf;obtain⟨y,hy,hf⟩:=kG.mp hf;obtain⟨c,hc,hf⟩:=kG.mp hf;refine isTrue_chain (aD (hl A env out hid m B s ρ x E rm S hx) (fun u s₁ C2=>?_) fun ø ø q=>q) hm;refine test_link (aD (h1 A env out hid m B s₁ ρ y E rm (S.after C2.1) hy) (fun v s₂ Ao=>?_) fun ø ø q=>q);have dI:=(S.after C2.1).after Ao.1;refine aD (Ue A s₂ out x y c u v E (rm.less (eK _)) dI.G (dI.Ek true) (C2.2.kp Ao.1) Ao.2 hc) (fun w s₃ C3=>?_) fun ø ø q=>q
 rw[C3.2];refine mH ?_
 cases c with
 |false=>
  simp only[kC,gX]at hf ⊢;cases hf;exact⟨C2.1.trans (Ao.1.trans C3.1),rfl⟩
 |true=>
  simp only[jL]at hf ⊢;obtain⟨z,hz,hf⟩:=kG.mp hf;have rr:=dI.after C3.1;refine test_last (aD (h2 A env out hid m B s₃ ρ z E rm rr hz) (fun w' j8 MF=>?_) fun ø ø q=>q);have ru:=rr.after MF.1;refine aD (Uf A j8 out y z b v w' E (rm.less (eK _)) ru.G (ru.Ek true) (Ao.2.kp (C3.1.trans MF.1)) MF.2 hf) (fun w'' rn Ug=>?_) fun ø ø q=>q
  rw[Ug.2];exact mH ⟨C2.1.trans (Ao.1.trans (C3.1.trans (MF.1.trans Ug.1))),rfl⟩
end
section
variable{P:Pk}{n:Nat}{K:Cx}{lo:Bool}
noncomputable def E4(P:Pk)(n:Nat)(K:Cx)(es:List Expr)(f:ao->Option Bool):Prop:=
 ∀(A:Around) (env:Env) (out hid:List Addr) (m:Str->Option Value) (B s:Shared) (ρ:ao) (b:Bool) (E:Value->Shared->Prop),cJ n A->aU P K env out hid m B s ρ->f ρ=some b->
  wpAny (model P.prog P.w) A (allTrue .And es env) (fun c s'=>Kp s s'/\c=b) E s
theorem E4.nil:E4 P n K [] fun ø=>some true:=fun A env out hid m B s ρ b E rm S hf=>wpAny_allTrue_And_nil ⟨.refl s,Option.some.inj hf⟩
theorem E4.cons{a:Expr}{es:List Expr}{f g}(ha:se P n K a f)(hs:E4 P n K es g):E4 P n K (a::es) (on f g):=fun A env out hid m B s ρ b E rm S hf=>by
 refine ak hf fun x hx hf=>Ci (aD (ha A env out hid m B s ρ x E rm S hx) (fun x' s₁ aj=>?_) fun ø ø q=>q)
 rw[aj.2]
 induction x with
 |false=>exact⟨aj.1,Option.some.inj hf⟩
 |true=>exact aD (hs A env out hid m B s₁ ρ b E rm (S.after aj.1) hf) (fun c s₂ q=>⟨aj.1.trans q.1,q.2⟩) fun ø ø q=>q
theorem se.all{es:List Expr}{pos:Pos}{f}(h:E4 P n K es f):se P n K (.BoolOp .And es pos) f:=fun A env out hid m B s ρ b E rm S hf=>Ch (h A env out hid m B s ρ b E rm S hf)
theorem MG{K:Cx}{ts:List Expr}{p p':Pos}{k k':Nat}{es:List Expr}{names:List Str}(h:(!(ts.length==2||ts.length==3))=true):
  ∀env:Env,(∀(i:Nat) x kd b,K.vars[i]?=some (x,kd,b)->env.kindOf x=some kd)->env.scope.kind= .function->swappedStores [.Tuple ts k p] (.Tuple es k' p') env=pure none\/swappedStores [.Tuple ts k p] (.Tuple es k' p') env=pure (some names):=fun env hk hf=>
 .inl ((RD.2 ..).trans (aw (by rw[h];rfl)))
theorem MH{K:Cx}{i j:Nat}{x y:Str}{b:Bool}{p1 p2 p p':Pos}{k k':Nat}{es:List Expr}{names:List Str}(hj:K.vars[i]?=some (x,.cell,b))(h1:es.any star=false):
  ∀env:Env,(∀(i:Nat) x kd b,K.vars[i]?=some (x,kd,b)->env.kindOf x=some kd)->env.scope.kind= .function->swappedStores [.Tuple [.Name x p1,.Name y p2] k p] (.Tuple es k' p') env=pure none\/swappedStores [.Tuple [.Name x p1,.Name y p2] k p] (.Tuple es k' p') env=pure (some names):=fun env hk hf=>.inl (by
 have e1:vc env [.Name x p1,.Name y p2] (.Name x p1)=none:=by
  show(if(env.kindOf x==some .local&&p1.line==p1.line)=true then some x else none)=none;rw[hk i x _ _ hj];rfl
 cases e2:vc env [.Name x p1,.Name y p2] (.Name y p2)with
 |none=>exact EV ((Cy e1).trans (Cy e2)) rfl
 |some a=>exact EV ((Cy e1).trans (q9 e2)) rfl)
end
section
variable{P:Pk}{n:Nat}{K K':Cx}{lo:Bool}
noncomputable def tabIn(I:List Nat->Bool):V->Option V
 | .str l=>some (.bool (I l))
 |_=>none
set_option tactic.hygienic true in
theorem RG{l:Expr}{id:Str}{p pos:Pos}{a:Addr}{I:List Nat->Bool}{f}(hx:K.aV.contains id=true)(hv:P.glob id=some (.ref a))(hd:(id==("__debug__":Str))=false)(ls:(a==sysModules)=false)
  (hG:∀h,P.G h->∃g:Str->Option Value,h.MapOf (PySem.strKind P.prog P.w) a g/\∀l,I l=(g (pyStr l)).isSome) (hl:em P n K true l f) (hm:behindInMarks .In (.Name id p)=false):
  em P n K lo (.Compare l [.In] [.Name id p] pos) (fun ρ=>(f ρ).bind (tabIn I)):=fun A env out hid m B s ρ z E rm S hf=>by
 obtain⟨x,zS,hf⟩:=kG.mp hf;unfold tabIn at hf;split at hf
 ·rename_i k
  cases hf;refine wpAny_Compare1 (aD (hl A env out hid m B s ρ _ E rm S zS) (fun u s₁ aj=>?_) fun ø ø q=>q) hm;have bC:=S.after aj.1;refine bH bC hx hv hd ?_;obtain⟨t,rfl⟩:=aj.2.str_inv;obtain⟨g,hM,hI⟩:=hG _ bC.G;refine wpAny_in_of (strKind_is P.prog P.w (pyStr k) t) ls hM ⟨aj.1.trans (Kp.toks s₁ _),?_⟩;rw[<-hI];exact .ofBool _
 ·cases hf
set_option tactic.hygienic true in
theorem Gh{l:Expr}{id:Str}{p pos:Pos}{a:Addr}{I:List Nat->Bool}{f}(hx:K.aV.contains id=true)(hv:P.glob id=some (.ref a))(hd:(id==("__debug__":Str))=false)(ls:(a==sysModules)=false)
  (hG:∀h,P.G h->∃g:Str->Option Value,h.MapOf (PySem.strKind P.prog P.w) a g/\∀l,I l=(g (pyStr l)).isSome) (hl:em P n K true l f) (hm:behindInMarks .In (.Name id p)=false):
  se P n K (.Compare l [.In] [.Name id p] pos) (fun ρ=>(f ρ).bind fun x=>(tabIn I x).bind pt):=fun A env out hid m B s ρ b E rm S hf=>by
 obtain⟨x,zS,hf⟩:=kG.mp hf;unfold tabIn at hf;split at hf
 ·rename_i k
  cases hf;refine tm (aD (hl A env out hid m B s ρ _ E rm S zS) (fun u s₁ aj=>?_) fun ø ø q=>q) hm;have bC:=S.after aj.1;refine bH bC hx hv hd ?_;obtain⟨t,rfl⟩:=aj.2.str_inv;obtain⟨g,hM,hI⟩:=hG _ bC.G;refine wpAny_in_of (strKind_is P.prog P.w (pyStr k) t) ls hM ?_;rw[<-hI];exact mH ⟨aj.1.trans (Kp.toks s₁ _),rfl⟩
 ·cases hf
end
section
variable{P:Pk}{n:Nat}{K K':Cx}{lo:Bool}
noncomputable def vn:V->List V->Option V
 | .str l,[]=>some (.bool (l.all (· <128)))
 |_,_=>none
set_option tactic.hygienic true in
theorem Dw:HR P "isascii" vn:=fun s hid y v xs r G hv hF=>by
 unfold vn at hF;split at hF
 ·rename_i l
  cases hF;obtain⟨t,rfl⟩:=hv.str_inv;refine⟨"str","str.isascii",Cs,PySem.F.slot_str_isascii,PySem.F.type_str_isascii,qU _ _ _,(fun ø e=>nomatch e),fun A s₁ vs E rm HU live t9 hx=>?_⟩;obtain rfl:=bd.nil_inv hx;refine PySem.call_gives PySem.F.slot_str_isascii (qU _ _ _) PySem.F.entry_str_isascii (PySem.F.args_str_isascii_1 _) (gives_str_isascii (pyStr l) t) ?_;refine⟨Kp.refl s₁,?_⟩;rw[show((pyStr l).cps.all fun x=>decide (x<128))=l.all (fun x=>decide (x<128))from List.all_toArray ..];exact .ofBool _
 ·cases hF
theorem Bt{h:Heap}{hid:List Addr}:∀{l:List V} {is:List Int} {ws:List Value},hV l=some is->bd P h hid l ws->IntsAre ws is
 |[],is,ws,h1,h2=>by
  cases h1;obtain rfl:=bd.nil_inv h2;exact .nil
 |y::l,is,ws,h1,h2=>by
  obtain⟨k,LM,rfl,h',rfl⟩:=oj h1;obtain⟨v,r,rfl,h3,h4⟩:=bd.cons_inv h2;obtain⟨t,rfl⟩:=h3.int_inv;exact .cons k t (Bt h' h4)
noncomputable def zm:V->List V->Option V
 | .list l,[.int k]=>(hV l).map fun is=>.int (is.count k:Nat)
 |_,_=>none
set_option tactic.hygienic true in
theorem JH:HR P "count" zm:=fun s hid y v xs r G hv hF=>by
 unfold zm at hF;split at hF
 ·rename_i l k
  obtain⟨is,LN,rfl⟩:=np.mp hF;obtain⟨a,ws,rfl,ha,ht,hd⟩:=hv.cK;refine⟨"list","list.count",Ck,PySem.F.slot_list_count,PySem.F.type_list_count,ht.isList.typeIs,?_,fun A s₁ vs E rm HU live t9 hx=>?_⟩
  ·intro b e
   cases e;obtain⟨m,q⟩:=ht;exact⟨_,q,rfl⟩
  ·obtain⟨a',OG,e,X8,ht',lu⟩:=t9.cK
   cases e;obtain⟨u,rfl,hu⟩:=yg hx;obtain⟨t,rfl⟩:=hu.int_inv;exact count_list_ints ht'.isList (Bt LN lu) ⟨Kp.toks s₁ _,.ofInt _ _⟩
 ·cases hF
end
section
variable{P:Pk}{n:Nat}{K:Cx}{lo:Bool}
theorem rl.keys{A:Around}(hh:A.handled=none){I d:Addr}(cZ:d≠I){ks:List Int}{oU:List (Int×Value)}{ep:Nat}(hl:oU.map (·.1)=ks):
  rl P A I [I] none (ks.map .int) (fun hid i s=>(s.heap.IsKeyIter I d i oU.length ep/\s.heap.DictAt (intKind P.prog P.w) d oU ep)/\True/\(∀b∈[I,d],b≠I->b∉hid/\∃o,s.heap.get? b=some o)/\I∈hid):=by
 have W:=Walks.dictKeys (prog:=P.prog) (w:=P.w) (knd:=intKind P.prog P.w) hh I d cZ oU ep;have e:oU.length=(ks.map V.int).length:=by rw[List.length_map,<-hl,List.length_map]
 have W':Walks P.prog P.w A I [I,d] [I] (ks.map V.int).length (fun i v=>∃k x,oU[i]?=some (k,x)/\(intKind P.prog P.w).is k v=true) (fun i h=>h.IsKeyIter I d i oU.length ep/\h.DictAt (intKind P.prog P.w) d oU ep):=by
  rw[<-e];exact W
 refine rl.of W' (fun hid s=>True) (fun ø ø ø ø ø ø ø=>trivial) (fun ø ø ø ø ø ø ø=>trivial) (fun hid i x v s ø hx hv=>?_) fun i h st=>?_
 ·obtain⟨k,u,hk,hi⟩:=hv
  obtain⟨t,rfl⟩:=Value.isInt_shape hi;rw[dh,<-hl,dh,hk]at hx;cases hx;exact .ofInt _ _
 ·obtain⟨⟨o,ho,hc,_⟩,_⟩:=st
  exact⟨o,"dict_keyiterator",ho,hc,by decide⟩
noncomputable def JI:V->Option (List V)
 | .dict ks _=>some (ks.map .int)
 |_=>none
set_option tactic.hygienic true in
theorem Dx{e:Expr}{f}(h:em P n K false e f):Lr P n K e (fun ρ=>(f ρ).bind JI):=fun A env out hid m B s ρ xs E rm S hf=>by
 obtain⟨x,hx,hf⟩:=kG.mp hf;refine aD (h A env out hid m B s ρ x E rm S hx) (fun v s₁ aj=>?_) fun ø ø q=>q
 have bC:=S.after aj.1;have jn:s.heap.get? s₁.heap.objs.size=none:=by
  cases e:s.heap.get? s₁.heap.objs.size with
  |none=>rfl
  |some o=>have:=aj.1.keep _ _ e;rw[bE]at this;cases this
 cases x<;>simp only[JI]at hf<;>try cases hf
 rename_i ks l;obtain⟨a,ws,rfl,ha,hlen,ls,ht,hd⟩:=aj.2.kO;obtain⟨o,es,ep,q1,q2,q3,q4,q5,q6⟩:=ht;have kR:s₁.heap.DictAt (intKind P.prog P.w) a (ks.zip ws) ep:=⟨o,es,q1,q2,q3,q4,q5,q6⟩;have cZ:a≠s₁.heap.objs.size:=fun e=>by rw[e,bE]at q1;cases q1
 have Yj:(ks.zip ws).map (·.1)=ks:=List.map_fst_zip (by omega);refine wpAny_pyIter_dict ls kR ?_;refine⟨s₁.heap.objs.size,[s₁.heap.objs.size],none,_,rfl,aj.1.trans (Kp.push s₁ _ _),rl.keys (ep:=ep) rm.handled cZ Yj,fun b hb=>?_,fun b hb=>?_,fun g q=>(nomatch q),?_⟩
 ·obtain rfl:b=s₁.heap.objs.size:=by simpa using hb
  exact jn
 ·obtain rfl:b=s₁.heap.objs.size:=by simpa using hb
  exact⟨_,bJ _ rfl⟩
 ·refine⟨⟨⟨_,bJ _ rfl,rfl,rfl⟩,kR.at' fun o e=>bz _ e⟩,trivial,fun b hb zR=>?_,by simp⟩
  have:b=a:=by
   rcases bI.mp hb with q|q
   ·exact absurd q zR
   ·simpa using q
  subst this;exact⟨fun q=>(bZ.mp q).elim (fun w=>zR (by simpa using w)) ha,_,bz _ q1⟩
end
section
section
variable{prog:Program}{w:World}{A:Around}{I:Addr}{fp wr:List Addr}{G:Array GenState->Array GenState->Prop}{n:Nat}{Pp:Nat->Value->Prop}{St:Nat->Shared->Prop}
noncomputable abbrev rV(xs:Array Value)(c:Nat):Obj:={cls:=.type "list",dict:=none,data:=.seq xs c,slots:= #[]}
theorem JJ{R:Result->Shared->Prop}(W:WalksS prog w A.in1 I fp wr G n Pp St){S:Addr}(VX:S∉fp)(res:Value)(pre:Array Value)(hn:pre.size+n<=sizeLine):
  ∀(k i:Nat) (s:Shared) (acc:Array Value) (c:Nat),n-i=k->i<=n->St i s->s.heap.get? S=some (rV (pre++acc) c)->ItemsOf Pp acc i->
  (∀s' eN c',Moved (S::wr) G s s'->s'.heap.get? S=some (rV (pre++eN) c')->ItemsOf Pp eN n->R (.ok (.ret res)) s')->
  codeAny (model prog w) A (.builtin "list.extend.loop" ⟨[.ref S,.ref I,res],[]⟩) R s:=by
 have hSw:S∉wr:=fun h=>VX (W.sub _ h)
 have JK:∀b∈wr,b∈S::wr:=fun b hb=>ge _ hb
 intro k
 induction k with
 |zero=>
  intro i s acc c hk hi iS hS iC hR;obtain rfl:i=n:=by omega
  refine xR xS ?_;rw[xT lO _];show wpAny _ A.in1 (pyNext (.ref I)>>= _) _ _ s;exact aA (W.done s _ _ iS fun s' hm=>bK (hR s' acc c (hm.mono JK) (hm.heap S _ hSw hS) iC))
 |succ k ih=>
  intro i s acc c hk hi iS hS iC hR;have eu:i<n:=by omega
  have sh:(pre++acc).size=pre.size+i:=by rw[Array.size_append,iC.1]
  refine xR xS ?_;rw[xT lO _];show wpAny _ A.in1 (pyNext (.ref I)>>= _) _ _ s;refine aA (W.item i s _ _ eu iS fun v s' hP Yk hm=>?_);have RH:=hm.heap S _ hSw hS;have Uh:(pre++acc).push v=pre++acc.push v:=by simp
  show wpAny _ A.in1 (updateSeq S (·.push v)>>= _) _ _ _;refine aA (nC RH rfl (bK ⟨tN lO _,ih (i+1) _ (acc.push v) _ (by omega) eu (W.frame _ s' _ s'.toks Yk (bL _) fun b hb o e=>?_) ((kJ _ RH rfl).trans (by rw[<-Uh];rfl)) (iC.push hP) fun gZ eN c' Yl Ym JL=>?_⟩)
   (by rw[sh];omega) (by show((pre++acc).push v).size<=sizeLine+1;rw[tO,sh];omega))
  ·exact(j4 _ _ (fun h:S=b=>VX (by rw[h];exact hb))).trans e
  ·refine hR gZ eN c' (Moved.trans W.gtrans ((hm.mono JK).then_heap (by first|exact bL _|exact kH _|omega) fun b o hb e=>?_) Yl) Ym JL
   exact(j4 _ _ (fun h:S=b=>hb (by rw[h];exact gI))).trans e
theorem zn{s:Shared}{R:Result->Shared->Prop}{r:Addr}{a b c:Int}{t u v:Tok}{k:Nat}(hh:A.handled=none)(hr:IsRange s.heap r a b c t u v)(ls:Builtin.Range.small a b c=true)(hk:(k:Int)=Builtin.Range.rangeSize a b c)(hl:k<=2^24)(S:Addr)(res:Value)(pre:Array Value)(c₀:Nat)(hn:pre.size+k<sizeLine)
  (hS:s.heap.get? S=some (rV pre c₀))
  (hR:∀h' tk eN c',(∀b o,b≠S->s.heap.get? b=some o->h'.get? b=some o)->h'.get? S=some (rV (pre++eN) c')->ItemsOf (fun i v=>∃t,v= .int (a+i*c) t) eN k->R (.ok (.ret res)) {s with heap:=h',toks:=tk}):
  wpAny (model prog w) A.in1 (Builtin.List.listExtendWith (.ref S) (.ref r) res)
   (fun fin s'=>match fin with| .done f=>R (.ok f) s'| .again c'=>c'.quiet=true/\codeAny (model prog w) A c' R s') (fun e s'=>R (.error e) s') s:=by
 have hSr:S≠r:=fun e=>by rw[e,hr]at hS;simp at hS
 have Ui:S≠s.heap.objs.size:=nf (ew hS);have VX:S∉[s.heap.objs.size]:=fun hm=>Ui (cq.mp hm)
 have W:=(Walks.range (prog:=prog) (w:=w) (A:=A.in1) hh s.heap.objs.size a c k).toS;have key:∀(h:Heap) (c₁ tk:Nat),IsRangeIter h s.heap.objs.size (a+((0:Nat):Int)*c) ((k:Int)-((0:Nat):Int)) c->(∀b o,b≠S->s.heap.get? b=some o->h.get? b=some o)->
   h.get? S=some (rV pre c₁)->codeAny (model prog w) A (.builtin "list.extend.loop" ⟨[.ref S,.ref s.heap.objs.size,res],[]⟩) R {s with heap:=h,toks:=tk}:=by
  intro h c₁ tk hit JM Bu;refine JJ W VX res pre (dU hn) k 0 _ #[] c₁ rfl (eK _) hit (by rw[Array.append_empty];exact Bu) (ItemsOf.nil _) fun s' eN c' hm RH iC=>?_
  rw[Moved.eq_with hm];refine hR s'.heap s'.toks eN c' (fun b o hb e=>hm.heap b o (fun ou=>?_) (JM b o hb e)) RH iC;exact(bI.mp ou).elim hb fun ou=>absurd (ew e) (by rw[cq.mp ou];exact gv _)
 unfold Builtin.List.listExtendWith;refine aA (wpAny_typeOf (T:="range") ⟨_,hr,rfl⟩ ?_);have h1:Builtin.List.listSameRef (.ref S) (.ref r)=false:=by simp[Builtin.List.listSameRef,hSr]
 have h2:(Value.type "range"==Value.type "list")=false:=by decide
 have h3:(Value.type "range"==Value.type "tuple")=false:=by decide
 simp only[h1,h2,h3,Bool.or_false,kC,gX];refine aA (Cn hr ls ?_);refine aA (gH (wpAny_hint_range (n:=k) (bz _ hr) hk.symm hl ?_));have rA:IsRangeIter (s.heap.push {cls:=.type "range_iterator",data:=.fields #[rawInt a,rawInt (Builtin.Range.rangeSize a b c),rawInt c]}) s.heap.objs.size (a+((0:Nat):Int)*c) ((k:Int)-((0:Nat):Int)) c:=by
  show IsRangeIter _ _ _ _ _;rw[<-hk];simpa using bJ _ rfl
 have Bu:=bz {cls:=.type "range_iterator",data:=.fields #[rawInt a,rawInt (Builtin.Range.rangeSize a b c),rawInt c]} hS;have hz:pre.size<=sizeLine:=az (fO _ _) (dU hn);refine wpAny_ite_split (fun RC=>?_) (fun ø=>bK ⟨tN lO _,key _ c₀ _ rA (fun b o ø e=>bz _ e) Bu⟩);refine aA (qY ?_);refine aA ?_;show wpAny _ _ (updateSeq S (·.push .none)>>= fun ø=>updateSeq S (·.pop)) _ _ _;refine aA (nC Bu rfl ?_ hz (by show(pre.push Value.none).size<=_;rw[tO];omega));have vo:=kJ (Obj.mapSeq (·.push Value.none)) Bu rfl;have WK:pre.size+1<=sizeLine:=fq (fO _ _) hn;refine nC vo rfl ?_ (by show(pre.push Value.none).size<=_;rw[tO];exact WK) (by show((pre.push Value.none).pop).size<=_;rw[Array.pop_push];omega);have JN:=kJ (Obj.mapSeq (·.pop)) vo rfl;refine bK ⟨tN lO _,key _ _ _ ?_ (fun b o hb e=>?_) (JN.trans (by show some (rV ((pre.push Value.none).pop) _)=_;rw[Array.pop_push]))⟩
 ·exact(j4 _ _ Ui).trans ((j4 _ _ Ui).trans rA)
 ·exact(j4 _ _ (ft hb)).trans ((j4 _ _ (ft hb)).trans (bz _ e))
end
variable{P:Pk}{n:Nat}{K:Cx}{lo:Bool}
theorem Dy{h:Heap}{hid:List Addr}{a c:Int}{k:Nat}{acc:Array Value}(e:ItemsOf (fun i v=>∃t,v=Value.int (a+i*c) t) acc k):bd P h hid ((List.range k).map fun(i:Nat)=>V.int (a+(i:Int)*c)) acc.toList:=by
 have go:∀(vs:List Value) (j:Nat),(∀(i:Nat) (v:Value),vs[i]?=some v->∃t,v=Value.int (a+((j+i:Nat):Int)*c) t)->bd P h hid ((List.range' j vs.length).map fun(i:Nat)=>V.int (a+(i:Int)*c)) vs:=by
  intro vs
  induction vs with
  |nil=>exact fun ø ø=>.nil
  |cons v vs ih=>
   intro j hv;obtain⟨t,et⟩:=hv 0 v rfl;rw[et];exact .cons (Dn.ofInt (P:=P) _ _) (ih (j+1) fun i v q=>by rw[Nat.add_right_comm];exact hv (i+1) v q)
 have:=go acc.toList 0 fun i v q=>by rw[gg];exact e.2 i v (by rw[<-Array.getElem?_toList];exact q)
 rw[Array.length_toList,e.1]at this;rwa[List.range_eq_range']
noncomputable def Qr(i:Nat)(g:ao->Option (List V)):ao->Option (ao×V):=fun ρ=>(ρ i).bind fun y=>y.gm.bind fun l=>(g ρ).bind fun xs=>(nJ xs).bind fun r=>if l.length+r.length<=most then some (upd ρ i (.list (l++r)),.none)else none
set_option tactic.hygienic true in
theorem Dz(i:Nat){x:Str}{k:NameKind}{p apos rp Qs pos:Pos}{name:Str}{es:List Expr}{g}(hi:K.vars[i]?=some (x,k,true))(hd:(x==("__debug__":Str))=false)(hc:(x==("__classdict__":Str))=false)(Uj:name=Str.ofString "extend")
  (hx:K.aV.contains "range"=true) (hv:P.glob "range"=some (.type "range")) (hs:j7 P n K false es g) (iS:∀env,starEach es env=es.map fun e=>(false,eval e env)) (cZ:es≠[])
  (pU:(apos.endLine==pos.line)=true) (pV:∀env,attributeBase (.Name x p) name env (eval (.Name x p) env)=eval (.Name x p) env):
  R8 P n K (.Call (.Attribute (.Name x p) name apos) [.Call (.Name "range" rp) es [] Qs] [] pos) (Qr i g):=fun A env out hid m B s ρ aQ z E rm S hf=>by
 refine ak hf fun y hy hf=>ak hf fun l hl hf=>ak hf fun xs x7 hf=>ak hf fun r hr hf=>eR hf fun hlen e=>?_
 obtain⟨e1,e2⟩:=mG e;rw[V.eO hl]at hy;have ee:(backTo pos (starEach [.Call (.Name "range" rp) es [] Qs] env)).any (·.1)=false:=ct fun ø=>rfl
 refine xB (pV env) (nI ee (show 1<20 by decide)) pU ?_;refine fM (S.load hi hy hd hc fun v Fx kR=>?_) hd;rw[aw rfl]at Fx;obtain⟨a,ws,ev,h1,h2,h3,h4,h5⟩:=eP.cK Fx;rw[ev,Uj];rw[ev]at kR;refine⟨"list","list.extend",Ck,Cz,PySem.F.type_list_extend,h4.isList.typeIs,fun b e=>?_,tq ee ?_⟩
 ·obtain⟨k,q⟩:=h4
  exact⟨_,Value.ref.inj e▸q,rfl⟩
 refine bW ee (m7 ?_);refine kF (bH S hx hv (by decide) ?_);refine ph (ct iS) ?_;refine bW (ct iS) (aD (hs A env out hid m B s ρ xs E Qs rm S x7) (fun vs s₁ aj=>?_) fun ø ø q=>q);refine pW (vs:=[]++vs) aj.2 hr fun a' b c t u v' k s₂ el hk ls hra kp=>nk ?_
 have kk:=aj.1.trans kp;have dI:=S.after kk;obtain⟨c0,q4⟩:=id h4;have ka:=kk.keep a _ q4;have hlk:r.length=k:=by rw[el,List.length_map,eM]
 have hm:=cR;have Mi:ws.toArray.size=l.length:=(cb ..).trans h5.length;have Yn:k<=2^24:=az (hlk▸az (tP _ _) hlen) (by decide);refine wpAny_call (codeAny_call_builtin Cz.plain PySem.F.entry_list_extend (Cz.check _ _ _ _ _ _ _ _ ⟨_,ka,rfl⟩ (PySem.F.args_list_extend_2 _ _) ?_));show wpAny _ _ (Builtin.List.listExtendWith (.ref a) (.ref s₁.heap.objs.size) .none) _ _ _;refine zn (R:=wants (fun v s'=>Vg P K env out hid B s s' aQ z v) E) rm.handled hra ls hk Yn a .none ws.toArray c0 (fq (by rw[Mi,<-hlk];exact hlen) (show most<sizeLine by rw[jM];decide)) ka fun h' tk eN c' JM RH iC=>?_
 have keep:∀b o,b∉hid->s.heap.get? b=some o->h'.get? b=some o:=fun b o hb e=>JM b o (fun z=>hb (z▸h1)) (kk.keep b o e)
 have bx:eP P env.locals h' out hid (.list (l++r)) (.ref a):=eP.ofList (vs:=ws++eN.toList) h1 h2 h3 ⟨c',by rw[RH];simp⟩ ((bd.grow (P:=P) h5 keep fun ø q=>.inl q).app (el▸Dy iC));obtain⟨z1,z2⟩:=dI.mut (s':={s₂ with heap:=h',toks:=tk}) hi (kR.grow (fun c v q=>q.keeps kk.keep) fun ø q=>q) hy (eP.grow (P:=P) (ev▸Fx) kk.keep (fun ø q=>q) fun ø q=>.inl q) JM (.refl _) rfl bx;rw[<-e1,<-e2];exact⟨hid,m,z1,(Ks.iI kk).trans z2,.t8⟩
theorem Gi{i:Nat}{g:ao->Option (List V)}:∀ρ r,Qr i g ρ=some r->r.2= .none:=fun ρ r hf=>
 ak hf fun y hy hf=>ak hf fun l hl hf=>ak hf fun xs x7 hf=>ak hf fun r' hr hf=>eR hf fun hlen e=>e▸rfl
theorem Yo:jh P .In Ro:=fun A s hid x y b u v E rm G hh hx hy hf=>Em rm hx hy hf false
theorem Dn.MI{h:Heap}{hid:List Addr}{x:V}{v:Value}(d:Dn P h hid x v)(hs:x.scalar=true):∀a,v≠ .ref a:=by
 intro a e;rw[e]at d;cases x<;>first|(cases hs;done)|(obtain⟨_,q⟩:=d.int_inv;cases q;done)|(obtain⟨_,q⟩:=d.str_inv;cases q;done)|(have q:=d.none_inv;cases q;done)|(have q:=d.bool_inv;cases q;done)|cases d
theorem Bv{e:Expr}{pos:Pos}{f}(h:R8 P n K e f)(hs:∀env,swapsWith e none pos.line env=pure false):zQ P n K (.Expr e pos) (fun ρ=>(f ρ).bind fun r=>if r.2.scalar=true then some (r.1,.next)else none):=fun A env out hid m B s ρ aQ fl E r S hf=>by
 refine ak hf fun q hq hf=>eR hf fun Wu e=>?_
 obtain⟨e1,e2⟩:=mG e;obtain⟨am,x⟩:=q;refine wpAny_Expr (aD (h A env out hid m B s ρ am x E r S hq) (fun v s₁ q=>?_) fun ø ø q=>q) ?_ (hs env)
 ·obtain⟨ar,m',S',K',hv⟩:=q
  have nr:=hv.MI Wu;have fin:Hc P K env out hid B s s₁ aQ fl .next:=e1▸e2▸⟨ar,m',S',K',rfl⟩
  cases v with
  |ref a=>exact absurd rfl (nr a)
  |_=>exact fin
 ·unfold interactive;rw[S.fn];rfl
end
noncomputable def km:Cx:={vars:=[(Ha,.local,false),(Lg,.local,false),(Ot,.cell,false),(⟨#[98,97,115,101,115]⟩,.cell,false),(⟨#[117,110,115,101,101,110]⟩,.local,false),(⟨#[115,105,103,110,115]⟩,.local,true)],aV:=[R0,v7,we,Rj]}
noncomputable def rW:Cx:={vars:=[(Wl,.local,false),(⟨#[98,97,115,101,115]⟩,.cell,false),(Ot,.cell,false)],aV:=[Rj,Wm]}
noncomputable def fT{P:Pk}{n:Nat}(iD:P.glob R0=some (.type "list"))(aX:P.glob v7=some (.type "range"))(cA:P.glob we=some (.builtin "len"))(mV:P.glob Rj=some (.builtin "chr"))(vp:P.glob Wm=some (.builtin "ord")):{f:ao->Option (ao×Fl)//oo P n km (dW (aO pq.main.body 63)) f}:=⟨_,(@af _ _ _ _ _ _ _ (@aI _ _ _ 3 _ _ _ _ _ _ rfl (by decide) (@cQ _ _ _ _ _ _ _ (@aa _ _ _ _ _ _ _ _ ae (@aa _ _ _ _ _ _ _ _ ae (@aa _ _ _ _ _ _ _ _ ae (@aa _ _ _ _ _ _ _ _ ae (@aa _ _ _ _ _ _ _ _ ae (@aa _ _ _ _ _ _ _ _ ae (@aa _ _ _ _ _ _ _ _ ae (@aa _ _ _ _ _ _ _ _ ae (@aa _ _ _ _ _ _ _ _ ae (@aa _ _ _ _ _ _ _ _ ae (aa ae (aa ae ag ir) ir) ir) ir) ir) ir) ir) ir) ir) ir) ir) ir) (by decide) (@ah _ _ _ (@ah _ _ _ (@ah _ _ _ (@ah _ _ _ (@ah _ _ _ (@ah _ _ _ (@ah _ _ _ (@ah _ _ _ (@ah _ _ _ (ah (ah (ah len0))))))))))))) cz) (@af _ _ _ _ _ _ _ (@aI _ _ _ 4 _ _ _ _ _ _ rfl (by decide) (@al _ _ _ _ _ _ _ _ _ _ _ cm (@cQ _ _ _ _ _ _ _ (@aa _ _ _ _ _ _ _ _ ae (@aa _ _ _ _ _ _ _ _ ae (@aa _ _ _ _ _ _ _ _ ae (@aa _ _ _ _ _ _ _ _ ae (@aa _ _ _ _ _ _ _ _ ae (@aa _ _ _ _ _ _ _ _ ae (@aa _ _ _ _ _ _ _ _ ae (@aa _ _ _ _ _ _ _ _ ae (@aa _ _ _ _ _ _ _ _ ae (aa ae (aa ae ag ir) ir) ir) ir) ir) ir) ir) ir) ir) ir) ir) (by decide) (@ah _ _ _ (@ah _ _ _ (@ah _ _ _ (@ah _ _ _ (@ah _ _ _ (@ah _ _ _ (@ah _ _ _ (@ah _ _ _ (ah (ah (ah len0)))))))))))) (@fQ _ _ _ _ _ _ (@sL _ _ _ _ _ _ _ _ _ rfl aX rfl iD (aa ae (aa ae ag ir) ir) ir ir))) cz) (@af _ _ _ _ _ _ _ (@gO _ _ _ (rW) 5 _ _ _ _ _ _ _ _ _ _ _ _ _ _ (1) ([3,2]) rfl (dH (ab 0 rfl rfl rfl)) (cu (by decide+kernel)) (aB 0 rfl (by decide) (by decide)) eY (@iZ _ _ _ _ _ _ _ _ _ _ _ (vm Hp Hp (aC rfl) (ac (ab 0 rfl rfl rfl)) (aC rfl) rfl) (@aJ _ _ _ _ _ _ _ _ _ _ _ rfl mV rfl Ez (@aa _ _ _ _ _ _ _ _ (@al _ _ _ _ _ _ _ _ _ _ _ El (@al _ _ _ _ _ _ _ _ _ _ _ cm (@aF _ _ _ _ _ _ _ _ _ (ab 1 rfl rfl rfl) (@al _ _ _ _ _ _ _ _ _ _ _ jk (al nF (ac (ab 2 rfl rfl rfl)) ae) ae) cz) (aJ rfl vp rfl HO (aa (ab 0 rfl rfl rfl) ag ir) ir (ca _ _))) ae) ag ir) ir (ca _ _)) (ab 0 rfl rfl rfl)) cz rfl rfl) (@af _ _ _ _ _ _ _ (@aN _ _ _ _ _ _ _ _ _ _ (@se.all _ _ _ _ _ _ (@E4.cons _ _ _ _ _ _ _ (@ay _ _ _ _ _ _ _ _ _ _ R6 (@aJ _ _ _ _ _ _ _ _ _ _ _ rfl cA rfl jq (aa (ac (ab 0 rfl rfl rfl)) ag ir) ir (ca _ _)) ae rfl) (@E4.cons _ _ _ _ _ _ _ (@iY _ _ _ _ _ (hZ (ac (ab 0 rfl rfl rfl)) Dw ag ir (by decide) rfl ir) cz) (@E4.cons _ _ _ _ _ _ _ (@ay _ _ _ _ _ _ _ _ _ _ fi (@al _ _ _ _ _ _ _ _ _ _ _ jk (al nF (ac (ab 2 rfl rfl rfl)) ae) ae) ae rfl) E4.nil)))) (@af _ _ _ _ _ _ _ (@fV _ _ _ 5 _ _ _ _ _ _ rfl (by decide) (@fm _ _ _ _ _ _ (@aa _ _ _ _ _ _ _ _ (@aJ _ _ _ _ _ _ _ _ _ _ _ rfl mV rfl Ez (@aa _ _ _ _ _ _ _ _ (@al _ _ _ _ _ _ _ _ _ _ _ cm ae (al jk (al nF (ab 1 rfl rfl rfl) ae) ae)) ag ir) ir (ca _ _)) ag ir) (by decide) (ah len0)) cz) ai) ai) (@af _ _ _ _ _ _ _ (@aN _ _ _ _ _ _ _ _ _ _ (@ay _ _ _ _ _ _ _ _ _ _ wf (@al _ _ _ _ _ _ _ _ _ _ _ jk (al nF (ac (ab 2 rfl rfl rfl)) ae) ae) ae rfl) (@af _ _ _ _ _ _ _ (@eG _ _ _ _ _ _ (@eF _ _ _ 5 _ _ _ _ _ _ _ _ _ rfl rfl rfl Sc (@aa _ _ _ _ _ _ _ _ ae (@aa _ _ _ _ _ _ _ _ (@aJ _ _ _ _ _ _ _ _ _ _ _ rfl mV rfl Ez (@aa _ _ _ _ _ _ _ _ (@aF _ _ _ _ _ _ _ _ _ (ab 4 rfl rfl rfl) (@al _ _ _ _ _ _ _ _ _ _ _ jk (al nF (ac (ab 2 rfl rfl rfl)) ae) ae) cz) ag ir) ir (ca _ _)) ag ir) ir) ir (by decide) rfl ir) Ji ir) ai) ai) (@af _ _ _ _ _ _ _ (@aW _ _ _ _ _ _ (hZ (aC rfl) EE (aa (dc 5 rfl rfl rfl) ag ir) ir (by decide) rfl ir)) ai))))))⟩
noncomputable def jD:List Int:=[97,65,119808,119860,119912,120016,120172,120224,120276,120328,120380,120432]
noncomputable def fY:List Int:=[172,174,846,848,6149,6151,6154,6158,8202,8206,8287,8289,65023,65040,65278,65280]
noncomputable def gT:List Int:=[173,847,6150,6155,6156,6157,8203,8204,8205,8288,65279]++(List.range 16).map fun(i:Nat)=>(65024+i:Int)
noncomputable def qs:List (List Nat):=[[102,102],[102,105],[102,108],[102,102,105],[102,102,108],[115,116],[115,116]]
theorem E5{c:Int}(h0:0<=c)(h1:c<200000):FN [.int c]=some (.str [c.toNat]):=by
 rw[OW];rw[aw (by omega)]
noncomputable def n0:List Nat:=[40,41,34,92,43,45,42,47,124,38,60,62,61,46,37,126,94,64,44,58,59,33]
structure CM where
 f:Nat->List Nat
 base:∀b∈jD,∀i:Nat,i<26->f (b.toNat+i)=[97+i]
 edge:∀e∈fY,f e.toNat=[e.toNat]
 unseen:∀u∈gT,f u.toNat=[]
 sign:∀c∈n0,f c=[c]
 lig:∀j:Nat,j<7->f (64256+j)=qs[j]?.getD []
noncomputable def MJ(c:Nat):Bool:=c != 92&&c != 34&&c != 40&&c != 41&&decide ((lY [c]).length<10)
noncomputable def aH(w:Nat)(total:Int):List Nat:=if w=0 then [(97+total % 26).toNat]else if w=1 then [(97+total % 26).toNat,(fY[(total/26 % 16).toNat]?.getD 0).toNat]else qs[(total/416 % 7).toNat]?.getD []
structure bV(M:CM)(N l:List Nat):Prop where
 ne:l≠[]
 len:l.length<=4
 ok:l.all MJ=true
 map:(l.map M.f).flatten=N
theorem MK:(jD.all fun b=>(List.range 26).all fun i=>MJ (b.toNat+i))=true:=by decide+kernel
theorem ML:(fY.all fun b=>MJ b.toNat)=true:=by decide+kernel
theorem Gj:(gT.all fun b=>MJ b.toNat)=true:=by decide+kernel
theorem Qt:((List.range 7).all fun b=>MJ (64256+b))=true:=by decide+kernel
theorem DA:((jD++fY++gT).all fun b=>decide (0<=b)&&decide (b<130000))=true:=by decide+kernel
noncomputable abbrev N6(l:List Nat):V:=.list (l.map fun c=>.str [c])
theorem vq{l:List Nat}(h:l.length<=4):EC (.str []) [N6 l]=some (.str l):=by
 have e:(l.map fun c=>V.str [c])=(l.map fun c=>[c]).map .str:=by rw[iH];rfl
 have e2:∀l:List Nat,(l.map fun c=>[c]).flatten=l:=fun l=>by
  induction l with
  |nil=>rfl
  |cons x l ih=>rw[bB,eQ,ih];rfl
 rw[N6,e,ED,rT,eA,aw (joinOk_of [] _ (by rw[e2,gx,pn];exact az h (by decide))),rS,e2]
theorem MM(a u:Nat){r:List Nat}(h:(a::r).length<=4):Lq (N6 (a::r)) [.int 1,.str [u]]=some (N6 (a::u::r),.none):=by
 have e:min (1:Int).toNat ((a::r).map fun c=>V.str [c]).length=1:=Nat.min_eq_left (by rw[bB,cr];exact fP (eK _));rw[N6,OL,aw ⟨by decide,by decide,by rw[List.length_map];exact fq h (by decide)⟩,e];rfl
theorem bV.ins{M:CM}{N:List Nat}{a:Nat}{r:List Nat}(h:bV M N (a::r))(h3:(a::r).length<=3){u:Int}(hu:u∈gT):bV M N (a::u.toNat::r):=by
 obtain⟨_,_,ok,map⟩:=h;refine⟨ca _ _,fP h3,?_,?_⟩
 ·rw[tQ]at ok ⊢
  rw[tQ,cH.mp Gj u hu];exact ok
 ·rw[bB,bB,M.unseen u hu]
  exact map
theorem zo{b:Int}(h:b∈jD++fY++gT){i:Int}(h0:0<=i)(h1:i<26):FN [.int (b+i)]=some (.str [(b+i).toNat])/\(b+i).toNat=b.toNat+i.toNat:=by
 obtain⟨h2,h3⟩:=(bX _ _).mp (cH.mp DA b h);have h2:=cV h2;have h3:=cV h3;exact⟨E5 (Int.add_nonneg h2 h0) (by omega),Int.toNat_add h2 h0⟩
theorem MN{b:Int}(hb:b∈jD){i:Nat}(hi:i<26):MJ (b.toNat+i)=true:=cH.mp (cH.mp MK b hb) i (ea.mpr hi)
theorem E6:(qs.all fun l=>decide (l≠[])&&decide (l.length<=3)&&l.all fun c=>decide (97<=c)&&decide (c<123))=true:=by decide+kernel
theorem Gl{P:Pk}{n:Nat}{g1}{total:Int}{ρ:ao}(h0:ρ 0=some (.int total)):
  Ends (io (P:=P) (n:=n) g1).1 ρ (.list [.str (aH 0 total),.str (aH 1 total),.str (aH 2 total)]):=by
 obtain⟨e,he,Yp,hite⟩:=int_at (xs:=fY) (i:=total/26 % 16) (by omega) (show _<(16:Int) by omega) (by decide);have hce:=zo (b:=e) (i:=0) (cP _ (ck _ he)) (by decide) (by decide);rw[Int.add_zero]at hce;obtain⟨a,ha,RI⟩:∃a:Nat,a<26/\total % 26=a:=⟨(total % 26).toNat,by omega,by omega⟩;obtain⟨j,hj,DB⟩:∃j:Nat,j<7/\total/416 % 7=j:=⟨(total/416 % 7).toNat,by omega,by omega⟩;obtain⟨lg,N7⟩:=get_mem (l:=qs) hj;have K5:iJ (.str ((List.range 26).map (97+ ·))) (.int (total % 26))=some (.str [97+a]):=by
  rw[RI,Ex,aw (by rw[List.length_map,eM];decide),List.length_map,eM,tc ha,eA,dh,Co ha];rfl
 have e0:aH 0 total=[97+a]:=by rw[aH,aw rfl,RI];exact congrArg (fun z=>[z]) (by omega)
 have e1:aH 1 total=[97+a]++[e.toNat]:=by rw[aH,au (by decide),aw rfl,Yp,RI];exact congrArg (fun z=>[z,e.toNat]) (by omega)
 have e2:aH 2 total=lg:=by rw[aH,au (by decide),au (by decide),DB,lL,N7];rfl
 unfold io;dsimp only;rw[e0,e1,e2];refine ex1 ρ h0 fun σ=>dk (v:=_) (x:=.list (fY.map .int)) (by exact rfl) (dk (bF (x:=.str ((List.range 26).map (97+ ·))) rfl (md rfl rfl) K5) (df (cB (ap rfl (ap (bT rfl (bY (bF rfl (md (dv rfl rfl) rfl) hite) hce.1) (fo _ _ (show 2<=most by decide))) (ap (bF (x:=.list (qs.map .str)) rfl (md (dv rfl rfl) rfl) ?_) rfl))) rfl)))
 rw[DB];exact im (by rw[dh,N7];rfl) (by decide)
structure DC(N:List Nat):Prop where
 ne:N≠[]
 len:N.length<=3
 sg:∀c∈N,(97<=c/\c-97<26)\/(¬(97<=c/\c<=122)/\∃e∈fY,c=e.toNat)
theorem JO:(fY.all fun e=>decide (172<=e)&&decide (e<130000))=true:=by decide+kernel
theorem Bw{e:Int}(h:e∈fY):172<=e.toNat:=by
 have:=cV ((bX _ _).mp (cH.mp JO e h)).1;omega
theorem iT{w:Nat}(hw:w<3)(total:Int):DC (aH w total)/\(w=1->∃c∈aH w total,128<=c)/\(w=0->(aH w total).length=1):=by
 obtain⟨a,ha,RI⟩:∃a:Nat,a<26/\(97+total % 26).toNat=97+a:=⟨(total % 26).toNat,by omega,by omega⟩;obtain⟨e,he,Yp,_⟩:=int_at (xs:=fY) (i:=total/26 % 16) (by omega) (show _<(16:Int) by omega) (by decide);obtain⟨j,hj,DB⟩:∃j:Nat,j<7/\total/416 % 7=j:=⟨(total/416 % 7).toNat,by omega,by omega⟩;obtain⟨lg,N7⟩:=get_mem (l:=qs) hj;have hb:=Bw he
 match w,hw with
 |0,_=>
  rw[aH,aw rfl,RI];exact⟨⟨ca _ _,(by decide:1<=3),fun c hc=>.inl (by rw[cq.mp hc];omega)⟩,nofun,fun ø=>rfl⟩
 |1,_=>
  rw[aH,au (by decide),aw rfl,RI,Yp];refine⟨⟨ca _ _,(by decide:2<=3),fun c hc=>?_⟩,fun ø=>⟨e.toNat,.tail _ (.head _),az (by decide) hb⟩,nofun⟩;rcases bI.mp hc with rfl|hc
  ·exact .inl (by omega)
  ·rw[cq.mp hc]
   exact .inr ⟨fun z=>gv _ (fu (fq z.2 (by decide:122<172)) hb),e,he,rfl⟩
 |2,_=>
  rw[aH,au (by decide),au (by decide),DB,lL,N7];have hl:=cH.mp E6 lg (oO N7);obtain⟨lS,X7⟩:=(bX _ _).mp hl;obtain⟨CQ,Gm⟩:=(bX _ _).mp lS;refine⟨⟨cV CQ,cV Gm,fun c hc=>.inl ?_⟩,nofun,nofun⟩;obtain⟨h1,h2⟩:=(bX _ _).mp (cH.mp X7 c hc);have h1:=cV h1;have h2:=cV h2;omega
noncomputable def JP(b:Int)(c:Nat):Nat:=if 97<=c/\c<=122 then b.toNat+(c-97)else c
theorem DD{M:CM}{N:List Nat}{b:Int}(hb:b∈jD)(h:DC N):bV M N (N.map (JP b)):=by
 have key:∀c∈N,MJ (JP b c)=true/\M.f (JP b c)=[c]:=fun c hc=>by
  rcases h.sg c hc with q|⟨q,e,he,rfl⟩
  ·rw[JP,aw (by omega)]
   exact⟨MN hb q.2,(M.base b hb _ q.2).trans (by rw[rc q.1])⟩
  ·rw[JP,au q]
   exact⟨cH.mp ML e he,M.edge e he⟩
 refine⟨fun z=>h.ne (CB.mp z),by rw[List.length_map];exact ez h.len,cH.mpr fun c hc=>?_,?_⟩
 ·obtain⟨z,hz,rfl⟩:=dt.mp hc
  exact(key z hz).1
 ·rw[iH]
  have go:∀l:List Nat,(∀c∈l,M.f (JP b c)=[c])->(l.map (M.f∘JP b)).flatten=l:=fun l=>by
   induction l with
   |nil=>exact fun ø=>rfl
   |cons c l ih=>
    intro hl;rw[bB,eQ,ih fun x hx=>hl x (.tail _ hx),Function.comp_apply,hl c (.head _)];rfl
  exact go N fun c hc=>(key c hc).2
theorem JQ{M:CM}{total:Int}{j:Nat}(hj:j<7)(e:total/416 % 7=j):bV M (aH 2 total) [64256+j]:=by
 refine⟨ca _ _,(show 1<=4 by decide),by rw[tQ,cH.mp Qt j (ea.mpr hj)];rfl,?_⟩;rw[aH,au (by decide),au (by decide),e,bB,M.lig j hj,pk,gJ,lL]
inductive Yq(M:CM)(N:List Nat)(draw:Int)(ρ:ao):Prop
 |mk (l:List Nat) (h2:ρ 2=some (.int draw)) (h4:ρ 4=some (.list (gT.map .int))) (h5:ρ 5=some (N6 l)) (h3:l.length<=3) (hg:bV M N l)
theorem zp(a b:Nat):Va (.str [a]) (.str [b])=some (decide (a<=b)):=by
 show some (!decide ([b]<[a]))=_;refine congrArg some ?_;have:([b]<[a])<->b<a:=by
  refine⟨fun h=>?_,fun h=>.rel h⟩
  cases h with
  |rel h=>exact h
  |cons h=>cases h
 rw[ly,Bool.not_eq_true',tr,nj,this];exact gY
theorem Bx{P:Pk}{n:Nat}{g1 g2 g3 g4 g5}{M:CM}{w:Nat}(hw:w<3){total draw:Int}(hd:0<=draw){ρ:ao}(h0:ρ 0=some (.str (aH w total)))(h1:ρ 1=some (.int total))(h2:ρ 2=some (.int draw)):
  rQ (fT (P:=P) (n:=n) g1 g2 g3 g4 g5).1 ρ fun v=>∃l,bV M (aH w total) l/\v= .str l:=by
 obtain⟨b,hb,_,hitb⟩:=int_at (xs:=jD) (i:=draw/7 % 12) (by omega) (show _<(12:Int) by omega) (by decide);obtain⟨u,hu,_,hitu⟩:=int_at (xs:=gT) (i:=draw/84 % 27) (by omega) (show _<(27:Int) by omega) (by decide);have hmb:b∈jD++fY++gT:=cP _ (cP _ hb);have hcu:=zo (b:=u) (i:=0) (ck _ hu) (by decide) (by decide);rw[Int.add_zero]at hcu;obtain⟨j,hj,DB⟩:∃j:Nat,j<7/\total/416 % 7=j:=⟨(total/416 % 7).toNat,by omega,by omega⟩;obtain⟨hN,hN1,hN0⟩:=iT hw total;have hNm:(aH w total).length<=most:=az hN.len (by decide);unfold fT;dsimp only;refine ex3 ρ h0 h1 h2 fun σ=>?_
 refine jC (v:=.list (jD.map .int)) (by exact rfl) (jC (v:=.list (gT.map .int)) (by exact rfl) (jC (v:=N6 ((aH w total).map (JP b))) ?_ (sv (Yq M (aH w total) draw) ?_ fun am hR=>?_)))
 ·rw[N6,iH]
  refine gn (fun ρ=>ρ 1=some (.list (jD.map .int))/\ρ 2=some (.int draw)) (aH w total) (fun c=>.str [c]) ((fun c=>V.str [c])∘JP b) (cN rfl rfl) (fq hN.len (by decide)) (fun c hc ρ hI=>ex2 ρ hI.1 hI.2 fun σ=>⟨_,rfl,⟨rfl,rfl⟩,?_⟩) ⟨rfl,rfl⟩;rw[Function.comp_apply];by_cases q:97<=c/\c<=122
  ·have hz:b+(c:Int)-97=b+((c-97:Nat):Int):=by omega
   obtain⟨c2,c3⟩:=zo (i:=((c-97:Nat):Int)) hmb (by omega) (by omega);rw[c3,lL]at c2;rw[JP,aw q];exact mZ (cN rfl (cN rfl (cN (zp 97 c) ((aw (bo q.1)).trans (cN rfl ((zp c 122).trans (congrArg some (bo q.2)))))))) (bY (bT (ad (bF rfl (md (dv rfl rfl) rfl) hitb) (bY rfl rfl)) rfl rfl) (Eq.trans (congrArg (fun z=>FN [.int z]) hz) c2))
  ·rw[JP,au q]
   refine ik (cN rfl (cN rfl (cN (zp 97 c) ?_))) rfl;by_cases q1:97<=c
   ·exact(aw (bo q1)).trans (cN rfl ((zp c 122).trans (congrArg some (db fun z=>q ⟨q1,z⟩))))
   ·exact au fun z=>q1 (cV z)
 ·have hc:∀aQ:ao,aQ 0=some (.str (aH w total))->aQ 2=some (.int draw)->(on (eU Wv (ji uk (cW (fun ρ=>ρ 0) fun x=>some [])) fun x=>some (V.int 1)) (on (fun ρ=>(Rt vn (fun ρ=>ρ 0) (fun x=>some []) ρ).bind pt) (on (eU m6 (iR CJ (iR Li (fun ρ=>ρ 2) fun x=>some (V.int 2268)) fun x=>some (V.int 2)) fun x=>some (V.int 1)) fun x=>some true)) aQ)=some (decide (1<((aH w total).length:Int))&&((aH w total).all (· <128)&&(decide (draw/2268 % 2=1)&&true))):=fun aQ z0 z2=>
   gB (aG (bY z0 (ml _ hNm)) rfl rfl) (gB (cN (Ju z0 rfl rfl) rfl) (gB (aG (md (dv z2 rfl) rfl) rfl (bU _ _)) rfl))
  cases hq:decide (1<((aH w total).length:Int))&&((aH w total).all (· <128)&&(decide (draw/2268 % 2=1)&&true))with
  |true=>
   have hw2:w=2:=by
    simp only[bX,mI]at hq;obtain⟨q1,q2,_⟩:=hq
    match w,hw with
    |0,_=>rw[hN0 rfl]at q1;omega
    |1,_=>
     obtain⟨c,hc,RJ⟩:=hN1 rfl;have:=cH.mp q2 c hc;have:=cV this;omega
    |2,_=>rfl
   subst hw2;exact⟨_,mZ ((hc _ rfl rfl).trans (congrArg some hq)) (mm (cB (ap (bY (ad rfl (md (dv rfl rfl) rfl)) (Eq.trans (congrArg (fun z=>FN [.int (64256+z)]) DB) (E5 (c:=((64256+j:Nat):Int)) (by omega) (by omega)))) rfl) rfl) rfl),rfl,Yq.mk [64256+j] rfl rfl rfl (show 1<=3 by decide) (JQ hj DB)⟩
  |false=>exact⟨_,ik ((hc _ rfl rfl).trans (congrArg some hq)) rfl,rfl,Yq.mk _ rfl rfl rfl (by rw[List.length_map];exact hN.len) (DD hb hN)⟩
 ·obtain⟨l,h2,h4,h5,h3,hg⟩:=hR
  refine ex3 am h2 h4 h5 fun σ=>?_
  by_cases q:draw/4536 % 3=0
  ·exact jB (ik (aG (md (dv rfl rfl) rfl) rfl (RE q)) rfl) (rR (Ju rfl rfl (vq hg.len)) ⟨l,hg,rfl⟩)
  ·obtain⟨a,r,rfl⟩:=xA hg.ne
   exact jB (mZ (aG (md (dv rfl rfl) rfl) rfl (neT q)) (Ge rfl (ap rfl (ap (bY (bF rfl (md (dv rfl rfl) rfl) hitu) hcu.1) rfl)) (MM a u.toNat hg.len) rfl)) (rR (Ju rfl rfl (vq (hg.ins h3 hu).len)) ⟨_,hg.ins h3 hu,rfl⟩)
noncomputable def La:List (Int×Str)->Nat->Option (List Nat)
 |[],_=>none
 |p::r,c=>if p.1=(c:Int)then some p.2.cps.toList else La r c
theorem Qu(c:Nat):La [] c=none:=rfl
theorem Qv(p:Int×Str)(r:List (Int×Str))(c:Nat):La (p::r) c=if p.1=(c:Int)then some p.2.cps.toList else La r c:=rfl
theorem By(c:Nat):∀ps:List (Int×Str),pY (ps.map (·.1)) ((ps.map fun p=>p.2.cps.toList).map .str) (c:Int)=(La ps c).map .str
 |[]=>rfl
 |p::r=>by
  simp only[bB,sV,Eu,Ew,Qu,Qv,By c r];split<;>rfl
noncomputable def Lb(c:Nat):List Nat:=if(c:Int)∈T7 then []else(La EM c).getD (lY [c])
theorem MO:(jD.all fun b=>(List.range 26).all fun i=>Lb (b.toNat+i)==[97+i])=true:=by kernel_rfl
theorem MP:(fY.all fun e=>Lb e.toNat==[e.toNat])=true:=by kernel_rfl
theorem Gn:(gT.all fun e=>Lb e.toNat==[])=true:=by kernel_rfl
theorem MQ:(n0.all fun c=>Lb c==[c])=true:=by kernel_rfl
theorem Qw:((List.range 7).all fun j=>Lb (64256+j)==qs[j]?.getD [])=true:=by kernel_rfl
noncomputable def DE:Cx:={vars:=[(K3,.local,false),(Lg,.local,false),(RX,.local,false),(RY,.local,false),(Rh,.local,false),(Ot,.local,false),(Y2,.local,false)],aV:=[KW,G8]}
noncomputable def pE{P:Pk}{n:Nat}{gC:Addr}{n4:List V->Option V}(vr:P.glob KW=some (.ref gC))(vt:∀h,P.G h->∃o fd,h.get? gC=some o/\o.data= .func fd)(vu:aZ P n (.ref gC) n4){da:Addr}{gD:List V->Option V}(mn:P.glob G8=some (.ref da))(mq:∀h,P.G h->∃o fd,h.get? da=some o/\o.data= .func fd)(mr:aZ P n (.ref da) gD):{f:ao->Option (ao×Fl)//oo P n DE (dW (aO pq.main.body 64)) f}:=⟨_,(@af _ _ _ _ _ _ _ (aI 2 rfl (by decide) (aC rfl) cz) (@af _ _ _ _ _ _ _ (@dB _ _ _ (false) _ _ _ _ _ _ _ (dH (ab 0 rfl rfl rfl)) (@fk _ _ _ _ _ _ _ (@bh _ _ _ _ _ _ _ (aB 3 rfl (by decide) (by decide)) (bh (aB 4 rfl (by decide) (by decide)) (bh (aB 5 rfl (by decide) (by decide)) eH))) (bA (bA (bA fj))) ir) (@af _ _ _ _ _ _ _ (@aI _ _ _ 6 _ _ _ _ _ _ rfl (by decide) (@aF _ _ _ _ _ _ _ _ _ (@cQ _ _ _ _ _ _ _ (@aa _ _ _ _ _ _ _ _ (aC rfl) (@aa _ _ _ _ _ _ _ _ (aC rfl) (@aa _ _ _ _ _ _ _ _ (aC rfl) (@aa _ _ _ _ _ _ _ _ (aC rfl) (@aa _ _ _ _ _ _ _ _ (aC rfl) (aa (aC rfl) (aa (aC rfl) ag ir) ir) ir) ir) ir) ir) ir) (by decide) (@ah _ _ _ (@ah _ _ _ (@ah _ _ _ (@ah _ _ _ (ah (ah (ah len0)))))))) (al jk (ac (ab 5 rfl rfl rfl)) ae) cz) cz) (@af _ _ _ _ _ _ _ (@aN _ _ _ _ _ _ _ _ _ _ (ay fi (ac (ab 3 rfl rfl rfl)) ae rfl) (@af _ _ _ _ _ _ _ (cS 2 rfl (by decide) rfl rfl gQ (al cm (ab 6 rfl rfl rfl) (aC rfl))) ai) (@af _ _ _ _ _ _ _ (@aN _ _ _ _ _ _ _ _ _ _ (@gk _ _ _ _ _ _ _ _ (ay wf (ac (ab 2 rfl rfl rfl)) (aC rfl) rfl) (@ay _ _ _ _ _ _ _ _ _ _ wf (@e6 _ _ _ _ _ _ _ _ _ _ _ _ _ _ (ac (ab 2 rfl rfl rfl)) (eZ (FP ae)) cF cF) (aC rfl) rfl)) (@af _ _ _ _ _ _ _ (@cS _ _ _ 2 _ _ _ _ _ _ _ _ rfl (by decide) rfl rfl gQ (@aF _ _ _ _ _ _ _ _ _ (aC rfl) (@al _ _ _ _ _ _ _ _ _ _ _ jk (al nF (ac (ab 5 rfl rfl rfl)) ae) ae) cz)) ai) ai) (@af _ _ _ _ _ _ _ (@cS _ _ _ 2 _ _ _ _ _ _ _ _ rfl (by decide) rfl rfl gQ (@al _ _ _ _ _ _ _ _ _ _ _ cm (@al _ _ _ _ _ _ _ _ _ _ _ cm (ab 6 rfl rfl rfl) (@bM _ _ _ _ _ _ _ _ _ _ _ rfl vr rfl vt vu (@aa _ _ _ _ _ _ _ _ (@aF _ _ _ _ _ _ _ _ _ (bM rfl mn rfl mq mr (aa (ab 1 rfl rfl rfl) ag ir) ir (ca _ _)) (ac (ab 4 rfl rfl rfl)) cz) (aa (ab 1 rfl rfl rfl) (aa (ab 5 rfl rfl rfl) ag ir) ir) ir) ir (ca _ _))) (@iZ _ _ _ _ _ _ _ _ _ _ _ (ay fi (ac (ab 3 rfl rfl rfl)) ae rfl) (aC rfl) (aC rfl)))) ai))) ai)) cz) (@af _ _ _ _ _ _ _ (aW (ac (ab 2 rfl rfl rfl))) ai)))⟩
noncomputable def sN:List (List (List Nat)):=[[],[[92,40]],[[34],[41],[34]],[[34],[92,34],[41],[34]],[[92,34]],[[92,92]],[[34],[40],[34]]]
noncomputable def E7:List (List (List Nat)):=[[],[[92,40]],[],[],[[92,34]],[[92,92]],[]]
noncomputable def qt(draw:Int):List (List Nat):=sN[(draw % 7).toNat]?.getD []
noncomputable def pF(draw:Int):List (List Nat):=E7[(draw % 7).toNat]?.getD []
theorem DF{draw:Int}:iJ (.list (sN.map fun u=>V.str u.flatten)) (.int (draw % 7))=some (.str (qt draw).flatten):=by
 obtain⟨j,DB⟩:=qW (Int.emod_nonneg draw (show(7:Int)≠0 by decide));have hj:j<sN.length:=jR.mp (DB▸Int.emod_lt_of_pos draw (by decide));have e:(sN.map fun u=>V.str u.flatten)[j]?=some (.str (qt draw).flatten):=by
  unfold qt;rw[DB,dh];show _=some (V.str (sN[j]?.getD []).flatten);rw[iG hj];rfl
 exact DB▸im e (by decide)
noncomputable def zq:List Nat:=[43,45,42,47,124,38,60,62,61,46,37,126,94,64,44,58,59,33]
noncomputable def jE(draw:Int):Nat:=zq[(draw/13608 % 18).toNat]?.getD 0
theorem E8{draw:Int}:iJ (.str zq) (.int (draw/13608 % 18))=some (.str [jE draw])/\jE draw∈zq:=by
 obtain⟨j,DB⟩:=qW (Int.emod_nonneg (draw/13608) (show(18:Int)≠0 by decide));have hj:j<zq.length:=jR.mp (DB▸Int.emod_lt_of_pos (draw/13608) (by decide));have e:zq[j]?=some (jE draw):=by
  unfold jE;rw[DB,lL,iG hj];rfl
 refine⟨?_,oO e⟩;rw[DB,Ex,aw (by decide),tc hj,eA,e];rfl
noncomputable def Yr(M:CM)(total:Int)(SP:Nat->Int->List Nat)(F:List V->Option V):Prop:=∀w d,w<3->0<=d->F [.str (aH w total),.int total,.int d]=some (.str (SP w d))/\bV M (aH w total) (SP w d)
noncomputable def Go(SP:Nat->Int->List Nat)(b:Bool)(e:Item):List (List Nat):=
 if e.1=2 then qt e.2.2++[[41]]else(if b then [[jE e.2.2]]else [])++(qt e.2.2++((SP e.2.1 e.2.2).map (fun c=>[c])++(if e.1=0 then [[40]]else [])))
noncomputable def JR(b:Bool)(its:List Item):Bool:=match its.getLast? with
 |none=>b
 |some e=>e.1 != 0
noncomputable def eC(SP:Nat->Int->List Nat):Bool->List Item->List (List Nat)
 |_,[]=>[]
 |b,e::r=>Go SP b e++eC SP (e.1 != 0) r
theorem vw(SP:Nat->Int->List Nat)(b:Bool):eC SP b []=[]:=rfl
theorem ll(SP:Nat->Int->List Nat)(b:Bool)(e:Item)(r:List Item):eC SP b (e::r)=Go SP b e++eC SP (e.1 != 0) r:=rfl
theorem vx(SP:Nat->Int->List Nat):∀(l:List Item) (b:Bool) (e:Item),eC SP b (l++[e])=eC SP b l++Go SP (JR b l) e
 |[],b,e=>by rw[gh,ll,vw,vw,dZ,gh];rfl
 |x::l,b,e=>by
  rw[List.cons_append,ll,vx SP l _ e,ll,List.append_assoc];have:JR (x.1 != 0) l=JR b (x::l):=by
   cases l with
   |nil=>rfl
   |cons y l=>unfold JR;rw[List.getLast?_cons_cons];cases h:(y::l).getLast?<;>simp at h ⊢
  rw[this]
theorem JS(b:Bool)(l:List Item)(e:Item):JR b (l++[e])=(e.1 != 0):=by
 unfold JR;rw[List.getLast?_concat]
theorem Bz:∀l:List Nat,(l.map fun c=>[c]).flatten=l
 |[]=>rfl
 |x::l=>by rw[bB,eQ,Bz l];rfl
theorem lt7{P:Nat->Prop}(h0:P 0)(h1:P 1)(h2:P 2)(h3:P 3)(h4:P 4)(h5:P 5)(h6:P 6):∀j,j<7->P j
 |0,_=>h0
 |1,_=>h1
 |2,_=>h2
 |3,_=>h3
 |4,_=>h4
 |5,_=>h5
 |6,_=>h6
 |n+7,h=>absurd h (gY.mpr (tP 7 n))
theorem N8(draw:Int):(draw % 7).toNat<7:=by omega
theorem ko(draw:Int):(∀u∈qt draw,wu u=true)/\(∀u∈pF draw,wu u=true/\u.length=2)/\(qt draw).flatten.length<=5/\(pF draw).length<=1/\(qt draw).length<=4:=
 (by decide:∀j,j<7->(∀u∈sN[j]?.getD [],wu u=true)/\(∀u∈E7[j]?.getD [],wu u=true/\u.length=2)/\(sN[j]?.getD []).flatten.length<=5/\(E7[j]?.getD []).length<=1/\(sN[j]?.getD []).length<=4) _ (N8 draw)
theorem MR{SP:Nat->Int->List Nat}{M:CM}{N:List Nat}{b:Bool}{e:Item}(h:bV M N (SP e.2.1 e.2.2)):(Go SP b e).flatten.length<=11/\(Go SP b e).length<=11:=by
 have h1:=(ko e.2.2).2.2;have h2:=h.len;unfold Go;split
 ·rw[bR,aY,aY]
  simp only[gJ,cr,gx];omega
 ·simp only[bR,aY,Bz,List.length_map]
  have e1:(if b=true then [[jE e.2.2]]else []).flatten.length<=1/\(if b=true then [[jE e.2.2]]else []).length<=1:=by split<;>exact⟨cV rfl,cV rfl⟩
  have e2:(if e.1=0 then [[40]]else([]:List (List Nat))).flatten.length<=1/\(if e.1=0 then [[40]]else([]:List (List Nat))).length<=1:=by split<;>exact⟨by decide,by decide⟩
  omega
theorem rX{SP:Nat->Int->List Nat}{M:CM}{total:Int}:∀{its:List Item} {b:Bool},(∀e∈its,bV M (aH e.2.1 total) (SP e.2.1 e.2.2))->(eC SP b its).flatten.length<=11*its.length/\(eC SP b its).length<=11*its.length
 |[],b,_=>⟨bL _,bL _⟩
 |e::r,b,h=>by
  have h1:=MR (b:=b) (h e (.head _));have h2:=rX (its:=r) (b:=e.1 != 0) fun x hx=>h x (.tail _ hx)
  rw[ll,bR,aY,aY,cr];omega
noncomputable def Uk(t:List Nat):Bool:=!(t==[])&&!(t.drop (t.length-1)==[40])
theorem Gp(t:List Nat)(x:Nat):(t++[x]).drop ((t++[x]).length-1)=[x]:=by
 rw[aY];show(t++[x]).drop (t.length+1-1)=_;rw[Nat.add_sub_cancel,List.drop_left]
theorem vy(t:List Nat)(x:Nat):Uk (t++[x])=(x != 40):=by
 unfold Uk;rw[Gp];have e1:(t++[x]==[])=false:=by cases t<;>rfl
 rw[e1];show(true&&!([x]==[40]))=_;rw[xI];by_cases q:x=40
 ·subst q;rfl
 ·have a1:([x]==[40])=false:=kI.mpr fun e=>q (tR e).1
  have a2:(x==40)=false:=kI.mpr q;rw[a1];show true=!(x==40);rw[a2];rfl
theorem Qx{SP:Nat->Int->List Nat}{M:CM}{N:List Nat}{b:Bool}{e:Item}(h:bV M N (SP e.2.1 e.2.2))(t:List Nat):Uk (t++(Go SP b e).flatten)=(e.1 != 0):=by
 unfold Go;split
 ·rename_i q
  rw[bR,<-List.append_assoc,gJ,vy,q];rfl
 ·rename_i q
  by_cases q0:e.1=0
  ·rw[aw q0,bR,bR,bR,<-List.append_assoc,<-List.append_assoc,<-List.append_assoc,gJ,vy,q0];rfl
  ·rw[au q0,dZ,bR,bR,Bz]
   have hs:=h.ne;rw[<-List.dropLast_concat_getLast hs,<-List.append_assoc,<-List.append_assoc,<-List.append_assoc,vy];have hk:=cH.mp h.ok _ (List.getLast_mem hs);simp only[MJ,bX]at hk;rw[hk.1.1.2];exact(oN.mpr q0).symm
theorem Gq(l:List Nat)(h:l.length<=most):kh (.str l) (some (-1)) none none=some (.str (l.drop (l.length-1))):=by
 rw[uh,aw h,vg];have e:clip (some (-1)) 0 l.length=l.length-1:=by
  show(max 0 (min (if(-1:Int)<0 then-1+(l.length:Int)else-1) l.length)).toNat=_;rw[aw (by decide)];omega
 rw[e];exact congrArg (fun z=>some (V.str z)) (qR (je nB))
theorem JT{P:Pk}{n:Nat}{a1 F1 g1 h1 c1 a2 F2 g2 h2 c2}{M:CM}{SP:Nat->Int->List Nat}{total:Int}{its:List Item}(hg:jU its)(ux:Yr M total SP F1)(NN:F2 [.int total]=some (.list [.str (aH 0 total),.str (aH 1 total),.str (aH 2 total)])){ρ:ao}(h0:ρ 0=some (.list (its.map Hf)))(Hh:ρ 1=some (.int total)):
  Ends (pE (P:=P) (n:=n) (gC:=a1) (n4:=F1) g1 h1 c1 (da:=a2) (gD:=F2) g2 h2 c2).1 ρ (.str (eC SP false its).flatten):=by
 have hgn:∀e∈its,bV M (aH e.2.1 total) (SP e.2.1 e.2.2):=fun e he=>(ux e.2.1 e.2.2 (hg.ok e he).2.1 (hg.ok e he).2.2.1).2
 unfold pE;dsimp only;refine bw rfl (eB (fun ρ=>(ρ 1=some (.int total)/\ρ 2=some (.str (eC SP false its).flatten))/\Uk (eC SP false its).flatten=JR false its) (eT (cN (f:=elems) h0 rfl) (qq Hf its (fun l ρ=>(ρ 1=some (.int total)/\ρ 2=some (.str (eC SP false l).flatten))/\Uk (eC SP false l).flatten=JR false l) (fun l u l' ρ hx hR=>?_) ⟨⟨Hh,rfl⟩,rfl⟩)) fun am hR=>df hR.1.2);have hu:u∈its:=hx▸ck _ gI;have Ul:l.length<its.length:=by rw[<-hx,aY];exact tL (jf _)
 have Dv:∀e∈l,e∈its:=fun e he=>hx▸cP _ he
 have hlen:=(rX (b:=false) fun e he=>hgn e (Dv e he)).1;have MS:l.length<=10:=tU (fu Ul hg.len);have ht:(eC SP false l).flatten.length<=110:=az hlen (jg 11 MS);have Cg:=hg.ok u hu;obtain⟨hF,hGN⟩:=ux u.2.1 u.2.2 Cg.2.1 Cg.2.2.1;have N9:=(ko u.2.2).2.2.1;have RK:=hGN.len;obtain⟨⟨g1',g2'⟩,hd⟩:=hR;have Ys:=Qx (b:=JR false l) hGN (eC SP false l).flatten;have hsn:(eC SP false (l++[u])).flatten=(eC SP false l).flatten++(Go SP (JR false l) u).flatten:=by rw[vx,bR]
 rw[hsn,Ys,JS];have K9:iJ (.list [.str (aH 0 total),.str (aH 1 total),.str (aH 2 total)]) (.int u.2.1)=some (.str (aH u.2.1 total)):=im (by
  match u.2.1,Cg.2.1 with
  |0,_=>rfl
  |1,_=>rfl
  |2,_=>rfl) (show 3<=most by decide)
 have EF:most=1000000:=rfl;obtain⟨op1,op2⟩:=E8 (draw:=u.2.2);generalize(eC SP false l).flatten=t at*;generalize JR false l=b at*;refine ex2 ρ g1' g2' fun σ=>⟨_,rfl,?_⟩
 unfold Go;by_cases q2:u.1=2
 ·rw[aw q2]
  refine⟨_,mm (bF (x:=.list (sN.map fun u=>V.str u.flatten)) rfl (md rfl rfl) DF) (cf (mZ (aG rfl rfl ((bU _ _).trans (congrArg some (bo (by rw[q2];rfl))))) (ow rfl (bT rfl rfl (fo _ _ (az (jO N9 1) (by decide)))) (fc _ _ ?_) rfl)) rfl),rfl,⟨rfl,?_⟩,rfl⟩
  ·rw[aY];exact az (kM ht (jO N9 1)) (by decide)
  ·exact congrArg (fun z=>some (V.str z)) (by rw[bR,gJ])
 ·rw[au q2]
  have ab2:CI (eU m6 (fun ρ=>ρ 3) fun x=>some (V.int 0)) (fun x=>some (V.str [40])) (fun x=>some (V.str []))=CI (eU m6 (fun ρ=>ρ 3) fun x=>some (V.int 0)) (fun x=>some (V.str [40])) (fun x=>some (V.str [])):=rfl;have hp:∀aQ:ao,aQ 3=some (.int u.1)->CI (eU m6 (fun ρ=>ρ 3) fun x=>some (V.int 0)) (fun x=>some (V.str [40])) (fun x=>some (V.str [])) aQ=some (.str (if u.1=0 then [[40]]else([]:List (List Nat))).flatten):=fun aQ h3=>by
   by_cases q:u.1=0
   ·rw[aw q];exact mZ (aG h3 rfl ((bU _ _).trans (congrArg some (bo (by rw[q];rfl))))) rfl
   ·rw[au q];exact ik (aG h3 rfl ((bU _ _).trans (congrArg some (db (by omega))))) rfl
  have Ab:(if u.1=0 then [[40]]else([]:List (List Nat))).flatten.length<=1:=by split<;>decide
  have c2:∀aQ:ao,aQ 3=some (.int u.1)->eU m6 (fun ρ=>ρ 3) (fun x=>some (V.int 2)) aQ=some false:=fun aQ h3=>aG h3 rfl ((bU _ _).trans (congrArg some (db (by omega))))
  have BA:∀aQ:ao,aQ 2=some (.str t)->on (eU Hb (fun ρ=>ρ 2) fun x=>some (V.str [])) (eU Hb (ui (fun ρ=>ρ 2) (fun ρ=>((some (V.int 1)).bind SB).bind An) (fun x=>some none) fun x=>some none) fun x=>some (V.str [40])) aQ=some b:=fun aQ h2=>
   (gB (aG h2 rfl (Jr _ _)) (aG (nW h2 rfl rfl rfl (Gq t (az ht (by decide)))) rfl (Jr _ _))).trans (congrArg some hd)
  cases b with
  |true=>
   refine⟨_,mm (bF (x:=.list (sN.map fun u=>V.str u.flatten)) rfl (md rfl rfl) DF) (cf (ik (c2 _ rfl) (cf (mZ (BA _ rfl) (ow rfl (bF (x:=.str zq) rfl (md (dv rfl rfl) rfl) op1) (fc _ _ ?_) rfl)) (ow rfl (bT (bT rfl (cN (ap (bF (bY rfl NN) rfl K9) (ap rfl (ap rfl rfl))) hF) (fo _ _ ?_)) (hp _ rfl) (fo _ _ ?_)) (fc _ _ ?_) rfl))) rfl),rfl,⟨rfl,?_⟩,rfl⟩
   ·exact az (jO ht 1) (by decide)
   ·exact az (kM N9 RK) (by decide)
   ·rw[aY];exact az (kM (kM N9 RK) Ab) (by decide)
   ·rw[aY,aY,aY];exact az (kM (jO ht 1) (kM (kM N9 RK) Ab)) (by decide)
   ·refine congrArg (fun z=>some (V.str z)) ?_
    rw[aw rfl,bR,bR,bR,Bz,gJ];simp only[List.append_assoc]
  |false=>
   refine⟨_,mm (bF (x:=.list (sN.map fun u=>V.str u.flatten)) rfl (md rfl rfl) DF) (cf (ik (c2 _ rfl) (cf (ik (BA _ rfl) rfl) (ow rfl (bT (bT rfl (cN (ap (bF (bY rfl NN) rfl K9) (ap rfl (ap rfl rfl))) hF) (fo _ _ ?_)) (hp _ rfl) (fo _ _ ?_)) (fc _ _ ?_) rfl))) rfl),rfl,⟨rfl,?_⟩,rfl⟩
   ·exact az (kM N9 RK) (by decide)
   ·rw[aY];exact az (kM (kM N9 RK) Ab) (by decide)
   ·rw[aY,aY];exact az (kM ht (kM (kM N9 RK) Ab)) (by decide)
   ·refine congrArg (fun z=>some (V.str z)) ?_
    rw[au (show ¬(false=true) by decide),gh,bR,bR,Bz];simp only[List.append_assoc]
noncomputable def qu:Cx:={vars:=[(RX,.local,false),(⟨#[108,101,102,116]⟩,.local,false),(G9,.local,true),(Ha,.local,false),(Wk,.local,false),(RZ,.local,false),(⟨#[117,110,105,116]⟩,.local,false),(Wl,.local,false)],aV:=[Eh,s9,we,s5,s8,U3]}
noncomputable def ms{P:Pk}{n:Nat}{aS:Addr}{bS:List V->Option V}(dy:P.glob Eh=some (.ref aS))(dz:∀h,P.G h->∃o fd,h.get? aS=some o/\o.data= .func fd)(dA:aZ P n (.ref aS) bS){aT:Addr}(cC:P.glob s9=some (.ref aT))(cg:Bh P aT)(cA:P.glob we=some (.builtin "len")){gU:Addr}{o7:List V->Option V}(wv:P.glob s5=some (.ref gU))(ww:∀h,P.G h->∃o fd,h.get? gU=some o/\o.data= .func fd)(wx:aZ P n (.ref gU) o7){gE:Addr}{n5:List V->Option V}(vz:P.glob s8=some (.ref gE))(vA:∀h,P.G h->∃o fd,h.get? gE=some o/\o.data= .func fd)(vB:aZ P n (.ref gE) n5){cX:Addr}{iK:List Nat->Option Int}(iL:P.glob U3=some (.ref cX))(oz:∀h,P.G h->∃f:Str->Option Value,h.MapOf (strKind P.prog P.w) cX f/\∀l k,iK l=some k->∃t,f (pyStr l)=some (.int k t)){iM:List Nat->Bool}(oA:(cX==sysModules)=false)(oB:∀h,P.G h->∃g:Str->Option Value,h.MapOf (PySem.strKind P.prog P.w) cX g/\∀l,iM l=(g (pyStr l)).isSome):{f:ao->Option (ao×Fl)//oo P n qu (dW (aO pq.main.body 65)) f}:=⟨_,(@af _ _ _ _ _ _ _ (@aI _ _ _ 1 _ _ _ _ _ _ rfl (by decide) (@bM _ _ _ _ _ _ _ _ _ _ _ rfl dy rfl dz dA (aa (al cm (ab 0 rfl rfl rfl) (aC rfl)) ag ir) ir (ca _ _)) cz) (@af _ _ _ _ _ _ _ (@gP _ _ _ ([(2,G9,.local,true),(3,Ha,.local,false),(4,Wk,.local,false)]) ([_,_,_]) _ _ _ _ _ _ _ ⟨by decide+kernel,by decide+kernel⟩ rfl (@fX.new _ _ _ _ _ _ _ _ (fm ag (by decide) len0) (fX.dat (aC rfl) (fX.dat (aC rfl) fX.nil ir) ir) ir) (by decide) (ah (ah (ah len0))) kg.len ir (N1 (K:=qu) (i:=2) (j:=3) (l:=4) rfl rfl rfl rfl rfl (by decide+kernel) rfl rfl rfl rfl)) (@af _ _ _ _ _ _ _ (@pB _ _ _ (false) _ _ _ _ _ _ _ (@nQ _ _ _ _ _ _ _ _ _ rfl cC rfl cg (aa (ac (ab 1 rfl rfl rfl)) ag ir) ir (ca _ _)) (@fk _ _ _ _ _ _ _ (bh (aB 5 rfl (by decide) (by decide)) (bh (aB 6 rfl (by decide) (by decide)) eH)) (bA (bA fj)) ir) (@af _ _ _ _ _ _ _ (cS 4 rfl (by decide) rfl rfl gQ (ab 6 rfl rfl rfl)) (@af _ _ _ _ _ _ _ (@aN _ _ _ _ _ _ _ _ _ _ (@ay _ _ _ _ _ _ _ _ _ _ wf (@aJ _ _ _ _ _ _ _ _ _ _ _ rfl cA rfl jq (aa (ac (ab 4 rfl rfl rfl)) ag ir) ir (ca _ _)) (al cm (ac (ab 5 rfl rfl rfl)) ae) rfl) (@af _ _ _ _ _ _ _ (aW (cQ ag (by decide) len0)) ai) ai) (@af _ _ _ _ _ _ _ (@aN _ _ _ _ _ _ _ _ _ _ (@gk _ _ _ _ _ _ _ _ (@ay _ _ _ _ _ _ _ _ _ _ fi (@aJ _ _ _ _ _ _ _ _ _ _ _ rfl cA rfl jq (aa (ac (ab 6 rfl rfl rfl)) ag ir) ir (ca _ _)) ae rfl) (@wO _ _ _ _ _ _ (@iY _ _ _ _ _ (@bM _ _ _ _ _ _ _ _ _ _ _ rfl wv rfl ww wx (aa (ac (ab 6 rfl rfl rfl)) ag ir) ir (ca _ _)) cz))) (@af _ _ _ _ _ _ _ (@dB _ _ _ (false) _ _ _ _ _ _ _ (@dH _ _ _ _ _ (bM rfl vz rfl vA vB (aa (ab 6 rfl rfl rfl) ag ir) ir (ca _ _))) (aB 7 rfl (by decide) (by decide)) (@af _ _ _ _ _ _ _ (@aN _ _ _ _ _ _ _ _ _ _ (Gh rfl iL rfl oA oB (ac (ab 7 rfl rfl rfl)) rfl) (@af _ _ _ _ _ _ _ (@eG _ _ _ _ _ _ (@eF _ _ _ 2 _ _ _ _ _ _ _ _ _ rfl rfl rfl ub (@aa _ _ _ _ _ _ _ _ (@de _ _ _ _ _ _ _ _ (@aa _ _ _ _ _ _ _ _ (ab 3 rfl rfl rfl) (@aa _ _ _ _ _ _ _ _ (AC rfl iL rfl oz (ac (ab 7 rfl rfl rfl)) cz) ag ir) ir) (by decide) (ah (ah len0))) ag ir) ir (by decide) rfl ir) jA ir) (af (aI 3 rfl (by decide) (aC rfl) cz) ai)) (af (cS 3 rfl (by decide) rfl rfl gQ (ab 7 rfl rfl rfl)) ai)) ai) cz) ai) ai) ai))) cz) (@af _ _ _ _ _ _ _ (@aW _ _ _ _ _ _ (@iZ _ _ _ _ _ _ _ _ _ _ _ (@gk _ _ _ _ _ _ _ _ (ay fi (ac (ab 4 rfl rfl rfl)) (ac (ab 1 rfl rfl rfl)) rfl) (ay fi (ac (ab 3 rfl rfl rfl)) (aC rfl) rfl)) (dc 2 rfl rfl rfl) (cQ ag (by decide) len0))) ai))))⟩
noncomputable abbrev sx:=List Nat×Nat
noncomputable abbrev sy(e:sx):V:=.tup [.str e.1,.int e.2]
noncomputable abbrev iE:=List sx×List Nat
noncomputable def cU(tk:Nat->Option Nat)(st:iE)(c:Nat):iE:=match tk c with
 |some k=>(st.1++[(st.2,k)],[])
 |none=>(st.1,st.2++[c])
noncomputable def E9(M:CM)(F3 F4:List V->Option V):Prop:=∀c,(lY [c]).length<10->(F3 [.str [c]]=some (.bool true)/\M.f c=[])\/(F3 [.str [c]]=some (.bool false)/\F4 [.str [c]]=some (.str (M.f c)))
noncomputable def JU(tk:Nat->Option Nat)(T:List Nat->Option Int)(I:List Nat->Bool):Prop:=∀c,I [c]=(tk c).isSome/\∀k,tk c=some k->T [c]=some (k:Int)
noncomputable def ip(M:CM)(u:List Nat):List Nat:=match u with
 |[c]=>M.f c
 |_=>[]
theorem zr(M:CM){u:List Nat}(h:u.length=2):ip M u=[]:=by
 match u,h with
 |[_,_],_=>rfl
noncomputable def cG(tk:Nat->Option Nat)(M:CM)(st:iE)(u:List Nat):iE:=(ip M u).foldl (cU tk) st
theorem DG(tk:Nat->Option Nat):∀(l:List Nat) (st:iE),(l.foldl (cU tk) st).1.length+(l.foldl (cU tk) st).2.length<=st.1.length+st.2.length+l.length
 |[],st=>bL _
 |c::l,st=>by
  rw[dg,cr];refine az (DG tk l _) ?_;have:(cU tk st c).1.length+(cU tk st c).2.length<=st.1.length+st.2.length+1:=by
   unfold cU;split
   ·simp only[aY,cr,gx];omega
   ·simp only[aY,cr,gx];omega
  omega
theorem JV(tk:Nat->Option Nat)(M:CM):∀(ws:List (List Nat)) (st:iE),(ws.foldl (cG tk M) st).1.length+(ws.foldl (cG tk M) st).2.length<=st.1.length+st.2.length+(ws.map (ip M)).flatten.length
 |[],st=>bL _
 |u::ws,st=>by
  rw[dg,bB,eQ,aY];have:=JV tk M ws (cG tk M st u);have:=DG tk (ip M u) st;unfold cG at*;omega
theorem DH(a b:List Nat):m6 (.str a) (.str b)=some (a==b):=rfl
inductive Um(w:V)(st:iE)(seen:List Nat)(ρ:ao):Prop
 |mk (h1:ρ 1=some w) (h2:ρ 2=some (.list (st.1.map sy))) (h3:ρ 3=some (.str st.2)) (h4:ρ 4=some (.str seen))
theorem Gr{tk T I}(hT:JU tk T I){w:V}{seen cs:List Nat}{st:iE}(hb:st.1.length+st.2.length+cs.length<=1000){ρ:ao}(h:Um w st seen ρ):
  ∃r,gy (fun ρ y=>some (upd ρ 7 y)) (eW (fun ρ=>((ρ 7).bind fun x=>(tabIn I x).bind pt).bind fun z=>if z=true then
    eW (fun ρ=>Option.map (fun r=>(r.fst,Fl.next)) (oV Fy 2 (cW (fun ρ=>Option.map V.tup (cW (fun ρ=>ρ 3) (cW (fun ρ=>(ρ 7).bind (tabS T)) fun x=>some []) ρ)) fun x=>some []) ρ))
     (eW (fun ρ=>Option.map (fun y=>(upd ρ 3 y,Fl.next)) (some (V.str []))) fun ρ=>some (ρ,Fl.next)) ρ
   else eW (fun ρ=>(ρ 3).bind fun a=>(ρ 7).bind fun b=>Option.map (fun c=>(upd ρ 3 c,Fl.next)) (Aq a b)) (fun ρ=>some (ρ,Fl.next)) ρ) fun ρ=>some (ρ,Fl.next)) (cs.map fun c=>V.str [c]) ρ=some r/\r.2= .next/\Um w (cs.foldl (cU tk) st) seen r.1:=by
 refine lj (fun c=>V.str [c]) cs (fun l ρ=>Um w (l.foldl (cU tk) st) seen ρ) (fun l c ρ hc hl hR=>?_) h;have hlen:=DG tk l st;rw[dF,dg,mM];generalize l.foldl (cU tk) st=Cf at*;obtain⟨h1,h2,h3,h4⟩:=hR;obtain⟨t1,t2⟩:=hT c;refine ex4 ρ h1 h2 h3 h4 fun σ=>?_
 cases hk:tk c with
 |some k=>
  rw[hk]at t1;have e:cU tk Cf c=(Cf.1++[(Cf.2,k)],[]):=by unfold cU;rw[hk]
  rw[e];refine⟨_,_,rfl,cf (mZ (cN rfl (cN rfl (congrArg some t1))) (Ge rfl (ap (cB (ap rfl (ap (cN rfl (cB (t2 k hk) rfl)) rfl)) rfl) rfl) (rP _ _ (by rw[List.length_map];exact fq (az (fO _ Cf.2.length) (az hlen (az (mP (dU hl) _) hb))) (by decide))) rfl)) rfl,.mk rfl ?_ rfl rfl⟩;exact congrArg (fun z=>some (V.list z)) (nX sy Cf.1 (Cf.2,k))
 |none=>
  rw[hk]at t1;have e:cU tk Cf c=(Cf.1,Cf.2++[c]):=by unfold cU;rw[hk]
  rw[e];exact⟨_,_,rfl,cf (ik (cN rfl (cN rfl (congrArg some t1))) (ow rfl rfl (fc _ _ (by
   have:most=1000000:=rfl;show Cf.2.length+1<=most;omega)) rfl)) rfl,.mk rfl rfl rfl rfl⟩
theorem DI{P:Pk}{n:Nat}{a1 F1 g1 h1 c1 a2 g2 Un g3 a3 F3 g3' h3 c3 a4 F4 g4 h4 c4 a5 T5 g5 t5 I5 s5 i5}{ρ:ao}{M:CM}{tk:Nat->Option Nat}{t:List Nat}{ws:List (List Nat)}(ux:F1 [.str (t++[59,34,92])]=some (.str ws.flatten))(ht:t.length<=10000)(hws:m4 ws=true)(Mi:ws.flatten.length<=10000)
  (hM:E9 M F3 F4) (hT:JU tk T5 I5) (Uo:∀u∈ws,u.length=2\/∃c,u=[c]/\(lY [c]).length<10) (JW:(ws.map (ip M)).flatten.length<=1000) (Df:(ws.foldl (cG tk M) ([],[])).2=[34,92]) (h0:ρ 0=some (.str t)):
  Ends (ms (P:=P) (n:=n) (aS:=a1) (bS:=F1) g1 h1 c1 (aT:=a2) g2 Un g3 (gU:=a3) (o7:=F3) g3' h3 c3 (gE:=a4) (n5:=F4) g4 h4 c4 (cX:=a5) (iK:=T5) g5 t5 (iM:=I5) s5 i5).1 ρ (.list ((ws.foldl (cG tk M) ([],[])).1.map sy)):=by
 have hwm:ws.flatten.length<=most:=az Mi (by decide);unfold ms;dsimp only;refine dk (bY (bT h0 rfl (fo _ _ (az (jO ht 3) (by decide)))) ux) (bw rfl (eB (Um (.str ws.flatten) (ws.foldl (cG tk M) ([],[])) ws.flatten) (eT (Dt rfl hwm hws) (vl ws (fun l ρ=>Um (.str ws.flatten) (l.foldl (cG tk M) ([],[])) l.flatten ρ) (fun l u l' ρ h hR=>?_) (.mk rfl rfl rfl rfl))) fun am hR=>?_))
 ·have hum:u∈ws:=h▸ck _ gI
  have Sp:l.flatten.length+u.length<=10000:=by
   rw[<-h,bR,aY,eQ,aY]at Mi;exact az (mP (fO _ _) _) Mi
  have Yt:=JV tk M l ([],[]);have Rs:(l.map (ip M)).flatten.length+(ip M u).length<=1000:=by
   rw[<-h,List.map_append,bR,aY,bB,eQ,aY]at JW;exact az (mP (fO _ _) _) JW
  have hu1:1<=u.length:=by
   rcases Uo u hum with h|⟨c,rfl,_⟩
   ·rw[h];decide
   ·exact bL _
  have cZ:((l.flatten++u).length:Int)=((l.flatten.length+u.length-1:Nat):Int)+1:=by rw[aY];exact congrArg Int.ofNat (xC (az hu1 (tP _ _))).symm
  have ls:(l.flatten++u).length<=most:=by rw[aY];exact az Sp (by decide)
  have MT:l.flatten.length+u.length<=most:=az Sp (by decide);have Qy:u.length<=most:=az (tP _ _) MT;rw[dF,dg,mM,E3];have hb:(l.foldl (cG tk M) ([],[])).1.length+(l.foldl (cG tk M) ([],[])).2.length+(ip M u).length<=1000:=az (jO (az Yt (by simp)) _) Rs;generalize l.foldl (cG tk M) ([],[])=st at*;obtain⟨r1,r2,r3,r4⟩:=hR;refine ex4 ρ r1 r2 r3 r4 fun σ=>?_
  rcases Uo u hum with h2|⟨c,rfl,hc⟩
  ·have e:cG tk M st u=st:=by unfold cG;rw[zr M h2];rfl
   rw[e];exact⟨_,_,rfl,ow rfl rfl (fc _ _ MT) (cf (ik (aG (bY rfl (ml _ ls)) (ad rfl rfl) (RE cZ)) rfl) (cf (ik (ik (aG (bY rfl (ml _ Qy)) rfl ((bU _ _).trans (congrArg some (db (by rw[h2];decide))))) rfl) rfl) rfl)),.mk rfl rfl rfl rfl⟩
  ·rcases hM c hc with⟨Yu,hmf⟩|⟨Yu,hf4⟩
   ·have e:cG tk M st [c]=st:=by unfold cG;rw[show ip M [c]=[]from hmf];rfl
    rw[e];exact⟨_,_,rfl,ow rfl rfl (fc _ _ MT) (cf (ik (aG (bY rfl (ml _ ls)) (ad rfl rfl) (RE cZ)) rfl) (cf (ik (mZ (aG (bY rfl (ml _ Qy)) rfl (bU _ _)) (cB (cN (bY rfl Yu) rfl) rfl)) rfl) rfl)),.mk rfl rfl rfl rfl⟩
   ·obtain⟨⟨di,fl⟩,z1,z2,z3⟩:=Gr hT hb (ρ:=upd (upd (upd (upd (upd (upd (upd σ 1 (.str ws.flatten)) 2 (.list (st.1.map sy))) 3 (.str st.2)) 4 (.str l.flatten)) 5 (.int ((l.flatten.length+[c].length-1:Nat):Int))) 6 (.str [c])) 4 (.str (l.flatten++[c]))) (w:=.str ws.flatten) (seen:=l.flatten++[c]) (.mk rfl rfl rfl rfl)
    cases z2;exact⟨_,di,rfl,ow rfl rfl (fc _ _ MT) (cf (ik (aG (bY rfl (ml _ ls)) (ad rfl rfl) (RE cZ)) rfl) (cf (mZ (mZ (aG (bY rfl (ml _ Qy)) rfl (bU _ _)) (cB (cN (bY rfl Yu) rfl) rfl)) (cf (cN (cN (bY rfl hf4) rfl) z1) rfl)) rfl)),z3⟩
 ·obtain⟨r1,r2,r3,r4⟩:=hR
  rw[Df]at r3;exact ex4 am r1 r2 r3 r4 fun σ=>df (mZ (gB (aG rfl rfl ((DH _ _).trans (congrArg some (qO _)))) (aG rfl rfl rfl)) rfl)
noncomputable def Up:CM where
 f:=Lb
 base:=fun b hb i hi=>by
  have:=cH.mp (cH.mp MO b hb) i (ea.mpr hi);simpa using this
 edge:=fun e he=>by
  have:=cH.mp MP e he;simpa using this
 unseen:=fun e he=>by
  have:=cH.mp Gn e he;simpa using this
 sign:=fun c hc=>by
  have:=cH.mp MQ c hc;simpa using this
 lig:=fun j hj=>by
  have:=cH.mp Qw j (ea.mpr hj);simpa using this
noncomputable def Qz{P:Pk}{n:Nat}(g1:P.glob "ord"=some (.builtin "ord"))(g2:P.glob "b1_set"=some (.ref 22)){T:Int->Bool}(hG:∀h,P.G h->∃n,h.SetOf (intKind P.prog P.w) 22 T n):{f:ao->Option (ao×Fl)//oo P n KB1 (dW (aO pq.main.body 2)) f}:=by
 refine⟨_,af (aW (AB ?_ g2 ?_ hG (aJ ?_ g1 ?_ HO (aa (ac (ab 0 rfl ?_ ?_)) ag (fun ø=>rfl)) (fun ø=>rfl) (by simp)) ?_)) ai⟩
 all_goals first|rfl|decide
noncomputable def QA{P:Pk}{n:Nat}(g1:P.glob "ord"=some (.builtin "ord"))(g2:P.glob "b3_exceptions"=some (.ref 33)){F}(hG:HW P 33 "get" F):{f:ao->Option (ao×Fl)//oo P n KB3 (dW (aO pq.main.body 4)) f}:=by
 refine⟨_,af (aI 1 rfl ?_ (AA ?_ g2 ?_ hG (aa (aJ ?_ g1 ?_ HO (aa (ab 0 rfl ?_ ?_) ag (fun ø=>rfl)) (fun ø=>rfl) (by simp)) ag (fun ø=>rfl)) (fun ø=>rfl) (by decide) ?_ (fun ø=>rfl)) ?_)
  (af (aN (ay x6 (ac (ab 1 rfl ?_ ?_)) lP ?_) (af (aW (ac (ab 1 rfl ?_ ?_))) ai) ai)
  (af (aW (hZ (ac (ab 0 rfl ?_ ?_)) Sx ag (fun ø=>rfl) (by decide) ?_ (fun ø=>rfl))) ai))⟩
 all_goals first|rfl|decide|(intro _ _;rfl)|skip
theorem QB{P:Pk}{n:Nat}{g1 g2}{T:Int->Bool}{hG}{ρ:ao}{c:Nat}(h0:ρ 0=some (.str [c])):Ends (Qz (P:=P) (n:=n) g1 g2 (T:=T) hG).1 ρ (.bool (T c)):=by
 unfold Qz;dsimp only;refine dO ⟨ρ,?_⟩;simp[ji,cW,h0,OV,H0]
theorem QC{P:Pk}{n:Nat}{g1 g2}{hG:HW P 33 "get" (HX PW PX)}{ρ:ao}{c:Nat}(hc:(lY [c]).length<10)(h0:ρ 0=some (.str [c])):Ends (QA (P:=P) (n:=n) g1 g2 hG).1 ρ (.str ((La EM c).getD (lY [c]))):=by
 unfold QA;dsimp only;have ht:HX PW PX [.int c]=some (((La EM c).map V.str).getD .none):=by
  simp only[O6];rw[By]
 have hl:O1 (.str [c]) []=some (.str (lY [c])):=by
  apply O2;unfold lY at hc;unfold Builtin.Str.tooLong;simp only[tr];have sh:(10:Nat)<=sizeLine:=by decide
  have e:(Txt.lower (pyStr [c])).length=(Txt.lower (pyStr [c])).cps.toList.length:=by simp[Str.length]
  omega
 generalize La EM c=o at*;refine ex1 ρ h0 fun σ=>?_
 cases o with
 |none=>exact dk (cN (ap (bY rfl rfl) rfl) ht) (bw (ik rfl rfl) (df (Ju rfl rfl hl)))
 |some t=>exact dk (cN (ap (bY rfl rfl) rfl) ht) (dO ⟨_,mZ rfl rfl⟩)
section
section
variable{P:Pk}(X:bG P)
include X
theorem bG.dK:P.glob s9=some (.ref 85):=X.glob _ _ (by kernel_rfl)
theorem bG.dP:P.glob Eh=some (.ref 92):=X.glob _ _ (by kernel_rfl)
theorem bG.oC:P.glob G6=some (.ref 99):=X.glob _ _ (by kernel_rfl)
theorem bG.MU:P.glob s4=some (.ref 22):=X.glob _ _ (by kernel_rfl)
theorem bG.qv:P.glob s5=some (.ref 32):=X.glob _ _ (by kernel_rfl)
theorem bG.vC:P.glob s6=some (.ref 33):=X.glob _ _ (by kernel_rfl)
theorem bG.pd:P.glob s8=some (.ref 78):=X.glob _ _ (by kernel_rfl)
theorem bG.sA:P.glob CH=some (.ref 161):=X.glob _ _ (by kernel_rfl)
theorem bG.jF:P.glob U3=some (.ref 166):=X.glob _ _ (by kernel_rfl)
theorem bG.rY:P.glob KV=some (.ref 173):=X.glob _ _ (by kernel_rfl)
theorem bG.jV:P.glob G8=some (.ref 180):=X.glob _ _ (by kernel_rfl)
theorem bG.wy:P.glob KW=some (.ref 185):=X.glob _ _ (by kernel_rfl)
theorem bG.pG:P.glob KX=some (.ref 192):=X.glob _ _ (by kernel_rfl)
theorem bG.mt:P.glob KY=some (.ref 199):=X.glob _ _ (by kernel_rfl)
theorem bG.pH:P.glob KZ=some (.ref 204):=X.glob _ _ (by kernel_rfl)
theorem bG.mu:P.glob K0=some (.ref 209):=X.glob _ _ (by kernel_rfl)
theorem bG.n6:P.glob K2=some (.ref 214):=X.glob _ _ (by kernel_rfl)
theorem bG.aX:P.glob v7=some (.type "range"):=X.built _ _ (by decide) (by kernel_rfl) (by kernel_rfl)
theorem bG.cA:P.glob we=some (.builtin "len"):=X.built _ _ (by decide) (by kernel_rfl) (by kernel_rfl)
theorem bG.vp:P.glob Wm=some (.builtin "ord"):=X.built _ _ (by decide) (by kernel_rfl) (by kernel_rfl)
theorem bG.mV:P.glob Rj=some (.builtin "chr"):=X.built _ _ (by decide) (by kernel_rfl) (by kernel_rfl)
theorem bG.vD:P.glob Wn=some (.builtin "sum"):=X.built _ _ (by decide) (by kernel_rfl) (by kernel_rfl)
theorem bG.fe:P.glob Ej=some (.builtin "max"):=X.built _ _ (by decide) (by kernel_rfl) (by kernel_rfl)
theorem bG.iD:P.glob R0=some (.type "list"):=X.built _ _ (by decide) (by kernel_rfl) (by kernel_rfl)
theorem bG.zt:P.glob Wo=some (.type "tuple"):=X.built _ _ (by decide) (by kernel_rfl) (by kernel_rfl)
theorem bG.vF:P.glob Wp=some (.type "zip"):=X.built _ _ (by decide) (by kernel_rfl) (by kernel_rfl)
theorem bG.dQ:∀h,P.G h->∃o fd,h.get? 92=some o/\o.data= .func fd:=fun h G=>by
 obtain⟨⟨o,h1,h2,h3⟩,h4⟩:=NP (X.top h G) fun ø ø e=>e
 exact⟨o,_,h1,h3⟩
theorem bG.oD:∀h,P.G h->∃o fd,h.get? 99=some o/\o.data= .func fd:=fun h G=>by
 obtain⟨⟨o,h1,h2,h3⟩,h4⟩:=NQ (X.top h G) fun ø ø e=>e
 exact⟨o,_,h1,h3⟩
theorem bG.qx:∀h,P.G h->∃o fd,h.get? 32=some o/\o.data= .func fd:=fun h G=>by
 obtain⟨⟨o,h1,h2,h3⟩,h4⟩:=NR (X.top h G) fun ø ø e=>e
 exact⟨o,_,h1,h3⟩
theorem bG.pe:∀h,P.G h->∃o fd,h.get? 78=some o/\o.data= .func fd:=fun h G=>by
 obtain⟨⟨o,h1,h2,h3⟩,h4⟩:=NS (X.top h G) fun ø ø e=>e
 exact⟨o,_,h1,h3⟩
theorem bG.rZ:∀h,P.G h->∃o fd,h.get? 173=some o/\o.data= .func fd:=fun h G=>by
 obtain⟨⟨o,h1,h2,h3⟩,h4⟩:=IF (X.top h G) fun ø ø e=>e
 exact⟨o,_,h1,h3⟩
theorem bG.jW:∀h,P.G h->∃o fd,h.get? 180=some o/\o.data= .func fd:=fun h G=>by
 obtain⟨⟨o,h1,h2,h3⟩,h4⟩:=IH (X.top h G) fun ø ø e=>e
 exact⟨o,_,h1,h3⟩
theorem bG.wz:∀h,P.G h->∃o fd,h.get? 185=some o/\o.data= .func fd:=fun h G=>by
 obtain⟨⟨o,h1,h2,h3⟩,h4⟩:=IJ (X.top h G) fun ø ø e=>e
 exact⟨o,_,h1,h3⟩
theorem bG.pI:∀h,P.G h->∃o fd,h.get? 192=some o/\o.data= .func fd:=fun h G=>by
 obtain⟨⟨o,h1,h2,h3⟩,h4⟩:=IK (X.top h G) fun ø ø e=>e
 exact⟨o,_,h1,h3⟩
theorem bG.mw:∀h,P.G h->∃o fd,h.get? 199=some o/\o.data= .func fd:=fun h G=>by
 obtain⟨⟨o,h1,h2,h3⟩,h4⟩:=IL (X.top h G) fun ø ø e=>e
 exact⟨o,_,h1,h3⟩
theorem bG.pJ:∀h,P.G h->∃o fd,h.get? 204=some o/\o.data= .func fd:=fun h G=>by
 obtain⟨⟨o,h1,h2,h3⟩,h4⟩:=IM (X.top h G) fun ø ø e=>e
 exact⟨o,_,h1,h3⟩
theorem bG.mx:∀h,P.G h->∃o fd,h.get? 209=some o/\o.data= .func fd:=fun h G=>by
 obtain⟨⟨o,h1,h2,h3⟩,h4⟩:=IN (X.top h G) fun ø ø e=>e
 exact⟨o,_,h1,h3⟩
theorem bG.n7:∀h,P.G h->∃o fd,h.get? 214=some o/\o.data= .func fd:=fun h G=>by
 obtain⟨⟨o,h1,h2,h3⟩,h4⟩:=IO (X.top h G) fun ø ø e=>e
 exact⟨o,_,h1,h3⟩
end
theorem dR(P:Params):Mr P G7=some (.ref 123):=by kernel_rfl
theorem dS:typeLookup (.type "object") G7=pure none:=by rw[lM,lN];kernel_rfl
theorem bG.aK{P:Pk}(X:bG P):∀h,P.G h->∃of fd,h.get? 123=some of/\of.cls= .type "function"/\of.data= .func fd:=fun h G=>by
 obtain⟨⟨o,h1,h2,h3⟩,h4⟩:=Iy (X.top h G) fun ø ø e=>e
 exact⟨o,_,h1,h2,h3⟩
theorem dC(P:Params):Mr P Ei=some (.ref 130):=by kernel_rfl
theorem dD:typeLookup (.type "object") Ei=pure none:=by rw[lM,lN];kernel_rfl
theorem bG.aL{P:Pk}(X:bG P):∀h,P.G h->∃of fd,h.get? 130=some of/\of.cls= .type "function"/\of.data= .func fd:=fun h G=>by
 obtain⟨⟨o,h1,h2,h3⟩,h4⟩:=Iz (X.top h G) fun ø ø e=>e
 exact⟨o,_,h1,h2,h3⟩
theorem vG(P:Params):Mr P Nl=some (.ref 137):=by kernel_rfl
theorem vH:typeLookup (.type "object") Nl=pure none:=by rw[lM,lN];kernel_rfl
theorem bG.qz{P:Pk}(X:bG P):∀h,P.G h->∃of fd,h.get? 137=some of/\of.cls= .type "function"/\of.data= .func fd:=fun h G=>by
 obtain⟨⟨o,h1,h2,h3⟩,h4⟩:=IB (X.top h G) fun ø ø e=>e
 exact⟨o,_,h1,h2,h3⟩
theorem ff(P:Params):Mr P Nm=some (.ref 144):=by kernel_rfl
theorem fg:typeLookup (.type "object") Nm=pure none:=by rw[lM,lN];kernel_rfl
theorem bG.cY{P:Pk}(X:bG P):∀h,P.G h->∃of fd,h.get? 144=some of/\of.cls= .type "function"/\of.data= .func fd:=fun h G=>by
 obtain⟨⟨o,h1,h2,h3⟩,h4⟩:=IC (X.top h G) fun ø ø e=>e
 exact⟨o,_,h1,h2,h3⟩
theorem zu(P:Params):Mr P Nn=some (.ref 151):=by kernel_rfl
theorem zv:typeLookup (.type "object") Nn=pure none:=by rw[lM,lN];kernel_rfl
theorem bG.vI{P:Pk}(X:bG P):∀h,P.G h->∃of fd,h.get? 151=some of/\of.cls= .type "function"/\of.data= .func fd:=fun h G=>by
 obtain⟨⟨o,h1,h2,h3⟩,h4⟩:=ID (X.top h G) fun ø ø e=>e
 exact⟨o,_,h1,h2,h3⟩
theorem fE(P:Params):Mr P No=some (.ref 158):=by kernel_rfl
theorem fG:typeLookup (.type "object") No=pure none:=by rw[lM,lN];kernel_rfl
theorem bG.dm{P:Pk}(X:bG P):∀h,P.G h->∃of fd,h.get? 158=some of/\of.cls= .type "function"/\of.data= .func fd:=fun h G=>by
 obtain⟨⟨o,h1,h2,h3⟩,h4⟩:=IE (X.top h G) fun ø ø e=>e
 exact⟨o,_,h1,h2,h3⟩
end
section
structure zw(tk:Nat->Option Nat):Prop where
 par:tk 40=some 7/\tk 41=some 8/\tk 59=some 13/\tk 34=none/\tk 92=none
 op:∀c∈zq,∃k,tk c=some k/\k≠7/\k≠8
 low:∀c,97<=c->c-97<26->tk c=none
 edge:∀e∈fY,tk e.toNat=none
noncomputable def MV(SP:Nat->Int->List Nat)(b:Bool)(e:Item):List (List Nat):=
 if e.1=2 then pF e.2.2++[[41]]else(if b then [[jE e.2.2]]else [])++(pF e.2.2++((SP e.2.1 e.2.2).map (fun c=>[c])++(if e.1=0 then [[40]]else [])))
noncomputable def n8(SP:Nat->Int->List Nat):Bool->List Item->List (List Nat)
 |_,[]=>[]
 |b,e::r=>MV SP b e++n8 SP (e.1 != 0) r
theorem JX(SP:Nat->Int->List Nat)(b:Bool):n8 SP b []=[]:=rfl
theorem qA(SP:Nat->Int->List Nat)(b:Bool)(e:Item)(r:List Item):n8 SP b (e::r)=MV SP b e++n8 SP (e.1 != 0) r:=rfl
theorem BB(draw:Int)(k:List (List Nat)):(qt draw).foldl cx (k,none)=(k++pF draw,none):=
 have e:(k,(none:Option (List (List Nat))))=(k++[],none):=by rw[dZ]
 lt7 (P:=fun j=>(sN[j]?.getD []).foldl cx (k,none)=(k++E7[j]?.getD [],none)) e rfl e e rfl rfl e _ (N8 draw)
theorem QD:(zq.all fun c=>c != 34&&c != 92&&decide (c∈n0))=true:=by decide
theorem BC(draw:Int):jE draw≠34/\jE draw≠92/\jE draw∈n0:=by
 have:=cH.mp QD _ (E8 (draw:=draw)).2;simp only[bX,oN,mI]at this;exact⟨this.1.1,this.1.2,this.2⟩
section
variable{SP:Nat->Int->List Nat}{M:CM}{total:Int}
noncomputable def sB(M:CM)(total:Int)(SP:Nat->Int->List Nat)(its:List Item):Prop:=∀e∈its,bV M (aH e.2.1 total) (SP e.2.1 e.2.2)
theorem qB{N l:List Nat}(h:bV M N l):∀u∈l.map (fun c=>[c]),wu u=true/\u≠[34]/\∃c,u=[c]/\(lY [c]).length<10:=fun u hu=>by
 obtain⟨c,hc,rfl⟩:=dt.mp hu;have:=cH.mp h.ok c hc;simp only[MJ,bX,oN,mI]at this;refine⟨?_,fun z=>this.1.1.1.2 (tR z).1,c,rfl,this.2⟩;show(c != 92)=true;exact oN.mpr this.1.1.1.1
theorem JY{b:Bool}{e:Item}(h:bV M (aH e.2.1 total) (SP e.2.1 e.2.2))(k:List (List Nat)):(Go SP b e).foldl cx (k,none)=(k++MV SP b e,none):=by
 have one:∀(k:List (List Nat)) (c:Nat),c≠34->[[c]].foldl cx (k,none)=(k++[[c]],none):=fun k c hc=>by
  show cx (k,none) [c]=_;exact au fun z=>hc (tR z).1
 unfold Go MV;split
 ·rw[dF,BB,one _ 41 (by decide),List.append_assoc]
 ·rw[dF]
  have e1:(if b=true then [[jE e.2.2]]else []).foldl cx (k,none)=(k++(if b=true then [[jE e.2.2]]else []),none):=by
   split
   ·exact one k _ (BC e.2.2).1
   ·rw[dZ];rfl
  have e2:∀k:List (List Nat),(if e.1=0 then [[40]]else([]:List (List Nat))).foldl cx (k,none)=(k++(if e.1=0 then [[40]]else []),none):=fun k=>by
   split
   ·exact one k _ (by decide)
   ·rw[dZ];rfl
  rw[e1,dF,BB,dF,vk _ _ fun u hu=>(qB h u hu).2.1,e2];simp only[List.append_assoc]
theorem vJ:∀{its:List Item} {b:Bool},sB M total SP its->∀k:List (List Nat),(eC SP b its).foldl cx (k,none)=(k++n8 SP b its,none)
 |[],b,_,k=>by rw[vw,JX,dZ];rfl
 |e::r,b,h,k=>by
  rw[ll,qA,dF,JY (h e (.head _)),vJ fun x hx=>h x (.tail _ hx),List.append_assoc]
theorem Gs{its:List Item}(h:sB M total SP its):fB (eC SP false its++[[59],[34],[92]])=n8 SP false its++[[59],[34],[92]]:=by
 unfold fB;rw[dF,vJ h];simp[cx]
theorem qC:∀{us vs:List (List Nat)},(∀u∈us,wu u=true)->m4 vs=true->m4 (us++vs)=true
 |[],vs,_,h=>h
 |u::us,vs,h1,h2=>by
  have ih:=qC (us:=us) (vs:=vs) (fun v hv=>h1 v (ge _ hv)) h2
  cases hz:us++vs with
  |nil=>simp[hz,td,te,tg,h1 u gI]
  |cons z zs=>
   rw[List.cons_append,hz];rw[hz]at ih;simp only[td,te,tg,h1 u gI,xI,ih]
theorem Fa(draw:Int):wu [jE draw]=true:=by
 show(jE draw != 92)=true;exact oN.mpr (BC draw).2.1
theorem Fb:∀{its:List Item} {b:Bool},sB M total SP its->∀u∈eC SP b its,wu u=true
 |[],b,_,u,hu=>nomatch hu
 |e::r,b,h,u,hu=>by
  rw[ll]at hu;rcases bZ.mp hu with hu|hu
  ·unfold Go at hu
   split at hu
   ·rcases bZ.mp hu with hu|hu
    ·exact(ko e.2.2).1 u hu
    ·rw[cq.mp hu];rfl
   ·rcases bZ.mp hu with hu|hu
    ·split at hu
     ·rw[cq.mp hu];exact Fa _
     ·cases hu
    ·rcases bZ.mp hu with hu|hu
     ·exact(ko e.2.2).1 u hu
     ·rcases bZ.mp hu with hu|hu
      ·exact(qB (h e (.head _)) u hu).1
      ·split at hu
       ·rw[cq.mp hu];rfl
       ·cases hu
  ·exact Fb (fun x hx=>h x (.tail _ hx)) u hu
theorem xn:(n0.all fun c=>decide ((lY [c]).length<10))=true:=by decide+kernel
theorem zx:∀{its:List Item} {b:Bool},sB M total SP its->∀u∈n8 SP b its,wu u=true/\(u.length=2\/∃c,u=[c]/\(lY [c]).length<10)
 |[],b,_,u,hu=>nomatch hu
 |e::r,b,h,u,hu=>by
  have low:∀c∈n0,(lY [c]).length<10:=fun c hc=>cV (cH.mp xn c hc)
  rw[qA]at hu;rcases bZ.mp hu with hu|hu
  ·unfold MV at hu
   split at hu
   ·rcases bZ.mp hu with hu|hu
    ·exact⟨((ko e.2.2).2.1 u hu).1,.inl ((ko e.2.2).2.1 u hu).2⟩
    ·rw[cq.mp hu];exact⟨rfl,.inr ⟨41,rfl,low 41 (by decide)⟩⟩
   ·rcases bZ.mp hu with hu|hu
    ·split at hu
     ·rw[cq.mp hu];exact⟨Fa _,.inr ⟨_,rfl,low _ (BC _).2.2⟩⟩
     ·cases hu
    ·rcases bZ.mp hu with hu|hu
     ·exact⟨((ko e.2.2).2.1 u hu).1,.inl ((ko e.2.2).2.1 u hu).2⟩
     ·rcases bZ.mp hu with hu|hu
      ·exact⟨(qB (h e (.head _)) u hu).1,.inr (qB (h e (.head _)) u hu).2.2⟩
      ·split at hu
       ·rw[cq.mp hu];exact⟨rfl,.inr ⟨40,rfl,low 40 (by decide)⟩⟩
       ·cases hu
  ·exact zx (fun x hx=>h x (.tail _ hx)) u hu
noncomputable def Gu(total:Int)(tk:Nat->Option Nat)(st:iE)(b:Bool)(e:Item):iE:=
 if e.1=2 then(st.1++[(st.2,8)],[])else
  (fun s1:iE=>if e.1=0 then(s1.1++[(s1.2++aH e.2.1 total,7)],[])else(s1.1,s1.2++aH e.2.1 total)) (if b then(st.1++[(st.2,(tk (jE e.2.2)).getD 0)],[])else st)
noncomputable def sE(total:Int)(tk:Nat->Option Nat):iE->Bool->List Item->iE
 |st,_,[]=>st
 |st,b,e::r=>sE total tk (Gu total tk st b e) (e.1 != 0) r
theorem JZ(total:Int)(tk:Nat->Option Nat)(st:iE)(b:Bool)(e:Item)(r:List Item):sE total tk st b (e::r)=sE total tk (Gu total tk st b e) (e.1 != 0) r:=rfl
theorem Fc{tk:Nat->Option Nat}:∀(N:List Nat),(∀c∈N,tk c=none)->∀st:iE,N.foldl (cU tk) st=(st.1,st.2++N)
 |[],_,st=>by rw[dZ];rfl
 |c::N,h,st=>by
  rw[dg];have:cU tk st c=(st.1,st.2++[c]):=by unfold cU;rw[h c (.head _)]
  rw[this,Fc N (fun x hx=>h x (.tail _ hx)),List.append_assoc];rfl
theorem Gv{tk:Nat->Option Nat}(ht:zw tk){w:Nat}(hw:w<3)(total:Int):∀c∈aH w total,tk c=none:=fun c hc=>by
 rcases(iT hw total).1.sg c hc with q|⟨_,e,he,rfl⟩
 ·exact ht.low c q.1 q.2
 ·exact ht.edge e he
theorem Oa{tk:Nat->Option Nat}{M:CM}:∀(l:List Nat) (st:iE),(l.map fun c=>[c]).foldl (cG tk M) st=((l.map M.f).flatten).foldl (cU tk) st
 |[],st=>rfl
 |c::l,st=>by
  rw[bB,dg,bB,eQ,dF,Oa l];rfl
theorem J0{tk:Nat->Option Nat}{M:CM}:∀(us:List (List Nat)),(∀u∈us,u.length=2)->∀st:iE,us.foldl (cG tk M) st=st
 |[],_,st=>rfl
 |u::us,h,st=>by
  rw[dg];have:cG tk M st u=st:=by unfold cG;rw[zr M (h u (.head _))];rfl
  rw[this,J0 us (fun x hx=>h x (.tail _ hx))]
theorem zy{tk:Nat->Option Nat}{M:CM}{c k:Nat}(hc:c∈n0)(hk:tk c=some k)(st:iE):[[c]].foldl (cG tk M) st=(st.1++[(st.2,k)],[]):=by
 show(ip M [c]).foldl (cU tk) st=_;rw[show ip M [c]=[c]from M.sign c hc];show cU tk st c=_;unfold cU;rw[hk]
theorem Uq{tk:Nat->Option Nat}(ht:zw tk){b:Bool}{e:Item}(hw:e.2.1<3)(h:bV M (aH e.2.1 total) (SP e.2.1 e.2.2))(st:iE):(MV SP b e).foldl (cG tk M) st=Gu total tk st b e:=by
 have hk:=J0 (tk:=tk) (M:=M) (pF e.2.2) fun u hu=>((ko e.2.2).2.1 u hu).2
 unfold MV Gu;split
 ·rw[dF,hk,zy (by decide) ht.par.2.1]
 ·rw[dF]
  have e1:(if b=true then [[jE e.2.2]]else []).foldl (cG tk M) st=(if b=true then(st.1++[(st.2,(tk (jE e.2.2)).getD 0)],[])else st):=by
   split
   ·obtain⟨k,hk,_⟩:=ht.op _ (E8 (draw:=e.2.2)).2
    rw[zy (BC e.2.2).2.2 hk,hk];rfl
   ·rfl
  rw[e1,dF,hk,dF,Oa,h.map,Fc _ (Gv ht hw total)];generalize(if b=true then(st.1++[(st.2,(tk (jE e.2.2)).getD 0)],[])else st:iE)=s1;dsimp only;by_cases q0:e.1=0
  ·rw[aw q0,aw q0,zy (by decide) ht.par.1]
  ·rw[au q0,au q0]
   rfl
theorem Fd{tk:Nat->Option Nat}(ht:zw tk):∀{its:List Item} {b:Bool},(∀e∈its,e.2.1<3)->sB M total SP its->∀st:iE,(n8 SP b its).foldl (cG tk M) st=sE total tk st b its
 |[],b,_,_,st=>rfl
 |e::r,b,hw,h,st=>by
  rw[qA,JZ,dF,Uq ht (hw e (.head _)) (h e (.head _)),Fd ht (fun x hx=>hw x (.tail _ hx)) fun x hx=>h x (.tail _ hx)]
noncomputable def vK(total:Int)(tk:Nat->Option Nat)(its:List Item):List sx:=(sE total tk ([],[]) false its).1++[((sE total tk ([],[]) false its).2,13)]
theorem QE{tk:Nat->Option Nat}(ht:zw tk){its:List Item}(hw:∀e∈its,e.2.1<3)(h:sB M total SP its):(n8 SP false its++[[59],[34],[92]]).foldl (cG tk M) ([],[])=(vK total tk its,[34,92]):=by
 rw[dF,Fd ht hw h];show [[34],[92]].foldl (cG tk M) ([[59]].foldl (cG tk M) (sE total tk ([],[]) false its))=_;rw[zy (by decide) ht.par.2.2.1];show(ip M [92]).foldl (cU tk) ((ip M [34]).foldl (cU tk) _)=_;rw[show ip M [34]=[34]from M.sign 34 (by decide),show ip M [92]=[92]from M.sign 92 (by decide)];show cU tk (cU tk _ 34) 92=_;unfold cU;rw[ht.par.2.2.2.1,ht.par.2.2.2.2];rfl
theorem BD:∀{its:List Item} {b:Bool},(∀e∈its,e.2.1<3)->sB M total SP its->((n8 SP b its).map (ip M)).flatten.length<=5*its.length
 |[],b,_,_=>bL _
 |e::r,b,hw,h=>by
  have ih:=BD (its:=r) (b:=e.1 != 0) (fun x hx=>hw x (.tail _ hx)) fun x hx=>h x (.tail _ hx)
  rw[qA,List.map_append,bR,aY,cr];have hk:((pF e.2.2).map (ip M)).flatten=[]:=by
   rw[List.flatten_eq_nil_iff];intro x hx;obtain⟨u,hu,rfl⟩:=dt.mp hx;exact zr M ((ko e.2.2).2.1 u hu).2
  have h1:((MV SP b e).map (ip M)).flatten.length<=5:=by
   unfold MV;split
   ·rw[List.map_append,bR,hk,gh,po,gJ,show ip M [41]=[41]from M.sign 41 (by decide)]
    decide
   ·have hs:((((SP e.2.1 e.2.2).map fun c=>[c]).map (ip M))).flatten=aH e.2.1 total:=by
     rw[iH];exact h e (.head _) |>.map
    rw[List.map_append,List.map_append,List.map_append,bR,bR,bR,hk,hs,gh,aY,aY];have n3:=(iT (hw e (.head _)) total).1.len;have e1:((if b=true then [[jE e.2.2]]else []).map (ip M)).flatten.length<=1:=by
     split
     ·rw[po,gJ,show ip M [jE e.2.2]=[jE e.2.2]from M.sign _ (BC e.2.2).2.2]
      exact bL 1
     ·exact eK _
    have e2:((if e.1=0 then [[40]]else([]:List (List Nat))).map (ip M)).flatten.length<=1:=by
     split
     ·rw[po,gJ,show ip M [40]=[40]from M.sign 40 (by decide)]
      exact bL 1
     ·exact eK _
    omega
  omega
end
end
noncomputable def DJ:Cx:={vars:=[(wd,.local,false),(⟨#[119,115]⟩,.local,false),(RT,.local,false),(RU,.local,false),(Rf,.local,true),(⟨#[98]⟩,.local,false),(Le,.local,false),(⟨#[110,116]⟩,.local,false),(Oq,.local,false)],aV:=[CH,we,Wo]}
noncomputable def DK{P:Pk}{n:Nat}{Yv Yw:Tok}{C N:Addr}{mN:Str->Option Value}(W:dJ P C N mN)(iU:P.glob CH=some (.ref C))(cA:P.glob we=some (.builtin "len"))(zt:P.glob Wo=some (.type "tuple"))(k_S:∀h,P.G h->∃(Fr:Frag) (mc:Value),Fr.In h/\readsIn Fr C mc=true/\findCls Fr (.ref C) mc RT=some (.val (.str (pyStr [32]) Yv)))(k_T:∀h,P.G h->∃(Fr:Frag) (mc:Value),Fr.In h/\readsIn Fr C mc=true/\findCls Fr (.ref C) mc RU=some (.val (.str (pyStr [9]) Yw))):{F:Addr->ao->List V->Option (ao×List V)//su P n DJ C (dW (aO (dX (aO pq.main.body 10)) 1)) F}:=⟨_,(@su.store _ _ _ _ _ _ W 0 _ _ _ _ _ _ _ _ _ _ rfl rfl rfl rfl (ab 1 rfl rfl rfl) (@su.st _ _ _ _ _ _ _ _ (@gP _ _ _ ([(2,RT,.local,false),(3,RU,.local,false)]) ([_,_]) _ _ _ _ _ _ _ ⟨by decide+kernel,by decide+kernel⟩ rfl (fX.dat (qo rfl iU rfl k_S ir) (fX.dat (qo rfl iU rfl k_T ir) fX.nil ir) ir) (by decide) (ah (ah len0)) kg.len ir (T2 (K:=DJ) (i:=2) (j:=3) rfl rfl rfl (by decide+kernel) rfl rfl rfl rfl)) (@su.st _ _ _ _ _ _ _ _ (fV 4 rfl (by decide) (fm ag (by decide) len0) cz) (@su.st _ _ _ _ _ _ _ _ (C8 5 6 7 rfl rfl rfl (by decide) (by decide) (by decide) ae ir ir) (@su.for _ _ _ _ _ _ W (false) _ _ _ _ _ _ _ _ _ _ _ rfl rfl rfl ir (aB 8 rfl (by decide) (by decide)) (@af _ _ _ _ _ _ _ (@aN _ _ _ _ _ _ _ _ _ _ (ay fi (ac (ab 8 rfl rfl rfl)) (ac (ab 2 rfl rfl rfl)) rfl) (@af _ _ _ _ _ _ _ (aI 6 rfl (by decide) (al cm (ab 6 rfl rfl rfl) ae) cz) (@af _ _ _ _ _ _ _ (aI 5 rfl (by decide) (al cm (ab 5 rfl rfl rfl) ae) cz) ai)) (@af _ _ _ _ _ _ _ (@aN _ _ _ _ _ _ _ _ _ _ (ay fi (ac (ab 8 rfl rfl rfl)) (ac (ab 3 rfl rfl rfl)) rfl) (@af _ _ _ _ _ _ _ (aI 6 rfl (by decide) (al cm (ab 6 rfl rfl rfl) ae) cz) (@af _ _ _ _ _ _ _ (aI 7 rfl (by decide) (al cm (ab 7 rfl rfl rfl) ae) cz) (@af _ _ _ _ _ _ _ (@aN _ _ _ _ _ _ _ _ _ _ (@ay _ _ _ _ _ _ _ _ _ _ Ho (ac (ab 5 rfl rfl rfl)) (aJ rfl cA rfl jq (aa (dc 4 rfl rfl rfl) ag ir) ir (ca _ _)) rfl) (@af _ _ _ _ _ _ _ (@fV _ _ _ 4 _ _ _ _ _ _ rfl (by decide) (@C7 _ _ _ _ _ _ _ _ (FQ 4 rfl rfl rfl) (@H1 _ _ _ _ _ (@al _ _ _ _ _ _ _ _ _ _ _ zW (cQ (aa ae ag ir) (by decide) (ah len0)) (@al _ _ _ _ _ _ _ _ _ _ _ cm (@al _ _ _ _ _ _ _ _ _ _ _ El (ab 5 rfl rfl rfl) (@tZ _ _ _ _ _ _ (aJ rfl cA rfl jq (aa (dc 4 rfl rfl rfl) ag ir) ir (ca _ _)))) ae)))) cz) ai) ai) (@af _ _ _ _ _ _ _ (@uj _ _ _ 4 _ _ _ _ _ _ _ _ _ _ rfl rfl rfl NH (@al _ _ _ _ _ _ _ _ _ _ _ cm (@tZ _ _ _ _ _ _ (aF (dc 4 rfl rfl rfl) (ac (ab 5 rfl rfl rfl)) cz)) ae) (ab 5 rfl rfl rfl) ir) (af (aI 5 rfl (by decide) ae cz) ai))))) (af wU ai)) ai)) ai) (@su.store _ _ _ _ _ _ W 1 _ _ _ _ _ _ _ _ _ _ rfl rfl rfl rfl (ab 6 rfl rfl rfl) (@su.store _ _ _ _ _ _ W 2 _ _ _ _ _ _ _ _ _ _ rfl rfl rfl rfl (ab 7 rfl rfl rfl) (@su.store _ _ _ _ _ _ W 3 _ _ _ _ _ _ _ _ _ _ rfl rfl rfl rfl (@de _ _ _ _ _ _ _ _ (aa (zd 4 rfl rfl rfl rfl zt rfl) (aa (ab 5 rfl rfl rfl) ag ir) ir) (by decide) (ah (ah len0))) (@su.store _ _ _ _ _ _ W 4 _ _ _ _ _ _ _ _ _ _ rfl rfl rfl rfl (@iX _ _ _ _ _ _ _ _ _ _ _ Hp (aJ rfl cA rfl jq (aa (dc 4 rfl rfl rfl) ag ir) ir (ca _ _)) ae rfl) su.nil ir) ir) ir) ir))))) ir)⟩
noncomputable abbrev Gw:=List Int×Nat×Nat×Nat
noncomputable def grow(cnt:List Int)(b:Nat):List Int:=if cnt.length<=b then cnt++List.replicate (b-cnt.length+1) 0 else cnt
noncomputable def bump(cnt:List Int)(b:Nat):List Int:=(grow cnt b).set b (((grow cnt b)[b]?).getD 0+1)
noncomputable def kq(s:Gw)(c:Nat):Sum Gw Gw:=if c=32 then .inl (s.1,s.2.1+1,s.2.2.1+1,s.2.2.2)else if c=9 then .inl (bump s.1 s.2.1,0,s.2.2.1+1,s.2.2.2+1)else .inr s
noncomputable def pK(l:List Nat):Gw:=match bp kq l ([],0,0,0)with
 | .inl s=>s
 | .inr s=>s
theorem vL(cnt:List Int)(b:Nat):b<(grow cnt b).length/\(grow cnt b).length<=max cnt.length (b+1):=by
 unfold grow;by_cases h:cnt.length<=b
 ·rw[aw h,aY,j5,<-Nat.add_assoc,rc h]
  exact⟨mJ b,rd _ _⟩
 ·rw[au h]
  exact⟨Nat.not_le.mp h,xU _ _⟩
noncomputable def QF(l:List Nat):List V:=[.str l,.int (pK l).2.2.1,.int (pK l).2.2.2,.tup [.tup ((pK l).1.map .int),.int (pK l).2.1],.bool (decide ((pK l).1.length<=1))]
theorem lm{idx:Nat}{f g x ρ lv v}{r}(hl:lv.length=idx)(hs:rN x ρ=true)(hf:f ρ=some v)(hg:∃aQ,g x ρ (lv++[v])=some (aQ,r)):∃aQ,Jf idx f g x ρ lv=some (aQ,r):=by
 obtain⟨aQ,e⟩:=hg;exact⟨aQ,(aw ⟨hl,hs⟩).trans (cN hf e)⟩
theorem DL{f g x ρ am lv}{r}(hf:f ρ=some (am,.next))(hg:∃aQ,g x am lv=some (aQ,r)):∃aQ,stW f g x ρ lv=some (aQ,r):=by
 obtain⟨aQ,e⟩:=hg;exact⟨aQ,cN hf e⟩
theorem MW{asg bf g x ρ}{l:List Nat}{lv:List V}{r}{Q:ao->Prop}(hs:rN x ρ=true)(h:∃q,gy asg bf (l.map fun c=>V.str [c]) ρ=some q/\q.2= .next/\Q q.1)(hg:∀am,Q am->∃aQ,g x am (.str l::lv)=some (aQ,r)):∃aQ,TW asg bf g x ρ (.str l::lv)=some (aQ,r):=by
 obtain⟨⟨am,fl⟩,e,rfl,q⟩:=h;obtain⟨aQ,e'⟩:=hg am q;exact⟨aQ,(aw hs).trans (cN (a:=l) rfl (cN e e'))⟩
inductive WsA(x:Addr)(s:Gw)(n:Nat)(ρ:ao):Prop
 |mk (h:Yh 0 2 3 4 5 6 7 (.obj [.int (x:Nat)]) (.str [32]) (.str [9]) (.list (s.1.map .int)) (.int s.2.1) (.int s.2.2.1) (.int s.2.2.2) ρ) (hc:s.1.length<=n) (hb:s.2.1<=n)
inductive WsI(x:Addr)(l:List Nat)(ρ:ao):Prop
 |mk (s:Gw) (hf:bp kq l ([],0,0,0)= .inl s) (h:WsA x s l.length ρ)
theorem QG{cnt:List Int}{b:Nat}(hc:cnt.length<=1000)(hb:b<=1000){ρ:ao}(h4:ρ 4=some (.list (cnt.map .int)))(h5:ρ 5=some (.int b)):
  (fun ρ:ao=>(eU Y7 (fun ρ=>ρ 5) (ji uk (cW (fun ρ=>ρ 4) fun x=>some [])) ρ).bind fun z=>if z=true then
   eW (fun ρ=>Option.map (fun y=>(upd ρ 4 y,Fl.next)) (iR O7 (fun ρ=>ρ 4) (iR zV (fun ρ=>Option.map V.list (cW (fun x=>some (V.int 0)) (fun x=>some []) ρ)) (iR t7 (iR R4 (fun ρ=>ρ 5) fun ρ=>(ji uk (cW (fun ρ=>ρ 4) fun x=>some []) ρ).bind fun x=>if x.scalar=true then some x else none) fun x=>some (V.int 1))) ρ)) (fun ρ=>some (ρ,Fl.next)) ρ
   else some (ρ,Fl.next)) ρ=some (upd ρ 4 (.list ((grow cnt b).map .int)),.next):=by
 have hl:(cnt.map V.int).length=cnt.length:=List.length_map ..;have hm:(cnt.map V.int).length<=most:=by rw[hl];exact az hc (by decide)
 have hle:=bY (f:=fun ρ=>ρ 4) h4 (nU _ hm);by_cases q:cnt.length<=b
 ·have hg:grow cnt b=cnt++List.replicate (b-cnt.length+1) 0:=aw q
  have hn:(b:Int)-((cnt.map V.int).length:Int)+1=((b-cnt.length+1:Nat):Int):=by rw[hl,<-Int.ofNat_sub q];rfl
  have hr:List.replicate (b-cnt.length+1) (V.int 0)=(List.replicate (b-cnt.length+1) (0:Int)).map V.int:=List.map_replicate.symm;have hmul:zV (.list [.int 0]) (.int ((b:Int)-((cnt.map V.int).length:Int)+1))=some (.list (List.replicate (b-cnt.length+1) (V.int 0))):=by
   rw[hn,Lk _ _ ⟨ni _,rfl,by omega⟩,lL,List.flatten_replicate_singleton]
  refine mZ (aG h5 hle (congrArg some (bo (by omega)))) (mm (bT h4 (bT rfl (ad (bT h5 (cN hle rfl) rfl) rfl) hmul) ((LP ..).trans (aw ?_))) ?_)
  ·rw[hl,j5]
   exact az (show cnt.length+(b-cnt.length+1)<=1001 by omega) (by decide)
  ·rw[hr,<-List.map_append,<-hg]
 ·have hg:grow cnt b=cnt:=au q
  rw[hg,cj h4];exact ik (aG h5 hle (congrArg some (db (by omega)))) rfl
theorem J1{P:Pk}{n:Nat}{C N}{mN}{W:dJ P C N mN}{tS tT g1 g2 g3 k1 k2}{x:Addr}{ρ:ao}{l:List Nat}(hl:l.length<=1000)(h0:ρ 0=some (.obj [.int (x:Nat)]))(h1:ρ 1=some (.str l)):
  ∃aQ,(DK (P:=P) (n:=n) (C:=C) (N:=N) (mN:=mN) (Yv:=tS) (Yw:=tT) W g1 k1 k2 g2 g3).1 x ρ []=some (aQ,QF l):=by
 unfold DK;dsimp only;refine ex2 ρ h0 h1 fun σ=>lm rfl (i9 rfl) rfl (DL rfl (DL rfl (DL rfl (MW (Q:=WsA x (pK l) l.length) (i9 rfl) (vi (fun c:Nat=>V.str [c]) l (WsI x) _ (fun l₁ c l' ρ hx hR=>?_) (fun ρ hR=>⟨rfl,?_⟩) ⟨([],0,0,0),rfl,⟨rfl,rfl,rfl,rfl,rfl,rfl,rfl⟩,bL _,bL _⟩) fun am hR=>?_))))
 ·obtain⟨⟨cnt,b,nn,nt⟩,hf,hA,hc,hb⟩:=hR
  dsimp only at hA hc hb;have hn:(l₁++[c]).length=l₁.length+1:=aY;have eu:l₁.length<l.length:=by rw[<-hx,aY];exact tL (jf _)
  by_cases e1:c=32
  ·subst e1
   exact hA.ex fun σ=>⟨_,rfl,_,cf (mZ rfl (mm (ad rfl rfl) (mm (ad rfl rfl) rfl))) rfl,.nx ⟨(cnt,b+1,nn+1,nt),bD hf rfl,⟨rfl,rfl,rfl,rfl,rfl,rfl,rfl⟩,by rw[hn];exact ez hc,by rw[hn];exact fP hb⟩⟩
  ·by_cases e2:c=9
   ·subst e2
    have hg:=vL cnt b;have J2:l₁.length+1<=1000:=az eu hl;have Ur:(grow cnt b).length<=l₁.length+1:=az hg.2 (re.mpr ⟨ez hc,fP hb⟩);obtain⟨v,hv⟩:=get_mem hg.1;have Ob:bump cnt b=(grow cnt b).set b (v+1):=by unfold bump;rw[hv];rfl
    have K8:((grow cnt b).map V.int).length=(grow cnt b).length:=List.length_map ..;have hgm:((grow cnt b).map V.int).length<=most:=by rw[K8];exact az (az Ur J2) (by decide)
    have QH:C4 (.list ((grow cnt b).map .int)) (.int b) (.int (v+1))=some (.list ((bump cnt b).map .int)):=by
     rw[OR,aw ⟨ni _,by rw[K8];exact jR.mpr hg.1,hgm⟩,Ob,List.map_set];rfl
    exact hA.ex fun σ=>⟨_,rfl,_,cf (ik rfl (cf (mZ rfl (mm (ad rfl rfl) (mm (ad rfl rfl) (cf (QG (az hc (kL J2)) (az hb (kL J2)) rfl rfl) (Ua (ad (cN (bF rfl rfl (im (by rw[dh,hv];rfl) hgm)) rfl) rfl) rfl rfl QH (mm rfl rfl)))))) rfl)) rfl,.nx ⟨(bump cnt b,0,nn+1,nt+1),bD hf rfl,⟨rfl,rfl,rfl,rfl,rfl,rfl,rfl⟩,by rw[hn,Ob,List.length_set];exact Ur,eK _⟩⟩
   ·have b1:([c]==[32])=false:=kI.mpr fun z=>e1 (tR z).1
    have b2:([c]==[9])=false:=kI.mpr fun z=>e2 (tR z).1
    have hw:pK l=(cnt,b,nn,nt):=by unfold pK;rw[<-hx,jb hf ((au e1).trans (au e2))]
    refine hA.ex fun σ=>⟨_,rfl,_,Jw (ik (congrArg some b1) (Jw (ik (congrArg some b2) (Jw rfl)))),.br ⟨rfl,?_⟩⟩
    rw[hw];exact⟨⟨rfl,rfl,rfl,rfl,rfl,rfl,rfl⟩,az hc (dU eu),az hb (dU eu)⟩
 ·obtain⟨hA,hc,hb⟩:=hR
  have hm:((pK l).1.map V.int).length<=most:=by rw[List.length_map];exact az hc (az hl (by decide))
  have hd:decide ((((pK l).1.map V.int).length:Int)<=1)=decide ((pK l).1.length<=1):=by rw[List.length_map];exact mQ.mpr nc
  exact hA.ex fun σ=>lm rfl (i9 rfl) rfl (lm rfl (i9 rfl) rfl (lm rfl (i9 rfl) (cB (ap (cN rfl ((O3 ..).trans (aw hm))) (ap rfl rfl)) rfl) (lm rfl (i9 rfl) (cB (aG (bY rfl (nU _ hm)) rfl (congrArg some hd)) rfl) ⟨_,rfl⟩)))
 ·obtain⟨s,hf,h⟩:=hR
  have hw:pK l=s:=by unfold pK;rw[hf]
  rw[hw];exact h
noncomputable def vM:Cx:={vars:=[(wd,.local,false),(We,.local,false),(Rf,.local,false),(U5,.local,false),(⟨#[105,108]⟩,.local,false),(⟨#[105]⟩,.local,false)],aV:=[v7,we]}
noncomputable def jG{P:Pk}{n:Nat}{C N:Addr}{mN:Str->Option Value}(W:dJ P C N mN)(aX:P.glob v7=some (.type "range"))(cA:P.glob we=some (.builtin "len")):{f:ao->Option (ao×Fl)//oo P n vM (dW (aO (dX (aO pq.main.body 10)) 3)) f}:=⟨_,(@af _ _ _ _ _ _ _ (@w0 _ _ _ _ _ _ _ _ (@fk _ _ _ _ _ _ _ (bh (aB 2 rfl (by decide) (by decide)) (bh (aB 3 rfl (by decide) (by decide)) eH)) (bA (bA fj)) ir) (dj W 3 rfl (ab 0 rfl rfl rfl) ir) ir ir ir) (@af _ _ _ _ _ _ _ (aI 4 rfl (by decide) ae cz) (@af _ _ _ _ _ _ _ (@dB _ _ _ (false) _ _ _ _ _ _ _ (@cL _ _ _ _ _ _ _ rfl aX (@aa _ _ _ _ _ _ _ _ (ab 1 rfl rfl rfl) (@aa _ _ _ _ _ _ _ _ (aJ rfl cA rfl jq (aa (ab 2 rfl rfl rfl) ag ir) ir (ca _ _)) ag ir) ir) ir (ca _ _)) (aB 5 rfl (by decide) (by decide)) (@af _ _ _ _ _ _ _ (@aI _ _ _ 4 _ _ _ _ _ _ rfl (by decide) (@al _ _ _ _ _ _ _ _ _ _ _ cm (ab 4 rfl rfl rfl) (@al _ _ _ _ _ _ _ _ _ _ _ zW (al nF (ab 5 rfl rfl rfl) (ab 1 rfl rfl rfl)) (aF (ab 2 rfl rfl rfl) (ac (ab 5 rfl rfl rfl)) cz))) cz) ai) cz) (@af _ _ _ _ _ _ _ (@aW _ _ _ _ _ _ (@al _ _ _ _ _ _ _ _ _ _ _ cm (ac (ab 3 rfl rfl rfl)) (@al _ _ _ _ _ _ _ _ _ _ _ zW (ac (ab 1 rfl rfl rfl)) (@al _ _ _ _ _ _ _ _ _ _ _ cm (ac (ab 4 rfl rfl rfl)) (dj W 2 rfl (ac (ab 0 rfl rfl rfl)) ir))))) ai))))⟩
noncomputable def ln:Cx:={vars:=[(wd,.local,false),(Rf,.local,false),(U5,.local,false)],aV:=[Ej,we]}
noncomputable def eh{P:Pk}{n:Nat}{C N:Addr}{mN:Str->Option Value}(W:dJ P C N mN)(fe:P.glob Ej=some (.builtin "max"))(cA:P.glob we=some (.builtin "len")):{f:ao->Option (ao×Fl)//oo P n ln (dW (aO (dX (aO pq.main.body 10)) 2)) f}:=⟨_,(@af _ _ _ _ _ _ _ (@w0 _ _ _ _ _ _ _ _ (@fk _ _ _ _ _ _ _ (bh (aB 1 rfl (by decide) (by decide)) (bh (aB 2 rfl (by decide) (by decide)) eH)) (bA (bA fj)) ir) (dj W 3 rfl (ab 0 rfl rfl rfl) ir) ir ir ir) (@af _ _ _ _ _ _ _ (@aW _ _ _ _ _ _ (@aJ _ _ _ _ _ _ _ _ _ _ _ rfl fe rfl um (@aa _ _ _ _ _ _ _ _ (@al _ _ _ _ _ _ _ _ _ _ _ El (@aJ _ _ _ _ _ _ _ _ _ _ _ rfl cA rfl jq (aa (ac (ab 1 rfl rfl rfl)) ag ir) ir (ca _ _)) ae) (aa (ac (ab 2 rfl rfl rfl)) ag ir) ir) ir (ca _ _))) ai))⟩
noncomputable def MX:Cx:={vars:=[(wd,.local,false),(Fs,.local,false)],aV:=[]}
noncomputable def zz{P:Pk}{n:Nat}{C N:Addr}{mN:Str->Option Value}(W:dJ P C N mN):{f:ao->Option (ao×Fl)//oo P n MX (dW (aO (dX (aO pq.main.body 10)) 4)) f}:=⟨_,(@af _ _ _ _ _ _ _ (@aW _ _ _ _ _ _ (@iX _ _ _ _ _ _ _ _ _ _ _ fi (dj W 3 rfl (ac (ab 0 rfl rfl rfl)) ir) (dj W 3 rfl (ac (ab 1 rfl rfl rfl)) ir) rfl)) ai)⟩
noncomputable def oE:Cx:={vars:=[(wd,.local,false),(Fs,.local,false),(Le,.local,false),(⟨#[97]⟩,.local,true),(Rg,.local,false)],aV:=[Ej,v7]}
noncomputable def fH{P:Pk}{n:Nat}{C N:Addr}{mN:Str->Option Value}(W:dJ P C N mN)(fe:P.glob Ej=some (.builtin "max"))(aX:P.glob v7=some (.type "range")){aP:Addr}{bN:List V->Option V}(bt:mN Ei=some (.ref aP))(aL:∀h,P.G h->∃of fd,h.get? aP=some of/\of.cls= .type "function"/\of.data= .func fd)(bu:typeLookup (.type "object") Ei=pure none)(bv:aZ P n (.ref aP) bN){aE:Addr}{bi:List V->Option V}(bj:mN G7=some (.ref aE))(aK:∀h,P.G h->∃of fd,h.get? aE=some of/\of.cls= .type "function"/\of.data= .func fd)(bk:typeLookup (.type "object") G7=pure none)(bm:aZ P n (.ref aE) bi):{f:ao->Option (ao×Fl)//oo P n oE (dW (aO (dX (aO pq.main.body 10)) 5)) f}:=⟨_,(@af _ _ _ _ _ _ _ (@aI _ _ _ 2 _ _ _ _ _ _ rfl (by decide) (@al _ _ _ _ _ _ _ _ _ _ _ cm (@aJ _ _ _ _ _ _ _ _ _ _ _ rfl fe rfl um (@aa _ _ _ _ _ _ _ _ (bc W (ab 0 rfl rfl rfl) bj aK bk (by decide+kernel) bm ag ir (by decide) rfl ir) (aa (bc W (ab 1 rfl rfl rfl) bj aK bk (by decide+kernel) bm ag ir (by decide) rfl ir) ag ir) ir) ir (ca _ _)) ae) cz) (@af _ _ _ _ _ _ _ (fV 3 rfl (by decide) (fm ag (by decide) len0) cz) (@af _ _ _ _ _ _ _ (@dB _ _ _ (false) _ _ _ _ _ _ _ (@cL _ _ _ _ _ _ _ rfl aX (@aa _ _ _ _ _ _ _ _ ae (aa (al cm (ab 2 rfl rfl rfl) ae) ag ir) ir) ir (ca _ _)) (aB 4 rfl (by decide) (by decide)) (@af _ _ _ _ _ _ _ (@aN _ _ _ _ _ _ _ _ _ _ (@ay _ _ _ _ _ _ _ _ _ _ wf (@bc _ _ _ _ _ _ _ W _ _ _ _ _ _ _ _ _ (ac (ab 0 rfl rfl rfl)) bt aL _ bu (by decide+kernel) bv (aa (ac (ab 4 rfl rfl rfl)) ag ir) ir (by decide) rfl ir) (@bc _ _ _ _ _ _ _ W _ _ _ _ _ _ _ _ _ (ac (ab 1 rfl rfl rfl)) bt aL _ bu (by decide+kernel) bv (aa (ac (ab 4 rfl rfl rfl)) ag ir) ir (by decide) rfl ir) rfl) (@af _ _ _ _ _ _ _ (@eG _ _ _ _ _ _ (@eF _ _ _ 3 _ _ _ _ _ _ _ _ _ rfl rfl rfl ub (@aa _ _ _ _ _ _ _ _ (@de _ _ _ _ _ _ _ _ (@aa _ _ _ _ _ _ _ _ (ab 4 rfl rfl rfl) (@aa _ _ _ _ _ _ _ _ (bc W (ab 0 rfl rfl rfl) bt aL bu (by decide+kernel) bv (aa (ab 4 rfl rfl rfl) ag ir) ir (by decide) rfl ir) (@aa _ _ _ _ _ _ _ _ (bc W (ab 1 rfl rfl rfl) bt aL bu (by decide+kernel) bv (aa (ab 4 rfl rfl rfl) ag ir) ir (by decide) rfl ir) ag ir) ir) ir) (by decide) (ah (ah (ah len0)))) ag ir) ir (by decide) rfl ir) jA ir) ai) ai) ai) cz) (af (aW (dc 3 rfl rfl rfl)) ai))))⟩
noncomputable def Gx(raw MY:V)(n:Int)(nt b:Nat)(cnt:List Int):V:=.obj [raw,.int n,.int nt,.tup [.tup (cnt.map .int),.int b],MY]
noncomputable def Gy(cnt:List Int)(ts:Nat):Int:=(List.range (cnt.length-ts)).foldl (fun il (j:Nat)=>il+((ts+j:Nat):Int)/ts*(cnt[ts+j]?).getD 0) 0
noncomputable def zA(cnt:List Int)(nt b ts:Nat):Int:=b+ts*(Gy cnt ts+nt)
theorem r6(a b:Int):Ny a b 1=(List.range (b-a).toNat).map fun(i:Nat)=>V.int (a+i):=by
 unfold Ny;have e:(Builtin.Range.rangeSize a b 1).toNat=(b-a).toNat:=by
  unfold Builtin.Range.rangeSize;simp;split<;>omega
 rw[e];simp
theorem J3{z:Int}(h0:0<=z)(h1:z<=1000000000000): -(2^64)<z/\z<2^64:=by omega
theorem Oc{cnt:List Int}{ts:Nat}(hc:cnt.length<=1000)(Us:∀z∈cnt,0<=z/\z<=1000):∀(l:List Nat) (a:Int),(∀j∈l,ts+j<cnt.length)->0<=a->0<=l.foldl (fun il (j:Nat)=>il+((ts+j:Nat):Int)/ts*(cnt[ts+j]?).getD 0) a/\l.foldl (fun il (j:Nat)=>il+((ts+j:Nat):Int)/ts*(cnt[ts+j]?).getD 0) a<=a+l.length*1000000
 |[],a,_,h=>⟨h,Int.le_of_eq (Int.add_zero a).symm⟩
 |j::l,a,hj,h=>by
  have Ln:=hj j gI;obtain⟨z,hz⟩:=get_mem Ln;have RL:=Us z (oO hz);have h1:0<=((ts+j:Nat):Int)/ts:=Int.ediv_nonneg (ni _) (ni _);have h2:((ts+j:Nat):Int)/ts<=1000:=oP (Int.ediv_le_self (ts:Int) (ni _)) (nc.mpr (az (dU Ln) hc));have h3:=Int.mul_nonneg h1 RL.1;have h4:((ts+j:Nat):Int)/ts*z<=1000*1000:=Int.mul_le_mul h2 RL.2 RL.1 (by decide);rw[dg,hz,tM,cr];generalize((ts+j:Nat):Int)/ts*z=w at h3 h4;have:=Oc hc Us l (a+w) (fun i hi=>hj i (ge _ hi)) (by omega);exact⟨this.1,by omega⟩
theorem QI{ts n:Nat}(h:n<=1000)(Sw:ts<=1000):nJ [.int ts,.int n]=some ((List.range (n-ts)).map fun(j:Nat)=>V.int ((ts+j:Nat):Int)):=by
 have s6:∀k:Nat,k<=1000->eX (k:Int)=true:=fun k h=>(bX _ _).mpr ⟨bo (oP (by decide) (ni k)),bo (oP (nc.mpr h) (by decide))⟩
 have e:((n:Int)-ts).toNat=n-ts:=Int.toNat_sub ..;rw[ud,s6 ts Sw,s6 n h,r6,e];rfl
theorem Gz{P:Pk}{n:Nat}{C N}{mN}{W:dJ P C N mN}{g1 g2}{ρ:ao}{raw MY:V}{k:Int}{nt b ts:Nat}{cnt:List Int}(hc:cnt.length<=1000)(Us:∀z∈cnt,0<=z/\z<=1000)(hnt:nt<=1000)(Sw:0<ts)(Ut:ts<=1000)(h0:ρ 0=some (Gx raw MY k nt b cnt))(h1:ρ 1=some (.int ts)):
  Ends (jG (P:=P) (n:=n) (C:=C) (N:=N) (mN:=mN) W g1 g2).1 ρ (.int (zA cnt nt b ts)):=by
 have hl:(cnt.map V.int).length=cnt.length:=List.length_map ..;have Dv:(cnt.map V.int).length<=most:=by rw[hl];exact az hc (by decide)
 have hz:0<(ts:Int)/\(ts:Int)<1073741824:=⟨jR.mpr Sw,Int.lt_of_le_of_lt (nc.mpr Ut) (by decide)⟩;unfold jG;dsimp only;refine ex2 ρ h0 h1 fun σ=>bw rfl (bw rfl (eB (fun ρ=>VW 0 1 2 3 4 (Gx raw MY k nt b cnt) (.int ts) (.tup (cnt.map .int)) (.int b) (.int (Gy cnt ts)) ρ) (eT (cN (ap rfl (ap (bY rfl (Js _ Dv)) rfl)) (by rw[hl];exact QI hc Ut)) (lj (fun(j:Nat)=>V.int ((ts+j:Nat):Int)) (List.range (cnt.length-ts)) (fun l ρ=>VW 0 1 2 3 4 (Gx raw MY k nt b cnt) (.int ts) (.tup (cnt.map .int)) (.int b) (.int (l.foldl (fun il (j:Nat)=>il+((ts+j:Nat):Int)/ts*(cnt[ts+j]?).getD 0) 0)) ρ) (fun l j ρ hj eu hR=>?_) ⟨rfl,rfl,rfl,rfl,rfl⟩)) fun am hR=>?_))
 ·have hjr:=ea.mp hj
  obtain⟨z,Yx⟩:=get_mem (l:=cnt) (k:=ts+j) (Nat.add_lt_of_lt_sub' hjr);have RL:=Us z (oO Yx);rw[dF,dg,mM,Yx];exact hR.ex fun σ=>⟨_,_,rfl,mm (ad rfl (bT (bT rfl rfl (E0 _ _ hz)) (bF rfl rfl (Mx (by rw[dh,Yx];rfl) Dv)) (ze _ _ (J3 RL.1 (oP RL.2 (by decide)))))) rfl,⟨rfl,rfl,rfl,rfl,rfl⟩⟩
 ·have hb:0<=Gy cnt ts/\Gy cnt ts<=0+((List.range (cnt.length-ts)).length:Int)*1000000:=Oc hc Us _ 0 (fun j hj=>by have:=ea.mp hj;omega) (Int.le_refl 0)
  rw[eM]at hb;exact hR.ex fun σ=>df (ad rfl (bT rfl (ad rfl rfl) (ze _ _ (J3 (by omega) (by omega)))))
noncomputable def DM:Cx:={vars:=[(G9,.cell,false),(Ri,.local,true),(Wb,.local,false),(⟨#[102,114,111,110,116]⟩,.local,false),(RZ,.local,false),(⟨#[110,117,109,98,101,114]⟩,.local,false)],aV:=[v7,we,G6]}
noncomputable def wA:Cx:={vars:=[(⟨#[107]⟩,.local,false),(G9,.cell,false)],aV:=[]}
noncomputable def pL{P:Pk}{n:Nat}(aX:P.glob v7=some (.type "range"))(cA:P.glob we=some (.builtin "len")){dL:Addr}{iq:List V->Option V}(iu:P.glob G6=some (.ref dL))(iw:∀h,P.G h->∃o fd,h.get? dL=some o/\o.data= .func fd)(iy:aZ P n (.ref dL) iq):{f:ao->Option (ao×Fl)//oo P n DM (dW (aO pq.main.body 66)) f}:=⟨_,(@af _ _ _ _ _ _ _ (fV 1 rfl (by decide) AD cz) (@af _ _ _ _ _ _ _ (@dB _ _ _ (false) _ _ _ _ _ _ _ (@dH _ _ _ _ _ (@fQ _ _ _ _ _ _ (@fW _ _ _ (wA) _ _ _ _ _ _ _ _ _ _ (1) ([0]) (@cL _ _ _ _ _ _ _ rfl aX (@aa _ _ _ _ _ _ _ _ (aJ rfl cA rfl jq (aa (ab 0 rfl rfl rfl) ag ir) ir (ca _ _)) ag ir) ir (ca _ _)) (cu (by decide+kernel)) (aB 0 rfl (by decide) (by decide)) (@gN _ _ _ _ _ (@ay _ _ _ _ _ _ _ _ _ _ fi (@aF _ _ _ _ _ _ _ _ _ (aF (ac (ab 1 rfl rfl rfl)) (ac (ab 0 rfl rfl rfl)) cz) ae cz) ae rfl)) (ab 0 rfl rfl rfl) cz))) (aB 2 rfl (by decide) (by decide)) (@af _ _ _ _ _ _ _ (aI 3 rfl (by decide) (aC rfl) cz) (@af _ _ _ _ _ _ _ (@dB _ _ _ (false) _ _ _ _ _ _ _ (@cL _ _ _ _ _ _ _ rfl aX (@aa _ _ _ _ _ _ _ _ (ab 2 rfl rfl rfl) (@aa _ _ _ _ _ _ _ _ (aJ rfl cA rfl jq (aa (ab 0 rfl rfl rfl) ag ir) ir (ca _ _)) ag ir) ir) ir (ca _ _)) (aB 4 rfl (by decide) (by decide)) (@af _ _ _ _ _ _ _ (@aI _ _ _ 5 _ _ _ _ _ _ rfl (by decide) (@aF _ _ _ _ _ _ _ _ _ (aF (ab 0 rfl rfl rfl) (ac (ab 4 rfl rfl rfl)) cz) ae cz) cz) (@af _ _ _ _ _ _ _ (@cS _ _ _ 3 _ _ _ _ _ _ _ _ rfl (by decide) rfl rfl gQ (@iZ _ _ _ _ _ _ _ _ _ _ _ (ay fi (ac (ab 5 rfl rfl rfl)) ae rfl) (aC rfl) (@iZ _ _ _ _ _ _ _ _ _ _ _ (ay fi (ac (ab 5 rfl rfl rfl)) ae rfl) (aC rfl) (aC rfl)))) (@af _ _ _ _ _ _ _ (@aN _ _ _ _ _ _ _ _ _ _ (@se.all _ _ _ _ _ _ (@E4.cons _ _ _ _ _ _ _ (ay fi (ac (ab 5 rfl rfl rfl)) ae rfl) (@E4.cons _ _ _ _ _ _ _ (@iY _ _ _ _ _ (@bM _ _ _ _ _ _ _ _ _ _ _ rfl iu rfl iw iy (aa (ac (ab 3 rfl rfl rfl)) ag ir) ir (ca _ _)) cz) (@E4.cons _ _ _ _ _ _ _ (@wO _ _ _ _ _ _ (@iY _ _ _ _ _ (@bM _ _ _ _ _ _ _ _ _ _ _ rfl iu rfl iw iy (@aa _ _ _ _ _ _ _ _ (@al _ _ _ _ _ _ _ _ _ _ _ cm (al cm (aC rfl) (ac (ab 3 rfl rfl rfl))) (aC rfl)) ag ir) ir (ca _ _)) cz)) E4.nil)))) (af (uj 1 rfl rfl rfl NH (ab 4 rfl rfl rfl) (ab 2 rfl rfl rfl) ir) (af wU ai)) ai) ai))) cz) ai)) cz) (af (aW (dc 1 rfl rfl rfl)) ai)))⟩
noncomputable def eD(d k:Nat):Sum Nat Unit:=if k=7 then .inl (d+1)else if k=8 then(if d=0 then .inr ()else .inl (d-1))else .inl d
noncomputable def wB(ks:List Nat):Bool:=match bp eD ks 0 with
 | .inl d=>d==0
 | .inr _=>false
noncomputable def sF(k:Nat):List (List Nat):=if k=7 then [[34],[41],[34],[40]]else if k=8 then [[92,40],[41]]else []
noncomputable def GA(k:Nat):List (List Nat):=if k=7 then [[40]]else if k=8 then [[92,40],[41]]else []
noncomputable def fJ(ks:List Nat):List Nat:=((ks.map sF).flatten).flatten
theorem MZ(k:Nat):(sF k).flatten=if k=7 then [34,41,34,40]else if k=8 then [92,40,41]else []:=by
 unfold sF;split
 ·rfl
 ·split<;>rfl
theorem my(ks:List Nat)(k:Nat):fJ (ks++[k])=fJ ks++(sF k).flatten:=by
 unfold fJ;rw[List.map_append,bR,bR,po,gJ]
theorem vN(k:Nat):(∀u∈sF k,wu u=true)/\(∀u∈GA k,wu u=true)/\(sF k).flatten.length<=4/\(sF k).length<=4:=by
 unfold sF GA;split
 ·exact⟨by decide,by decide,by decide,by decide⟩
 ·split
  ·exact⟨by decide,by decide,by decide,by decide⟩
  ·exact⟨by decide,by decide,by decide,by decide⟩
theorem r7:∀ks:List Nat,(fJ ks).length<=4*ks.length/\((ks.map sF).flatten).length<=4*ks.length
 |[]=>⟨bL _,bL _⟩
 |k::ks=>by
  obtain⟨h1,h2⟩:=r7 ks;obtain⟨_,_,h3,h4⟩:=vN k;unfold fJ at*;rw[bB,eQ,bR,aY,aY,cr];omega
theorem vO:∀(ks:List Nat) (k:List (List Nat)),((ks.map sF).flatten).foldl cx (k,none)=(k++(ks.map GA).flatten,none)
 |[],k=>by rw[pk,pk,List.flatten_nil,dZ];rfl
 |x::ks,k=>by
  have h:(sF x).foldl cx (k,none)=(k++GA x,none):=by
   unfold sF GA;split
   ·rfl
   ·split
    ·show(k++[[92,40]]++[[41]],none)=_
     rw[List.append_assoc];rfl
    ·rw[dZ];rfl
  rw[bB,bB,eQ,eQ,dF,h,vO ks,List.append_assoc]
theorem qD:∀(ks:List Nat) (d:Nat),bp nY ((ks.map GA).flatten) d=bp eD ks d
 |[],d=>rfl
 |x::ks,d=>by
  rw[bB,eQ,ja,fb];unfold GA eD;by_cases q:x=7
  ·rw[aw q,aw q]
   exact qD ks (d+1)
  ·rw[au q,au q]
   by_cases q8:x=8
   ·rw[aw q8,aw q8]
    by_cases qd:d=0
    ·rw[aw qd,qd];rfl
    ·rw[au qd]
     have:bp nY [[92,40],[41]] d= .inl (d-1):=by
      have e41:nY d [41]= .inl (d-1):=by unfold nY;rw[au (by decide),aw rfl,au qd]
      rw[fb];show bp nY [[41]] d=_;rw[fb,e41];rfl
     rw[this];exact qD ks (d-1)
   ·rw[au q8,au q8]
    exact qD ks d
noncomputable def QJ(F:List V->Option V):Prop:=∀ks:List Nat,ks.length<=40->F [.str (fJ ks)]=some (.bool (wB ks))/\F [.str ([41]++fJ ks++[40])]=some (.bool false)
theorem Uu{F1 F:List V->Option V}(ux:∀us,m4 us=true->us.flatten.length<=10000->us.length<=10000->F1 [.str us.flatten]=some (.str (fB us).flatten))
  (hF:∀t ws,F1 [.str t]=some (.str (List.flatten ws))->m4 ws=true->ws.flatten.length<=10000->F [.str t]=some (.bool (pD ws))):QJ F:=fun ks hl=>by
 have VY:∀us:List (List Nat),(∀u∈us,wu u=true)->m4 us=true:=fun us h=>by
  have:=qC (us:=us) (vs:=[]) h rfl;rwa[dZ]at this
 have h1:∀u∈(ks.map sF).flatten,wu u=true:=fun u hu=>by
  obtain⟨us,hus,hu⟩:=List.mem_flatten.mp hu;obtain⟨k,_,rfl⟩:=dt.mp hus;exact(vN k).1 u hu
 have h2:∀u∈(ks.map GA).flatten,wu u=true:=fun u hu=>by
  obtain⟨us,hus,hu⟩:=List.mem_flatten.mp hu;obtain⟨k,_,rfl⟩:=dt.mp hus;exact(vN k).2.1 u hu
 obtain⟨l1,l2⟩:=r7 ks;have l1':((ks.map sF).flatten).flatten.length<=160:=az l1 (jg 4 hl);have l2':((ks.map sF).flatten).length<=160:=az l2 (jg 4 hl);constructor
 ·have hs:fB ((ks.map sF).flatten)=(ks.map GA).flatten:=by
   unfold fB;rw[vO];show []++_++[]=_;rw[dZ,gh]
  have:=ux _ (VY _ h1) (az l1' (by decide)) (az l2' (by decide));rw[hs]at this;refine(hF _ _ this (VY _ h2) (by have:=qr ((ks.map sF).flatten);rw[hs]at this;omega)).trans ?_;refine congrArg (fun z=>some (V.bool z)) ?_;have e:=qD ks 0;unfold pD wB;generalize bp nY (ks.map GA).flatten 0=A at*;subst e;cases bp eD ks 0<;>rfl
 ·have h3:∀u∈[[41]]++(ks.map sF).flatten++[[40]],wu u=true:=fun u hu=>by
   rcases bZ.mp hu with hu|hu
   ·rcases bZ.mp hu with hu|hu
    ·rw[cq.mp hu];rfl
    ·exact h1 u hu
   ·rw[cq.mp hu];rfl
  have h4:∀u∈[[41]]++(ks.map GA).flatten++[[40]],wu u=true:=fun u hu=>by
   rcases bZ.mp hu with hu|hu
   ·rcases bZ.mp hu with hu|hu
    ·rw[cq.mp hu];rfl
    ·exact h2 u hu
   ·rw[cq.mp hu];rfl
  have pT:([[41]]++(ks.map sF).flatten++[[40]]).flatten=[41]++fJ ks++[40]:=by
   rw[bR,bR];rfl
  have hs:fB ([[41]]++(ks.map sF).flatten++[[40]])=[[41]]++(ks.map GA).flatten++[[40]]:=by
   have e:([[41]]++(ks.map sF).flatten++[[40]]).foldl cx ([],none)=([[41]]++(ks.map GA).flatten++[[40]],none):=by
    rw[dF,dF];show([[40]]:List (List Nat)).foldl cx ((ks.map sF).flatten.foldl cx ([[41]],none))=_;rw[vO];rfl
   unfold fB;rw[e];exact dZ _
  have:=ux _ (VY _ h3) (by rw[bR,bR,aY,aY];show 1+_+1<=_;omega) (by rw[aY,aY];show 1+_+1<=_;omega);rw[hs,pT]at this;refine(hF _ _ this (VY _ h4) (by have:=qr ([[41]]++(ks.map sF).flatten++[[40]]);rw[hs,pT,aY,aY]at this;have l3:(fJ ks).length<=160:=l1';have e1:[41].length=1:=rfl;have e2:[40].length=1:=rfl;omega)).trans ?_;rfl
theorem QK{f g:ao->Option (ao×Fl)}{ρ am:ao}{Q:ao×Fl->Prop}(h:f ρ=some (am,.next))(hg:∃r,g am=some r/\Q r):∃r,eW f g ρ=some r/\Q r:=by
 obtain⟨r,e,q⟩:=hg;exact⟨r,cN h e,q⟩
theorem J4{f:ao->Option (ao×Fl)}{ρ:ao}{Q:ao->Prop}(h:∃r,f ρ=some r/\r.2= .next/\Q r.1):∃r,eW f (fun ρ=>some (ρ,.next)) ρ=some r/\r.2= .next/\Q r.1:=by
 obtain⟨⟨am,fl⟩,e,rfl,q⟩:=h;exact⟨(am,.next),cN e rfl,rfl,q⟩
noncomputable def RM(pre:List Nat)(x:Nat):Sum (List Nat) Nat:=if x=8/\wB (pre++[x])=true then .inr pre.length else .inl (pre++[x])
noncomputable def fZ(ks:List Nat):Option Nat:=match bp RM ks []with
 | .inr p=>some p
 | .inl _=>none
noncomputable def zT(ks:List Nat)(st:List (Nat×Nat))(k:Nat):List (Nat×Nat):=match fZ (ks.drop k)with
 |some p=>st++[(k,k+p)]
 |none=>st
noncomputable def mz(ks:List Nat):List Nat:=(List.range ks.length).filter fun k=>decide (ks[k]?=some 7)
noncomputable def iN(ks:List Nat):List (Nat×Nat):=(mz ks).foldl (zT ks) []
noncomputable def dV(st:List (Nat×Nat)):V:=.dict (st.map fun e=>(e.1:Int)) (st.map fun e=>V.int e.2)
theorem BE(ks:List Nat):∀(l:List Nat) (st:List (Nat×Nat)),(∀e∈l.foldl (zT ks) st,e.1∈l\/e∈st)/\(l.foldl (zT ks) st).length<=st.length+l.length
 |[],st=>⟨fun e h=>.inr h,bL _⟩
 |k::l,st=>by
  obtain⟨h1,h2⟩:=BE ks l (zT ks st k);have h3:(∀e∈zT ks st k,e.1=k\/e∈st)/\(zT ks st k).length<=st.length+1:=by
   unfold zT;split
   ·refine⟨fun e he=>?_,by rw[aY];exact bL _⟩
    rcases bZ.mp he with he|he
    ·exact .inr he
    ·rw[cq.mp he];exact .inl rfl
   ·exact⟨fun e he=>.inr he,kH _⟩
  rw[dg,cr];refine⟨fun e he=>?_,by omega⟩;rcases h1 e he with q|q
  ·exact .inl (.tail _ q)
  ·rcases h3.1 e q with q|q
   ·exact .inl (q▸ .head _)
   ·exact .inr q
inductive EnI(ev d:V)(k:Nat)(pre:List Nat)(ρ:ao):Prop
 |mk (h:Qm 0 1 2 3 ev d (.int k) (.str (fJ pre)) ρ) (hc:bp RM pre []= .inl pre)
inductive Yy(ev:V)(st:List (Nat×Nat))(ρ:ao):Prop
 |mk (h0:ρ 0=some ev) (h1:ρ 1=some (dV st))
theorem J5{k n:Nat}(hk:k<=n)(hn:n<=40):nJ [.int k,.int n]=some ((List.range (n-k)).map fun(j:Nat)=>V.int ((k+j:Nat):Int)):=by
 have h6:(eX (k:Int)&&eX (n:Int))=true:=(bX _ _).mpr ⟨(bX _ _).mpr ⟨bo (by omega),bo (by omega)⟩,(bX _ _).mpr ⟨bo (by omega),bo (by omega)⟩⟩;have hz:((n:Int)-(k:Int)).toNat=n-k:=by omega
 rw[ud,h6,r6,hz];exact congrArg some (lK fun j ø=>congrArg V.int (by omega))
theorem J6{n:Nat}(hn:n<=40):nJ [.int n]=some ((List.range n).map fun(j:Nat)=>V.int (j:Int)):=by
 have h6:eX (n:Int)=true:=(bX _ _).mpr ⟨bo (by omega),bo (by omega)⟩;have hz:((n:Int)-0).toNat=n:=by omega
 rw[HA,h6,r6,hz];exact congrArg some (lK fun j ø=>congrArg V.int (by omega))
theorem J7{P:Pk}{n:Nat}{g1 g2 a3 F3 g3 h3 c3}{ρ:ao}{bg:List sx}(hl:bg.length<=40)(hF:QJ F3)(h0:ρ 0=some (.list (bg.map sy))):
  Ends (pL (P:=P) (n:=n) g1 g2 (dL:=a3) (iq:=F3) g3 h3 c3).1 ρ (dV (iN (bg.map (·.2)))):=by
 have Dv:(bg.map sy).length<=most:=by rw[List.length_map];exact az hl (by decide)
 have DN:∀{k:Nat} {e:sx},bg[k]?=some e->iJ (.list (bg.map sy)) (.int k)=some (sy e):=fun h=>im (by rw[dh,h];rfl) Dv
 have RN:∀{k:Nat} {e:sx},bg[k]?=some e->(bg.map (·.2))[k]?=some e.2:=fun h=>by rw[dh,h];rfl
 have Df:iN (bg.map (·.2))=((List.range bg.length).filter fun k=>decide ((bg.map (·.2))[k]?=some 7)).foldl (zT (bg.map (·.2))) []:=by
  unfold iN mz;rw[List.length_map]
 rw[Df];unfold pL;dsimp only;refine ex1 ρ h0 fun σ=>bw rfl (eB (Yy (.list (bg.map sy)) (((List.range bg.length).filter fun k=>decide ((bg.map (·.2))[k]?=some 7)).foldl (zT (bg.map (·.2))) [])) (eT (cN (jp (fun ρ=>ρ 1=some (.list (bg.map sy))) (List.range bg.length) (fun(k:Nat)=>V.int k) (fun k=>decide ((bg.map (·.2))[k]?=some 7)) (fun(k:Nat)=>V.int k) (cN (ap (bY rfl (nU _ Dv)) rfl) (by rw[List.length_map];exact J6 hl)) (by rw[eM];exact fq hl (by decide)) (fun k hk ρ hI=>?_) rfl) rfl) (qq (fun(k:Nat)=>V.int k) ((List.range bg.length).filter fun k=>decide ((bg.map (·.2))[k]?=some 7)) (fun l ρ=>Yy (.list (bg.map sy)) (l.foldl (zT (bg.map (·.2))) []) ρ) (fun l k l' ρ hx hR=>?_) ⟨rfl,rfl⟩)) fun am hR=>df hR.2)
 ·obtain⟨e,he⟩:=get_mem (ea.mp hk)
  refine ex1 ρ hI fun σ=>⟨_,rfl,rfl,(aG (bF (bF rfl rfl (DN he)) rfl rfl) rfl (bU _ _)).trans (congrArg some ?_),fun ø=>rfl⟩
  rw[RN he];exact mQ.mpr ⟨fun h=>congrArg some (Int.ofNat_inj.mp h),fun h=>congrArg Int.ofNat (Option.some.inj h)⟩
 ·have ou:k∈(List.range bg.length).filter fun k=>decide ((bg.map (·.2))[k]?=some 7):=hx▸ck _ gI
  have Od:k<bg.length:=ea.mp (gw.mp ou).1;have EL:k∉l:=fun hk=>by
   have:(l++k::l').Nodup:=hx▸(List.nodup_range.filter _);exact(lI.mp this).2.2 k hk k (.head _) rfl
  have Ul:l.length<=40:=by
   have:(l++k::l').length<=bg.length:=by
    rw[hx];have:=rf (fun k=>decide ((bg.map (·.2))[k]?=some 7)) (List.range bg.length);rwa[eM]at this
   rw[aY]at this;omega
  obtain⟨Uv,hlen⟩:=BE (bg.map (·.2)) l [];rw[dF,dg,mM];generalize l.foldl (zT (bg.map (·.2))) []=st at*;have RC:∀e∈st,e.1≠k:=fun e he q=>(Uv e he).elim (fun z=>EL (q▸z)) fun z=>nomatch z
  have H9:C4 (dV st) (.int k) (.int (k:Nat))=C4 (dV st) (.int k) (.int (k:Nat)):=rfl;have QH:∀p:Nat,C4 (dV st) (.int k) (.int (p:Nat))=some (dV (st++[(k,p)])):=fun p=>by
   have hc:(st.map fun e=>(e.1:Int)).contains (k:Int)=false:=by
    rw[List.contains_eq_mem];refine db fun q=>?_
    obtain⟨e,he,q⟩:=dt.mp q;exact RC e he (Int.ofNat_inj.mp q)
   unfold dV;rw[OQ,aw (by rw[List.length_map];exact az hlen (az (by rw[gx,gg];exact Ul) (by decide)))];unfold wY Aj;rw[hc,au (by decide),au (by decide),List.map_append,List.map_append];rfl
  have ab3:(bg.map (·.2)).length<=40:=by rw[List.length_map];exact hl
  refine ex2 ρ hR.1 hR.2 fun σ=>⟨_,rfl,QK rfl (J4 (eT (cN (ap rfl (ap (bY rfl (nU _ Dv)) rfl)) (by rw[List.length_map];exact J5 (dU Od) hl)) (Bj (fun i ρ=>EnI (.list (bg.map sy)) (dV st) k (((bg.map (·.2)).drop k).take i) ρ) (fun r=>r.2= .next/\Yy (.list (bg.map sy)) (zT (bg.map (·.2)) st k) r.1) (fun i x ρ hx hR=>?_) (fun ρ hR=>⟨rfl,?_⟩) ⟨⟨rfl,rfl,rfl,rfl⟩,rfl⟩)))⟩
  ·rw[dh]at hx
   refine cI hx fun j hj e=>?_
   obtain rfl:i=j:=by
    have:=gG.mp hj;have:=this.2;simpa using this
   subst e;have hi:i<bg.length-k:=by
    have:=(gG.mp hj).1;rwa[eM]at this
   obtain⟨e,he⟩:=get_mem (l:=bg) (k:=k+i) (by omega);have hd:((bg.map (·.2)).drop k)[i]?=some e.2:=by rw[tH];exact RN he
   have hdr:((bg.map (·.2)).drop k).take (i+1)=((bg.map (·.2)).drop k).take i++[e.2]:=by rw[xP,hd];rfl
   have Ft:((bg.map (·.2)).drop k).take i++e.2::((bg.map (·.2)).drop k).drop (i+1)=(bg.map (·.2)).drop k:=by
    have h1:=gG.mp hd;rw[<-h1.2,<-List.drop_eq_getElem_cons h1.1,xV]
   have Ab:(((bg.map (·.2)).drop k).take i).length=i:=by
    rw[tK,nB,List.length_map];omega
   obtain⟨hA,hc⟩:=hR;rw[hdr];generalize Ti:((bg.map (·.2)).drop k).take i=pre at*;have hle:(pre++[e.2]).length<=40:=by rw[aY,Ab];show i+1<=40;omega
   obtain⟨f1,f2⟩:=hF _ hle;have pT:=(r7 (pre++[e.2])).1;rw[my,aY]at pT;have hm1:(fJ pre).length+(sF e.2).flatten.length<=most:=az pT (az (jg 4 hle) (by decide));have XR:[41].length+(fJ (pre++[e.2])).length<=most:=by rw[my,aY];exact az (mP (az pT (jg 4 hle)) 1) (by decide)
   have hm3:([41]++fJ (pre++[e.2])).length+[40].length<=most:=by rw[aY,my,aY];exact az (jO (mP (az pT (jg 4 hle)) 1) 1) (by decide)
   have JW:Aq (.str (fJ pre)) (.str (sF e.2).flatten)=some (.str (fJ (pre++[e.2]))):=by rw[fc _ _ hm1,my]
   have hfr:∀aQ:ao,aQ 5=some (.int e.2)->CI (eU m6 (fun ρ=>ρ 5) fun x=>some (V.int 7)) (fun x=>some (V.str [34,41,34,40])) (CI (eU m6 (fun ρ=>ρ 5) fun x=>some (V.int 8)) (fun x=>some (V.str [92,40,41])) fun x=>some (V.str [])) aQ=some (.str (sF e.2).flatten):=fun aQ h5=>by
    rw[MZ];by_cases q7:e.2=7
    ·rw[aw q7];exact mZ (aG h5 rfl ((bU _ _).trans (congrArg some (bo (by rw[q7];rfl))))) rfl
    ·rw[au q7]
     refine ik (aG h5 rfl ((bU _ _).trans (congrArg some (db (by omega))))) ?_;by_cases q8:e.2=8
     ·rw[aw q8];exact mZ (aG h5 rfl ((bU _ _).trans (congrArg some (bo (by rw[q8];rfl))))) rfl
     ·rw[au q8];exact ik (aG h5 rfl ((bU _ _).trans (congrArg some (db (by omega))))) rfl
   have BA:∀aQ:ao,aQ 5=some (.int e.2)->aQ 3=some (.str (fJ (pre++[e.2])))->on (eU m6 (fun ρ=>ρ 5) fun x=>some (V.int 8)) (on (fun ρ=>(ji F3 (cW (fun ρ=>ρ 3) fun x=>some []) ρ).bind pt) (on (fun ρ=>Option.map (fun x=>!x) ((ji F3 (cW (iR t7 (iR t7 (fun x=>some (V.str [41])) fun ρ=>ρ 3) fun x=>some (V.str [40])) fun x=>some []) ρ).bind pt)) fun x=>some true)) aQ=some (decide ((e.2:Int)=8)&&(wB (pre++[e.2])&&((!false)&&true))):=fun aQ h5 h3=>
    gB (aG h5 rfl (bU _ _)) (gB (cN (bY h3 f1) rfl) (gB (cB (cN (bY (bT (bT rfl h3 (fo _ _ XR)) rfl (fo _ _ hm3)) f2) rfl) rfl) rfl))
   refine hA.ex fun σ=>?_
   cases hb:decide ((e.2:Int)=8)&&(wB (pre++[e.2])&&((!false)&&true))with
   |true=>
    have hq:e.2=8/\wB (pre++[e.2])=true:=by
     simp only[bX,mI]at hb;exact⟨by omega,hb.2.1⟩
    have Cd:fZ ((bg.map (·.2)).drop k)=some i:=by unfold fZ;rw[<-Ft,jb hc (aw hq)];exact congrArg some Ab
    have hr:zT (bg.map (·.2)) st k=st++[(k,k+i)]:=by unfold zT;rw[Cd]
    rw[hr];exact⟨_,_,rfl,mm (bF (bF rfl rfl (DN he)) rfl rfl) (ow rfl (hfr _ rfl) JW (Jw (mZ ((BA _ rfl rfl).trans (congrArg some hb)) (Ua rfl rfl rfl (QH (k+i)) (Jw rfl))))),rfl,rfl,rfl⟩
   |false=>
    have hq:¬(e.2=8/\wB (pre++[e.2])=true):=fun q=>by
     rw[q.2,bo (show(e.2:Int)=8 by rw[q.1];rfl)]at hb;cases hb
    exact⟨_,_,rfl,mm (bF (bF rfl rfl (DN he)) rfl rfl) (ow rfl (hfr _ rfl) JW (cf (ik ((BA _ rfl rfl).trans (congrArg some hb)) rfl) rfl)),⟨rfl,rfl,rfl,rfl⟩,bD hc (au hq)⟩
  ·obtain⟨hA,hc⟩:=hR
   rw[List.length_map,eM,qR (by rw[nB,List.length_map];exact bL _)]at hc;have hr:zT (bg.map (·.2)) st k=st:=by
    have Cd:fZ ((bg.map (·.2)).drop k)=none:=by unfold fZ;rw[hc]
    unfold zT;rw[Cd]
   rw[hr];exact⟨hA.1,hA.2⟩
noncomputable def zB:Cx:={vars:=[(G9,.cell,false),(Ri,.cell,false),(Ha,.cell,false),(⟨#[108,101,97,100]⟩,.local,false),(Rk,.local,false),(RZ,.cell,false),(⟨#[97,114,111,117,110,100]⟩,.local,false)],aV:=[v7,we,CH]}
noncomputable def sO:Cx:={vars:=[(⟨#[107]⟩,.local,false),(Ha,.cell,false),(G9,.cell,false)],aV:=[]}
noncomputable def sP:Cx:={vars:=[(⟨#[107]⟩,.local,false),(Ha,.cell,false),(RZ,.cell,false),(Ri,.cell,false),(G9,.cell,false)],aV:=[]}
noncomputable def mB{P:Pk}{n:Nat}(aX:P.glob v7=some (.type "range"))(cA:P.glob we=some (.builtin "len"))(iU:P.glob CH=some (.ref C)){J8:List V->Option (List V)}(wC:Do P n C J8):{f:ao->Option (ao×Fl)//oo P n zB (dW (aO pq.main.body 67)) f}:=⟨_,(@af _ _ _ _ _ _ _ (@gP _ _ _ ([(3,⟨#[108,101,97,100]⟩,.local,false),(4,Rk,.local,false)]) ([_,_]) _ _ _ _ _ _ _ ⟨by decide+kernel,by decide+kernel⟩ rfl (fX.dat (aC rfl) (fX.dat (aC rfl) fX.nil ir) ir) (by decide) (ah (ah len0)) kg.len ir (Ml rfl rfl)) (@af _ _ _ _ _ _ _ (@dB _ _ _ (false) _ _ _ _ _ _ _ (@dH _ _ _ _ _ (@fQ _ _ _ _ _ _ (@fW _ _ _ (sO) _ _ _ _ _ _ _ _ _ _ (1) ([2,0]) (@cL _ _ _ _ _ _ _ rfl aX (@aa _ _ _ _ _ _ _ _ (aJ rfl cA rfl jq (aa (ab 0 rfl rfl rfl) ag ir) ir (ca _ _)) ag ir) ir (ca _ _)) (cu (by decide+kernel)) (aB 0 rfl (by decide) (by decide)) (@gN _ _ _ _ _ (@ay _ _ _ _ _ _ _ _ _ _ fi (@aF _ _ _ _ _ _ _ _ _ (aF (ac (ab 2 rfl rfl rfl)) (ac (ab 0 rfl rfl rfl)) cz) ae cz) (ac (ab 1 rfl rfl rfl)) rfl)) (ab 0 rfl rfl rfl) cz))) (aB 5 rfl (by decide) (by decide)) (@af _ _ _ _ _ _ _ (@aI _ _ _ 6 _ _ _ _ _ _ rfl (by decide) (@aJ _ _ _ _ _ _ _ _ _ _ _ rfl cA rfl jq (@aa _ _ _ _ _ _ _ _ (@fQ _ _ _ _ _ _ (@fW _ _ _ (sP) _ _ _ _ _ _ _ _ _ _ (1) ([2,5,1,0]) (Dx (ab 1 rfl rfl rfl)) (cu (by decide+kernel)) (aB 0 rfl (by decide) (by decide)) (@gN _ _ _ _ _ (@gk _ _ _ _ _ _ _ _ (@ay _ _ _ _ _ _ _ _ _ _ fi (@aF _ _ _ _ _ _ _ _ _ (aF (ac (ab 4 rfl rfl rfl)) (ac (ab 0 rfl rfl rfl)) cz) ae cz) (ac (ab 1 rfl rfl rfl)) rfl) (@vm _ _ _ _ _ _ _ _ _ _ _ _ _ _ OD Hp (ac (ab 0 rfl rfl rfl)) (ac (ab 2 rfl rfl rfl)) (aF (ac (ab 3 rfl rfl rfl)) (ac (ab 0 rfl rfl rfl)) cz) rfl))) (ab 0 rfl rfl rfl) cz)) ag ir) ir (ca _ _)) cz) (@af _ _ _ _ _ _ _ (@aN _ _ _ _ _ _ _ _ _ _ (@se.or _ _ _ _ _ _ _ _ (@ay _ _ _ _ _ _ _ _ _ _ fi (@aF _ _ _ _ _ _ _ _ _ (aF (ac (ab 0 rfl rfl rfl)) (ac (ab 5 rfl rfl rfl)) cz) ae cz) ae rfl) (ay R6 (ac (ab 6 rfl rfl rfl)) ae rfl)) (@af _ _ _ _ _ _ _ (@cS _ _ _ 3 _ _ _ _ _ _ _ _ rfl (by decide) rfl rfl gQ (al cm (al zW (aC rfl) (ab 6 rfl rfl rfl)) (aC rfl))) ai) (af (cS 4 rfl (by decide) rfl rfl gQ (aC rfl)) ai)) ai)) cz) (@af _ _ _ _ _ _ _ (@aW _ _ _ _ _ _ (@em.mk _ _ _ _ _ _ wC _ _ _ _ _ rfl iU rfl (@aa _ _ _ _ _ _ _ _ (@al _ _ _ _ _ _ _ _ _ _ _ cm (@al _ _ _ _ _ _ _ _ _ _ _ cm (al cm (ac (ab 3 rfl rfl rfl)) (ac (ab 4 rfl rfl rfl))) (ac (ab 2 rfl rfl rfl))) (aC rfl)) ag ir) ir)) ai)))⟩
noncomputable def DO(bg:List sx)(nm:List Nat)(k:Nat):Bool:=decide ((bg[k]?).map (·.1)=some nm)
noncomputable def dq(bg:List sx)(st:List (Nat×Nat))(nm:List Nat)(p:Nat):Nat:=(st.filter fun e=>DO bg nm e.1&&(decide (e.1<p)&&decide (p<=e.2))).length
noncomputable def ga(f:Nat->Nat)(ks:List Nat)(st:List Nat×Nat)(p:Nat):List Nat×Nat:=if ks[p]?=some 7\/0<f p then(st.1++[f p],st.2)else(st.1,st.2+1)
noncomputable def th(bg:List sx)(nm:List Nat):List Nat:=(List.range bg.length).filter (DO bg nm)
noncomputable def mC(bg:List sx)(st:List (Nat×Nat))(nm:List Nat):List Nat×Nat:=(th bg nm).foldl (ga (dq bg st nm) (bg.map (·.2))) ([],0)
noncomputable def iO(rs:List Nat):List Nat:=(rs.map fun r=>List.replicate r 32++[9]).flatten
noncomputable def DP(x:List Nat×Nat)(nm:List Nat):List Nat:=iO x.1++List.replicate x.2 32++nm++[32,9,32]
theorem xo(rs:List Nat)(r:Nat):iO (rs++[r])=iO rs++(List.replicate r 32++[9]):=by
 unfold iO;rw[List.map_append,bR,po,gJ]
theorem vP(f:Nat->Nat)(ks:List Nat)(m:Nat)(hf:∀p,f p<=m):∀(l:List Nat) (st:List Nat×Nat),(iO (l.foldl (ga f ks) st).1).length+(l.foldl (ga f ks) st).2<=(iO st.1).length+st.2+(m+1)*l.length
 |[],st=>bL _
 |p::l,st=>by
  rw[dg,cr];have ih:=vP f ks m hf l (ga f ks st p);have h1:(iO (ga f ks st p).1).length+(ga f ks st p).2<=(iO st.1).length+st.2+(m+1):=by
   unfold ga;have:=hf p;split
   ·rw[xo,aY,aY,j5]
    show _+(f p+1)+st.2<=_;omega
   ·show _+(st.2+1)<=_
    omega
  rw[Nat.mul_add_one];omega
theorem rep1(n c:Nat):(List.replicate n [c]).flatten=List.replicate n c:=by
 induction n with
 |zero=>rfl
 |succ n ih=>rw[qM,eQ,ih,qM];rfl
theorem Fe:∀{st:List (Nat×Nat)},(st.map (·.1)).Nodup->∀e∈st,pY (st.map fun e=>(e.1:Int)) (st.map fun e=>V.int e.2) (e.1:Int)=some (.int e.2)
 |[],_,e,he=>nomatch he
 |x::st,hn,e,he=>by
  rw[bB,bB,sV];rw[bB,mK]at hn;rcases bI.mp he with rfl|he
  ·exact aw rfl
  ·rw[au fun z=>hn.1 (dt.mpr ⟨e,he,(Int.ofNat_inj.mp z).symm⟩)]
   exact Fe hn.2 e he
inductive InI(ev d:V)(nm:List Nat)(st:List Nat×Nat)(ρ:ao):Prop
 |mk (h0:ρ 0=some ev) (h1:ρ 1=some d) (h2:ρ 2=some (.str nm)) (h3:ρ 3=some (.str (iO st.1))) (h4:ρ 4=some (.str (List.replicate st.2 32)))
theorem DQ{P:Pk}{n:Nat}{C g1 g2 g3 F m}{ρ:ao}{bg:List sx}{st:List (Nat×Nat)}{nm:List Nat}(hl4:bg.length<=24)(iS:st.length<=24)(EL:(st.map (·.1)).Nodup)(Pe:∀e∈st,e.1<bg.length)(K9:nm.length<=3)(hF:∀l:List Nat,l.length<=1000->F [.str l]=some (QF l))
  (h0:ρ 0=some (.list (bg.map sy))) (h1:ρ 1=some (dV st)) (h2:ρ 2=some (.str nm)):
  Ends (mB (C:=C) (P:=P) (n:=n) g1 g2 g3 (J8:=F) m).1 ρ (.obj (QF (DP (mC bg st nm) nm))):=by
 have hl:bg.length<=40:=az hl4 (by decide);have Dv:(bg.map sy).length<=most:=by rw[List.length_map];exact az hl (by decide)
 have DN:∀{k:Nat} {e:sx},bg[k]?=some e->iJ (.list (bg.map sy)) (.int k)=some (sy e):=fun h=>im (by rw[dh,h];rfl) Dv
 have Uw:∀{k:Nat} {e:sx},bg[k]?=some e->DO bg nm k=(e.1==nm):=fun h=>by
  unfold DO;rw[h,ly,nj,jN];exact⟨Option.some.inj,congrArg some⟩
 have Yz:∀p,dq bg st nm p<=24:=fun p=>az (rf _ _) iS
 have Ab:(th bg nm).length<=24:=by
  have:=rf (DO bg nm) (List.range bg.length);rw[eM]at this;exact az this hl4
 unfold mB;dsimp only;refine ex3 ρ h0 h1 h2 fun σ=>bw rfl (eB (InI (.list (bg.map sy)) (dV st) nm (mC bg st nm)) (eT (cN (jp (fun ρ=>ρ 1=some (.str nm)/\ρ 2=some (.list (bg.map sy))) (List.range bg.length) (fun(k:Nat)=>V.int k) (DO bg nm) (fun(k:Nat)=>V.int k) (cN (ap (bY rfl (nU _ Dv)) rfl) (by rw[List.length_map];exact J6 hl)) (by rw[eM];exact fq hl (by decide)) (fun k hk ρ hI=>?_) ⟨rfl,rfl⟩) rfl) (lj (fun(k:Nat)=>V.int k) (th bg nm) (fun l ρ=>InI (.list (bg.map sy)) (dV st) nm (l.foldl (ga (dq bg st nm) (bg.map (·.2))) ([],0)) ρ) (fun l p ρ hp eu hR=>?_) ⟨rfl,rfl,rfl,rfl,rfl⟩)) fun am hR=>?_)
 ·obtain⟨e,he⟩:=get_mem (ea.mp hk)
  exact ex2 ρ hI.1 hI.2 fun σ=>⟨_,rfl,⟨rfl,rfl⟩,(aG (bF (bF rfl rfl (DN he)) rfl rfl) rfl (DH _ _)).trans (congrArg some (Uw he).symm),fun ø=>rfl⟩
 ·have hpr:p<bg.length:=ea.mp (gw.mp hp).1
  obtain⟨e,he⟩:=get_mem hpr;have RN:(bg.map (·.2))[p]?=some e.2:=by rw[dh,he];rfl
  have hb:=vP (dq bg st nm) (bg.map (·.2)) 24 Yz l ([],0);have Vf:(iO (l.foldl (ga (dq bg st nm) (bg.map (·.2))) ([],0)).1).length+(l.foldl (ga (dq bg st nm) (bg.map (·.2))) ([],0)).2<=840:=by
   refine az hb (az (mP (jg 25 (az (dU eu) Ab)) _) ?_);show 0+0+25*24<=840
   decide
  rw[dF,dg,mM];generalize l.foldl (ga (dq bg st nm) (bg.map (·.2))) ([],0)=q at*;obtain⟨r0,r1,r2,r3,r4⟩:=hR;have YA:=Yz p;have EF:most=1000000:=rfl;refine ex5 ρ r0 r1 r2 r3 r4 fun σ=>?_
  have Oe:∀aQ:ao,aQ 0=some (.list (bg.map sy))->aQ 1=some (dV st)->aQ 2=some (.str nm)->aQ 5=some (.int p)->ji uk (cW (mS (fun ρ=>(ρ 1).bind JI) (fun ρ y=>some (upd ρ 0 y)) (on (eU m6 (CZ (CZ (fun ρ=>ρ 4) fun ρ=>ρ 0) fun x=>some (V.int 0)) fun ρ=>ρ 1) (chn ltV Va (fun ρ=>ρ 0) (fun ρ=>ρ 2) (CZ (fun ρ=>ρ 3) fun ρ=>ρ 0))) (fun ρ=>ρ 0) 1 [2,5,1,0]) fun x=>some []) aQ=some (.int (dq bg st nm p:Nat)):=fun aQ z0 z1 z2 z5=>by
   refine(bY (jp (nt:=1) (cap:=[2,5,1,0]) (fun ρ=>(ρ 1=some (.str nm)/\ρ 2=some (.int p))/\ρ 3=some (dV st)/\ρ 4=some (.list (bg.map sy))) st (fun e=>V.int e.1) (fun e=>DO bg nm e.1&&(decide (e.1<p)&&decide (p<=e.2))) (fun e=>V.int e.1) (cN z1 ?_) (fq iS (by decide)) (fun x hx ρ hI=>?_) ⟨⟨z2,z5⟩,z1,z0⟩) (nU _ ?_)).trans ?_
   ·show some ((st.map fun e=>(e.1:Int)).map V.int)=_
    rw[iH];rfl
   ·obtain⟨e',Hd⟩:=get_mem (Pe x hx)
    obtain⟨⟨i1,i2⟩,i3,i4⟩:=hI;refine ex4 ρ i1 i2 i3 i4 fun σ=>⟨_,rfl,⟨⟨rfl,rfl⟩,rfl,rfl⟩,gB ((aG (bF (bF rfl rfl (DN Hd)) rfl rfl) rfl (DH _ _)).trans (congrArg some (Uw Hd).symm)) (cN rfl (cN rfl ?_)),fun ø=>rfl⟩
    have Lw:ltV (.int x.1) (.int p)=some (decide (x.1<p)):=by
     show some (decide ((x.1:Int)<p))=_;exact congrArg some (mQ.mpr jR)
    have YB:Va (.int p) (.int x.2)=some (decide (p<=x.2)):=by
     show some (decide ((p:Int)<=x.2))=_;exact congrArg some (mQ.mpr nc)
    refine cN Lw ?_
    cases hq:decide (x.1<p)with
    |false=>rfl
    |true=>
     rw[xI];exact(aw rfl).trans (cN (bF rfl rfl (Fe EL x hx)) YB)
   ·rw[List.length_map];exact az (rf _ _) (az iS (by decide))
   ·rw[List.length_map];rfl
  have Ux:∀aQ:ao,aQ 0=some (.list (bg.map sy))->aQ 5=some (.int p)->aQ 6=some (.int (dq bg st nm p:Nat))->Rn (eU m6 (CZ (CZ (fun ρ=>ρ 0) fun ρ=>ρ 5) fun x=>some (V.int 1)) fun x=>some (V.int 7)) (eU Wv (fun ρ=>ρ 6) fun x=>some (V.int 0)) aQ=some (decide ((bg.map (·.2))[p]?=some 7\/0<dq bg st nm p)):=fun aQ z0 z5 z6=>by
   refine(Bq (aG (bF (bF z0 z5 (DN he)) rfl rfl) rfl (bU _ _)) (aG z6 rfl rfl)).trans (congrArg some ?_);rw[ly,lx,nj,nj,nj,RN];exact or_congr ⟨fun h=>congrArg some (Int.ofNat_inj.mp h),fun h=>congrArg Int.ofNat (Option.some.inj h)⟩ jR
  unfold ga;by_cases hq:(bg.map (·.2))[p]?=some 7\/0<dq bg st nm p
  ·rw[aw hq]
   have hm:zV (.str [32]) (.int (dq bg st nm p:Nat))=some (.str (List.replicate (dq bg st nm p) 32)):=by
    rw[Lj _ _ ⟨ni _,rfl,by omega⟩,lL,rep1]
   exact⟨_,_,rfl,mm (Oe _ rfl rfl rfl rfl) (cf (mZ ((Ux _ rfl rfl rfl).trans (congrArg some (bo hq))) (ow rfl (bT (bT rfl rfl hm) rfl (fo _ _ (by rw[j5];exact az (jO YA 1) (by decide)))) (fc _ _ (by rw[aY,j5];show _+(_+1)<=_;omega)) rfl)) rfl),rfl,rfl,rfl,congrArg (fun z=>some (V.str z)) (xo _ _).symm,rfl⟩
  ·rw[au hq]
   exact⟨_,_,rfl,mm (Oe _ rfl rfl rfl rfl) (cf (ik ((Ux _ rfl rfl rfl).trans (congrArg some (db hq))) (ow rfl rfl (fc _ _ (by rw[j5];show _+1<=_;omega)) rfl)) rfl),rfl,rfl,rfl,rfl,congrArg (fun z=>some (V.str z)) (List.replicate_succ' (n:=q.2) (a:=32)).symm⟩
 ·have hb:=vP (dq bg st nm) (bg.map (·.2)) 24 Yz (th bg nm) ([],0)
  have Vf:(iO (mC bg st nm).1).length+(mC bg st nm).2<=840:=by
   refine az hb (az (mP (jg 25 Ab) _) ?_);show 0+0+25*24<=840
   decide
  generalize mC bg st nm=q at*;obtain⟨r0,r1,r2,r3,r4⟩:=hR;have EF:most=1000000:=rfl;refine ex3 am r2 r3 r4 fun σ=>df (cN (ap (bT (bT (bT rfl rfl (fo _ _ ?_)) rfl (fo _ _ ?_)) rfl (fo _ _ ?_)) rfl) (cB (hF _ ?_) rfl))
  ·rw[j5];omega
  ·rw[aY,j5];omega
  ·rw[aY,aY,j5];show _+3<=most;omega
  ·rw[aY,aY,aY,j5];show _+3<=1000;omega
section
noncomputable def iF(ks:List Nat):Nat->List Nat
 |0=>[]
 |p+1=>if ks[p]?=some 7 then iF ks p++[p]else if ks[p]?=some 8 then(iF ks p).dropLast else iF ks p
theorem Ff(ks:List Nat):iF ks 0=[]:=rfl
theorem zC(ks:List Nat)(p:Nat):iF ks (p+1)=if ks[p]?=some 7 then iF ks p++[p]else if ks[p]?=some 8 then(iF ks p).dropLast else iF ks p:=rfl
section
variable{ks:List Nat}
theorem vQ{α:Type}{l:List α}{p:Nat}{x:α}(h:l[p]?=some x):l.take p++x::l.drop (p+1)=l/\l.take (p+1)=l.take p++[x]:=by
 have h1:=gG.mp h;refine⟨?_,by rw[xP,h];rfl⟩;rw[<-h1.2,<-List.drop_eq_getElem_cons h1.1,xV]
theorem xq{d:Nat}(h:bp eD ks 0= .inl d):∀p,p<=ks.length->bp eD (ks.take p) 0= .inl (iF ks p).length/\(ks[p]?=some 8->iF ks p≠[]):=by
 have go:∀p,p<=ks.length->bp eD (ks.take p) 0= .inl (iF ks p).length->(ks[p]?=some 8->iF ks p≠[]):=fun p hp hf h8 hz=>by
  rw[hz]at hf;have:=jb (l':=ks.drop (p+1)) hf (show eD 0 8= .inr ()from rfl);rw[(vQ h8).1,h]at this;cases this
 intro p
 induction p with
 |zero=>exact fun hp=>⟨rfl,go 0 hp rfl⟩
 |succ p ih=>
  intro hp;obtain⟨i1,i2⟩:=ih (kL hp);have main:bp eD (ks.take (p+1)) 0= .inl (iF ks (p+1)).length:=by
   obtain⟨x,hx⟩:=get_mem (l:=ks) hp;rw[(vQ hx).2,zC,hx];refine bD i1 ?_;unfold eD;by_cases q7:x=7
   ·rw[aw q7,aw (congrArg some q7)]
    exact congrArg Sum.inl (by rw[aY];rfl)
   ·rw[au q7,au fun z=>q7 (Option.some.inj z)]
    by_cases q8:x=8
    ·rw[aw q8,aw (congrArg some q8),au fun z=>i2 (q8▸hx) (CC z)]
     exact congrArg Sum.inl pp.symm
    ·rw[au q8,au fun z=>q8 (Option.some.inj z)]
  exact⟨main,go (p+1) hp main⟩
inductive OpI(ks:List Nat)(p k:Nat)(b:List Nat):Prop
 |mk (lt:k<p) (h7:ks[k]?=some 7) (hf:bp eD ((ks.drop k).take (p-k)) 0= .inl (b.length+1)) (hc:bp RM ((ks.drop k).take (p-k)) []= .inl ((ks.drop k).take (p-k)))
theorem lp{p k x:Nat}(hk:k<=p)(hx:ks[p]?=some x):(ks.drop k).take (p+1-k)=(ks.drop k).take (p-k)++[x]/\(ks.drop k).take (p-k)++x::(ks.drop k).drop (p-k+1)=ks.drop k:=by
 have h:(ks.drop k)[p-k]?=some x:=by rw[tH,rc hk];exact hx
 have e:p+1-k=p-k+1:=by omega
 rw[e];exact⟨(vQ h).2,(vQ h).1⟩
theorem BF{p k:Nat}(hp:p<=ks.length):((ks.drop k).take (p-k)).length=p-k:=by
 rw[tK,nB];omega
theorem zD{d:Nat}(h:bp eD ks 0= .inl d):∀p,p<=ks.length->(∀a k b,iF ks p=a++k::b->OpI ks p k b)/\(∀k,k<p->ks[k]?=some 7->k∉iF ks p->∃m,k<=m/\m<p/\fZ (ks.drop k)=some (m-k))/\(∀k∈iF ks p,k<p)/\(iF ks p).Nodup:=by
 intro p
 induction p with
 |zero=>
  refine fun ø=>⟨fun a k b e=>?_,fun k hk ø ø=>absurd hk (Nat.not_lt_zero k),fun k hk=>?_,xM⟩
  ·rw[Ff]at e
   cases a<;>cases e
  ·rw[Ff]at hk
   cases hk
 |succ p ih=>
  intro hp;obtain⟨i1,i2,i3,i4⟩:=ih (kL hp);have cZ:=(xq h p (kL hp)).2;obtain⟨x,hx⟩:=get_mem (l:=ks) hp;rw[zC,hx];by_cases q7:x=7
  ·subst q7
   rw[aw rfl];refine⟨fun a k b e=>?_,fun k hk h7 hn=>?_,fun k hk=>?_,?_⟩
   ·rcases List.eq_nil_or_concat b with rfl|⟨b',y,rfl⟩
    ·have e':=List.append_inj' e rfl
     cases e'.2;obtain⟨t1,t2⟩:=lp (bL p) hx;rw[tI,List.take_zero,gh]at t1;exact⟨mJ _,hx,by rw[t1];rfl,by rw[t1];rfl⟩
    ·rw[List.concat_eq_append,show a++k::(b'++[y])=(a++k::b')++[y] by rw[List.append_assoc];rfl]at e
     have e':=List.append_inj' e rfl;obtain⟨lt,h7,hf,hc⟩:=i1 a k b' e'.1;obtain⟨t1,t2⟩:=lp (dU lt) hx;refine⟨kK lt,h7,?_,?_⟩
     ·rw[t1,List.concat_eq_append,aY];exact bD hf rfl
     ·rw[t1];exact bD hc (au fun z=>nomatch z.1)
   ·have JM:k<p:=CF (tU hk) fun z=>hn (ck _ (z▸ .head _))
    obtain⟨m,m1,m2,m3⟩:=i2 k JM h7 fun z=>hn (cP _ z)
    exact⟨m,m1,kK m2,m3⟩
   ·rcases bZ.mp hk with hk|hk
    ·exact kK (i3 k hk)
    ·rw[cq.mp hk];exact mJ _
   ·exact lI.mpr ⟨i4,mK.mpr ⟨tD,xM⟩,fun a ha b hb z=>by rw[cq.mp hb]at z;exact gv _ (z▸i3 a ha)⟩
  ·rw[au fun z=>q7 (Option.some.inj z)]
   by_cases q8:x=8
   ·subst q8
    rw[aw rfl];have hn:=cZ hx;have hl:=List.dropLast_concat_getLast hn;generalize(iF ks p).getLast hn=y at hl;generalize hs:(iF ks p).dropLast=s at hl;obtain⟨ylt,y7,yf,yc⟩:=i1 s y [] hl.symm;obtain⟨t1,t2⟩:=lp (dU ylt) hx;have ycl:fZ (ks.drop y)=some (p-y):=by
     unfold fZ;rw[<-t2,jb yc (aw ⟨rfl,?_⟩)]
     ·exact congrArg some (BF (kL hp))
     ·unfold wB
      rw[bD yf (show eD (0+1) 8= .inl 0 from rfl)];rfl
    have JK:∀k∈s,k∈iF ks p:=fun k hk=>hl▸cP _ hk
    refine⟨fun a k b e=>?_,fun k hk h7 hnk=>?_,fun k hk=>kK (i3 k (JK k hk)),?_⟩
    ·obtain⟨lt,h7,hf,hc⟩:=i1 a k (b++[y]) (by rw[<-hl,e,List.append_assoc];rfl)
     obtain⟨t1,t2⟩:=lp (dU lt) hx;rw[aY]at hf;have hd:eD (b.length+[y].length+1) 8= .inl (b.length+1):=rfl;refine⟨kK lt,h7,?_,?_⟩
     ·rw[t1];exact bD hf hd
     ·rw[t1]
      refine bD hc (au fun z=>?_);have:=z.2;unfold wB at this;rw[bD hf hd]at this;cases this
    ·have JM:k<p:=CF (tU hk) fun z=>by rw[z,hx]at h7;cases h7
     by_cases qy:k=y
     ·exact⟨p,dU JM,mJ _,qy▸ycl⟩
     ·obtain⟨m,m1,m2,m3⟩:=i2 k JM h7 fun z=>by
       rw[<-hl]at z;rcases bZ.mp z with z|z
       ·exact hnk z
       ·exact qy (cq.mp z)
      exact⟨m,m1,kK m2,m3⟩
    ·rw[<-hl]at i4
     exact(lI.mp i4).1
   ·rw[au fun z=>q8 (Option.some.inj z)]
    refine⟨fun a k b e=>?_,fun k hk h7 hn=>?_,fun k hk=>kK (i3 k hk),i4⟩
    ·obtain⟨lt,h7,hf,hc⟩:=i1 a k b e
     obtain⟨t1,t2⟩:=lp (dU lt) hx;refine⟨kK lt,h7,?_,?_⟩
     ·rw[t1];exact bD hf ((au q7).trans (au q8))
     ·rw[t1];exact bD hc (au fun z=>q8 z.1)
    ·have JM:k<p:=CF (tU hk) fun z=>by rw[z,hx]at h7;exact q7 (Option.some.inj h7)
     obtain⟨m,m1,m2,m3⟩:=i2 k JM h7 hn;exact⟨m,m1,kK m2,m3⟩
theorem Fg:∀(l pre:List Nat) (j:Nat),bp RM l pre= .inr j->pre.length<=j
 |[],pre,j,h=>nomatch h
 |x::l,pre,j,h=>by
  rw[fb]at h;unfold RM at h;by_cases q:x=8/\wB (pre++[x])=true
  ·rw[aw q]at h
   exact je (Sum.inr.inj h)
  ·rw[au q]at h
   have:=Fg l (pre++[x]) j h;rw[aY]at this;exact kL this
theorem M0(h:bp eD ks 0= .inl 0){p:Nat}(hp:p<=ks.length)(k:Nat):k∈iF ks p<->∃m,k<p/\ks[k]?=some 7/\fZ (ks.drop k)=some m/\p<=k+m:=by
 obtain⟨i1,i2,i3,_⟩:=zD h p hp;constructor
 ·intro hk
  obtain⟨a,b,e⟩:=List.append_of_mem hk;obtain⟨lt,h7,hf,hc⟩:=i1 a k b e;obtain⟨_,j2,_,_⟩:=zD h ks.length (bL _);have Df:iF ks ks.length=[]:=by
   have:=(xq h ks.length (bL _)).1;rw[xK,h]at this;exact CC (Sum.inl.inj this).symm
  obtain⟨m,m1,m2,m3⟩:=j2 k (gG.mp h7).1 h7 (by rw[Df];exact tD);refine⟨m-k,lt,h7,m3,?_⟩;unfold fZ at m3;have e2:ks.drop k=(ks.drop k).take (p-k)++(ks.drop k).drop (p-k):=(xV ..).symm;rw[e2,ja,hc]at m3
  cases hq:bp RM ((ks.drop k).drop (p-k)) ((ks.drop k).take (p-k))with
  |inl z=>dsimp only at m3;rw[hq]at m3;cases m3
  |inr z=>
   dsimp only at m3;rw[hq]at m3;have:=Fg _ _ _ hq;rw[BF hp]at this;have:=Option.some.inj m3;omega
 ·rintro⟨m,lt,h7,Cd,hm⟩
  refine Cw fun hn=>?_
  obtain⟨m',m1,m2,m3⟩:=i2 k lt h7 hn;rw[Cd]at m3;have:=Option.some.inj m3;omega
end
end
noncomputable def Uy(ks:List Nat)(k:Nat):Option (Nat×Nat):=(fZ (ks.drop k)).map fun p=>(k,k+p)
theorem vR(ks:List Nat):∀(l:List Nat) (st:List (Nat×Nat)),l.foldl (zT ks) st=st++l.filterMap (Uy ks)
 |[],st=>(dZ _).symm
 |k::l,st=>by
  rw[dg,vR ks l,qV];unfold zT Uy
  cases fZ (ks.drop k)with
  |none=>rfl
  |some p=>exact List.append_assoc _ _ _
theorem vS{ks:List Nat}{e:Nat×Nat}:e∈iN ks<->∃m,ks[e.1]?=some 7/\fZ (ks.drop e.1)=some m/\e.2=e.1+m:=by
 unfold iN;rw[vR,gh,List.mem_filterMap];constructor
 ·rintro⟨k,hk,h⟩
  refine cI h fun m hm e=>?_
  subst e;exact⟨m,cV (gw.mp hk).2,hm,rfl⟩
 ·rintro⟨m,h1,h2,h3⟩
  refine⟨e.1,gw.mpr ⟨ea.mpr (gG.mp h1).1,bo h1⟩,?_⟩;unfold Uy;rw[h2,pr,<-h3]
theorem xr(ks:List Nat):((iN ks).map (·.1)).Nodup/\(iN ks).length<=ks.length:=by
 unfold iN;rw[vR,gh];have hn:(mz ks).Nodup:=List.nodup_range.filter _;have hl:(mz ks).length<=ks.length:=az (rf _ _) (je eM);refine⟨?_,az (List.length_filterMap_le _ _) hl⟩;have e:((mz ks).filterMap (Uy ks)).map (·.1)=(mz ks).filter fun k=>(fZ (ks.drop k)).isSome:=by
  generalize mz ks=l
  induction l with
  |nil=>rfl
  |cons k l ih=>
   rw[qV,qS];unfold Uy
   cases fZ (ks.drop k)with
   |none=>exact ih
   |some m=>exact congrArg (k:: ·) ih
 rw[e];exact hn.filter _
theorem DR{bg:List sx}{nm:List Nat}(h:bp eD (bg.map (·.2)) 0= .inl 0){p:Nat}(hp:p<=bg.length):dq bg (iN (bg.map (·.2))) nm p=(iF (bg.map (·.2)) p).countP (DO bg nm):=by
 generalize RN:bg.map (·.2)=ks at h;have hpk:p<=ks.length:=by rw[<-RN,List.length_map];exact hp
 unfold dq;rw[List.countP_eq_length_filter,<-List.length_map (f:=fun e:Nat×Nat=>e.1)];refine List.Perm.length_eq ((List.perm_ext_iff_of_nodup ?_ ((zD h p hpk).2.2.2.filter _)).mpr fun k=>?_)
 ·exact(List.filter_sublist.map _).nodup (xr ks).1
 rw[dt,gw,M0 h hpk];constructor
 ·rintro⟨e,he,rfl⟩
  obtain⟨h1,h2⟩:=gw.mp he;obtain⟨m,h3,h4,h5⟩:=vS.mp h1;obtain⟨h6,h7⟩:=(bX _ _).mp h2;obtain⟨h8,h9⟩:=(bX _ _).mp h7;exact⟨⟨m,cV h8,h3,h4,h5▸cV h9⟩,h6⟩
 ·rintro⟨⟨m,h1,h2,h3,h4⟩,h5⟩
  exact⟨(k,k+m),gw.mpr ⟨vS.mpr ⟨m,h2,h3,rfl⟩,(bX _ _).mpr ⟨h5,(bX _ _).mpr ⟨bo h1,bo h4⟩⟩⟩,rfl⟩
noncomputable abbrev J9:=List (List Nat)×List Nat×Nat
noncomputable def Ka(nm:List Nat)(s:J9)(N:List Nat)(o:Bool):List Nat×Nat:=if N=nm then(if o=true\/0<s.1.count nm then(s.2.1++[s.1.count nm],s.2.2)else(s.2.1,s.2.2+1))else s.2
noncomputable def vT(nm:List Nat)(s:J9)(e:sx):J9:=(if e.2=7 then s.1++[e.1]else if e.2=8 then s.1.dropLast else s.1,Ka nm s e.1 (decide (e.2=7)))
noncomputable def BG(bg:List sx)(k:Nat):List Nat:=((bg[k]?).map (·.1)).getD []
theorem BH{bg:List sx}{nm:List Nat}(h:bp eD (bg.map (·.2)) 0= .inl 0)(hn:nm≠[]):mC bg (iN (bg.map (·.2))) nm=(bg.foldl (vT nm) ([],[],0)).2:=by
 have QL:∀l:List Nat,(l.map (BG bg)).count nm=l.countP (DO bg nm):=fun l=>by
  unfold List.count;rw[List.countP_map];refine List.countP_congr fun k ø=>?_
  show(BG bg k==nm)=true<->DO bg nm k=true;unfold BG DO;rw[jN,nj]
  cases (bg[k]?).map (·.1)with
  |none=>exact⟨fun z=>absurd z.symm hn,fun z=>nomatch z⟩
  |some x=>exact⟨congrArg some,Option.some.inj⟩
 have key:∀p,p<=bg.length->(bg.take p).foldl (vT nm) ([],[],0)=((iF (bg.map (·.2)) p).map (BG bg),((List.range p).filter (DO bg nm)).foldl (ga (dq bg (iN (bg.map (·.2))) nm) (bg.map (·.2))) ([],0)):=fun p=>by
  induction p with
  |zero=>exact fun ø=>rfl
  |succ p ih=>
   intro hp;obtain⟨e,he⟩:=get_mem (l:=bg) hp;have hk:(bg.map (·.2))[p]?=some e.2:=by rw[dh,he];rfl
   have hna:BG bg p=e.1:=by unfold BG;rw[he];rfl
   have Uz:DO bg nm p=decide (e.1=nm):=by unfold DO;rw[he];exact mQ.mpr ⟨Option.some.inj,congrArg some⟩
   have hA:=DR (nm:=nm) h (kL hp);rw[<-QL]at hA;rw[(vQ he).2,dF,ih (kL hp),dg,mM,tJ,List.filter_append,dF,zC,hk];generalize iF (bg.map (·.2)) p=S at*;generalize((List.range p).filter (DO bg nm)).foldl (ga (dq bg (iN (bg.map (·.2))) nm) (bg.map (·.2))) ([],0)=q at*;refine Prod.ext ?_ ?_
   ·show(if e.2=7 then _ else _)=_
    by_cases q7:e.2=7
    ·rw[aw q7,aw (congrArg some q7),List.map_append,po,hna]
    ·rw[au q7,au fun z=>q7 (Option.some.inj z)]
     by_cases q8:e.2=8
     ·rw[aw q8,aw (congrArg some q8),List.map_dropLast]
     ·rw[au q8,au fun z=>q8 (Option.some.inj z)]
   ·show Ka nm (S.map (BG bg),q) e.1 (decide (e.2=7))=_
    unfold Ka;by_cases qn:e.1=nm
    ·rw[aw qn,qS,aw (Uz.trans (bo qn)),List.filter_nil,dg,mM]
     unfold ga;rw[hk,hA];by_cases q7:decide (e.2=7)=true\/0<(S.map (BG bg)).count nm
     ·exact(aw q7).trans (aw (q7.imp (fun z=>congrArg some (cV z)) id)).symm
     ·exact(au q7).trans (au fun z=>q7 (Or.imp (fun z=>bo (Option.some.inj z)) id z)).symm
    ·rw[au qn,qS,au fun z=>qn (cV (Uz.symm.trans z)),List.filter_nil]
     rfl
 have:=key bg.length (bL _);rw[xK]at this;rw[this];rfl
noncomputable def sG:Cx:={vars:=[(K3,.local,false),(Rh,.local,false),(U7,.cell,true),(U8,.cell,false),(Rk,.cell,false),(Wq,.local,true),(RY,.local,false),(Ha,.local,false),(Ot,.local,false)],aV:=[v7,Ej]}
noncomputable def zE:Cx:={vars:=[(K3,.local,false),(Rh,.local,false),(U7,.cell,false),(U8,.cell,false),(Rk,.cell,false),(Wq,.local,true),(RY,.local,false),(Ha,.local,false),(Ot,.local,false)],aV:=[v7,Ej]}
noncomputable def sQ:Cx:={vars:=[(Wr,.cell,false),(Rk,.cell,false),(U8,.cell,false),(U7,.cell,false)],aV:=[we]}
noncomputable def sR:Cx:={vars:=[(⟨#[115]⟩,.local,false),(Wr,.cell,false)],aV:=[]}
noncomputable def n9{P:Pk}{n:Nat}(aX:P.glob v7=some (.type "range"))(fe:P.glob Ej=some (.builtin "max"))(cA:P.glob we=some (.builtin "len")):{f:ao->Option V//Mm P n sG (dW (aO pq.main.body 68)) f}:=⟨_,(@dM _ _ _ _ _ _ _ (@gP _ _ _ ([(2,U7,.cell,true),(3,U8,.cell,false),(4,Rk,.cell,false),(5,Wq,.local,true)]) ([_,_,_,_]) _ _ _ _ _ _ _ ⟨by decide+kernel,by decide+kernel⟩ rfl (@fX.new _ _ _ _ _ _ _ _ (fm ag (by decide) len0) (@fX.dat _ _ _ _ _ _ _ _ ae (@fX.dat _ _ _ _ _ _ _ _ ae (fX.new (fm ag (by decide) len0) fX.nil ir) ir) ir) ir) (by decide) (@ah _ _ _ (ah (ah (ah len0)))) kg.len ir (MG rfl)) (@dM _ _ _ _ _ _ _ (@dB _ _ _ (false) _ _ _ _ _ _ _ (dH (ab 0 rfl rfl rfl)) (@fk _ _ _ _ _ _ _ (@bh _ _ _ _ _ _ _ (aB 6 rfl (by decide) (by decide)) (bh (aB 7 rfl (by decide) (by decide)) (bh (aB 8 rfl (by decide) (by decide)) eH))) (bA (bA (bA fj))) ir) (@af _ _ _ _ _ _ _ (@aN _ _ _ _ _ _ _ _ _ _ (ay fi (ac (ab 6 rfl rfl rfl)) ae rfl) (@af _ _ _ _ _ _ _ (Bv (eF 5 rfl rfl rfl Sb ag ir (by decide) rfl ir) ir) ai) (@af _ _ _ _ _ _ _ (@aN _ _ _ _ _ _ _ _ _ _ (@gk _ _ _ _ _ _ _ _ (ay fi (ac (ab 7 rfl rfl rfl)) (ac (ab 1 rfl rfl rfl)) rfl) (@se.or _ _ _ _ _ _ _ _ (ay fi (ac (ab 6 rfl rfl rfl)) ae rfl) (ay Yo (ac (ab 1 rfl rfl rfl)) (dc 5 rfl rfl rfl) rfl))) (@af _ _ _ _ _ _ _ (cS 3 rfl (by decide) rfl rfl gQ ae) (@af _ _ _ _ _ _ _ (@eG _ _ _ _ _ _ (@Dz _ _ _ 2 _ _ _ _ _ _ _ _ _ _ rfl rfl rfl rfl rfl aX (@aa _ _ _ _ _ _ _ _ ae (@aa _ _ _ _ _ _ _ _ (@al _ _ _ _ _ _ _ _ _ _ _ cm (@tZ _ _ _ _ _ _ (@hZ _ _ _ _ _ _ _ _ _ _ _ _ (dc 5 rfl rfl rfl) JH (aa (ac (ab 1 rfl rfl rfl)) ag ir) ir (by decide) rfl ir)) ae) ag ir) ir) ir (ca _ _) rfl ir) Gi ir) ai)) (@af _ _ _ _ _ _ _ (@aN _ _ _ _ _ _ _ _ _ _ (ay fi (ac (ab 7 rfl rfl rfl)) (ac (ab 1 rfl rfl rfl)) rfl) (af (cS 4 rfl (by decide) rfl rfl gQ ae) ai) ai) ai)) ai)) (@af _ _ _ _ _ _ _ (@aN _ _ _ _ _ _ _ _ _ _ (ay fi (ac (ab 6 rfl rfl rfl)) ae rfl) (@af _ _ _ _ _ _ _ (@eG _ _ _ _ _ _ (eF 5 rfl rfl rfl ub (aa (ab 7 rfl rfl rfl) ag ir) ir (by decide) rfl ir) jA ir) ai) ai) ai)) cz) (@zc _ _ _ (zE) 2 _ _ _ _ rfl rfl rfl (@Bk _ _ _ _ _ (@af _ _ _ _ _ _ _ (@aW _ _ _ _ _ _ (@de _ _ _ _ _ _ _ _ (@aa _ _ _ _ _ _ _ _ (@ac _ _ _ _ _ (@fQ _ _ _ _ _ _ (@Ac _ _ _ (sQ) _ _ _ _ _ _ _ _ _ _ 0 1 ([4,3,2]) (@cL _ _ _ _ _ _ _ rfl aX (aa ae (aa ae ag ir) ir) ir (ca _ _)) (cu (by decide+kernel)) rfl rfl eY (@al _ _ _ _ _ _ _ _ _ _ _ cm (ab 1 rfl rfl rfl) (@al _ _ _ _ _ _ _ _ _ _ _ zW (ab 0 rfl rfl rfl) (@al _ _ _ _ _ _ _ _ _ _ _ cm (ab 2 rfl rfl rfl) (@aJ _ _ _ _ _ _ _ _ _ _ _ rfl cA rfl jq (@aa _ _ _ _ _ _ _ _ (@fQ _ _ _ _ _ _ (@fW _ _ _ (sR) _ _ _ _ _ _ _ _ _ _ (1) ([0]) (dH (ab 3 rfl rfl rfl)) (cu (by decide+kernel)) (aB 0 rfl (by decide) (by decide)) (@gN _ _ _ _ _ (@ay _ _ _ _ _ _ _ _ _ _ fi (al jk (ac (ab 0 rfl rfl rfl)) (ac (ab 1 rfl rfl rfl))) ae rfl)) (ab 0 rfl rfl rfl) cz)) ag ir) ir (ca _ _))))) cz))) (@aa _ _ _ _ _ _ _ _ (@aJ _ _ _ _ _ _ _ _ _ _ _ rfl fe rfl um (@aa _ _ _ _ _ _ _ _ (@al _ _ _ _ _ _ _ _ _ _ _ cm (@cQ _ _ _ _ _ _ _ (aa (ac (ab 4 rfl rfl rfl)) ag ir) (by decide) (ah len0)) (ac (ab 2 rfl rfl rfl))) ag ir) ir (ca _ _)) ag ir) ir) (by decide) (ah (ah len0)))) ai)))))⟩
theorem kr(a b c:Int):max (max a b) c=max a (max b c):=Int.max_assoc a b c
theorem jX(a b c:Int):max a (max b c)=max b (max a c):=by rw[<-kr,Int.max_comm a b,kr]
theorem GB(x:Int)(l:List Int):∀n:Nat,n<l.length->ul (fun j=>((x::l)[j]?).getD 0) (n+1)=max x (ul (fun j=>(l[j]?).getD 0) n):=by
 intro n
 induction n with
 |zero=>
  intro h;simp only[EA,yh];simp
 |succ n ih=>
  intro h;have:=ih (by omega)
  conv=>lhs;unfold ul
  conv=>rhs;unfold ul
  rw[this];exact kr ..
theorem xt:∀(x:Int) (l:List Int),C6 [.list ((x::l).map .int)]=some (.int (l.foldr max x)):=by
 intro x l;have hi:∀l:List Int,hV (l.map .int)=some l:=fun l=>by
  induction l with
  |nil=>rfl
  |cons x l ih=>simp[HP,As,ih]
 have go:∀(l:List Int) (x:Int),ul (fun j=>((x::l)[j]?).getD 0) l.length=l.foldr max x:=by
  intro l
  induction l with
  |nil=>intro x;simp[EA,yh]
  |cons y l ih=>
   intro x;have e:=GB x (y::l) l.length (by simp);rw[cr,e,ih y];have swap:∀l:List Int,max x (l.foldr max y)=max y (l.foldr max x):=by
    intro l
    induction l with
    |nil=>exact Int.max_comm ..
    |cons z l ih=>exact(jX ..).trans ((congrArg (max z) ih).trans (jX ..))
   rw[tV,swap]
 rw[OZ,HQ,au (by simp),hi,pr];simp only[cr,Nat.add_sub_cancel];rw[go]
noncomputable abbrev oF:=List Nat×Nat×Nat×List Nat
noncomputable def qK(w:Nat)(s:oF)(e:Item):oF:=
 if e.1=2 then(s.1,s.2.1,s.2.2.1,s.2.2.2.dropLast)else if e.2.1=w/\(e.1=0\/w∈s.2.2.2)then(s.1++(List.range (s.2.2.2.count w)).map (· +1),s.2.1+1,s.2.2.1,s.2.2.2)else if e.2.1=w then(s.1,s.2.1,s.2.2.1+1,s.2.2.2)else s
noncomputable def ei(w:Nat)(s:oF)(e:Item):oF:=if e.1=0 then((qK w s e).1,(qK w s e).2.1,(qK w s e).2.2.1,(qK w s e).2.2.2++[e.2.1])else qK w s e
noncomputable def GC(w:Nat)(its:List Item):oF:=its.foldl (ei w) ([],0,0,[])
noncomputable abbrev nV(l:List Nat):V:=.list (l.map fun(k:Nat)=>V.int k)
noncomputable def Kb(x:oF)(sz:Nat):Int:=x.2.2.1+sz*(x.2.1+(x.1.filter fun s=>decide (s % sz=0)).length)
noncomputable def Fh(x:oF):Nat:=x.1.foldr max x.2.2.1
noncomputable def BI(x:oF):V:=.tup [.list ((List.range 8).map fun(j:Nat)=>V.int (Kb x (j+1))),.int (Fh x)]
theorem Fi(l:List Nat):nV l= .list ((l.map fun(k:Nat)=>(k:Int)).map .int):=by
 unfold nV;rw[iH];rfl
theorem r8:∀(l:List Nat) (x:Nat),(l.map fun(k:Nat)=>(k:Int)).foldr max (x:Int)=((l.foldr max x:Nat):Int)
 |[],x=>rfl
 |y::l,x=>by
  rw[bB,tV,tV,r8 l x];omega
theorem r9:∀l:List Int,hV (l.map .int)=some l
 |[]=>rfl
 |x::l=>by rw[bB,As,r9 l];rfl
theorem M1(k:Nat)(l:List Nat):Ro (.int k) (nV l)=some (decide (k∈l)):=by
 rw[Fi];show(Oz (.int k) ((l.map fun(k:Nat)=>(k:Int)).map .int))=_;unfold Oz;rw[qp];show(if PyData.depthAll ((l.map fun(k:Nat)=>(k:Int)).map .int)<=50 then some (((l.map fun(k:Nat)=>(k:Int)).map PyData.int).any fun y=>PyData.eqv y (.int (k:Int)))else none)=_;rw[aw (az (Dq _) (by decide))];refine congrArg some ?_;rw[ly,nj,List.any_eq_true];constructor
 ·rintro⟨y,hy,h⟩
  obtain⟨z,hz,rfl⟩:=dt.mp hy;obtain⟨j,hj,rfl⟩:=dt.mp hz;have:(j:Int)=k:=by simpa[PyData.eqv]using h
  rw[<-Int.ofNat_inj.mp this];exact hj
 ·intro h
  exact⟨.int k,dt.mpr ⟨k,dt.mpr ⟨k,h,rfl⟩,rfl⟩,by simp[PyData.eqv]⟩
theorem GD(k:Nat)(l:List Nat):zm (nV l) [.int k]=some (.int (l.count k:Nat)):=by
 rw[Fi];show(hV ((l.map fun(k:Nat)=>(k:Int)).map .int)).map _=_;rw[r9];refine congrArg (fun z:Nat=>some (V.int (z:Int))) ?_
 induction l with
 |nil=>rfl
 |cons x l ih=>
  rw[bB,xW,xW,ih];by_cases q:x=k
  ·subst q;simp
  ·have:¬((x:Int)=k):=fun z=>q (Int.ofNat_inj.mp z)
   simp[q,this]
theorem DS{f:ao->Option (ao×Fl)}{g:ao->Option V}{ρ am:ao}{r}(h:f ρ=some (am,.next))(hg:g am=r):Jj f g ρ=r:=by
 unfold Jj;rw[h];exact hg
theorem xu{f:ao->Option (ao×Fl)}{g:ao->Option V}{ρ:ao}{v}(R:ao->Prop)(h:∃r,f ρ=some r/\r.2= .next/\R r.1)(hg:∀am,R am->g am=v):Jj f g ρ=v:=by
 obtain⟨⟨am,fl⟩,e,rfl,q⟩:=h;exact DS e (hg _ q)
inductive M2(w:Nat)(s:oF)(n:Nat)(ρ:ao):Prop
 |mk (h1:ρ 1=some (.int w)) (h2:ρ 2=some (nV s.1)) (h3:ρ 3=some (.int s.2.1)) (h4:ρ 4=some (.int s.2.2.1)) (h5:ρ 5=some (nV s.2.2.2)) (b1:s.1.length<=11*n) (b2:s.2.2.2.length<=n) (b3:s.2.1<=n)
theorem M3{c:Nat}(h:c<=11):nJ [.int 1,.int ((c:Int)+1)]=some (((List.range c).map (· +1)).map fun(k:Nat)=>V.int k):=by
 have h6:eX ((c:Int)+1)=true:=(bX _ _).mpr ⟨bo (by omega),bo (by omega)⟩;have hz:((c:Int)+1-1).toNat=c:=by omega
 rw[ud,h6,r6,hz,iH];exact congrArg some (lK fun j ø=>congrArg V.int (by show(1:Int)+(j:Int)=((j+1:Nat):Int);omega))
theorem GE{P:Pk}{n:Nat}{g1 g2 g3}{its:List Item}(hg:jU its){w:Nat}{ρ:ao}(h0:ρ 0=some (.list (its.map Hf)))(h1:ρ 1=some (.int w)):
  (n9 (P:=P) (n:=n) g1 g2 g3).1 ρ=some (BI (GC w its)):=by
 have EF:most=1000000:=rfl;unfold n9;dsimp only;refine DS rfl ?_;refine xu (fun ρ=>M2 w (GC w its) its.length ρ/\bp eg (its.map (·.1)) 0= .inl (GC w its).2.2.2.length) (eT (cN (f:=elems) h0 rfl) (qq Hf its (fun l ρ=>M2 w (l.foldl (ei w) ([],0,0,[])) l.length ρ/\bp eg (l.map (·.1)) 0= .inl (l.foldl (ei w) ([],0,0,[])).2.2.2.length) (fun l u l' ρ hx hR=>?_) ⟨⟨h1,rfl,rfl,rfl,rfl,eK _,bL _,bL _⟩,rfl⟩)) fun am hR=>?_
 ·obtain⟨⟨r1,r2,r3,r4,r5,b1,b2,b3⟩,YC⟩:=hR
  have Ul:l.length<its.length:=by rw[<-hx,aY];exact tL (jf _)
  have YD:l.length<=10:=tU (fu Ul hg.len);have Cg:=hg.ok u (hx▸ck _ gI);have Kc:=hg.dyck;rw[<-hx,List.map_append,bB]at Kc;rw[dF,dg,mM,aY,List.map_append];generalize l.foldl (ei w) ([],0,0,[])=s at*;have QL:s.2.2.2.count w<=10:=az CG (az b2 YD);have Az:u.1=2->s.2.2.2≠[]:=fun h2 hs=>by
   rw[hs]at YC;rw[jb YC (show eg 0 u.1= .inr () by rw[h2];rfl)]at Kc;cases Kc
  refine ex5 ρ r1 r2 r3 r4 r5 fun σ=>⟨_,rfl,?_⟩
  have Ll:bp eg (l.map (·.1)++[u.1]) 0= .inl (ei w s u).2.2.2.length:=by
   refine bD YC ?_;unfold eg ei qK;by_cases q0:u.1=0
   ·rw[aw q0,aw q0,au (by omega)]
    split
    ·exact congrArg Sum.inl (by rw[aY];rfl)
    ·split<;>exact congrArg Sum.inl (by rw[aY];rfl)
   ·rw[au q0,au q0]
    by_cases q1:u.1=1
    ·rw[aw q1,au (by omega)]
     split
     ·rfl
     ·split<;>rfl
    ·have q2:u.1=2:=by have:=Cg.1;omega
     have cZ:=tu.mpr (Az q2);rw[au q1,au (by omega),aw q2];exact congrArg Sum.inl pp.symm
  have key:∀{f g:ao->Option (ao×Fl)} {ρ:ao} {R Q:ao->Prop},(∃am,f ρ=some (am,.next)/\R am)->(∀am,R am->∃di,g am=some (di,.next)/\Q di)->∃r,eW f (eW g fun ρ=>some (ρ,.next)) ρ=some r/\r.2= .next/\Q r.1:=fun hf hg=>by
   obtain⟨am,e1,hR⟩:=hf;obtain⟨di,e2,hQ⟩:=hg am hR;exact⟨(di,.next),cf e1 (cf e2 rfl),rfl,hQ⟩
  refine key (Q:=fun ρ=>M2 w (ei w s u) (l.length+[u].length) ρ/\bp eg (l.map (·.1)++[u].map (·.1)) 0= .inl (ei w s u).2.2.2.length) (R:=fun am=>((am 1=some (.int w)/\am 2=some (nV (qK w s u).1))/\(am 3=some (.int (qK w s u).2.1)/\am 4=some (.int (qK w s u).2.2.1)))/\(am 5=some (nV (qK w s u).2.2.2)/\(am 6=some (.int u.1)/\am 7=some (.int u.2.1)))/\((qK w s u).1.length<=11*(l.length+1)/\(qK w s u).2.2.2.length<=l.length/\(qK w s u).2.1<=l.length+1)) ?_ fun am hR=>?_
  ·unfold qK
   by_cases q2:u.1=2
   ·rw[aw q2]
    have cZ:=Az q2;have YE:OH (nV s.2.2.2) []=some (nV s.2.2.2.dropLast,.int (s.2.2.2.getLast cZ:Nat)):=by
     rw[nV,OI,List.getLast?_map,List.getLast?_eq_some_getLast cZ,pr,eA,aw (by rw[List.length_map];omega),<-List.map_dropLast]
    exact⟨_,mZ (aG rfl rfl ((bU _ _).trans (congrArg some (bo (by rw[q2];rfl))))) (cf (cN (Jv rfl rfl YE) (aw rfl)) rfl),⟨⟨rfl,rfl⟩,rfl,rfl⟩,⟨rfl,rfl,rfl⟩,by show s.1.length<=_;omega,by show s.2.2.2.dropLast.length<=_;rw[pp];omega,by show s.2.1<=_;omega⟩
   ·rw[au q2]
    have c2:∀aQ:ao,aQ 6=some (.int u.1)->eU m6 (fun ρ=>ρ 6) (fun x=>some (V.int 2)) aQ=some false:=fun aQ h6=>aG h6 rfl ((bU _ _).trans (congrArg some (db (by omega))))
    have cw:∀aQ:ao,aQ 7=some (.int u.2.1)->aQ 1=some (.int w)->eU m6 (fun ρ=>ρ 7) (fun ρ=>ρ 1) aQ=some (decide (u.2.1=w)):=fun aQ h7 h1=>aG h7 h1 ((bU _ _).trans (congrArg some (mQ.mpr Int.ofNat_inj)))
    have cc:∀aQ:ao,aQ 7=some (.int u.2.1)->aQ 1=some (.int w)->aQ 6=some (.int u.1)->aQ 5=some (nV s.2.2.2)->on (eU m6 (fun ρ=>ρ 7) fun ρ=>ρ 1) (Rn (eU m6 (fun ρ=>ρ 6) fun x=>some (V.int 0)) (eU Ro (fun ρ=>ρ 1) fun ρ=>ρ 5)) aQ=some (decide (u.2.1=w/\(u.1=0\/w∈s.2.2.2))):=fun aQ h7 h1 h6 h5=>by
     have e0:eU m6 (fun ρ=>ρ 6) (fun x=>some (V.int 0)) aQ=some (decide (u.1=0)):=aG h6 rfl ((bU _ _).trans (congrArg some (mQ.mpr (show((u.1:Int)=0)<->u.1=0 by omega))));have e1:=gB (cw aQ h7 h1) (Bq e0 (aG (F:=Ro) (f:=fun ρ=>ρ 1) (g:=fun ρ=>ρ 5) h1 h5 (M1 _ _)));rw[e1];refine congrArg some ?_;rw[ly];simp only[bX,lx,mI]
    by_cases qa:u.2.1=w/\(u.1=0\/w∈s.2.2.2)
    ·rw[aw qa]
     have YF:∀aQ:ao,aQ 2=some (nV s.1)->aQ 1=some (.int w)->aQ 5=some (nV s.2.2.2)->Qr 2 (cW (fun x=>some (V.int 1)) (cW (iR t7 (fun ρ=>(Rt zm (fun ρ=>ρ 5) (cW (fun ρ=>ρ 1) fun x=>some []) ρ).bind fun x=>if x.scalar=true then some x else none) fun x=>some (V.int 1)) fun x=>some [])) aQ=some (upd aQ 2 (nV (s.1++(List.range (s.2.2.2.count w)).map (· +1))),.none):=fun aQ h2 h1 h5=>by
      refine cN h2 (cN (a:=s.1.map fun(k:Nat)=>V.int k) rfl (cN (ap rfl (ap (ad (cN (Ju h5 (ap h1 rfl) (GD w s.2.2.2)) rfl) rfl) rfl)) (cN (M3 (ez QL)) ((aw ?_).trans ?_))))
      ·rw[List.length_map,List.length_map,List.length_map,eM];omega
      ·rw[<-List.map_append]
     refine⟨_,ik (c2 _ rfl) (cf (mZ ((cc _ rfl rfl rfl rfl).trans (congrArg some (bo qa))) (ow (z:=.int ((s.2.1+1:Nat):Int)) rfl rfl rfl (cf (cB (YF _ rfl rfl rfl) rfl) rfl))) rfl),⟨⟨rfl,rfl⟩,rfl,rfl⟩,⟨rfl,rfl,rfl⟩,?_,b2,fP b3⟩;show(s.1++(List.range (s.2.2.2.count w)).map (· +1)).length<=_;rw[aY,List.length_map,eM];omega
    ·rw[au qa]
     by_cases qw:u.2.1=w
     ·rw[aw qw]
      exact⟨_,ik (c2 _ rfl) (cf (ik ((cc _ rfl rfl rfl rfl).trans (congrArg some (db qa))) (cf (mZ ((cw _ rfl rfl).trans (congrArg some (bo qw))) (ow (z:=.int ((s.2.2.1+1:Nat):Int)) rfl rfl rfl rfl)) rfl)) rfl),⟨⟨rfl,rfl⟩,rfl,rfl⟩,⟨rfl,rfl,rfl⟩,by show s.1.length<=_;omega,b2,ez b3⟩
     ·rw[au qw]
      exact⟨_,ik (c2 _ rfl) (cf (ik ((cc _ rfl rfl rfl rfl).trans (congrArg some (db qa))) (cf (ik ((cw _ rfl rfl).trans (congrArg some (db qw))) rfl) rfl)) rfl),⟨⟨rfl,rfl⟩,rfl,rfl⟩,⟨rfl,rfl,rfl⟩,by omega,b2,ez b3⟩
  ·obtain⟨⟨⟨z1,z2⟩,z3,z4⟩,⟨z5,z6,z7⟩,y1,y2,y3⟩:=hR
   refine(fun h:∃di,_/\M2 w (ei w s u) (l.length+1) di=>h.elim fun di h=>⟨di,h.1,h.2,Ll⟩) ?_;unfold ei;generalize qK w s u=s' at*;by_cases q0:u.1=0
   ·rw[aw q0]
    refine⟨_,mZ (aG z6 rfl ((bU _ _).trans (congrArg some (bo (by rw[q0];rfl))))) (Ge z5 (ap z7 rfl) (rP _ _ (by rw[List.length_map];omega)) rfl),⟨z1,z2,z3,z4,?_,y1,?_,y3⟩⟩
    ·show some (V.list ((s'.2.2.2.map fun(k:Nat)=>V.int k)++[V.int u.2.1]))=_
     exact congrArg (fun z=>some (V.list z)) (nX (fun(k:Nat)=>V.int k) s'.2.2.2 u.2.1)
    ·rw[aY];exact fP y2
   ·rw[au q0]
    exact⟨_,ik (aG z6 rfl ((bU _ _).trans (congrArg some (db (by omega))))) rfl,⟨z1,z2,z3,z4,z5,y1,ez y2,y3⟩⟩
 ·obtain⟨hR,_⟩:=hR
  obtain⟨r1,r2,r3,r4,r5,b1,b2,b3⟩:=hR;have MS:=hg.len;generalize GC w its=s at*;have hs:s.1.length<=121:=az b1 (jg 11 MS);have aa1:s.2.1<=11:=az b3 MS;refine ex3 am r2 r3 r4 fun σ=>?_
  have YG:ji C6 (cW (iR t7 (fun ρ=>Option.map V.list (cW (fun ρ=>ρ 4) (fun x=>some []) ρ)) fun ρ=>ρ 2) fun x=>some []) (upd (upd (upd σ 2 (nV s.1)) 3 (.int s.2.1)) 4 (.int s.2.2.1))=some (.int (Fh s)):=by
   refine bY (bT rfl rfl (zf _ _ (by rw[List.length_map];show 1+s.1.length<=most;omega))) ?_;have e:V.list ([V.int s.2.2.1]++s.1.map fun(k:Nat)=>V.int k)= .list (((s.2.2.1:Int)::s.1.map fun(k:Nat)=>(k:Int)).map .int):=by
    rw[bB,iH];rfl
   rw[e,xt,r8];rfl
  have YH:mS (fun ρ=>(cW (fun x=>some (V.int 1)) (cW (fun x=>some (V.int 9)) fun x=>some []) ρ).bind nJ) (fun ρ y=>some (upd ρ 0 y)) (fun x=>some true) (iR t7 (fun ρ=>ρ 1) (iR zV (fun ρ=>ρ 0) (iR t7 (fun ρ=>ρ 2) (ji uk (cW (mS (fun ρ=>(ρ 3).bind elems) (fun ρ y=>some (upd ρ 0 y)) (eU m6 (iR CJ (fun ρ=>ρ 0) fun ρ=>ρ 1) fun x=>some (V.int 0)) (fun ρ=>ρ 0) 1 [0]) fun x=>some []))))) 1 [4,3,2] (upd (upd (upd σ 2 (nV s.1)) 3 (.int s.2.1)) 4 (.int s.2.2.1))=some (.list ((List.range 8).map fun(j:Nat)=>V.int (Kb s (j+1)))):=by
   refine gn (fun ρ=>(ρ 1=some (.int s.2.2.1)/\ρ 2=some (.int s.2.1))/\ρ 3=some (nV s.1)) (List.range 8) (fun(j:Nat)=>V.int ((j+1:Nat):Int)) (fun(j:Nat)=>V.int (Kb s (j+1))) (cN (ap rfl (ap rfl rfl)) ?_) (by decide) (fun j hj ρ hI=>?_) ⟨⟨rfl,rfl⟩,rfl⟩
   ·exact(J5 (k:=1) (n:=9) (by decide) (by decide)).trans (congrArg some (lK fun j ø=>congrArg V.int (by omega)))
   ·obtain⟨⟨i1,i2⟩,i3⟩:=hI
    have hj8:=ea.mp hj;refine ex3 ρ i1 i2 i3 fun σ=>⟨_,rfl,⟨⟨rfl,rfl⟩,rfl⟩,?_⟩
    have hlen:=rf (fun k:Nat=>decide (k % (j+1)=0)) s.1;refine bT rfl (bT rfl (bT rfl (bY (jp (nt:=1) (cap:=[0]) (fun ρ=>ρ 1=some (.int ((j+1:Nat):Int))) s.1 (fun(k:Nat)=>V.int k) (fun k=>decide (k % (j+1)=0)) (fun(k:Nat)=>V.int k) (cN rfl rfl) (fq hs (by decide)) (fun k hk ρ hI=>ex1 ρ hI fun σ=>⟨_,rfl,rfl,(aG (bT rfl rfl (EZ _ _ (by omega))) rfl (bU _ _)).trans (congrArg some (mQ.mpr (by omega))),fun ø=>rfl⟩) rfl) (nU _ (by rw[List.length_map];omega))) rfl) (ze _ _ ?_)) ?_
    ·rw[List.length_map]
     omega
    ·rw[List.length_map]
     rfl
  refine cN rfl (cN (Ql (cB (cB (ap YH (ap YG rfl)) rfl) rfl)) ?_);rfl
section
noncomputable def upTo(c:Nat):List Nat:=(List.range c).map (· +1)
noncomputable def mW(rs:List Nat):List Nat:=(rs.map upTo).flatten
theorem DT(rs:List Nat)(c:Nat):mW (rs++[c])=mW rs++upTo c:=by
 unfold mW;rw[List.map_append,bR,po,gJ]
inductive Told(n:Nat)(s:oF)(r:List Nat×Nat):Prop
 |mk (a1:s.1=mW r.1) (a2:s.2.1=r.1.length) (a3:s.2.2.1=r.2) (b1:∀x∈r.1,x<=n) (b2:r.1.length<=n) (b3:r.2<=n) (b4:s.2.2.2.length<=n)
theorem BJ{x w:Nat}(hx:x<3)(hw:w<3){total:Int}(h:aH x total=aH w total):x=w:=by
 have key:∀{x w:Nat},x<w->w<3->aH x total=aH w total->False:=fun {x w} hl hw h=>by
  have hx:=Nat.lt_trans hl hw;have big:∀{y:Nat},y<3->y≠1->∀c∈aH y total,c<128:=fun {y} hy h1 c hc=>by
   match y,hy,h1 with
   |0,_,_=>
    rw[aH,aw rfl]at hc;rw[cq.mp hc];omega
   |2,_,_=>
    rw[aH,au (by decide),au (by decide)]at hc;obtain⟨lg,N7⟩:=get_mem (l:=qs) (k:=(total/416 % 7).toNat) (show _<7 by omega);rw[N7]at hc;have:=cH.mp ((bX _ _).mp (cH.mp E6 lg (oO N7))).2 c hc;exact Nat.lt_trans (cV ((bX _ _).mp this).2) (by decide)
  by_cases q1:w=1
  ·obtain⟨c,hc,RJ⟩:=(iT hw total).2.1 q1
   exact gY.mpr RJ (big hx (fun z=>by rw[z,q1]at hl;exact gv _ hl) c (h▸hc))
  ·by_cases q:x=1
   ·obtain⟨c,hc,RJ⟩:=(iT hx total).2.1 q
    exact gY.mpr RJ (big hw q1 c (h▸hc))
   ·have h0:x=0:=by omega
    have h2:w=2:=by omega
    have e:=(iT hx total).2.2 h0;rw[h,h2,aH,au (by decide),au (by decide)]at e;have:∀j,j<7->(qs[j]?.getD []).length≠1:=by decide
    exact this _ (by omega) e
 rcases Nat.lt_trichotomy x w with q|q|q
 ·exact(key q hw h).elim
 ·exact q
 ·exact(key q hx h.symm).elim
theorem DU{l:List Nat}(hl:∀x∈l,x<3){w:Nat}(hw:w<3)(total:Int):(l.map fun x=>aH x total).count (aH w total)=l.count w:=by
 unfold List.count;rw[List.countP_map];refine List.countP_congr fun x hx=>?_
 show(aH x total==aH w total)=true<->(x==w)=true;rw[jN,jN];exact⟨BJ (hl x hx) hw,fun z=>z▸rfl⟩
theorem QM{nm N:List Nat}{L:List (List Nat)}{r:List Nat×Nat}{o:Bool}{c:Nat}(h:N=nm)(ho:o=true\/0<c)(hc:L.count nm=c):Ka nm (L,r) N o=(r.1++[c],r.2):=by
 subst hc;exact(aw h).trans (aw ho)
theorem M4{nm N:List Nat}{L:List (List Nat)}{r:List Nat×Nat}{o:Bool}{c:Nat}(h:N=nm)(ho:¬(o=true\/0<c))(hc:L.count nm=c):Ka nm (L,r) N o=(r.1,r.2+1):=by
 subst hc;exact(aw h).trans (au ho)
section
variable{total:Int}{w:Nat}(hw:w<3){s:oF}{e:Item}
include hw
theorem QN{n:Nat}{r:List Nat×Nat}(h:Told n s r)(hs:∀x∈s.2.2.2,x<3)(he:e.2.1<3)(h2:e.1≠2):Told (n+1) (qK w s e) (Ka (aH w total) (s.2.2.2.map fun x=>aH x total,r) (aH e.2.1 total) (decide (e.1=0)))/\(qK w s e).2.2.2=s.2.2.2:=by
 obtain⟨a1,a2,a3,b1,b2,b3,b4⟩:=h;have hc:=DU hs hw total;by_cases q:e.2.1=w
 ·have qn:aH e.2.1 total=aH w total:=by rw[q]
  by_cases q2:e.1=0\/w∈s.2.2.2
  ·rw[QM qn (q2.imp bo fun z=>List.count_pos_iff.mpr z) hc,show qK w s e=_ from(au h2).trans (aw ⟨q,q2⟩)]
   refine⟨⟨?_,?_,a3,fun x hx=>?_,?_,ez b3,ez b4⟩,rfl⟩
   ·show s.1++_=_
    rw[DT,a1];rfl
   ·show s.2.1+1=_
    rw[a2,aY];rfl
   ·rcases bZ.mp hx with hx|hx
    ·exact ez (b1 x hx)
    ·rw[cq.mp hx]
     exact ez (az CG b4)
   ·rw[aY]
    exact fP b2
  ·rw[M4 qn (fun z=>q2 (z.imp cV fun z=>List.count_pos_iff.mp z)) hc,show qK w s e=_ from(au h2).trans ((au fun z=>q2 z.2).trans (aw q))]
   exact⟨⟨a1,a2,congrArg (· +1) a3,fun x hx=>ez (b1 x hx),ez b2,fP b3,ez b4⟩,rfl⟩
 ·rw[show Ka _ (s.2.2.2.map fun x=>aH x total,r) (aH e.2.1 total) _=r from au fun z=>q (BJ he hw z),show qK w s e=s from(au h2).trans ((au fun z=>q z.1).trans (au q))]
  exact⟨⟨a1,a2,a3,fun x hx=>ez (b1 x hx),ez b2,ez b3,ez b4⟩,rfl⟩
end
noncomputable abbrev Kd(nm:List Nat)(E:List sx):J9:=E.foldl (vT nm) ([],[],0)
inductive VZ(total:Int)(w n m:Nat)(b:Bool)(st:iE)(s:oF):Prop
 |mk (hS:(Kd (aH w total) st.1).1=s.2.2.2.map fun x=>aH x total) (hr:Told n s (Ka (aH w total) (Kd (aH w total) st.1) st.2 false)) (hs:∀x∈s.2.2.2,x<3) (hb:b=false->st.2=[]) (hk:bp eD (st.1.map (·.2)) 0= .inl s.2.2.2.length) (hl:st.1.length<=2*m)
theorem om(nm:List Nat)(E:List sx)(e:sx):Kd nm (E++[e])=vT nm (Kd nm E) e:=dF ..
theorem zF{E:List sx}{d d':Nat}{e:sx}(h:bp eD (E.map (·.2)) 0= .inl d)(he:eD d e.2= .inl d'):bp eD ((E++[e]).map (·.2)) 0= .inl d':=by
 rw[List.map_append];exact bD h he
theorem M5{total:Int}{w:Nat}(hw:w<3){tk:Nat->Option Nat}(ht:zw tk){n m:Nat}{b:Bool}{st:iE}{s:oF}{e:Item}(h:VZ total w n m b st s)(h3:e.1<3)(he:e.2.1<3)(hd:e.1=2->s.2.2.2≠[]):
  VZ total w (n+if e.1=2 then 0 else 1) (m+1) (e.1 != 0) (Gu total tk st b e) (ei w s e):=by
 obtain⟨hS,hr,hs,hb,hk,hl⟩:=h;have cZ:∀q:J9,Ka (aH w total) q [] false=q.2:=fun q=>au fun z=>(iT hw total).1.ne z.symm
 unfold Gu;by_cases q2:e.1=2
 ·have hn0:e.1≠0:=fun z=>by rw[q2]at z;cases z
  have hz:=tu.mpr (hd q2);have e1:ei w s e=(s.1,s.2.1,s.2.2.1,s.2.2.2.dropLast):=by
   unfold ei qK;rw[au hn0,aw q2]
  rw[aw q2,aw q2,e1];obtain⟨a1,a2,a3,b1,b2,b3,b4⟩:=hr;refine⟨?_,?_,fun x hx=>hs x (List.dropLast_subset _ hx),fun ø=>rfl,zF hk ?_,?_⟩
  ·rw[om]
   show(Kd (aH w total) st.1).1.dropLast=_;rw[hS,List.map_dropLast]
  ·rw[cZ,om]
   exact⟨a1,a2,a3,b1,b2,b3,az (by rw[pp];exact Nat.sub_le _ _) b4⟩
  ·show eD s.2.2.2.length 8= .inl s.2.2.2.dropLast.length
   unfold eD;rw[au (by decide),aw rfl,au (nz hz),pp]
  ·rw[aY]
   exact az (fP hl) (kH _)
 ·rw[au q2,au q2]
  have hop:∃E1,(if b=true then(st.1++[(st.2,(tk (jE e.2.2)).getD 0)],[])else st:iE)=(E1,[])/\Kd (aH w total) E1=(s.2.2.2.map fun x=>aH x total,Ka (aH w total) (Kd (aH w total) st.1) st.2 false)/\bp eD (E1.map (·.2)) 0= .inl s.2.2.2.length/\E1.length<=2*m+1:=by
   cases b with
   |false=>
    have hz:=hb rfl;refine⟨st.1,?_,?_,hk,ez hl⟩
    ·rw[au (by decide),<-hz]
    ·rw[hz,cZ,<-hS]
   |true=>
    obtain⟨k,k1,k2,k3⟩:=ht.op _ (E8 (draw:=e.2.2)).2;refine⟨st.1++[(st.2,k)],by rw[aw rfl,k1];rfl,?_,zF hk ((au k2).trans (au k3)),by rw[aY];exact fP hl⟩;rw[om];unfold vT;rw[au k2,au k3,hS,db k2]
  obtain⟨E1,e1,e2,e3,e4⟩:=hop;rw[e1];dsimp only;obtain⟨hA,hA2⟩:=QN hw (total:=total) hr hs he q2;by_cases q0:e.1=0
  ·rw[aw q0]
   have e5:ei w s e=((qK w s e).1,(qK w s e).2.1,(qK w s e).2.2.1,s.2.2.2++[e.2.1]):=by
    unfold ei;rw[aw q0,hA2]
   rw[e5];rw[bo q0]at hA;obtain⟨a1,a2,a3,b1,b2,b3,b4⟩:=hA;obtain⟨_,_,_,_,_,_,b4'⟩:=hr;refine⟨?_,?_,fun x hx=>?_,fun ø=>rfl,zF e3 ?_,?_⟩
   ·rw[om,e2,List.map_append]
    rfl
   ·rw[cZ,om,e2]
    exact⟨a1,a2,a3,b1,b2,b3,by rw[aY];exact fP b4'⟩
   ·rcases bZ.mp hx with hx|hx
    ·exact hs x hx
    ·rw[cq.mp hx];exact he
   ·show eD s.2.2.2.length 7= .inl (s.2.2.2++[e.2.1]).length
    rw[aY];rfl
   ·rw[aY]
    exact fP e4
  ·rw[au q0]
   have e5:ei w s e=qK w s e:=au q0;rw[e5];rw[db q0]at hA;refine⟨by rw[e2,hA2],by rw[e2];exact hA,by rw[hA2];exact hs,fun z=>?_,by rw[hA2];exact e3,ez e4⟩;rw[oN.mpr q0]at z;cases z
theorem Ke{total:Int}{w:Nat}(hw:w<3){tk:Nat->Option Nat}(ht:zw tk):∀{its:List Item} {n m:Nat} {b:Bool} {st:iE} {s:oF},VZ total w n m b st s->(∀e∈its,Du e)->bp eg (its.map (·.1)) s.2.2.2.length= .inl 0->
  ∃b',VZ total w (n+its.countP fun e=>e.1 != 2) (m+its.length) b' (sE total tk st b its) (its.foldl (ei w) s)/\(its.foldl (ei w) s).2.2.2.length=0
 |[],n,m,b,st,s,h,_,hd=>⟨b,h,Sum.inl.inj hd⟩
 |e::r,n,m,b,st,s,h,ho,hd=>by
  obtain⟨o1,o2,_⟩:=ho e (.head _);rw[bB,fb]at hd;have cZ:e.1=2->s.2.2.2≠[]:=fun q z=>by
   rw[z,q]at hd;cases hd
  have h1:=M5 hw ht h o1 o2 cZ;have UA:eg s.2.2.2.length e.1= .inl (ei w s e).2.2.2.length:=by
   have hA:e.1≠2->(qK w s e).2.2.2=s.2.2.2:=fun q=>by
    unfold qK;rw[au q];split
    ·rfl
    ·split<;>rfl
   unfold eg ei;by_cases q0:e.1=0
   ·rw[aw q0,aw q0,hA (by omega),aY]
    rfl
   ·rw[au q0,au q0]
    by_cases q1:e.1=1
    ·rw[aw q1,hA (by omega)]
    ·have q2:e.1=2:=by omega
     have hz:=tu.mpr (cZ q2);rw[au q1,au (nz hz)];unfold qK;rw[aw q2];exact congrArg Sum.inl pp.symm
  rw[UA]at hd;obtain⟨b',h2,h3⟩:=Ke hw ht h1 (fun x hx=>ho x (.tail _ hx)) hd;refine⟨b',?_,h3⟩;have c1:n+(e::r).countP (fun e=>e.1 != 2)=n+(if e.1=2 then 0 else 1)+r.countP fun e=>e.1 != 2:=by
   rw[List.countP_cons];by_cases q:e.1=2
   ·rw[aw q,au (by rw[q];decide)];rfl
   ·rw[au q,aw (oN.mpr q),Nat.add_right_comm,Nat.add_assoc]
  have c2:m+(e::r).length=m+1+r.length:=by rw[cr];omega
  rw[c1,c2];exact h2
theorem Kf{total:Int}{its:List Item}(hg:jU its){tk:Nat->Option Nat}(ht:zw tk){w:Nat}(hw:w<3):
  (vK total tk its).length<=24/\bp eD ((vK total tk its).map (·.2)) 0= .inl 0/\Told 7 (GC w its) (Kd (aH w total) (vK total tk its)).2:=by
 obtain⟨b,h1,h2⟩:=Ke hw ht (its:=its) (n:=0) (m:=0) (b:=false) (st:=([],[])) (s:=([],0,0,[])) ⟨rfl,(by
  unfold Ka;rw[au fun z=>(iT hw total).1.ne z.symm];exact⟨rfl,rfl,rfl,nofun,bL _,bL _,bL _⟩),nofun,fun ø=>rfl,rfl,bL _⟩ hg.ok hg.dyck
 rw[gg,gg]at h1;obtain⟨hS,hr,hs,hb,hk,hl⟩:=h1;rw[h2]at hk;unfold vK;refine⟨?_,zF hk rfl,?_⟩
 ·rw[aY]
  exact az (fP (az hl (jg 2 hg.len))) (by decide)
 ·rw[om]
  obtain⟨a1,a2,a3,b1,b2,b3,b4⟩:=hr;exact⟨a1,a2,a3,fun x hx=>az (b1 x hx) hg.few,az b2 hg.few,az b3 hg.few,az b4 hg.few⟩
end
noncomputable def wsum(f:Nat->Int):List Int->Nat->Int
 |[],_=>0
 |c::l,i=>f i*c+wsum f l (i+1)
theorem iV(f:Nat->Int)(i:Nat):wsum f [] i=0:=rfl
theorem jY(f:Nat->Int)(c:Int)(l:List Int)(i:Nat):wsum f (c::l) i=f i*c+wsum f l (i+1):=rfl
theorem qE(f:Nat->Int):∀(a b:List Int) (i:Nat),wsum f (a++b) i=wsum f a i+wsum f b (i+a.length)
 |[],b,i=>by simp[iV,jY]
 |x::a,b,i=>by
  simp only[List.cons_append,iV,jY,qE f a b,cr];have:i+1+a.length=i+(a.length+1):=by omega
  rw[this];omega
theorem xv(f:Nat->Int):∀(n i:Nat),wsum f (List.replicate n 0) i=0
 |0,i=>rfl
 |n+1,i=>by simp[qM,iV,jY,xv f n]
theorem BK(f:Nat->Int):∀(l:List Int) (b i:Nat) (x:Int),l[b]?=some x->wsum f (l.set b (x+1)) i=wsum f l i+f (i+b)
 |[],b,i,x,h=>by simp at h
 |y::l,0,i,x,h=>by
  simp at h;subst h;simp only[List.set_cons_zero,iV,jY,Int.mul_add,Int.mul_one,lH];omega
 |y::l,b+1,i,x,h=>by
  simp only[List.getElem?_cons_succ]at h;simp only[List.set_cons_succ,iV,jY,BK f l b (i+1) x h];have:i+1+b=i+(b+1):=by omega
  rw[this];omega
theorem GG(f:Nat->Int)(cnt:List Int)(b i:Nat):wsum f (grow cnt b) i=wsum f cnt i:=by
 unfold grow;split
 ·rw[qE,xv];omega
 ·rfl
theorem GH(f:Nat->Int)(cnt:List Int)(b:Nat):wsum f (bump cnt b) 0=wsum f cnt 0+f b:=by
 unfold bump;have h:=(vL cnt b).1;have e:(grow cnt b)[b]?=some (grow cnt b)[b]:=iG h;rw[e,tM,BK f _ b 0 _ e,GG,gg]
noncomputable def GI:List Int->Int
 |[]=>0
 |x::l=>x+GI l
theorem Fj:GI []=0:=rfl
theorem zG(x:Int)(l:List Int):GI (x::l)=x+GI l:=rfl
theorem vU(f:Nat->Int):∀(l:List Nat) (cnt:List Int),wsum f (l.foldl bump cnt) 0=wsum f cnt 0+GI (l.map f)
 |[],cnt=>by simp[Fj,zG]
 |x::l,cnt=>by
  rw[dg,vU f l,GH];simp only[bB,Fj,zG];omega
theorem xw(f:Nat->Int):∀(l:List Int) (i:Nat),(∀j,i<=j->j<i+l.length->f j=0)->wsum f l i=0
 |[],i,h=>rfl
 |x::l,i,h=>by
  rw[wsum,h i (bL _) (by simp),xw f l (i+1) fun j h1 h2=>h j (by omega) (by simp;omega)];simp
theorem GJ(f:Nat->Int)(k:Nat):∀(n:Nat) (l:List Int) (a:Int),l.length=n->(List.range n).foldl (fun a j=>a+f (k+j)*(l[j]?).getD 0) a=a+wsum f l k:=by
 intro n
 induction n with
 |zero=>
  intro l a h;obtain rfl:=CC h;simp[iV,jY]
 |succ n ih=>
  intro l a h;have cZ:l≠[]:=fun z=>by subst z;simp at h
  have e:=List.dropLast_concat_getLast cZ;have hl:l.dropLast.length=n:=by rw[pp,h];rfl
  have QO:(List.range n).foldl (fun a j=>a+f (k+j)*(l[j]?).getD 0) a=(List.range n).foldl (fun a j=>a+f (k+j)*(l.dropLast[j]?).getD 0) a:=by
   have go:∀(r:List Nat) (a:Int),(∀j∈r,j<n)->r.foldl (fun a j=>a+f (k+j)*(l[j]?).getD 0) a=r.foldl (fun a j=>a+f (k+j)*(l.dropLast[j]?).getD 0) a:=by
    intro r
    induction r with
    |nil=>intros;rfl
    |cons x r ih2=>
     intro a hr;have hx:x<n:=hr x gI;have:l.dropLast[x]?=l[x]?:=by rw[List.getElem?_dropLast];rw[aw (by omega)]
     simp only[dg,this];exact ih2 _ fun j hj=>hr j (ge _ hj)
   exact go _ _ fun j hj=>ea.mp hj
  rw[tJ,dF,QO,ih _ _ hl];have UB:l[n]?=some (l.getLast cZ):=by
   rw[List.getLast_eq_getElem,iG (by omega)]
   congr 2
   omega
  simp only[dg,mM,UB,tM]
  conv=>rhs;rw[<-e,qE]
  simp only[iV,jY,hl];omega
theorem GL(cnt:List Int)(ts:Nat)(h:0<ts):Gy cnt ts=wsum (fun i=>(i:Int)/ts) cnt 0:=by
 have e:cnt=cnt.take ts++cnt.drop ts:=(xV ..).symm;unfold Gy;have h1:=GJ (fun i=>(i:Int)/ts) ts (cnt.length-ts) (cnt.drop ts) 0 (by simp);simp only[tH]at h1;rw[h1];have UC:wsum (fun i=>(i:Int)/ts) (cnt.take ts) 0=0:=by
  refine xw _ _ _ fun j ø hj=>?_
  have:(j:Int)<ts:=by
   rw[tK]at hj;omega
  exact Int.ediv_eq_zero_of_lt (by omega) this
 conv=>rhs;rw[e,qE,UC]
 by_cases q:ts<=cnt.length
 ·have:(cnt.take ts).length=ts:=by rw[tK];exact Nat.min_eq_left q
  rw[this,gg]
 ·have:cnt.drop ts=[]:=tB (by omega)
  rw[this];simp[iV,jY]
theorem BL(l:List Nat)(cnt:List Int)(b n nt:Nat):∀r:Nat,bp kq (List.replicate r 32++l) (cnt,b,n,nt)=bp kq l (cnt,b+r,n+r,nt):=by
 intro r
 induction r generalizing b n with
 |zero=>rfl
 |succ r ih=>
  rw[qM,List.cons_append];simp only[vh,fb,kq,jL];rw[ih];have e1:b+1+r=b+(r+1):=by omega
  have e2:n+1+r=n+(r+1):=by omega
  rw[e1,e2]
theorem QP(cnt:List Int)(b n nt:Nat){c:Nat}{l:List Nat}(h1:c≠32)(h2:c≠9):bp kq (c::l) (cnt,b,n,nt)= .inr (cnt,b,n,nt):=by simp[vh,fb,kq,h1,h2]
theorem Kg(cnt:List Int)(b:Nat):(bump cnt b).length=max cnt.length (b+1):=by
 unfold bump grow;rw[List.length_set];split
 ·simp;omega
 ·omega
set_option tactic.hygienic true in
theorem M6(cnt:List Int)(b j:Nat):((bump cnt b)[j]?).getD 0=(cnt[j]?).getD 0+if j=b then 1 else 0:=by
 have hg:∀j:Nat,((grow cnt b)[j]?).getD 0=(cnt[j]?).getD 0:=by
  intro j;unfold grow;split
  ·rw[List.getElem?_append]
   split
   ·rfl
   ·rename_i h1 h2
    rw[List.getElem?_replicate];have:cnt[j]?=none:=na (by omega);rw[this];split<;>rfl
  ·rfl
 unfold bump;rw[List.getElem?_set,hg];by_cases q:b=j
 ·subst q
  rw[aw rfl,aw (vL cnt b).1,aw rfl];rfl
 ·rw[au q,au (fun z=>q z.symm),hg]
  omega
noncomputable def M7:List Nat->Nat
 |[]=>0
 |r::l=>max (r+1) (M7 l)
theorem DV:M7 []=0:=rfl
theorem vV(r:Nat)(l:List Nat):M7 (r::l)=max (r+1) (M7 l):=rfl
theorem jc:∀(l:List Nat) (cnt:List Int),(l.foldl bump cnt).length=max cnt.length (M7 l)
 |[],cnt=>by simp[DV,vV]
 |x::l,cnt=>by
  rw[dg,jc l,Kg];exact Nat.max_assoc ..
theorem lq:∀(l:List Nat) (cnt:List Int) (j:Nat),((l.foldl bump cnt)[j]?).getD 0=(cnt[j]?).getD 0+(l.count j:Int)
 |[],cnt,j=>by simp
 |x::l,cnt,j=>by
  rw[dg,lq l,M6,xW];by_cases q:j=x
  ·subst q;simp;omega
  ·have:(x==j)=false:=by simpa using fun z=>q z.symm
   simp[q,this]
theorem Kh{l l':List Nat}(h:l.Perm l'):M7 l=M7 l':=by
 induction h with
 |nil=>rfl
 |cons x _ ih=>simp[DV,vV,ih]
 |swap x y l=>exact Nat.max_left_comm ..
 |trans _ _ h1 h2=>exact h1.trans h2
theorem DW{l l':List Nat}:l.foldl bump []=l'.foldl bump []<->l.Perm l':=by
 constructor
 ·intro h
  rw[List.perm_iff_count];intro j;have h1:=lq l [] j;have h2:=lq l' [] j;rw[h]at h1;rw[h1]at h2;simp at h2;omega
 ·intro h
  refine List.ext_getElem? fun j=>?_
  have hl:(l.foldl bump []).length=(l'.foldl bump []).length:=by rw[jc,jc,Kh h]
  have h1:=lq l [] j;have h2:=lq l' [] j;rw[h.count_eq]at h1;by_cases q:j<(l.foldl bump []).length
  ·rw[iG q]at h1 ⊢
   rw[iG (hl▸q)]at h2 ⊢;simp only[tM]at h1 h2;rw[h1,h2]
  ·rw[na (by omega),na (by omega)]
theorem GM(l:List Nat):∀z∈l.foldl bump [],0<=z/\z<=l.length:=by
 intro z hz;obtain⟨j,hj⟩:=List.mem_iff_getElem?.mp hz;have h:=lq l [] j;rw[hj]at h;simp at h;have:=CG (a:=j) (l:=l);omega
theorem QQ{l:List Nat}{m:Nat}(h:∀r∈l,r<m):M7 l<=m:=by
 induction l with
 |nil=>exact eK _
 |cons x l ih=>
  have h1:=h x gI;have h2:=ih fun r hr=>h r (ge _ hr)
  simp only[DV,vV];omega
theorem GN(r:Nat)(rs:List Nat)(l:List Nat):iO (r::rs)++l=List.replicate r 32++(9::(iO rs++l)):=by
 unfold iO;rw[bB,eQ,List.append_assoc,List.append_assoc];rfl
theorem Fk(l:List Nat):∀(rs:List Nat) (cnt:List Int) (n nt:Nat),bp kq (iO rs++l) (cnt,0,n,nt)=bp kq l (rs.foldl bump cnt,0,n+(rs.map (· +1)).sum,nt+rs.length)
 |[],cnt,n,nt=>rfl
 |r::rs,cnt,n,nt=>by
  rw[GN,BL,fb];show bp kq (iO rs++l) (bump cnt (0+r),0,n+r+1,nt+1)=_;rw[Fk l rs,gg,dg,bB,j6,cr];have e1:n+r+1+(rs.map (· +1)).sum=n+(r+1+(rs.map (· +1)).sum):=by rw[Nat.add_assoc n r 1,Nat.add_assoc]
  have e2:nt+1+rs.length=nt+(rs.length+1):=by rw[Nat.add_assoc,qX 1]
  rw[e1,e2]
theorem Ki{r:List Nat×Nat}{c:Nat}{l:List Nat}(h1:c≠32)(h2:c≠9):pK (DP r (c::l))=(r.1.foldl bump [],r.2,(r.1.map (· +1)).sum+r.2,r.1.length):=by
 unfold pK DP;rw[List.append_assoc,List.append_assoc,Fk,BL,List.cons_append,QP _ _ _ _ h1 h2,gg,gg,gg]
noncomputable def pM(r:List Nat×Nat)(t:Nat):Nat:=r.2+t*((r.1.map (· /t)).sum+r.1.length)
noncomputable def iP(r:List Nat×Nat):Nat:=r.1.foldr max r.2
theorem BM(t:Nat):∀l:List Nat,GI (l.map fun(i:Nat)=>(i:Int)/t)=((l.map (· /t)).sum:Nat)
 |[]=>rfl
 |x::l=>by
  rw[bB,zG,BM t l,bB,j6];rfl
theorem DX(r:List Nat×Nat){t:Nat}(h:0<t):zA (r.1.foldl bump []) r.1.length r.2 t=(pM r t:Nat):=by
 unfold zA pM;rw[GL _ _ h,vU,iV,Int.zero_add,BM];rfl
theorem M8(r:List Nat×Nat):(r.1.map (· +1)).sum+r.2=pM r 1:=by
 have:∀l:List Nat,(l.map (· +1)).sum=(l.map (· /1)).sum+l.length:=fun l=>by
  induction l with
  |nil=>rfl
  |cons x l ih=>
   rw[bB,bB,j6,j6,ih,Nat.div_one,cr];omega
 unfold pM;rw[this,tW,qX]
theorem Kj:∀c,c<8->∀t,t<9->0<t->((upTo c).filter fun s=>decide (s % t=0)).length=c/t:=by decide+kernel
theorem BN{t:Nat}(h0:0<t)(h:t<9):∀{rs:List Nat},(∀x∈rs,x<=7)->((mW rs).filter fun s=>decide (s % t=0)).length=(rs.map (· /t)).sum
 |[],_=>rfl
 |r::rs,hr=>by
  have e:mW (r::rs)=upTo r++mW rs:=by unfold mW;rw[bB,eQ]
  rw[e,List.filter_append,aY,BN h0 h fun x hx=>hr x (.tail _ hx),Kj r (rg (hr r (.head _))) t h h0,bB,j6]
theorem Kk(a:Nat):∀c:Nat,(upTo c).foldr max a=max c a:=by
 intro c
 induction c generalizing a with
 |zero=>exact(Nat.zero_max a).symm
 |succ c ih=>
  have e:upTo (c+1)=upTo c++[c+1]:=by unfold upTo;rw[tJ,List.map_append];rfl
  rw[e,List.foldr_append,ih];show max c (max (c+1) a)=_;omega
theorem BO(a:Nat):∀rs:List Nat,(mW rs).foldr max a=rs.foldr max a
 |[]=>rfl
 |r::rs=>by
  have e:mW (r::rs)=upTo r++mW rs:=by unfold mW;rw[bB,eQ]
  rw[e,List.foldr_append,BO a rs,Kk,tV]
theorem Kl{s:oF}{r:List Nat×Nat}(h:Told 7 s r):BI s= .tup [.list ((List.range 8).map fun(j:Nat)=>V.int (pM r (j+1):Nat)),.int (iP r)]:=by
 obtain⟨a1,a2,a3,b1,b2,b3,b4⟩:=h;have e1:(List.range 8).map (fun(j:Nat)=>V.int (Kb s (j+1)))=(List.range 8).map fun(j:Nat)=>V.int (pM r (j+1):Nat):=lK fun j hj=>by
  unfold Kb pM;rw[a1,a2,a3,BN (jf j) (Nat.succ_lt_succ (ea.mp hj)) b1,qX (List.sum _)];rfl
 have e2:Fh s=iP r:=by
  unfold Fh iP;rw[a1,a3,BO]
 unfold BI;rw[e1,e2]
theorem Km(r:List Nat×Nat):max (((r.1.foldl bump []).length:Int)-1) r.2=(iP r:Nat):=by
 rw[jc,gx,Nat.zero_max];obtain⟨rs,a⟩:=r;unfold iP;dsimp only
 induction rs with
 |nil=>exact Int.max_eq_right (oP (by decide) (ni a))
 |cons x l ih=>
  rw[vV,tV];omega
theorem QR{n:Nat}{r:List Nat×Nat}(h1:∀x∈r.1,x<=n)(h2:r.2<=n):iP r<=n:=by
 obtain⟨rs,a⟩:=r;unfold iP;dsimp only
 induction rs with
 |nil=>exact h2
 |cons x l ih=>exact re.mpr ⟨h1 x (.head _),ih (fun y hy=>h1 y (.tail _ hy)) h2⟩
theorem DY(r:List Nat×Nat):(∀x∈r.1,x<=iP r)/\r.2<=iP r:=by
 obtain⟨rs,a⟩:=r;unfold iP;dsimp only
 induction rs with
 |nil=>exact⟨nofun,bL _⟩
 |cons x l ih=>
  refine⟨fun y hy=>?_,az ih.2 (rd _ _)⟩;rcases bI.mp hy with rfl|hy
  ·exact xU _ _
  ·exact az (ih.1 y hy) (rd _ _)
theorem jZ:∀a b:List Int,PyData.eqvAll (a.map .int) (b.map .int)=decide (a=b)
 |[],[]=>rfl
 |[],_::_=>rfl
 |_::_,[]=>rfl
 |x::a,y::b=>by
  have e:(x==y)=decide (x=y):=rfl;simp[PyData.eqvAll,PyData.eqv,jZ a b,e]
theorem depthAll_ints:∀a:List Int,PyData.depthAll (a.map .int)<=1
 |[]=>by simp[PyData.depthAll]
 |x::a=>by
  have:=depthAll_ints a;simp[PyData.depthAll,PyData.depth];omega
theorem Kn(a b:List Int)(x y:Int):m6 (.tup [.tup (a.map .int),.int x]) (.tup [.tup (b.map .int),.int y])=some (decide (a=b)&&decide (x=y)):=by
 have h:=depthAll_ints a;rw[x5 _ _ rfl];simp only[CL,V.wP,V.wQ,V.wR,V.wS,V.wT,V.x4,V.CK,qp,pr,lF,PyData.depth,PyData.depthAll,PyData.eqv,jZ,PyData.eqvAll];rw[aw (by omega)];simp[BEq.beq]
noncomputable def fU(l:List (List Int)):V:=.list (l.map fun e=>.tup (e.map .int))
theorem vW:∀l:List (List Int),V.Fu (l.map fun e=>.tup (e.map .int))=some (l.map fun e=>.tuple (e.map .int))
 |[]=>rfl
 |x::l=>by simp[V.x4,V.CK,V.wP,V.wQ,V.wR,V.wS,V.wT,qp,vW l]
theorem sH:∀l:List (List Int),PyData.eqvAll (l.map fun e=>.tuple (e.map .int)) (l.map fun e=>.tuple (e.map .int))=true
 |[]=>rfl
 |x::l=>by simp[PyData.eqvAll,PyData.eqv,jZ,sH l]
theorem kt:∀a:List (List Int),PyData.depthAll (a.map fun e=>.tuple (e.map .int))<=5
 |[]=>by simp[PyData.depthAll]
 |x::a=>by
  have:=kt a;have:=depthAll_ints x;simp[PyData.depthAll,PyData.depth];omega
theorem BP(l:List (List Int)):Hb (fU l) (fU l)=some false:=by
 have h:=kt l;unfold Hb fU;rw[x5 _ _ rfl];simp only[CL,V.wP,V.wQ,V.wR,V.wS,V.wT,vW,pr,lF,PyData.depth,PyData.eqv,sH];rw[aw (by omega)];rfl
theorem BQ(a b:Int):C6 [.int a,.int b]=some (.int (max a b)):=by
 rw[O0];exact congrArg (fun z=>some (V.int z)) (by split<;>omega)
theorem BR{P:Pk}{n:Nat}{C N}{mN}{W:dJ P C N mN}{g1 g2}{ρ:ao}{raw MY:V}{k:Int}{nt b:Nat}{cnt:List Int}(hc:cnt.length<=1000)(h0:ρ 0=some (Gx raw MY k nt b cnt)):
  Ends (eh (P:=P) (n:=n) (C:=C) (N:=N) (mN:=mN) W g1 g2).1 ρ (.int (max ((cnt.length:Int)-1) b)):=by
 have hl:(cnt.map V.int).length=cnt.length:=List.length_map ..;have Dv:(cnt.map V.int).length<=most:=by rw[hl];exact az hc (by decide)
 unfold eh;dsimp only;exact ex1 ρ h0 fun σ=>bw rfl (df (cN (ap (bT (bY rfl (Js _ Dv)) rfl rfl) (ap rfl rfl)) ((BQ ..).trans (by rw[hl]))))
theorem GO{P:Pk}{n:Nat}{C N}{mN}{W:dJ P C N mN}{ρ:ao}{raw MY:V}{k:Int}{nt b:Nat}{cnt:List Int}{sa YI:V}{k':Int}{nt' b':Nat}{QS:List Int}(h0:ρ 0=some (Gx raw MY k nt b cnt))(h1:ρ 1=some (Gx sa YI k' nt' b' QS)):
  Ends (zz (P:=P) (n:=n) (C:=C) (N:=N) (mN:=mN) W).1 ρ (.bool (decide (cnt=QS)&&decide (b=b'))):=by
 unfold zz;dsimp only;have e:=Kn cnt QS b b';rw[show decide ((b:Int)=b')=decide (b=b')from mQ.mpr Int.ofNat_inj]at e;exact df (cB (aG (cN h0 rfl) (cN h1 rfl) e) rfl)
noncomputable def ku(a b:Nat->Int)(l:List (List Int))(j:Nat):List (List Int):=if a (j+1)=b (j+1)then l else l++[[((j+1:Nat):Int),a (j+1),b (j+1)]]
noncomputable def gF(a b:Nat->Int)(n:Nat):List (List Int):=(List.range n).foldl (ku a b) []
theorem Ko(a b:Nat->Int):∀(r:List Nat) (l:List (List Int)),(r.foldl (ku a b) l).length<=l.length+r.length
 |[],l=>bL _
 |x::r,l=>by
  have h:(ku a b l x).length<=l.length+1:=by
   unfold ku;split
   ·exact kH _
   ·exact je aY
  refine az (Ko a b r (ku a b l x)) ?_;rw[cr];omega
theorem Fm{k:Nat}(h:k<=1000):nJ [.int 1,.int ((k:Int)+1)]=some ((List.range k).map fun(j:Nat)=>V.int ((j+1:Nat):Int)):=by
 have h6:eX ((k:Int)+1)=true:=(bX _ _).mpr ⟨bo (by omega),bo (by omega)⟩;have hk:((k:Int)+1-1).toNat=k:=by omega
 rw[ud,h6,r6,hk];exact congrArg some (lK fun j ø=>congrArg V.int (by omega))
theorem BS{P:Pk}{n:Nat}{C N}{mN}{W:dJ P C N mN}{g1 g2}{a1 F1 m1 o1 l1 c1}{a2 F2 m2 o2 l2 c2}{ρ:ao}{v w:V}{lv lw:Int}{x y:Nat->Int}{k:Nat}(hk:k<=1000)(hv:∃l,v= .obj l/\l.length=5)(hw:∃l,w= .obj l/\l.length=5)(O5:max lv lw+1=k)
  (wc:F2 [v]=some (.int lv)) (Mg:F2 [w]=some (.int lw)) (hI:∀ts:Nat,0<ts->ts<=k->F1 [v,.int ts]=some (.int (x ts))/\F1 [w,.int ts]=some (.int (y ts)))
  (h0:ρ 0=some v) (h1:ρ 1=some w):
  Ends (fH (P:=P) (n:=n) (C:=C) (N:=N) (mN:=mN) W g1 g2 (aP:=a1) (bN:=F1) m1 o1 l1 c1 (aE:=a2) (bi:=F2) m2 o2 l2 c2).1 ρ (fU (gF x y k)):=by
 obtain⟨wp,rfl,GQ⟩:=hv;obtain⟨UD,rfl,GT⟩:=hw;unfold fH;dsimp only;refine ex2 ρ h0 h1 fun σ=>dk (Eq.trans (ad (cN (ap (bQ rfl GQ rfl wc) (ap (bQ rfl GT rfl Mg) rfl)) (BQ _ _)) rfl) (congrArg (fun z=>some (V.int z)) O5)) (dk rfl (eB (fun ρ=>Qm 0 1 2 3 (.obj wp) (.obj UD) (.int k) (fU (gF x y k)) ρ) (eT (cN (ap rfl (ap (ad rfl rfl) rfl)) (Fm hk)) (lj (fun(j:Nat)=>V.int ((j+1:Nat):Int)) (List.range k) (fun l ρ=>Qm 0 1 2 3 (.obj wp) (.obj UD) (.int k) (fU (l.foldl (ku x y) [])) ρ) (fun l j ρ hj eu hR=>?_) ⟨rfl,rfl,rfl,rfl⟩)) fun am hR=>df hR.4))
 obtain⟨e1,e2⟩:=hI (j+1) (jf j) (ea.mp hj);rw[eM]at eu;have Cc:(l.foldl (ku x y) []).length<most:=fq (Ko _ _ l []) (by rw[gx,gg];exact fu eu (az hk (by decide)));rw[dF,dg,mM];generalize l.foldl (ku x y) []=st at*;unfold ku;by_cases q:x (j+1)=y (j+1)
 ·rw[aw q]
  exact hR.ex fun σ=>⟨_,_,rfl,cf (ik (aG (bQ rfl GQ rfl e1) (bQ rfl GT rfl e2) (RE q)) rfl) rfl,rfl,rfl,rfl,rfl⟩
 ·rw[au q]
  exact hR.ex fun σ=>⟨_,_,rfl,cf (mZ (aG (bQ rfl GQ rfl e1) (bQ rfl GT rfl e2) (neT q)) (Ge rfl (ap (cB (ap rfl (ap (bQ rfl GQ rfl e1) (ap (bQ rfl GT rfl e2) rfl))) rfl) rfl) (rP _ _ (by rw[List.length_map];exact Cc)) rfl)) rfl,rfl,rfl,rfl,congrArg (fun z=>some (V.list z)) (nX (fun e=>V.tup (e.map .int)) st [((j+1:Nat):Int),x (j+1),y (j+1)])⟩
noncomputable def pN:Cx:={vars:=[(wd,.local,false),(Fs,.local,false),(Le,.local,false),(⟨#[97]⟩,.local,true),(Rg,.local,false)],aV:=[Ej,v7]}
noncomputable def gc{P:Pk}{n:Nat}{C N:Addr}{mN:Str->Option Value}(W:dJ P C N mN)(fe:P.glob Ej=some (.builtin "max"))(aX:P.glob v7=some (.type "range")){aP:Addr}{bN:List V->Option V}(bt:mN Ei=some (.ref aP))(aL:∀h,P.G h->∃of fd,h.get? aP=some of/\of.cls= .type "function"/\of.data= .func fd)(bu:typeLookup (.type "object") Ei=pure none)(bv:aZ P n (.ref aP) bN){aE:Addr}{bi:List V->Option V}(bj:mN G7=some (.ref aE))(aK:∀h,P.G h->∃of fd,h.get? aE=some of/\of.cls= .type "function"/\of.data= .func fd)(bk:typeLookup (.type "object") G7=pure none)(bm:aZ P n (.ref aE) bi):{f:ao->Option (ao×Fl)//oo P n pN (dW (aO (dX (aO pq.main.body 10)) 7)) f}:=⟨_,(@af _ _ _ _ _ _ _ (@aI _ _ _ 2 _ _ _ _ _ _ rfl (by decide) (@al _ _ _ _ _ _ _ _ _ _ _ cm (@aJ _ _ _ _ _ _ _ _ _ _ _ rfl fe rfl um (@aa _ _ _ _ _ _ _ _ (bc W (ab 0 rfl rfl rfl) bj aK bk (by decide+kernel) bm ag ir (by decide) rfl ir) (aa (bc W (ab 1 rfl rfl rfl) bj aK bk (by decide+kernel) bm ag ir (by decide) rfl ir) ag ir) ir) ir (ca _ _)) ae) cz) (@af _ _ _ _ _ _ _ (fV 3 rfl (by decide) (fm ag (by decide) len0) cz) (@af _ _ _ _ _ _ _ (@dB _ _ _ (false) _ _ _ _ _ _ _ (@cL _ _ _ _ _ _ _ rfl aX (@aa _ _ _ _ _ _ _ _ ae (aa (al cm (ab 2 rfl rfl rfl) ae) ag ir) ir) ir (ca _ _)) (aB 4 rfl (by decide) (by decide)) (@af _ _ _ _ _ _ _ (@aN _ _ _ _ _ _ _ _ _ _ (@ay _ _ _ _ _ _ _ _ _ _ Ho (@bc _ _ _ _ _ _ _ W _ _ _ _ _ _ _ _ _ (ac (ab 0 rfl rfl rfl)) bt aL _ bu (by decide+kernel) bv (aa (ac (ab 4 rfl rfl rfl)) ag ir) ir (by decide) rfl ir) (@bc _ _ _ _ _ _ _ W _ _ _ _ _ _ _ _ _ (ac (ab 1 rfl rfl rfl)) bt aL _ bu (by decide+kernel) bv (aa (ac (ab 4 rfl rfl rfl)) ag ir) ir (by decide) rfl ir) rfl) (@af _ _ _ _ _ _ _ (@eG _ _ _ _ _ _ (@eF _ _ _ 3 _ _ _ _ _ _ _ _ _ rfl rfl rfl ub (@aa _ _ _ _ _ _ _ _ (@de _ _ _ _ _ _ _ _ (@aa _ _ _ _ _ _ _ _ (ab 4 rfl rfl rfl) (@aa _ _ _ _ _ _ _ _ (bc W (ab 0 rfl rfl rfl) bt aL bu (by decide+kernel) bv (aa (ab 4 rfl rfl rfl) ag ir) ir (by decide) rfl ir) (@aa _ _ _ _ _ _ _ _ (bc W (ab 1 rfl rfl rfl) bt aL bu (by decide+kernel) bv (aa (ab 4 rfl rfl rfl) ag ir) ir (by decide) rfl ir) ag ir) ir) ir) (by decide) (ah (ah (ah len0)))) ag ir) ir (by decide) rfl ir) jA ir) ai) ai) ai) cz) (af (aW (dc 3 rfl rfl rfl)) ai))))⟩
noncomputable def QT:Cx:={vars:=[(wd,.local,false),(Fs,.local,false),(Le,.local,false),(Rg,.local,false)],aV:=[Ej,v7]}
noncomputable def DZ{P:Pk}{n:Nat}{C N:Addr}{mN:Str->Option Value}(W:dJ P C N mN)(fe:P.glob Ej=some (.builtin "max"))(aX:P.glob v7=some (.type "range")){aP:Addr}{bN:List V->Option V}(bt:mN Ei=some (.ref aP))(aL:∀h,P.G h->∃of fd,h.get? aP=some of/\of.cls= .type "function"/\of.data= .func fd)(bu:typeLookup (.type "object") Ei=pure none)(bv:aZ P n (.ref aP) bN){aE:Addr}{bi:List V->Option V}(bj:mN G7=some (.ref aE))(aK:∀h,P.G h->∃of fd,h.get? aE=some of/\of.cls= .type "function"/\of.data= .func fd)(bk:typeLookup (.type "object") G7=pure none)(bm:aZ P n (.ref aE) bi):{f:ao->Option (ao×Fl)//oo P n QT (dW (aO (dX (aO pq.main.body 10)) 6)) f}:=⟨_,(@af _ _ _ _ _ _ _ (@aN _ _ _ _ _ _ _ _ _ _ (@ay _ _ _ _ _ _ _ _ _ _ Ho (dj W 1 rfl (ac (ab 0 rfl rfl rfl)) ir) (dj W 1 rfl (ac (ab 1 rfl rfl rfl)) ir) rfl) (af (aW eV) ai) ai) (@af _ _ _ _ _ _ _ (@aN _ _ _ _ _ _ _ _ _ _ (@gk _ _ _ _ _ _ _ _ (@iY _ _ _ _ _ (dj W 4 rfl (ac (ab 0 rfl rfl rfl)) ir) cz) (@iY _ _ _ _ _ (dj W 4 rfl (ac (ab 1 rfl rfl rfl)) ir) cz)) (@af _ _ _ _ _ _ _ (@aW _ _ _ _ _ _ (@iX _ _ _ _ _ _ _ _ _ _ _ Hp (dj W 2 rfl (ac (ab 0 rfl rfl rfl)) ir) (dj W 2 rfl (ac (ab 1 rfl rfl rfl)) ir) rfl)) ai) ai) (@af _ _ _ _ _ _ _ (@aI _ _ _ 2 _ _ _ _ _ _ rfl (by decide) (@al _ _ _ _ _ _ _ _ _ _ _ cm (@aJ _ _ _ _ _ _ _ _ _ _ _ rfl fe rfl um (@aa _ _ _ _ _ _ _ _ (bc W (ab 0 rfl rfl rfl) bj aK bk (by decide+kernel) bm ag ir (by decide) rfl ir) (aa (bc W (ab 1 rfl rfl rfl) bj aK bk (by decide+kernel) bm ag ir (by decide) rfl ir) ag ir) ir) ir (ca _ _)) ae) cz) (@af _ _ _ _ _ _ _ (@dB _ _ _ (false) _ _ _ _ _ _ _ (@cL _ _ _ _ _ _ _ rfl aX (@aa _ _ _ _ _ _ _ _ ae (aa (al cm (ab 2 rfl rfl rfl) ae) ag ir) ir) ir (ca _ _)) (aB 3 rfl (by decide) (by decide)) (@af _ _ _ _ _ _ _ (@aN _ _ _ _ _ _ _ _ _ _ (@ay _ _ _ _ _ _ _ _ _ _ Ho (@bc _ _ _ _ _ _ _ W _ _ _ _ _ _ _ _ _ (ac (ab 0 rfl rfl rfl)) bt aL _ bu (by decide+kernel) bv (aa (ac (ab 3 rfl rfl rfl)) ag ir) ir (by decide) rfl ir) (@bc _ _ _ _ _ _ _ W _ _ _ _ _ _ _ _ _ (ac (ab 1 rfl rfl rfl)) bt aL _ bu (by decide+kernel) bv (aa (ac (ab 3 rfl rfl rfl)) ag ir) ir (by decide) rfl ir) rfl) (af (aW eV) ai) ai) ai) cz) (af (aW eV) ai)))))⟩
noncomputable def kA(a b:Nat->Int)(l:List (List Int))(j:Nat):List (List Int):=if b (j+1)<=a (j+1)then l++[[((j+1:Nat):Int),a (j+1),b (j+1)]]else l
noncomputable def ej(a b:Nat->Int)(n:Nat):List (List Int):=(List.range n).foldl (kA a b) []
theorem QU(a b:Nat->Int)(r:List Nat):∀(l:List (List Int)),(r.foldl (kA a b) l).length<=l.length+r.length:=by
 induction r with
 |nil=>exact fun l=>bL _
 |cons x r ih=>
  intro l;have h:(kA a b l x).length<=l.length+1:=by
   unfold kA;by_cases q:b (x+1)<=a (x+1)
   ·rw[aw q];exact je aY
   ·rw[au q];exact kH _
  refine az (ih (kA a b l x)) ?_;rw[cr];omega
theorem BU{P:Pk}{n:Nat}{C N}{mN}{W:dJ P C N mN}{g1 g2}{a1 F1 m1 o1 l1 c1}{a2 F2 m2 o2 l2 c2}{ρ:ao}{v w:V}{lv lw:Int}{x y:Nat->Int}{k:Nat}(hk:k<=1000)(hv:∃l,v= .obj l/\l.length=5)(hw:∃l,w= .obj l/\l.length=5)(O5:max lv lw+1=k)
  (wc:F2 [v]=some (.int lv)) (Mg:F2 [w]=some (.int lw)) (hI:∀ts:Nat,0<ts->ts<=k->F1 [v,.int ts]=some (.int (x ts))/\F1 [w,.int ts]=some (.int (y ts)))
  (h0:ρ 0=some v) (h1:ρ 1=some w):
  Ends (gc (P:=P) (n:=n) (C:=C) (N:=N) (mN:=mN) W g1 g2 (aP:=a1) (bN:=F1) m1 o1 l1 c1 (aE:=a2) (bi:=F2) m2 o2 l2 c2).1 ρ (fU (ej x y k)):=by
 obtain⟨wp,rfl,GQ⟩:=hv;obtain⟨UD,rfl,GT⟩:=hw;unfold gc;dsimp only;refine ex2 ρ h0 h1 fun σ=>dk (Eq.trans (ad (cN (ap (bQ rfl GQ rfl wc) (ap (bQ rfl GT rfl Mg) rfl)) (BQ _ _)) rfl) (congrArg (fun z=>some (V.int z)) O5)) (dk rfl (eB (fun ρ=>Qm 0 1 2 3 (.obj wp) (.obj UD) (.int k) (fU (ej x y k)) ρ) (eT (cN (ap rfl (ap (ad rfl rfl) rfl)) (Fm hk)) (lj (fun(j:Nat)=>V.int ((j+1:Nat):Int)) (List.range k) (fun l ρ=>Qm 0 1 2 3 (.obj wp) (.obj UD) (.int k) (fU (l.foldl (kA x y) [])) ρ) (fun l j ρ hj eu hR=>?_) ⟨rfl,rfl,rfl,rfl⟩)) fun am hR=>df hR.4))
 obtain⟨e1,e2⟩:=hI (j+1) (jf j) (ea.mp hj);rw[eM]at eu;have Cc:(l.foldl (kA x y) []).length<most:=fq (QU _ _ l []) (by rw[gx,gg];exact fu eu (az hk (by decide)));rw[dF,dg,mM];generalize l.foldl (kA x y) []=st at*;unfold kA;by_cases q:y (j+1)<=x (j+1)
 ·rw[aw q]
  exact hR.ex fun σ=>⟨_,_,rfl,cf (mZ (aG (bQ rfl GQ rfl e1) (bQ rfl GT rfl e2) (congrArg some (bo q))) (Ge rfl (ap (cB (ap rfl (ap (bQ rfl GQ rfl e1) (ap (bQ rfl GT rfl e2) rfl))) rfl) rfl) (rP _ _ (by rw[List.length_map];exact Cc)) rfl)) rfl,rfl,rfl,rfl,congrArg (fun z=>some (V.list z)) (nX (fun e=>V.tup (e.map .int)) st [((j+1:Nat):Int),x (j+1),y (j+1)])⟩
 ·rw[au q]
  exact hR.ex fun σ=>⟨_,_,rfl,cf (ik (aG (bQ rfl GQ rfl e1) (bQ rfl GT rfl e2) (congrArg some (db q))) rfl) rfl,rfl,rfl,rfl,rfl⟩
theorem UE{k:Nat}(h:k<=1000):nJ [.int 2,.int ((k:Int)+1)]=some ((List.range (k-1)).map fun(j:Nat)=>V.int ((j+2:Nat):Int)):=by
 have h6:eX ((k:Int)+1)=true:=(bX _ _).mpr ⟨bo (by omega),bo (by omega)⟩;have hk:((k:Int)+1-2).toNat=k-1:=by omega
 rw[ud,h6,r6,hk];exact congrArg some (lK fun j ø=>congrArg V.int (by omega))
noncomputable def vX(n1 n2:Int)(s1 s2:Bool)(t1 t2:Int)(x y:Nat->Int)(k:Nat):Bool:=if n2<=n1 then false else if(s1&&s2)=true then decide (t1<=t2)else(List.range (k-1)).all fun j=>decide (x (j+2)<y (j+2))
theorem M9{α:Type}{p:α->Bool}{l l' us:List α}{u:α}(h:l++u::l'=us)(q:p u=false):us.all p=false:=by
 rw[<-h,List.all_append,tQ,q,Bool.false_and,Bool.and_false]
theorem Kq{P:Pk}{n:Nat}{C N}{mN}{W:dJ P C N mN}{g1 g2}{a1 F1 m1 o1 l1 c1}{a2 F2 m2 o2 l2 c2}{ρ:ao}{r1 r2 q1 UF:V}{n1 n2 t1 t2 lv lw:Int}{s1 s2:Bool}{x y:Nat->Int}{k:Nat}(hk:k<=1000)(O5:max lv lw+1=k)
  (wc:F2 [.obj [r1,.int n1,.int t1,q1,.bool s1]]=some (.int lv)) (Mg:F2 [.obj [r2,.int n2,.int t2,UF,.bool s2]]=some (.int lw)) (hI:∀ts:Nat,0<ts->ts<=k->F1 [.obj [r1,.int n1,.int t1,q1,.bool s1],.int ts]=some (.int (x ts))/\F1 [.obj [r2,.int n2,.int t2,UF,.bool s2],.int ts]=some (.int (y ts)))
  (h0:ρ 0=some (.obj [r1,.int n1,.int t1,q1,.bool s1])) (h1:ρ 1=some (.obj [r2,.int n2,.int t2,UF,.bool s2])):
  Ends (DZ (P:=P) (n:=n) (C:=C) (N:=N) (mN:=mN) W g1 g2 (aP:=a1) (bN:=F1) m1 o1 l1 c1 (aE:=a2) (bi:=F2) m2 o2 l2 c2).1 ρ (.bool (vX n1 n2 s1 s2 t1 t2 x y k)):=by
 unfold DZ;dsimp only;refine ex2 ρ h0 h1 fun σ=>?_
 by_cases q:n2<=n1
 ·rw[vX,aw q]
  exact dO ⟨_,mZ (aG (x:=.int n1) (y:=.int n2) rfl rfl (congrArg some (bo q))) rfl⟩
 rw[vX,au q];refine bw (ik (aG (x:=.int n1) (y:=.int n2) rfl rfl (congrArg some (db q))) rfl) ?_;by_cases q2:(s1&&s2)=true
 ·rw[aw q2]
  exact dO ⟨_,mZ ((gB (a:=s1) (b:=s2) rfl rfl).trans (congrArg some q2)) (Ql (cB (cB (aG (x:=.int t1) (y:=.int t2) rfl rfl rfl) rfl) rfl))⟩
 rw[au q2];refine bw (ik ((gB (a:=s1) (b:=s2) rfl rfl).trans (congrArg some (Bool.eq_false_iff.mpr q2))) rfl) ?_;have GQ:([r1,.int n1,.int t1,q1,.bool s1]:List V).length=5:=rfl;have GT:([r2,.int n2,.int t2,UF,.bool s2]:List V).length=5:=rfl;refine dk (Eq.trans (ad (cN (ap (bQ rfl GQ rfl wc) (ap (bQ rfl GT rfl Mg) rfl)) (BQ _ _)) rfl) (congrArg (fun z=>some (V.int z)) O5)) ?_;refine vj (eT (cN (ap rfl (ap (ad rfl rfl) rfl)) (UE hk)) (vi (fun(j:Nat)=>V.int ((j+2:Nat):Int)) (List.range (k-1)) (fun l ρ=>(ρ 0=some (.obj [r1,.int n1,.int t1,q1,.bool s1])/\ρ 1=some (.obj [r2,.int n2,.int t2,UF,.bool s2]))/\l.all (fun j=>decide (x (j+2)<y (j+2)))=true) _ (fun l u l' ρ hx hR=>?_) (fun ρ hR=>.inr ⟨rfl,?_⟩) ⟨⟨rfl,rfl⟩,rfl⟩))
 ·have hu:u<k-1:=ea.mp (hx▸ck _ gI)
  obtain⟨e1,e2⟩:=hI (u+2) (jf _) (by omega);obtain⟨⟨g0,g1⟩,ha⟩:=hR;refine ex2 ρ g0 g1 fun σ=>⟨_,rfl,?_⟩
  by_cases q3:y (u+2)<=x (u+2)
  ·rw[M9 (p:=fun j=>decide (x (j+2)<y (j+2))) hx (db (Int.not_lt.mpr q3))]
   exact⟨_,Ql (mZ (aG (bQ rfl GQ rfl e1) (bQ rfl GT rfl e2) (congrArg some (bo q3))) rfl),RF.rt (Or.inl rfl)⟩
  ·exact⟨_,cf (ik (aG (bQ rfl GQ rfl e1) (bQ rfl GT rfl e2) (congrArg some (db q3))) rfl) rfl,.nx ⟨⟨rfl,rfl⟩,by rw[List.all_append,ha,tQ,bo (mL.mp q3)];rfl⟩⟩
 ·rw[hR.2]
  exact df rfl
noncomputable abbrev UG(a b:Nat->Int)(j:Nat):List Int:=[((j+1:Nat):Int),a (j+1),b (j+1)]
theorem fold_filter{st:List (List Int)->Nat->List (List Int)}{p:Nat->Bool}{f:Nat->List Int}(h:∀l j,st l j=if p j=true then l++[f j]else l):∀(r:List Nat) (l:List (List Int)),r.foldl st l=l++(r.filter p).map f
 |[],l=>(dZ l).symm
 |j::r,l=>by
  rw[dg,fold_filter h r,h,qS]
  cases p j with
  |true=>exact List.append_assoc _ _ _
  |false=>rfl
theorem vY(a b:Nat->Int)(n:Nat):ej a b n=((List.range n).filter fun j=>decide (b (j+1)<=a (j+1))).map (UG a b):=
 fold_filter (fun l j=>by
  unfold kA;by_cases q:b (j+1)<=a (j+1)
  ·rw[aw q,bo q];rfl
  ·rw[au q,db q];rfl) _ _
theorem BV(a b:Nat->Int)(n:Nat):gF a b n=((List.range n).filter fun j=>!decide (a (j+1)=b (j+1))).map (UG a b):=
 fold_filter (fun l j=>by
  unfold ku;by_cases q:a (j+1)=b (j+1)
  ·rw[aw q,bo q];rfl
  ·rw[au q,db q];rfl) _ _
theorem BW(a b:Nat->Int)(n:Nat):ej a b n=[]<->∀j,j<n->a (j+1)<b (j+1):=by
 rw[vY,CB,xL];exact⟨fun h j hj=>mL.mp fun z=>h j (ea.mpr hj) (bo z),fun h j hj z=>mL.mpr (h j (ea.mp hj)) (cV z)⟩
theorem GU(a b:Nat->Int)(n:Nat):gF a b n=[]<->∀j,j<n->a (j+1)=b (j+1):=by
 rw[BV,CB,xL];refine⟨fun h j hj=>Cw fun z=>h j (ea.mpr hj) (by rw[db z];rfl),fun h j hj z=>?_⟩;rw[bo (h j (ea.mp hj))]at z;cases z
noncomputable abbrev cp(r:List Nat×Nat)(t:Nat):Int:=(pM r t:Nat)
noncomputable abbrev eE(r r':List Nat×Nat):Nat:=max (iP r) (iP r')+1
theorem vZ{r:List Nat×Nat}(h:(r.1.foldl bump []).length<=1)(t:Nat):pM r t=r.2+t*r.1.length:=by
 rw[jc,gx,Nat.zero_max]at h;have:∀l:List Nat,M7 l<=1->(l.map (· /t)).sum=0:=fun l=>by
  induction l with
  |nil=>exact fun ø=>rfl
  |cons x l ih=>
   intro hl;rw[vV]at hl;have hx:x=0:=Nat.le_zero.mp (Nat.le_of_succ_le_succ (az (xU _ _) hl));rw[bB,j6,ih (az (rd _ _) hl),hx,Nat.zero_div]
 unfold pM;rw[this _ h,gg]
theorem Na(r r':List Nat×Nat):vX (cp r 1) (cp r' 1) (decide ((r.1.foldl bump []).length<=1)) (decide ((r'.1.foldl bump []).length<=1)) (r.1.length:Nat) (r'.1.length:Nat) (cp r) (cp r') (eE r r')=decide (ej (cp r) (cp r') (eE r r')=[]):=by
 have QV:=BW (cp r) (cp r') (eE r r');rw[mQ.mpr QV];unfold vX;by_cases q:cp r' 1<=cp r 1
 ·rw[aw q]
  exact(db fun h=>mL.mpr (h 0 (jf _)) q).symm
 rw[au q];have q1:=jR.mp (mL.mp q);by_cases q2:(decide ((r.1.foldl bump []).length<=1)&&decide ((r'.1.foldl bump []).length<=1))=true
 ·rw[aw q2]
  obtain⟨s1,s2⟩:=(bX _ _).mp q2;have s1:=vZ (cV s1);have s2:=vZ (cV s2);refine mQ.mpr ⟨fun h j ø=>?_,fun h=>?_⟩
  ·refine jR.mpr ?_
   rw[s1,s2,tW,tW]at q1;rw[s1,s2,Nat.add_mul,Nat.add_mul,tW,tW];have:=jg j (nc.mp h);omega
  ·refine nc.mpr (tw fun z=>?_)
   have h1:=jR.mp (h (max (iP r) (iP r')) (mJ _));rw[s1,s2]at h1;have h2:=jg (max (iP r) (iP r')+1) z;rw[Nat.mul_succ]at h2;have h3:=az (DY r').2 (rd (iP r) (iP r'));omega
 ·rw[au q2,ly,cH,nj]
  refine⟨fun h j hj=>?_,fun h j hj=>bo (h (j+1) (Nat.succ_lt_of_lt_pred (ea.mp hj)))⟩
  match j,hj with
  |0,_=>exact jR.mpr q1
  |j+1,hj=>exact cV (h j (ea.mpr (Nat.lt_pred_of_succ_lt hj)))
noncomputable def wt(t r:Nat):Nat:=if t=0 then 1 else r/t
theorem D1(t:Nat):∀l:List Nat,(l.map (wt t)).sum=l.count t+((l.filter fun x=>decide (t+1<=x)).map (wt t)).sum
 |[]=>rfl
 |x::l=>by
  rw[bB,j6,D1 t l,xW,qS];by_cases q:t+1<=x
  ·rw[aw (bo q),au (by rw[jN];exact fun z=>gv _ (z▸q)),bB,j6]
   omega
  ·rw[au fun z=>q (cV z)]
   by_cases q2:x=t
   ·have:wt t x=1:=by
     unfold wt;by_cases q0:t=0
     ·rw[aw q0]
     ·rw[au q0,q2];exact Nat.div_self (Nat.pos_of_ne_zero q0)
    rw[aw (jN.mpr q2),this];omega
   ·have:wt t x=0:=by
     unfold wt;rw[au fun z=>q2 (by omega)];exact Nat.div_eq_of_lt (by omega)
    rw[au (by rw[jN];exact q2),this];omega
theorem qF(l:List Nat)(t j:Nat):(l.filter fun x=>decide (t<=x)).count j=if t<=j then l.count j else 0:=by
 by_cases h:t<=j
 ·rw[aw h];exact List.count_filter (bo h)
 ·rw[au h];exact List.count_eq_zero.mpr fun z=>h (cV (gw.mp z).2)
theorem Nb{l l':List Nat}{m:Nat}(h1:∀x∈l,x<=m)(h2:∀x∈l',x<=m)(h:∀t,t<=m->(l.map (wt t)).sum=(l'.map (wt t)).sum):l.Perm l':=by
 have key:∀k,k<=m+1->(l.filter fun x=>decide (m+1-k<=x)).Perm (l'.filter fun x=>decide (m+1-k<=x)):=fun k=>by
  induction k with
  |zero=>
   intro _;have e:∀{l:List Nat},(∀x∈l,x<=m)->(l.filter fun x=>decide (m+1-0<=x))=[]:=fun h=>xL.mpr fun x hx z=>Nat.not_succ_le_self m (az (cV z) (h x hx))
   rw[e h1,e h2]
  |succ k ih=>
   intro hk;have ih:=ih (kL hk);have et:m+1-k=m+1-(k+1)+1:=by omega
   have hm:m+1-(k+1)<=m:=by omega
   rw[et]at ih;generalize m+1-(k+1)=t at*;refine List.perm_iff_count.mpr fun j=>?_
   have hj:=ih.count_eq j;rw[qF,qF]at hj;rw[qF,qF];by_cases q:t<=j
   ·rw[aw q,aw q]
    by_cases q2:t+1<=j
    ·rw[aw q2,aw q2]at hj
     exact hj
    ·obtain rfl:j=t:=by omega
     have hs:=h j hm;rw[D1 j l,D1 j l',(ih.map (wt j)).sum_nat]at hs;exact Nat.add_right_cancel hs
   ·rw[au q,au q]
 have:=key (m+1) (bL _);rw[tI]at this;have e:∀l:List Nat,(l.filter fun x=>decide (0<=x))=l:=fun l=>List.filter_eq_self.mpr fun x ø=>bo (eK x)
 rwa[e,e]at this
theorem mD{t:Nat}:∀{l:List Nat},(∀x∈l,x<t)->(l.map (· /t)).sum=0
 |[],_=>rfl
 |x::l,h=>by rw[bB,j6,mD fun y hy=>h y (.tail _ hy),Nat.div_eq_of_lt (h x (.head _))]
theorem Kr(r r':List Nat×Nat):(decide (r.1.foldl bump []=r'.1.foldl bump [])&&decide (r.2=r'.2))=decide (gF (cp r) (cp r') (eE r r')=[]):=by
 have QV:=GU (cp r) (cp r') (eE r r');rw[mQ.mpr QV,ly,bX,nj,nj,nj,DW];constructor
 ·rintro⟨h1,h2⟩ j _
  refine congrArg Int.ofNat ?_;unfold pM;rw[h2,h1.length_eq,(h1.map (· /(j+1))).sum_nat]
 ·intro h
  have hc:∀t,0<t->t<=eE r r'->pM r t=pM r' t:=fun t h0 ht=>by
   have:=Int.ofNat_inj.mp (h (t-1) (by omega));rwa[xC h0]at this
  obtain⟨w1,w2⟩:=DY r;obtain⟨w3,w4⟩:=DY r';have m1:=xU (iP r) (iP r');have m2:=rd (iP r) (iP r');have hK:=hc (eE r r') (jf _) (bL _);unfold pM at hK;rw[mD fun x hx=>rg (az (w1 x hx) m1),mD fun x hx=>rg (az (w3 x hx) m2),gg,gg]at hK;have hb:r.2=r'.2:=by
   have:=congrArg (· % eE r r') hK;rwa[Nat.add_mul_mod_self_left,Nat.add_mul_mod_self_left,Nat.mod_eq_of_lt (rg (az w2 m1)),Nat.mod_eq_of_lt (rg (az w4 m2))]at this
  have hl:r.1.length=r'.1.length:=by
   rw[hb]at hK;exact Nat.eq_of_mul_eq_mul_left (jf _) (tX hK)
  refine⟨Nb (m:=max (iP r) (iP r')) (fun x hx=>az (w1 x hx) m1) (fun x hx=>az (w3 x hx) m2) fun t ht=>?_,hb⟩;by_cases q0:t=0
  ·subst q0
   have e:∀l:List Nat,(l.map (wt 0)).sum=l.length:=fun l=>by
    induction l with
    |nil=>rfl
    |cons x l ih=>rw[bB,j6,ih,cr,qX];rfl
   rw[e,e,hl]
  ·have h0:=Nat.pos_of_ne_zero q0
   have:=hc t h0 (ez ht);unfold pM at this;rw[hb,hl]at this;have e:wt t=(· /t):=funext fun x=>au q0
   rw[e];exact Nat.add_right_cancel (Nat.eq_of_mul_eq_mul_left h0 (tX this))
section
section
theorem v3(a b c:Value):checkTypeCall "zip" ⟨[a,b,c],[]⟩=pure ():=by kernel_rfl
theorem wD(a b c:Value):checkBuiltinCall "zip.__new__" ⟨[.type "zip",a,b,c],[]⟩=pure ():=by kernel_rfl
theorem pO(a b c d:Value):argsOk "object.__init__" ⟨[a,b,c,d],[]⟩:=by
 unfold argsOk;rw[signature?_of (id:="object.__init__") (n:=['_','_','t','i','n','i','_','_']) (o:=['t','c','e','j','b','o']) (by kernel_rfl) F.owner_object];kernel_rfl
theorem D2:typeLookup (.type "zip") "__len__"=pure none:=by rw[lM,lN];kernel_rfl
theorem BX:typeLookup (.type "zip") "__length_hint__"=pure none:=by rw[lM,lN];kernel_rfl
noncomputable abbrev UH(h:Heap)(a b c:Int):Heap:=h.push {cls:=.type "range_iterator",data:=.fields #[rawInt a,rawInt (Builtin.Range.rangeSize a b c),rawInt c]}
noncomputable abbrev UI(h:Heap)(a b c:Int)(l1:Addr):Heap:=(UH h a b c).push {cls:=.type "list_iterator",data:=.fields #[.ref l1,.int 0 0]}
noncomputable abbrev V0(h:Heap)(a b c:Int)(l1 l2:Addr):Heap:=(UI h a b c l1).push {cls:=.type "list_iterator",data:=.fields #[.ref l2,.int 0 0]}
noncomputable abbrev V1(h:Heap)(a b c:Int)(l1 l2:Addr):Heap:=(V0 h a b c l1 l2).push {cls:=.type "tuple",data:=.seq #[.ref h.objs.size,.ref (UH h a b c).objs.size,.ref (UI h a b c l1).objs.size]}
noncomputable abbrev V2(h:Heap)(a b c:Int)(l1 l2:Addr):Heap:=(V1 h a b c l1 l2).push {cls:=.type "tuple",data:=.seq #[.none,.none,.none]}
noncomputable abbrev Lc(h:Heap)(a b c:Int)(l1 l2:Addr):Heap:=(V2 h a b c l1 l2).push {cls:=.type "zip",data:=.fields #[.none,.bool false,.bool false,.ref (V0 h a b c l1 l2).objs.size,.ref (V1 h a b c l1 l2).objs.size]}
set_option maxHeartbeats 4000000 in
theorem v4(r l1 l2:Addr)(a b c:Int)(t u v:Tok)(xs ys:Array Value):
  Meets (Builtin.«zip.__new__» ⟨[.type "zip",.ref r,.ref l1,.ref l2],[]⟩) (fun ø R s=>IsRange s.heap r a b c t u v/\Builtin.Range.small a b c=true/\s.heap.IsList l1 xs/\s.heap.IsList l2 ys/\
   R (.ok (.ret (.ref (V2 s.heap a b c l1 l2).objs.size))) {s with heap:=Lc s.heap a b c l1 l2}):=
 .of_wp fun prog w A R s h=>by
  obtain⟨hp,g,d,tk,os⟩:=s;obtain⟨hr,ls,CQ,Gm,h⟩:=h;have JK:=sub_zip;have hR:IsRange (Shared.heap ⟨hp,g,d,tk,os⟩) r a b c t u v:=hr;have wc:Heap.IsList (Shared.heap ⟨UH hp a b c,g,d,tk,os⟩) l1 xs:=Heap.IsList.push CQ _;have Mg:Heap.IsList (Shared.heap ⟨UI hp a b c l1,g,d,tk,os⟩) l2 ys:=Heap.IsList.push (Heap.IsList.push Gm _) _
  wp_walk using Cn hR ls,tz wc,tz Mg
  exact⟨_,rfl,h⟩
end
structure wE(h:Heap)(N l1 l2:Addr)(f0 f1:Value)(a c:Int)(k i:Nat)(xs ys:Array Value):Prop where
 z:h.get? (N+5)=some {cls:=.type "zip",dict:=none,data:=.fields #[f0,f1,.bool false,.ref (N+3),.ref (N+4)],slots:= #[]}
 TI:h.get? (N+3)=some {cls:=.type "tuple",data:=.seq #[.ref N,.ref (N+1),.ref (N+2)]}
 TO:∃x y v,h.get? (N+4)=some {cls:=.type "tuple",data:=.seq #[x,y,v]}
 r:IsRangeIter h N (a+(i:Nat)*c) ((k:Int)-(i:Nat)) c
 i1:h.IsListIter (N+1) l1 i
 i2:h.IsListIter (N+2) l2 i
 L1:h.IsList l1 xs
 L2:h.IsList l2 ys
section
variable{prog:Program}{w:World}{A:Around}{E:Value->Shared->Prop}{s:Shared}
theorem D3{r l1 l2:Addr}{a b c:Int}{t u v:Tok}{k:Nat}{xs ys:Array Value}{Q:Value->Shared->Prop}(hr:IsRange s.heap r a b c t u v)(ls:Builtin.Range.small a b c=true)(hk:(k:Int)=Builtin.Range.rangeSize a b c)(CQ:s.heap.IsList l1 xs)(Gm:s.heap.IsList l2 ys)
  (h:∀h',wE h' s.heap.objs.size l1 l2 .none (.bool false) a c k 0 xs ys->h'.objs.size=s.heap.objs.size+6->(∀c o,s.heap.get? c=some o->h'.get? c=some o)->Q (.ref (s.heap.objs.size+5)) {s with heap:=h'}):
  wpAny (model prog w) A (call (.type "zip") [.ref r,.ref l1,.ref l2]) Q E s:=by
 refine callType_new F.called_zip (by decide) (v3 _ _ _) (wD _ _ _) (fun obj=>pO obj _ _ _) F.entry_zip_new
  (v4 r l1 l2 a b c t u v xs ys) ⟨hr,ls,CQ,Gm,?_⟩
 have z1:(UH s.heap a b c).objs.size=s.heap.objs.size+1:=jd ..;have z2:(UI s.heap a b c l1).objs.size=s.heap.objs.size+2:=by rw[jd,z1]
 have z3:(V0 s.heap a b c l1 l2).objs.size=s.heap.objs.size+3:=by rw[jd,z2]
 have z4:(V1 s.heap a b c l1 l2).objs.size=s.heap.objs.size+4:=by rw[jd,z3]
 have z5:(V2 s.heap a b c l1 l2).objs.size=s.heap.objs.size+5:=by rw[jd,z4]
 have z6:(Lc s.heap a b c l1 l2).objs.size=s.heap.objs.size+6:=by rw[jd,z5]
 have g6:(Lc s.heap a b c l1 l2).get? (V2 s.heap a b c l1 l2).objs.size=some _:=bJ _ rfl;have g5:(Lc s.heap a b c l1 l2).get? (V1 s.heap a b c l1 l2).objs.size=some _:=bz _ (bJ _ rfl);have g4:(Lc s.heap a b c l1 l2).get? (V0 s.heap a b c l1 l2).objs.size=some _:=bz _ (bz _ (bJ _ rfl));have g3:(Lc s.heap a b c l1 l2).get? (UI s.heap a b c l1).objs.size=some _:=bz _ (bz _ (bz _ (bJ _ rfl)));have g2:(Lc s.heap a b c l1 l2).get? (UH s.heap a b c).objs.size=some _:=bz _ (bz _ (bz _ (bz _ (bJ _ rfl))));have g1:(Lc s.heap a b c l1 l2).get? s.heap.objs.size=some _:=bz _ (bz _ (bz _ (bz _ (bz _ (bJ _ rfl)))));have up:∀d o,s.heap.get? d=some o->(Lc s.heap a b c l1 l2).get? d=some o:=fun d o x=>
  bz _ (bz _ (bz _ (bz _ (bz _ (bz _ x)))))
 show _/\_;rw[z3,z4,z5]at g6;rw[z4]at g5;rw[z1,z2,z3]at g4;rw[z2]at g3;rw[z1]at g2;rw[z5];clear z1 z2 z3 z4 z5;generalize Lc s.heap a b c l1 l2=H at*;refine⟨⟨_,g6,rfl⟩,h _ ⟨g6,g4,⟨_,_,_,g5⟩,?_,⟨_,g2,rfl,rfl⟩,⟨_,g3,rfl,rfl⟩,CQ.at fun o e=>up _ o e,Gm.at fun o e=>up _ o e⟩ z6 up⟩;show IsRangeIter _ _ _ _ _;have e1:a+((0:Nat):Int)*c=a:=by simp
 have e2:(k:Int)-((0:Nat):Int)=k:=by simp
 rw[e1,e2,hk];exact g1
theorem gt{it:Addr}{x left step:Int}{Q:Value->Shared->Prop}(hit:IsRangeIter s.heap it x left step)(Of:0<left)
  (hQ:∀h',IsRangeIter h' it (x+step) (left-1) step->Heap.SameBut it s.heap h'->Q (.int x s.toks) {s with heap:=h',toks:=s.toks+1}):
  wpAny (model prog w) A (Builtin.SmallTypes.nextOf (.ref it)) Q E s:=by
 have hT:s.TypeIs (.ref it) "range_iterator":=⟨_,hit,rfl⟩;unfold Builtin.SmallTypes.nextOf;refine aA (oQ (name:=Str.ofString "__next__") hT xX
  (qN xX hT F.entry_range_iterator_next (F.args_range_iterator_next_1 _) (AutoRange.range_iterator___next___range_iterator_1 it x left step (by omega)) ⟨hit,?_⟩))
 exact bK (hQ _ (kJ _ (kJ _ hit rfl) rfl) ((oK ..).trans (oK ..)))
theorem mE{it:Addr}{x left step:Int}{Q:Value->Shared->Prop}(hh:A.handled=none)(hit:IsRangeIter s.heap it x left step)(Of:left<=0)
  (hE:∀h' e,Heap.ExtBut it s.heap h'->(∃o,h'.get? e=some o/\o.cls= .type "StopIteration")->E (.ref e) {s with heap:=h'}):wpAny (model prog w) A (Builtin.SmallTypes.nextOf (.ref it)) Q E s:=by
 have hT:s.TypeIs (.ref it) "range_iterator":=⟨_,hit,rfl⟩;unfold Builtin.SmallTypes.nextOf;refine aA (oQ (name:=Str.ofString "__next__") hT xX
  (lE xX hT F.entry_range_iterator_next ?_ (F.args_range_iterator_next_1 _)))
 show wpAny _ _ (field (.ref it) 0>>= _) _ _ s;refine aA (gj hit rfl (x:=rawInt x) rfl ?_);show wpAny _ _ (field (.ref it) 1>>= _) _ _ s;refine aA (gj hit rfl (x:=rawInt left) rfl ?_);show wpAny _ _ (field (.ref it) 2>>= _) _ _ s;refine aA (gj hit rfl (x:=rawInt step) rfl ?_);show wpAny _ _ (if left<=0 then _ else _) _ _ s;rw[aw Of];refine aA (qY ?_);refine aA ?_;show wpAny _ _ (newExc (.type "StopIteration") []>>= _) _ _ _;refine aA ?_;simp only[newExc,newTuple];refine aA (tC ?_ (by size_fits));refine aA (m:=firstArgMember _ _) (wpAny_of_eq (a:=Value.none) (by first|rfl|(simp only[firstArgMember];rfl)) ?_);refine tC ?_ (by size_fits);simp only[raiseNew];refine aA (wpAny_handled ?_)
 first|rw[show A.in1.handled=none from hh]|rw[hh]
 refine aA (bK (wpAny_throw ?_));exact hE _ _ (((Heap.ExtBut.refl it s.heap).push _).push _) ⟨_,bJ _ rfl,rfl⟩
theorem wE.lt{h:Heap}{N l1 l2:Addr}{f0 f1:Value}{a c:Int}{k i:Nat}{xs ys:Array Value}(Z:wE h N l1 l2 f0 f1 a c k i xs ys):N+5<h.objs.size:=ew Z.z
theorem jH{T:Addr}{a b c x:Value}{k:Nat}{Q:Unit->Shared->Prop}(hT:s.heap.get? T=some {cls:=.type "tuple",data:=.seq #[a,b,c]})
  (h:∀h',h'.get? T=some {cls:=.type "tuple",data:=.seq ((#[a,b,c]:Array Value).setIfInBounds k x)}->Heap.SameBut T s.heap h'->Q () {s with heap:=h'}):
  wpAny (model prog w) A (updateSeq T (·.setIfInBounds k x)) Q E s:=by
 refine nC hT rfl (h _ ?_ (oK ..));rw[kJ _ hT rfl];simp[Obj.mapSeq]
theorem D4{N l1 l2:Addr}{a c:Int}{k i:Nat}{xs ys:Array Value}{x y:Value}{Q:Value->Shared->Prop}(h1:l1<N)(h2:l2<N)(Z:wE s.heap N l1 l2 .none (.bool false) a c k i xs ys)(hi:i<k)(hx:xs[i]?=some x)(hy:ys[i]?=some y)
  (hQ:∀h',wE h' N l1 l2 (rawInt s.heap.objs.size) (.bool false) a c k (i+1) xs ys->h'.get? s.heap.objs.size=some {cls:=.type "tuple",data:=.seq #[.int (a+(i:Nat)*c) s.toks,x,y]}->(∀b o,b<N\/N+5<b->s.heap.get? b=some o->h'.get? b=some o)->Q (.ref s.heap.objs.size) {s with heap:=h',toks:=s.toks+1}):
  wpAny (model prog w) A (Builtin.«zip.__next__» ⟨[.ref (N+5)],[]⟩) (fun fin s'=>∃v,fin= .done (.ret v)/\Q v s') E s:=by
 obtain⟨hz,hTI,⟨p,q,r,V3⟩,hr,V4,V5,CQ,Gm⟩:=Z;show wpAny _ _ (field (.ref (N+5)) 2>>= _) _ _ _;refine aA (gj hz rfl (x:=.bool false) rfl ?_);show wpAny _ _ (field (.ref (N+5)) 3>>= _) _ _ _;refine aA (gj hz rfl (x:=.ref (N+3)) rfl ?_);refine aA (nD hTI rfl ?_);show wpAny _ _ (Builtin.SmallTypes.ownedTupleIsFree (.ref (N+5))>>= _) _ _ _;refine aA ?_;unfold Builtin.SmallTypes.ownedTupleIsFree;refine aA (gj hz rfl (x:=.none) rfl (bK ?_));simp only[jL];refine aA (qY ?_);refine aA (gj hz rfl (x:=.ref (N+4)) rfl ?_);refine aA (tY hz (by simp) fun aj xx eS=>?_);refine aA ?_;simp only[List.zipIdx_cons,List.zipIdx_nil,oM,nq];have ne:∀{p q:Nat},p≠q->(N+p:Nat)≠N+q:=fun h e=>h (tX e)
 have low:∀{l:Nat},l<N->∀p:Nat,l≠N+p:=fun h p=>nf (fu h (fO ..))
 refine aA (aA (xN ?_));show wpAny _ _ (Builtin.SmallTypes.nextOf (.ref N)>>= _) _ _ _;refine aA (gt (eS.extBut _ _ (ne (p:=0) (by decide)) hr) (by omega) fun aM Kt kU=>bK ?_);have Ku:=kU.extBut _ _ (ne (q:=0) (p:=4) (by decide)) (eS.extBut _ _ (ne (by decide)) V3);refine aA (nD Ku rfl ?_);refine aA (jH Ku fun eo QW Fn=>?_);refine aA (qZ (bK ?_));have GV:∀b o,b≠N+5->b≠N->b≠N+4->s.heap.get? b=some o->eo.get? b=some o:=fun b o z1 z2 z3 e=>Fn.extBut _ _ z3 (kU.extBut _ _ z2 (eS.extBut _ _ z1 e))
 refine aA (aA (xN ?_));show wpAny _ _ (Builtin.SmallTypes.nextOf (.ref (N+1))>>= _) _ _ _;refine aA (xY (V4.at fun o e=>GV _ o (ne (by decide)) (ne (q:=0) (by decide)) (ne (by decide)) e) (CQ.at fun o e=>GV _ o (low h1 5) (low h1 0) (low h1 4) e) hx fun x8 D5 o6=>bK ?_);have Kv:=o6.extBut _ _ (ne (by decide)) QW;refine aA (nD Kv rfl ?_);refine aA (jH Kv fun sK QX u5=>?_);refine aA (qZ (bK ?_));have GW:∀b o,b≠N+1->b≠N+4->eo.get? b=some o->sK.get? b=some o:=fun b o z1 z2 e=>u5.extBut _ _ z2 (o6.extBut _ _ z1 e)
 refine aA (aA (xN ?_));show wpAny _ _ (Builtin.SmallTypes.nextOf (.ref (N+2))>>= _) _ _ _;refine aA (xY (V5.at fun o e=>GW _ o (ne (by decide)) (ne (by decide)) (GV _ o (ne (by decide)) (ne (q:=0) (by decide)) (ne (by decide)) e)) (Gm.at fun o e=>GW _ o (low h2 1) (low h2 4) (GV _ o (low h2 5) (low h2 0) (low h2 4) e)) hy fun BY D6 qG=>bK ?_);have Kw:=qG.extBut _ _ (ne (by decide)) QX;refine aA (nD Kw rfl ?_);refine aA (jH Kw fun zH zI Kx=>?_);refine aA (qZ (bK (bK ?_)));have Ky:∀b o,b≠N+2->b≠N+4->sK.get? b=some o->zH.get? b=some o:=fun b o z1 z2 e=>Kx.extBut _ _ z2 (qG.extBut _ _ z1 e)
 replace zI:zH.get? (N+4)=some {cls:=.type "tuple",data:=.seq #[.int (a+(i:Nat)*c) s.toks,x,y]}:=zI;refine aA (nD zI rfl ?_);refine aA (wpAny_newTuple ?_);have sh:zH.objs.size=s.heap.objs.size:=by rw[Kx.1,qG.1,u5.1,o6.1,Fn.1,kU.1,eS.1]
 have Og:=Ky _ _ (ne (by decide)) (ne (by decide)) (GW _ _ (ne (by decide)) (ne (by decide)) (Fn.extBut _ _ (ne (by decide)) (kU.extBut _ _ (ne (q:=0) (by decide)) xx)));have Kz:∀b o,b<N\/N+5<b->s.heap.get? b=some o->zH.get? b=some o:=fun b o hb e=>by
  have nb:∀p:Nat,p<=5->b≠N+p:=fun p hp e=>by
   rcases hb with q|q
   ·exact low q p e
   ·exact gv _ (fu (e▸q) (mP hp N))
  exact Ky _ _ (nb 2 (by decide)) (nb 4 (by decide)) (GW _ _ (nb 1 (by decide)) (nb 4 (by decide)) (GV _ _ (nb 5 (by decide)) (nb 0 (by decide)) (nb 4 (by decide)) e))
 have QY:=Ky _ _ (ne (by decide)) (ne (by decide)) (GW _ _ (ne (by decide)) (ne (by decide)) (GV _ _ (ne (by decide)) (ne (q:=0) (by decide)) (ne (by decide)) hTI));have UJ:=Ky _ _ (ne (p:=0) (by decide)) (ne (p:=0) (by decide)) (GW _ _ (ne (p:=0) (by decide)) (ne (p:=0) (by decide)) (Fn.extBut _ _ (ne (p:=0) (by decide)) Kt));have QZ:=(D5.extBut u5.extBut (ne (by decide))).at fun o e=>Ky _ o (ne (by decide)) (ne (by decide)) e
 have Q0:=D6.extBut Kx.extBut (ne (by decide));show wpAny _ _ (Builtin.SmallTypes.ownedTupleHandOut (.ref (N+5)) (.ref zH.objs.size)>>= _) _ _ _;refine aA ?_;unfold Builtin.SmallTypes.ownedTupleHandOut;refine aA (tY (bz _ Og) (by simp) fun ab4 UK Oh=>?_);refine tY UK (by simp) fun UL UM Oi=>?_
 have BZ:∀b o,b≠N+5->zH.get? b=some o->UL.get? b=some o:=fun b o z e=>Oi.extBut _ _ z (Oh.extBut _ _ z (bz _ e))
 have hzl:N+5<zH.objs.size:=ew Og;have B0:=Oi.extBut _ _ (nz hzl) (Oh.extBut _ _ (nz hzl) (bJ zH (o:={cls:=.type "tuple",data:=.seq #[.int (a+(i:Nat)*c) s.toks,x,y]}) rfl));refine bK ⟨_,rfl,?_⟩;show Q (.ref zH.objs.size) _;rw[sh]at B0 ⊢;refine hQ UL ⟨?_,BZ _ _ (ne (by decide)) QY,⟨_,_,_,BZ _ _ (ne (by decide)) zI⟩,?_,QZ.at fun o e=>BZ _ o (ne (by decide)) e,Q0.at fun o e=>BZ _ o (ne (by decide)) e,CQ.at fun o e=>BZ _ o (low h1 5) (Kz _ o (.inl h1) e),Gm.at fun o e=>BZ _ o (low h2 5) (Kz _ o (.inl h2) e)⟩ B0 fun b o hb e=>BZ _ o (fun z=>?_) (Kz b o hb e)
 ·rw[<-sh];exact UM
 ·have e1:a+((i+1:Nat):Int)*c=a+(i:Int)*c+c:=by push_cast;rw[Int.add_mul,Int.one_mul,Int.add_assoc]
  have e2:(k:Int)-((i+1:Nat):Int)=(k:Int)-(i:Int)-1:=by push_cast;omega
  rw[e1,e2];exact BZ _ _ (ne (p:=0) (by decide)) UJ
 ·rcases hb with q|q
  ·exact low q 5 z
  ·exact gv _ (z▸q)
theorem j0{M:Model}{a:Addr}{Q:Option Obj->Shared->Prop}(h:Q (s.heap.get? a) s):wpAny M A (loadIfAlive a) Q E s:=fun Γ p ø=>by
 unfold loadIfAlive
 first
 |exact(Sem.wp_loadIfAlive a _).mpr ((Sem.wp_pure ..).mpr h)
 |(rw[Sem.wp_loadIfAlive];exact h)
theorem GZ{N l1 l2 T:Addr}{f1:Value}{a c:Int}{k i:Nat}{xs ys:Array Value}{x y:Value}{o:Obj}{Q:Value->Shared->Prop}(h1:l1<N)(h2:l2<N)(hT:s.heap.get? T=some o)(RO:N+5<T)(Z:wE s.heap N l1 l2 (rawInt T) f1 a c k i xs ys)(hi:i<k)(hx:xs[i]?=some x)(hy:ys[i]?=some y)
  (hQ:∀h',wE h' N l1 l2 (rawInt T) (.bool true) a c k (i+1) xs ys->h'.get? s.heap.objs.size=some {cls:=.type "tuple",data:=.seq #[.int (a+(i:Nat)*c) s.toks,x,y]}->(∀b o,b<N\/N+5<b->s.heap.get? b=some o->h'.get? b=some o)->Q (.ref s.heap.objs.size) {s with heap:=h',toks:=s.toks+1}):
  wpAny (model prog w) A (Builtin.«zip.__next__» ⟨[.ref (N+5)],[]⟩) (fun fin s'=>∃v,fin= .done (.ret v)/\Q v s') E s:=by
 obtain⟨hz,hTI,V3,hr,V4,V5,CQ,Gm⟩:=Z;show wpAny _ _ (field (.ref (N+5)) 2>>= _) _ _ _;refine aA (gj hz rfl (x:=.bool false) rfl ?_);show wpAny _ _ (field (.ref (N+5)) 3>>= _) _ _ _;refine aA (gj hz rfl (x:=.ref (N+3)) rfl ?_);refine aA (nD hTI rfl ?_);show wpAny _ _ (Builtin.SmallTypes.ownedTupleIsFree (.ref (N+5))>>= _) _ _ _;refine aA ?_;unfold Builtin.SmallTypes.ownedTupleIsFree;refine aA (gj hz rfl (x:=rawInt T) rfl ?_);show wpAny _ _ (loadIfAlive T>>= _) _ _ _;refine aA (j0 ?_);rw[hT];show wpAny _ _ (field (.ref (N+5)) 1>>= _) _ _ _;refine aA (gj hz rfl (x:=f1) rfl ?_);refine aD (Q:=fun b s'=>b=false/\∃aj,s'={s with heap:=aj}/\aj.objs.size=s.heap.objs.size/\aj.get? (N+5)=some {cls:=.type "zip",dict:=none,data:=.fields #[rawInt T,.bool true,.bool false,.ref (N+3),.ref (N+4)],slots:= #[]}/\∀b o,b≠N+5->s.heap.get? b=some o->aj.get? b=some o) ?_ (fun b s' h'=>?_) fun ø ø q=>q
 ·refine wpAny_ite_split (fun ø=>?_) (fun hc=>?_)
  ·refine aA (tY hz (by simp) fun aj xx eS=>bK ⟨rfl,aj,rfl,eS.1,xx,fun b o hb e=>eS.extBut _ _ hb e⟩)
  ·have:f1= .bool true:=by simpa using hc
   subst this;exact bK ⟨rfl,s.heap,rfl,rfl,hz,fun ø ø ø e=>e⟩
 obtain⟨rfl,aj,rfl,hsz₁,xx,KA⟩:=h';simp only[kC,gX];have ne:∀{p q:Nat},p≠q->(N+p:Nat)≠N+q:=fun h e=>h (tX e)
 have low:∀{l:Nat},l<N->∀p:Nat,l≠N+p:=fun h p=>nf (fu h (fO ..))
 refine aA ?_;rw[<-Array.forIn_toList];simp only[oM,nq];refine aA (aA (gH ?_));show wpAny _ _ (Builtin.SmallTypes.nextOf (.ref N)>>= _) _ _ _;refine aA (gt (KA _ _ (ne (p:=0) (by decide)) hr) (by omega) fun aM Kt kU=>bK (bK ?_));have Q1:∀b o,b≠N+5->b≠N->s.heap.get? b=some o->aM.get? b=some o:=fun b o z1 z2 e=>kU.extBut _ _ z2 (KA _ _ z1 e)
 refine aA (aA (gH ?_));show wpAny _ _ (Builtin.SmallTypes.nextOf (.ref (N+1))>>= _) _ _ _;refine aA (xY (V4.at fun o e=>Q1 _ o (ne (by decide)) (ne (q:=0) (by decide)) e) (CQ.at fun o e=>Q1 _ o (low h1 5) (low h1 0) e) hx fun x8 D5 o6=>bK (bK ?_));have Q2:∀b o,b≠N+5->b≠N->b≠N+1->s.heap.get? b=some o->x8.get? b=some o:=fun b o z1 z2 z3 e=>o6.extBut _ _ z3 (Q1 _ _ z1 z2 e)
 refine aA (aA (gH ?_));show wpAny _ _ (Builtin.SmallTypes.nextOf (.ref (N+2))>>= _) _ _ _;refine aA (xY (V5.at fun o e=>Q2 _ o (ne (by decide)) (ne (q:=0) (by decide)) (ne (by decide)) e) (Gm.at fun o e=>Q2 _ o (low h2 5) (low h2 0) (low h2 1) e) hy fun BY D6 qG=>bK (bK (bK ?_)));have KB:∀b o,b≠N+5->b≠N->b≠N+1->b≠N+2->s.heap.get? b=some o->BY.get? b=some o:=fun b o z1 z2 z3 z4 e=>qG.extBut _ _ z4 (Q2 _ _ z1 z2 z3 e)
 have sh:BY.objs.size=s.heap.objs.size:=by rw[qG.1,o6.1,kU.1,hsz₁]
 show wpAny _ _ (newTuple [.int (a+(i:Nat)*c) s.toks,x,y]>>= _) _ _ _;refine aA (wpAny_newTuple ?_);refine bK ⟨_,rfl,?_⟩;show Q (.ref BY.objs.size) _;have UN:=qG.extBut _ _ (ne (by decide)) (o6.extBut _ _ (ne (by decide)) (kU.extBut _ _ (ne (q:=0) (by decide)) xx));have UO:=qG.extBut _ _ (ne (p:=0) (by decide)) (o6.extBut _ _ (ne (p:=0) (by decide)) Kt);have B0:(BY.push {cls:=.type "tuple",data:=.seq #[.int (a+(i:Nat)*c) s.toks,x,y]}).get? BY.objs.size=_:=bJ _ rfl;rw[sh]at B0 ⊢;have pu:∀{b o},BY.get? b=some o->(BY.push {cls:=.type "tuple",data:=.seq #[.int (a+(i:Nat)*c) s.toks,x,y]}).get? b=some o:=fun e=>bz _ e
 refine hQ _ ⟨pu UN,pu (KB _ _ (ne (by decide)) (ne (q:=0) (by decide)) (ne (by decide)) (ne (by decide)) hTI),V3.elim fun p r=>r.elim fun q r=>r.elim fun r e=>⟨p,q,r,pu (KB _ _ (ne (by decide)) (ne (q:=0) (by decide)) (ne (by decide)) (ne (by decide)) e)⟩,?_,
  (D5.extBut qG.extBut (ne (by decide))).at fun o e=>pu e,D6.at fun o e=>pu e,CQ.at fun o e=>pu (KB _ o (low h1 5) (low h1 0) (low h1 1) (low h1 2) e),Gm.at fun o e=>pu (KB _ o (low h2 5) (low h2 0) (low h2 1) (low h2 2) e)⟩ B0 fun b o hb e=>pu ?_
 ·have e1:a+((i+1:Nat):Int)*c=a+(i:Int)*c+c:=by push_cast;rw[Int.add_mul,Int.one_mul,Int.add_assoc]
  have e2:(k:Int)-((i+1:Nat):Int)=(k:Int)-(i:Int)-1:=by push_cast;omega
  rw[e1,e2];exact pu UO
 ·have nb:∀p:Nat,p<=5->b≠N+p:=fun p hp e=>by
   rcases hb with q|q
   ·exact low q p e
   ·exact gv _ (fu (e▸q) (mP hp N))
  exact KB _ _ (nb 5 (by decide)) (nb 0 (by decide)) (nb 1 (by decide)) (nb 2 (by decide)) e
theorem KC{N l1 l2 T:Addr}{f1:Value}{a c:Int}{k:Nat}{xs ys:Array Value}{o:Obj}{Q:Fin->Shared->Prop}(hh:A.handled=none)(hT:s.heap.get? T=some o)(Z:wE s.heap N l1 l2 (rawInt T) f1 a c k k xs ys)
  (hE:∀h' e,(∀b o,b<N\/N+5<b->s.heap.get? b=some o->h'.get? b=some o)->(∃o,h'.get? e=some o/\o.cls= .type "StopIteration")->E (.ref e) {s with heap:=h'}):
  wpAny (model prog w) A (Builtin.«zip.__next__» ⟨[.ref (N+5)],[]⟩) Q E s:=by
 obtain⟨hz,hTI,V3,hr,V4,V5,CQ,Gm⟩:=Z;show wpAny _ _ (field (.ref (N+5)) 2>>= _) _ _ _;refine aA (gj hz rfl (x:=.bool false) rfl ?_);show wpAny _ _ (field (.ref (N+5)) 3>>= _) _ _ _;refine aA (gj hz rfl (x:=.ref (N+3)) rfl ?_);refine aA (nD hTI rfl ?_);show wpAny _ _ (Builtin.SmallTypes.ownedTupleIsFree (.ref (N+5))>>= _) _ _ _;refine aA ?_;unfold Builtin.SmallTypes.ownedTupleIsFree;refine aA (gj hz rfl (x:=rawInt T) rfl ?_);show wpAny _ _ (loadIfAlive T>>= _) _ _ _;refine aA (j0 ?_);rw[hT];show wpAny _ _ (field (.ref (N+5)) 1>>= _) _ _ _;refine aA (gj hz rfl (x:=f1) rfl ?_);refine aD (Q:=fun b s'=>b=false/\∃aj,s'={s with heap:=aj}/\∀b o,b≠N+5->s.heap.get? b=some o->aj.get? b=some o) ?_ (fun b s' h'=>?_) fun ø ø q=>q
 ·refine wpAny_ite_split (fun ø=>?_) (fun hc=>?_)
  ·refine aA (tY hz (by simp) fun aj xx eS=>bK ⟨rfl,aj,rfl,fun b o hb e=>eS.extBut _ _ hb e⟩)
  ·exact bK ⟨rfl,s.heap,rfl,fun ø ø ø e=>e⟩
 obtain⟨rfl,aj,rfl,KA⟩:=h';simp only[kC,gX];have ne:∀{p q:Nat},p≠q->(N+p:Nat)≠N+q:=fun h e=>h (tX e)
 refine aA ?_;rw[<-Array.forIn_toList];simp only[oM,nq];refine aA (aA (gH ?_));show wpAny _ _ (Builtin.SmallTypes.nextOf (.ref N)>>= _) _ _ _;refine aA (mE hh (KA _ _ (ne (p:=0) (by decide)) hr) (by omega) fun aM e he iS=>hE aM e (fun b o hb e=>?_) iS);have nb:∀p:Nat,p<=5->b≠N+p:=fun p hp e=>by
  rcases hb with q|q
  ·exact nf (fu q (fO ..)) e
  ·exact gv _ (fu (e▸q) (mP hp N))
 exact he _ _ (nb 0 (by decide)) (KA _ _ (nb 5 (by decide)) e)
theorem D7{N l1 l2:Addr}{a c:Int}{k i:Nat}{xs ys:Array Value}{x y:Value}{Q:Option Value->Shared->Prop}(h1:l1<N)(h2:l2<N)(Z:wE s.heap N l1 l2 .none (.bool false) a c k i xs ys)(hi:i<k)(hx:xs[i]?=some x)(hy:ys[i]?=some y)
  (hQ:∀h',wE h' N l1 l2 (rawInt s.heap.objs.size) (.bool false) a c k (i+1) xs ys->h'.get? s.heap.objs.size=some {cls:=.type "tuple",data:=.seq #[.int (a+(i:Nat)*c) s.toks,x,y]}->(∀b o,b<N\/N+5<b->s.heap.get? b=some o->h'.get? b=some o)->Q (some (.ref s.heap.objs.size)) {s with heap:=h',toks:=s.toks+1}):
  wpAny (model prog w) A (pyNext (.ref (N+5))) Q E s:=by
 have hT:s.TypeIs (.ref (N+5)) "zip":=⟨_,Z.z,rfl⟩;unfold pyNext;exact aA (tG (oQ (name:=Str.ofString "__next__") hT rh (lE rh hT F.entry_zip_next (D4 h1 h2 Z hi hx hy fun h' z1 z2 z3=>bK (hQ h' z1 z2 z3)) (F.args_zip_next_1 _))))
theorem G0{N l1 l2 T:Addr}{f1:Value}{a c:Int}{k i:Nat}{xs ys:Array Value}{x y:Value}{o:Obj}{Q:Option Value->Shared->Prop}(h1:l1<N)(h2:l2<N)(hT:s.heap.get? T=some o)(RO:N+5<T)(Z:wE s.heap N l1 l2 (rawInt T) f1 a c k i xs ys)(hi:i<k)(hx:xs[i]?=some x)(hy:ys[i]?=some y)
  (hQ:∀h',wE h' N l1 l2 (rawInt T) (.bool true) a c k (i+1) xs ys->h'.get? s.heap.objs.size=some {cls:=.type "tuple",data:=.seq #[.int (a+(i:Nat)*c) s.toks,x,y]}->(∀b o,b<N\/N+5<b->s.heap.get? b=some o->h'.get? b=some o)->Q (some (.ref s.heap.objs.size)) {s with heap:=h',toks:=s.toks+1}):
  wpAny (model prog w) A (pyNext (.ref (N+5))) Q E s:=by
 have Q3:s.TypeIs (.ref (N+5)) "zip":=⟨_,Z.z,rfl⟩;unfold pyNext;exact aA (tG (oQ (name:=Str.ofString "__next__") Q3 rh (lE rh Q3 F.entry_zip_next (GZ h1 h2 hT RO Z hi hx hy fun h' z1 z2 z3=>bK (hQ h' z1 z2 z3)) (F.args_zip_next_1 _))))
theorem next_end{N l1 l2 T:Addr}{f1:Value}{a c:Int}{k:Nat}{xs ys:Array Value}{o:Obj}{Q:Option Value->Shared->Prop}(hh:A.handled=none)(hT:s.heap.get? T=some o)(Z:wE s.heap N l1 l2 (rawInt T) f1 a c k k xs ys)
  (hQ:∀h',(∀b o,b<N\/N+5<b->s.heap.get? b=some o->h'.get? b=some o)->Q none {s with heap:=h'}):
  wpAny (model prog w) A (pyNext (.ref (N+5))) Q E s:=by
 have Q3:s.TypeIs (.ref (N+5)) "zip":=⟨_,Z.z,rfl⟩;unfold pyNext;refine aA (tG (oQ (name:=Str.ofString "__next__") Q3 rh (lE rh Q3 F.entry_zip_next (KC hh hT Z fun h' e hk he=>?_) (F.args_zip_next_1 _))));obtain⟨o,ho,hc⟩:=he;refine aA (wpAny_isInstance (T:="StopIteration") (b:=true) ⟨o,ho,hc⟩ isSubtype_stop ?_);exact bK (hQ _ hk)
noncomputable def Nc(a c:Int)(N S:Addr)(xs ys:Array Value)(h:Heap)(i:Nat)(v:Value):Prop:=∃T t x y,v= .ref T/\N+5<T/\T≠S/\xs[i]?=some x/\ys[i]?=some y/\h.get? T=some {cls:=.type "tuple",data:=.seq #[.int (a+(i:Nat)*c) t,x,y]}
theorem Nc.keep{a c:Int}{N S:Addr}{xs ys:Array Value}{h h':Heap}{i:Nat}{v:Value}(e:Nc a c N S xs ys h i v)(k:∀b o,N+5<b->b≠S->h.get? b=some o->h'.get? b=some o):Nc a c N S xs ys h' i v:=by
 obtain⟨T,t,x,y,q1,q2,q3,q4,q5,q6⟩:=e;exact⟨T,t,x,y,q1,q2,q3,q4,q5,k T _ q2 q3 q6⟩
theorem wE.keep{h h':Heap}{N l1 l2:Addr}{f0 f1:Value}{a c:Int}{k i:Nat}{xs ys:Array Value}(Z:wE h N l1 l2 f0 f1 a c k i xs ys)(h1:l1<N)(h2:l2<N)(up:∀b o,b<=N+5->h.get? b=some o->h'.get? b=some o):wE h' N l1 l2 f0 f1 a c k i xs ys:=by
 have le:∀p:Nat,p<=5->N+p<=N+5:=fun p h=>mP h N
 have lo:∀{l:Nat},l<N->l<=N+5:=fun h=>az (dU h) (fO ..)
 exact⟨up _ _ (le 5 (by decide)) Z.z,up _ _ (le 3 (by decide)) Z.TI,Z.TO.elim fun p r=>r.elim fun q r=>r.elim fun r e=>⟨p,q,r,up _ _ (le 4 (by decide)) e⟩,up _ _ (le 0 (by decide)) Z.r,Z.i1.at fun o e=>up _ o (le 1 (by decide)) e,Z.i2.at fun o e=>up _ o (le 2 (by decide)) e,Z.L1.at fun o e=>up _ o (lo h1) e,Z.L2.at fun o e=>up _ o (lo h2) e⟩
theorem G1{R:Result->Shared->Prop}{N l1 l2 S:Addr}{a c:Int}{k:Nat}{xs ys:Array Value}(hh:A.handled=none)(h1:l1<N)(h2:l2<N)(hS:N+5<S)(res:Value)(Oj:k<=xs.size)(Ok:k<=ys.size)(Od:k<=sizeLine):
  ∀(j i:Nat) (s:Shared) (acc:Array Value) (cn:Nat) (f0 f1:Value),k-i=j->i<=k->((0<k/\i=0/\f0= .none/\f1= .bool false)\/∃(T:Addr) (o:Obj),f0=rawInt T/\s.heap.get? T=some o/\N+5<T/\T≠S)->wE s.heap N l1 l2 f0 f1 a c k i xs ys->s.heap.get? S=some (rV acc cn)->
   acc.size=i->(∀j v,acc[j]?=some v->Nc a c N S xs ys s.heap j v)->
   (∀s' eN c',(∃h tk,s'={s with heap:=h,toks:=tk})->(∀b o,b<N->s.heap.get? b=some o->s'.heap.get? b=some o)->s'.heap.get? S=some (rV eN c')->eN.size=k->(∀j v,eN[j]?=some v->Nc a c N S xs ys s'.heap j v)->R (.ok (.ret res)) s')->
   codeAny (model prog w) A (.builtin "list.extend.loop" ⟨[.ref S,.ref (N+5),res],[]⟩) R s:=by
 have Ol:∀b:Nat,b<=N+5->b≠S:=fun b h e=>gv _ (fu hS (e▸h))
 intro j
 induction j with
 |zero=>
  intro i s acc cn f0 f1 hk hi hf Z hL iC hit hR;obtain rfl:i=k:=by omega
  have hf:∃(T:Addr) (o:Obj),f0=rawInt T/\s.heap.get? T=some o/\N+5<T/\T≠S:=hf.resolve_left fun q=>by omega
  obtain⟨T,o,rfl,hT,_,_⟩:=hf;refine xR xS ?_;rw[xT lO _];show wpAny _ A.in1 (pyNext (.ref (N+5))>>= _) _ _ s;exact aA (next_end hh hT Z fun h' hk=>bK (hR _ acc cn ⟨h',_,rfl⟩ (fun b o hb e=>hk b o (.inl hb) e) (hk _ _ (.inr hS) hL) iC fun j v hj=>(hit j v hj).keep fun b o hb ø e=>hk b o (.inr hb) e))
 |succ j ih=>
  intro i s acc cn f0 f1 hk hi hf Z hL iC hit hR;have eu:i<k:=by omega
  have hx:=xE (fu eu Oj);have hy:=xE (fu eu Ok);refine xR xS ?_;rw[xT lO _];show wpAny _ A.in1 (pyNext (.ref (N+5))>>= _) _ _ s;have UP:N+5<s.heap.objs.size:=Z.lt;have YJ:s.heap.objs.size≠S:=nz (ew hL);have rest:∀(h':Heap) (V6 YK:Value),(∃(T:Addr) (o:Obj),V6=rawInt T/\h'.get? T=some o/\N+5<T/\T≠S)->wE h' N l1 l2 V6 YK a c k (i+1) xs ys->h'.get? s.heap.objs.size=some {cls:=.type "tuple",data:=.seq #[.int (a+(i:Nat)*c) s.toks,xs[i]'(fu eu Oj),ys[i]'(fu eu Ok)]}->(∀b o,b<N\/N+5<b->s.heap.get? b=some o->h'.get? b=some o)->
    wpAny (model prog w) A.in1 (updateSeq S (·.push (.ref s.heap.objs.size))>>= fun ø=>again (.builtin "list.extend.loop" ⟨[.ref S,.ref (N+5),res],[]⟩)) (fun fin s'=>match fin with| .done f=>R (.ok f) s'| .again c'=>c'.quiet=true/\codeAny (model prog w) A c' R s') (fun e s'=>R (.error e) s') {s with heap:=h',toks:=s.toks+1}:=by
   intro h' V6 YK R2 Z' Q3 up;have RP:=up S _ (.inr hS) hL;have KD:∀b o,b≠S->h'.get? b=some o->(h'.update S (Obj.mapSeq (·.push (.ref s.heap.objs.size)))).get? b=some o:=fun b o hb e=>(j4 _ _ (ft hb)).trans e
   refine aA (nC RP rfl (bK ⟨tN lO _,ih (i+1) _ (acc.push (.ref s.heap.objs.size)) _ V6 YK (by omega) eu (.inr ?_) (Z'.keep h1 h2 fun b o hb e=>KD b o (Ol b hb) e) (kJ _ RP rfl) (by rw[tO,iC]) (fun j v hj=>?_) fun gZ eN c' hs FJ YL JL YM=>?_⟩)
    (by rw[iC];omega) (by show(acc.push (.ref s.heap.objs.size)).size<=sizeLine+1;rw[tO,iC];omega))
   ·obtain⟨T,o,q1,q2,q3,q4⟩:=R2
    exact⟨T,o,q1,KD T o q4 q2,q3,q4⟩
   ·rw[Array.getElem?_push]at hj
    split at hj
    ·cases hj
     rename_i e;rw[e,iC];exact⟨_,_,_,_,rfl,UP,YJ,hx,hy,KD _ _ YJ Q3⟩
    ·exact(hit j v hj).keep fun b o hb hbS e=>KD b o hbS (up b o (.inr hb) e)
   ·obtain⟨YN,tk,rfl⟩:=hs
    exact hR _ eN c' ⟨YN,tk,rfl⟩ (fun b o hb e=>FJ b o hb (KD b o (Ol b (az (dU hb) (fO ..))) (up b o (.inl hb) e))) YL JL YM
  rcases hf with⟨_,rfl,rfl,rfl⟩|⟨T,o,rfl,hT,RO,hTS⟩
  ·exact aA (D7 h1 h2 Z eu hx hy fun h' z1 z2 z3=>rest h' _ _ ⟨_,_,rfl,z2,UP,YJ⟩ z1 z2 z3)
  ·exact aA (G0 h1 h2 hT RO Z eu hx hy fun h' z1 z2 z3=>rest h' _ _ ⟨T,o,rfl,z3 T o (.inr RO) hT,RO,hTS⟩ z1 z2 z3)
theorem D8{R:Result->Shared->Prop}{N l1 l2 S:Addr}{a c:Int}{k:Nat}{xs ys:Array Value}(hh:A.handled=none)(h1:l1<N)(h2:l2<N)(hS:N+5<S)(res:Value)(Oj:k<=xs.size)(Ok:k<=ys.size)(Od:k<=sizeLine)(hk:0<k)(c₀:Nat)
  (Z:wE s.heap N l1 l2 .none (.bool false) a c k 0 xs ys) (hL:s.heap.get? S=some (rV #[] c₀))
  (hR:∀s' eN c',(∃h tk,s'={s with heap:=h,toks:=tk})->(∀b o,b<N->s.heap.get? b=some o->s'.heap.get? b=some o)->s'.heap.get? S=some (rV eN c')->eN.size=k->(∀j v,eN[j]?=some v->Nc a c N S xs ys s'.heap j v)->R (.ok (.ret res)) s'):
  wpAny (model prog w) A.in1 (Builtin.List.listExtendWith (.ref S) (.ref (N+5)) res)
   (fun fin s'=>match fin with| .done f=>R (.ok f) s'| .again c'=>c'.quiet=true/\codeAny (model prog w) A c' R s') (fun e s'=>R (.error e) s') s:=by
 have hT:s.TypeIs (.ref (N+5)) "zip":=⟨_,Z.z,rfl⟩;have Ol:∀b:Nat,b<=N+5->b≠S:=fun b h e=>gv _ (fu hS (e▸h))
 have Ui:S≠N+5:=nz hS;unfold Builtin.List.listExtendWith;refine aA (wpAny_typeOf hT ?_);have e1:Builtin.List.listSameRef (.ref S) (.ref (N+5))=false:=by simp[Builtin.List.listSameRef,Ui]
 have e2:(Value.type "zip"==Value.type "list")=false:=by decide
 have e3:(Value.type "zip"==Value.type "tuple")=false:=by decide
 simp only[e1,e2,e3,Bool.or_false,kC,gX];refine aA (wpAny_pyIter_zip Z.z ?_);refine aA (gH ?_);unfold Builtin.List.listLengthHint;refine aA (xH hT D2 ?_);show wpAny _ A.in1 (specialOf (Value.ref (N+5)) (Str.ofString "__length_hint__")>>= _) _ _ _;refine aA (xH hT BX ?_);refine bK ?_;show wpAny _ A.in1 (rule "list.extend.makes-room">>= fun ø=>Builtin.List.listTouch (.ref S)>>= fun ø=>
  again (.builtin "list.extend.loop" ⟨[.ref S,.ref (N+5),res],[]⟩)) _ _ _
 refine aA (qY ?_);refine aA ?_;show wpAny _ A.in1 (updateSeq S (·.push .none)>>= fun ø=>updateSeq S (·.pop)) _ _ _;refine aA (nC hL rfl ?_);have vo:=kJ (Obj.mapSeq (·.push Value.none)) hL rfl;refine nC (hz:=by seq_fits) vo rfl ?_;have JN:=kJ (Obj.mapSeq (·.pop)) vo rfl;have KD:∀b o,b≠S->s.heap.get? b=some o->((s.heap.update S (Obj.mapSeq (·.push Value.none))).update S (Obj.mapSeq (·.pop))).get? b=some o:=
  fun b o hb e=>(j4 _ _ (ft hb)).trans ((j4 _ _ (ft hb)).trans e)
 refine bK ⟨tN lO _,G1 hh h1 h2 hS res Oj Ok Od k 0 _ #[] _ .none (.bool false) rfl (eK _) (.inl ⟨hk,rfl,rfl,rfl⟩) (Z.keep h1 h2 fun b o hb e=>KD b o (Ol b hb) e) JN rfl (fun j v h=>by simp at h) fun s' eN c' hs FJ RP iC hit=>?_⟩;obtain⟨h',tk,rfl⟩:=hs;exact hR _ eN c' ⟨h',tk,rfl⟩ (fun b o hb e=>FJ b o hb (KD b o (Ol b (az (dU hb) (fO ..))) e)) RP iC hit
theorem wF{R:Result->Shared->Prop}{N l1 l2 S:Addr}{a c:Int}{k:Nat}{xs ys:Array Value}(hh:A.handled=none)(h1:l1<N)(h2:l2<N)(hS:N+5<S)(Oj:k<=xs.size)(Ok:k<=ys.size)(Od:k<=sizeLine)(hk:0<k)
  (Z:wE s.heap N l1 l2 .none (.bool false) a c k 0 xs ys) (hL:s.heap.get? S=some {cls:=.type "list",data:=.seq #[]})
  (hR:∀s' eN c',(∃h tk,s'={s with heap:=h,toks:=tk})->(∀b o,b<N->s.heap.get? b=some o->s'.heap.get? b=some o)->s'.heap.get? S=some (rV eN c')->eN.size=k->(∀j v,eN[j]?=some v->Nc a c N S xs ys s'.heap j v)->R (.ok (.ret .none)) s'):
  wpAny (model prog w) A.in1 (Builtin.«list.__init__» ⟨[.ref S,.ref (N+5)],[]⟩)
   (fun fin s'=>match fin with| .done f=>R (.ok f) s'| .again c'=>c'.quiet=true/\codeAny (model prog w) A c' R s') (fun e s'=>R (.error e) s') s:=by
 have Ol:∀b:Nat,b<=N+5->b≠S:=fun b h e=>gv _ (fu hS (e▸h))
 show wpAny _ A.in1 (do let old <-Builtin.List.listItems (.ref S);Builtin.List.listUpdate (.ref S) (fun ø=> #[]);letGo old.toList.reverse;Builtin.List.listExtendWith (.ref S) (.ref (N+5)) .none) _ _ s;refine aA ?_;unfold Builtin.List.listItems;refine aA (nD hL rfl (bK ?_));show wpAny _ A.in1 (updateSeq S (fun ø=> #[])>>= fun ø=>letGo (#[]:Array Value).toList.reverse>>= fun ø=>Builtin.List.listExtendWith (.ref S) (.ref (N+5)) .none) _ _ s;refine aA (nC hL rfl ?_);have vo:=kJ (Obj.mapSeq (fun ø=>(#[]:Array Value))) hL rfl;have KD:∀b o,b≠S->s.heap.get? b=some o->(s.heap.update S (Obj.mapSeq (fun ø=>(#[]:Array Value)))).get? b=some o:=
  fun b o hb e=>(j4 _ _ (ft hb)).trans e
 refine aA (qZ ?_);refine D8 hh h1 h2 hS .none Oj Ok Od hk _ (Z.keep h1 h2 fun b o hb e=>KD b o (Ol b hb) e) vo fun s' eN c' hs FJ RP iC hit=>?_
 obtain⟨h',tk,rfl⟩:=hs;exact hR _ eN c' ⟨h',tk,rfl⟩ (fun b o hb e=>FJ b o hb (KD b o (Ol b (az (dU hb) (fO ..))) e)) RP iC hit
theorem wG{N l1 l2:Addr}{a c:Int}{k:Nat}{xs ys:Array Value}{Q:Value->Shared->Prop}(hh:A.handled=none)(h1:l1<N)(h2:l2<N)(Oj:k<=xs.size)(Ok:k<=ys.size)(Od:k<=sizeLine)(hk:0<k)(Z:wE s.heap N l1 l2 .none (.bool false) a c k 0 xs ys)
  (hQ:∀h tk eN c',(∀b o,b<N->s.heap.get? b=some o->h.get? b=some o)->h.get? s.heap.objs.size=some (rV eN c')->eN.size=k->(∀j v,eN[j]?=some v->Nc a c N s.heap.objs.size xs ys h j v)->Q (.ref s.heap.objs.size) {s with heap:=h,toks:=tk}):
  wpAny (model prog w) A (call (.type "list") [.ref (N+5)]) Q E s:=by
 refine callType_codes (Q₁:=fun obj s₁=>obj= .ref s.heap.objs.size/\s₁={s with heap:=s.heap.push {cls:=.type "list",data:=.seq #[]} }) F.called_list (F.typeCall_list_1 _) F.entry_list_init
  (code_list_new _ ⟨rfl,rfl⟩) fun obj s₁ aj=>?_
 obtain⟨rfl,rfl⟩:=aj;have hS:(s.heap.push {cls:=.type "list",data:=.seq #[]}).get? s.heap.objs.size=some {cls:=.type "list",data:=.seq #[]}:=bJ _ rfl;refine⟨⟨_,hS,rfl⟩,F.args_list_init_2 _ _,wF (A:=A.in1) hh h1 h2 Z.lt Oj Ok Od hk (Z.keep h1 h2 fun b o ø e=>bz _ e) hS fun s' eN c' hs FJ hL iC hit=>?_⟩;obtain⟨h',tk,rfl⟩:=hs;exact⟨rfl,hQ h' tk eN c' (fun b o hb e=>FJ b o hb (bz _ e)) hL iC hit⟩
end
end
section
variable{P:Pk}{n:Nat}{K:Cx}{lo:Bool}
noncomputable def KE(l l1 l2:List V):List V:=(l.zip (l1.zip l2)).map fun p=>.tup [p.1,p.2.1,p.2.2]
noncomputable def Q4(l l1 l2:List V):Option V:=if 0<l.length/\l.length<=l1.length/\l.length<=l2.length/\l.length<=most then some (.list (KE l l1 l2))else none
noncomputable def Q5(l:List V):List V->Option V
 |[x,y]=>qI V.gm V.gm (Q4 l) x y
 |_=>none
theorem Q6(l l1 l2:List V):Q5 l [.list l1,.list l2]=Q4 l l1 l2:=id rfl
theorem Nd{s s₃:Shared}{hid:List Addr}{N S:Addr}{l1 l2:List V}{V7 V8:List Value}{a c:Int}{k:Nat}{h:Heap}{tk:Nat}{acc:Array Value}{c':Nat}(k3:Kp s s₃)(live:cD s.heap hid)(hN:s₃.heap.objs.size=N)(hS:N+5<S)(d1:bd P s₃.heap hid l1 V7)(d2:bd P s₃.heap hid l2 V8)
  (FJ:∀b o,b<N->s₃.heap.get? b=some o->h.get? b=some o) (hL:h.get? S=some (rV acc c')) (iC:acc.size=k) (hit:∀j v,acc[j]?=some v->Nc a c N S V7.toArray V8.toArray h j v) (TN:k<=l1.length) (He:k<=l2.length):
  Hr P s {s₃ with heap:=h,toks:=tk} hid (.list (KE ((List.range k).map fun(i:Nat)=>V.int (a+(i:Int)*c)) l1 l2)) (.ref S):=by
 have lt:∀{b},b∈hid->b<N:=fun hb=>(live _ hb).elim fun o e=>hN▸ew (k3.keep _ _ e)
 have S0:s.heap.get? S=none:=by
  cases e:s.heap.get? S with
  |none=>rfl
  |some o=>exact absurd (ew (k3.keep _ _ e)) (gY.mpr (hN▸az (fO N 5) (dU hS)))
 have grow:∀{x v},Dn P s₃.heap hid x v->Dn P h (S::hid) x v:=fun e=>Dn.grow (P:=P) e (fun b o ø q=>FJ b o (hN▸ew q) q) fun b hb=>(bI.mp hb).elim (fun e=>.inr (by
  rw[e]
  cases e:s₃.heap.get? S with
  |none=>rfl
  |some o=>exact absurd (ew e) (gY.mpr (hN▸az (fO N 5) (dU hS))))) .inl
 refine⟨S,acc.toList,rfl,S0,⟨c',by simpa using hL⟩,bd.Sz ?_ fun i z v hz hv=>?_⟩
 ·unfold KE
  rw[List.length_map,xJ,xJ,List.length_map,eM,Array.length_toList,iC];omega
 ·have Fx:acc[i]?=some v:=by simpa using hv
  obtain⟨T,t,x,y,rfl,q2,q3,q4,q5,q6⟩:=hit i v Fx;unfold KE at hz;rw[dh]at hz;refine cI hz fun p hp e=>?_
  obtain⟨p1,p2,p3⟩:=p;obtain⟨z1,z2⟩:=xG.mp hp;obtain⟨z2,z3⟩:=xG.mp z2;dsimp only at z1 z2 z3 e;rw[dh]at z1;refine cI z1 fun j hj e1=>?_
  obtain rfl:i=j:=by
   have:=gG.mp hj;simpa using this.2
  obtain⟨u1,g1,r1⟩:=bq.get d1 z2;obtain⟨u2,g2,r2⟩:=bq.get d2 z3;have e4:V7[i]?=some x:=by simpa using q4
  have e5:V8[i]?=some y:=by simpa using q5
  rw[g1]at e4;cases e4;rw[g2]at e5;cases e5;rw[<-e,<-e1];exact Dn.Hk (fun q=>(bI.mp q).elim q3 fun q=>gv _ (fu (lt q) (az (fO N 5) (dU q2)))) ⟨_,q6⟩ (.cons (Dn.ofInt (P:=P) _ _) (.cons (grow r1) (.cons (grow r2) .nil)))
theorem wH{p p2 p3 pos pZ G2:Pos}{es Ld:List Expr}{f g}(hx:K.aV.contains "range"=true)(hv:P.glob "range"=some (.type "range"))(zS:K.aV.contains "list"=true)(Fx:P.glob "list"=some (.type "list"))(hx2:K.aV.contains "zip"=true)(WF:P.glob "zip"=some (.type "zip"))
  (hs:j7 P n K false es f) (hg:j7 P n K false Ld g) (iS:∀env,starEach es env=es.map fun e=>(false,eval e env)) (Az:∀env,starEach (.Call (.Name "range" p2) es [] pZ::Ld) env=(false,eval (.Call (.Name "range" p2) es [] pZ) env)::starEach Ld env) (YO:∀env,starEach Ld env=Ld.map fun e=>(false,eval e env))
  (UQ:∀env,starEach [.Call (.Name "zip" p3) (.Call (.Name "range" p2) es [] pZ::Ld) [] G2] env=[(false,eval (.Call (.Name "zip" p3) (.Call (.Name "range" p2) es [] pZ::Ld) [] G2) env)]):
  Hs P n K (.Call (.Name "list" p) [.Call (.Name "zip" p3) (.Call (.Name "range" p2) es [] pZ::Ld) [] G2] [] pos) (fun ρ=>(f ρ).bind fun xs=>(nJ xs).bind fun l=>(g ρ).bind (Q5 l)):=fun A env out hid m B s ρ x E rm S hf=>by
 refine ak hf fun y hy hf=>ak hf fun l hl hf=>ak hf fun ys Hi hf=>?_
 match ys,Hi,hf with
 |[],_,hf=>cases hf
 |[_],_,hf=>cases hf
 |_::_::_::_,_,hf=>cases hf
 |[y1,y2],Hi,hf=>
 refine bO hf fun l1 l2 e1 e2 hf=>eR hf fun hc e=>?_
 cases V.eO e1;cases V.eO e2;have hp:(backTo pos (starEach [.Call (.Name "zip" p3) (.Call (.Name "range" p2) es [] pZ::Ld) [] G2] env)).any (·.1)=false:=by rw[UQ];rfl
 have hp2:(backTo G2 (starEach (.Call (.Name "range" p2) es [] pZ::Ld) env)).any (·.1)=false:=by
  rw[Az,YO];unfold backTo;simp
 refine kF (bH S zS Fx (by decide) ?_);refine ph hp ?_;refine bW hp (m7 (Q:=fun vs s'=>wpAny (model P.prog P.w) A (call (.type "list") ([]++vs) []) (fun v s'=>Kp s s'/\Hr P s s' hid x v) E s') ?_ (UQ env));refine kF (bH S hx2 WF (by decide) ?_);refine ph hp2 ?_;refine bW hp2 (m7 ?_ (Az env));refine kF (bH S hx hv (by decide) ?_);refine ph (ct iS) ?_;refine bW (ct iS) (aD (hs A env out hid m B s ρ y E pZ rm S hy) (fun vs s₁ aj=>?_) fun ø ø q=>q);refine pW (vs:=[]++vs) aj.2 hl fun a b c t u v k s₂ lS hk ls hr kp=>?_
 refine aD (hg A env out hid m B s₂ ρ _ E G2 rm ((S.after aj.1).after kp) Hi) (fun ws s₃ eo=>?_) fun ø ø q=>q
 obtain⟨CU,d₃⟩:=eo;subst lS;rw[List.length_map,eM]at hc;obtain⟨hc0,hc1,RJ,hc3⟩:=hc;obtain⟨w1,w2,rfl,dw1,dw2⟩:∃w1 w2,ws=[w1,w2]/\Dn P s₃.heap hid (.list l1) w1/\Dn P s₃.heap hid (.list l2) w2:=d₃.two_k fun v w h1 h2=>⟨v,w,rfl,h1,h2⟩
 obtain⟨a1,V7,rfl,_,hp1,dd1⟩:=dw1.cK;obtain⟨a2,V8,rfl,_,UR,dd2⟩:=dw2.cK;have hm:=cR;have n1:=dd1.length;have n2:=dd2.length;refine D3 (s:=s₃) (CU.keep _ _ hr) ls hk hp1.isList UR.isList fun h' Z sh up=>?_
 refine nk ?_;refine wG (s:={s₃ with heap:=h'}) rm.handled (hp1.elim fun ø e=>ew e) (UR.elim fun ø e=>ew e) (by rw[cb];omega) (by rw[cb];omega) (by omega) hc0 Z fun YN tk acc c' FJ hL iC hit=>?_
 have k3:Kp s s₃:=aj.1.trans (kp.trans CU);have hS:s₃.heap.objs.size+5<h'.objs.size:=Z.lt;have US:∀b o,b<s₃.heap.objs.size->s₃.heap.get? b=some o->YN.get? b=some o:=fun b o hb e=>FJ b o hb (up b o e)
 refine⟨k3.trans (.heap fun b o e=>US b o (ew e) e),?_⟩;rw[<-e];exact Nd (s₃:=s₃) k3 S.live rfl hS dd1 dd2 US hL iC hit hc1 RJ
end
noncomputable def B1:Cx:={vars:=[(U6,.local,false),(Lg,.local,false),(K3,.cell,false),(G9,.cell,false),(Ri,.cell,false),(⟨#[105,110,100,101,110,116,115]⟩,.local,false),(⟨#[116,111,108,100]⟩,.local,false),(⟨#[108,111,110,103,101,115,116]⟩,.local,false),(⟨#[111,110,101]⟩,.local,false),(Fs,.local,false),(Ws,.cell,false),(Y4,.local,false),(⟨#[114,111,119,115]⟩,.local,false),(⟨#[110,111,116,95,108,101,115,115]⟩,.local,false),(⟨#[97,112,97,114,116]⟩,.local,false)],aV:=[Wn,KV,KY,KX,KZ,G8,v7,Ej,R0,Wp]}
noncomputable def KF:Cx:={vars:=[(Ha,.local,false),(G9,.cell,false),(Ri,.cell,false)],aV:=[K0]}
noncomputable def KG:Cx:={vars:=[(Rh,.local,false),(K3,.cell,false)],aV:=[K2]}
noncomputable def KH:Cx:={vars:=[(⟨#[99,111,108,117,109,110,115]⟩,.local,false),(⟨#[109,111,115,116]⟩,.local,false)],aV:=[]}
noncomputable def KI:Cx:={vars:=[(Y5,.local,false)],aV:=[]}
noncomputable def KJ:Cx:={vars:=[(Y5,.local,false)],aV:=[]}
noncomputable def KL:Cx:={vars:=[(Wr,.local,false),(Ws,.cell,false)],aV:=[]}
noncomputable def B2{P:Pk}{n:Nat}{C N:Addr}{mN:Str->Option Value}(W:dJ P C N mN)(vD:P.glob Wn=some (.builtin "sum")){mF:Addr}{v5:List V->Option V}(D9:P.glob KV=some (.ref mF))(Ea:∀h,P.G h->∃o fd,h.get? mF=some o/\o.data= .func fd)(Eb:aZ P n (.ref mF) v5){gV:Addr}{pf:List V->Option V}(wI:P.glob KY=some (.ref gV))(wJ:∀h,P.G h->∃o fd,h.get? gV=some o/\o.data= .func fd)(wK:aZ P n (.ref gV) pf){j1:Addr}{sI:List V->Option V}(B3:P.glob KX=some (.ref j1))(B4:∀h,P.G h->∃o fd,h.get? j1=some o/\o.data= .func fd)(B5:aZ P n (.ref j1) sI){j3:Addr}{sJ:List V->Option V}(B6:P.glob KZ=some (.ref j3))(B7:∀h,P.G h->∃o fd,h.get? j3=some o/\o.data= .func fd)(B8:aZ P n (.ref j3) sJ){da:Addr}{gD:List V->Option V}(mn:P.glob G8=some (.ref da))(mq:∀h,P.G h->∃o fd,h.get? da=some o/\o.data= .func fd)(mr:aZ P n (.ref da) gD)(aX:P.glob v7=some (.type "range"))(fe:P.glob Ej=some (.builtin "max"))(iD:P.glob R0=some (.type "list"))(vF:P.glob Wp=some (.type "zip")){gW:Addr}{pg:List V->Option V}(wL:P.glob K0=some (.ref gW))(wM:∀h,P.G h->∃o fd,h.get? gW=some o/\o.data= .func fd)(wN:aZ P n (.ref gW) pg){iW:Addr}{qH:List V->Option V}(zJ:P.glob K2=some (.ref iW))(zK:∀h,P.G h->∃o fd,h.get? iW=some o/\o.data= .func fd)(zL:aZ P n (.ref iW) qH){zM:Addr}{KM:List V->Option V}(Q7:mN Nn=some (.ref zM))(vI:∀h,P.G h->∃of fd,h.get? zM=some of/\of.cls= .type "function"/\of.data= .func fd)(Q8:typeLookup (.type "object") Nn=pure none)(Ec:aZ P n (.ref zM) KM){ti:Addr}{Fo:List V->Option V}(Nf:mN Nl=some (.ref ti))(qz:∀h,P.G h->∃of fd,h.get? ti=some of/\of.cls= .type "function"/\of.data= .func fd)(Ng:typeLookup (.type "object") Nl=pure none)(zN:aZ P n (.ref ti) Fo){eJ:Addr}{jI:List V->Option V}(pP:mN No=some (.ref eJ))(dm:∀h,P.G h->∃of fd,h.get? eJ=some of/\of.cls= .type "function"/\of.data= .func fd)(pQ:typeLookup (.type "object") No=pure none)(pR:aZ P n (.ref eJ) jI){dY:Addr}{iQ:List V->Option V}(oG:mN Nm=some (.ref dY))(cY:∀h,P.G h->∃of fd,h.get? dY=some of/\of.cls= .type "function"/\of.data= .func fd)(oH:typeLookup (.type "object") Nm=pure none)(oJ:aZ P n (.ref dY) iQ){aP:Addr}{bN:List V->Option V}(bt:mN Ei=some (.ref aP))(aL:∀h,P.G h->∃of fd,h.get? aP=some of/\of.cls= .type "function"/\of.data= .func fd)(bu:typeLookup (.type "object") Ei=pure none)(bv:aZ P n (.ref aP) bN):{f:ao->Option V//Mm P n B1 (dW (aO pq.main.body 69)) f}:=⟨_,(@dM _ _ _ _ _ _ _ (@aI _ _ _ 1 _ _ _ _ _ _ rfl (by decide) (@al _ _ _ _ _ _ _ _ _ _ _ jk (@aJ _ _ _ _ _ _ _ _ _ _ _ rfl vD rfl Su (@aa _ _ _ _ _ _ _ _ (e6 (ab 0 rfl rfl rfl) cF (eZ ae) cF) ag ir) ir (ca _ _)) (al Nq ae ae)) cz) (@dM _ _ _ _ _ _ _ (@aI _ _ _ 2 _ _ _ _ _ _ rfl (by decide) (bM rfl D9 rfl Ea Eb (aa (ab 0 rfl rfl rfl) ag ir) ir (ca _ _)) cz) (@dM _ _ _ _ _ _ _ (@aI _ _ _ 3 _ _ _ _ _ _ rfl (by decide) (@bM _ _ _ _ _ _ _ _ _ _ _ rfl wI rfl wJ wK (@aa _ _ _ _ _ _ _ _ (@bM _ _ _ _ _ _ _ _ _ _ _ rfl B3 rfl B4 B5 (aa (ab 2 rfl rfl rfl) (aa (ab 1 rfl rfl rfl) ag ir) ir) ir (ca _ _)) ag ir) ir (ca _ _)) cz) (@dM _ _ _ _ _ _ _ (@aI _ _ _ 4 _ _ _ _ _ _ rfl (by decide) (bM rfl B6 rfl B7 B8 (aa (ab 3 rfl rfl rfl) ag ir) ir (ca _ _)) cz) (@dM _ _ _ _ _ _ _ (@gO _ _ _ (KF) 5 _ _ _ _ _ _ _ _ _ _ _ _ _ _ (1) ([3,4]) rfl (@dH _ _ _ _ _ (bM rfl mn rfl mq mr (aa (ab 1 rfl rfl rfl) ag ir) ir (ca _ _))) (cu (by decide+kernel)) (aB 0 rfl (by decide) (by decide)) eY (@bM _ _ _ _ _ _ _ _ _ _ _ rfl wL rfl wM wN (@aa _ _ _ _ _ _ _ _ (ab 1 rfl rfl rfl) (aa (ab 2 rfl rfl rfl) (aa (ab 0 rfl rfl rfl) ag ir) ir) ir) ir (ca _ _)) cz rfl rfl) (@dM _ _ _ _ _ _ _ (@gO _ _ _ (KG) 6 _ _ _ _ _ _ _ _ _ _ _ _ _ _ (1) ([2]) rfl (cL rfl aX (aa ae ag ir) ir (ca _ _)) (cu (by decide+kernel)) (aB 0 rfl (by decide) (by decide)) eY (@bM _ _ _ _ _ _ _ _ _ _ _ rfl zJ rfl zK zL (aa (ab 1 rfl rfl rfl) (aa (ab 0 rfl rfl rfl) ag ir) ir) ir (ca _ _)) cz rfl rfl) (@dM _ _ _ _ _ _ _ (@aI _ _ _ 7 _ _ _ _ _ _ rfl (by decide) (@aJ _ _ _ _ _ _ _ _ _ _ _ rfl fe rfl um (@aa _ _ _ _ _ _ _ _ (@fQ _ _ _ _ _ _ (@fW _ _ _ (KH) _ _ _ _ _ _ _ _ _ _ (2) ([]) (dH (ab 6 rfl rfl rfl)) (cu (by decide+kernel)) (@fk _ _ _ _ _ _ _ (bh (aB 0 rfl (by decide) (by decide)) (bh (aB 1 rfl (by decide) (by decide)) eH)) (bA (bA fj)) ir) eY (ab 1 rfl rfl rfl) cz)) ag ir) ir (ca _ _)) cz) (@dM _ _ _ _ _ _ _ (@dB _ _ _ (false) _ _ _ _ _ _ _ (@dH _ _ _ _ _ (@cQ _ _ _ _ _ _ _ (@aa _ _ _ _ _ _ _ _ (@de _ _ _ _ _ _ _ _ (aa ae (aa ae ag ir) ir) (by decide) (ah (ah len0))) (@aa _ _ _ _ _ _ _ _ (@de _ _ _ _ _ _ _ _ (aa ae (aa ae ag ir) ir) (by decide) (ah (ah len0))) (@aa _ _ _ _ _ _ _ _ (@de _ _ _ _ _ _ _ _ (aa ae (aa ae ag ir) ir) (by decide) (ah (ah len0))) (@aa _ _ _ _ _ _ _ _ (@de _ _ _ _ _ _ _ _ (aa ae (aa ae ag ir) ir) (by decide) (ah (ah len0))) (@aa _ _ _ _ _ _ _ _ (@de _ _ _ _ _ _ _ _ (aa ae (aa ae ag ir) ir) (by decide) (ah (ah len0))) (@aa _ _ _ _ _ _ _ _ (@de _ _ _ _ _ _ _ _ (aa ae (aa ae ag ir) ir) (by decide) (ah (ah len0))) ag ir) ir) ir) ir) ir) ir) (by decide) (@ah _ _ _ (@ah _ _ _ (@ah _ _ _ (ah (ah (ah len0)))))))) (@fk _ _ _ _ _ _ _ (bh (aB 8 rfl (by decide) (by decide)) (bh (aB 9 rfl (by decide) (by decide)) eH)) (bA (bA fj)) ir) (@af _ _ _ _ _ _ _ (@gP _ _ _ ([(10,Ws,.cell,false),(11,Y4,.local,false)]) ([_,_]) _ _ _ _ _ _ _ ⟨by decide+kernel,by decide+kernel⟩ rfl (@fX.dat _ _ _ _ _ _ _ _ (aF (ab 5 rfl rfl rfl) (ac (ab 8 rfl rfl rfl)) cz) (@fX.dat _ _ _ _ _ _ _ _ (aF (ab 5 rfl rfl rfl) (ac (ab 9 rfl rfl rfl)) cz) fX.nil ir) ir) (by decide) (ah (ah len0)) kg.len ir (MH (K:=B1) (i:=10) (j:=0) rfl rfl)) (@af _ _ _ _ _ _ _ (@aN _ _ _ _ _ _ _ _ _ _ (@ay _ _ _ _ _ _ _ _ _ _ wf (@ac _ _ _ _ _ (@fQ _ _ _ _ _ _ (@fW _ _ _ (KL) _ _ _ _ _ _ _ _ _ _ (1) ([10]) (@cL _ _ _ _ _ _ _ rfl aX (@aa _ _ _ _ _ _ _ _ ae (aa (al cm (ab 7 rfl rfl rfl) ae) ag ir) ir) ir (ca _ _)) (cu (by decide+kernel)) (aB 0 rfl (by decide) (by decide)) eY (bc W (ab 1 rfl rfl rfl) bt aL bu (by decide+kernel) bv (aa (ab 0 rfl rfl rfl) ag ir) ir (by decide) rfl ir) cz))) (@e6 _ _ _ _ _ _ _ _ _ _ _ _ _ _ (@aF _ _ _ _ _ _ _ _ _ (aF (ac (ab 6 rfl rfl rfl)) (ac (ab 8 rfl rfl rfl)) cz) ae cz) cF (@eZ _ _ _ _ _ (al cm (ac (ab 7 rfl rfl rfl)) ae)) cF) rfl) (af (aW eV) ai) ai) (@af _ _ _ _ _ _ _ (@aI _ _ _ 12 _ _ _ _ _ _ rfl (by decide) (@fQ _ _ _ _ _ _ (@wH _ _ _ _ _ _ _ _ _ _ _ _ _ rfl aX rfl iD rfl vF (@aa _ _ _ _ _ _ _ _ ae (@aa _ _ _ _ _ _ _ _ (@al _ _ _ _ _ _ _ _ _ _ _ cm (@aJ _ _ _ _ _ _ _ _ _ _ _ rfl fe rfl um (@aa _ _ _ _ _ _ _ _ (@aF _ _ _ _ _ _ _ _ _ (aF (ab 6 rfl rfl rfl) (ac (ab 8 rfl rfl rfl)) cz) ae cz) (@aa _ _ _ _ _ _ _ _ (@aF _ _ _ _ _ _ _ _ _ (aF (ab 6 rfl rfl rfl) (ac (ab 9 rfl rfl rfl)) cz) ae cz) ag ir) ir) ir (ca _ _)) ae) ag ir) ir) (@aa _ _ _ _ _ _ _ _ (@aF _ _ _ _ _ _ _ _ _ (aF (ab 6 rfl rfl rfl) (ac (ab 8 rfl rfl rfl)) cz) ae cz) (@aa _ _ _ _ _ _ _ _ (@aF _ _ _ _ _ _ _ _ _ (aF (ab 6 rfl rfl rfl) (ac (ab 9 rfl rfl rfl)) cz) ae cz) ag ir) ir) ir ir ir ir)) cz) (@af _ _ _ _ _ _ _ (@gO _ _ _ (KJ) 13 _ _ _ _ _ _ _ _ _ _ _ _ _ _ (1) ([]) rfl (dH (ab 12 rfl rfl rfl)) (cu (by decide+kernel)) (aB 0 rfl (by decide) (by decide)) (@gN _ _ _ _ _ (@ay _ _ _ _ _ _ _ _ _ _ Ho (aF (ac (ab 0 rfl rfl rfl)) ae cz) (aF (ac (ab 0 rfl rfl rfl)) ae cz) rfl)) (ab 0 rfl rfl rfl) cz rfl rfl) (@af _ _ _ _ _ _ _ (@gO _ _ _ (KI) 14 _ _ _ _ _ _ _ _ _ _ _ _ _ _ (1) ([]) rfl (dH (ab 12 rfl rfl rfl)) (cu (by decide+kernel)) (aB 0 rfl (by decide) (by decide)) (@gN _ _ _ _ _ (@ay _ _ _ _ _ _ _ _ _ _ wf (aF (ac (ab 0 rfl rfl rfl)) ae cz) (aF (ac (ab 0 rfl rfl rfl)) ae cz) rfl)) (ab 0 rfl rfl rfl) cz rfl rfl) (@af _ _ _ _ _ _ _ (@aN _ _ _ _ _ _ _ _ _ _ (@se.or _ _ _ _ _ _ _ _ (@ay _ _ _ _ _ _ _ _ _ _ wf (@bc _ _ _ _ _ _ _ W _ _ _ _ _ _ _ _ _ (ac (ab 10 rfl rfl rfl)) pP dm _ pQ (by decide+kernel) pR (aa (ac (ab 11 rfl rfl rfl)) ag ir) ir (by decide) rfl ir) (ac (ab 13 rfl rfl rfl)) rfl) (@ay _ _ _ _ _ _ _ _ _ _ wf (@bc _ _ _ _ _ _ _ W _ _ _ _ _ _ _ _ _ (ac (ab 10 rfl rfl rfl)) oG cY _ oH (by decide+kernel) oJ (aa (ac (ab 11 rfl rfl rfl)) ag ir) ir (by decide) rfl ir) (ac (ab 14 rfl rfl rfl)) rfl)) (af (aW eV) ai) ai) (@af _ _ _ _ _ _ _ (@aN _ _ _ _ _ _ _ _ _ _ (@se.or _ _ _ _ _ _ _ _ (@ay _ _ _ _ _ _ _ _ _ _ x6 (@bc _ _ _ _ _ _ _ W _ _ _ _ _ _ _ _ _ (ac (ab 10 rfl rfl rfl)) Q7 vI _ Q8 (by decide+kernel) Ec (aa (ac (ab 11 rfl rfl rfl)) ag ir) ir (by decide) rfl ir) (iX fi (ac (ab 13 rfl rfl rfl)) (cQ ag (by decide) len0) rfl) rfl) (@ay _ _ _ _ _ _ _ _ _ _ x6 (@bc _ _ _ _ _ _ _ W _ _ _ _ _ _ _ _ _ (ac (ab 10 rfl rfl rfl)) Nf qz _ Ng (by decide+kernel) zN (aa (ac (ab 11 rfl rfl rfl)) ag ir) ir (by decide) rfl ir) (iX fi (ac (ab 14 rfl rfl rfl)) (cQ ag (by decide) len0) rfl) rfl)) (af (aW eV) ai) ai) ai))))))) cz) (@Bk _ _ _ _ _ (af (aW eV) ai))))))))))⟩
theorem jJ{i:Nat}{f:ao->Option V}{g:ao->Option V}{ρ:ao}{v:V}{w}(h:f ρ=some v)(hg:g (upd ρ i v)=w):Jj (fun ρ=>Option.map (fun y=>(upd ρ i y,.next)) (f ρ)) g ρ=w:=DS (cB h rfl) hg
noncomputable def mX(cy:List Int):Int:=(cy.take 63).sum % 1000000
theorem KN{ρ:ao}{cy:List Int}(hs:cy.length<=63)(h0:ρ 0=some (.list (cy.map .int))):
  iR CJ (ji OX (cW (ui (fun ρ=>ρ 0) (fun x=>some none) (fun ρ=>(some (V.int 63)).bind An) fun x=>some none) fun x=>some [])) (iR Ox (fun x=>some (V.int 10)) fun x=>some (V.int 6)) ρ=some (.int (mX cy)):=
 md (bY (nW h0 rfl rfl rfl (pC _ 63 (by rw[List.length_map];exact az hs (by decide)))) (by rw[<-List.map_take,OY,r9];rfl)) rfl
noncomputable abbrev v6(r:List Nat×Nat)(n:Nat):V:=.list (((List.range n).map fun(j:Nat)=>cp r (j+1)).map .int)
noncomputable abbrev lr(r:List Nat×Nat):V:=.tup [v6 r 8,.int (iP r)]
theorem KO(l:List Int):Hb (.list (l.map .int)) (.list (l.map .int))=some false:=by
 have h:=depthAll_ints l;unfold Hb;rw[x5 _ _ rfl];simp only[CL,V.wP,V.wQ,V.wR,V.wS,V.wT,qp,pr,lF,PyData.depth,PyData.eqv,jZ];rw[aw (by omega)];simp
theorem xy(l:List (List Int)):m6 (fU l) (.list [])=some (decide (l=[])):=by
 have h:=kt l;unfold fU;rw[x5 _ _ rfl];simp only[CL,V.wP,V.wQ,V.wR,V.wS,V.wT,V.x4,vW,pr,lF];rw[aw]
 ·cases l<;>rfl
 ·simp only[PyData.depth];omega
theorem B9(a:Bool):Hm (.bool a) (.bool a)=some false:=by cases a<;>rfl
noncomputable abbrev Ca(a b:Nat->Int)(j:Nat):V:=.tup [.int ((j+1:Nat):Int),.int (a (j+1)),.int (b (j+1))]
theorem zip_rows(a b:Nat->Int):∀K,K<=8->KE ((List.range K).map fun(j:Nat)=>V.int ((j+1:Nat):Int)) (((List.range 8).map fun(j:Nat)=>a (j+1)).map .int) (((List.range 8).map fun(j:Nat)=>b (j+1)).map .int)=(List.range K).map (Ca a b)
 |0,_=>rfl
 |1,_=>rfl
 |2,_=>rfl
 |3,_=>rfl
 |4,_=>rfl
 |5,_=>rfl
 |6,_=>rfl
 |7,_=>rfl
 |8,_=>rfl
 |n+9,h=>absurd h (Nat.not_le.mpr (fu (by decide:8<9) (tP 9 n)))
theorem zO(a b:Nat->Int)(K:Nat):V.list (((List.range K).filter fun j=>decide (b (j+1)<=a (j+1))).map (Ca a b))=fU (ej a b K):=by
 rw[vY,fU,iH];rfl
theorem Ed(a b:Nat->Int)(K:Nat):V.list (((List.range K).filter fun j=>!decide (a (j+1)=b (j+1))).map (Ca a b))=fU (gF a b K):=by
 rw[BV,fU,iH];rfl
inductive UT(cy:List Int)(F1 F2 F3 F4 F5 F6 F7 F8 F9 RQ RR RS:List V->Option V):Prop
 |mk (row txt bg ends:V) (nm:Nat->V) (O:Nat->List V) (R:Nat->List Nat×Nat)
  (f1:F1 [.list (cy.map .int)]=some row) (f3:F3 [row,.int (mX cy)]=some txt) (f2:F2 [txt]=some bg) (f4:F4 [bg]=some ends)
  (f5:F5 [.int (mX cy)]=some (.list [nm 0,nm 1,nm 2])) (f6:∀w,w<3->F6 [bg,ends,nm w]=some (.obj (O w))) (f7:∀w:Nat,w<3->F7 [row,.int w]=some (lr (R w)))
  (l5:∀w,w<3->(O w).length=5) (w7:∀w,w<3->iP (R w)<=7) (f12:∀w t:Nat,w<3->0<t->t<=8->RS [.obj (O w),.int t]=some (.int (cp (R w) t)))
  (f8:∀a b,a<3->b<3->F8 [.obj (O a),.obj (O b)]=some (.bool (decide (ej (cp (R a)) (cp (R b)) (eE (R a) (R b))=[]))))
  (f9:∀a b,a<3->b<3->F9 [.obj (O a),.obj (O b)]=some (.bool (decide (gF (cp (R a)) (cp (R b)) (eE (R a) (R b))=[]))))
  (f10:∀a b,a<3->b<3->RQ [.obj (O a),.obj (O b)]=some (fU (ej (cp (R a)) (cp (R b)) (eE (R a) (R b)))))
  (f11:∀a b,a<3->b<3->RR [.obj (O a),.obj (O b)]=some (fU (gF (cp (R a)) (cp (R b)) (eE (R a) (R b)))))
inductive LwI(O:Nat->List V)(R:Nat->List Nat×Nat)(L:Nat)(ρ:ao):Prop
 |mk (h5:ρ 5=some (.list [.obj (O 0),.obj (O 1),.obj (O 2)])) (h6:ρ 6=some (.list [lr (R 0),lr (R 1),lr (R 2)])) (h7:ρ 7=some (.int L))
noncomputable abbrev Ee:List (Nat×Nat):=[(0,1),(0,2),(1,0),(1,2),(2,0),(2,1)]
theorem KP:∀p∈Ee,p.1<3/\p.2<3:=by decide
theorem Nh{f:Nat->V}{w:Nat}(h:w<3):iJ (.list [f 0,f 1,f 2]) (.int w)=some (f w):=im (by
 match w,h with
 |0,_=>rfl
 |1,_=>rfl
 |2,_=>rfl) (show 3<=most by decide)
theorem Ni{P:Pk}{n:Nat}{C N:Addr}{mN:Str->Option Value}{W:dJ P C N mN}{vD}{a1 F1 g1 h1 c1}{a2 F2 g2 h2 c2}{a3 F3 g3 h3 c3}{a4 F4 g4 h4 c4}{a5 F5 g5 h5 c5}{aX}{fe}{iD}{vF}{a6 F6 g6 h6 c6}{a7 F7 g7 h7 c7}{a8 F8 m8 o8 l8 c8}{a9 F9 m9 o9 l9 c9}{a10 RQ m10 o10 l10 UU}{a11 RR m11 o11 l11 UV}{a12 RS m12 o12 l12 UW}{ρ:ao}
  {cy:List Int} (H:UT cy F1 F2 F3 F4 F5 F6 F7 F8 F9 RQ RR RS) (hs:cy.length<=63) (k0:ρ 0=some (.list (cy.map .int))):
  (B2 (P:=P) (n:=n) (C:=C) (N:=N) (mN:=mN) W vD (mF:=a1) (v5:=F1) g1 h1 c1 (gV:=a2) (pf:=F2) g2 h2 c2 (j1:=a3) (sI:=F3) g3 h3 c3 (j3:=a4) (sJ:=F4) g4 h4 c4 (da:=a5) (gD:=F5) g5 h5 c5 aX fe iD vF (gW:=a6) (pg:=F6) g6 h6 c6 (iW:=a7) (qH:=F7) g7 h7 c7 (zM:=a8) (KM:=F8) m8 o8 l8 c8 (ti:=a9) (Fo:=F9) m9 o9 l9 c9 (eJ:=a10) (jI:=RQ) m10 o10 l10 UU (dY:=a11) (iQ:=RR) m11 o11 l11 UV (aP:=a12) (bN:=RS) m12 o12 l12 UW).1 ρ=some (.bool true):=by
 obtain⟨row,txt,bg,ends,nm,O,R,f1,f3,f2,f4,f5,f6,f7,l5,w7,f12,f8,f9,f10,f11⟩:=H;obtain⟨L,hL,V9⟩:∃L:Nat,L=[iP (R 1),iP (R 2)].foldr max (iP (R 0))/\L<=7:=⟨_,rfl,re.mpr ⟨w7 1 (by decide),re.mpr ⟨w7 2 (by decide),w7 0 (by decide)⟩⟩⟩;have YG:C6 [.list [.int (iP (R 0)),.int (iP (R 1)),.int (iP (R 2))]]=some (.int L):=by
  have:=xt (iP (R 0):Nat) (([iP (R 1),iP (R 2)]:List Nat).map fun(k:Nat)=>(k:Int));rw[r8,<-hL]at this;exact this
 have wc:nJ [.int 1,.int ((L:Int)+2)]=some ((List.range (L+1)).map fun(j:Nat)=>V.int ((j+1:Nat):Int)):=Fm (k:=L+1) (az (fP V9) (by decide));unfold B2;dsimp only;refine jJ (KN hs k0) (jJ (bY k0 f1) (jJ (bY (cN (ap rfl (ap rfl rfl)) f3) f2) (jJ (bY rfl f4)
  (jJ (v:=.list [.obj (O 0),.obj (O 1),.obj (O 2)]) (gn (fun ρ=>ρ 1=some bg/\ρ 2=some ends) [0,1,2] nm (fun w=>.obj (O w)) (cN (bY rfl f5) rfl) (by decide) (fun w hw ρ hI=>ex2 ρ hI.1 hI.2 fun σ=>⟨_,rfl,⟨rfl,rfl⟩,cN (ap rfl (ap rfl (ap rfl rfl))) (f6 w ((by decide:∀w∈[0,1,2],w<3) w hw))⟩) ⟨rfl,rfl⟩)
  (jJ (v:=.list [lr (R 0),lr (R 1),lr (R 2)]) (gn (fun ρ=>ρ 1=some row) [0,1,2] (fun(w:Nat)=>V.int w) (fun(w:Nat)=>lr (R w)) rfl (by decide) (fun w hw ρ hI=>ex1 ρ hI fun σ=>⟨_,rfl,rfl,cN (ap rfl (ap rfl rfl)) (f7 w ((by decide:∀w∈[0,1,2],w<3) w hw))⟩) rfl)
  (jJ (bY (gn (fun ø=>True) [0,1,2] (fun(w:Nat)=>lr (R w)) (fun(w:Nat)=>.int (iP (R w))) rfl (by decide) (fun w hw ρ ø=>⟨_,rfl,trivial,rfl⟩) trivial) YG)
  (xu (LwI O R L) (eT (xs:=Ee.map fun p=>.tup [.int p.1,.int p.2]) rfl (lj (fun p:Nat×Nat=>V.tup [.int p.1,.int p.2]) Ee (fun ø=>LwI O R L) (fun l p ρ hp ø hR=>?_) ⟨rfl,rfl,rfl⟩)) fun am ø=>rfl)))))))
 obtain⟨i5,i6,i7⟩:=hR;obtain⟨pa,pb⟩:=KP p hp;obtain⟨a,b⟩:=p;have ia:=Nh (f:=fun w=>V.obj (O w)) pa;have ib:=Nh (f:=fun w=>V.obj (O w)) pb;have ta:=Nh (f:=fun w=>lr (R w)) pa;have tb:=Nh (f:=fun w=>lr (R w)) pb;have wa:=w7 a pa;have wb:=w7 b pb;have UX:=l5 a pa;have e12:=f12 a;have e8:=f8 a b pa pb;have e9:=f9 a b pa pb;have e10:=f10 a b pa pb;have e11:=f11 a b pa pb;dsimp only at pa pb;generalize R a=ra at*;generalize R b=rb at*;have Q9:eE ra rb<=8:=fP (re.mpr ⟨wa,wb⟩);have hz:nJ [.int 1,.int (max (iP ra:Int) (iP rb)+2)]=some ((List.range (eE ra rb)).map fun(j:Nat)=>V.int ((j+1:Nat):Int)):=by
  rw[<-Fm (az Q9 (by decide))];refine congrArg (fun z=>nJ [.int 1,.int z]) ?_;show _=((max (iP ra) (iP rb)+1:Nat):Int)+1;omega
 have YQ:Q5 ((List.range (eE ra rb)).map fun(j:Nat)=>V.int ((j+1:Nat):Int)) [v6 ra 8,v6 rb 8]=some (.list ((List.range (eE ra rb)).map (Ca (cp ra) (cp rb)))):=by
  rw[Q6,Q4,aw,zip_rows _ _ _ Q9];rw[List.length_map,eM];exact⟨jf _,Q9,Q9,az Q9 (by decide)⟩
 have YR:(((List.range 8).map fun(j:Nat)=>cp ra (j+1)).map V.int).take (L+1)=((List.range (L+1)).map fun(j:Nat)=>cp ra (j+1)).map V.int:=by
  rw[<-List.map_take,<-List.map_take,List.take_range,Nat.min_eq_left (fP V9)]
 refine ex3 ρ i5 i6 i7 fun σ=>⟨_,_,rfl,cf (cB (ap (bF rfl rfl ia) (ap (bF rfl rfl ib) rfl)) rfl) (cf (ik (aG (x:=v6 ra (L+1)) (y:=v6 ra (L+1)) ?_ (nW (bF (bF rfl rfl ta) rfl rfl) rfl (cN (ad rfl rfl) rfl) rfl ((pC _ (L+1) (by show 8<=most;decide)).trans (congrArg (fun z=>some (V.list z)) YR))) (KO _)) rfl) (mm (cN (ap rfl (ap (ad (cN (ap (bF (bF rfl rfl ta) rfl rfl) (ap (bF (bF rfl rfl tb) rfl rfl) rfl)) (BQ _ _)) rfl) rfl)) (cN hz (cN (ap (bF (bF rfl rfl ta) rfl rfl) (ap (bF (bF rfl rfl tb) rfl rfl) rfl)) YQ)))
  (mm (v:=fU (ej (cp ra) (cp rb) (eE ra rb))) ?_ (mm (v:=fU (gF (cp ra) (cp rb) (eE ra rb))) ?_ (cf (ik (Bq (a:=false) (b:=false) (aG (bQ rfl UX rfl e10) rfl (BP _)) (aG (bQ rfl UX rfl e11) rfl (BP _))) rfl) (cf (ik (Bq (a:=false) (b:=false) (aG (bQ rfl UX rfl e8) (cB (aG rfl rfl (xy _)) rfl) (B9 _)) (aG (bQ rfl UX rfl e9) (cB (aG rfl rfl (xy _)) rfl) (B9 _))) rfl) rfl)))))),rfl,rfl,rfl⟩
 ·refine(gn (fun ρ=>ρ 1=some (.obj (O a))) (List.range (L+1)) (fun(j:Nat)=>V.int ((j+1:Nat):Int)) (fun(j:Nat)=>.int (cp ra (j+1))) (cN (ap rfl (ap (ad rfl rfl) rfl)) wc) (by rw[eM];exact Yg (fP V9)) (fun j hj ρ hI=>ex1 ρ hI fun σ=>⟨_,rfl,rfl,bQ rfl UX rfl (e12 (j+1) pa (jf j) (az (ea.mp hj) (fP V9)))⟩) rfl).trans ?_
  rw[v6,iH];rfl
 ·exact(jp (fun ø=>True) (List.range (eE ra rb)) (Ca (cp ra) (cp rb)) (fun j=>decide (cp rb (j+1)<=cp ra (j+1))) (Ca (cp ra) (cp rb)) (cN rfl rfl) (by rw[eM];exact Yg Q9) (fun j hj ρ ø=>⟨_,rfl,trivial,aG (x:=.int (cp ra (j+1))) (y:=.int (cp rb (j+1))) rfl rfl rfl,fun ø=>rfl⟩) trivial).trans (congrArg some (zO ..))
 ·exact(jp (fun ø=>True) (List.range (eE ra rb)) (Ca (cp ra) (cp rb)) (fun j=>!decide (cp ra (j+1)=cp rb (j+1))) (Ca (cp ra) (cp rb)) (cN rfl rfl) (by rw[eM];exact Yg Q9) (fun j hj ρ ø=>⟨_,rfl,trivial,aG (x:=.int (cp ra (j+1))) (y:=.int (cp rb (j+1))) rfl rfl (Dp _ _),fun ø=>rfl⟩) trivial).trans (congrArg some (Ed ..))
noncomputable abbrev sS(raw:V)(r:List Nat×Nat):List V:=[raw,.int (cp r 1),.int (r.1.length:Nat),.tup [.tup ((r.1.foldl bump []).map .int),.int r.2],.bool (decide ((r.1.foldl bump []).length<=1))]
structure Ef(r:List Nat×Nat):Prop where
 le:∀x∈r.1,x<=7
 len:r.1.length<=7
 fr:r.2<=7
theorem Ef.iP{r:List Nat×Nat}(h:Ef r):iP r<=7:=QR h.le h.fr
theorem Ef.cnt{r:List Nat×Nat}(h:Ef r):(r.1.foldl bump []).length<=1000/\(∀z∈r.1.foldl bump [],0<=z/\z<=1000)/\r.1.length<=1000:=by
 refine⟨?_,fun z hz=>?_,az h.len (by decide)⟩
 ·rw[jc,gx,Nat.zero_max]
  exact az (QQ fun x hx=>rg (h.le x hx)) (by decide)
 ·have:=GM r.1 z hz
  exact⟨this.1,oP this.2 (nc.mpr (az h.len (by decide)))⟩
theorem Ra{nm:List Nat}(h:DC nm)(r:List Nat×Nat):QF (DP r nm)=sS (.str (DP r nm)) r:=by
 obtain⟨c,l,rfl⟩:=xA h.ne;have hc:c≠32/\c≠9:=by
  rcases h.sg c (.head _)with q|⟨_,e,he,rfl⟩
  ·have:=q.1;omega
  ·have:=Bw he;omega
 unfold QF;rw[Ki hc.1 hc.2,M8]
theorem sb(r r':List Nat×Nat):max ((iP r:Nat):Int) ((iP r':Nat):Int)+1=(eE r r':Nat):=by
 show _=((max (iP r) (iP r')+1:Nat):Int);omega
theorem Rb{s:oF}{r:List Nat×Nat}(h:Told 7 s r):BI s=lr r/\Ef r:=by
 refine⟨(Kl h).trans ?_,h.4,h.5,h.6⟩;rw[lr,v6,iH];rfl
inductive EvH(t:List Nat)(us ws:List (List Nat))(M:CM)(tk:Nat->Option Nat)(bg:List sx):Prop
 |mk (h1:m4 us=true) (h2:us.flatten=t++[59,34,92]) (h3:us.flatten.length<=10000) (h4:us.length<=10000) (h5:fB us=ws) (h6:m4 ws=true) (h7:ws.flatten.length<=10000) (h8:∀u∈ws,u.length=2\/∃c,u=[c]/\(lY [c]).length<10)
  (h9:(ws.map (ip M)).flatten.length<=1000) (YS:ws.foldl (cG tk M) ([],[])=(bg,[34,92])) (h11:t.length<=10000)
theorem KQ{M:CM}{total:Int}{SP:Nat->Int->List Nat}{its:List Item}(hg:jU its)(hn:sB M total SP its){tk:Nat->Option Nat}(ht:zw tk):
  EvH (eC SP false its).flatten (eC SP false its++[[59],[34],[92]]) (n8 SP false its++[[59],[34],[92]]) M tk (vK total tk its):=by
 have hw:∀e∈its,e.2.1<3:=fun e he=>(hg.ok e he).2.1
 obtain⟨l1,l2⟩:=rX (b:=false) hn;have l1:=az l1 (jg 11 hg.len);have l2:=az l2 (jg 11 hg.len);have h3:(eC SP false its++[[59],[34],[92]]).flatten.length<=10000:=by
  rw[bR,aY];exact az (jO l1 3) (by decide)
 have h5:=Gs hn;have h7:=qr (eC SP false its++[[59],[34],[92]]);rw[h5]at h7;refine⟨qC (Fb hn) rfl,bR,h3,?_,h5,qC (fun u hu=>(zx hn u hu).1) rfl,az h7 h3,fun u hu=>?_,?_,QE ht hw hn,az l1 (by decide)⟩
 ·rw[aY]
  exact az (jO l2 3) (by decide)
 ·rcases bZ.mp hu with hu|hu
  ·exact(zx hn u hu).2
  ·have hl:∀c∈n0,(lY [c]).length<10:=fun c hc=>cV (cH.mp xn c hc)
   rcases bI.mp hu with rfl|hu
   ·exact .inr ⟨59,rfl,hl 59 (by decide)⟩
   ·rcases bI.mp hu with rfl|hu
    ·exact .inr ⟨34,rfl,hl 34 (by decide)⟩
    ·rw[cq.mp hu]
     exact .inr ⟨92,rfl,hl 92 (by decide)⟩
 ·have ha:=BD (b:=false) hw hn
  have e:(([[59],[34],[92]]:List (List Nat)).map (ip M)).flatten=[59,34,92]:=by
   show M.f 59++(M.f 34++(M.f 92++[]))=_;rw[M.sign 59 (by decide),M.sign 34 (by decide),M.sign 92 (by decide)];rfl
  rw[List.map_append,bR,aY,e];exact az (jO (az ha (jg 5 hg.len)) 3) (by decide)
theorem Eg(bg:List sx)(hl:bg.length<=24):(iN (bg.map (·.2))).length<=24/\((iN (bg.map (·.2))).map (·.1)).Nodup/\∀e∈iN (bg.map (·.2)),e.1<bg.length:=by
 obtain⟨h1,h2⟩:=xr (bg.map (·.2));refine⟨az h2 (by rw[List.length_map];exact hl),h1,fun e he=>?_⟩;obtain⟨m,h3,_⟩:=vS.mp he;have:=(gG.mp h3).1;rwa[List.length_map]at this
section
noncomputable def G3(ps:List Str)(f:ao->Option (ao×Fl)):List V->Option V:=fun xs=>if xs.length=ps.length then(f (mY xs)).bind Sn else none
theorem fL{ps:List Str}{f:ao->Option (ao×Fl)}{xs:List V}{v:V}(hl:xs.length=ps.length)(h:Ends f (mY xs) v):G3 ps f xs=some v:=by
 obtain⟨aQ,e⟩:=h;unfold G3;rw[aw hl,e];rfl
theorem Om{ps:List Str}{f:ao->Option (ao×Fl)}{xs:List V}{Q:V->Prop}(hl:xs.length=ps.length)(h:rQ f (mY xs) Q):∃v,Q v/\G3 ps f xs=some v:=by
 obtain⟨v,q,e⟩:=h;exact⟨v,q,fL hl e⟩
theorem On(P:Params):zw (Mp P)where
 par:=by refine⟨?_,?_,?_,?_,?_⟩<;>kernel_rfl
 op:=fun c hc=>by
  have h:(zq.all fun c=>(Mp P c).elim false fun k=>k != 7&&k != 8)=true:=by kernel_rfl
  obtain⟨k,h1,h2⟩:=ve (cH.mp h c hc);obtain⟨h3,h4⟩:=(bX _ _).mp h2;exact⟨k,h1,oN.mp h3,oN.mp h4⟩
 low:=fun c h0 h1=>by
  have h:((List.range 26).all fun i=>(Mp P (97+i)).isNone)=true:=by kernel_rfl
  have:=cH.mp h (c-97) (ea.mpr h1);rw[rc h0]at this;exact Option.isNone_iff_eq_none.mp this
 edge:=fun e he=>by
  have h:(fY.all fun e=>(Mp P e.toNat).isNone)=true:=by kernel_rfl
  exact Option.isNone_iff_eq_none.mp (cH.mp h e he)
theorem Rc(P:Params):JU (Mp P) (Mo P) (Qi P):=fun c=>by
 unfold Mp Mo Qi
 cases h:findBy (fun(k:Str) v=>v.isStrOf k) (ents (e7 P)) (pyStr [c])with
 |none=>exact⟨rfl,nofun⟩
 |some v=>
  obtain⟨p,h1,h2⟩:=Mq h;show true=(((vInt v).map (·.1)).map Int.toNat).isSome/\∀k,((vInt v).map (·.1)).map Int.toNat=some k->(vInt v).map (·.1)=some (k:Int);rw[h1];exact⟨rfl,fun k hk=>by rw[<-Option.some.inj hk];exact congrArg some (Int.toNat_of_nonneg h2).symm⟩
theorem size_le{r r':List Nat×Nat}(h:Ef r)(h':Ef r'):eE r r'<=8:=fP (re.mpr ⟨h.iP,h'.iP⟩)
section
variable{P:Pk}
theorem fh{n:Nat}{a:Addr}{fd:FuncData}{st:Stmt}{ps:List Str}{K:Cx}{f:ao->Option (ao×Fl)}(Cb:∀h,P.G h->(∃o,h.get? a=some o/\o.cls= .type "function"/\o.data= .func fd)/\h.CodeRec fd.code fd.qualname)(F:lh fd st ps)(ok:LB K (ki st) ps=true)(CY:ps.Nodup)
  (Mh:(ki st).isCoroutine=false) (sM:(ki st).isGenerator=false) (h:oo P n K (dW st) f):aZ P (n+1) (.ref a) (G3 ps f):=
 aZ.fn (fd:=fd) (fun h G=>by
  obtain⟨⟨o,h1,h2,h3⟩,h4⟩:=Cb h G;exact⟨⟨o,h1,h3⟩,h4⟩) F.body F.gl F.bl F.clo F.bind (by rw[F.scope];exact uf.of ok) CY (by rw[F.scope];exact Mh) (by rw[F.scope];exact sM) h
variable(X:bG P)
include X
theorem bG.Fp:∃F,aZ P 1 (.ref 92) F/\∀us,m4 us=true->us.flatten.length<=10000->us.length<=10000->F [.str us.flatten]=some (.str (fB us).flatten):=
 ⟨_,fh (fun h G=>NP (X.top h G) fun ø ø e=>e) (To P.w.params) (by decide+kernel) (by decide+kernel) (by kernel_rfl) (by kernel_rfl) (dN (n:=0) X.dK X.gen X.cA).2,fun us h1 h2 h3=>fL rfl (Gf h1 h2 h3 rfl)⟩
theorem bG.YT:∃F,aZ P 1 (.ref 32) F/\∀c:Nat,F [.str [c]]=some (.bool (decide ((c:Int)∈T7))):=
 ⟨_,fh (fun h G=>NR (X.top h G) fun ø ø e=>e) (Ts P.w.params) (by decide+kernel) (by decide+kernel) (by kernel_rfl) (by kernel_rfl) (Qz (n:=0) X.vp X.MU (Qh X.top)).2,fun c=>fL rfl (QB rfl)⟩
theorem bG.YU:∃F,aZ P 1 (.ref 78) F/\∀c:Nat,(lY [c]).length<10->F [.str [c]]=some (.str ((La EM c).getD (lY [c]))):=
 ⟨_,fh (fun h G=>NS (X.top h G) fun ø ø e=>e) (Tu P.w.params) (by decide+kernel) (by decide+kernel) (by kernel_rfl) (by kernel_rfl) (QA (n:=0) X.vp X.vC (PY X.top)).2,fun c hc=>fL rfl (QC hc rfl)⟩
theorem bG.UY:∃F,aZ P 1 (.ref 173) F/\∀cy:List Int,cy.length<=63->∃its,jU its/\F [.list (cy.map .int)]=some (.list (its.map Hf)):=
 ⟨_,fh (fun h G=>IF (X.top h G) fun ø ø e=>e) (PK P.w.params) (by decide+kernel) (by decide+kernel) (by kernel_rfl) (by kernel_rfl) (rU (n:=0) X.cA X.aX).2,fun cy hs=>by
  obtain⟨v,⟨its,h1,rfl⟩,h2⟩:=Om (ps:=IG) (xs:=[.list (cy.map .int)]) rfl (MC hs rfl);exact⟨its,h1,h2⟩⟩
theorem bG.Fq:∃F,aZ P 1 (.ref 180) F/\∀total:Int,F [.int total]=some (.list [.str (aH 0 total),.str (aH 1 total),.str (aH 2 total)]):=by
 have hr:∀total:Int,Ends (io (P:=P) (n:=0) X.mV).1 (mY [.int total]) (.list [.str (aH 0 total),.str (aH 1 total),.str (aH 2 total)]):=fun total=>Gl rfl
 have hB:oo P 0 nZ (dW (aO pq.main.body 62)) (io (P:=P) (n:=0) X.mV).1:=xZ _;generalize(io (P:=P) (n:=0) X.mV).1=f at*;exact⟨G3 II f,fh (K:=nZ) (f:=f) (fun h G=>IH (X.top h G) fun ø ø e=>e) (PL P.w.params) (by decide+kernel) (by decide+kernel) (by kernel_rfl) (by kernel_rfl) (by assumption),fun total=>fL rfl (hr total)⟩
theorem bG.G4(M:CM):∃F,aZ P 1 (.ref 185) F/\∀(total:Int) (w:Nat) (d:Int),w<3->0<=d->∃l,bV M (aH w total) l/\F [.str (aH w total),.int total,.int d]=some (.str l):=by
 have hr:∀(total:Int) (w:Nat) (d:Int),w<3->0<=d->rQ (fT (P:=P) (n:=0) X.iD X.aX X.cA X.mV X.vp).1 (mY [.str (aH w total),.int total,.int d]) fun v=>∃l,bV M (aH w total) l/\v= .str l:=fun total w d hw hd=>Bx (M:=M) hw hd rfl rfl rfl
 have hB:oo P 0 km (dW (aO pq.main.body 63)) (fT (P:=P) (n:=0) X.iD X.aX X.cA X.mV X.vp).1:=xZ _;generalize(fT (P:=P) (n:=0) X.iD X.aX X.cA X.mV X.vp).1=f at*;refine⟨G3 Dd f,fh (K:=km) (f:=f) (fun h G=>IJ (X.top h G) fun ø ø e=>e) (PM P.w.params) (by decide+kernel) (by decide+kernel) (by kernel_rfl) (by kernel_rfl) (by assumption),fun total w d hw hd=>?_⟩;obtain⟨v,⟨l,h1,rfl⟩,h2⟩:=Om (ps:=Dd) (xs:=[.str (aH w total),.int total,.int d]) rfl (hr total w d hw hd);exact⟨l,h1,h2⟩
theorem bG.Rd(M:CM):∃F,aZ P 2 (.ref 192) F/\∀total:Int,∃SP:Nat->Int->List Nat,(∀w d,w<3->0<=d->bV M (aH w total) (SP w d))/\∀its,jU its->F [.list (its.map Hf),.int total]=some (.str (eC SP false its).flatten):=by
 obtain⟨F1,c1,s1⟩:=X.G4 M;obtain⟨F2,c2,s2⟩:=X.Fq;refine⟨_,fh (fun h G=>IK (X.top h G) fun ø ø e=>e) (PO P.w.params) (by decide+kernel) (by decide+kernel) (by kernel_rfl) (by kernel_rfl) (pE (n:=1) X.wy X.wz c1 X.jV X.jW c2).2,fun total=>?_⟩;have hex:∀(w:Nat) (d:Int),∃l,w<3->0<=d->bV M (aH w total) l/\F1 [.str (aH w total),.int total,.int d]=some (.str l):=fun w d=>by
  by_cases q:w<3/\0<=d
  ·obtain⟨l,h1,h2⟩:=s1 total w d q.1 q.2
   exact⟨l,fun ø ø=>⟨h1,h2⟩⟩
  ·exact⟨[],fun h1 h2=>absurd ⟨h1,h2⟩ q⟩
 have S6:∀w d,w<3->0<=d->bV M (aH w total) (Classical.choose (hex w d))/\F1 [.str (aH w total),.int total,.int d]=some (.str (Classical.choose (hex w d))):=fun w d=>Classical.choose_spec (hex w d)
 exact⟨fun w d=>Classical.choose (hex w d),fun w d h1 h2=>(S6 w d h1 h2).1,fun its hg=>fL rfl (JT hg (fun w d h1 h2=>⟨(S6 w d h1 h2).2,(S6 w d h1 h2).1⟩) (s2 total) rfl rfl)⟩
theorem bG.Nj:∃F,aZ P 2 (.ref 99) F/\QJ F:=by
 obtain⟨F1,c1,s1⟩:=X.Fp;exact⟨_,fh (fun h G=>NQ (X.top h G) fun ø ø e=>e) (Tq P.w.params) (by decide+kernel) (by decide+kernel) (by kernel_rfl) (by kernel_rfl) (fw (n:=1) X.dP X.dQ c1 X.dK X.gen).2,Uu s1 fun t ws h1 h2 h3=>fL rfl (Gg (us:=[]) h1 h2 h3 rfl)⟩
theorem bG.KR:∃F,aZ P 2 (.ref 199) F/\∀t us ws bg,EvH t us ws Up (Mp P.w.params) bg->F [.str t]=some (.list (bg.map sy)):=by
 obtain⟨F1,c1,s1⟩:=X.Fp;obtain⟨F2,c2,s2⟩:=X.YT;obtain⟨F3,c3,s3⟩:=X.YU;have hM:E9 Up F2 F3:=fun c hc=>by
  by_cases q:(c:Int)∈T7
  ·refine .inl ⟨by rw[s2,bo q],?_⟩
   show Lb c=[];unfold Lb;rw[aw q]
  ·refine .inr ⟨by rw[s2,db q],?_⟩
   rw[s3 c hc];show _=some (V.str (Lb c));unfold Lb;rw[au q]
 refine⟨_,fh (fun h G=>IL (X.top h G) fun ø ø e=>e) (PQ P.w.params) (by decide+kernel) (by decide+kernel) (by kernel_rfl) (by kernel_rfl) (ms (n:=1) X.dP X.dQ c1 X.dK X.gen X.cA X.qv X.qx c2 X.pd X.pe c3 X.jF (EW X.top) (by decide) (Jo X.top)).2,fun t us ws bg h=>?_⟩;obtain⟨h1,h2,h3,h4,h5,h6,h7,h8,h9,YS,h11⟩:=h;have hs:=s1 us h1 h3 h4;rw[h2,h5]at hs;have:=DI (tk:=Mp P.w.params) (M:=Up) hs h11 h6 h7 hM (Rc _) h8 h9 (by rw[YS]) (ρ:=mY [.str t]) rfl (P:=P) (n:=1) (g1:=X.dP) (h1:=X.dQ) (c1:=c1) (g2:=X.dK) (Un:=X.gen) (g3:=X.cA) (g3':=X.qv) (h3:=X.qx) (c3:=c2) (g4:=X.pd) (h4:=X.pe) (c4:=c3) (g5:=X.jF) (t5:=EW X.top) (s5:=by decide) (i5:=Jo X.top);rw[YS]at this;exact fL rfl this
theorem bG.Re:∃F,aZ P 3 (.ref 204) F/\∀bg:List sx,bg.length<=40->F [.list (bg.map sy)]=some (dV (iN (bg.map (·.2)))):=by
 obtain⟨F1,c1,s1⟩:=X.Nj;exact⟨_,fh (fun h G=>IM (X.top h G) fun ø ø e=>e) (PS P.w.params) (by decide+kernel) (by decide+kernel) (by kernel_rfl) (by kernel_rfl) (pL (n:=2) X.aX X.cA X.oC X.oD c1).2,fun bg hl=>fL rfl (J7 hl s1 rfl)⟩
theorem bG.Nk:∃F,aZ P 1 (.ref 214) F/\∀(its:List Item) (w:Nat),jU its->F [.list (its.map Hf),.int w]=some (BI (GC w its)):=by
 have F:=PV P.w.params;refine⟨_,aZ.fnT (n:=0) (K:=sG) (fd:=fdOf jy) (ps:=IP) (fun h G=>by
  obtain⟨⟨o,h1,h2,h3⟩,h4⟩:=IO (X.top h G) fun ø ø e=>e
  exact⟨⟨o,h1,h3⟩,h4⟩) F.body F.gl F.bl F.clo F.bind (by rw[F.scope];exact uf.of (by decide+kernel)) (by decide+kernel) (by rw[F.scope];kernel_rfl) (by rw[F.scope];kernel_rfl) (n9 (n:=0) X.aX X.fe X.cA).2,fun its w hg=>?_⟩
 exact(aw rfl).trans (GE hg rfl rfl)
theorem bG.sd:∃F,aZ P 1 (.ref 123) F/\∀raw r,Ef r->F [.obj (sS raw r)]=some (.int (iP r:Nat)):=
 ⟨_,fh (fun h G=>Iy (X.top h G) fun ø ø e=>e) (Pz P.w.params) (by decide+kernel) (by decide+kernel) (by kernel_rfl) (by kernel_rfl) (eh (n:=0) (mj X.ob X.top) X.fe X.cA).2,fun raw r h=>by rw[<-Km];exact fL rfl (BR h.cnt.1 rfl)⟩
theorem bG.tj:∃F,aZ P 1 (.ref 130) F/\∀raw r (t:Nat),Ef r->0<t->t<=100->F [.obj (sS raw r),.int t]=some (.int (cp r t)):=
 ⟨_,fh (fun h G=>Iz (X.top h G) fun ø ø e=>e) (PB P.w.params) (by decide+kernel) (by decide+kernel) (by kernel_rfl) (by kernel_rfl) (jG (n:=0) (mj X.ob X.top) X.aX X.cA).2,fun raw r t h h1 h2=>by rw[cp,<-DX r h1];exact fL rfl (Gz h.cnt.1 h.cnt.2.1 h.cnt.2.2 h1 (az h2 (by decide)) rfl rfl)⟩
theorem bG.zN:∃F,aZ P 1 (.ref 137) F/\∀raw r sa r',F [.obj (sS raw r),.obj (sS sa r')]=some (.bool (decide (gF (cp r) (cp r') (eE r r')=[]))):=
 ⟨_,fh (fun h G=>IB (X.top h G) fun ø ø e=>e) (PD P.w.params) (by decide+kernel) (by decide+kernel) (by kernel_rfl) (by kernel_rfl) (zz (n:=0) (mj X.ob X.top)).2,fun raw r sa r'=>by rw[<-Kr];exact fL rfl (GO rfl rfl)⟩
theorem bG.G5:∃F,aZ P 2 (.ref 144) F/\∀raw r sa r',Ef r->Ef r'->F [.obj (sS raw r),.obj (sS sa r')]=some (fU (gF (cp r) (cp r') (eE r r'))):=by
 obtain⟨F1,c1,s1⟩:=X.tj;obtain⟨F2,c2,s2⟩:=X.sd;exact⟨_,fh (fun h G=>IC (X.top h G) fun ø ø e=>e) (PF P.w.params) (by decide+kernel) (by decide+kernel) (by kernel_rfl) (by kernel_rfl) (fH (n:=1) (mj X.ob X.top) X.fe X.aX (dC _) X.aL dD c1 (dR _) X.aK dS c2).2,
  fun raw r sa r' h h'=>fL rfl (BS (az (size_le h h') (by decide)) ⟨_,rfl,rfl⟩ ⟨_,rfl,rfl⟩ (sb r r') (s2 _ _ h) (s2 _ _ h') (fun ts z1 z2=>⟨s1 _ _ _ h z1 (az z2 (az (size_le h h') (by decide))),s1 _ _ _ h' z1 (az z2 (az (size_le h h') (by decide)))⟩) rfl rfl)⟩
theorem bG.Ec:∃F,aZ P 2 (.ref 151) F/\∀raw r sa r',Ef r->Ef r'->F [.obj (sS raw r),.obj (sS sa r')]=some (.bool (decide (ej (cp r) (cp r') (eE r r')=[]))):=by
 obtain⟨F1,c1,s1⟩:=X.tj;obtain⟨F2,c2,s2⟩:=X.sd;exact⟨_,fh (fun h G=>ID (X.top h G) fun ø ø e=>e) (PH P.w.params) (by decide+kernel) (by decide+kernel) (by kernel_rfl) (by kernel_rfl) (DZ (n:=1) (mj X.ob X.top) X.fe X.aX (dC _) X.aL dD c1 (dR _) X.aK dS c2).2,
  fun raw r sa r' h h'=>by rw[<-Na];exact fL rfl (Kq (az (size_le h h') (by decide)) (sb r r') (s2 _ _ h) (s2 _ _ h') (fun ts z1 z2=>⟨s1 _ _ _ h z1 (az z2 (az (size_le h h') (by decide))),s1 _ _ _ h' z1 (az z2 (az (size_le h h') (by decide)))⟩) rfl rfl)⟩
theorem bG.UZ:∃F,aZ P 2 (.ref 158) F/\∀raw r sa r',Ef r->Ef r'->F [.obj (sS raw r),.obj (sS sa r')]=some (fU (ej (cp r) (cp r') (eE r r'))):=by
 obtain⟨F1,c1,s1⟩:=X.tj;obtain⟨F2,c2,s2⟩:=X.sd;exact⟨_,fh (fun h G=>IE (X.top h G) fun ø ø e=>e) (PJ P.w.params) (by decide+kernel) (by decide+kernel) (by kernel_rfl) (by kernel_rfl) (gc (n:=1) (mj X.ob X.top) X.fe X.aX (dC _) X.aL dD c1 (dR _) X.aK dS c2).2,
  fun raw r sa r' h h'=>fL rfl (BU (az (size_le h h') (by decide)) ⟨_,rfl,rfl⟩ ⟨_,rfl,rfl⟩ (sb r r') (s2 _ _ h) (s2 _ _ h') (fun ts z1 z2=>⟨s1 _ _ _ h z1 (az z2 (az (size_le h h') (by decide))),s1 _ _ _ h' z1 (az z2 (az (size_le h h') (by decide)))⟩) rfl rfl)⟩
noncomputable def Oo(xs:List V):Option (List V):=(one? xs).bind fun x=>x.jK.bind fun l=>if l.length<=1000 then some (QF l)else none
theorem bG.made:Do P 2 161 Oo where
 ok:=fun hx hv Qe hs he=>by
  have F:=Px P.w.params;refine Dm (n:=0) (mj X.ob X.top) (K':=DJ) (fI:=116) (fd:=fdOf ig) (ps:=Ix) (F0:=(DK (P:=P) (n:=0) (C:=161) (N:=160) (mN:=Mr P.w.params) (Yv:=2264) (Yw:=2265) (mj X.ob X.top) X.sA X.cA X.zt (fun h G=>⟨Qj P.w.params,_,EX X.top h G,Bl _,Yd _⟩) (fun h G=>⟨Qj P.w.params,_,EX X.top h G,Bl _,Ye _⟩)).1) (F:=Oo) hx hv Qe (Mu _) (fun h G=>?_) (fun h G=>?_) F.body F.gl F.bl F.clo F.bind (by rw[F.scope];exact uf.of (by decide+kernel)) (by decide+kernel) (by rw[F.scope];kernel_rfl) (by rw[F.scope];kernel_rfl) (xZ _) (fun x xs r hf=>?_) hs he
  ·obtain⟨⟨o,h1,h2,h3⟩,h4⟩:=Iw (X.top h G) fun ø ø e=>e
   exact⟨o,h1,h2⟩
  ·obtain⟨⟨o,h1,h2,h3⟩,h4⟩:=Iw (X.top h G) fun ø ø e=>e
   exact⟨⟨o,h1,h3⟩,h4⟩
  ·refine ak hf fun x hx hf=>ak hf fun l lS hf=>eR hf fun hl e=>?_
   cases jm hx;cases V.kN lS;subst e;exact⟨rfl,rfl,J1 hl rfl rfl⟩
theorem bG.KS:∃F,aZ P 3 (.ref 209) F/\∀(bg:List sx) st nm,bg.length<=24->st.length<=24->(st.map (·.1)).Nodup->(∀e∈st,e.1<bg.length)->nm.length<=3->F [.list (bg.map sy),dV st,.str nm]=some (.obj (QF (DP (mC bg st nm) nm))):=
 ⟨_,fh (fun h G=>IN (X.top h G) fun ø ø e=>e) (PU P.w.params) (by decide+kernel) (by decide+kernel) (by kernel_rfl) (by kernel_rfl) (mB (n:=2) X.aX X.cA X.sA X.made).2,fun bg st nm h1 h2 h3 h4 h5=>fL rfl (DQ h1 h2 h3 h4 h5 (fun l hl=>aw hl) rfl rfl rfl)⟩
end
end
theorem U0:cJ 4 callerA:=⟨rfl,by decide,by decide⟩
theorem KT:∀(w:World) (aj:Heap) (mg mb:Str->Option Value) (hg:aj.Ns mainGlobals mg) (hb:aj.Ns builtinsNs mb) (nl:aj.NoLimit),(∀x:Str,x≠"__name__"->mb x=bootBuiltins x)->YP w aj->
  ∀(a:Addr) (o:Obj) (pm cd doc dV kV:Value),aj.get? a=some o->o.data= .func {docDef ot.name ot.params ot.body ot.scope pm cd doc with defaults:=dV,kwdefaults:=kV}->aj.CodeRec cd ot.name->Dflts mg aj ot.params [] dV kV->
   ∃n F,aZ (Iv RW.toRowW.prog w (Dk 161) (Dk.ok 161) aj mg mb hg hb nl) n (.ref a) F/\cJ n callerA/\∀ns:List Int,ns.length<=63->F [.list (ns.map .int)]=some (.bool true):=by
 intro w aj mg mb hg hb nl hB y a o pm cd doc dV kV ho hd hc hD;have e0:ot.params.defaults=[]:=by kernel_rfl
 obtain rfl:dV= .none:=by
  rcases hD.pos with h|h
  ·exact h.2
  ·exact absurd e0 h.1
 obtain rfl:kV= .none:=by
  rcases hD.kw with h|h
  ·exact h.2
  ·exact absurd rfl h.1
 have X:=Qk w aj mg mb hg hb nl hB y;have hG:∀h,(Iv RW.toRowW.prog w (Dk 161) (Dk.ok 161) aj mg mb hg hb nl).G h->∀b o,aj.get? b=some o->h.get? b=some o:=fun h G=>G
 generalize Iv RW.toRowW.prog w (Dk 161) (Dk.ok 161) aj mg mb hg hb nl=P at X hG ⊢;obtain⟨F1,c1,s1⟩:=X.UY;obtain⟨F2,c2,s2⟩:=X.KR;obtain⟨F3,c3,s3⟩:=X.Rd Up;obtain⟨F4,c4,s4⟩:=X.Re;obtain⟨F5,c5,s5⟩:=X.Fq;obtain⟨F6,c6,s6⟩:=X.KS;obtain⟨F7,c7,s7⟩:=X.Nk;obtain⟨F8,c8,s8⟩:=X.Ec;obtain⟨F9,c9,s9⟩:=X.zN;obtain⟨RQ,UU,Eh⟩:=X.UZ;obtain⟨RR,UV,G6⟩:=X.G5;obtain⟨RS,UW,CH⟩:=X.tj;have W:=mj X.ob X.top;have hH:∀ns:List Int,ns.length<=63->UT ns F1 F2 F3 F4 F5 F6 F7 F8 F9 RQ RR RS:=fun ns zP=>by
  obtain⟨its,hg,ux⟩:=s1 ns zP;obtain⟨SP,hSP,Ry⟩:=s3 (mX ns);have Yt:=s2 _ _ _ _ (KQ (M:=Up) hg (fun e he=>hSP e.2.1 e.2.2 (hg.ok e he).2.1 (hg.ok e he).2.2.1) (On P.w.params));have VO:=fun(w:Nat) (hw:w<3)=>Kf (total:=mX ns) hg (On P.w.params) hw
  generalize vK (mX ns) (Mp P.w.params) its=bg at*;have hl:=(VO 0 (by decide)).1;have YV:=(VO 0 (by decide)).2.1;obtain⟨en1,en2,en3⟩:=Eg bg hl;have hT:=fun(w:Nat) (hw:w<3)=>Rb (VO w hw).2.2
  have hN:=fun(w:Nat) (hw:w<3)=>(iT hw (mX ns)).1
  exact⟨_,_,_,_,fun w=>.str (aH w (mX ns)),fun w=>sS (.str (DP (Kd (aH w (mX ns)) bg).2 (aH w (mX ns)))) (Kd (aH w (mX ns)) bg).2,fun w=>(Kd (aH w (mX ns)) bg).2,
   ux,Ry its hg,Yt,s4 bg (az hl (by decide)),s5 _,fun w hw=>(s6 bg _ _ hl en1 en2 en3 (hN w hw).len).trans (by rw[BH YV (hN w hw).ne,<-Ra (hN w hw)]),fun w hw=>(s7 its w hg).trans (congrArg some (hT w hw).1),
   fun w hw=>rfl,fun w hw=>(hT w hw).2.iP,fun w t hw h0 h8=>CH _ _ t (hT w hw).2 h0 (az h8 (by decide)),fun a b ha hb=>s8 _ _ _ _ (hT a ha).2 (hT b hb).2,fun a b ha hb=>s9 _ _ _ _,fun a b ha hb=>Eh _ _ _ _ (hT a ha).2 (hT b hb).2,fun a b ha hb=>G6 _ _ _ _ (hT a ha).2 (hT b hb).2⟩
 have U1:∀ns:List Int,ns.length<=63->(B2 (P:=P) (n:=3) W X.vD X.rY X.rZ (c1.pS 2) X.mt X.mw (c2.pS 1) X.pG X.pI (c3.pS 1) X.pH X.pJ c4 X.jV X.jW (c5.pS 2) X.aX X.fe X.iD X.vF X.mu X.mx c6 X.n6 X.n7 (c7.pS 2) (zu _) X.vI zv (c8.pS 1) (vG _) X.qz vH (c9.pS 2) (fE _) X.dm fG (UU.pS 1) (ff _) X.cY fg (UV.pS 1) (dC _) X.aL dD (UW.pS 2)).1 (mY [.list (ns.map .int)])=some (.bool true):=fun ns zP=>Ni (hH ns zP) zP rfl
 have hB:Mm P 3 B1 (dW (aO pq.main.body 69)) (B2 (P:=P) (n:=3) W X.vD X.rY X.rZ (c1.pS 2) X.mt X.mw (c2.pS 1) X.pG X.pI (c3.pS 1) X.pH X.pJ c4 X.jV X.jW (c5.pS 2) X.aX X.fe X.iD X.vF X.mu X.mx c6 X.n6 X.n7 (c7.pS 2) (zu _) X.vI zv (c8.pS 1) (vG _) X.qz vH (c9.pS 2) (fE _) X.dm fG (UU.pS 1) (ff _) X.cY fg (UV.pS 1) (dC _) X.aL dD (UW.pS 2)).1:=xZ _;generalize(B2 (P:=P) (n:=3) W X.vD X.rY X.rZ (c1.pS 2) X.mt X.mw (c2.pS 1) X.pG X.pI (c3.pS 1) X.pH X.pJ c4 X.jV X.jW (c5.pS 2) X.aX X.fe X.iD X.vF X.mu X.mx c6 X.n6 X.n7 (c7.pS 2) (zu _) X.vI zv (c8.pS 1) (vG _) X.qz vH (c9.pS 2) (fE _) X.dm fG (UU.pS 1) (ff _) X.cY fg (UV.pS 1) (dC _) X.aL dD (UW.pS 2)).1=f at U1 hB;refine⟨4,fun xs=>if xs.length=1 then f (mY xs)else none,aZ.fnT (n:=3) (K:=B1) (ps:=[U6]) (body:=dW (aO pq.main.body 69)) (fun h G=>⟨⟨o,hG h G _ _ ho,hd⟩,?_⟩) rfl rfl rfl rfl (fun vs h=>by
  obtain⟨v,rfl⟩:=List.length_eq_one_iff.mp h;rfl) (uf.of (by
  show LB B1 (ki (aO pq.main.body 69)) _=true
  decide+kernel)) (by decide+kernel) (by
  show(ki (aO pq.main.body 69)).isCoroutine=false
  kernel_rfl) (by
  show(ki (aO pq.main.body 69)).isGenerator=false
  kernel_rfl) (by assumption),U0,fun ns zP=>?_⟩
 ·exact hc.keeps (hG h G)
 ·show(if 1=1 then f (mY [.list (ns.map .int)])else none)=_
  rw[aw rfl,U1 ns zP]
theorem all_holds:PySem.Challenge.rw_sl0032_02.Holds:=top_holds prom (L7 (Dk 161) (Dk.ok 161) KT)
end
end Mine
theorem PySem.Challenge.cw_sl0032_02_holds : PySem.Challenge.rw_sl0032_02.Holds :=
  Mine.all_holds
